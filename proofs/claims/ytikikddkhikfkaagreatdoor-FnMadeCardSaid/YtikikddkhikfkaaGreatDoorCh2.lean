/-
  A slice of the package's validators in memory, and the world that the library's sort leaves. By the session.
-/
import Derived.Test.YtikikddkhikfkaaGreatDoorCh1
import Derived.Shelf.GgSortMore.SortSort
import Derived.Shelf.GgSortFunc.Whole
import Derived.Lib.SortBridge
set_option linter.all false
namespace Go.Proofs.YtikikddkhikfkaaGreatDoor
open Go.RowKit

/-- a slice of pointers to validators, all made at or behind block lo -/
structure VRow (w : World) (lo : Nat) (A : Option Addr) (c : Nat) (bs : List Nat) (ts : List Tv) : Prop where
  row : w.ownsRow lo 126 1 (.slice A bs.length c) bs.length (bs.map ptrTo)
  len : ts.length = bs.length
  nodup : bs.Nodup
  vals : ∀ (j b : Nat) (t : Tv), bs[j]? = some b → ts[j]? = some t → lo ≤ b ∧ Blk w b 136 t.val ∧ t.ok w
theorem VSet.vrow {w : World} {lo g : Nat} {A : Option Addr} {c : Nat} {bs : List Nat} {ts : List Tv} {prop : Value} {tot : Int} {same : Bool} (h : VSet w lo g A c bs ts prop tot same) : VRow w lo A c bs ts := ⟨h.row, h.len, h.nodup, h.vals⟩
theorem VRow.keep {w w' : World} {lo : Nat} {A : Option Addr} {c : Nat} {bs : List Nat} {ts : List Tv} (h : VRow w lo A c bs ts) (k : KeepV lo w w') : VRow w' lo A c bs ts := by
  refine ⟨?_, h.len, h.nodup, fun j b t hb ht => ?_⟩
  · refine ⟨h.row.1, ?_⟩
    rcases h.row.2 with h2 | ⟨g', cap, cur, hv, hg, hh, r⟩
    · exact Or.inl h2
    · exact Or.inr ⟨g', cap, cur, hv, hg, (k.2 g' hg (lt_of_heap hh)).trans hh, r⟩
  · obtain ⟨h1, h2, h3⟩ := h.vals j b t hb ht
    exact ⟨h1, (k.2 b h1 h2.lt).trans h2, h3.keep k.1⟩
theorem VRow.ptr {w : World} {lo : Nat} {A : Option Addr} {c : Nat} {bs : List Nat} {ts : List Tv} (h : VRow w lo A c bs ts) {j b : Nat} (hb : bs[j]? = some b) :
    ∃ r, A = some ⟨r, 0, none⟩ ∧ r < w.heap.size ∧ w.cell? ⟨r, j, none⟩ = some (.pointer (some ⟨b, 0, none⟩)) := by
  have hj := (List.getElem?_eq_some_iff.1 hb).1
  obtain ⟨r, cap, hv, _, hlt⟩ := h.row.form (by omega)
  have hA : A = some ⟨r, 0, none⟩ := by injection hv
  subst hA
  have := h.row.cells (g := r) rfl j (ptrTo b) (by rw [List.getElem?_map, hb]; rfl)
  rw [add_flat, Nat.zero_add] at this
  exact ⟨r, rfl, hlt, this⟩
theorem VRow.at_ {w : World} {lo : Nat} {A : Option Addr} {c : Nat} {bs : List Nat} {ts : List Tv} (h : VRow w lo A c bs ts) {j : Nat} (hj : j < bs.length) :
    ∃ b t, bs[j]? = some b ∧ ts[j]? = some t := ⟨_, _, List.getElem?_eq_getElem hj, List.getElem?_eq_getElem (by rw [h.len]; exact hj)⟩
/-- the row's cells stored anew -/
theorem own_setCells {base e : Nat} {g n c : Nat} : ∀ (vs : List Value) (o : Nat) (w : World) (xs : List Value), w.ownsRow base e 1 (.slice (some ⟨g, 0, none⟩) n c) n xs → o + vs.length ≤ xs.length →
    (w.setCells g o vs).ownsRow base e 1 (.slice (some ⟨g, 0, none⟩) n c) n (xs.take o ++ vs ++ xs.drop (o + vs.length)) ∧ w.grownBy (w.setCells g o vs) (some g)
  | [], o, w, xs => fun h _ => ⟨by simpa [World.setCells] using h, World.grownBy.refl w _⟩
  | v :: r, o, w, xs => fun h hl => by
    have h1 := h.stored o v
    simp only [List.length_cons] at hl
    have h2 := own_setCells r (o + 1) (w.setCell ⟨g, o, none⟩ v) (xs.set o v) h1.1 (by rw [List.length_set]; omega)
    refine ⟨?_, h1.2.trans h2.2⟩
    have e : (xs.set o v).take (o + 1) ++ r ++ (xs.set o v).drop (o + 1 + r.length) = xs.take o ++ (v :: r) ++ xs.drop (o + (v :: r).length) := by
      have ho : o < (xs.set o v).length := by rw [List.length_set]; omega
      rw [List.take_succ_eq_append_getElem ho, List.take_set_of_le (Nat.le_refl _), List.getElem_set_self, List.drop_set_of_lt (by omega)]
      simp [Nat.add_assoc, Nat.add_comm 1]
    rw [e] at h2
    exact h2.1
theorem grownBy_wide {w w' : World} {row : Option Nat} (h : w.grownBy w' none) : w.grownBy w' row := by
  obtain ⟨a, b, c, d, e⟩ := h
  exact ⟨a, b, c, d, fun i hi _ => e i hi (by simp)⟩
/-- the world that the sort leaves, in the words of rows: the row permuted, all else as it was -/
theorem VRow.sorted {w : World} {lo g c : Nat} {bs : List Nat} {ts : List Tv} (h : VRow w lo (some ⟨g, 0, none⟩) c bs ts) (bs' : List Nat) (ts' : List Tv) (hp : (bs'.zip ts').Perm (bs.zip ts)) (hl : bs'.length = bs.length) (hl' : ts'.length = bs.length) (q : Nat) (os : Array Obj) :
    VRow (Go.Sort.grow ((w.drewN q).setCells g 0 (bs'.map ptrTo)) os) lo (some ⟨g, 0, none⟩) c bs' ts' ∧ w.grownBy (Go.Sort.grow ((w.drewN q).setCells g 0 (bs'.map ptrTo)) os) (some g) := by
  have h0 := own_setCells (bs'.map ptrTo) 0 (w.drewN q) (bs.map ptrTo) (own_drewN h.row q) (by simp [hl])
  simp only [List.take_zero, List.nil_append, Nat.zero_add, List.length_map, hl] at h0
  rw [List.drop_of_length_le (by simp), List.append_nil] at h0
  have hg1 : w.grownBy ((w.drewN q).setCells g 0 (bs'.map ptrTo)) (some g) := by
    obtain ⟨a, b, c', d, e⟩ := h0.2
    exact ⟨a, b, c', d, e⟩
  have hg2 : ((w.drewN q).setCells g 0 (bs'.map ptrTo)).grownBy (Go.Sort.grow ((w.drewN q).setCells g 0 (bs'.map ptrTo)) os) none :=
    ⟨rfl, rfl, rfl, by simp, fun i hi _ => Go.Sort.heap_grow_old _ _ hi⟩
  have hg : w.grownBy (Go.Sort.grow ((w.drewN q).setCells g 0 (bs'.map ptrTo)) os) (some g) := hg1.trans (grownBy_wide hg2)
  refine ⟨⟨?_, ?_, ?_, ?_⟩, hg⟩
  · rw [hl]; exact h0.1.kept hg2 (.inr (by simp [Value.ownBlock]))
  · omega
  · have h1 : bs'.Perm bs := by
      have := hp.map Prod.fst
      rwa [List.map_fst_zip (by omega), List.map_fst_zip (by have := h.len; omega)] at this
    exact h1.nodup_iff.2 h.nodup
  · intro j b t hb ht
    have hm : (b, t) ∈ bs'.zip ts' := List.mem_of_getElem? (i := j) (by rw [List.getElem?_zip_eq_some]; exact ⟨hb, ht⟩)
    have hm2 := hp.mem_iff.1 hm
    obtain ⟨j', hj'⟩ := List.getElem?_of_mem hm2
    rw [List.getElem?_zip_eq_some] at hj'
    obtain ⟨h1, h2, h3⟩ := h.vals j' b t hj'.1 hj'.2
    have hne : some b ≠ some g := fun e => own_ne_blk h.row h2 (by decide) (by rw [e]; rfl)
    exact ⟨h1, h2.grown hg hne, h3.keep (KeepB.of_grown hg (fun g' cs m e hh => by
      cases e
      rcases h.row.2 with ⟨e, _⟩ | ⟨g', cap, cur, hv, _, hh', _⟩
      · cases e
      · injection hv with hv; injection hv with hv; injection hv with hv
        subst hv
        rw [hh] at hh'
        injection hh' with hh'; injection hh' with _ ht
        exact absurd ht (by decide)))⟩
end Go.Proofs.YtikikddkhikfkaaGreatDoor
