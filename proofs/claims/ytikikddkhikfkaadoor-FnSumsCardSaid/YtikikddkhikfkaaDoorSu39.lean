/-
  impl.Told: the walk; keys of a law's set. By the session. For every slice of seats, while the package's table of round constants reads as its initialiser lays it: FnTold answers true, and the slice reads behind the call as it did before: a set's power is that of all, its proposer the one that is ahead, its sum that of keys and powers.
-/
import Derived.Test.YtikikddkhikfkaaDoorSu26
import Derived.Test.YtikikddkhikfkaaDoorSu37
import Derived.Test.YtikikddkhikfkaaDoorSu38
import Derived.Test.YtikikddkhikfkaaDoorSu23
set_option linter.all false
namespace Go.Proofs.YtikikddkhikfkaaDoor
open Go.RowKit

theorem theSet_keys (l : List Sd) (h : fitsB l = true) : ∀ x ∈ theSet l, x.key.size ≤ 2147483647 := by
  have h0 : ∀ s ∈ l, s.key.size ≤ 2147483647 := by
    simp only [fitsB, Bool.and_eq_true, List.all_eq_true] at h
    intro s hs
    have h1 := h.2 s hs
    simp only [fit2, Bool.and_eq_true, Bool.not_eq_true', decide_eq_false_iff_not, Nat.not_lt] at h1
    omega
  have key : ∀ (l acc : List Sd), (∀ s ∈ l, s.key.size ≤ 2147483647) → (∀ s ∈ acc, s.key.size ≤ 2147483647) → ∀ x ∈ l.foldl setAcc acc, x.key.size ≤ 2147483647 := by
    intro l
    induction l with
    | nil => intro acc _ h; exact h
    | cons s r ih =>
      intro acc h1 h2
      refine ih _ (fun x hx => h1 x (List.mem_cons_of_mem _ hx)) fun x hx => ?_
      unfold setAcc at hx
      split at hx
      · exact h2 x hx
      · rcases List.mem_append.1 hx with hx | hx
        · exact h2 x hx
        · obtain rfl := List.mem_singleton.1 hx
          exact h1 s (List.mem_cons_self ..)
  intro x hx
  exact key _ [] (fun s hs => h0 s (List.mem_of_mem_take hs)) (by simp) x ((rankedL_perm _).mem_iff.1 hx)
/-- the proposer's address -/
def headP (l : List Sd) : ByteArray :=
  match propOf l with
  | none => .empty
  | some q => q.1.adr
theorem headP_nil : headP [] = .empty := rfl
set_option maxRecDepth 100000 in
set_option maxHeartbeats 800000 in
theorem getProp_nil (g c : Nat) (A : Option Addr) (w : World) (h0 : w.cell? ⟨g, 0, none⟩ = some (.slice A 0 c)) :
    Calls Tryd.prog 80 #[.pointer (some ⟨g, 0, none⟩)] w fun e w' => e = .returned (.pointer none) ∧ w' = w := by
  go_enter Tryd.func80, Tryd.ntmps80
  go_wp2_with fail
  go_ret
  exact ⟨rfl, rfl⟩
set_option maxRecDepth 100000 in
set_option maxHeartbeats 800000 in
theorem first_nil (g c : Nat) (A : Option Addr) (w : World) (h0 : w.cell? ⟨g, 0, none⟩ = some (.slice A 0 c)) :
    Calls Tryd.prog 48 #[.pointer (some ⟨g, 0, none⟩)] w fun e w' => e = .returned (.string .empty) ∧ Below w.heap.size w w' := by
  have KC := Lib.hid (getProp_nil g c A w h0)
  clear h0
  go_enter Tryd.func48, Tryd.ntmps48
  go_wp2_with fail
  refine KC.out.mono ?_
  rintro e w1 ⟨rfl, rfl⟩
  go_wp2_with fail
  go_ret
  exact ⟨rfl, Below.refl _ _⟩
theorem firstV_any (lo g : Nat) (A : Option Addr) (c : Nat) (bs : List Nat) (ts : List Tv) (tot : Int) (same : Bool) (w : World) (h : VSet w lo g A c bs ts (pval bs (propOf (ts.map Tv.x))) tot same) :
    Calls Tryd.prog 48 #[ptrTo g] w fun e w' => e = .returned (.string (headP (ts.map Tv.x))) ∧ Below w.heap.size w w' := by
  by_cases h0 : bs.length = 0
  · have hts : ts = [] := List.eq_nil_of_length_eq_zero (by have := h.len; omega)
    have hc : w.cell? ⟨g, 0, none⟩ = some (.slice A 0 c) := by have h1 : w.cell? ⟨g, 0, none⟩ = some (.slice A bs.length c) := h.head.cell 0; rw [h0] at h1; exact h1
    rw [hts]
    exact first_nil g c A w hc
  · obtain ⟨q, hq, hqa⟩ := propOf_at (ts.map Tv.x) (by intro e; have h1 := congrArg List.length e; have h2 := h.len; rw [List.length_map, List.length_nil] at h1; omega)
    have hq2 : q.2 < bs.length := by have h1 := (List.getElem?_eq_some_iff.1 hqa).1; have h2 := h.len; rw [List.length_map] at h1; omega
    obtain ⟨b, t, hb, ht⟩ := h.at_ hq2
    obtain ⟨_, hbv, hok⟩ := h.vals q.2 b t hb ht
    have hpv : pval bs (propOf (ts.map Tv.x)) = ptrTo b := by
      rw [hq]; show ptrTo (bs.getD q.2 0) = _; rw [List.getD_eq_getElem?_getD, hb]; rfl
    rw [hpv] at h
    have hx : t.x = q.1 := by rw [List.getElem?_map, ht] at hqa; exact Option.some.inj hqa
    have hh : headP (ts.map Tv.x) = t.x.adr := by unfold headP; rw [hq, hx]
    rw [hh]
    exact first_any lo g A c bs ts b t tot same w h (by omega) hbv hok
end Go.Proofs.YtikikddkhikfkaaDoor

set_option linter.all false
namespace Go.Proofs.YtikikddkhikfkaaDoor
open Go.ChangeShapes Go.WideShapes Go.ChangeAt Go.RowKit

/-- a row of bytes as a string -/
theorem rd_backT {w : World} {B m c : Nat} {A : Option Addr} {l : List UInt8} (h : Rd w B 1 A m (bc l)) (hl : 0 < l.length) : (convert 22 9 (.slice A m c)).run Tryd.prog w = .ok (.string ⟨l.toArray⟩) w := by
  have hm := h.len1
  have hx : l[0]? = some l[0] := List.getElem?_eq_getElem hl
  obtain ⟨ad, rfl, _, _⟩ := h.2 0 _ (bc_get hx)
  rw [hm]
  refine run_convert_bytes_back w _ _ 5 ad c l Tryd.underlying22 Tryd.underlying5 Tryd.underlying9 fun j hj => ?_
  obtain ⟨ad', e, _, hc⟩ := h.2 j _ (bc_get (List.getElem?_eq_getElem hj))
  cases e
  exact hc
theorem distinct_of_apart {l : List Sd} (h : l.Pairwise apartS) : distinct l := by
  intro i j x y hx hy hij he
  have hi := List.getElem?_eq_some_iff.1 hx
  have hj := List.getElem?_eq_some_iff.1 hy
  rw [List.pairwise_iff_getElem] at h
  have key : ∀ (a b : Sd), apartS a b → a.adr.toList ≠ b.adr.toList := fun a b hab e => by
    unfold apartS sameB at hab
    rw [e] at hab
    simp at hab
  rcases Nat.lt_or_gt_of_ne hij with hlt | hlt
  · have := h i j hi.1 hj.1 hlt
    rw [hi.2, hj.2] at this
    exact key _ _ this he
  · have := h j i hj.1 hi.1 hlt
    rw [hi.2, hj.2] at this
    exact key _ _ this he.symm
end Go.Proofs.YtikikddkhikfkaaDoor
