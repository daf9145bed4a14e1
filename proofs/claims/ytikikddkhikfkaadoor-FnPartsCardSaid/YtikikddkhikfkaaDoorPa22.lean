/-
  laws.whole: a block's name that is whole. By the session.
-/
import Derived.Test.YtikikddkhikfkaaDoorPa19
import Derived.Test.YtikikddkhikfkaaDoorPa6
import Derived.Test.YtikikddkhikfkaaDoorPa20
import Derived.Test.YtikikddkhikfkaaDoorPa21
set_option linter.all false
namespace Go.Proofs.YtikikddkhikfkaaDoor
open Go.RowKit

/-- a goal kept from being evaluated -/
structure Shut (p : Prop) : Prop where
  out : p
/-- every block but g is as it was -/
def Other (g : Nat) (w w' : World) : Prop := w.heap.size ≤ w'.heap.size ∧ ∀ k, k < w.heap.size → k ≠ g → w'.heap[k]? = w.heap[k]?
theorem Other.of_below {g : Nat} {w w' : World} (h : Below w.heap.size w w') : Other g w w' := ⟨h.size, fun k hk _ => h.block k hk⟩
theorem Other.set {g : Nat} {w w' : World} (h : Other g w w') (o : Nat) (u : Value) : Other g w (w'.setCell ⟨g, o, none⟩ u) :=
  ⟨by simpa using h.1, fun k hk hn => (Below.heap_setCell w' ⟨g, o, none⟩ u k hn).trans (h.2 k hk hn)⟩
theorem own_other {g : Nat} {w w' : World} {e size : Nat} {v : Value} {n : Nat} {xs : List Value} (h : w.ownsRow (g + 1) e size v n xs) (ho : Other g w w') : w'.ownsRow (g + 1) e size v n xs := by
  refine ⟨h.1, ?_⟩
  rcases h.2 with h2 | ⟨g', cap, cur, rfl, hg, hh, r⟩
  · exact Or.inl h2
  · have hlt : g' < w.heap.size := (Array.getElem?_eq_some_iff.1 hh).1
    exact Or.inr ⟨g', cap, cur, rfl, hg, (ho.2 g' hlt (by omega)).trans hh, r⟩
/-- a row of 32 bytes behind g -/
def sumRow (g : Nat) (l : List UInt8) (v : Value) (w : World) : Prop := ∃ A c, v = .slice A 32 c ∧ Own8 w (g + 1) A 32 c (shaL l)
def wholeF (g : Nat) (P : Int) (ls lr : List UInt8) (fs : List Fact) (i : Nat) (v : Value) (w : World) : Prop :=
  if i = 2 then sumRow g ls v w
  else if i = 14 then sumRow g lr v w
  else if i = 15 then ∃ v1 v2, v = .agg #[v1, .int .i64 P, v2] ∧ sumRow g ls v1 w ∧ sumRow g lr v2 w
  else match fs.getD i .any with
    | .is u => v = u
    | _ => True
theorem sumRow_other {g : Nat} {l : List UInt8} {v : Value} {w w' : World} (h : sumRow g l v w) (ho : Other g w w') : sumRow g l v w' := by
  obtain ⟨A, c, rfl, h1⟩ := h
  exact ⟨A, c, rfl, own_other h1 ho⟩
theorem wholeF_other (g : Nat) (P : Int) (ls lr : List UInt8) (fs : List Fact) : ∀ i v w w', wholeF g P ls lr fs i v w → Other g w w' → wholeF g P ls lr fs i v w' := by
  intro i v w w' h ho
  unfold wholeF at h ⊢
  split
  · rename_i h2; rw [if_pos h2] at h; exact sumRow_other h ho
  · rename_i h2; rw [if_neg h2] at h
    split
    · rename_i h3; rw [if_pos h3] at h; exact sumRow_other h ho
    · rename_i h3; rw [if_neg h3] at h
      split
      · rename_i h4; rw [if_pos h4] at h
        obtain ⟨v1, v2, e, a, b⟩ := h
        exact ⟨v1, v2, e, sumRow_other a ho, sumRow_other b ho⟩
      · rename_i h4; rw [if_neg h4] at h; exact h
theorem wholeF_15 {g : Nat} {P : Int} {ls lr : List UInt8} {fs : List Fact} {v1 v2 : Value} {w : World} (h1 : sumRow g ls v1 w) (h2 : sumRow g lr v2 w) : wholeF g P ls lr fs 15 (.agg #[v1, .int .i64 P, v2]) w := by
  unfold wholeF
  rw [if_neg (by decide), if_neg (by decide), if_pos rfl]
  exact ⟨v1, v2, rfl, h1, h2⟩
theorem wholeF_15' {g : Nat} {P : Int} {ls lr : List UInt8} {fs : List Fact} {v : Value} {w : World} (h : wholeF g P ls lr fs 15 v w) : ∃ v1 v2, v = .agg #[v1, .int .i64 P, v2] ∧ sumRow g ls v1 w ∧ sumRow g lr v2 w := by
  unfold wholeF at h
  rw [if_neg (by decide), if_neg (by decide), if_pos rfl] at h
  exact h
theorem wholeF_16 {g : Nat} {P : Int} {ls lr : List UInt8} {fs : List Fact} {v : Value} {w : World} (h : wholeF g P ls lr fs 15 v w) : ∃ A1 c1 A2 c2, v = .agg #[.slice A1 32 c1, .int .i64 P, .slice A2 32 c2] ∧ Own8 w (g + 1) A1 32 c1 (shaL ls) ∧ Own8 w (g + 1) A2 32 c2 (shaL lr) := by
  obtain ⟨_, _, rfl, ⟨A1, c1, rfl, h1⟩, ⟨A2, c2, rfl, h2⟩⟩ := wholeF_15' h
  exact ⟨A1, c1, A2, c2, rfl, h1, h2⟩
/-- what the region keeps: the name in block g0, the answer's block -/
structure WholeS (w0 : World) (P : Int) (ls lr : List UInt8) (cs : Array Value) (done : Bool) (w : World) : Prop where
  arg : Blk w w0.heap.size 24 cs
  below : Below w0.heap.size w0 w
  out : if done then ∃ v1 v2, Blk w (w0.heap.size + 1) 24 #[v1, .int .i64 P, v2] ∧ sumRow (w0.heap.size + 1) ls v1 w ∧ sumRow (w0.heap.size + 1) lr v2 w
    else Blk w (w0.heap.size + 1) 24 #[.slice none 0 0, .int .i64 0, .slice none 0 0]
theorem WholeS.lt {w0 : World} {P : Int} {ls lr : List UInt8} {cs : Array Value} {d : Bool} {w : World} (h : WholeS w0 P ls lr cs d w) : w0.heap.size + 1 < w.heap.size := by
  have := h.out
  cases d with
  | true => obtain ⟨v1, v2, h1, _⟩ := this; exact h1.lt
  | false => exact Blk.lt (by simpa using this)
theorem WholeS.call {w0 : World} {P : Int} {ls lr : List UInt8} {cs : Array Value} {d : Bool} {w w' : World} (h : WholeS w0 P ls lr cs d w) (hb : Below w.heap.size w w') : WholeS w0 P ls lr cs d w' := by
  have hlt := h.lt
  refine ⟨h.arg.belowS hb, h.below.trans (hb.mono (by omega)), ?_⟩
  have := h.out
  cases d with
  | true =>
    obtain ⟨v1, v2, h1, h2, h3⟩ := this
    exact ⟨v1, v2, h1.belowS hb, sumRow_other h2 (Other.of_below hb), sumRow_other h3 (Other.of_below hb)⟩
  | false => exact Blk.belowS (by simpa using this) hb
theorem Other.refl (g : Nat) (w : World) : Other g w w := ⟨Nat.le_refl _, fun _ _ _ => rfl⟩
theorem WholeS.stored {w0 : World} {P : Int} {ls lr : List UInt8} {cs : Array Value} {d : Bool} {w : World} {v1 v2 : Value} (h : WholeS w0 P ls lr cs d w) (hK : 16 = 16 → d = false) (hblk : Blk w (w0.heap.size + 1) 24 #[.slice none 0 0, .int .i64 0, .slice none 0 0])
    (r1 : sumRow (w0.heap.size + 1) ls v1 w) (r2 : sumRow (w0.heap.size + 1) lr v2 w) : WholeS w0 P ls lr cs true (((w.setCell ⟨w0.heap.size + 1, 0, none⟩ v1).setCell ⟨w0.heap.size + 1, 1, none⟩ (.int .i64 P)).setCell ⟨w0.heap.size + 1, 2, none⟩ v2) := by
  have ho : Other (w0.heap.size + 1) w (((w.setCell ⟨w0.heap.size + 1, 0, none⟩ v1).setCell ⟨w0.heap.size + 1, 1, none⟩ (.int .i64 P)).setCell ⟨w0.heap.size + 1, 2, none⟩ v2) := (((Other.refl _ _).set 0 _).set 1 _).set 2 _
  have h3 := ((hblk.put 0 v1).put 1 (.int .i64 P)).put 2 v2
  refine ⟨(ho.2 w0.heap.size (by have := h.lt; omega) (by omega)).trans h.arg, ((h.below.setCell (p := ⟨w0.heap.size + 1, 0, none⟩) (Nat.le_succ _) _).setCell (p := ⟨w0.heap.size + 1, 1, none⟩) (Nat.le_succ _) _).setCell (p := ⟨w0.heap.size + 1, 2, none⟩) (Nat.le_succ _) _, ?_⟩
  exact ⟨v1, v2, by simpa using h3, sumRow_other r1 ho, sumRow_other r2 ho⟩
theorem sumRow_of {w0 w w' : World} {l : List UInt8} {A : Option Addr} {m c : Nat} (hlt : w0.heap.size + 1 < w.heap.size) (h : Own8 w' w.heap.size A m c (shaL l)) : sumRow (w0.heap.size + 1) l (.slice A m c) w' := by
  have hm : m = 32 := h.len.trans (shaL_length l)
  subst hm
  exact ⟨A, c, rfl, h.more (by omega)⟩
theorem whole_parts {x : Int} (h : -9223372036854775808 ≤ x ∧ x ≤ 9223372036854775807) : wrap64 (1 + (mag x).tmod 100000) = 1 + mag x % 100000 := by
  have h0 : 0 ≤ mag x := by unfold mag; split <;> omega
  rw [Int.tmod_eq_emod_of_nonneg h0]
  unfold wrap64; omega

end Go.Proofs.YtikikddkhikfkaaDoor
