/-
  laws.whole: a block's name that is whole. By the session.
-/
import Derived.Test.YtikikddkhikfkaaSum
import Derived.Test.YtikikddkhikfkaaFactsF
import Derived.Test.YtikikddkhikfkaaSign
import Derived.Test.YtikikddkhikfkaaSet2
set_option linter.all false
namespace Go.Proofs.Ytikikddkhikfkaa
open Go.RowKit

/-- a goal kept from being evaluated -/
structure Shut (p : Prop) : Prop where
  out : p
/-- every block but g is as it was -/
def Other (g : Nat) (w w' : World) : Prop := w.heap.size ≤ w'.heap.size ∧ ∀ k, k < w.heap.size → k ≠ g → w'.heap[k]? = w.heap[k]?
theorem Other.of_below {g : Nat} {w w' : World} (h : Below w.heap.size w w') : Other g w w' := ⟨h.size, fun k hk _ => h.block k hk⟩
theorem Other.set {g : Nat} {w w' : World} (h : Other g w w') (o : Nat) (u : Value) : Other g w (w'.setCell ⟨g, o, none⟩ u) :=
  ⟨by simpa using h.1, fun k hk hn => (Below.heap_setCell w' ⟨g, o, none⟩ u k hn).trans (h.2 k hk hn)⟩
theorem own_other {g : Nat} {w w' : World} {e size : Nat} {v : Value} {n : Nat} {xs : List Value} (h : w.ownsRow (g + 1) e size v n xs) (ho : Other g w w') : w'.ownsRow (g + 1) e size v n xs := by
  refine ⟨h.1, ?_⟩
  rcases h.2 with h2 | ⟨g', cap, cur, rfl, hg, hh, r⟩
  · exact Or.inl h2
  · have hlt : g' < w.heap.size := (Array.getElem?_eq_some_iff.1 hh).1
    exact Or.inr ⟨g', cap, cur, rfl, hg, (ho.2 g' hlt (by omega)).trans hh, r⟩
/-- a row of 32 bytes behind g -/
def sumRow (g : Nat) (l : List UInt8) (v : Value) (w : World) : Prop := ∃ A c, v = .slice A 32 c ∧ Own8 w (g + 1) A 32 c (shaL l)
def wholeF (g : Nat) (P : Int) (ls lr : List UInt8) (fs : List Fact) (i : Nat) (v : Value) (w : World) : Prop :=
  if i = 2 then sumRow g ls v w
  else if i = 14 then sumRow g lr v w
  else if i = 15 then ∃ v1 v2, v = .agg #[v1, .int .i64 P, v2] ∧ sumRow g ls v1 w ∧ sumRow g lr v2 w
  else match fs.getD i .any with
    | .is u => v = u
    | _ => True
theorem sumRow_other {g : Nat} {l : List UInt8} {v : Value} {w w' : World} (h : sumRow g l v w) (ho : Other g w w') : sumRow g l v w' := by
  obtain ⟨A, c, rfl, h1⟩ := h
  exact ⟨A, c, rfl, own_other h1 ho⟩
theorem wholeF_other (g : Nat) (P : Int) (ls lr : List UInt8) (fs : List Fact) : ∀ i v w w', wholeF g P ls lr fs i v w → Other g w w' → wholeF g P ls lr fs i v w' := by
  intro i v w w' h ho
  unfold wholeF at h ⊢
  split
  · rename_i h2; rw [if_pos h2] at h; exact sumRow_other h ho
  · rename_i h2; rw [if_neg h2] at h
    split
    · rename_i h3; rw [if_pos h3] at h; exact sumRow_other h ho
    · rename_i h3; rw [if_neg h3] at h
      split
      · rename_i h4; rw [if_pos h4] at h
        obtain ⟨v1, v2, e, a, b⟩ := h
        exact ⟨v1, v2, e, sumRow_other a ho, sumRow_other b ho⟩
      · rename_i h4; rw [if_neg h4] at h; exact h
theorem wholeF_15 {g : Nat} {P : Int} {ls lr : List UInt8} {fs : List Fact} {v1 v2 : Value} {w : World} (h1 : sumRow g ls v1 w) (h2 : sumRow g lr v2 w) : wholeF g P ls lr fs 15 (.agg #[v1, .int .i64 P, v2]) w := by
  unfold wholeF
  rw [if_neg (by decide), if_neg (by decide), if_pos rfl]
  exact ⟨v1, v2, rfl, h1, h2⟩
theorem wholeF_15' {g : Nat} {P : Int} {ls lr : List UInt8} {fs : List Fact} {v : Value} {w : World} (h : wholeF g P ls lr fs 15 v w) : ∃ v1 v2, v = .agg #[v1, .int .i64 P, v2] ∧ sumRow g ls v1 w ∧ sumRow g lr v2 w := by
  unfold wholeF at h
  rw [if_neg (by decide), if_neg (by decide), if_pos rfl] at h
  exact h
theorem wholeF_16 {g : Nat} {P : Int} {ls lr : List UInt8} {fs : List Fact} {v : Value} {w : World} (h : wholeF g P ls lr fs 15 v w) : ∃ A1 c1 A2 c2, v = .agg #[.slice A1 32 c1, .int .i64 P, .slice A2 32 c2] ∧ Own8 w (g + 1) A1 32 c1 (shaL ls) ∧ Own8 w (g + 1) A2 32 c2 (shaL lr) := by
  obtain ⟨_, _, rfl, ⟨A1, c1, rfl, h1⟩, ⟨A2, c2, rfl, h2⟩⟩ := wholeF_15' h
  exact ⟨A1, c1, A2, c2, rfl, h1, h2⟩
/-- what the region keeps: the name in block g0, the answer's block -/
structure WholeS (w0 : World) (P : Int) (ls lr : List UInt8) (cs : Array Value) (done : Bool) (w : World) : Prop where
  arg : Blk w w0.heap.size 24 cs
  below : Below w0.heap.size w0 w
  out : if done then ∃ v1 v2, Blk w (w0.heap.size + 1) 24 #[v1, .int .i64 P, v2] ∧ sumRow (w0.heap.size + 1) ls v1 w ∧ sumRow (w0.heap.size + 1) lr v2 w
    else Blk w (w0.heap.size + 1) 24 #[.slice none 0 0, .int .i64 0, .slice none 0 0]
theorem WholeS.lt {w0 : World} {P : Int} {ls lr : List UInt8} {cs : Array Value} {d : Bool} {w : World} (h : WholeS w0 P ls lr cs d w) : w0.heap.size + 1 < w.heap.size := by
  have := h.out
  cases d with
  | true => obtain ⟨v1, v2, h1, _⟩ := this; exact h1.lt
  | false => exact Blk.lt (by simpa using this)
theorem WholeS.call {w0 : World} {P : Int} {ls lr : List UInt8} {cs : Array Value} {d : Bool} {w w' : World} (h : WholeS w0 P ls lr cs d w) (hb : Below w.heap.size w w') : WholeS w0 P ls lr cs d w' := by
  have hlt := h.lt
  refine ⟨h.arg.belowS hb, h.below.trans (hb.mono (by omega)), ?_⟩
  have := h.out
  cases d with
  | true =>
    obtain ⟨v1, v2, h1, h2, h3⟩ := this
    exact ⟨v1, v2, h1.belowS hb, sumRow_other h2 (Other.of_below hb), sumRow_other h3 (Other.of_below hb)⟩
  | false => exact Blk.belowS (by simpa using this) hb
theorem Other.refl (g : Nat) (w : World) : Other g w w := ⟨Nat.le_refl _, fun _ _ _ => rfl⟩
theorem WholeS.stored {w0 : World} {P : Int} {ls lr : List UInt8} {cs : Array Value} {d : Bool} {w : World} {v1 v2 : Value} (h : WholeS w0 P ls lr cs d w) (hK : 16 = 16 → d = false) (hblk : Blk w (w0.heap.size + 1) 24 #[.slice none 0 0, .int .i64 0, .slice none 0 0])
    (r1 : sumRow (w0.heap.size + 1) ls v1 w) (r2 : sumRow (w0.heap.size + 1) lr v2 w) : WholeS w0 P ls lr cs true (((w.setCell ⟨w0.heap.size + 1, 0, none⟩ v1).setCell ⟨w0.heap.size + 1, 1, none⟩ (.int .i64 P)).setCell ⟨w0.heap.size + 1, 2, none⟩ v2) := by
  have ho : Other (w0.heap.size + 1) w (((w.setCell ⟨w0.heap.size + 1, 0, none⟩ v1).setCell ⟨w0.heap.size + 1, 1, none⟩ (.int .i64 P)).setCell ⟨w0.heap.size + 1, 2, none⟩ v2) := (((Other.refl _ _).set 0 _).set 1 _).set 2 _
  have h3 := ((hblk.put 0 v1).put 1 (.int .i64 P)).put 2 v2
  refine ⟨(ho.2 w0.heap.size (by have := h.lt; omega) (by omega)).trans h.arg, ((h.below.setCell (p := ⟨w0.heap.size + 1, 0, none⟩) (Nat.le_succ _) _).setCell (p := ⟨w0.heap.size + 1, 1, none⟩) (Nat.le_succ _) _).setCell (p := ⟨w0.heap.size + 1, 2, none⟩) (Nat.le_succ _) _, ?_⟩
  exact ⟨v1, v2, by simpa using h3, sumRow_other r1 ho, sumRow_other r2 ho⟩
theorem sumRow_of {w0 w w' : World} {l : List UInt8} {A : Option Addr} {m c : Nat} (hlt : w0.heap.size + 1 < w.heap.size) (h : Own8 w' w.heap.size A m c (shaL l)) : sumRow (w0.heap.size + 1) l (.slice A m c) w' := by
  have hm : m = 32 := h.len.trans (shaL_length l)
  subst hm
  exact ⟨A, c, rfl, h.more (by omega)⟩
theorem whole_parts {x : Int} (h : -9223372036854775808 ≤ x ∧ x ≤ 9223372036854775807) : wrap64 (1 + (mag x).tmod 100000) = 1 + mag x % 100000 := by
  have h0 : 0 ≤ mag x := by unfold mag; split <;> omega
  rw [Int.tmod_eq_emod_of_nonneg h0]
  unfold wrap64; omega

set_option maxRecDepth 100000 in
set_option maxHeartbeats 3200000 in
theorem whole_any (b : Bk) (w : World) (hb : b.ok w w.heap.size) (h1 : b.sum.length ≤ 2147483647) (h2 : b.root.length ≤ 2147483647) (hp : -9223372036854775808 ≤ b.parts ∧ b.parts ≤ 9223372036854775807) :
    Calls Try.prog 8 #[.agg #[.slice b.S b.sum.length b.sc, .int .i64 b.parts, .slice b.R b.root.length b.rc]] w fun e w' => ∃ b' : Bk, e = .returned (.agg #[.slice b'.S b'.sum.length b'.sc, .int .i64 b'.parts, .slice b'.R b'.root.length b'.rc]) ∧ b'.sum.length = 32 ∧ b'.root.length = 32 ∧ b'.parts = 1 + mag b.parts % 100000 ∧ b'.ok w' w'.heap.size ∧ Below w.heap.size w w' := by
  have HB := Lib.hid hb; have HP := Lib.hid hp; clear hb hp
  go_enter Try.func8, Try.ntmps8
  go_wp2_with fail
  obtain ⟨PP, hPP⟩ : ∃ PP, PP = 1 + mag b.parts % 100000 := ⟨_, rfl⟩
  refine wp_region_factsF 16 (wholeF (w.heap.size + 1) (1 + mag b.parts % 100000) b.sum b.root [.is (.pointer (some ⟨w.heap.size, 0, none⟩)), .is (.slice b.S b.sum.length b.sc), .any, .is (.pointer (some ⟨w.heap.size, 1, none⟩)), .is (.int .i64 b.parts), .is (.pointer (some ⟨w.heap.size, 1, none⟩)), .is (.int .i64 b.parts), .is (.int .i64 (IntKind.i64.wrap (b.parts + 1))), .is (.int .i64 (IntKind.i64.wrap (-IntKind.i64.wrap (b.parts + 1)))), .is (.int .i64 (mag b.parts)), .is (.int .i64 ((mag b.parts).tmod 100000)), .is (.int .i64 (1 + mag b.parts % 100000)), .is (.pointer (some ⟨w.heap.size, 2, none⟩)), .is (.slice b.R b.root.length b.rc), .any, .any]) (Other (w.heap.size + 1)) (wholeF_other _ _ _ _ _) (WholeS w (1 + mag b.parts % 100000) b.sum b.root #[.slice b.S b.sum.length b.sc, .int .i64 b.parts, .slice b.R b.root.length b.rc]) (by kernel_rfl) (by kernel_rfl) ?_ ?_ ?_
  · exact ⟨((Blk.new w 24 #[.slice b.S b.sum.length b.sc, .int .i64 b.parts, .slice b.R b.root.length b.rc]).alloc _).drew, (((Below.refl _ _).alloc (Nat.le_refl _) _).alloc (by simp) _).drew, by
      have := Blk.new (w.alloc (.cells #[.slice b.S b.sum.length b.sc, .int .i64 b.parts, .slice b.R b.root.length b.rc] 24)) 24 #[.slice none 0 0, .int .i64 0, .slice none 0 0]
      simpa using this.drew⟩
  · intro i o
    match i with
    | 0 =>
      intro ho d vs w4 hS4 hK hD
      obtain rfl := Option.some.inj ho
      simp only [putL, Act.put, List.setIfInBounds_toArray, List.set_cons_zero, List.set_cons_succ, Nat.zero_add, Nat.reduceAdd]
      go_simp
      exact StepF.of _ rfl (rfl) (by simpa using hS4) (Other.of_below (Below.refl _ _))
    | 1 =>
      intro ho d vs w4 hS4 hK hD
      obtain rfl := Option.some.inj ho
      have d0 := hD 0 (by kernel_rfl) (by kernel_rfl)
      change vs 0 = _ at d0
      have q0 : w4.cell? ⟨w.heap.size, 0, none⟩ = some (.slice b.S b.sum.length b.sc) := hS4.arg.cell 0
      simp only [putL, Act.put, List.setIfInBounds_toArray, List.set_cons_zero, List.set_cons_succ, Nat.zero_add, Nat.reduceAdd]
      go_simp
      exact StepF.of _ rfl (rfl) (by simpa using hS4) (Other.of_below (Below.refl _ _))
    | 2 =>
      intro ho d vs w4 hS4 hK hD
      obtain rfl := Option.some.inj ho
      have d1 := hD 1 (by kernel_rfl) (by kernel_rfl)
      change vs 1 = _ at d1
      have KS := sum_any b.S b.sum.length b.sc b.sum w4 ((Rd.below HB.out.1 hS4.below).more hS4.below.size) (by omega)
      simp only [putL, Act.put, List.setIfInBounds_toArray, List.set_cons_zero, List.set_cons_succ, Nat.zero_add, Nat.reduceAdd]
      go_simp
      refine KS.mono ?_
      rintro e w5 ⟨A', m', c', rfl, ho', hb'⟩
      exact StepF.of _ rfl (sumRow_of hS4.lt ho') (by simpa using hS4.call hb') (Other.of_below hb')
    | 3 =>
      intro ho d vs w4 hS4 hK hD
      obtain rfl := Option.some.inj ho
      simp only [putL, Act.put, List.setIfInBounds_toArray, List.set_cons_zero, List.set_cons_succ, Nat.zero_add, Nat.reduceAdd]
      go_simp
      exact StepF.of _ rfl (rfl) (by simpa using hS4) (Other.of_below (Below.refl _ _))
    | 4 =>
      intro ho d vs w4 hS4 hK hD
      obtain rfl := Option.some.inj ho
      have d3 := hD 3 (by kernel_rfl) (by kernel_rfl)
      change vs 3 = _ at d3
      have q0 : w4.cell? ⟨w.heap.size, 1, none⟩ = some (.int .i64 b.parts) := hS4.arg.cell 1
      simp only [putL, Act.put, List.setIfInBounds_toArray, List.set_cons_zero, List.set_cons_succ, Nat.zero_add, Nat.reduceAdd]
      go_simp
      exact StepF.of _ rfl (rfl) (by simpa using hS4) (Other.of_below (Below.refl _ _))
    | 5 =>
      intro ho d vs w4 hS4 hK hD
      obtain rfl := Option.some.inj ho
      simp only [putL, Act.put, List.setIfInBounds_toArray, List.set_cons_zero, List.set_cons_succ, Nat.zero_add, Nat.reduceAdd]
      go_simp
      exact StepF.of _ rfl (rfl) (by simpa using hS4) (Other.of_below (Below.refl _ _))
    | 6 =>
      intro ho d vs w4 hS4 hK hD
      obtain rfl := Option.some.inj ho
      have d5 := hD 5 (by kernel_rfl) (by kernel_rfl)
      change vs 5 = _ at d5
      have q0 : w4.cell? ⟨w.heap.size, 1, none⟩ = some (.int .i64 b.parts) := hS4.arg.cell 1
      simp only [putL, Act.put, List.setIfInBounds_toArray, List.set_cons_zero, List.set_cons_succ, Nat.zero_add, Nat.reduceAdd]
      go_simp
      exact StepF.of _ rfl (rfl) (by simpa using hS4) (Other.of_below (Below.refl _ _))
    | 7 =>
      intro ho d vs w4 hS4 hK hD
      obtain rfl := Option.some.inj ho
      have d6 := hD 6 (by kernel_rfl) (by kernel_rfl)
      change vs 6 = _ at d6
      simp only [putL, Act.put, List.setIfInBounds_toArray, List.set_cons_zero, List.set_cons_succ, Nat.zero_add, Nat.reduceAdd]
      go_simp
      exact StepF.of _ rfl (rfl) (by simpa using hS4) (Other.of_below (Below.refl _ _))
    | 8 =>
      intro ho d vs w4 hS4 hK hD
      obtain rfl := Option.some.inj ho
      have d7 := hD 7 (by kernel_rfl) (by kernel_rfl)
      change vs 7 = _ at d7
      simp only [putL, Act.put, List.setIfInBounds_toArray, List.set_cons_zero, List.set_cons_succ, Nat.zero_add, Nat.reduceAdd]
      go_simp
      exact StepF.of _ rfl (rfl) (by simpa using hS4) (Other.of_below (Below.refl _ _))
    | 9 =>
      intro ho d vs w4 hS4 hK hD
      obtain rfl := Option.some.inj ho
      have d4 := hD 4 (by kernel_rfl) (by kernel_rfl)
      change vs 4 = _ at d4
      have d8 := hD 8 (by kernel_rfl) (by kernel_rfl)
      change vs 8 = _ at d8
      simp only [putL, Act.put, List.setIfInBounds_toArray, List.set_cons_zero, List.set_cons_succ, Nat.zero_add, Nat.reduceAdd]
      go_simp
      exact StepF.of _ rfl (congrArg (Value.int .i64) (by unfold mag; simp only [IntKind.wrap_i64]; have := HP.out; split <;> omega)) (by simpa using hS4) (Other.of_below (Below.refl _ _))
    | 10 =>
      intro ho d vs w4 hS4 hK hD
      obtain rfl := Option.some.inj ho
      have d9 := hD 9 (by kernel_rfl) (by kernel_rfl)
      change vs 9 = _ at d9
      simp only [putL, Act.put, List.setIfInBounds_toArray, List.set_cons_zero, List.set_cons_succ, Nat.zero_add, Nat.reduceAdd]
      go_simp
      exact StepF.of _ rfl (rfl) (by simpa using hS4) (Other.of_below (Below.refl _ _))
    | 11 =>
      intro ho d vs w4 hS4 hK hD
      obtain rfl := Option.some.inj ho
      have d10 := hD 10 (by kernel_rfl) (by kernel_rfl)
      change vs 10 = _ at d10
      simp only [putL, Act.put, List.setIfInBounds_toArray, List.set_cons_zero, List.set_cons_succ, Nat.zero_add, Nat.reduceAdd]
      go_simp
      exact StepF.of _ rfl (congrArg (Value.int .i64) (by rw [IntKind.wrap_i64]; have := whole_parts HP.out; unfold wrap64 at this; exact this)) (by simpa using hS4) (Other.of_below (Below.refl _ _))
    | 12 =>
      intro ho d vs w4 hS4 hK hD
      obtain rfl := Option.some.inj ho
      simp only [putL, Act.put, List.setIfInBounds_toArray, List.set_cons_zero, List.set_cons_succ, Nat.zero_add, Nat.reduceAdd]
      go_simp
      exact StepF.of _ rfl (rfl) (by simpa using hS4) (Other.of_below (Below.refl _ _))
    | 13 =>
      intro ho d vs w4 hS4 hK hD
      obtain rfl := Option.some.inj ho
      have d12 := hD 12 (by kernel_rfl) (by kernel_rfl)
      change vs 12 = _ at d12
      have q0 : w4.cell? ⟨w.heap.size, 2, none⟩ = some (.slice b.R b.root.length b.rc) := hS4.arg.cell 2
      simp only [putL, Act.put, List.setIfInBounds_toArray, List.set_cons_zero, List.set_cons_succ, Nat.zero_add, Nat.reduceAdd]
      go_simp
      exact StepF.of _ rfl (rfl) (by simpa using hS4) (Other.of_below (Below.refl _ _))
    | 14 =>
      intro ho d vs w4 hS4 hK hD
      obtain rfl := Option.some.inj ho
      have d13 := hD 13 (by kernel_rfl) (by kernel_rfl)
      change vs 13 = _ at d13
      have KS := sum_any b.R b.root.length b.rc b.root w4 ((Rd.below HB.out.2 hS4.below).more hS4.below.size) (by omega)
      simp only [putL, Act.put, List.setIfInBounds_toArray, List.set_cons_zero, List.set_cons_succ, Nat.zero_add, Nat.reduceAdd]
      go_simp
      refine KS.mono ?_
      rintro e w5 ⟨A', m', c', rfl, ho', hb'⟩
      exact StepF.of _ rfl (sumRow_of hS4.lt ho') (by simpa using hS4.call hb') (Other.of_below hb')
    | 15 =>
      intro ho d vs w4 hS4 hK hD
      obtain rfl := Option.some.inj ho
      have d2 := hD 2 (by kernel_rfl) (by kernel_rfl)
      change sumRow _ _ (vs 2) w4 at d2
      have d11 := hD 11 (by kernel_rfl) (by kernel_rfl)
      change vs 11 = _ at d11
      have d14 := hD 14 (by kernel_rfl) (by kernel_rfl)
      change sumRow _ _ (vs 14) w4 at d14
      obtain ⟨A1, c1, e2, o1⟩ := d2
      obtain ⟨A2, c2, e14, o2⟩ := d14
      simp only [putL, Act.put, List.setIfInBounds_toArray, List.set_cons_zero, List.set_cons_succ, Nat.zero_add, Nat.reduceAdd]
      go_simp
      exact StepF.of _ rfl (wholeF_15 ⟨A1, c1, rfl, o1⟩ ⟨A2, c2, rfl, o2⟩) (by simpa using hS4) (Other.of_below (Below.refl _ _))
    | 16 =>
      intro ho d vs w4 hS4 hK hD
      obtain rfl := Option.some.inj ho
      have d15 := wholeF_16 (hD 15 (by kernel_rfl) (by kernel_rfl))
      clear hD
      have hblk : Blk w4 (w.heap.size + 1) 24 #[.slice none 0 0, .int .i64 0, .slice none 0 0] := by have := hS4.out; rw [hK rfl] at this; simpa using this
      have q0 : w4.cell? ⟨w.heap.size + 1, 0, none⟩ = some (.slice none 0 0) := hblk.cell 0
      have q1 : w4.cell? ⟨w.heap.size + 1, 1, none⟩ = some (.int .i64 0) := hblk.cell 1
      have q2 : w4.cell? ⟨w.heap.size + 1, 2, none⟩ = some (.slice none 0 0) := hblk.cell 2
      have f0 : w4.frozen? ⟨w.heap.size + 1, 0, none⟩ = false := hblk.free 0
      have f1 : w4.frozen? ⟨w.heap.size + 1, 1, none⟩ = false := hblk.free 1
      have f2 : w4.frozen? ⟨w.heap.size + 1, 2, none⟩ = false := hblk.free 2
      refine Shut.out ?_
      obtain ⟨A1, c1, A2, c2, e15, o1, o2⟩ := d15
      refine ⟨?_⟩
      have O1 := Lib.hid o1; have O2 := Lib.hid o2; clear o1 o2
      simp only [putL, Act.put, List.setIfInBounds_toArray, List.set_cons_zero, List.set_cons_succ, Nat.zero_add, Nat.reduceAdd]
      rw [e15]
      go_simp
      exact StepF.of undef rfl trivial (hS4.stored hK hblk ⟨_, _, rfl, O1.out⟩ ⟨_, _, rfl, O2.out⟩) (((Other.refl _ _).set 0 _).set 1 _ |>.set 2 _)
    | k + 17 => intro ho; simp at ho
  · intro vs w4 hS4 hF
    simp only [putL, Act.put, List.setIfInBounds_toArray, List.set_cons_zero, List.set_cons_succ, Nat.zero_add, Nat.reduceAdd]
    obtain ⟨v1, v2, hblk, ⟨A1, c1, rfl, o1⟩, ⟨A2, c2, rfl, o2⟩⟩ : ∃ v1 v2, Blk w4 (w.heap.size + 1) 24 #[v1, .int .i64 (1 + mag b.parts % 100000), v2] ∧ sumRow (w.heap.size + 1) b.sum v1 w4 ∧ sumRow (w.heap.size + 1) b.root v2 w4 := by simpa using hS4.out
    have HS4 := Lib.hid hS4; have O1 := Lib.hid o1; have O2 := Lib.hid o2; have HBLK := Lib.hid hblk
    clear hS4 hF hblk o1 o2
    go_wp2
    refine bodyPost_ret (results_cell_row rfl _ _ (w.heap.size + 1) 24 #[.slice A1 32 c1, .int .i64 (1 + mag b.parts % 100000), .slice A2 32 c2] (0, 0) _ rfl HBLK.out Try.underlying24 rfl (by kernel_rfl)) rfl ?_
    exact ⟨⟨A1, c1, shaL b.sum, 1 + mag b.parts % 100000, A2, c2, shaL b.root⟩, rfl, rfl, rfl, rfl, ⟨O1.out.rd, O2.out.rd⟩, HS4.out.below⟩
end Go.Proofs.Ytikikddkhikfkaa
