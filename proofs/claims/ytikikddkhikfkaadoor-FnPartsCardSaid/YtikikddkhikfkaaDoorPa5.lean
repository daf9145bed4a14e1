/-
  A region that draws its order and whose last operation writes what an earlier one reads: a condition S on the world that need not hold behind that last operation. By the session. A region that draws its order, with guarded operations. By the session.
-/
import Derived.OrdersHeld
import Derived.WalkKit
namespace Go.Proofs.YtikikddkhikfkaaDoor
open Go.RowKit

section
variable {P : Program} {ops : Array Oper} {Q : Exit → Act → World → Prop} {S : World → Prop} {md : Region.Mode} {s : Nat}
def wpAnyL (P : Program) (md : Region.Mode) (ops : Array Oper) (Q : Exit → Act → World → Prop) (S : World → Prop) (s : Nat) : Nat → Array Bool → Act → World → Prop
  | 0, listed, a, w => Region.ready md ops listed = [] ∧ Q .normal a w
  | fuel + 1, listed, a, w =>
    (Region.ready md ops listed = [] → Q .normal a w) ∧
    ∀ i ∈ Region.ready md ops listed, wpOp P ops Q i (fun a' w' => (i ≠ s → S w') ∧ wpAnyL P md ops Q S s fuel (listed.setIfInBounds i true) a' w') a w
theorem wpAny_of_L : ∀ (fuel : Nat) (listed : Array Bool) (a : Act) (w : World), wpAnyL P md ops Q S s fuel listed a w → wpAny P md ops Q fuel listed a w
  | 0, _, _, _, h => h
  | fuel + 1, _, _, _, h => ⟨h.1, fun i hi => wpOp_mono (fun a' w' h' => wpAny_of_L fuel _ a' w' h'.2) (h.2 i hi)⟩
def ClosedL (md : Region.Mode) (ops : Array Oper) (listed : Array Bool) : Prop := ∀ (d : Nat) (o : Oper), ops[d]? = some o → listed.getD d true = true → ∀ e ∈ o.after, Region.binds md e = true → listed.getD e.on false = true
def closedB (md : Region.Mode) (ops : Array Oper) (listed : Array Bool) : Bool :=
  (List.range ops.size).all fun d => match ops[d]? with
    | some o => !listed.getD d true || o.after.all fun e => !Region.binds md e || listed.getD e.on false
    | none => true
theorem closedB_spec {listed : Array Bool} (h : closedB md ops listed = true) : ClosedL md ops listed := by
  intro d o ho hl e he hb
  have hd : d < ops.size := (Array.getElem?_eq_some_iff.1 ho).1
  simp only [closedB, List.all_eq_true, List.mem_range] at h
  have := h d hd
  rw [ho] at this
  simp only [hl, Bool.not_true, Bool.false_or, Array.all_eq_true_iff_forall_mem] at this
  have := this e he
  simpa [hb] using this
def needB (md : Region.Mode) (ops : Array Oper) : Nat → Nat → Nat → Bool
  | 0, _, _ => false
  | fuel + 1, x, i => match ops[x]? with
    | some o => o.after.any fun e => Region.binds md e && (e.on == i || needB md ops fuel e.on i)
    | none => false
theorem needB_spec {listed : Array Bool} (hc : ClosedL md ops listed) : ∀ (fuel x i : Nat), needB md ops fuel x i = true → (∀ o, ops[x]? = some o → ∀ e ∈ o.after, Region.binds md e = true → listed.getD e.on false = true) → listed.getD i false = true
  | 0, _, _, h, _ => by simp [needB] at h
  | fuel + 1, x, i, h, hx => by
    simp only [needB] at h
    cases ho : ops[x]? with
    | none => rw [ho] at h; simp at h
    | some o =>
      rw [ho] at h
      simp only [Array.any_eq_true, Bool.and_eq_true, Bool.or_eq_true] at h
      obtain ⟨k, hk, hb, h⟩ := h
      have hl := hx o ho o.after[k] (Array.getElem_mem hk) hb
      rcases h with h | h
      · have : o.after[k].on = i := by simpa using h
        rw [← this]; exact hl
      · refine needB_spec hc fuel _ i h fun o' ho' e he hbe => ?_
        refine hc _ o' ho' ?_ e he hbe
        have hlt : o.after[k].on < ops.size := (Array.getElem?_eq_some_iff.1 ho').1
        cases hq : listed[o.after[k].on]? with
        | none => simp [hq] at hl
        | some b => simp [hq] at hl ⊢; exact hl
theorem wpAnyL_first {i : Nat} {oi : Oper} {v : Value} (hi : ops[i]? = some oi) (hsel : ∀ (j : Nat) (o : Oper) cs b, ops[j]? = some o → o.op ≠ .select cs b)
    (hQ : ∀ c a w, Q (.panic c) (a.put oi.dst v) w → Q (.panic c) a w) (hneed : needB md ops ops.size s i = true) :
    ∀ (fuel : Nat) (listed : Array Bool) (a : Act) (w : World), ClosedL md ops listed →
      (∀ j oj, ops[j]? = some oj → j ≠ i → listed.getD j true = false → (∀ e ∈ oj.after, Region.binds md e = true → e.on ≠ i) → oi.apart ops oj = true) →
      i ∈ Region.ready md ops listed → YieldsIf P ops S oi v a → S w → i ≠ s →
      wpAnyL P md ops Q S s fuel (listed.setIfInBounds i true) (a.put oi.dst v) w → wpAnyL P md ops Q S s (fuel + 1) listed a w := by
  intro fuel
  induction fuel with
  | zero =>
    intro listed a w _ _ hr hy hS hne H
    refine ⟨fun h => (by rw [h] at hr; cases hr), fun j hj => ?_⟩
    by_cases hji : j = i
    · subst hji; exact hy.wpOp hi hS ⟨fun _ => hS, H⟩
    · have := ready_mono hj hji
      rw [H.1] at this
      cases this
  | succ fuel ih =>
    intro listed a w hcl hfree hr hy hS hne H
    refine ⟨fun h => (by rw [h] at hr; cases hr), fun j hj => ?_⟩
    by_cases hji : j = i
    · subst hji; exact hy.wpOp hi hS ⟨fun _ => hS, H⟩
    · have h1 := H.2 j (ready_mono hj hji)
      obtain ⟨hjun, oj, hoj, hall⟩ := mem_ready.1 hj
      have h0 := (mem_ready.1 hr).1
      have hun : listed.getD i false = false := by
        cases hq : listed[i]? with
        | none => simp [hq]
        | some b => simp [hq] at h0 ⊢; exact h0
      have hjs : j ≠ s := by
        rintro rfl
        have := needB_spec hcl ops.size j i hneed fun o ho e he hb => hall e (by rw [hoj] at ho; cases ho; exact he) hb
        rw [hun] at this; cases this
      have hnot : ∀ e ∈ oj.after, Region.binds md e = true → e.on ≠ i := fun e he hb heq => by
        have h1 := hall e he hb
        rw [heq, hun] at h1; cases h1
      have h2 := wpOp_putIf hoj (hfree j oj hoj hji hjun hnot) (fun cs b => hsel i oi cs b hi) (fun cs b => hsel j oj cs b hoj) hQ hy h1
      have hfree' : ∀ k ok, ops[k]? = some ok → k ≠ i → (listed.setIfInBounds j true).getD k true = false →
          (∀ e ∈ ok.after, Region.binds md e = true → e.on ≠ i) → oi.apart ops ok = true := fun k ok hk hki hun hno => by
        refine hfree k ok hk hki ?_ hno
        by_cases hjk : j = k
        · subst hjk; exact hjun
        · rw [getD_set_ne true hjk] at hun; exact hun
      have hcl' : ClosedL md ops (listed.setIfInBounds j true) := by
        intro d o ho hl e he hb
        by_cases hjd : j = d
        · subst hjd
          rw [hoj] at ho; cases ho
          exact getD_set_true (hall e he hb)
        · rw [getD_set_ne true hjd] at hl
          exact getD_set_true (hcl d o ho hl e he hb)
      refine wpOp_mono (fun a' w' h3 => ⟨h3.2.1, ih (listed.setIfInBounds j true) a' w' hcl' hfree' (ready_mono hr (Ne.symm hji)) h3.1 (h3.2.1 hjs) hne ?_⟩) h2
      rw [Array.setIfInBounds_comm _ _ hji]
      exact h3.2.2
/-- take number i first -/
theorem wpAnyL_take (i : Nat) {oi : Oper} {v : Value} {fuel : Nat} {listed : Array Bool} {a : Act} {w : World} (hi : ops[i]? = some oi)
    (hb : (Region.noSelect ops && Region.free md ops listed i && (Region.ready md ops listed).contains i && closedB md ops listed && needB md ops ops.size s i && !(i == s)) = true)
    (hQ : ∀ c a w, Q (.panic c) (a.put oi.dst v) w → Q (.panic c) a w) (hy : YieldsIf P ops S oi v a) (hS : S w)
    (h : wpAnyL P md ops Q S s fuel (listed.setIfInBounds i true) (a.put oi.dst v) w) : wpAnyL P md ops Q S s (fuel + 1) listed a w := by
  simp only [Bool.and_eq_true, Bool.not_eq_true'] at hb
  obtain ⟨⟨⟨⟨⟨h1, h2⟩, h3⟩, h4⟩, h5⟩, h6⟩ := hb
  exact wpAnyL_first hi (Region.noSelect_spec h1) hQ h5 fuel listed a w (closedB_spec h4) (Region.free_spec hi h2) (by simpa using h3) hy hS (by simpa using h6) h
/-- the one that may come up -/
theorem wpAnyL_one (i : Nat) {oi : Oper} {fuel : Nat} {listed : Array Bool} {a : Act} {w : World} (hi : ops[i]? = some oi) (hr : Region.ready md ops listed = [i]) (hg : oi.guard = none)
    (h : oi.wp P a w (fun a' w' => (i ≠ s → S w') ∧ wpAnyL P md ops Q S s fuel (listed.setIfInBounds i true) a' w') Q) : wpAnyL P md ops Q S s (fuel + 1) listed a w := by
  refine ⟨fun h0 => by rw [hr] at h0; simp at h0, fun j hj => ?_⟩
  rw [hr, List.mem_singleton] at hj
  subst hj
  unfold wpOp
  simp only [hi]
  have hw : Region.wanted oi (yielded ops a.tmps) = true := by simp [Region.wanted, hg]
  rw [if_pos hw]
  exact .inl h
theorem wpAnyL_done {listed : Array Bool} {a : Act} {w : World} (hr : Region.ready md ops listed = []) (h : Q .normal a w) : ∀ fuel, wpAnyL P md ops Q S s fuel listed a w
  | 0 => ⟨hr, h⟩
  | _ + 1 => ⟨fun _ => h, by rw [hr]; simp⟩
theorem wp_region_L (S : World → Prop) (s : Nat) {id : Nat} {a : Act} {w : World} (hm : P.follows .mixedOrders = true)
    (h : wpAnyL P .any ops Q S s ops.size (Array.replicate ops.size false) a w.drew) : (Code.region id ops true).wp P Q a w :=
  wp_region_any hm (wpAny_of_L _ _ _ _ h)
theorem yields_in {o : Oper} {v : Value} {a : Act} (hg : o.guard = none) (h : ∀ w, S w → (execOp a.eval o).run P w = .ok (.value v) w) : YieldsIf P ops S o v a :=
  .inl ⟨by simp [Region.wanted, hg], h⟩
end
end Go.Proofs.YtikikddkhikfkaaDoor

namespace Go.Proofs.YtikikddkhikfkaaDoor
open Go.RowKit

section
variable {P : Program} {ops : Array Oper} {Q : Exit → Act → World → Prop} {S : World → Prop} {md : Region.Mode} {s : Nat}
theorem wpAnyL_on (i : Nat) {oi : Oper} {fuel : Nat} {listed : Array Bool} {a : Act} {w : World} (hi : ops[i]? = some oi) (hr : Region.ready md ops listed = [i]) (hw : Region.wanted oi (yielded ops a.tmps) = true)
    (h : oi.wp P a w (fun a' w' => (i ≠ s → S w') ∧ wpAnyL P md ops Q S s fuel (listed.setIfInBounds i true) a' w') Q) : wpAnyL P md ops Q S s (fuel + 1) listed a w := by
  refine ⟨fun h0 => by rw [hr] at h0; simp at h0, fun j hj => ?_⟩
  rw [hr, List.mem_singleton] at hj
  subst hj
  unfold wpOp
  simp only [hi]
  rw [if_pos hw]
  exact .inl h
theorem wpAnyL_off (i : Nat) {oi : Oper} {fuel : Nat} {listed : Array Bool} {a : Act} {w : World} (hi : ops[i]? = some oi) (hr : Region.ready md ops listed = [i]) (hw : Region.wanted oi (yielded ops a.tmps) = false) (hS : S w)
    (h : wpAnyL P md ops Q S s fuel (listed.setIfInBounds i true) (a.put oi.dst undef) w) : wpAnyL P md ops Q S s (fuel + 1) listed a w := by
  refine ⟨fun h0 => by rw [hr] at h0; simp at h0, fun j hj => ?_⟩
  rw [hr, List.mem_singleton] at hj
  subst hj
  unfold wpOp
  simp only [hi]
  rw [if_neg (by rw [hw]; simp)]
  exact ⟨fun _ => hS, h⟩
theorem yields_on {o : Oper} {v : Value} {a : Act} (hw : Region.wanted o (yielded ops a.tmps) = true) (h : ∀ w, S w → (execOp a.eval o).run P w = .ok (.value v) w) : YieldsIf P ops S o v a := .inl ⟨hw, h⟩
theorem yields_off {o : Oper} {a : Act} (hw : Region.wanted o (yielded ops a.tmps) = false) : YieldsIf P ops S o undef a := .inr ⟨hw, rfl⟩
end

theorem bytesLess_anti : ∀ (a b : List UInt8), a ≠ b → Op.bytesLess a b = !Op.bytesLess b a
  | [], [], h => absurd rfl h
  | [], b :: y, _ => by simp [Op.bytesLess]
  | a :: x, [], _ => by simp [Op.bytesLess]
  | a :: x, b :: y, h => by
    simp only [Op.bytesLess]
    by_cases e : a = b
    · subst e
      have hxy : x ≠ y := fun e => h (by rw [e])
      have ih := bytesLess_anti x y hxy
      simp only [UInt8.lt_irrefl, decide_false, beq_self_eq_true, Bool.true_and, Bool.false_or]
      exact ih
    · have e1 : (a == b) = false := by simpa using e
      have e2 : (b == a) = false := by simpa using fun e' : b = a => e e'.symm
      rw [e1, e2]
      simp only [Bool.false_and, Bool.or_false]
      by_cases hlt : a < b
      · have : ¬ b < a := fun h2 => UInt8.lt_asymm hlt h2
        simp [hlt, this]
      · have : b < a := by
          rcases UInt8.lt_or_lt_of_ne e with h | h
          · exact absurd h hlt
          · exact h
        simp [hlt, this]
end Go.Proofs.YtikikddkhikfkaaDoor
