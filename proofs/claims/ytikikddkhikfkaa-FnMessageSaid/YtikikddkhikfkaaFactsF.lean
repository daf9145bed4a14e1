/-
  A region that draws its order, by facts on values and worlds, with one operation (a store) whose doing is told apart. By the session.
-/
import Derived.Test.YtikikddkhikfkaaFacts
set_option linter.all false
namespace Go.Proofs.Ytikikddkhikfkaa
open Go.RowKit
section
variable {P : Program} {ops : Array Oper} {Q : Exit → Act → World → Prop} {md : Region.Mode}
def StepF (F : Nat → Value → World → Prop) (R : World → World → Prop) (S : World → Prop) (a : Act) (d : Option Nat) (i : Nat) (w : World) (a' : Act) (w' : World) : Prop :=
  ∃ v, a' = a.put d v ∧ F i v w' ∧ S w' ∧ R w w'
theorem StepF.of {F : Nat → Value → World → Prop} {R : World → World → Prop} {S : World → Prop} {a : Act} {d : Option Nat} {i : Nat} {w : World} {a' : Act} {w' : World} (v : Value) (h1 : a' = a.put d v) (h2 : F i v w') (h3 : S w') (h4 : R w w') : StepF F R S a d i w a' w' := ⟨v, h1, h2, h3, h4⟩
theorem rep_getD (n K : Nat) : (Array.replicate n false).getD K false = false := by
  unfold Array.getD; split <;> simp
theorem wpAny_factsF (K : Nat) (F : Nat → Value → World → Prop) (R : World → World → Prop) (hF0 : ∀ i v w w', F i v w → R w w' → F i v w') (S : Bool → World → Prop) (a0 : Act) (hB : regB md ops a0.tmps.size = true)
    (hop : ∀ (i : Nat) (o : Oper), ops[i]? = some o → ∀ (b : Bool) (vs : Nat → Value) (w : World), S b w → (i = K → b = false) → (∀ j, depB md o j = true → dstB ops j = true → F j (vs j) w) →
      o.wp P (putL ops.toList 0 vs a0) w (StepF F R (S (b || i == K)) (putL ops.toList 0 vs a0) o.dst i w) Q)
    (hend : ∀ (vs : Nat → Value) (w : World), S (decide (K < ops.size)) w → (∀ (i : Nat) (o : Oper) (d : Nat), ops[i]? = some o → o.dst = some d → F i (vs i) w) → Q .normal (putL ops.toList 0 vs a0) w) :
    ∀ (fuel : Nat) (listed : Array Bool) (a : Act) (w : World), left ops listed ≤ fuel → listed.size = ops.size → S (listed.getD K false) w → Stand ops a0 a → (∀ (i : Nat) (o : Oper) (d : Nat), ops[i]? = some o → o.dst = some d → listed.getD i false = true → F i (a.eval (.tmp d)) w) → wpAny P md ops Q fuel listed a w := by
  have hfin : ∀ (listed : Array Bool) (a : Act) (w : World), listed.size = ops.size → S (listed.getD K false) w → Stand ops a0 a → (∀ (i : Nat) (o : Oper) (d : Nat), ops[i]? = some o → o.dst = some d → listed.getD i false = true → F i (a.eval (.tmp d)) w) → Region.ready md ops listed = [] → Q .normal a w := by
    intro listed a w hs hS hA hF hr
    have hall : ∀ i, i < ops.size → listed.getD i false = true := by
      intro i
      induction i using Nat.strongRecOn with
      | _ i ih =>
        intro hi
        by_cases hl : listed.getD i false = true
        · exact hl
        · exfalso
          have hmem : i ∈ Region.ready md ops listed := by
            refine mem_ready.2 ⟨?_, ops[i], Array.getElem?_eq_getElem hi, fun e he hb => ?_⟩
            · have hlt : i < listed.size := by omega
              simp [hlt] at hl ⊢; exact hl
            · have h1 := (regB_at hB (Array.getElem?_eq_getElem hi)).2.1 e he hb
              exact ih e.on h1 (by omega)
          rw [hr] at hmem
          simp at hmem
    rw [hA.eq hB]
    have hK : listed.getD K false = decide (K < ops.size) := by
      by_cases hk : K < ops.size
      · rw [hall K hk]; simp [hk]
      · simp [hs, hk]
    rw [hK] at hS
    refine hend _ w hS fun i o d ho hd => ?_
    rw [valsOf_at ho hd]
    exact hF i o d ho hd (hall i (Array.getElem?_eq_some_iff.1 ho).1)
  intro fuel
  induction fuel with
  | zero =>
    intro listed a w hl hs hS hA hF
    have hr : Region.ready md ops listed = [] := by
      rw [List.eq_nil_iff_forall_not_mem]
      intro i hi
      obtain ⟨h0, o, ho, _⟩ := mem_ready.1 hi
      have hi' := (Array.getElem?_eq_some_iff.1 ho).1
      have h0' : (!listed.getD i false) = true := by
        have hlt : i < listed.size := by omega
        simp [hlt] at h0 ⊢; exact h0
      have : 0 < left ops listed := List.countP_pos_iff.2 ⟨i, List.mem_range.2 hi', h0'⟩
      omega
    exact ⟨hr, hfin listed a w hs hS hA hF hr⟩
  | succ fuel ih =>
    intro listed a w hl hs hS hA hF
    refine ⟨hfin listed a w hs hS hA hF, fun i hi => ?_⟩
    obtain ⟨h0, o, ho, hdep⟩ := mem_ready.1 hi
    have hi' := (Array.getElem?_eq_some_iff.1 ho).1
    have hreg := regB_at hB ho
    unfold wpOp
    simp only [ho]
    have hw : Region.wanted o (yielded ops a.tmps) = true := by simp [Region.wanted, hreg.1]
    rw [if_pos hw]
    left
    have hnot : i = K → listed.getD K false = false := fun e => by
      subst e
      have hlt : i < listed.size := by omega
      simp [hlt] at h0 ⊢; exact h0
    have h1 := hop i o ho _ (valsOf ops a) w hS hnot (fun j hj hdj => by
      simp only [depB, Array.any_eq_true, Bool.and_eq_true, beq_iff_eq] at hj
      obtain ⟨k, hk, hb, he⟩ := hj
      have hlj := hdep o.after[k] (Array.getElem_mem hk) hb
      rw [he] at hlj
      have hjlt : j < ops.size := by
        have := (hreg.2.1 o.after[k] (Array.getElem_mem hk) hb); omega
      cases hd : ops[j].dst with
      | none => simp [dstB, Array.getElem?_eq_getElem hjlt, hd] at hdj
      | some d =>
        rw [valsOf_at (Array.getElem?_eq_getElem hjlt) hd]
        exact hF j _ d (Array.getElem?_eq_getElem hjlt) hd hlj)
    rw [← hA.eq hB] at h1
    refine Oper.wp_mono (fun a' w' h2 => ?_) h1
    obtain ⟨v, rfl, hv, hS', hb⟩ := h2
    have hlt : i < listed.size := by omega
    have hS2 : S ((listed.setIfInBounds i true).getD K false) w' := by
      by_cases hik : i = K
      · subst hik
        rw [show (listed.setIfInBounds i true).getD i false = true by simp [hlt]]
        simpa using hS'
      · rw [getD_set_ne _ hik]
        have e : (i == K) = false := by simpa using hik
        rw [e, Bool.or_false] at hS'
        exact hS'
    refine ih _ _ w' ?_ (by simp [hs]) hS2 ⟨by rw [put_defers]; exact hA.defers, by rw [put_size]; exact hA.size, fun s hsn => ?_⟩ (fun j oj d hoj hd hlj => ?_)
    · have : left ops (listed.setIfInBounds i true) < left ops listed := by
        refine countP_lt _ (fun x _ hx => ?_) (List.mem_range.2 hi') ?_ ?_
        · by_cases hxi : i = x
          · subst hxi; simp [hlt] at hx
          · rw [getD_set_ne _ hxi] at hx; exact hx
        · simp [hlt] at h0 ⊢; exact h0
        · simp [hlt]
      omega
    · rw [put_other _ _ _ _ (fun e => hsn (List.mem_filterMap.2 ⟨o, List.mem_of_getElem? (by rw [Array.getElem?_toList]; exact ho), e⟩))]
      exact hA.rest s hsn
    · by_cases hij : i = j
      · subst hij
        rw [ho] at hoj; cases hoj
        rw [hd, eval_tmp, put_same _ _ _ (by rw [hA.size]; exact hreg.2.2 d hd)]
        exact hv
      · have hne : o.dst ≠ some d := fun e => dst_ne hB ho hoj e hd hij rfl
        rw [eval_tmp, put_other _ _ _ _ hne, ← eval_tmp]
        rw [getD_set_ne _ hij] at hlj
        exact hF0 j _ _ _ (hF j oj d hoj hd hlj) hb
theorem wp_region_factsF (K : Nat) (F : Nat → Value → World → Prop) (R : World → World → Prop) (hF0 : ∀ i v w w', F i v w → R w w' → F i v w') (S : Bool → World → Prop) {id : Nat} {a0 : Act} {w : World} (hm : P.follows .mixedOrders = true) (hB : regB .any ops a0.tmps.size = true) (hS : S false w.drew)
    (hop : ∀ (i : Nat) (o : Oper), ops[i]? = some o → ∀ (b : Bool) (vs : Nat → Value) (w : World), S b w → (i = K → b = false) → (∀ j, depB .any o j = true → dstB ops j = true → F j (vs j) w) →
      o.wp P (putL ops.toList 0 vs a0) w (StepF F R (S (b || i == K)) (putL ops.toList 0 vs a0) o.dst i w) Q)
    (hend : ∀ (vs : Nat → Value) (w : World), S (decide (K < ops.size)) w → (∀ (i : Nat) (o : Oper) (d : Nat), ops[i]? = some o → o.dst = some d → F i (vs i) w) → Q .normal (putL ops.toList 0 vs a0) w) :
    (Code.region id ops true).wp P Q a0 w :=
  wp_region_any hm (wpAny_factsF K F R hF0 S a0 hB hop hend ops.size _ a0 _ (by unfold left; exact Nat.le_trans List.countP_le_length (by simp)) (by simp) (by rw [rep_getD]; exact hS) ⟨rfl, rfl, fun _ _ => rfl⟩ (fun i o d ho hd hl => by
    have hi := (Array.getElem?_eq_some_iff.1 ho).1
    simp [hi] at hl))
end
end Go.Proofs.Ytikikddkhikfkaa
