/-
  A region that draws its order, by facts: what each operation yields is told once, whatever order the others came in, as long as each operation leaves the older blocks as they are. By the session. A region that draws its order, by facts on values and worlds, with one operation (a store) whose doing is told apart. By the session. A region that draws its order, by facts on values and worlds, with what has been done so far told apart (several stores). By the session. A region that draws its order, by facts on values and worlds, with one operation (a store into a block that the region itself has laid) that turns the facts. By the session.
-/
import Derived.Test.YtikikddkhikfkaaDoorPa5
import Derived.Test.YtikikddkhikfkaaDoorPa2
set_option linter.all false
namespace Go.Proofs.YtikikddkhikfkaaDoor
open Go.RowKit

/-- what an operation's value is known to be -/
inductive Fact where
  | any
  | is (v : Value)
  | row (s : List UInt8)
  | that (p : Value → Prop)
  | slices (ss : List (List UInt8))
def Fact.holds : Fact → Value → World → Prop
  | .any, _, _ => True
  | .is u, v, _ => v = u
  | .row s, v, w => ∃ A m c, v = .slice A m c ∧ Rd w w.heap.size 1 A m (bc s)
  | .that p, v, _ => p v
  | .slices ss, v, w => ∃ (A : Option Addr) (c : Nat) (l : List Bs), v = .slice A l.length c ∧ l.map Bs.s = ss ∧ Rd w w.heap.size 1 A l.length (l.map Bs.val) ∧ ∀ b ∈ l, b.ok w
theorem Fact.holds.below {f : Fact} {v : Value} {w w' : World} (h : f.holds v w) (hb : Below w.heap.size w w') : f.holds v w' := by
  cases f with
  | any => trivial
  | is u => exact h
  | row s => obtain ⟨A, m, c, rfl, hr⟩ := h; exact ⟨A, m, c, rfl, (Rd.below hr hb).more hb.size⟩
  | that p => exact h
  | slices ss =>
    obtain ⟨A, c, l, rfl, h1, h2, h3⟩ := h
    exact ⟨A, c, l, rfl, h1, (Rd.below h2 hb).more hb.size, fun b hm => (h3 b hm).below hb⟩

section
variable {P : Program} {ops : Array Oper} {Q : Exit → Act → World → Prop} {md : Region.Mode}
def putL : List Oper → Nat → (Nat → Value) → Act → Act
  | [], _, _, a => a
  | o :: r, k, vs, a => putL r (k + 1) vs (a.put o.dst (vs k))
def depB (md : Region.Mode) (o : Oper) (j : Nat) : Bool := o.after.any fun e => Region.binds md e && e.on == j
def dstB (ops : Array Oper) (j : Nat) : Bool := ((ops[j]?).bind Oper.dst).isSome
def dstsOf (l : List Oper) : List Nat := l.filterMap Oper.dst
def nodupB : List Nat → Bool
  | [] => true
  | x :: r => !r.contains x && nodupB r
theorem nodupB_spec : ∀ {l : List Nat}, nodupB l = true → l.Nodup
  | [], _ => List.nodup_nil
  | x :: r, h => by
    simp only [nodupB, Bool.and_eq_true, Bool.not_eq_true'] at h
    exact List.nodup_cons.2 ⟨by simpa using h.1, nodupB_spec h.2⟩
def regB (md : Region.Mode) (ops : Array Oper) (n : Nat) : Bool :=
  ((List.range ops.size).all fun i => match ops[i]? with
    | some o => o.guard.isNone && (o.after.all fun e => !Region.binds md e || decide (e.on < i)) && (match o.dst with | some d => decide (d < n) | none => true)
    | none => true) && nodupB (dstsOf ops.toList)
theorem regB_at {n i : Nat} {o : Oper} (h : regB md ops n = true) (ho : ops[i]? = some o) : o.guard = none ∧ (∀ e ∈ o.after, Region.binds md e = true → e.on < i) ∧ (∀ d, o.dst = some d → d < n) := by
  simp only [regB, Bool.and_eq_true, List.all_eq_true, List.mem_range] at h
  have h1 := h.1 i (Array.getElem?_eq_some_iff.1 ho).1
  rw [ho] at h1
  simp only [Bool.and_eq_true, Option.isNone_iff_eq_none, Array.all_eq_true_iff_forall_mem] at h1
  refine ⟨h1.1.1, fun e he hb => ?_, fun d hd => ?_⟩
  · have := h1.1.2 e he
    simpa [hb] using this
  · have := h1.2
    rw [hd] at this
    simpa using this
theorem dst_ne {n i j : Nat} {o o' : Oper} {d d' : Nat} (h : regB md ops n = true) (ho : ops[i]? = some o) (ho' : ops[j]? = some o') (hd : o.dst = some d) (hd' : o'.dst = some d') (hij : i ≠ j) : d ≠ d' := by
  simp only [regB, Bool.and_eq_true] at h
  have hn := nodupB_spec h.2
  have key : ∀ (l : List Oper), (dstsOf l).Nodup → ∀ (i j d d' : Nat) (o o' : Oper), l[i]? = some o → l[j]? = some o' → o.dst = some d → o'.dst = some d' → i < j → d ≠ d' := by
    intro l
    induction l with
    | nil => intro _ i j d d' o o' h; simp at h
    | cons x r ih =>
      intro hn i j d d' o o' ho ho' hd hd' hij
      have hmem : ∀ (k : Nat) (o'' : Oper) (d'' : Nat), r[k]? = some o'' → o''.dst = some d'' → d'' ∈ dstsOf r := fun k o'' d'' h1 h2 => List.mem_filterMap.2 ⟨o'', List.mem_of_getElem? h1, h2⟩
      cases i with
      | zero =>
        simp only [List.getElem?_cons_zero, Option.some.injEq] at ho
        subst ho
        obtain ⟨j, rfl⟩ : ∃ k, j = k + 1 := ⟨j - 1, by omega⟩
        simp only [List.getElem?_cons_succ] at ho'
        have e : dstsOf (x :: r) = d :: dstsOf r := by simp [dstsOf, hd]
        rw [e, List.nodup_cons] at hn
        intro he
        subst he
        exact hn.1 (hmem j o' _ ho' hd')
      | succ i =>
        obtain ⟨j, rfl⟩ : ∃ k, j = k + 1 := ⟨j - 1, by omega⟩
        simp only [List.getElem?_cons_succ] at ho ho'
        refine ih ?_ i j d d' o o' ho ho' hd hd' (by omega)
        cases hx : x.dst with
        | none => simpa [dstsOf, hx] using hn
        | some y =>
          have e : dstsOf (x :: r) = y :: dstsOf r := by simp [dstsOf, hx]
          rw [e, List.nodup_cons] at hn
          exact hn.2
  have g : ∀ (k : Nat) (o'' : Oper), ops[k]? = some o'' → ops.toList[k]? = some o'' := fun k o'' h => by rw [Array.getElem?_toList]; exact h
  rcases Nat.lt_or_gt_of_ne hij with hlt | hlt
  · exact key _ hn i j d d' o o' (g _ _ ho) (g _ _ ho') hd hd' hlt
  · exact (key _ hn j i d' d o' o (g _ _ ho') (g _ _ ho) hd' hd hlt).symm

/-- a is a0 but for what the region's operations write -/
structure Stand (ops : Array Oper) (a0 a : Act) : Prop where
  defers : a.defers = a0.defers
  size : a.tmps.size = a0.tmps.size
  rest : ∀ s : Nat, s ∉ dstsOf ops.toList → a.tmps[s]? = a0.tmps[s]?
theorem put_size (a : Act) (d : Option Nat) (v : Value) : (a.put d v).tmps.size = a.tmps.size := by cases d <;> simp [Act.put]
theorem put_defers (a : Act) (d : Option Nat) (v : Value) : (a.put d v).defers = a.defers := by cases d <;> rfl
theorem put_other (a : Act) (d : Option Nat) (v : Value) (s : Nat) (h : d ≠ some s) : (a.put d v).tmps[s]? = a.tmps[s]? := by
  cases d with
  | none => rfl
  | some d => simp only [Act.put]; exact Array.getElem?_setIfInBounds_ne (fun e => h (by rw [e]))
theorem put_same (a : Act) (d : Nat) (v : Value) (h : d < a.tmps.size) : (a.put (some d) v).tmps[d]? = some v := by
  simp only [Act.put]; exact Array.getElem?_setIfInBounds_self_of_lt h
theorem eval_tmp (a : Act) (s : Nat) : a.eval (.tmp s) = (a.tmps[s]?).getD undef := by simp [Act.eval]
theorem putL_keeps : ∀ (l : List Oper) (k : Nat) (vs : Nat → Value) (b a : Act), (∀ (i : Nat) (o : Oper) (d : Nat), l[i]? = some o → o.dst = some d → vs (k + i) = a.eval (.tmp d)) → a.tmps.size = b.tmps.size → (∀ (i : Nat) (o : Oper) (d : Nat), l[i]? = some o → o.dst = some d → d < a.tmps.size) → ∀ s : Nat, (putL l k vs b).tmps[s]? = if s ∈ dstsOf l then a.tmps[s]? else b.tmps[s]?
  | [], k, vs, b, a => fun _ _ _ s => by simp [putL, dstsOf]
  | x :: r, k, vs, b, a => fun h hs hd s => by
    have ih := putL_keeps r (k + 1) vs (b.put x.dst (vs k)) a (fun i o d h1 h2 => by
      have := h (i + 1) o d (by simpa using h1) h2
      rw [show k + 1 + i = k + (i + 1) by omega]; exact this) (by rw [put_size]; exact hs) (fun i o d h1 h2 => hd (i + 1) o d (by simpa using h1) h2) s
    simp only [putL]
    rw [ih]
    cases hx : x.dst with
    | none =>
      have e : dstsOf (x :: r) = dstsOf r := by simp [dstsOf, hx]
      rw [e]; rfl
    | some d =>
      have e : dstsOf (x :: r) = d :: dstsOf r := by simp [dstsOf, hx]
      rw [e]
      by_cases h1 : s ∈ dstsOf r
      · rw [if_pos h1, if_pos (List.mem_cons_of_mem _ h1)]
      · rw [if_neg h1]
        by_cases h2 : s = d
        · subst h2
          have hlt := hd 0 x s rfl hx
          rw [if_pos (List.mem_cons_self ..), put_same _ _ _ (by omega)]
          have := h 0 x s rfl hx
          rw [Nat.add_zero] at this
          rw [this, eval_tmp, Array.getElem?_eq_getElem hlt]; rfl
        · rw [if_neg (by simp [h1, h2]), put_other _ _ _ _ (by intro e; injection e with e; exact h2 e.symm)]
theorem putL_defers : ∀ (l : List Oper) (k : Nat) (vs : Nat → Value) (b : Act), (putL l k vs b).defers = b.defers
  | [], _, _, _ => rfl
  | _ :: r, k, vs, b => (putL_defers r (k + 1) vs _).trans (put_defers _ _ _)
theorem putL_size : ∀ (l : List Oper) (k : Nat) (vs : Nat → Value) (b : Act), (putL l k vs b).tmps.size = b.tmps.size
  | [], _, _, _ => rfl
  | _ :: r, k, vs, b => (putL_size r (k + 1) vs _).trans (put_size _ _ _)
def valsOf (ops : Array Oper) (a : Act) (i : Nat) : Value := match (ops[i]?).bind Oper.dst with
  | some d => a.eval (.tmp d)
  | none => undef
theorem valsOf_at {a : Act} {i d : Nat} {o : Oper} (ho : ops[i]? = some o) (hd : o.dst = some d) : valsOf ops a i = a.eval (.tmp d) := by simp [valsOf, ho, hd]
theorem Stand.eq {a0 a : Act} (hB : regB md ops a0.tmps.size = true) (h : Stand ops a0 a) : a = putL ops.toList 0 (valsOf ops a) a0 := by
  have e : a.tmps = (putL ops.toList 0 (valsOf ops a) a0).tmps := by
    apply Array.ext_getElem?
    intro s
    rw [putL_keeps ops.toList 0 (valsOf ops a) a0 a (fun i o d h1 h2 => by
      rw [Array.getElem?_toList] at h1
      rw [Nat.zero_add]; exact valsOf_at h1 h2) h.size (fun i o d h1 h2 => by
      rw [Array.getElem?_toList] at h1
      rw [h.size]; exact (regB_at hB h1).2.2 d h2)]
    split
    · rfl
    · rename_i hs; exact h.rest s hs
  have e2 := putL_defers ops.toList 0 (valsOf ops a) a0
  rw [← h.defers] at e2
  cases a with
  | mk t d =>
    cases hp : putL ops.toList 0 (valsOf ops ⟨t, d⟩) a0 with
    | mk t' d' =>
      rw [hp] at e e2
      simp only at e e2
      rw [e, e2]
theorem countP_lt {α : Type} {p q : α → Bool} : ∀ (l : List α), (∀ x ∈ l, q x = true → p x = true) → ∀ {y : α}, y ∈ l → p y = true → q y = false → l.countP q < l.countP p
  | [], _, y, hy, _, _ => by simp at hy
  | x :: r, h, y, hy, hp, hq => by
    have hle : r.countP q ≤ r.countP p := List.countP_mono_left fun z hz => h z (List.mem_cons_of_mem _ hz)
    rcases List.mem_cons.1 hy with rfl | hy
    · rw [List.countP_cons_of_pos hp, List.countP_cons_of_neg (by simp [hq])]; omega
    · have ih := countP_lt r (fun z hz => h z (List.mem_cons_of_mem _ hz)) hy hp hq
      by_cases hx : q x = true
      · rw [List.countP_cons_of_pos hx, List.countP_cons_of_pos (h x (List.mem_cons_self ..) hx)]; omega
      · rw [List.countP_cons_of_neg hx]
        have : r.countP p ≤ (x :: r).countP p := by rw [List.countP_cons]; omega
        omega
def left (ops : Array Oper) (listed : Array Bool) : Nat := (List.range ops.size).countP fun i => !listed.getD i false
/-- what an operation leaves: its value is as told, the world a later one -/
def Step (facts : List Fact) (S : World → Prop) (a : Act) (d : Option Nat) (i : Nat) (w : World) (a' : Act) (w' : World) : Prop :=
  ∃ v, a' = a.put d v ∧ (facts.getD i .any).holds v w' ∧ S w' ∧ Below w.heap.size w w'
theorem Step.of {facts : List Fact} {S : World → Prop} {a : Act} {d : Option Nat} {i : Nat} {w : World} {a' : Act} {w' : World} (v : Value) (h1 : a' = a.put d v) (h2 : (facts.getD i .any).holds v w') (h3 : S w') (h4 : Below w.heap.size w w') : Step facts S a d i w a' w' := ⟨v, h1, h2, h3, h4⟩
theorem wpAny_facts (facts : List Fact) (S : World → Prop) (a0 : Act) (hB : regB md ops a0.tmps.size = true)
    (hop : ∀ (i : Nat) (o : Oper), ops[i]? = some o → ∀ (vs : Nat → Value) (w : World), S w → (∀ j, depB md o j = true → dstB ops j = true → (facts.getD j .any).holds (vs j) w) →
      o.wp P (putL ops.toList 0 vs a0) w (Step facts S (putL ops.toList 0 vs a0) o.dst i w) Q)
    (hend : ∀ (vs : Nat → Value) (w : World), S w → (∀ (i : Nat) (o : Oper) (d : Nat), ops[i]? = some o → o.dst = some d → (facts.getD i .any).holds (vs i) w) → Q .normal (putL ops.toList 0 vs a0) w) :
    ∀ (fuel : Nat) (listed : Array Bool) (a : Act) (w : World), left ops listed ≤ fuel → listed.size = ops.size → S w → Stand ops a0 a → (∀ (i : Nat) (o : Oper) (d : Nat), ops[i]? = some o → o.dst = some d → listed.getD i false = true → (facts.getD i .any).holds (a.eval (.tmp d)) w) → wpAny P md ops Q fuel listed a w := by
  have hfin : ∀ (listed : Array Bool) (a : Act) (w : World), listed.size = ops.size → S w → Stand ops a0 a → (∀ (i : Nat) (o : Oper) (d : Nat), ops[i]? = some o → o.dst = some d → listed.getD i false = true → (facts.getD i .any).holds (a.eval (.tmp d)) w) → Region.ready md ops listed = [] → Q .normal a w := by
    intro listed a w hs hS hA hF hr
    have hall : ∀ i, i < ops.size → listed.getD i false = true := by
      intro i
      induction i using Nat.strongRecOn with
      | _ i ih =>
        intro hi
        by_cases hl : listed.getD i false = true
        · exact hl
        · exfalso
          have hmem : i ∈ Region.ready md ops listed := by
            refine mem_ready.2 ⟨?_, ops[i], Array.getElem?_eq_getElem hi, fun e he hb => ?_⟩
            · have hlt : i < listed.size := by omega
              simp [hlt] at hl ⊢; exact hl
            · have h1 := (regB_at hB (Array.getElem?_eq_getElem hi)).2.1 e he hb
              exact ih e.on h1 (by omega)
          rw [hr] at hmem
          simp at hmem
    rw [hA.eq hB]
    refine hend _ w hS fun i o d ho hd => ?_
    rw [valsOf_at ho hd]
    exact hF i o d ho hd (hall i (Array.getElem?_eq_some_iff.1 ho).1)
  intro fuel
  induction fuel with
  | zero =>
    intro listed a w hl hs hS hA hF
    have hr : Region.ready md ops listed = [] := by
      rw [List.eq_nil_iff_forall_not_mem]
      intro i hi
      obtain ⟨h0, o, ho, _⟩ := mem_ready.1 hi
      have hi' := (Array.getElem?_eq_some_iff.1 ho).1
      have h0' : (!listed.getD i false) = true := by
        have hlt : i < listed.size := by omega
        simp [hlt] at h0 ⊢; exact h0
      have : 0 < left ops listed := List.countP_pos_iff.2 ⟨i, List.mem_range.2 hi', h0'⟩
      omega
    exact ⟨hr, hfin listed a w hs hS hA hF hr⟩
  | succ fuel ih =>
    intro listed a w hl hs hS hA hF
    refine ⟨hfin listed a w hs hS hA hF, fun i hi => ?_⟩
    obtain ⟨h0, o, ho, hdep⟩ := mem_ready.1 hi
    have hi' := (Array.getElem?_eq_some_iff.1 ho).1
    have hreg := regB_at hB ho
    unfold wpOp
    simp only [ho]
    have hw : Region.wanted o (yielded ops a.tmps) = true := by simp [Region.wanted, hreg.1]
    rw [if_pos hw]
    left
    have h1 := hop i o ho (valsOf ops a) w hS (fun j hj hdj => by
      simp only [depB, Array.any_eq_true, Bool.and_eq_true, beq_iff_eq] at hj
      obtain ⟨k, hk, hb, he⟩ := hj
      have hlj := hdep o.after[k] (Array.getElem_mem hk) hb
      rw [he] at hlj
      have hjlt : j < ops.size := by
        have := (hreg.2.1 o.after[k] (Array.getElem_mem hk) hb); omega
      cases hd : ops[j].dst with
      | none => simp [dstB, Array.getElem?_eq_getElem hjlt, hd] at hdj
      | some d =>
        rw [valsOf_at (Array.getElem?_eq_getElem hjlt) hd]
        exact hF j _ d (Array.getElem?_eq_getElem hjlt) hd hlj)
    rw [← hA.eq hB] at h1
    refine Oper.wp_mono (fun a' w' h2 => ?_) h1
    obtain ⟨v, rfl, hv, hS', hb⟩ := h2
    have hlt : i < listed.size := by omega
    refine ih _ _ w' ?_ (by simp [hs]) hS' ⟨by rw [put_defers]; exact hA.defers, by rw [put_size]; exact hA.size, fun s hsn => ?_⟩ (fun j oj d hoj hd hlj => ?_)
    · have : left ops (listed.setIfInBounds i true) < left ops listed := by
        refine countP_lt _ (fun x _ hx => ?_) (List.mem_range.2 hi') ?_ ?_
        · by_cases hxi : i = x
          · subst hxi; simp [hlt] at hx
          · rw [getD_set_ne _ hxi] at hx; exact hx
        · simp [hlt] at h0 ⊢; exact h0
        · simp [hlt]
      omega
    · rw [put_other _ _ _ _ (fun e => hsn (List.mem_filterMap.2 ⟨o, List.mem_of_getElem? (by rw [Array.getElem?_toList]; exact ho), e⟩))]
      exact hA.rest s hsn
    · by_cases hij : i = j
      · subst hij
        rw [ho] at hoj; cases hoj
        rw [hd, eval_tmp, put_same _ _ _ (by rw [hA.size]; exact hreg.2.2 d hd)]
        exact hv
      · have hne : o.dst ≠ some d := fun e => dst_ne hB ho hoj e hd hij rfl
        rw [eval_tmp, put_other _ _ _ _ hne, ← eval_tmp]
        rw [getD_set_ne _ hij] at hlj
        exact (hF j oj d hoj hd hlj).below hb
theorem wp_region_facts (facts : List Fact) (S : World → Prop) {id : Nat} {a0 : Act} {w : World} (hm : P.follows .mixedOrders = true) (hB : regB .any ops a0.tmps.size = true) (hS : S w.drew)
    (hop : ∀ (i : Nat) (o : Oper), ops[i]? = some o → ∀ (vs : Nat → Value) (w : World), S w → (∀ j, depB .any o j = true → dstB ops j = true → (facts.getD j .any).holds (vs j) w) →
      o.wp P (putL ops.toList 0 vs a0) w (Step facts S (putL ops.toList 0 vs a0) o.dst i w) Q)
    (hend : ∀ (vs : Nat → Value) (w : World), S w → (∀ (i : Nat) (o : Oper) (d : Nat), ops[i]? = some o → o.dst = some d → (facts.getD i .any).holds (vs i) w) → Q .normal (putL ops.toList 0 vs a0) w) :
    (Code.region id ops true).wp P Q a0 w :=
  wp_region_any hm (wpAny_facts facts S a0 hB hop hend ops.size _ a0 _ (by unfold left; exact Nat.le_trans List.countP_le_length (by simp)) (by simp) hS ⟨rfl, rfl, fun _ _ => rfl⟩ (fun i o d ho hd hl => by
    have hi := (Array.getElem?_eq_some_iff.1 ho).1
    simp [hi] at hl))
end
end Go.Proofs.YtikikddkhikfkaaDoor

set_option linter.all false
namespace Go.Proofs.YtikikddkhikfkaaDoor
open Go.RowKit
section
variable {P : Program} {ops : Array Oper} {Q : Exit → Act → World → Prop} {md : Region.Mode}
def StepF (F : Nat → Value → World → Prop) (R : World → World → Prop) (S : World → Prop) (a : Act) (d : Option Nat) (i : Nat) (w : World) (a' : Act) (w' : World) : Prop :=
  ∃ v, a' = a.put d v ∧ F i v w' ∧ S w' ∧ R w w'
theorem StepF.of {F : Nat → Value → World → Prop} {R : World → World → Prop} {S : World → Prop} {a : Act} {d : Option Nat} {i : Nat} {w : World} {a' : Act} {w' : World} (v : Value) (h1 : a' = a.put d v) (h2 : F i v w') (h3 : S w') (h4 : R w w') : StepF F R S a d i w a' w' := ⟨v, h1, h2, h3, h4⟩
theorem rep_getD (n K : Nat) : (Array.replicate n false).getD K false = false := by
  unfold Array.getD; split <;> simp
theorem wpAny_factsF (K : Nat) (F : Nat → Value → World → Prop) (R : World → World → Prop) (hF0 : ∀ i v w w', F i v w → R w w' → F i v w') (S : Bool → World → Prop) (a0 : Act) (hB : regB md ops a0.tmps.size = true)
    (hop : ∀ (i : Nat) (o : Oper), ops[i]? = some o → ∀ (b : Bool) (vs : Nat → Value) (w : World), S b w → (i = K → b = false) → (∀ j, depB md o j = true → dstB ops j = true → F j (vs j) w) →
      o.wp P (putL ops.toList 0 vs a0) w (StepF F R (S (b || i == K)) (putL ops.toList 0 vs a0) o.dst i w) Q)
    (hend : ∀ (vs : Nat → Value) (w : World), S (decide (K < ops.size)) w → (∀ (i : Nat) (o : Oper) (d : Nat), ops[i]? = some o → o.dst = some d → F i (vs i) w) → Q .normal (putL ops.toList 0 vs a0) w) :
    ∀ (fuel : Nat) (listed : Array Bool) (a : Act) (w : World), left ops listed ≤ fuel → listed.size = ops.size → S (listed.getD K false) w → Stand ops a0 a → (∀ (i : Nat) (o : Oper) (d : Nat), ops[i]? = some o → o.dst = some d → listed.getD i false = true → F i (a.eval (.tmp d)) w) → wpAny P md ops Q fuel listed a w := by
  have hfin : ∀ (listed : Array Bool) (a : Act) (w : World), listed.size = ops.size → S (listed.getD K false) w → Stand ops a0 a → (∀ (i : Nat) (o : Oper) (d : Nat), ops[i]? = some o → o.dst = some d → listed.getD i false = true → F i (a.eval (.tmp d)) w) → Region.ready md ops listed = [] → Q .normal a w := by
    intro listed a w hs hS hA hF hr
    have hall : ∀ i, i < ops.size → listed.getD i false = true := by
      intro i
      induction i using Nat.strongRecOn with
      | _ i ih =>
        intro hi
        by_cases hl : listed.getD i false = true
        · exact hl
        · exfalso
          have hmem : i ∈ Region.ready md ops listed := by
            refine mem_ready.2 ⟨?_, ops[i], Array.getElem?_eq_getElem hi, fun e he hb => ?_⟩
            · have hlt : i < listed.size := by omega
              simp [hlt] at hl ⊢; exact hl
            · have h1 := (regB_at hB (Array.getElem?_eq_getElem hi)).2.1 e he hb
              exact ih e.on h1 (by omega)
          rw [hr] at hmem
          simp at hmem
    rw [hA.eq hB]
    have hK : listed.getD K false = decide (K < ops.size) := by
      by_cases hk : K < ops.size
      · rw [hall K hk]; simp [hk]
      · simp [hs, hk]
    rw [hK] at hS
    refine hend _ w hS fun i o d ho hd => ?_
    rw [valsOf_at ho hd]
    exact hF i o d ho hd (hall i (Array.getElem?_eq_some_iff.1 ho).1)
  intro fuel
  induction fuel with
  | zero =>
    intro listed a w hl hs hS hA hF
    have hr : Region.ready md ops listed = [] := by
      rw [List.eq_nil_iff_forall_not_mem]
      intro i hi
      obtain ⟨h0, o, ho, _⟩ := mem_ready.1 hi
      have hi' := (Array.getElem?_eq_some_iff.1 ho).1
      have h0' : (!listed.getD i false) = true := by
        have hlt : i < listed.size := by omega
        simp [hlt] at h0 ⊢; exact h0
      have : 0 < left ops listed := List.countP_pos_iff.2 ⟨i, List.mem_range.2 hi', h0'⟩
      omega
    exact ⟨hr, hfin listed a w hs hS hA hF hr⟩
  | succ fuel ih =>
    intro listed a w hl hs hS hA hF
    refine ⟨hfin listed a w hs hS hA hF, fun i hi => ?_⟩
    obtain ⟨h0, o, ho, hdep⟩ := mem_ready.1 hi
    have hi' := (Array.getElem?_eq_some_iff.1 ho).1
    have hreg := regB_at hB ho
    unfold wpOp
    simp only [ho]
    have hw : Region.wanted o (yielded ops a.tmps) = true := by simp [Region.wanted, hreg.1]
    rw [if_pos hw]
    left
    have hnot : i = K → listed.getD K false = false := fun e => by
      subst e
      have hlt : i < listed.size := by omega
      simp [hlt] at h0 ⊢; exact h0
    have h1 := hop i o ho _ (valsOf ops a) w hS hnot (fun j hj hdj => by
      simp only [depB, Array.any_eq_true, Bool.and_eq_true, beq_iff_eq] at hj
      obtain ⟨k, hk, hb, he⟩ := hj
      have hlj := hdep o.after[k] (Array.getElem_mem hk) hb
      rw [he] at hlj
      have hjlt : j < ops.size := by
        have := (hreg.2.1 o.after[k] (Array.getElem_mem hk) hb); omega
      cases hd : ops[j].dst with
      | none => simp [dstB, Array.getElem?_eq_getElem hjlt, hd] at hdj
      | some d =>
        rw [valsOf_at (Array.getElem?_eq_getElem hjlt) hd]
        exact hF j _ d (Array.getElem?_eq_getElem hjlt) hd hlj)
    rw [← hA.eq hB] at h1
    refine Oper.wp_mono (fun a' w' h2 => ?_) h1
    obtain ⟨v, rfl, hv, hS', hb⟩ := h2
    have hlt : i < listed.size := by omega
    have hS2 : S ((listed.setIfInBounds i true).getD K false) w' := by
      by_cases hik : i = K
      · subst hik
        rw [show (listed.setIfInBounds i true).getD i false = true by simp [hlt]]
        simpa using hS'
      · rw [getD_set_ne _ hik]
        have e : (i == K) = false := by simpa using hik
        rw [e, Bool.or_false] at hS'
        exact hS'
    refine ih _ _ w' ?_ (by simp [hs]) hS2 ⟨by rw [put_defers]; exact hA.defers, by rw [put_size]; exact hA.size, fun s hsn => ?_⟩ (fun j oj d hoj hd hlj => ?_)
    · have : left ops (listed.setIfInBounds i true) < left ops listed := by
        refine countP_lt _ (fun x _ hx => ?_) (List.mem_range.2 hi') ?_ ?_
        · by_cases hxi : i = x
          · subst hxi; simp [hlt] at hx
          · rw [getD_set_ne _ hxi] at hx; exact hx
        · simp [hlt] at h0 ⊢; exact h0
        · simp [hlt]
      omega
    · rw [put_other _ _ _ _ (fun e => hsn (List.mem_filterMap.2 ⟨o, List.mem_of_getElem? (by rw [Array.getElem?_toList]; exact ho), e⟩))]
      exact hA.rest s hsn
    · by_cases hij : i = j
      · subst hij
        rw [ho] at hoj; cases hoj
        rw [hd, eval_tmp, put_same _ _ _ (by rw [hA.size]; exact hreg.2.2 d hd)]
        exact hv
      · have hne : o.dst ≠ some d := fun e => dst_ne hB ho hoj e hd hij rfl
        rw [eval_tmp, put_other _ _ _ _ hne, ← eval_tmp]
        rw [getD_set_ne _ hij] at hlj
        exact hF0 j _ _ _ (hF j oj d hoj hd hlj) hb
theorem wp_region_factsF (K : Nat) (F : Nat → Value → World → Prop) (R : World → World → Prop) (hF0 : ∀ i v w w', F i v w → R w w' → F i v w') (S : Bool → World → Prop) {id : Nat} {a0 : Act} {w : World} (hm : P.follows .mixedOrders = true) (hB : regB .any ops a0.tmps.size = true) (hS : S false w.drew)
    (hop : ∀ (i : Nat) (o : Oper), ops[i]? = some o → ∀ (b : Bool) (vs : Nat → Value) (w : World), S b w → (i = K → b = false) → (∀ j, depB .any o j = true → dstB ops j = true → F j (vs j) w) →
      o.wp P (putL ops.toList 0 vs a0) w (StepF F R (S (b || i == K)) (putL ops.toList 0 vs a0) o.dst i w) Q)
    (hend : ∀ (vs : Nat → Value) (w : World), S (decide (K < ops.size)) w → (∀ (i : Nat) (o : Oper) (d : Nat), ops[i]? = some o → o.dst = some d → F i (vs i) w) → Q .normal (putL ops.toList 0 vs a0) w) :
    (Code.region id ops true).wp P Q a0 w :=
  wp_region_any hm (wpAny_factsF K F R hF0 S a0 hB hop hend ops.size _ a0 _ (by unfold left; exact Nat.le_trans List.countP_le_length (by simp)) (by simp) (by rw [rep_getD]; exact hS) ⟨rfl, rfl, fun _ _ => rfl⟩ (fun i o d ho hd hl => by
    have hi := (Array.getElem?_eq_some_iff.1 ho).1
    simp [hi] at hl))
end
end Go.Proofs.YtikikddkhikfkaaDoor

set_option linter.all false
namespace Go.Proofs.YtikikddkhikfkaaDoor
open Go.RowKit
section
variable {P : Program} {ops : Array Oper} {Q : Exit → Act → World → Prop} {md : Region.Mode}
theorem wpAny_factsS (F : Nat → Value → World → Prop) (R : World → World → Prop) (hF0 : ∀ i v w w', F i v w → R w w' → F i v w') (S : (Nat → Bool) → World → Prop) (a0 : Act) (hB : regB md ops a0.tmps.size = true)
    (hop : ∀ (i : Nat) (o : Oper), ops[i]? = some o → ∀ (b : Nat → Bool) (vs : Nat → Value) (w : World), S b w → b i = false → (∀ j, depB md o j = true → dstB ops j = true → F j (vs j) w) →
      o.wp P (putL ops.toList 0 vs a0) w (StepF F R (S (fun j => b j || i == j)) (putL ops.toList 0 vs a0) o.dst i w) Q)
    (hend : ∀ (vs : Nat → Value) (w : World), S (fun j => decide (j < ops.size)) w → (∀ (i : Nat) (o : Oper) (d : Nat), ops[i]? = some o → o.dst = some d → F i (vs i) w) → Q .normal (putL ops.toList 0 vs a0) w) :
    ∀ (fuel : Nat) (listed : Array Bool) (a : Act) (w : World), left ops listed ≤ fuel → listed.size = ops.size → S (fun j => listed.getD j false) w → Stand ops a0 a → (∀ (i : Nat) (o : Oper) (d : Nat), ops[i]? = some o → o.dst = some d → listed.getD i false = true → F i (a.eval (.tmp d)) w) → wpAny P md ops Q fuel listed a w := by
  have hfin : ∀ (listed : Array Bool) (a : Act) (w : World), listed.size = ops.size → S (fun j => listed.getD j false) w → Stand ops a0 a → (∀ (i : Nat) (o : Oper) (d : Nat), ops[i]? = some o → o.dst = some d → listed.getD i false = true → F i (a.eval (.tmp d)) w) → Region.ready md ops listed = [] → Q .normal a w := by
    intro listed a w hs hS hA hF hr
    have hall : ∀ i, i < ops.size → listed.getD i false = true := by
      intro i
      induction i using Nat.strongRecOn with
      | _ i ih =>
        intro hi
        by_cases hl : listed.getD i false = true
        · exact hl
        · exfalso
          have hmem : i ∈ Region.ready md ops listed := by
            refine mem_ready.2 ⟨?_, ops[i], Array.getElem?_eq_getElem hi, fun e he hb => ?_⟩
            · have hlt : i < listed.size := by omega
              simp [hlt] at hl ⊢; exact hl
            · have h1 := (regB_at hB (Array.getElem?_eq_getElem hi)).2.1 e he hb
              exact ih e.on h1 (by omega)
          rw [hr] at hmem
          simp at hmem
    rw [hA.eq hB]
    have hK : (fun j => listed.getD j false) = fun j => decide (j < ops.size) := by
      funext j
      by_cases hk : j < ops.size
      · rw [hall j hk]; simp [hk]
      · simp [hs, hk]
    rw [hK] at hS
    refine hend _ w hS fun i o d ho hd => ?_
    rw [valsOf_at ho hd]
    exact hF i o d ho hd (hall i (Array.getElem?_eq_some_iff.1 ho).1)
  intro fuel
  induction fuel with
  | zero =>
    intro listed a w hl hs hS hA hF
    have hr : Region.ready md ops listed = [] := by
      rw [List.eq_nil_iff_forall_not_mem]
      intro i hi
      obtain ⟨h0, o, ho, _⟩ := mem_ready.1 hi
      have hi' := (Array.getElem?_eq_some_iff.1 ho).1
      have h0' : (!listed.getD i false) = true := by
        have hlt : i < listed.size := by omega
        simp [hlt] at h0 ⊢; exact h0
      have : 0 < left ops listed := List.countP_pos_iff.2 ⟨i, List.mem_range.2 hi', h0'⟩
      omega
    exact ⟨hr, hfin listed a w hs hS hA hF hr⟩
  | succ fuel ih =>
    intro listed a w hl hs hS hA hF
    refine ⟨hfin listed a w hs hS hA hF, fun i hi => ?_⟩
    obtain ⟨h0, o, ho, hdep⟩ := mem_ready.1 hi
    have hi' := (Array.getElem?_eq_some_iff.1 ho).1
    have hreg := regB_at hB ho
    unfold wpOp
    simp only [ho]
    have hw : Region.wanted o (yielded ops a.tmps) = true := by simp [Region.wanted, hreg.1]
    rw [if_pos hw]
    left
    have hnot : listed.getD i false = false := by
      have hlt : i < listed.size := by omega
      simp [hlt] at h0 ⊢; exact h0
    have h1 := hop i o ho _ (valsOf ops a) w hS hnot (fun j hj hdj => by
      simp only [depB, Array.any_eq_true, Bool.and_eq_true, beq_iff_eq] at hj
      obtain ⟨k, hk, hb, he⟩ := hj
      have hlj := hdep o.after[k] (Array.getElem_mem hk) hb
      rw [he] at hlj
      have hjlt : j < ops.size := by
        have := (hreg.2.1 o.after[k] (Array.getElem_mem hk) hb); omega
      cases hd : ops[j].dst with
      | none => simp [dstB, Array.getElem?_eq_getElem hjlt, hd] at hdj
      | some d =>
        rw [valsOf_at (Array.getElem?_eq_getElem hjlt) hd]
        exact hF j _ d (Array.getElem?_eq_getElem hjlt) hd hlj)
    rw [← hA.eq hB] at h1
    refine Oper.wp_mono (fun a' w' h2 => ?_) h1
    obtain ⟨v, rfl, hv, hS', hb⟩ := h2
    have hlt : i < listed.size := by omega
    have hS2 : S (fun j => (listed.setIfInBounds i true).getD j false) w' := by
      have e : (fun j => (listed.setIfInBounds i true).getD j false) = fun j => listed.getD j false || i == j := by
        funext j
        by_cases hij : i = j
        · subst hij; simp [hlt]
        · rw [getD_set_ne _ hij]; simp [hij]
      rw [e]; exact hS'
    refine ih _ _ w' ?_ (by simp [hs]) hS2 ⟨by rw [put_defers]; exact hA.defers, by rw [put_size]; exact hA.size, fun s hsn => ?_⟩ (fun j oj d hoj hd hlj => ?_)
    · have : left ops (listed.setIfInBounds i true) < left ops listed := by
        refine countP_lt _ (fun x _ hx => ?_) (List.mem_range.2 hi') ?_ ?_
        · by_cases hxi : i = x
          · subst hxi; simp [hlt] at hx
          · rw [getD_set_ne _ hxi] at hx; exact hx
        · simp [hlt] at h0 ⊢; exact h0
        · simp [hlt]
      omega
    · rw [put_other _ _ _ _ (fun e => hsn (List.mem_filterMap.2 ⟨o, List.mem_of_getElem? (by rw [Array.getElem?_toList]; exact ho), e⟩))]
      exact hA.rest s hsn
    · by_cases hij : i = j
      · subst hij
        rw [ho] at hoj; cases hoj
        rw [hd, eval_tmp, put_same _ _ _ (by rw [hA.size]; exact hreg.2.2 d hd)]
        exact hv
      · have hne : o.dst ≠ some d := fun e => dst_ne hB ho hoj e hd hij rfl
        rw [eval_tmp, put_other _ _ _ _ hne, ← eval_tmp]
        rw [getD_set_ne _ hij] at hlj
        exact hF0 j _ _ _ (hF j oj d hoj hd hlj) hb
theorem none_done {S : (Nat → Bool) → World → Prop} {n : Nat} {w : World} (h : S (fun _ => false) w) : S (fun j => (Array.replicate n false).getD j false) w := by
  have e : (fun j => (Array.replicate n false).getD j false) = fun _ => false := funext fun j => rep_getD _ _
  rw [e]; exact h
theorem wp_region_factsS (F : Nat → Value → World → Prop) (R : World → World → Prop) (hF0 : ∀ i v w w', F i v w → R w w' → F i v w') (S : (Nat → Bool) → World → Prop) {id : Nat} {a0 : Act} {w : World} (hm : P.follows .mixedOrders = true) (hB : regB .any ops a0.tmps.size = true) (hS : S (fun _ => false) w.drew)
    (hop : ∀ (i : Nat) (o : Oper), ops[i]? = some o → ∀ (b : Nat → Bool) (vs : Nat → Value) (w : World), S b w → b i = false → (∀ j, depB .any o j = true → dstB ops j = true → F j (vs j) w) →
      o.wp P (putL ops.toList 0 vs a0) w (StepF F R (S (fun j => b j || i == j)) (putL ops.toList 0 vs a0) o.dst i w) Q)
    (hend : ∀ (vs : Nat → Value) (w : World), S (fun j => decide (j < ops.size)) w → (∀ (i : Nat) (o : Oper) (d : Nat), ops[i]? = some o → o.dst = some d → F i (vs i) w) → Q .normal (putL ops.toList 0 vs a0) w) :
    (Code.region id ops true).wp P Q a0 w :=
  wp_region_any hm (wpAny_factsS F R hF0 S a0 hB hop hend ops.size _ a0 _ (by unfold left; exact Nat.le_trans List.countP_le_length (by simp)) (by simp) (none_done hS) ⟨rfl, rfl, fun _ _ => rfl⟩ (fun i o d ho hd hl => by
    have hi := (Array.getElem?_eq_some_iff.1 ho).1
    simp [hi] at hl))
end
end Go.Proofs.YtikikddkhikfkaaDoor

set_option linter.all false
namespace Go.Proofs.YtikikddkhikfkaaDoor
open Go.RowKit
section
variable {P : Program} {ops : Array Oper} {Q : Exit → Act → World → Prop} {md : Region.Mode}
theorem wpAny_factsG (K : Nat) (oK : Oper) (hK : ops[K]? = some oK) (hKd : oK.dst = none) (F : Bool → Nat → Value → World → Prop) (R : World → World → Prop) (hF0 : ∀ b i v w w', F b i v w → R w w' → F b i v w') (S : Bool → World → Prop) (a0 : Act) (hB : regB md ops a0.tmps.size = true)
    (hop : ∀ (i : Nat) (o : Oper), ops[i]? = some o → i ≠ K → ∀ (b : Bool) (vs : Nat → Value) (w : World), S b w → (b = true → depB md oK i = false) → (∀ j, depB md o j = true → dstB ops j = true → F b j (vs j) w) →
      o.wp P (putL ops.toList 0 vs a0) w (StepF (F b) R (S b) (putL ops.toList 0 vs a0) o.dst i w) Q)
    (hst : ∀ (vs : Nat → Value) (w : World), S false w → (∀ j, depB md oK j = true → dstB ops j = true → F false j (vs j) w) →
      oK.wp P (putL ops.toList 0 vs a0) w (fun a' w' => a' = putL ops.toList 0 vs a0 ∧ S true w' ∧ ∀ j, F false j (vs j) w → F true j (vs j) w') Q)
    (hend : ∀ (vs : Nat → Value) (w : World), S true w → (∀ (i : Nat) (o : Oper) (d : Nat), ops[i]? = some o → o.dst = some d → F true i (vs i) w) → Q .normal (putL ops.toList 0 vs a0) w) :
    ∀ (fuel : Nat) (listed : Array Bool) (a : Act) (w : World), left ops listed ≤ fuel → listed.size = ops.size → (listed.getD K false = true → ∀ j, depB md oK j = true → listed.getD j false = true) → S (listed.getD K false) w → Stand ops a0 a → (∀ (i : Nat) (o : Oper) (d : Nat), ops[i]? = some o → o.dst = some d → listed.getD i false = true → F (listed.getD K false) i (a.eval (.tmp d)) w) → wpAny P md ops Q fuel listed a w := by
  have hfin : ∀ (listed : Array Bool) (a : Act) (w : World), listed.size = ops.size → S (listed.getD K false) w → Stand ops a0 a → (∀ (i : Nat) (o : Oper) (d : Nat), ops[i]? = some o → o.dst = some d → listed.getD i false = true → F (listed.getD K false) i (a.eval (.tmp d)) w) → Region.ready md ops listed = [] → Q .normal a w := by
    intro listed a w hs hS hA hF hr
    have hall : ∀ i, i < ops.size → listed.getD i false = true := by
      intro i
      induction i using Nat.strongRecOn with
      | _ i ih =>
        intro hi
        by_cases hl : listed.getD i false = true
        · exact hl
        · exfalso
          have hmem : i ∈ Region.ready md ops listed := by
            refine mem_ready.2 ⟨?_, ops[i], Array.getElem?_eq_getElem hi, fun e he hb => ?_⟩
            · have hlt : i < listed.size := by omega
              simp [hlt] at hl ⊢; exact hl
            · have h1 := (regB_at hB (Array.getElem?_eq_getElem hi)).2.1 e he hb
              exact ih e.on h1 (by omega)
          rw [hr] at hmem
          simp at hmem
    rw [hA.eq hB]
    have hK' : listed.getD K false = true := hall K (Array.getElem?_eq_some_iff.1 hK).1
    rw [hK'] at hS
    refine hend _ w hS fun i o d ho hd => ?_
    rw [valsOf_at ho hd]
    have h5 := hF i o d ho hd (hall i (Array.getElem?_eq_some_iff.1 ho).1)
    rw [hK'] at h5
    exact h5
  intro fuel
  induction fuel with
  | zero =>
    intro listed a w hl hs hcl hS hA hF
    have hr : Region.ready md ops listed = [] := by
      rw [List.eq_nil_iff_forall_not_mem]
      intro i hi
      obtain ⟨h0, o, ho, _⟩ := mem_ready.1 hi
      have hi' := (Array.getElem?_eq_some_iff.1 ho).1
      have h0' : (!listed.getD i false) = true := by
        have hlt : i < listed.size := by omega
        simp [hlt] at h0 ⊢; exact h0
      have : 0 < left ops listed := List.countP_pos_iff.2 ⟨i, List.mem_range.2 hi', h0'⟩
      omega
    exact ⟨hr, hfin listed a w hs hS hA hF hr⟩
  | succ fuel ih =>
    intro listed a w hl hs hcl hS hA hF
    refine ⟨hfin listed a w hs hS hA hF, fun i hi => ?_⟩
    obtain ⟨h0, o, ho, hdep⟩ := mem_ready.1 hi
    have hi' := (Array.getElem?_eq_some_iff.1 ho).1
    have hreg := regB_at hB ho
    unfold wpOp
    simp only [ho]
    have hw : Region.wanted o (yielded ops a.tmps) = true := by simp [Region.wanted, hreg.1]
    rw [if_pos hw]
    left
    have hlt : i < listed.size := by omega
    have hli : listed.getD i false = false := by simp [hlt] at h0 ⊢; exact h0
    have hleft : left ops (listed.setIfInBounds i true) < left ops listed := by
      refine countP_lt _ (fun x _ hx => ?_) (List.mem_range.2 hi') ?_ ?_
      · by_cases hxi : i = x
        · subst hxi; simp [hlt] at hx
        · rw [getD_set_ne _ hxi] at hx; exact hx
      · simp [hlt] at h0 ⊢; exact h0
      · simp [hlt]
    have hset : (listed.setIfInBounds i true).getD i false = true := by simp [hlt]
    have hdl : ∀ j, depB md o j = true → listed.getD j false = true := fun j hj => by
      simp only [depB, Array.any_eq_true, Bool.and_eq_true, beq_iff_eq] at hj
      obtain ⟨k, hk, hb, he⟩ := hj
      have hlj := hdep o.after[k] (Array.getElem_mem hk) hb
      rw [he] at hlj
      exact hlj
    have hdeps : ∀ j, depB md o j = true → dstB ops j = true → F (listed.getD K false) j (valsOf ops a j) w := fun j hj hdj => by
      have hlj := hdl j hj
      simp only [depB, Array.any_eq_true, Bool.and_eq_true, beq_iff_eq] at hj
      obtain ⟨k, hk, hb, he⟩ := hj
      have hjlt : j < ops.size := by
        have := (hreg.2.1 o.after[k] (Array.getElem_mem hk) hb); omega
      cases hd : ops[j].dst with
      | none => simp [dstB, Array.getElem?_eq_getElem hjlt, hd] at hdj
      | some d =>
        rw [valsOf_at (Array.getElem?_eq_getElem hjlt) hd]
        exact hF j _ d (Array.getElem?_eq_getElem hjlt) hd hlj
    by_cases hik : i = K
    · subst hik
      rw [hK] at ho
      cases ho
      rw [hli] at hS hdeps
      have h1 := hst (valsOf ops a) w hS hdeps
      rw [← hA.eq hB] at h1
      refine Oper.wp_mono (fun a' w' h2 => ?_) h1
      obtain ⟨rfl, hS', hT⟩ := h2
      refine ih _ _ w' (by omega) (by simp [hs]) (fun _ j hj => ?_) (by rw [hset]; exact hS') hA (fun j oj d hoj hd hlj => ?_)
      · by_cases hij : i = j
        · subst hij; exact hset
        · rw [getD_set_ne _ hij]; exact hdl j hj
      · rw [hset]
        by_cases hij : i = j
        · subst hij
          rw [hK] at hoj; cases hoj
          rw [hKd] at hd; cases hd
        · rw [getD_set_ne _ hij] at hlj
          have h5 := hF j oj d hoj hd hlj
          rw [hli, ← valsOf_at hoj hd] at h5
          have h6 := hT j h5
          rw [valsOf_at hoj hd] at h6
          exact h6
    · have hKs : (listed.setIfInBounds i true).getD K false = listed.getD K false := getD_set_ne _ hik
      have h1 := hop i o ho hik _ (valsOf ops a) w hS (fun hb => by
        cases hdb : depB md oK i with
        | false => rfl
        | true =>
          have := hcl hb i hdb
          rw [hli] at this; cases this) hdeps
      rw [← hA.eq hB] at h1
      refine Oper.wp_mono (fun a' w' h2 => ?_) h1
      obtain ⟨v, rfl, hv, hS', hb⟩ := h2
      refine ih _ _ w' (by omega) (by simp [hs]) (fun hb j hj => ?_) (by rw [hKs]; exact hS') ⟨by rw [put_defers]; exact hA.defers, by rw [put_size]; exact hA.size, fun s hsn => ?_⟩ (fun j oj d hoj hd hlj => ?_)
      · rw [hKs] at hb
        by_cases hij : i = j
        · subst hij; exact hset
        · rw [getD_set_ne _ hij]; exact hcl hb j hj
      · rw [put_other _ _ _ _ (fun e => hsn (List.mem_filterMap.2 ⟨o, List.mem_of_getElem? (by rw [Array.getElem?_toList]; exact ho), e⟩))]
        exact hA.rest s hsn
      · rw [hKs]
        by_cases hij : i = j
        · subst hij
          rw [ho] at hoj; cases hoj
          rw [hd, eval_tmp, put_same _ _ _ (by rw [hA.size]; exact hreg.2.2 d hd)]
          exact hv
        · have hne : o.dst ≠ some d := fun e => dst_ne hB ho hoj e hd hij rfl
          rw [eval_tmp, put_other _ _ _ _ hne, ← eval_tmp]
          rw [getD_set_ne _ hij] at hlj
          exact hF0 _ j _ _ _ (hF j oj d hoj hd hlj) hb
theorem wp_region_factsG (K : Nat) (oK : Oper) (hK : ops[K]? = some oK) (hKd : oK.dst = none) (F : Bool → Nat → Value → World → Prop) (R : World → World → Prop) (hF0 : ∀ b i v w w', F b i v w → R w w' → F b i v w') (S : Bool → World → Prop) {id : Nat} {a0 : Act} {w : World} (hm : P.follows .mixedOrders = true) (hB : regB .any ops a0.tmps.size = true) (hS : S false w.drew)
    (hop : ∀ (i : Nat) (o : Oper), ops[i]? = some o → i ≠ K → ∀ (b : Bool) (vs : Nat → Value) (w : World), S b w → (b = true → depB .any oK i = false) → (∀ j, depB .any o j = true → dstB ops j = true → F b j (vs j) w) →
      o.wp P (putL ops.toList 0 vs a0) w (StepF (F b) R (S b) (putL ops.toList 0 vs a0) o.dst i w) Q)
    (hst : ∀ (vs : Nat → Value) (w : World), S false w → (∀ j, depB .any oK j = true → dstB ops j = true → F false j (vs j) w) →
      oK.wp P (putL ops.toList 0 vs a0) w (fun a' w' => a' = putL ops.toList 0 vs a0 ∧ S true w' ∧ ∀ j, F false j (vs j) w → F true j (vs j) w') Q)
    (hend : ∀ (vs : Nat → Value) (w : World), S true w → (∀ (i : Nat) (o : Oper) (d : Nat), ops[i]? = some o → o.dst = some d → F true i (vs i) w) → Q .normal (putL ops.toList 0 vs a0) w) :
    (Code.region id ops true).wp P Q a0 w :=
  wp_region_any hm (wpAny_factsG K oK hK hKd F R hF0 S a0 hB hop hst hend ops.size _ a0 _ (by unfold left; exact Nat.le_trans List.countP_le_length (by simp)) (by simp) (fun h => by rw [rep_getD] at h; cases h) (by rw [rep_getD]; exact hS) ⟨rfl, rfl, fun _ _ => rfl⟩ (fun i o d ho hd hl => by
    have hi := (Array.getElem?_eq_some_iff.1 ho).1
    simp [hi] at hl))
/-- as wp_region_factsG; the store's operation is not named -/
theorem wp_region_factsG2 (K : Nat) (hK : (match ops[K]? with | some o => o.dst.isNone | none => false) = true) (F : Bool → Nat → Value → World → Prop) (R : World → World → Prop) (hF0 : ∀ b i v w w', F b i v w → R w w' → F b i v w') (S : Bool → World → Prop) {id : Nat} {a0 : Act} {w : World} (hm : P.follows .mixedOrders = true) (hB : regB .any ops a0.tmps.size = true) (hS : S false w.drew)
    (hop : ∀ (i : Nat) (o : Oper), ops[i]? = some o → i ≠ K → ∀ (b : Bool) (vs : Nat → Value) (w : World), S b w → (b = true → ∀ oK, ops[K]? = some oK → depB .any oK i = false) → (∀ j, depB .any o j = true → dstB ops j = true → F b j (vs j) w) →
      o.wp P (putL ops.toList 0 vs a0) w (StepF (F b) R (S b) (putL ops.toList 0 vs a0) o.dst i w) Q)
    (hst : ∀ (o : Oper), ops[K]? = some o → ∀ (vs : Nat → Value) (w : World), S false w → (∀ j, depB .any o j = true → dstB ops j = true → F false j (vs j) w) →
      o.wp P (putL ops.toList 0 vs a0) w (fun a' w' => a' = putL ops.toList 0 vs a0 ∧ S true w' ∧ ∀ j, F false j (vs j) w → F true j (vs j) w') Q)
    (hend : ∀ (vs : Nat → Value) (w : World), S true w → (∀ (i : Nat) (o : Oper) (d : Nat), ops[i]? = some o → o.dst = some d → F true i (vs i) w) → Q .normal (putL ops.toList 0 vs a0) w) :
    (Code.region id ops true).wp P Q a0 w := by
  cases ho : ops[K]? with
  | none => rw [ho] at hK; cases hK
  | some oK =>
    rw [ho] at hK
    refine wp_region_factsG K oK ho ?_ F R hF0 S hm hB hS (fun i o h1 h2 b vs w h3 h4 h5 => hop i o h1 h2 b vs w h3 (fun hb oK' h6 => ?_) h5) (hst oK ho) hend
    · simpa using hK
    · rw [ho] at h6; injection h6 with h6; subst h6; exact h4 hb
end
end Go.Proofs.YtikikddkhikfkaaDoor
