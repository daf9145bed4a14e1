/-
  FnFair's plain law, told of seats: in as many turns as all have power together each seat of a small set proposes as often as it has power. By the session.
-/
import Derived.Test.YtikikddkhikfkaaFairFar
import Derived.Test.YtikikddkhikfkaaTurn
import Derived.Test.YtikikddkhikfkaaSpec1
import Derived.Test.YtikikddkhikfkaaPure
set_option linter.unusedSimpArgs false
namespace Go.Proofs.Ytikikddkhikfkaa
open Go.RowKit

theorem bytesLess_split : ∀ (a b c : List UInt8), Op.bytesLess a c = true → Op.bytesLess a b = true ∨ Op.bytesLess b c = true := by
  intro a
  induction a with
  | nil =>
    intro b c h
    cases b with
    | nil => exact .inr h
    | cons y s => exact .inl rfl
  | cons x r ih =>
    intro b c h
    cases c with
    | nil => simp [Op.bytesLess] at h
    | cons z t =>
      cases b with
      | nil => exact .inr rfl
      | cons y s =>
        simp only [Op.bytesLess, Bool.or_eq_true, decide_eq_true_eq, Bool.and_eq_true, beq_iff_eq] at h ⊢
        rcases h with h | ⟨rfl, h⟩
        · by_cases h1 : x < y
          · exact .inl (.inl h1)
          · by_cases h2 : y < x
            · exact .inr (.inl (UInt8.lt_trans h2 h))
            · have : x = y := UInt8.le_antisymm (UInt8.not_lt.1 h2) (UInt8.not_lt.1 h1)
              subst this; exact .inr (.inl h)
        · by_cases h1 : x < y
          · exact .inl (.inl h1)
          · by_cases h2 : y < x
            · exact .inr (.inl h2)
            · have : x = y := UInt8.le_antisymm (UInt8.not_lt.1 h2) (UInt8.not_lt.1 h1)
              subst this
              rcases ih s t h with h | h
              · exact .inl (.inr ⟨rfl, h⟩)
              · exact .inr (.inr ⟨rfl, h⟩)
theorem bytesLess_irrefl : ∀ (a : List UInt8), Op.bytesLess a a = false
  | [] => rfl
  | x :: r => by simp [Op.bytesLess, bytesLess_irrefl r]
theorem bytesLess_asymm {a b : List UInt8} (h : Op.bytesLess a b = true) : Op.bytesLess b a = false := by
  by_cases e : a = b
  · subst e; rw [bytesLess_irrefl] at h; cases h
  · rw [bytesLess_anti a b e] at h; simpa using h
theorem bytesLess_trans {a b c : List UInt8} (h : Op.bytesLess a b = true) (k : Op.bytesLess b c = true) : Op.bytesLess a c = true := by
  rcases bytesLess_split a c b h with h1 | h1
  · exact h1
  · have := bytesLess_asymm k; rw [h1] at this; cases this

/-! the order of a set -/
theorem beforeB_iff (x y : Sd) : beforeB x y = true ↔ y.pow < x.pow ∨ (x.pow = y.pow ∧ Op.bytesLess x.adr.toList y.adr.toList = true) := by
  simp [beforeB]
theorem beforeB_split {x y z : Sd} (h : beforeB x z = true) : beforeB x y = true ∨ beforeB y z = true := by
  simp only [beforeB_iff] at *
  rcases h with h | ⟨h1, h2⟩
  · omega
  · rcases bytesLess_split _ y.adr.toList _ h2 with h3 | h3
    · by_cases e : x.pow = y.pow
      · exact .inl (.inr ⟨e, h3⟩)
      · omega
    · by_cases e : y.pow = z.pow
      · exact .inr (.inr ⟨e, h3⟩)
      · omega
theorem beforeB_asymm {x y : Sd} (h : beforeB x y = true) : beforeB y x = false := by
  rw [Bool.eq_false_iff]
  intro k
  simp only [beforeB_iff] at *
  rcases h with h | ⟨h1, h2⟩
  · omega
  · rcases k with k | ⟨k1, k2⟩
    · omega
    · have := bytesLess_asymm h2; rw [k2] at this; cases this
def ordered (l : List Sd) : Prop := l.Pairwise fun a b => beforeB b a = false
theorem insK_le (x : Sd) (acc : List Sd) : ∀ k, insK x acc k ≤ k
  | 0 => Nat.le_refl _
  | k + 1 => by
    unfold insK
    split
    · split
      · exact Nat.le_succ_of_le (insK_le x acc k)
      · exact Nat.le_refl _
    · exact Nat.le_refl _
theorem insK_right (x : Sd) (acc : List Sd) : ∀ k, k ≤ acc.length → ∀ j y, insK x acc k ≤ j → j < k → acc[j]? = some y → beforeB x y = true
  | 0 => fun _ j y _ h => absurd h (by omega)
  | k + 1 => fun hk j y h1 h2 hy => by
    have hx : acc[k]? = some acc[k] := List.getElem?_eq_getElem (by omega)
    unfold insK at h1
    rw [hx] at h1
    simp only at h1
    split at h1
    · rename_i hb
      by_cases e : j = k
      · subst e; rw [hx] at hy; cases hy; exact hb
      · exact insK_right x acc k (by omega) j y h1 (by omega) hy
    · omega
theorem insK_left (x : Sd) (acc : List Sd) : ∀ k, k ≤ acc.length → ∀ y, 0 < insK x acc k → acc[insK x acc k - 1]? = some y → beforeB x y = false
  | 0 => fun _ y h => absurd h (by simp [insK])
  | k + 1 => fun hk y h hy => by
    have hx : acc[k]? = some acc[k] := List.getElem?_eq_getElem (by omega)
    unfold insK at h hy
    rw [hx] at h hy
    simp only at h hy
    split at h
    · rename_i hb
      rw [if_pos hb] at hy
      exact insK_left x acc k (by omega) y h hy
    · rename_i hb
      rw [if_neg hb] at hy
      simp only [Nat.add_sub_cancel] at hy
      rw [hx] at hy; cases hy
      simpa using hb
theorem insR_ordered {acc : List Sd} (x : Sd) (h : ordered acc) : ordered (insR acc x) := by
  have hk := insK_le x acc acc.length
  have hr := insK_right x acc acc.length (Nat.le_refl _)
  have hl := insK_left x acc acc.length (Nat.le_refl _)
  unfold insR
  generalize insK x acc acc.length = k at *
  have hsplit : acc.take k ++ acc.drop k = acc := List.take_append_drop _ _
  have h' := h
  rw [← hsplit] at h'
  unfold ordered at *
  rw [List.pairwise_append] at h' ⊢
  refine ⟨h'.1, ?_, ?_⟩
  · rw [List.pairwise_cons]
    refine ⟨fun y hy => ?_, h'.2.1⟩
    obtain ⟨j, hj⟩ := List.mem_iff_getElem?.1 hy
    rw [List.getElem?_drop] at hj
    have hlt := (List.getElem?_eq_some_iff.1 hj).1
    exact beforeB_asymm (hr (k + j) y (by omega) hlt hj)
  · intro a ha b hb
    rcases List.mem_cons.1 hb with rfl | hb
    · obtain ⟨j, hj⟩ := List.mem_iff_getElem?.1 ha
      rw [List.getElem?_take] at hj
      split at hj
      · rename_i hjk
        have hy : acc[k - 1]? = some acc[k - 1] := List.getElem?_eq_getElem (by omega)
        have h1 := hl _ (by omega) hy
        rw [Bool.eq_false_iff]
        intro hba
        rcases beforeB_split (y := acc[k - 1]) hba with h2 | h2
        · rw [h1] at h2; cases h2
        · have hjl := List.getElem?_eq_some_iff.1 hj
          by_cases e : j = k - 1
          · subst e
            rw [hjl.2] at h2
            have := beforeB_asymm h2; rw [h2] at this; cases this
          · rw [List.pairwise_iff_getElem] at h
            have h3 := h j (k - 1) hjl.1 (by omega) (by omega)
            rw [hjl.2] at h3
            rw [h3] at h2; cases h2
      · cases hj
    · exact h'.2.2 a ha b hb
theorem rankedL_ordered (l : List Sd) : ordered (rankedL l) := by
  have : ∀ (l acc : List Sd), ordered acc → ordered (l.foldl insR acc) := by
    intro l
    induction l with
    | nil => intro acc h; exact h
    | cons x r ih => intro acc h; exact ih _ (insR_ordered x h)
  exact this l [] List.Pairwise.nil

/-! who is ahead -/
theorem aheadB_iff (x y : Sd) : aheadB x y = true ↔ y.pri < x.pri ∨ (x.pri = y.pri ∧ Op.bytesLess x.adr.toList y.adr.toList = true) := by
  simp [aheadB]
theorem aheadB_trans {x y z : Sd} (h : aheadB x y = true) (k : aheadB y z = true) : aheadB x z = true := by
  simp only [aheadB_iff] at *
  rcases h with h | ⟨h1, h2⟩
  · rcases k with k | ⟨k1, k2⟩ <;> omega
  · rcases k with k | ⟨k1, k2⟩
    · omega
    · exact .inr ⟨h1.trans k1, bytesLess_trans h2 k2⟩
theorem propOf_ahead {l : List Sd} (hd : distinct l) {q : Sd × Nat} (hq : propOf l = some q) : ∀ i y, l[i]? = some y → i ≠ q.2 → aheadB q.1 y = true := by
  have : ∀ k, k ≤ l.length → ∀ q, (l.zipIdx.take k).foldl pstep none = some q → l[q.2]? = some q.1 ∧ q.2 < k ∧ ∀ i y, i < k → l[i]? = some y → i ≠ q.2 → aheadB q.1 y = true := by
    intro k
    induction k with
    | zero => intro _ q h; simp at h
    | succ k ih =>
      intro hk q hq
      have hlk : l[k]? = some l[k] := List.getElem?_eq_getElem (by omega)
      have hx : l.zipIdx[k]? = some (l[k], k) := by rw [List.getElem?_zipIdx, hlk]; simp
      rw [foldl_take_succ pstep none l.zipIdx k _ hx] at hq
      cases hb : (l.zipIdx.take k).foldl pstep none with
      | none =>
        rw [hb] at hq
        simp only [pstep, Option.some.injEq] at hq
        subst hq
        refine ⟨hlk, Nat.lt_succ_self _, fun i y hi hy hne => ?_⟩
        exfalso
        -- nothing ahead of it: k = 0
        by_cases e : k = 0
        · simp at hne; omega
        · have h1 := propOf_at (l.take k) (fun h => by have := congrArg List.length h; rw [List.length_take] at this; simp only [List.length_nil] at this; omega)
          obtain ⟨q', h1, _⟩ := h1
          unfold propOf at h1
          have h2 : (l.take k).zipIdx = l.zipIdx.take k := by
            apply List.ext_getElem?
            intro i
            rw [List.getElem?_zipIdx, List.getElem?_take, List.getElem?_take]
            split
            · rw [List.getElem?_zipIdx]
            · rfl
          rw [h2, hb] at h1
          cases h1
      | some p =>
        rw [hb] at hq
        obtain ⟨g1, g2, g3⟩ := ih (by omega) p hb
        have hne : p.1.adr.toList ≠ l[k].adr.toList := hd p.2 k p.1 l[k] g1 hlk (by omega)
        have hbeq : (p.1.adr.toList == l[k].adr.toList) = false := by simpa using hne
        simp only [pstep, hbeq, Bool.false_or] at hq
        split at hq
        · rename_i ha
          cases hq
          refine ⟨g1, by omega, fun i y hi hy hn => ?_⟩
          by_cases e : i = k
          · subst e; rw [hlk] at hy; cases hy; exact ha
          · exact g3 i y (by omega) hy hn
        · rename_i ha
          cases hq
          have hkp : aheadB l[k] p.1 = true := by
            rw [aheadB_anti (Ne.symm hne)]
            simp only [Bool.not_eq_true] at ha
            rw [ha]; rfl
          refine ⟨hlk, Nat.lt_succ_self _, fun i y hi hy hn => ?_⟩
          simp only at hn
          by_cases e : i = p.2
          · subst e; rw [g1] at hy; cases hy; exact hkp
          · exact aheadB_trans hkp (g3 i y (by omega) hy e)
  unfold propOf at hq
  have h := this l.length (Nat.le_refl _) q (by rw [List.take_of_length_le (by simp)]; exact hq)
  intro i y hy hn
  exact h.2.2 i y (List.getElem?_eq_some_iff.1 hy).1 hy hn

/-! numbers of a list -/
def nth (g : Sd → Int) (l : List Sd) (i : Nat) : Int := match l[i]? with
  | some s => g s
  | none => 0
theorem nth_at {g : Sd → Int} {l : List Sd} {i : Nat} {s : Sd} (h : l[i]? = some s) : nth g l i = g s := by unfold nth; rw [h]
theorem sum_nth (g : Sd → Int) (l : List Sd) : sumI (l.map g) = Fair.sm l.length (nth g l) := by
  have : ∀ k, k ≤ l.length → sumI ((l.map g).take k) = Fair.sm k (nth g l) := by
    intro k
    induction k with
    | zero => intro _; rfl
    | succ k ih =>
      intro hk
      have hl : k < (l.map g).length := by simp; omega
      rw [List.take_succ_eq_append_getElem hl, sumI_snoc, ih (by omega)]
      simp only [Fair.sm]
      rw [nth_at (List.getElem?_eq_getElem (by omega : k < l.length))]
      simp
  have h := this l.length (Nat.le_refl _)
  rwa [List.take_of_length_le (by simp)] at h
theorem clip_id {x : Int} (h1 : -1000000 ≤ x) (h2 : x ≤ 1000000) : clip x = x := by
  unfold clip; rw [if_neg (by omega), if_neg (by omega)]

/-- how often key proposes in the first k turns -/
def hits (T : Int) (x : List Sd) (key : List UInt8) : Nat → Nat
  | 0 => 0
  | k + 1 => hits T x key k + if (nextP (turnsL T k x)).data.toList = key then 1 else 0
theorem hits_le (T : Int) (x : List Sd) (key : List UInt8) : ∀ k, hits T x key k ≤ k
  | 0 => Nat.le_refl _
  | k + 1 => by
    have := hits_le T x key k
    unfold hits; split <;> omega

/-- what FnFair asks of its set -/
structure fairIn (x : List Sd) : Prop where
  ne : x ≠ []
  len : x.length ≤ 8
  dist : distinct x
  pow : ∀ s ∈ x, 1 ≤ s.pow ∧ s.pow ≤ 12
  pri : ∀ s ∈ x, s.pri = 0
  ord : ordered x

theorem core_nth {l x : List Sd} (h : l.map core = x.map core) {i : Nat} {s : Sd} (hs : x[i]? = some s) : ∃ t, l[i]? = some t ∧ t.adr = s.adr ∧ t.pow = s.pow := by
  have h1 : (l.map core)[i]? = some (core s) := by rw [h, List.getElem?_map, hs]; rfl
  rw [List.getElem?_map] at h1
  cases ht : l[i]? with
  | none => rw [ht] at h1; simp at h1
  | some t =>
    rw [ht] at h1
    simp only [Option.map_some, Option.some.injEq] at h1
    exact ⟨t, rfl, (congrArg Sd.adr h1 : (core t).adr = (core s).adr), (congrArg Sd.pow h1 : (core t).pow = (core s).pow)⟩

def powN (x : List Sd) (i : Nat) : Nat := (nth Sd.pow x i).toNat
theorem fair_set {x : List Sd} (hx : fairIn x) : Fair.Set_ x.length (fun i => (powN x i : Int)) ((totL x).toNat : Nat) ∧ ((totL x).toNat : Int) = totL x ∧ (∀ i s, x[i]? = some s → (powN x i : Int) = s.pow) := by
  have hp : ∀ i s, x[i]? = some s → (powN x i : Int) = s.pow := fun i s hs => by
    have := hx.pow s (List.mem_of_getElem? hs)
    unfold powN; rw [nth_at hs]; omega
  have hsum : Fair.sm x.length (fun i => (powN x i : Int)) = totL x := by
    unfold totL powsOf
    rw [sum_nth]
    refine Fair.sm_congr fun i hi => ?_
    have hs : x[i]? = some x[i] := List.getElem?_eq_getElem hi
    rw [hp i _ hs, nth_at hs]
  have h0 : 0 ≤ totL x := by
    rw [← hsum]; exact Fair.sm_nonneg fun i _ => by omega
  have hT : ((totL x).toNat : Int) = totL x := Int.toNat_of_nonneg h0
  refine ⟨⟨List.length_pos_iff.2 hx.ne, fun i hi => ?_, fun i k hik hk => ?_, by rw [hsum, hT]⟩, hT, hp⟩
  · have hs : x[i]? = some x[i] := List.getElem?_eq_getElem hi
    rw [hp i _ hs]; exact (hx.pow _ (List.getElem_mem hi)).1
  · have hs : x[i]? = some x[i] := List.getElem?_eq_getElem (by omega)
    have ht : x[k]? = some x[k] := List.getElem?_eq_getElem hk
    try dsimp only
    rw [hp i _ hs, hp k _ ht]
    by_cases e : i = k
    · subst e; exact Int.le_refl _
    · have h1 := hx.ord
      unfold ordered at h1
      rw [List.pairwise_iff_getElem] at h1
      have h2 := h1 i k (by omega) hk (by omega)
      by_cases h3 : x[i].pow < x[k].pow
      · have : beforeB x[k] x[i] = true := (beforeB_iff _ _).2 (.inl h3)
        rw [h2] at this; cases this
      · omega

/-- one turn of a list of the set's seats is one turn of the plain law -/
theorem fair_turn {x l : List Sd} (hx : fairIn x) (hc : l.map core = x.map core) (hb : ∀ s ∈ l, -1000 ≤ s.pri ∧ s.pri ≤ 1000) :
    ∃ c s, x[c]? = some s ∧ nextP l = s.adr ∧ Fair.Turn x.length (fun i => (powN x i : Int)) ((totL x).toNat : Nat) (nth Sd.pri l) (nth Sd.pri (turnOf (totL x) l)) c := by
  obtain ⟨hs, hT, hp⟩ := fair_set hx
  have hlen : l.length = x.length := length_of_core hc
  have hT96 : totL x ≤ 96 := by
    have h1 := Fair.sm_le (n := x.length) (f := fun i => (powN x i : Int)) (g := fun _ => 12) (fun i hi => by
      have e : x[i]? = some x[i] := List.getElem?_eq_getElem hi
      have := hx.pow _ (List.getElem_mem hi)
      (try dsimp only); rw [hp i _ e]; omega)
    rw [Fair.sm_const, hs.all, hT] at h1
    have := hx.len
    omega
  have hT0 : 0 ≤ totL x := by omega
  have hne : l.map addP ≠ [] := fun e => by
    have := congrArg List.length e
    simp at this
    rw [this] at hlen
    exact hx.ne (List.length_eq_zero_iff.1 hlen.symm)
  have hd : distinct (l.map addP) := distinct_map (distinct_of_core hc hx.dist) _ fun _ => rfl
  obtain ⟨q, hq, hqa⟩ := propOf_at (l.map addP) hne
  have hahead := propOf_ahead hd hq
  -- what stands at a place
  have hadd : ∀ i, i < x.length → ∃ s t, x[i]? = some s ∧ l[i]? = some t ∧ t.adr = s.adr ∧ t.pow = s.pow ∧ (l.map addP)[i]? = some (addP t) ∧ (addP t).pri = nth Sd.pri l i + (powN x i : Int) ∧ -1000 ≤ t.pri ∧ t.pri ≤ 1000 := fun i hi => by
    have e : x[i]? = some x[i] := List.getElem?_eq_getElem hi
    obtain ⟨t, ht, ha, hw⟩ := core_nth hc e
    have hbt := hb t (List.mem_of_getElem? ht)
    have hpw := hx.pow _ (List.getElem_mem hi)
    refine ⟨x[i], t, e, ht, ha, hw, by rw [List.getElem?_map, ht]; rfl, ?_, hbt.1, hbt.2⟩
    rw [nth_at ht, hp i _ e]
    show clip (t.pri + t.pow) = _
    rw [hw, clip_id (by omega) (by omega)]
  have hcl : q.2 < x.length := by have := (List.getElem?_eq_some_iff.1 hqa).1; simp at this; omega
  obtain ⟨sc, tc, hxc, hlc, hac, hwc, hmc, hpc, hbc1, hbc2⟩ := hadd q.2 hcl
  have hq1 : q.1 = addP tc := by rw [hmc] at hqa; exact (Option.some.inj hqa).symm
  refine ⟨q.2, sc, hxc, by unfold nextP; rw [hq]; (try dsimp only); rw [hq1]; exact hac, hcl, fun i hi => ?_, fun i hi hw => ?_, fun i hi => ?_⟩
  · by_cases e : i = q.2
    · rw [e]; exact Int.le_refl _
    · obtain ⟨s, t, _, _, _, _, hm, hpi, _⟩ := hadd i hi
      have h1 := (aheadB_iff _ _).1 (hahead i _ hm e)
      rw [hq1, hpi, hpc] at h1
      omega
  · obtain ⟨s, t, hxi, _, ha, hw2, hm, hpi, _⟩ := hadd i (by omega)
    have h1 := (aheadB_iff _ _).1 (hahead i _ hm (by omega))
    rw [hq1, hpi, hpc] at h1
    rcases h1 with h1 | ⟨_, h1⟩
    · exact h1
    · exfalso
      have h2 := hx.ord
      unfold ordered at h2
      rw [List.pairwise_iff_getElem] at h2
      have h3 := h2 i q.2 (by omega) hcl hi
      have e1 := (List.getElem?_eq_some_iff.1 hxi).2
      have e2 := (List.getElem?_eq_some_iff.1 hxc).2
      rw [e1, e2] at h3
      have : beforeB sc s = true := (beforeB_iff _ _).2 (.inr ⟨by rw [hp i _ hxi, hp q.2 _ hxc] at hw; exact hw.symm, by
        have h4 : Op.bytesLess tc.adr.toList t.adr.toList = true := h1
        rw [hac, ha] at h4; exact h4⟩)
      rw [h3] at this; cases this
  · obtain ⟨s, t, hxi, hli, ha, hw2, hm, hpi, hb1, hb2⟩ := hadd i hi
    have hturn : turnOf (totL x) l = (l.map addP).set q.2 (subP (totL x) q.1) := by unfold turnOf; rw [hq]
    rw [hturn]
    have hml : q.2 < (l.map addP).length := by simp; omega
    by_cases e : i = q.2
    · subst e
      rw [if_pos rfl]
      have h1 : ((l.map addP).set q.2 (subP (totL x) q.1))[q.2]? = some (subP (totL x) q.1) := by rw [List.getElem?_set_self hml]
      rw [nth_at h1, hq1]
      show clip ((addP tc).pri - totL x) = _
      have hpw := hx.pow _ (List.mem_of_getElem? hxc)
      have hpp := hp q.2 _ hxc
      have hnn : nth Sd.pri l q.2 = tc.pri := nth_at hlc
      rw [hpc, hT, clip_id (by omega) (by omega)]
    · rw [if_neg e]
      have h1 : ((l.map addP).set q.2 (subP (totL x) q.1))[i]? = some (addP t) := by rw [List.getElem?_set_ne (by omega)]; exact hm
      rw [nth_at h1, hpi]
      omega

theorem turns_snoc {n : Nat} {w : Nat → Int} {T : Int} {t : Nat} {p p1 p2 : Nat → Int} {c : Nat} (h : Fair.Turns n w T t p p1) (k : Fair.Turn n w T p1 p2 c) : Fair.Turns n w T (t + 1) p p2 := by
  induction h with
  | refl p => exact .head k (.refl _)
  | head h1 _ ih => exact .head h1 (ih k)
theorem mnf_mem : ∀ (l : List Int) (x : Int), mnf x l = x ∨ mnf x l ∈ l := by
  intro l
  induction l with
  | nil => intro x; exact .inl rfl
  | cons p r ih =>
    intro x
    simp only [mnf, List.foldl_cons]
    rcases ih (if p < x then p else x) with h | h
    · simp only [mnf] at h
      rw [h]
      split
      · exact .inr (List.mem_cons_self ..)
      · exact .inl rfl
    · exact .inr (List.mem_cons_of_mem _ h)
theorem mnf_le : ∀ (l : List Int) (x : Int), mnf x l ≤ x ∧ ∀ p ∈ l, mnf x l ≤ p := by
  intro l
  induction l with
  | nil => intro x; exact ⟨Int.le_refl _, fun p h => by simp at h⟩
  | cons p r ih =>
    intro x
    simp only [mnf, List.foldl_cons]
    obtain ⟨h1, h2⟩ := ih (if p < x then p else x)
    simp only [mnf] at h1 h2
    refine ⟨?_, fun y hy => ?_⟩
    · split at h1 <;> split <;> omega
    · rcases List.mem_cons.1 hy with rfl | hy
      · split at h1 <;> split <;> omega
      · exact h2 y hy
theorem span_le {l : List Sd} {B : Int} (hne : l ≠ []) (hb : ∀ s ∈ l, -1000 ≤ s.pri ∧ s.pri ≤ 1000) (h : ∀ s ∈ l, ∀ t ∈ l, s.pri - t.pri ≤ B) (hB : 0 ≤ B) : spanOf l ≤ B := by
  unfold spanOf
  have hp : ∀ p ∈ prisOf l, ∃ s ∈ l, s.pri = p := fun p hp => List.mem_map.1 hp
  obtain ⟨h1, h2⟩ := mnf_le (prisOf l) 9223372036854775807
  have hm : ∃ t ∈ l, t.pri = mnf 9223372036854775807 (prisOf l) := by
    rcases mnf_mem (prisOf l) 9223372036854775807 with e | e
    · exfalso
      cases l with
      | nil => exact hne rfl
      | cons s r =>
        have h3 := h2 s.pri (by simp [prisOf])
        have := hb s (List.mem_cons_self ..)
        omega
    · exact hp _ e
  obtain ⟨t, ht, e⟩ := hm
  have htb := hb t ht
  have := mxf_bd (prisOf l) (-9223372036854775808) (-9223372036854775808) (t.pri + B) (Int.le_refl _) (by omega) (fun p hpp => by
    obtain ⟨s, hs, rfl⟩ := hp p hpp
    have := h s hs t ht
    omega)
  omega
theorem start_same {l : List Sd} (hne : l ≠ []) (hb : ∀ s ∈ l, -1000 ≤ s.pri ∧ s.pri ≤ 1000) (h : ∀ s ∈ l, ∀ t ∈ l, s.pri - t.pri ≤ 2 * totL l) (h0 : 0 ≤ totL l) (hs : sumI (prisOf l) = 0) : startL l = l := by
  have h1 : scaleL (2 * totL l) l = l := by
    unfold scaleL
    have := span_le hne hb h (by omega)
    rw [if_neg (c := 2 * totL l < spanOf l) (by omega)]
    split <;> rfl
  unfold startL
  rw [h1]
  unfold shiftL avgL
  rw [hs, Int.zero_ediv]
  have : ∀ s ∈ l, subP 0 s = s := fun s hs => by
    have := hb s hs
    unfold subP
    rw [Int.sub_zero, clip_id (by omega) (by omega)]
  rw [List.map_congr_left this]
  exact List.map_id' l

theorem fair_state {x : List Sd} (hx : fairIn x) : ∀ k, k ≤ (totL x).toNat →
    Fair.Turns x.length (fun i => (powN x i : Int)) ((totL x).toNat : Nat) k (fun _ => 0) (nth Sd.pri (turnsL (totL x) k x)) ∧ (∀ s ∈ turnsL (totL x) k x, -1000 ≤ s.pri ∧ s.pri ≤ 1000) ∧ startL (turnsL (totL x) k x) = turnsL (totL x) k x := by
  obtain ⟨hs, hT, hp⟩ := fair_set hx
  have h12 : ∀ i, i < x.length → powN x i ≤ 12 := fun i hi => by
    have e : x[i]? = some x[i] := List.getElem?_eq_getElem hi
    have := hx.pow _ (List.getElem_mem hi)
    have := hp i _ e
    omega
  have hT96 : (totL x).toNat ≤ 96 := by
    have h1 := Fair.sm_le (n := x.length) (f := fun i => (powN x i : Int)) (g := fun _ => 12) (fun i hi => by have := h12 i hi; (try dsimp only); omega)
    rw [Fair.sm_const, hs.all] at h1
    have := hx.len
    omega
  have hfacts : ∀ k, k ≤ (totL x).toNat → Fair.Turns x.length (fun i => (powN x i : Int)) ((totL x).toNat : Nat) k (fun _ => 0) (nth Sd.pri (turnsL (totL x) k x)) →
      (∀ s ∈ turnsL (totL x) k x, -1000 ≤ s.pri ∧ s.pri ≤ 1000) ∧ startL (turnsL (totL x) k x) = turnsL (totL x) k x := by
    intro k hk ht
    have hcore := turnsL_core (totL x) x k
    have htot : totL (turnsL (totL x) k x) = totL x := totL_of_core hcore
    have hlen := length_of_core hcore
    have hinv := Fair.Inv.turns hs ht (Fair.Inv.zero hs)
    have hfar := Fair.far (w := powN x) hs hx.len h12 hk ht
    generalize hl : turnsL (totL x) k x = l at *
    have hat : ∀ s ∈ l, ∃ i, i < x.length ∧ nth Sd.pri l i = s.pri := fun s hsl => by
      obtain ⟨i, hi⟩ := List.mem_iff_getElem?.1 hsl
      exact ⟨i, by have := (List.getElem?_eq_some_iff.1 hi).1; omega, nth_at hi⟩
    have hsum0 : sumI (prisOf l) = 0 := by
      unfold prisOf; rw [sum_nth, hlen]; exact hinv.sum
    have hpairs : ∀ s ∈ l, ∀ t ∈ l, s.pri - t.pri ≤ 2 * totL x := fun s hs' t ht' => by
      obtain ⟨i, hi, e1⟩ := hat s hs'
      obtain ⟨j, hj, e2⟩ := hat t ht'
      have := hfar i j hi hj
      omega
    have hbd : ∀ s ∈ l, -1000 ≤ s.pri ∧ s.pri ≤ 1000 := fun s hs' => by
      obtain ⟨i, hi, e1⟩ := hat s hs'
      have hge := hinv.ge hs i hi
      have hle := Fair.sm_le (n := x.length) (f := fun _ => nth Sd.pri l i - 2 * ((totL x).toNat : Int)) (g := nth Sd.pri l) (fun j hj => by
        have := hfar i j hi hj; (try dsimp only); omega)
      rw [Fair.sm_const, hinv.sum] at hle
      have hpos : 0 < (x.length : Int) := by have := hs.pos; omega
      have hup : nth Sd.pri l i - 2 * ((totL x).toNat : Int) ≤ 0 := by
        by_cases h : nth Sd.pri l i - 2 * ((totL x).toNat : Int) ≤ 0
        · exact h
        · have := Int.mul_pos hpos (by omega : 0 < nth Sd.pri l i - 2 * ((totL x).toNat : Int))
          omega
      omega
    have hne : l ≠ [] := fun e => by
      rw [e] at hlen; exact hx.ne (List.length_eq_zero_iff.1 hlen.symm)
    exact ⟨hbd, start_same hne hbd (by rw [htot]; exact hpairs) (by rw [htot]; omega) hsum0⟩
  intro k
  induction k with
  | zero =>
    intro hk
    have h0 : nth Sd.pri (turnsL (totL x) 0 x) = fun _ => 0 := by
      funext i
      unfold nth
      show (match x[i]? with | some s => s.pri | none => 0) = 0
      cases hi : x[i]? with
      | none => rfl
      | some s => exact hx.pri s (List.mem_of_getElem? hi)
    have ht : Fair.Turns x.length (fun i => (powN x i : Int)) ((totL x).toNat : Nat) 0 (fun _ => 0) (nth Sd.pri (turnsL (totL x) 0 x)) := by rw [h0]; exact .refl _
    exact ⟨ht, hfacts 0 hk ht⟩
  | succ k ih =>
    intro hk
    obtain ⟨h1, h2, _⟩ := ih (by omega)
    obtain ⟨c, s, _, _, h3⟩ := fair_turn hx (turnsL_core (totL x) x k) h2
    have ht := turns_snoc h1 h3
    exact ⟨ht, hfacts (k + 1) hk ht⟩

def adrAt (x : List Sd) (i : Nat) : List UInt8 := match x[i]? with
  | some s => s.adr.data.toList
  | none => []
theorem adrAt_at {x : List Sd} {i : Nat} {s : Sd} (h : x[i]? = some s) : adrAt x i = s.adr.data.toList := by unfold adrAt; rw [h]
theorem fair_hits {x : List Sd} (hx : fairIn x) : ∀ k, k ≤ (totL x).toNat →
    (∀ i, i < x.length → nth Sd.pri (turnsL (totL x) k x) i = (k : Int) * (powN x i : Int) - totL x * (hits (totL x) x (adrAt x i) k : Int)) ∧ Fair.sm x.length (fun i => (hits (totL x) x (adrAt x i) k : Int)) = k := by
  obtain ⟨hs, hT, hp⟩ := fair_set hx
  intro k
  induction k with
  | zero =>
    intro _
    refine ⟨fun i hi => ?_, ?_⟩
    · have e : x[i]? = some x[i] := List.getElem?_eq_getElem hi
      show nth Sd.pri x i = _
      rw [nth_at e, hx.pri _ (List.getElem_mem hi)]
      simp [hits]
    · simp only [hits]
      have := Fair.sm_const x.length 0
      simpa using this
  | succ k ih =>
    intro hk
    obtain ⟨h1, h2⟩ := ih (by omega)
    obtain ⟨_, hb, _⟩ := fair_state hx k (by omega)
    obtain ⟨c, s, hxc, hn, ht⟩ := fair_turn hx (turnsL_core (totL x) x k) hb
    have hstep : ∀ i, i < x.length → hits (totL x) x (adrAt x i) (k + 1) = hits (totL x) x (adrAt x i) k + if i = c then 1 else 0 := fun i hi => by
      have e : x[i]? = some x[i] := List.getElem?_eq_getElem hi
      show hits (totL x) x (adrAt x i) k + (if (nextP (turnsL (totL x) k x)).data.toList = adrAt x i then 1 else 0) = _
      rw [hn, adrAt_at e]
      by_cases hic : i = c
      · subst hic
        rw [hxc] at e
        rw [if_pos rfl, if_pos (by rw [Option.some.inj e])]
      · rw [if_neg hic, if_neg fun he => ?_]
        have := hx.dist i c x[i] s e hxc hic
        rw [toList_data, toList_data] at this
        exact this he.symm
    refine ⟨fun i hi => ?_, ?_⟩
    · show nth Sd.pri (turnOf (totL x) (turnsL (totL x) k x)) i = _
      rw [ht.next i hi, h1 i hi, hstep i hi, hT]
      have e1 : ((k + 1 : Nat) : Int) * (powN x i : Int) = (k : Int) * (powN x i : Int) + (powN x i : Int) := by
        rw [Int.natCast_add, Int.add_mul]; omega
      rw [e1]
      by_cases hic : i = c
      · rw [if_pos hic, if_pos hic, Int.natCast_add, Int.mul_add]; omega
      · rw [if_neg hic, if_neg hic]; simp only [Nat.add_zero]; omega
    · have e1 : Fair.sm x.length (fun i => (hits (totL x) x (adrAt x i) (k + 1) : Int)) = Fair.sm x.length (fun i => (hits (totL x) x (adrAt x i) k : Int) + if i = c then 1 else 0) := Fair.sm_congr fun i hi => by
        (try dsimp only); rw [hstep i hi]; split <;> omega
      rw [e1, Fair.sm_add, h2, Fair.sm_one, if_pos ht.lt]
      omega
theorem sm_eq {n : Nat} {f g : Nat → Int} (h : ∀ i, i < n → f i ≤ g i) (e : Fair.sm n f = Fair.sm n g) : ∀ i, i < n → f i = g i := by
  induction n with
  | zero => intro i hi; omega
  | succ n ih =>
    intro i hi
    have h1 := Fair.sm_le (n := n) (fun i hi => h i (by omega))
    have h2 := h n (by omega)
    simp only [Fair.sm] at e
    by_cases hin : i = n
    · subst hin; omega
    · exact ih (fun i hi => h i (by omega)) (by omega) i (by omega)

/-- what the walk of FnFair leans on -/
structure fairOk (x : List Sd) : Prop where
  tot : 0 ≤ totL x ∧ totL x ≤ 96
  start : ∀ k, k ≤ (totL x).toNat → startL (turnsL (totL x) k x) = turnsL (totL x) k x
  turn : ∀ k, k ≤ (totL x).toNat → turnable (turnsL (totL x) k x)
  who : ∀ k, k ≤ (totL x).toNat → ∃ s ∈ x, nextP (turnsL (totL x) k x) = s.adr
  hit : ∀ s ∈ x, (hits (totL x) x s.adr.data.toList (totL x).toNat : Int) = s.pow
theorem fairOk_of {x : List Sd} (hx : fairIn x) : fairOk x := by
  obtain ⟨hs, hT, hp⟩ := fair_set hx
  have h96 : totL x ≤ 96 := by
    have h1 := Fair.sm_le (n := x.length) (f := fun i => (powN x i : Int)) (g := fun _ => 12) (fun i hi => by
      have e : x[i]? = some x[i] := List.getElem?_eq_getElem hi
      have := hx.pow _ (List.getElem_mem hi)
      (try dsimp only); rw [hp i _ e]; omega)
    rw [Fair.sm_const, hs.all, hT] at h1
    have := hx.len
    omega
  refine ⟨⟨by omega, h96⟩, fun k hk => (fair_state hx k hk).2.2, fun k hk => ?_, fun k hk => ?_, fun s hsx => ?_⟩
  · obtain ⟨_, hb, _⟩ := fair_state hx k hk
    have hcore := turnsL_core (totL x) x k
    have hlen := length_of_core hcore
    refine ⟨fun e => ?_, by have := hx.len; omega, distinct_of_core hcore hx.dist, fun y hy => by have := hb y hy; omega, ?_⟩
    · rw [e] at hlen; exact hx.ne (List.length_eq_zero_iff.1 hlen.symm)
    · exact pow_of_core (p := fun q => 1 ≤ q ∧ q ≤ 1125899906842624) hcore (fun y hy => by have := hx.pow y hy; omega)
  · obtain ⟨_, hb, _⟩ := fair_state hx k hk
    obtain ⟨c, s, hxc, hn, _⟩ := fair_turn hx (turnsL_core (totL x) x k) hb
    exact ⟨s, List.mem_of_getElem? hxc, hn⟩
  · obtain ⟨ht, hb, _⟩ := fair_state hx _ (Nat.le_refl _)
    obtain ⟨h1, h2⟩ := fair_hits hx _ (Nat.le_refl _)
    have hinv := Fair.Inv.turns hs ht (Fair.Inv.zero hs)
    have hall : ∀ i, i < x.length → (hits (totL x) x (adrAt x i) (totL x).toNat : Int) ≤ (powN x i : Int) := fun i hi => by
      have hge := hinv.ge hs i hi
      rw [h1 i hi, hT] at hge
      have hpos : 0 < totL x := by
        have h3 := Fair.sm_le (n := x.length) (f := fun _ => 1) (g := fun i => (powN x i : Int)) hs.one
        rw [Fair.sm_const, hs.all, hT] at h3
        have := hs.pos
        omega
      have e : totL x * ((powN x i : Int) - (hits (totL x) x (adrAt x i) (totL x).toNat : Int) + 1) = totL x * (powN x i : Int) - totL x * (hits (totL x) x (adrAt x i) (totL x).toNat : Int) + totL x := by
        rw [Int.mul_add, Int.mul_sub]; omega
      rw [← e] at hge
      have := Int.pos_of_mul_pos_right hge (by omega)
      omega
    obtain ⟨i, hi⟩ := List.mem_iff_getElem?.1 hsx
    have hil := (List.getElem?_eq_some_iff.1 hi).1
    have h3 := sm_eq hall (by rw [h2, hs.all]) i hil
    rw [adrAt_at hi, hp i s hi] at h3
    exact h3

/-! the set of FnFair -/
def fairP (s : Sd) : Sd := { s with pow := 1 + s.pow % 12, pri := 0 }
def fairSet (l : List Sd) : List Sd := rankedL (((theSet l).take 8).map fairP)
theorem fairSet_in {l : List Sd} (h : fairSet l ≠ []) : fairIn (fairSet l) := by
  have hperm : (fairSet l).Perm (((theSet l).take 8).map fairP) := rankedL_perm _
  have hmem : ∀ s ∈ fairSet l, ∃ t ∈ theSet l, fairP t = s := fun s hs => by
    obtain ⟨t, ht, e⟩ := List.mem_map.1 (hperm.mem_iff.1 hs)
    exact ⟨t, List.mem_of_mem_take ht, e⟩
  refine ⟨h, ?_, ?_, fun s hs => ?_, fun s hs => ?_, rankedL_ordered _⟩
  · have := hperm.length_eq; simp at this; omega
  · have h1 : (((theSet l).take 8).map fairP).Pairwise fun a b => a.adr.toList ≠ b.adr.toList := by
      rw [List.pairwise_map]
      refine List.Pairwise.imp ?_ ((theSet_apart l).sublist (List.take_sublist _ _))
      intro a b hab e
      unfold apartS sameB at hab
      have e' : a.adr.toList = b.adr.toList := e
      rw [e'] at hab
      simp at hab
    have h2 : (fairSet l).Pairwise fun a b => a.adr.toList ≠ b.adr.toList := hperm.symm.pairwise h1 (fun {a b} hab => Ne.symm hab)
    intro i j a b ha hb hij
    have hi := List.getElem?_eq_some_iff.1 ha
    have hj := List.getElem?_eq_some_iff.1 hb
    rw [List.pairwise_iff_getElem] at h2
    rcases Nat.lt_or_gt_of_ne hij with hlt | hlt
    · have := h2 i j hi.1 hj.1 hlt
      rw [hi.2, hj.2] at this; exact this
    · have := h2 j i hj.1 hi.1 hlt
      rw [hi.2, hj.2] at this; exact this.symm
  · obtain ⟨t, _, rfl⟩ := hmem s hs
    simp only [fairP]; omega
  · obtain ⟨t, _, rfl⟩ := hmem s hs
    rfl
end Go.Proofs.Ytikikddkhikfkaa
