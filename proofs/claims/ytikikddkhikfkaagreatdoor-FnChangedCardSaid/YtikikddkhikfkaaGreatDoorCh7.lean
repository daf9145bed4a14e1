/-
  The changed set, in plain Lean: the same validators whichever way they are gathered, scaled, shifted and ranked. No function is walked here. By the session. The changed set, in plain Lean: its power, its numbers' bounds, that it is not empty. No function is walked here. By the session. spec.average: walks. By the session. spec.Shifted: the walk. By the session. spec.Total, spec.Ahead, spec.First: walks. By the session. spec.First: the walk. By the session. spec.Turned: the walk. By the session.
-/
import Derived.Test.YtikikddkhikfkaaGreatDoorCh6
import Derived.Test.YtikikddkhikfkaaGreatDoorCh3
import Derived.Test.YtikikddkhikfkaaGreatDoorCh1
import Derived.Test.YtikikddkhikfkaaGreatDoorCh4
set_option linter.all false
namespace Go.Proofs.YtikikddkhikfkaaGreatDoor
open Go.RowKit

/-- those who come or stay, and those who go -/
def upsL (C : List Sd) : List Sd := C.filter fun u => !(u.pow == 0)
def delsL (C : List Sd) : List Sd := C.filter fun u => u.pow == 0
/-- can the changes be made? -/
structure okCh (V C : List Sd) : Prop where
  good : goodCh C
  dels : okDel V (delsL C) = true
  some_ : ¬ (((upsL C).filter (isNewB V)).length = 0 ∧ V.length = (delsL C).length)
  most : totL V - remSum V (delsL C) + sumD V (upsL C) ≤ 1152921504606846975
def keepF (C : List Sd) (s : Sd) : Option Sd := match seatAt C s.adr with
  | none => some s
  | some c => if 0 < c.pow then some { s with pow := c.pow, key := c.key } else none
def freshF (V : List Sd) (T : Int) (c : Sd) : Option Sd := if 0 < c.pow ∧ atL c.adr V < 0 then some { c with pri := -(T + T / 8) } else none
def keptL (V C : List Sd) : List Sd := V.filterMap (keepF C) ++ C.filterMap (freshF V (totL V + sumD V (upsL C)))
def outL (V C : List Sd) : List Sd := rankedL (shiftL (scaleL (2 * totL (keptL V C)) (keptL V C)))

theorem sd_adr {x y : Sd} (h : x.adr.toList = y.adr.toList) : x.adr = y.adr := by
  have := ByteArray.toList_eq x.adr
  have h2 := ByteArray.toList_eq y.adr
  rw [this, h2] at h
  have h3 : x.adr.data = y.adr.data := Array.toList_inj.1 h
  cases hx : x.adr; cases hy : y.adr
  rw [hx, hy] at h3
  simpa using h3
theorem newPri_adr (V : List Sd) (T : Int) (u : Sd) : (newPri V T u).adr = u.adr := rfl
theorem newPri_pow (V : List Sd) (T : Int) (u : Sd) : (newPri V T u).pow = u.pow := rfl
theorem adrs_newPri (V : List Sd) (T : Int) (U : List Sd) : adrs (U.map (newPri V T)) = adrs U := by unfold adrs; rw [List.map_map]; rfl
theorem totL_newPri (V : List Sd) (T : Int) (U : List Sd) : totL (U.map (newPri V T)) = totL U := by unfold totL powsOf; rw [List.map_map]; rfl
theorem srt_newPri {V : List Sd} {T : Int} {U : List Sd} (h : Srt U) : Srt (U.map (newPri V T)) := List.pairwise_map.2 h
theorem notIn_newPri (V : List Sd) (T : Int) (U : List Sd) : notIn (U.map (newPri V T)) = notIn U := by
  funext e; unfold notIn; rw [List.any_map]; rfl
theorem adrs_sub {f : Sd → Option Sd} (hf : ∀ x y, f x = some y → y.adr = x.adr) : ∀ V : List Sd, (adrs (V.filterMap f)).Sublist (adrs V)
  | [] => by simp [adrs]
  | v :: V => by
    have ih := adrs_sub hf V
    cases h : f v with
    | none => rw [List.filterMap_cons_none h]; exact ih.cons _
    | some y =>
      rw [List.filterMap_cons_some h]
      have := hf v y h
      show (y.adr.toList :: adrs (V.filterMap f)).Sublist (v.adr.toList :: adrs V)
      rw [this]; exact ih.cons_cons _
theorem keepF_adr {C : List Sd} {s y : Sd} (h : keepF C s = some y) : y.adr = s.adr := by
  unfold keepF at h
  split at h
  · cases h; rfl
  · split at h
    · cases h; rfl
    · cases h
theorem freshF_adr {V : List Sd} {T : Int} {c y : Sd} (h : freshF V T c = some y) : y.adr = c.adr := by
  unfold freshF at h
  split at h
  · cases h; rfl
  · cases h
theorem keptL_nodup {V C : List Sd} (hV : (adrs V).Nodup) (hC : (adrs C).Nodup) : (adrs (keptL V C)).Nodup := by
  unfold keptL adrs
  rw [List.map_append, List.nodup_append]
  refine ⟨(adrs_sub (fun _ _ => keepF_adr) V).nodup hV, (adrs_sub (fun _ _ => freshF_adr) C).nodup hC, fun a ha b hb e => ?_⟩
  obtain ⟨x, hx, rfl⟩ := List.mem_map.1 ha
  obtain ⟨y, hy, rfl⟩ := List.mem_map.1 hb
  obtain ⟨v, hv, hvx⟩ := List.mem_filterMap.1 hx
  obtain ⟨c, hc, hcy⟩ := List.mem_filterMap.1 hy
  have h1 := keepF_adr hvx
  have h2 := freshF_adr hcy
  unfold freshF at hcy
  split at hcy
  · rename_i h3
    rw [atL_neg] at h3
    refine seat_none.1 h3.2 v hv ?_
    rw [← h1, e, h2]
  · cases hcy
theorem nodup_of_adrs {l : List Sd} (h : (adrs l).Nodup) : l.Nodup := by
  unfold adrs List.Nodup at *
  rw [List.pairwise_map] at h
  exact h.imp fun {a b} hab e => hab (by rw [e])
/-- the merged list without those who go: the specification's list, in another order -/
theorem kept_perm {V C VS S : List Sd} (hV : (adrs V).Nodup) (hC : (adrs C).Nodup) (hp : ∀ u ∈ C, 0 ≤ u.pow) (hVS : VS.Perm V) (hVs : Srt VS) (hSC : S.Perm C) (hS : Srt S) (T : Int) (hT : T = totL V + sumD V (upsL C)) :
    ((mergeS VS ((upsL S).map (newPri V T))).filter (notIn (delsL S))).Perm (keptL V C) := by
  have hU' : Srt ((upsL S).map (newPri V T)) := srt_newPri (hS.filter _)
  have hm := mergeS_perm VS ((upsL S).map (newPri V T)) hVs hU'
  have hsr := mergeS_srt VS ((upsL S).map (newPri V T)) hVs hU'
  refine (List.perm_ext_iff_of_nodup (nodup_of_adrs (adrs_filter _ _ hsr.ne)) (nodup_of_adrs (keptL_nodup hV hC))).2 fun x => ?_
  have memU : ∀ {u : Sd}, u ∈ upsL S ↔ u ∈ C ∧ 0 < u.pow := fun {u} => by
    unfold upsL; rw [List.mem_filter, hSC.mem_iff]
    constructor
    · rintro ⟨h1, h2⟩; have := hp u h1; simp at h2; exact ⟨h1, by omega⟩
    · rintro ⟨h1, h2⟩; exact ⟨h1, by simp; omega⟩
  have memD : ∀ {u : Sd}, u ∈ delsL S ↔ u ∈ C ∧ u.pow = 0 := fun {u} => by
    unfold delsL; rw [List.mem_filter, hSC.mem_iff]; simp
  rw [List.mem_filter, hm.mem_iff, List.mem_append, List.mem_filter, notIn_newPri, hVS.mem_iff, notIn_iff, notIn_iff]
  unfold keptL
  rw [List.mem_append, List.mem_filterMap, List.mem_filterMap, List.mem_map]
  constructor
  · rintro ⟨⟨u, hu, rfl⟩ | ⟨hx, hnu⟩, hnd⟩
    · obtain ⟨huC, hup⟩ := memU.1 hu
      cases hs : seatAt V u.adr with
      | none =>
        right
        refine ⟨u, huC, ?_⟩
        unfold freshF
        rw [if_pos ⟨hup, atL_neg.2 hs⟩]
        unfold newPri; rw [hs, hT]
      | some v =>
        obtain ⟨h1, h2⟩ := seat_some hs
        left
        refine ⟨v, h1, ?_⟩
        unfold keepF
        rw [seat_mem hC huC h2.symm]
        simp only
        rw [if_pos hup]
        unfold newPri; rw [hs, sd_adr h2]
    · left
      refine ⟨x, hx, ?_⟩
      have : seatAt C x.adr = none := seat_none.2 fun c hc e => by
        rcases Nat.eq_zero_or_pos c.pow.toNat with h0 | h0
        · exact hnd c (memD.2 ⟨hc, by have := hp c hc; omega⟩) e.symm
        · exact hnu c (memU.2 ⟨hc, by omega⟩) e.symm
      unfold keepF; rw [this]
  · rintro (⟨v, hv, hk⟩ | ⟨c, hc, hk⟩)
    · unfold keepF at hk
      split at hk
      · rename_i hs
        cases hk
        exact ⟨.inr ⟨hv, fun u hu e => seat_none.1 hs u (memU.1 hu).1 e.symm⟩, fun d hd e => seat_none.1 hs d (memD.1 hd).1 e.symm⟩
      · rename_i c hs
        obtain ⟨h1, h2⟩ := seat_some hs
        split at hk
        · rename_i hpos
          cases hk
          refine ⟨.inl ⟨c, memU.2 ⟨h1, hpos⟩, ?_⟩, fun d hd e => ?_⟩
          · unfold newPri; rw [seat_mem hV hv h2.symm, sd_adr h2]
          · have := nodup_same hC (memD.1 hd).1 h1 (e.symm.trans h2.symm)
            rw [this] at hd
            have := (memD.1 hd).2; omega
        · cases hk
    · unfold freshF at hk
      split at hk
      · rename_i hcp
        cases hk
        refine ⟨.inl ⟨c, memU.2 ⟨hc, hcp.1⟩, ?_⟩, fun d hd e => ?_⟩
        · unfold newPri; rw [atL_neg.1 hcp.2, hT]
        · have := nodup_same hC (memD.1 hd).1 hc e.symm
          rw [this] at hd
          have := (memD.1 hd).2; omega
      · cases hk
/-! scaled and shifted: whatever the order -/
theorem mxf_ge : ∀ (l : List Int) (x p : Int), (p ∈ l ∨ p ≤ x) → p ≤ mxf x l
  | [], x, p, h => by rcases h with h | h; simp at h; exact h
  | y :: r, x, p, h => by
    simp only [mxf, List.foldl_cons]
    refine mxf_ge r _ p ?_
    rcases h with h | h
    · rcases List.mem_cons.1 h with rfl | h
      · right; split <;> omega
      · exact .inl h
    · right; split <;> omega
theorem mxf_in : ∀ (l : List Int) (x : Int), mxf x l = x ∨ mxf x l ∈ l
  | [], x => .inl rfl
  | y :: r, x => by
    simp only [mxf, List.foldl_cons]
    rcases mxf_in r (if x < y then y else x) with h | h
    · unfold mxf at h; rw [h]
      split
      · exact .inr (List.mem_cons_self ..)
      · exact .inl rfl
    · exact .inr (List.mem_cons_of_mem _ h)
theorem mnf_le : ∀ (l : List Int) (x p : Int), (p ∈ l ∨ x ≤ p) → mnf x l ≤ p
  | [], x, p, h => by rcases h with h | h; simp at h; exact h
  | y :: r, x, p, h => by
    simp only [mnf, List.foldl_cons]
    refine mnf_le r _ p ?_
    rcases h with h | h
    · rcases List.mem_cons.1 h with rfl | h
      · right; split <;> omega
      · exact .inl h
    · right; split <;> omega
theorem mnf_in : ∀ (l : List Int) (x : Int), mnf x l = x ∨ mnf x l ∈ l
  | [], x => .inl rfl
  | y :: r, x => by
    simp only [mnf, List.foldl_cons]
    rcases mnf_in r (if y < x then y else x) with h | h
    · unfold mnf at h; rw [h]
      split
      · exact .inr (List.mem_cons_self ..)
      · exact .inl rfl
    · exact .inr (List.mem_cons_of_mem _ h)
theorem span_perm {l r : List Sd} (h : l.Perm r) : spanOf l = spanOf r := by
  have hp : ∀ p, p ∈ prisOf l ↔ p ∈ prisOf r := fun p => (h.map Sd.pri).mem_iff
  have e1 : mxf (-9223372036854775808) (prisOf l) = mxf (-9223372036854775808) (prisOf r) := by
    refine Int.le_antisymm ?_ ?_
    · rcases mxf_in (prisOf l) (-9223372036854775808) with h1 | h1
      · rw [h1]; exact mxf_ge _ _ _ (.inr (Int.le_refl _))
      · exact mxf_ge _ _ _ (.inl ((hp _).1 h1))
    · rcases mxf_in (prisOf r) (-9223372036854775808) with h1 | h1
      · rw [h1]; exact mxf_ge _ _ _ (.inr (Int.le_refl _))
      · exact mxf_ge _ _ _ (.inl ((hp _).2 h1))
  have e2 : mnf 9223372036854775807 (prisOf l) = mnf 9223372036854775807 (prisOf r) := by
    refine Int.le_antisymm ?_ ?_
    · rcases mnf_in (prisOf r) 9223372036854775807 with h1 | h1
      · rw [h1]; exact mnf_le _ _ _ (.inr (Int.le_refl _))
      · exact mnf_le _ _ _ (.inl ((hp _).2 h1))
    · rcases mnf_in (prisOf l) 9223372036854775807 with h1 | h1
      · rw [h1]; exact mnf_le _ _ _ (.inr (Int.le_refl _))
      · exact mnf_le _ _ _ (.inl ((hp _).1 h1))
  unfold spanOf; rw [e1, e2]
theorem scaleL_perm (a : Int) {l r : List Sd} (h : l.Perm r) : (scaleL a l).Perm (scaleL a r) := by
  unfold scaleL
  rw [span_perm h]
  split
  · exact h
  · split
    · exact h.map _
    · exact h
theorem sumI_perm {l r : List Int} (h : l.Perm r) : sumI l = sumI r := by
  induction h with
  | nil => rfl
  | cons x _ ih => rw [sumI_cons, sumI_cons, ih]
  | swap x y l => rw [sumI_cons, sumI_cons, sumI_cons, sumI_cons]; omega
  | trans _ _ a b => exact a.trans b
theorem shiftL_perm {l r : List Sd} (h : l.Perm r) : (shiftL l).Perm (shiftL r) := by
  have : avgL l = avgL r := by unfold avgL; rw [h.length_eq, show sumI (prisOf l) = sumI (prisOf r) from sumI_perm (h.map Sd.pri)]
  unfold shiftL; rw [this]; exact h.map _
/-! the order of a set -/
abbrev Rnk (l : List Sd) : Prop := l.Pairwise fun x y => beforeB y x = false
theorem rnk_unique {l r : List Sd} (hl : Rnk l) (hr : Rnk r) (h : l.Perm r) (hn : (adrs l).Nodup) : l = r := by
  refine List.Perm.eq_of_pairwise (fun a b ha hb h1 h2 => ?_) hl hr h
  rw [before_false] at h1 h2
  have hb' := h.mem_iff.2 hb
  refine nodup_same hn ha hb' (less_total (a := a.adr.toList) (b := b.adr.toList) ?_ ?_)
  · cases hq : Op.bytesLess a.adr.toList b.adr.toList with
    | false => rfl
    | true => exact absurd (Or.inr ⟨by omega, hq⟩) h2
  · cases hq : Op.bytesLess b.adr.toList a.adr.toList with
    | false => rfl
    | true => exact absurd (Or.inr ⟨by omega, hq⟩) h1
theorem insK_le (x : Sd) (acc : List Sd) : ∀ k, insK x acc k ≤ k
  | 0 => Nat.le_refl _
  | k + 1 => by
    unfold insK
    split
    · split
      · have := insK_le x acc k; omega
      · exact Nat.le_refl _
    · exact Nat.le_refl _
theorem insK_after (x : Sd) (acc : List Sd) : ∀ k (j : Nat) (y : Sd), insK x acc k ≤ j → j < k → acc[j]? = some y → beforeB x y = true
  | 0, j, y, _, h, _ => by omega
  | k + 1, j, y, h1, h2, hy => by
    unfold insK at h1
    split at h1
    · rename_i z hz
      split at h1
      · rename_i hb
        rcases Nat.lt_or_ge j k with h | h
        · exact insK_after x acc k j y h1 h hy
        · obtain rfl : j = k := by omega
          rw [hz] at hy; cases hy; exact hb
      · omega
    · omega
theorem insK_at (x : Sd) (acc : List Sd) : ∀ k (y : Sd), 0 < insK x acc k → acc[insK x acc k - 1]? = some y → beforeB x y = false
  | 0, y, h, _ => by unfold insK at h; omega
  | k + 1, y, h, hy => by
    unfold insK at h hy
    split at h
    · rename_i z hz
      split at h
      · rename_i hb
        rw [hz] at hy
        simp only [hb, if_true] at hy
        exact insK_at x acc k y h hy
      · rename_i hb
        rw [hz] at hy
        simp only at hy
        rw [if_neg hb, Nat.add_sub_cancel, hz] at hy
        cases hy; simpa using hb
    · rename_i hz
      rw [hz] at hy
      simp only at hy
      rw [Nat.add_sub_cancel, hz] at hy; cases hy
theorem before_trans_false {x y z : Sd} (h : beforeB y x = false) (h' : beforeB z y = false) : beforeB z x = false := (swo_before id).ntrans _ _ _ h' h
theorem before_asymm {x y : Sd} (h : beforeB x y = true) : beforeB y x = false := by
  cases hq : beforeB y x with
  | false => rfl
  | true =>
    have := (swo_before (id : Sd → Sd)).trans _ _ _ h hq
    have h2 := (swo_before (id : Sd → Sd)).irrefl x
    simp only [id] at *
    rw [this] at h2; cases h2
theorem insR_rnk {acc : List Sd} {x : Sd} (h : Rnk acc) : Rnk (insR acc x) := by
  unfold insR
  have hk := insK_le x acc acc.length
  rw [Rnk, List.pairwise_append]
  have hsplit := h
  rw [← List.take_append_drop (insK x acc acc.length) acc] at hsplit
  rw [Rnk, List.pairwise_append] at hsplit
  have hdrop : ∀ y ∈ acc.drop (insK x acc acc.length), beforeB x y = true := fun y hy => by
    obtain ⟨j, hj⟩ := List.getElem?_of_mem hy
    rw [List.getElem?_drop] at hj
    exact insK_after x acc acc.length _ y (by omega) (List.getElem?_eq_some_iff.1 hj).1 hj
  have htake : ∀ y ∈ acc.take (insK x acc acc.length), beforeB x y = false := fun y hy => by
    obtain ⟨j, hj⟩ := List.getElem?_of_mem hy
    rw [List.getElem?_take] at hj
    split at hj
    · rename_i hjk
      obtain ⟨z, hz⟩ : ∃ z, acc[insK x acc acc.length - 1]? = some z := ⟨_, List.getElem?_eq_getElem (by omega)⟩
      have h1 := insK_at x acc acc.length z (by omega) hz
      rcases Nat.lt_or_ge j (insK x acc acc.length - 1) with hlt | hge
      · have h2 := List.pairwise_iff_getElem.1 h j (insK x acc acc.length - 1) (by omega) (by omega) hlt
        rw [(List.getElem?_eq_some_iff.1 hj).2, (List.getElem?_eq_some_iff.1 hz).2] at h2
        exact before_trans_false h2 h1
      · obtain rfl : j = insK x acc acc.length - 1 := by omega
        rw [hz] at hj; cases hj; exact h1
    · cases hj
  refine ⟨hsplit.1, List.pairwise_cons.2 ⟨fun y hy => before_asymm (hdrop y hy), hsplit.2.1⟩, fun a ha b hb => ?_⟩
  rcases List.mem_cons.1 hb with rfl | hb
  · exact htake a ha
  · exact hsplit.2.2 a ha b hb
theorem rankedL_rnk (l : List Sd) : Rnk (rankedL l) := by
  have : ∀ (l acc : List Sd), Rnk acc → Rnk (l.foldl insR acc) := by
    intro l
    induction l with
    | nil => intro acc h; exact h
    | cons x r ih => intro acc h; exact ih _ (insR_rnk h)
  exact this l [] List.Pairwise.nil
theorem adrs_core {l r : List Sd} (h : l.map core = r.map core) : adrs l = adrs r := by
  have := congrArg (List.map fun s : Sd => s.adr.toList) h
  rw [List.map_map, List.map_map] at this
  exact this
/-- what the package's set holds at the end -/
theorem out_eq {V C L l4 : List Sd} (hV : (adrs V).Nodup) (hC : (adrs C).Nodup) (hL : L.Perm (keptL V C)) (h4 : l4.Perm (shiftL (scaleL (2 * totL L) L))) (hr : Rnk l4) : l4 = outL V C := by
  unfold outL
  have hT := totL_perm hL
  rw [hT] at h4
  have h5 := h4.trans (shiftL_perm (scaleL_perm _ hL))
  refine rnk_unique hr (rankedL_rnk _) (h5.trans (rankedL_perm _).symm) ?_
  have : (adrs (shiftL (scaleL (2 * totL (keptL V C)) (keptL V C)))).Nodup := by
    rw [adrs_core ((shiftL_core _).trans (scaleL_core _ _))]; exact keptL_nodup hV hC
  exact (h5.map _).nodup_iff.2 this
end Go.Proofs.YtikikddkhikfkaaGreatDoor

set_option linter.all false
namespace Go.Proofs.YtikikddkhikfkaaGreatDoor
open Go.RowKit

theorem okCh_perm {V S C : List Sd} (h : S.Perm C) (k : okCh V S) : okCh V C := by
  refine ⟨(goodCh_perm h).1 k.good, ?_, fun hc => k.some_ ?_, ?_⟩
  · have hd : (delsL S).Perm (delsL C) := h.filter _
    have := k.dels
    unfold okDel at *
    rw [← hd.all_eq]; exact this
  · have hd : (delsL S).Perm (delsL C) := h.filter _
    have hu : ((upsL S).filter (isNewB V)).Perm ((upsL C).filter (isNewB V)) := (h.filter _).filter _
    rw [hd.length_eq, hu.length_eq]; exact hc
  · have hd : (delsL S).Perm (delsL C) := h.filter _
    have hu : (upsL S).Perm (upsL C) := h.filter _
    have := k.most
    rw [remSum_perm V hd, sumD_perm V hu] at this; exact this
theorem okDel_iff (V D : List Sd) : okDel V D = true ↔ ∀ d ∈ D, ∃ v ∈ V, v.adr.toList = d.adr.toList := by
  unfold okDel
  rw [List.all_eq_true]
  constructor
  · intro h d hd
    have h1 := h d hd
    simp only [decide_eq_true_eq] at h1
    cases hs : seatAt V d.adr with
    | none => have := atL_neg.2 hs; omega
    | some v => exact ⟨v, (seat_some hs).1, (seat_some hs).2⟩
  · intro h d hd
    obtain ⟨v, hv, ha⟩ := h d hd
    simp only [decide_eq_true_eq]
    rcases Int.lt_or_le (atL d.adr V) 0 with h1 | h1
    · exact absurd ha (seat_none.1 (atL_neg.1 h1) v hv)
    · exact h1
/-- no more go than there are -/
theorem dels_le {V D : List Sd} (h : okDel V D = true) (hD : (adrs D).Nodup) : D.length ≤ V.length := by
  have h1 : adrs D ⊆ adrs V := fun a ha => by
    obtain ⟨d, hd, rfl⟩ := List.mem_map.1 ha
    obtain ⟨v, hv, e⟩ := (okDel_iff V D).1 h d hd
    exact List.mem_map.2 ⟨v, hv, e⟩
  have := hD.length_le_of_subset h1
  simpa [adrs] using this
theorem ups_dels_ne {S : List Sd} (hS : (adrs S).Nodup) {u d : Sd} (hu : u ∈ upsL S) (hd : d ∈ delsL S) : u.adr.toList ≠ d.adr.toList := fun e => by
  obtain ⟨h1, h2⟩ := List.mem_filter.1 hu
  obtain ⟨h3, h4⟩ := List.mem_filter.1 hd
  rw [nodup_same hS h1 h3 e] at h2
  simp only [Bool.not_eq_true', beq_iff_eq] at h2 h4
  rw [h4] at h2; simp at h2
section
variable {V VS S : List Sd} (hV : (adrs V).Nodup) (hVS : VS.Perm V) (hVs : Srt VS) (hS : Srt S) (T : Int)
include hVS hVs hS in
theorem fit_ok (hd : okDel V (delsL S) = true) : fitS (mergeS VS ((upsL S).map (newPri V T))) (delsL S) = true ∧ remS (mergeS VS ((upsL S).map (newPri V T))) (delsL S) = (mergeS VS ((upsL S).map (newPri V T))).filter (notIn (delsL S)) := by
  have hU' : Srt ((upsL S).map (newPri V T)) := srt_newPri (hS.filter _)
  refine remS_eq _ _ (mergeS_srt _ _ hVs hU') (hS.filter _) fun d hdd => ?_
  obtain ⟨v, hv, e⟩ := (okDel_iff V _).1 hd d hdd
  refine ⟨v, (mergeS_perm VS _ hVs hU').mem_iff.2 (List.mem_append_right _ (List.mem_filter.2 ⟨hVS.mem_iff.2 hv, ?_⟩)), e⟩
  rw [notIn_newPri, notIn_iff]
  exact fun u hu e2 => ups_dels_ne hS.ne hu hdd (e2.symm.trans e)
include hV hVS hVs hS in
theorem kept_tot : totL ((mergeS VS ((upsL S).map (newPri V T))).filter (notIn (delsL S))) = totL V + sumD V (upsL S) - remSum V (delsL S) := by
  have hU' : Srt ((upsL S).map (newPri V T)) := srt_newPri (hS.filter _)
  have hm := (mergeS_perm VS _ hVs hU').filter (notIn (delsL S))
  rw [totL_perm hm, List.filter_append, totL_append, notIn_newPri]
  have e1 : ((upsL S).map (newPri V T)).filter (notIn (delsL S)) = (upsL S).map (newPri V T) := List.filter_eq_self.2 fun x hx => by
    obtain ⟨u, hu, rfl⟩ := List.mem_map.1 hx
    exact (notIn_iff _ _).2 fun d hd e => ups_dels_ne hS.ne hu hd e
  rw [e1, totL_newPri]
  have h2 : totL ((VS.filter (notIn (upsL S))).filter (notIn (delsL S))) = totL ((V.filter (notIn (upsL S))).filter (notIn (delsL S))) := totL_perm ((hVS.filter _).filter _)
  rw [h2, tot_drop _ (adrs_filter _ _ hV) (delsL S) (adrs_filter _ _ hS.ne), tot_drop V hV (upsL S) (adrs_filter _ _ hS.ne), sumD_eq]
  have h3 : remSum (V.filter (notIn (upsL S))) (delsL S) = remSum V (delsL S) := by
    have : ∀ D : List Sd, (∀ d ∈ D, ∀ u ∈ upsL S, u.adr.toList ≠ d.adr.toList) → remSum (V.filter (notIn (upsL S))) D = remSum V D := by
      intro D
      induction D with
      | nil => intro _; rfl
      | cons d D ih =>
        intro h
        have : powAt (V.filter (notIn (upsL S))) d = powAt V d := by unfold powAt; rw [seat_filter hV (h d (List.mem_cons_self ..))]
        simp only [remSum, this, ih fun d' hd' => h d' (List.mem_cons_of_mem _ hd')]
    exact this _ fun d hd u hu => ups_dels_ne hS.ne hu hd
  rw [h3]; omega
end
theorem kept_mem {V C : List Sd} {x : Sd} (hx : x ∈ keptL V C) : x ∈ V ∨ (∃ v ∈ V, ∃ c ∈ C, 0 < c.pow ∧ x.pow = c.pow ∧ x.pri = v.pri) ∨ ∃ c ∈ C, 0 < c.pow ∧ x.pow = c.pow ∧ x.pri = -((totL V + sumD V (upsL C)) + (totL V + sumD V (upsL C)) / 8) := by
  unfold keptL at hx
  rcases List.mem_append.1 hx with h | h
  · obtain ⟨v, hv, hk⟩ := List.mem_filterMap.1 h
    unfold keepF at hk
    split at hk
    · cases hk; exact .inl hv
    · rename_i c hs
      split at hk
      · rename_i hp
        cases hk
        exact .inr (.inl ⟨v, hv, c, (seat_some hs).1, hp, rfl, rfl⟩)
      · cases hk
  · obtain ⟨c, hc, hk⟩ := List.mem_filterMap.1 h
    unfold freshF at hk
    split at hk
    · rename_i hp
      cases hk
      exact .inr (.inr ⟨c, hc, hp.1, rfl, rfl⟩)
    · cases hk
theorem kept_ne {V C : List Sd} (hV : (adrs V).Nodup) (h : okCh V C) : keptL V C ≠ [] := fun e => by
  refine h.some_ ?_
  have hf : V.filterMap (keepF C) = [] ∧ C.filterMap (freshF V (totL V + sumD V (upsL C))) = [] := List.append_eq_nil_iff.1 e
  have h1 : ((upsL C).filter (isNewB V)).length = 0 := by
    rw [List.length_eq_zero_iff, List.filter_eq_nil_iff]
    intro u hu hn
    obtain ⟨huC, hup⟩ := List.mem_filter.1 hu
    have hp := (h.good.1 u huC).1
    have hup' : 0 < u.pow := by
      simp only [Bool.not_eq_true', beq_eq_false_iff_ne, ne_eq] at hup
      omega
    have := List.filterMap_eq_nil_iff.1 hf.2 u huC
    unfold freshF at this
    rw [if_pos ⟨hup', atL_neg.2 ((isNew_iff V u).1 hn)⟩] at this
    cases this
  refine ⟨h1, Nat.le_antisymm ?_ (dels_le h.dels (adrs_filter _ _ h.good.2))⟩
  have h2 : adrs V ⊆ adrs (delsL C) := fun a ha => by
    obtain ⟨v, hv, rfl⟩ := List.mem_map.1 ha
    have h3 := List.filterMap_eq_nil_iff.1 hf.1 v hv
    unfold keepF at h3
    split at h3
    · cases h3
    · rename_i c hs
      obtain ⟨hc, hca⟩ := seat_some hs
      split at h3
      · cases h3
      · rename_i hnp
        have hp := (h.good.1 c hc).1
        exact List.mem_map.2 ⟨c, List.mem_filter.2 ⟨hc, by simp only [beq_iff_eq]; omega⟩, hca⟩
  have := List.Nodup.length_le_of_subset hV h2
  simpa [adrs] using this
theorem kept_pow {V C : List Sd} (hp : ∀ v ∈ V, 1 ≤ v.pow) : ∀ x ∈ keptL V C, 1 ≤ x.pow := fun x hx => by
  rcases kept_mem hx with h | ⟨v, _, c, _, h1, h2, _⟩ | ⟨c, _, h1, h2, _⟩
  · exact hp x h
  · omega
  · omega
theorem kept_pri {V C : List Sd} (hp : ∀ v ∈ V, -1152921504606846976 < v.pri ∧ v.pri < 1152921504606846976) (hT : 0 ≤ totL V + sumD V (upsL C) ∧ totL V + sumD V (upsL C) ≤ 1729382256910270464) : ∀ x ∈ keptL V C, -2305843009213693952 < x.pri ∧ x.pri < 2305843009213693952 := fun x hx => by
  rcases kept_mem hx with h | ⟨v, hv, c, _, h1, h2, h3⟩ | ⟨c, _, h1, h2, h3⟩
  · have := hp x h; omega
  · have := hp v hv; omega
  · omega
theorem kept_len (V C : List Sd) : (keptL V C).length ≤ V.length + C.length := by
  unfold keptL
  rw [List.length_append]
  have := List.length_filterMap_le (keepF C) V
  have := List.length_filterMap_le (freshF V (totL V + sumD V (upsL C))) C
  omega
theorem outL_core (V C : List Sd) : ((outL V C).map core).Perm ((keptL V C).map core) := by
  have h1 : (outL V C).Perm (shiftL (scaleL (2 * totL (keptL V C)) (keptL V C))) := rankedL_perm _
  refine (h1.map core).trans ?_
  rw [shiftL_core, scaleL_core]
theorem outL_len (V C : List Sd) : (outL V C).length = (keptL V C).length := by simpa using (outL_core V C).length_eq
theorem outL_tot (V C : List Sd) : totL (outL V C) = totL (keptL V C) := by
  rw [← totL_core, totL_perm (outL_core V C), totL_core]
end Go.Proofs.YtikikddkhikfkaaGreatDoor

set_option linter.unusedSimpArgs false
namespace Go.Proofs.YtikikddkhikfkaaGreatDoor
open Go.RowKit

theorem and_low32 (n : Int) : bits .and .i64 n 4294967295 = n % 4294967296 := by
  simp only [bits]
  have h : (BitVec.ofInt 64 n &&& BitVec.ofInt 64 4294967295).toNat = (n % 4294967296).toNat := by
    rw [BitVec.toNat_and, show (BitVec.ofInt 64 4294967295).toNat = 2 ^ 32 - 1 from rfl, Nat.and_two_pow_sub_one_eq_mod, BitVec.toNat_ofInt]
    omega
  show IntKind.i64.wrap ((BitVec.ofInt 64 n &&& BitVec.ofInt 64 4294967295).toNat : Int) = _
  rw [h]
  simp [IntKind.wrap, IntKind.bits, IntKind.signed]
  omega
theorem tdiv_floor_neg {a n : Int} (hn : 0 < n) (h : a.tmod n < 0) : a.tdiv n - 1 = a / n ∧ a.tmod n + n = a % n := by
  have h1 := Int.mul_tdiv_add_tmod a n
  have h2 := Int.lt_tmod_of_pos a hn
  have e : a = (a.tmod n + n) + n * (a.tdiv n - 1) := by rw [Int.mul_sub, Int.mul_one]; omega
  constructor
  · conv => rhs; rw [e]
    rw [Int.add_mul_ediv_left _ _ (by omega), Int.ediv_eq_zero_of_lt (a := a.tmod n + n) (by omega) (by omega)]
    omega
  · conv => rhs; rw [e]
    rw [Int.add_mul_emod_self_left, Int.emod_eq_of_lt (by omega) (by omega)]
theorem tdiv_floor_pos {a n : Int} (hn : 0 < n) (h : ¬ a.tmod n < 0) : a.tdiv n = a / n ∧ a.tmod n = a % n := by
  have h1 := Int.mul_tdiv_add_tmod a n
  have h2 := Int.tmod_lt_of_pos a hn
  have e : a = a.tmod n + n * a.tdiv n := by omega
  constructor
  · conv => rhs; rw [e]
    rw [Int.add_mul_ediv_left _ _ (by omega), Int.ediv_eq_zero_of_lt (a := a.tmod n) (by omega) (by omega)]
    omega
  · conv => rhs; rw [e]
    rw [Int.add_mul_emod_self_left, Int.emod_eq_of_lt (by omega) (by omega)]

set_option maxHeartbeats 800000 in
theorem floor_any (a n : Int) (b : Nat) (w : World) (hb : w.cell? ⟨b, 0, none⟩ = some (.int .i64 n)) (hn : 0 < n) (hn2 : n ≤ 1000000) (ha : -4611686018427387904 ≤ a ∧ a ≤ 4611686018427387904) :
    Calls Tryz.prog 97 #[.int .i64 a, .pointer (some ⟨b, 0, none⟩)] w fun e w' => e = .returned (.tuple #[.int .i64 (a / n), .int .i64 (a % n)]) ∧ ∃ k, w' = w.drewN k := by
  have hz : (n == 0) = false := by rw [beq_eq_false_iff_ne]; omega
  have hq : (a.tdiv n).natAbs ≤ a.natAbs := by rw [Int.natAbs_tdiv]; exact Nat.div_le_self _ _
  have hr1 := Int.tmod_lt_of_pos a hn
  have hr2 := Int.lt_tmod_of_pos a hn
  have w1 : wrap64 (a.tdiv n) = a.tdiv n := by unfold wrap64; omega
  by_cases h : a.tmod n < 0
  · obtain ⟨e1, e2⟩ := tdiv_floor_neg hn h
    have w2 : wrap64 (a.tdiv n - 1) = a.tdiv n - 1 := by unfold wrap64; omega
    have w3 : wrap64 (a.tmod n + n) = a.tmod n + n := by unfold wrap64; omega
    have E1 := Lib.hid e1; have E2 := Lib.hid e2; clear e1 e2
    go_enter Tryz.func97, Tryz.ntmps97
    go_wp2_with fail
    go_quiet (fail)
    go_wp2_with fail
    go_quiet (fail)
    go_wp2
    go_ret2
    exact ⟨by rw [E1.out, E2.out]; rfl, _, by first | rfl | exact World.drewN_drewN ..⟩
  · obtain ⟨e1, e2⟩ := tdiv_floor_pos hn h
    have h' : decide (a.tmod n < 0) = false := by simpa using h
    have E1 := Lib.hid e1; have E2 := Lib.hid e2; clear e1 e2 h
    go_enter Tryz.func97, Tryz.ntmps97
    go_wp2_with fail
    go_quiet (fail)
    go_wp2
    go_ret2
    exact ⟨by rw [E1.out, E2.out]; rfl, _, by first | rfl | exact World.drewN_drewN ..⟩

/-- the mean out of the upper and the lower halves -/
theorem avg_halves (H L n : Int) (hn : 0 < n) : H / n * 4294967296 + (H % n * 4294967296 + L) / n = (H * 4294967296 + L) / n := by
  have h := Int.mul_ediv_add_emod H n
  have e : H * 4294967296 + L = (H % n * 4294967296 + L) + n * (H / n * 4294967296) := by
    have : n * (H / n * 4294967296) = n * (H / n) * 4294967296 := (Int.mul_assoc ..).symm
    rw [this]; omega
  rw [e, Int.add_mul_ediv_left _ _ (by omega)]
  omega
def hisOf (l : List Int) : List Int := l.map (· / 4294967296)
def losOf (l : List Int) : List Int := l.map (· % 4294967296)
theorem halves_sum (l : List Int) : sumI (hisOf l) * 4294967296 + sumI (losOf l) = sumI l := by
  induction l with
  | nil => rfl
  | cons x r ih =>
    simp only [hisOf, losOf, List.map_cons] at ih ⊢
    rw [sumI_cons, sumI_cons, sumI_cons]
    omega

set_option maxRecDepth 100000 in
set_option maxHeartbeats 3200000 in
theorem average_any (l : List Sd) (A : Option Addr) (n c : Nat) (w : World) (hr : Rd w w.heap.size 4 A n (cellsOf l)) (hn : n ≤ 1000) (hn0 : 0 < n) (hp : ∀ x ∈ l, -4611686018427387904 ≤ x.pri ∧ x.pri ≤ 4611686018427387904) :
    Calls Tryz.prog 67 #[.slice A n c] w fun e w' => e = .returned (.int .i64 (avgL l)) ∧ Below w.heap.size w w' := by
  have hln := hr.len
  have HL := Lib.hid hln
  have HR := Lib.hid hr; have HP := Lib.hid hp; clear hr hp
  have hbdH := sumI_bd (hisOf (prisOf l)) (-1073741824) 1073741824 (fun x hx => by
    obtain ⟨p, hp, rfl⟩ := List.mem_map.1 hx
    obtain ⟨s, hs, rfl⟩ := List.mem_map.1 hp
    have := HP.out s hs
    omega)
  have hbdL := sumI_bd (losOf (prisOf l)) 0 4294967295 (fun x hx => by
    obtain ⟨p, hp, rfl⟩ := List.mem_map.1 hx
    omega)
  have hlH : (hisOf (prisOf l)).length = n := by simp [hisOf, prisOf, hln]
  have hlL : (losOf (prisOf l)).length = n := by simp [losOf, prisOf, hln]
  rw [hlH] at hbdH; rw [hlL] at hbdL
  have HH := Lib.hid hlH; have HLL := Lib.hid hlL; clear hlH hlL
  have hav : avgL l = sumI (hisOf (prisOf l)) / n * 4294967296 + (sumI (hisOf (prisOf l)) % n * 4294967296 + sumI (losOf (prisOf l))) / n := by
    rw [avg_halves _ _ _ (by omega), halves_sum]; unfold avgL; rw [hln]
  have hab : -4611686018427387904 ≤ avgL l ∧ avgL l ≤ 4611686018427387904 := avgL_bd l (by rintro rfl; simp at hln; omega) _ HP.out
  have HAV := Lib.hid hav; clear hav hln
  go_enter Tryz.func67, Tryz.ntmps67
  go_wp2
  go_loopw [4, 5, 17] (fun hi lo i wr => ∃ k : Nat, k ≤ n ∧ i = .int .i64 k ∧ hi = .int .i64 (sumI ((hisOf (prisOf l)).take k)) ∧ lo = .int .i64 (sumI ((losOf (prisOf l)).take k)) ∧ Hid (Blk wr w.heap.size 3 #[.int .i64 n]) ∧ Hid (Below w.heap.size w wr)) (fun _ _ i _ => n - (intOf i).toNat)
  case atStart => exact ⟨0, Nat.zero_le _, rfl, rfl, rfl, Blk.new _ _ _, (Below.refl _ _).alloc (Nat.le_refl _) _⟩
  case round =>
    obtain ⟨k, hk, rfl, rfl, rfl, HG, HB⟩ := hrel
    by_cases hlt : k < n
    · have hk' : k < l.length := by have := HL.out; omega
      have hx : l[k]? = some l[k] := List.getElem?_eq_getElem hk'
      obtain ⟨ad, rfl, _, c0, c1, c2, c3⟩ := (HR.out.below HB.out).seat hx
      have hpx := HP.out _ (List.getElem_mem hk')
      have hstH : (hisOf (prisOf l)).take (k + 1) = (hisOf (prisOf l)).take k ++ [l[k].pri / 4294967296] := by
        have hl2 : k < (hisOf (prisOf l)).length := by rw [HH.out]; exact hlt
        rw [List.take_succ_eq_append_getElem hl2]; simp [hisOf, prisOf]
      have hstL : (losOf (prisOf l)).take (k + 1) = (losOf (prisOf l)).take k ++ [l[k].pri % 4294967296] := by
        have hl2 : k < (losOf (prisOf l)).length := by rw [HLL.out]; exact hlt
        rw [List.take_succ_eq_append_getElem hl2]; simp [losOf, prisOf]
      have hbH := sumI_bd ((hisOf (prisOf l)).take k) (-1073741824) 1073741824 (fun x hx => by
        obtain ⟨p, hp, rfl⟩ := List.mem_map.1 (List.mem_of_mem_take hx)
        obtain ⟨s, hs, rfl⟩ := List.mem_map.1 hp
        have := HP.out s hs
        omega)
      have hbL := sumI_bd ((losOf (prisOf l)).take k) 0 4294967295 (fun x hx => by
        obtain ⟨p, hp, rfl⟩ := List.mem_map.1 (List.mem_of_mem_take hx)
        omega)
      have hlen1 : ((hisOf (prisOf l)).take k).length ≤ k := List.length_take_le _ _
      have hlen2 : ((losOf (prisOf l)).take k).length ≤ k := List.length_take_le _ _
      generalize ((hisOf (prisOf l)).take k).length = m1 at *
      generalize ((losOf (prisOf l)).take k).length = m2 at *
      generalize l[k] = x at *
      have hs1 := sumI_snoc ((hisOf (prisOf l)).take k) (x.pri / 4294967296)
      have hs2 := sumI_snoc ((losOf (prisOf l)).take k) (x.pri % 4294967296)
      rw [← hstH] at hs1; rw [← hstL] at hs2
      generalize sumI ((hisOf (prisOf l)).take k) = sh at *
      generalize sumI ((losOf (prisOf l)).take k) = sl at *
      have hand := and_low32 x.pri
      have HS1 := Lib.hid hs1; have HS2 := Lib.hid hs2; clear hs1 hs2 hstH hstL hx
      go_wp2
      go_roundw
      case rel => exact ⟨k + 1, by omega, by go_num, by rw [HS1.out], by rw [HS2.out], HG.out.alloc _, HB.out.alloc HB.out.size _⟩
      case measure => simp [intOf]; omega
    · obtain rfl : k = n := by omega
      rw [List.take_of_length_le (by rw [HH.out]; exact Nat.le_refl _), List.take_of_length_le (by rw [HLL.out]; exact Nat.le_refl _)]
      generalize sumI (hisOf (prisOf l)) = sh at *
      generalize sumI (losOf (prisOf l)) = sl at *
      have g0 : wr.cell? ⟨w.heap.size, 0, none⟩ = some (.int .i64 k) := HG.out.cell 0
      have hm1 := Int.emod_nonneg sh (b := (k : Int)) (by omega)
      have hm2 := Int.emod_lt_of_pos sh (b := (k : Int)) (by omega)
      have KC1 := Lib.hid (floor_any sh k w.heap.size wr g0 (by omega) (by omega) (by omega))
      have KC2 := Lib.hid (fun q => floor_any (sh % k * 4294967296 + sl) k w.heap.size (wr.drewN q) g0 (by omega) (by omega) (by omega))
      have hq0 : -1073741824 ≤ sh / (k : Int) := by
        rw [Int.le_ediv_iff_mul_le (by omega), Int.mul_comm]; exact hbdH.1
      have hq1 : sh / (k : Int) ≤ 1073741824 := by
        have := Int.ediv_le_ediv (show (0 : Int) < k by omega) hbdH.2
        rw [Int.mul_ediv_cancel_left _ (by omega)] at this
        exact this
      have hav := HAV.out
      rw [hav] at hab
      generalize (sh % k * 4294967296 + sl) / k = p2 at *
      generalize sh / k = q2 at *
      have HV := Lib.hid hav; clear hav
      go_wp2_with fail
      refine KC1.out.mono ?_
      rintro e w1 ⟨rfl, q1, rfl⟩
      go_wp2_with fail
      refine (KC2.out _).mono ?_
      rintro e w1 ⟨rfl, q3, rfl⟩
      go_wp2
      go_ret
      exact ⟨ret_int HV.out.symm, below_drewN HB.out _⟩
end Go.Proofs.YtikikddkhikfkaaGreatDoor

set_option linter.unusedSimpArgs false
namespace Go.Proofs.YtikikddkhikfkaaGreatDoor
open Go.RowKit

set_option maxRecDepth 100000 in
set_option maxHeartbeats 3200000 in
theorem shifted_any (l : List Sd) (A : Option Addr) (n c : Nat) (w : World) (hr : Rd w w.heap.size 4 A n (cellsOf l)) (hn : n ≤ 1000) (hn0 : 0 < n) (hp : ∀ x ∈ l, -4611686018427387904 ≤ x.pri ∧ x.pri ≤ 4611686018427387904) :
    Calls Tryz.prog 39 #[.slice A n c] w fun e w' => ∃ A' c', e = .returned (.slice A' n c') ∧ w'.ownsRow w.heap.size 57 4 (.slice A' n c') n (cellsOf (shiftL l)) ∧ Below w.heap.size w w' := by
  obtain ⟨i0, hi, hz0, hz1, hz2⟩ := info_parts infoSeat
  have HI := Lib.hid hi; have HZ0 := Lib.hid hz0; have HZ1 := Lib.hid hz1; have HZ2 := Lib.hid hz2
  clear hi hz0 hz1 hz2
  have hln := hr.len
  have hz : ((n : Int) == 0) = false := by simp; omega
  have hab : -4611686018427387904 ≤ avgL l ∧ avgL l ≤ 4611686018427387904 := avgL_bd l (by rintro rfl; simp at hln; omega) _ hp
  have HL := Lib.hid hln; have HR := Lib.hid hr; have HP := Lib.hid hp; clear hr hp hln
  have hsh : shiftL l = l.map (subP (avgL l)) := rfl
  have HSH := Lib.hid hsh; clear hsh
  go_enter Tryz.func39, Tryz.ntmps39
  go_wp2_with (at_builtin; refine wpList_app w rfl (.const (.slice none 0 0)) (.tmp 6) 24 rfl w.heap.size 57 i0 _ 4 48 Tryz.underlying24 HI.out HZ0.out HZ1.out HZ2.out rfl (by decide) (.slice none 0 0) 0 [] rfl (World.ownsRow_nil w w.heap.size _ _) w.heap.size A n c (cellsOf l) rfl HR.out (cellsOf_one l) ?q1 ?q2 (Nat.le_refl _) ?_; (case q1 => simp only [maxLen]; omega); (case q2 => omega); intro A1 c1 w1 hown hg _; simp only [Nat.zero_add, List.nil_append] at hown; have HO := Lib.hid hown; have HB := Lib.hid ((Below.refl w.heap.size w).grown hg (Nat.le_refl _) (by simp [Value.ownBlock])); clear hown hg)
  have KC := Lib.hid (average_any l A n c w1 ((HR.out.below HB.out).more HB.out.size) hn hn0 HP.out)
  generalize avgL l = av at *
  refine KC.out.mono ?_
  rintro e w2 ⟨rfl, hb2⟩
  have ho2 := own_below HO.out hb2 (Nat.le_refl _)
  have HO2 := Lib.hid ho2; have HB2 := Lib.hid (HB.out.trans (hb2.mono HB.out.size)); clear ho2 hb2
  have hneg : wrap64 (-av) = -av := by unfold wrap64; omega
  go_wp2
  go_loopw [16] (fun i wx => ∃ j : Nat, j ≤ n ∧ i = .int .i64 j ∧ Hid (wx.ownsRow w.heap.size 57 4 (.slice A1 n c1) n (cellsOf (mapTo (subP av) l j))) ∧ Hid (Below w.heap.size w wx)) (fun i _ => n - (intOf i).toNat)
  case atStart => exact ⟨0, Nat.zero_le _, rfl, by rw [mapTo_zero]; exact HO2.out, HB2.out⟩
  case round =>
    obtain ⟨j, hj, rfl, HO3, HB3⟩ := hrel
    by_cases hjk : j < n
    · have hjl : j < l.length := by have := HL.out; omega
      have hx : l[j]? = some l[j] := List.getElem?_eq_getElem hjl
      have hx' := mapTo_get (subP av) l j _ hx
      have hsu := mapTo_succ (subP av) l j _ hx
      have hpx := HP.out _ (List.getElem_mem hjl)
      generalize l[j] = x at *
      obtain ⟨g, cap, hv, hg0, hg1⟩ := HO3.out.form (by omega)
      have e1 : A1 = some ⟨g, 0, none⟩ := by injection hv
      subst e1
      clear hv
      obtain ⟨x0, x1, x2, x3⟩ := own_seat HO3.out hx'
      have hf := own_free HO3.out
      have hset := own_pri (q := clip (x.pri + -av)) HO3.out hx'
      have e2 : (mapTo (subP av) l j).set j { x with pri := clip (x.pri + -av) } = mapTo (subP av) l (j + 1) := hsu
      rw [e2] at hset
      have KP := Lib.hid (fun W => plus_any x.pri (-av) W ⟨by omega, by omega⟩ ⟨by omega, by omega⟩)
      have HSET := Lib.hid hset; clear hset e2 hsu x0 x1 x2 hx hx'
      generalize clip (x.pri + -av) = q at *
      go_wp2_with (go_at_call 68; refine (KP.out _).mono ?_; rintro e w5 ⟨rfl, rfl⟩)
      go_roundw
      case rel => exact ⟨j + 1, by omega, by go_num, HSET.out, HB3.out.setCell (p := ⟨g, j * 4 + 3, none⟩) hg0 _⟩
      case measure => simp [intOf]; omega
    · have hfin := HO3.out
      rw [mapTo_full _ _ _ (by have := HL.out; omega)] at hfin
      have HF := Lib.hid hfin; clear hfin
      go_wp2
      go_ret
      rw [HSH.out]
      exact ⟨A1, c1, rfl, HF.out, HB3.out⟩
end Go.Proofs.YtikikddkhikfkaaGreatDoor

set_option linter.unusedSimpArgs false
namespace Go.Proofs.YtikikddkhikfkaaGreatDoor
open Go.RowKit

theorem aheadB_anti {x y : Sd} (h : x.adr.toList ≠ y.adr.toList) : aheadB x y = !aheadB y x := by
  unfold aheadB
  have hb := bytesLess_anti _ _ h
  by_cases h1 : y.pri < x.pri
  · have h2 : ¬ x.pri < y.pri := by omega
    have h3 : ¬ y.pri = x.pri := by omega
    simp [h1, h2, h3]
  · by_cases h2 : x.pri < y.pri
    · have h3 : ¬ x.pri = y.pri := by omega
      simp [h1, h2, h3]
    · have h3 : x.pri = y.pri := by omega
      rw [hb]
      simp [h3]

set_option maxHeartbeats 800000 in
theorem stotal_any (l : List Sd) (A : Option Addr) (n c : Nat) (w : World) (hr : Rd w w.heap.size 4 A n (cellsOf l)) (hn : n ≤ 1000) (hp : ∀ x ∈ l, 0 ≤ x.pow ∧ x.pow ≤ 1125899906842624) :
    Calls Tryz.prog 38 #[.slice A n c] w fun e w' => e = .returned (.int .i64 (totL l)) ∧ Below w.heap.size w w' := by
  have HL := Lib.hid hr.len
  have HR := Lib.hid hr; have HP := Lib.hid hp; clear hr hp
  go_enter Tryz.func38, Tryz.ntmps38
  go_wp2
  go_loopw [3, 8] (fun s i wr => ∃ k : Nat, k ≤ n ∧ i = .int .i64 k ∧ s = .int .i64 (sumI ((powsOf l).take k)) ∧ Hid (Below w.heap.size w wr)) (fun _ i _ => n - (intOf i).toNat)
  case atStart => exact ⟨0, Nat.zero_le _, rfl, rfl, Below.refl _ _⟩
  case round =>
    obtain ⟨k, hk, rfl, rfl, HB⟩ := hrel
    by_cases hlt : k < n
    · have hk' : k < l.length := by have := HL.out; omega
      have hx : l[k]? = some l[k] := List.getElem?_eq_getElem hk'
      obtain ⟨ad, rfl, _, c0, c1, c2, c3⟩ := (HR.out.below HB.out).seat hx
      have hpx := HP.out _ (List.getElem_mem hk')
      have hst : (powsOf l).take (k + 1) = (powsOf l).take k ++ [l[k].pow] := by
        have hl2 : k < (powsOf l).length := by simpa [powsOf] using hk'
        rw [List.take_succ_eq_append_getElem hl2]; simp [powsOf]
      have hbd := sumI_bd ((powsOf l).take k) 0 1125899906842624 (fun x hx => by
        obtain ⟨s, hs, rfl⟩ := List.mem_map.1 (List.mem_of_mem_take hx)
        exact HP.out s hs)
      have hlen : ((powsOf l).take k).length ≤ k := List.length_take_le _ _
      generalize ((powsOf l).take k).length = m at *
      generalize l[k] = x at *
      have hs := sumI_snoc ((powsOf l).take k) x.pow
      rw [← hst] at hs
      generalize sumI ((powsOf l).take k) = s at *
      have HS := Lib.hid hs; clear hs hst hx
      go_wp2
      go_roundw
      case rel => exact ⟨k + 1, by omega, by go_num, by rw [HS.out], HB.out.alloc HB.out.size _⟩
      case measure => simp [intOf]; omega
    · obtain rfl : k = n := by omega
      have hsum : sumI ((powsOf l).take k) = totL l := by
        unfold totL; rw [List.take_of_length_le (by have := HL.out; simp [powsOf]; omega)]
      rw [hsum]
      clear hsum
      go_wp2
      go_ret
      exact ⟨rfl, HB.out⟩

set_option maxHeartbeats 800000 in
theorem ahead_any (x y : Sd) (w : World) :
    Calls Tryz.prog 113 #[.agg #[.string x.adr, .string x.key, .int .i64 x.pow, .int .i64 x.pri], .agg #[.string y.adr, .string y.key, .int .i64 y.pow, .int .i64 y.pri]] w fun e w' => e = .returned (.bool (aheadB x y)) ∧ Below w.heap.size w w' := by
  have hb := Lib.hid (((Below.refl w.heap.size w).alloc (Nat.le_refl _) (.cells #[.string x.adr, .string x.key, .int .i64 x.pow, .int .i64 x.pri] 57)).alloc (by simp) (.cells #[.string y.adr, .string y.key, .int .i64 y.pow, .int .i64 y.pri] 57))
  by_cases h : x.pri = y.pri
  · have h1 : (x.pri == y.pri) = true := by simpa using h
    have h2 : aheadB x y = Op.bytesLess x.adr.toList y.adr.toList := by simp [aheadB, h]
    have H2 := Lib.hid h2; clear h2 h
    go_enter Tryz.func113, Tryz.ntmps113
    go_wp2
    go_ret
    rw [H2.out]
    exact ⟨rfl, hb.out⟩
  · have h1 : (x.pri == y.pri) = false := by simpa using h
    have h2 : aheadB x y = decide (y.pri < x.pri) := by simp [aheadB, h]
    have H2 := Lib.hid h2; clear h2 h
    go_enter Tryz.func113, Tryz.ntmps113
    go_wp2
    go_ret
    rw [H2.out]
    exact ⟨rfl, hb.out⟩
end Go.Proofs.YtikikddkhikfkaaGreatDoor

set_option linter.unusedSimpArgs false
namespace Go.Proofs.YtikikddkhikfkaaGreatDoor
open Go.RowKit

def ixOf : Option (Sd × Nat) → Int
  | none => -1
  | some q => q.2

set_option maxRecDepth 100000 in
set_option maxHeartbeats 3200000 in
theorem sfirst_any (l : List Sd) (A : Option Addr) (n c : Nat) (w : World) (hr : Rd w w.heap.size 4 A n (cellsOf l)) (hn : n ≤ 1000) (hd : distinct l) :
    Calls Tryz.prog 72 #[.slice A n c] w fun e w' => e = .returned (.int .i64 (ixOf (propOf l))) ∧ Below w.heap.size w w' := by
  have HL := Lib.hid hr.len
  have HR := Lib.hid hr; have HD := Lib.hid hd; clear hr hd
  go_enter Tryz.func72, Tryz.ntmps72
  go_wp2
  go_loopw [3, 7] (fun v i wr => ∃ k : Nat, k ≤ n ∧ i = .int .i64 k ∧ v = .int .i64 (ixOf ((l.zipIdx.take k).foldl pstep none)) ∧ Hid (∀ q, (l.zipIdx.take k).foldl pstep none = some q → q.2 < k ∧ l[q.2]? = some q.1) ∧ Hid (Below w.heap.size w wr)) (fun _ i _ => n - (intOf i).toNat)
  case atStart => exact ⟨0, Nat.zero_le _, rfl, rfl, (fun q hq => by simp at hq), Below.refl _ _⟩
  case round =>
    obtain ⟨k, hk, rfl, rfl, HQ, HB⟩ := hrel
    by_cases hlt : k < n
    · have hk' : k < l.length := by have := HL.out; omega
      have hx : l[k]? = some l[k] := List.getElem?_eq_getElem hk'
      have hxk : l.zipIdx[k]? = some (l[k], k) := by rw [List.getElem?_zipIdx, hx]; simp
      have hnx := foldl_take_succ pstep none l.zipIdx k _ hxk
      have hrr := HR.out.below HB.out
      obtain ⟨ad, rfl, hadb, c0, c1, c2, c3⟩ := hrr.seat hx
      generalize l[k] = x at *
      have HNX := Lib.hid hnx; have HX := Lib.hid hx; clear hnx hx hxk
      cases hbest : (l.zipIdx.take k).foldl pstep none with
      | none =>
        rw [hbest] at HNX
        simp only [ixOf]
        clear hrr c0 c1 c2 c3
        go_wp2_with fail
        refine wp_region_L (fun w' : World => w' = wr.drew) 12 (by kernel_rfl) ?_
        refine wpAnyL_take 0 (v := .int .i64 (-1)) rfl (by kernel_rfl) (fun _ _ _ h => h) (yields_in rfl (fun w' hw' => by subst hw'; go_simp)) rfl ?_
        simp only [Act.put, List.setIfInBounds_toArray, List.set_cons_zero, List.set_cons_succ]
        refine wpAnyL_take 1 (v := .bool true) rfl (by kernel_rfl) (fun _ _ _ h => h) (yields_in rfl (fun w' hw' => by subst hw'; go_simp)) rfl ?_
        simp only [Act.put, List.setIfInBounds_toArray, List.set_cons_zero, List.set_cons_succ]
        refine wpAnyL_take 2 (v := .bool true) rfl (by kernel_rfl) (fun _ _ _ h => h) (yields_in rfl (fun w' hw' => by subst hw'; go_simp)) rfl ?_
        simp only [Act.put, List.setIfInBounds_toArray, List.set_cons_zero, List.set_cons_succ]
        refine wpAnyL_take 3 (v := undef) rfl (by kernel_rfl) (fun _ _ _ h => h) (yields_off (by kernel_rfl)) rfl ?_
        simp only [Act.put, List.setIfInBounds_toArray, List.set_cons_zero, List.set_cons_succ]
        refine wpAnyL_take 4 (v := undef) rfl (by kernel_rfl) (fun _ _ _ h => h) (yields_off (by kernel_rfl)) rfl ?_
        simp only [Act.put, List.setIfInBounds_toArray, List.set_cons_zero, List.set_cons_succ]
        refine wpAnyL_take 5 (v := undef) rfl (by kernel_rfl) (fun _ _ _ h => h) (yields_off (by kernel_rfl)) rfl ?_
        simp only [Act.put, List.setIfInBounds_toArray, List.set_cons_zero, List.set_cons_succ]
        refine wpAnyL_take 6 (v := undef) rfl (by kernel_rfl) (fun _ _ _ h => h) (yields_off (by kernel_rfl)) rfl ?_
        simp only [Act.put, List.setIfInBounds_toArray, List.set_cons_zero, List.set_cons_succ]
        refine wpAnyL_take 7 (v := undef) rfl (by kernel_rfl) (fun _ _ _ h => h) (yields_off (by kernel_rfl)) rfl ?_
        simp only [Act.put, List.setIfInBounds_toArray, List.set_cons_zero, List.set_cons_succ]
        refine wpAnyL_take 8 (v := undef) rfl (by kernel_rfl) (fun _ _ _ h => h) (yields_off (by kernel_rfl)) rfl ?_
        simp only [Act.put, List.setIfInBounds_toArray, List.set_cons_zero, List.set_cons_succ]
        refine wpAnyL_take 9 (v := undef) rfl (by kernel_rfl) (fun _ _ _ h => h) (yields_off (by kernel_rfl)) rfl ?_
        simp only [Act.put, List.setIfInBounds_toArray, List.set_cons_zero, List.set_cons_succ]
        refine wpAnyL_take 10 (v := undef) rfl (by kernel_rfl) (fun _ _ _ h => h) (yields_off (by kernel_rfl)) rfl ?_
        simp only [Act.put, List.setIfInBounds_toArray, List.set_cons_zero, List.set_cons_succ]
        refine wpAnyL_off 11 rfl (by kernel_rfl) (by kernel_rfl) rfl ?_
        simp only [Act.put, List.setIfInBounds_toArray, List.set_cons_zero, List.set_cons_succ]
        refine wpAnyL_one 12 rfl (by kernel_rfl) rfl ?_
        go_simp
        refine wpAnyL_done (by kernel_rfl) ?_ _
        go_wp2
        go_roundw
        case rel => exact ⟨k + 1, by omega, by go_num, by rw [HNX.out]; rfl, (fun q hq => by rw [HNX.out] at hq; simp only [pstep, Option.some.injEq] at hq; subst hq; exact ⟨Nat.lt_succ_self _, HX.out⟩), HB.out.drew⟩
        case measure => simp [intOf]; omega
      | some q =>
        obtain ⟨hqk, hqa⟩ := HQ.out q hbest
        obtain ⟨ad', h', _, d0, d1, d2, d3⟩ := hrr.seat hqa
        obtain rfl := Option.some.inj h'
        have hne : q.1.adr.toList ≠ x.adr.toList := HD.out q.2 k q.1 x hqa HX.out (by omega)
        have hqn : q.2 < n := by omega
        have hst : pstep (some q) (x, k) = if aheadB q.1 x then some q else some (x, k) := by
          have e1 : (q.1.adr.toList == x.adr.toList) = false := by simpa using hne
          simp only [pstep, e1, Bool.false_or]
        rw [hbest, hst] at HNX
        have hanti : aheadB x q.1 = !aheadB q.1 x := aheadB_anti (fun e => hne e.symm)
        have KC := Lib.hid (fun W => ahead_any x q.1 W)
        rw [hanti] at KC
        have HQA := Lib.hid hqa
        simp only [ixOf]
        clear hrr hbest hst hanti hne hqa h'
        obtain ⟨y, m⟩ := q
        simp only at *
        go_wp2_with fail
        have hS : (fun w' : World => Below wr.heap.size wr w' ∧ w'.cell? (ad.add (k * 4)) = some (.string x.adr) ∧ w'.cell? ⟨(ad.add (k * 4)).block, (ad.add (k * 4)).off + 1, none⟩ = some (.string x.key) ∧ w'.cell? ⟨(ad.add (k * 4)).block, (ad.add (k * 4)).off + 2, none⟩ = some (.int .i64 x.pow) ∧ w'.cell? ⟨(ad.add (k * 4)).block, (ad.add (k * 4)).off + 3, none⟩ = some (.int .i64 x.pri)
          ∧ w'.cell? (ad.add (m * 4)) = some (.string y.adr) ∧ w'.cell? ⟨(ad.add (m * 4)).block, (ad.add (m * 4)).off + 1, none⟩ = some (.string y.key) ∧ w'.cell? ⟨(ad.add (m * 4)).block, (ad.add (m * 4)).off + 2, none⟩ = some (.int .i64 y.pow) ∧ w'.cell? ⟨(ad.add (m * 4)).block, (ad.add (m * 4)).off + 3, none⟩ = some (.int .i64 y.pri)) wr.drew := ⟨(Below.refl _ _).drew, c0, c1, c2, c3, d0, d1, d2, d3⟩
        have HS := Lib.hid hS; clear hS
        refine wp_region_L (fun w' : World => Below wr.heap.size wr w' ∧ w'.cell? (ad.add (k * 4)) = some (.string x.adr) ∧ w'.cell? ⟨(ad.add (k * 4)).block, (ad.add (k * 4)).off + 1, none⟩ = some (.string x.key) ∧ w'.cell? ⟨(ad.add (k * 4)).block, (ad.add (k * 4)).off + 2, none⟩ = some (.int .i64 x.pow) ∧ w'.cell? ⟨(ad.add (k * 4)).block, (ad.add (k * 4)).off + 3, none⟩ = some (.int .i64 x.pri)
          ∧ w'.cell? (ad.add (m * 4)) = some (.string y.adr) ∧ w'.cell? ⟨(ad.add (m * 4)).block, (ad.add (m * 4)).off + 1, none⟩ = some (.string y.key) ∧ w'.cell? ⟨(ad.add (m * 4)).block, (ad.add (m * 4)).off + 2, none⟩ = some (.int .i64 y.pow) ∧ w'.cell? ⟨(ad.add (m * 4)).block, (ad.add (m * 4)).off + 3, none⟩ = some (.int .i64 y.pri)) 12 (by kernel_rfl) ?_
        refine wpAnyL_take 0 (v := .int .i64 m) rfl (by kernel_rfl) (fun _ _ _ h => h) (yields_on (by kernel_rfl) (fun w' hw' => by obtain ⟨yb, y0, y1, y2, y3, z0, z1, z2, z3⟩ := hw'; go_simp)) HS.out ?_
        simp only [Act.put, List.setIfInBounds_toArray, List.set_cons_zero, List.set_cons_succ]
        refine wpAnyL_take 1 (v := .bool false) rfl (by kernel_rfl) (fun _ _ _ h => h) (yields_on (by kernel_rfl) (fun w' hw' => by obtain ⟨yb, y0, y1, y2, y3, z0, z1, z2, z3⟩ := hw'; go_simp)) HS.out ?_
        simp only [Act.put, List.setIfInBounds_toArray, List.set_cons_zero, List.set_cons_succ]
        refine wpAnyL_take 2 (v := .bool false) rfl (by kernel_rfl) (fun _ _ _ h => h) (yields_on (by kernel_rfl) (fun w' hw' => by obtain ⟨yb, y0, y1, y2, y3, z0, z1, z2, z3⟩ := hw'; go_simp)) HS.out ?_
        simp only [Act.put, List.setIfInBounds_toArray, List.set_cons_zero, List.set_cons_succ]
        refine wpAnyL_take 3 (v := .slice (some ad) n c) rfl (by kernel_rfl) (fun _ _ _ h => h) (yields_on (by kernel_rfl) (fun w' hw' => by obtain ⟨yb, y0, y1, y2, y3, z0, z1, z2, z3⟩ := hw'; go_simp)) HS.out ?_
        simp only [Act.put, List.setIfInBounds_toArray, List.set_cons_zero, List.set_cons_succ]
        refine wpAnyL_take 4 (v := .int .i64 k) rfl (by kernel_rfl) (fun _ _ _ h => h) (yields_on (by kernel_rfl) (fun w' hw' => by obtain ⟨yb, y0, y1, y2, y3, z0, z1, z2, z3⟩ := hw'; go_simp)) HS.out ?_
        simp only [Act.put, List.setIfInBounds_toArray, List.set_cons_zero, List.set_cons_succ]
        refine wpAnyL_take 5 (v := .pointer (some (ad.add (k * 4)))) rfl (by kernel_rfl) (fun _ _ _ h => h) (yields_on (by kernel_rfl) (fun w' hw' => by obtain ⟨yb, y0, y1, y2, y3, z0, z1, z2, z3⟩ := hw'; go_simp)) HS.out ?_
        simp only [Act.put, List.setIfInBounds_toArray, List.set_cons_zero, List.set_cons_succ]
        refine wpAnyL_take 6 (v := .agg #[.string x.adr, .string x.key, .int .i64 x.pow, .int .i64 x.pri]) rfl (by kernel_rfl) (fun _ _ _ h => h) (yields_on (by kernel_rfl) (fun w' hw' => by obtain ⟨yb, y0, y1, y2, y3, z0, z1, z2, z3⟩ := hw'; go_simp)) HS.out ?_
        simp only [Act.put, List.setIfInBounds_toArray, List.set_cons_zero, List.set_cons_succ]
        refine wpAnyL_take 7 (v := .slice (some ad) n c) rfl (by kernel_rfl) (fun _ _ _ h => h) (yields_on (by kernel_rfl) (fun w' hw' => by obtain ⟨yb, y0, y1, y2, y3, z0, z1, z2, z3⟩ := hw'; go_simp)) HS.out ?_
        simp only [Act.put, List.setIfInBounds_toArray, List.set_cons_zero, List.set_cons_succ]
        refine wpAnyL_take 8 (v := .int .i64 m) rfl (by kernel_rfl) (fun _ _ _ h => h) (yields_on (by kernel_rfl) (fun w' hw' => by obtain ⟨yb, y0, y1, y2, y3, z0, z1, z2, z3⟩ := hw'; go_simp)) HS.out ?_
        simp only [Act.put, List.setIfInBounds_toArray, List.set_cons_zero, List.set_cons_succ]
        refine wpAnyL_take 9 (v := .pointer (some (ad.add (m * 4)))) rfl (by kernel_rfl) (fun _ _ _ h => h) (yields_on (by kernel_rfl) (fun w' hw' => by obtain ⟨yb, y0, y1, y2, y3, z0, z1, z2, z3⟩ := hw'; go_simp)) HS.out ?_
        simp only [Act.put, List.setIfInBounds_toArray, List.set_cons_zero, List.set_cons_succ]
        refine wpAnyL_take 10 (v := .agg #[.string y.adr, .string y.key, .int .i64 y.pow, .int .i64 y.pri]) rfl (by kernel_rfl) (fun _ _ _ h => h) (yields_on (by kernel_rfl) (fun w' hw' => by obtain ⟨yb, y0, y1, y2, y3, z0, z1, z2, z3⟩ := hw'; go_simp)) HS.out ?_
        simp only [Act.put, List.setIfInBounds_toArray, List.set_cons_zero, List.set_cons_succ]
        refine wpAnyL_on 11 rfl (by kernel_rfl) (by kernel_rfl) ?_
        go_simp
        refine (KC.out _).mono ?_
        rintro e w1 ⟨rfl, hb1⟩
        have hb2 : Below wr.heap.size wr w1 := (Below.refl _ _).drew.trans hb1
        have hadr : ad.block < wr.heap.size := Nat.lt_of_lt_of_le hadb HB.out.size
        have HB2 := Lib.hid hb2; clear hb1 hb2
        refine ⟨⟨HB2.out, (HB2.out.cell (p := ad.add (k * 4)) (by rw [add_block]; exact hadr)).trans c0, (HB2.out.cell (p := ⟨(ad.add (k * 4)).block, (ad.add (k * 4)).off + 1, none⟩) (by rw [add_block]; exact hadr)).trans c1, (HB2.out.cell (p := ⟨(ad.add (k * 4)).block, (ad.add (k * 4)).off + 2, none⟩) (by rw [add_block]; exact hadr)).trans c2, (HB2.out.cell (p := ⟨(ad.add (k * 4)).block, (ad.add (k * 4)).off + 3, none⟩) (by rw [add_block]; exact hadr)).trans c3, (HB2.out.cell (p := ad.add (m * 4)) (by rw [add_block]; exact hadr)).trans d0, (HB2.out.cell (p := ⟨(ad.add (m * 4)).block, (ad.add (m * 4)).off + 1, none⟩) (by rw [add_block]; exact hadr)).trans d1, (HB2.out.cell (p := ⟨(ad.add (m * 4)).block, (ad.add (m * 4)).off + 2, none⟩) (by rw [add_block]; exact hadr)).trans d2, (HB2.out.cell (p := ⟨(ad.add (m * 4)).block, (ad.add (m * 4)).off + 3, none⟩) (by rw [add_block]; exact hadr)).trans d3⟩, ?_⟩
        refine wpAnyL_one 12 rfl (by kernel_rfl) rfl ?_
        go_simp
        refine wpAnyL_done (by kernel_rfl) ?_ _
        cases hah : aheadB y x with
        | true =>
          rw [hah] at HNX
          go_wp2
          go_roundw
          case rel => exact ⟨k + 1, by omega, by go_num, by rw [HNX.out]; rfl, (fun q hq => by rw [HNX.out] at hq; simp only [if_true, Option.some.injEq] at hq; subst hq; exact ⟨by omega, HQA.out⟩), HB.out.trans (HB2.out.mono HB.out.size)⟩
          case measure => simp [intOf]; omega
        | false =>
          rw [hah] at HNX
          go_wp2
          go_roundw
          case rel => exact ⟨k + 1, by omega, by go_num, by rw [HNX.out]; rfl, (fun q hq => by rw [HNX.out] at hq; simp at hq; subst hq; exact ⟨Nat.lt_succ_self _, HX.out⟩), HB.out.trans (HB2.out.mono HB.out.size)⟩
          case measure => simp [intOf]; omega
    · obtain rfl : k = n := by omega
      have hf : l.zipIdx.take k = l.zipIdx := List.take_of_length_le (by have := HL.out; simp; omega)
      rw [hf]
      clear hf
      go_wp2
      go_ret
      exact ⟨rfl, HB.out⟩
end Go.Proofs.YtikikddkhikfkaaGreatDoor

set_option linter.unusedSimpArgs false
namespace Go.Proofs.YtikikddkhikfkaaGreatDoor
open Go.RowKit

theorem addP_mid (l : List Sd) (j : Nat) (x : Sd) (hx : l[j]? = some x) : (mapTo addP l j).set j { x with pri := clip (x.pri + x.pow) } = mapTo addP l (j + 1) := mapTo_succ addP l j x hx

set_option maxRecDepth 100000 in
set_option maxHeartbeats 6400000 in
theorem sturned_any (l : List Sd) (A : Option Addr) (n c times : Nat) (w : World) (hr : Rd w w.heap.size 4 A n (cellsOf l)) (hl : turnable l) (htm : 0 < times) (htm2 : times ≤ 100000) :
    Calls Tryz.prog 45 #[.slice A n c, .int .i64 times] w fun e w' => ∃ A' c', e = .returned (.tuple #[.slice A' n c', .string (nextP (turnsL (totL l) (times - 1) (startL l)))]) ∧ Rd w' w'.heap.size 4 A' n (cellsOf (turnsL (totL l) times (startL l))) ∧ Below w.heap.size w w' := by
  have hln := hr.len
  have hn : n ≤ 500 := by have := hl.len; omega
  have hn0 : 0 < n := by have := List.length_pos_iff.2 hl.ne; omega
  have hT := sumI_bd (powsOf l) 1 1125899906842624 (fun x hx => by
    obtain ⟨s, hs, rfl⟩ := List.mem_map.1 hx
    exact hl.pow s hs)
  have hpl : (powsOf l).length = n := by simp [powsOf, hln]
  rw [hpl] at hT
  have hT' : (n : Int) * 1 ≤ totL l ∧ totL l ≤ (n : Int) * 1125899906842624 := hT
  have hspri := scaleL_pri (2 * totL l) l 1152921504606846976 (fun s hs => by have := hl.pri s hs; omega)
  have hcore : ∀ k, (turnsL (totL l) k (startL l)).map core = l.map core := fun k => (turnsL_core _ _ k).trans (startL_core _)
  have hgin := turnsL_in (totL l) _ (startL_in l)
  have hpow : ∀ k, ∀ s ∈ turnsL (totL l) k (startL l), in64 s.pow := fun k => pow_of_core (p := in64) (hcore k) (fun s hs => by have := hl.pow s hs; unfold in64; omega)
  have hdist : ∀ k, distinct (turnsL (totL l) k (startL l)) := fun k => distinct_of_core (hcore k) hl.dist
  have hlens : ∀ k, (turnsL (totL l) k (startL l)).length = n := fun k => by rw [length_of_core (hcore k)]; exact hln.symm
  have KT := Lib.hid (stotal_any l A n c w hr (by omega) (fun x hx => by have := hl.pow x hx; omega))
  have hst : startL l = shiftL (scaleL (2 * totL l) l) := rfl
  have HST := Lib.hid hst; have HL := Lib.hid hln; have HR := Lib.hid hr; have HTN := Lib.hid hl; have HSP := Lib.hid hspri; have HGI := Lib.hid hgin; have HPW := Lib.hid hpow; have HDI := Lib.hid hdist; have HLN := Lib.hid hlens
  clear hst hln hr hl hspri hgin hpow hdist hlens hcore hpl hT
  generalize totL l = T at *
  go_enter Tryz.func45, Tryz.ntmps45
  go_wp2_with fail
  refine KT.out.mono ?_
  rintro e w1 ⟨rfl, hb1⟩
  have HB1 := Lib.hid hb1; clear hb1
  have KS := Lib.hid (sscaled_any l A n c (2 * T) w1 ((HR.out.below HB1.out).more HB1.out.size) (by omega) hn0 HTN.out.pri (by omega))
  go_wp2_with fail
  refine KS.out.mono ?_
  rintro e w2 ⟨A2, c2, rfl, hr2, hb2⟩
  have HB2 := Lib.hid (HB1.out.trans (hb2.mono HB1.out.size))
  have KH := Lib.hid (shifted_any _ A2 n c2 w2 hr2 (by omega) hn0 (fun x hx => by have := HSP.out x hx; omega))
  rw [← HST.out] at KH
  clear hr2 hb2
  go_wp2_with fail
  refine KH.out.mono ?_
  rintro e w3 ⟨A1, c1, rfl, ho3, hb3⟩
  have HO3 := Lib.hid ho3; have HB3 := Lib.hid hb3; clear ho3 hb3
  have z2 := HB2.out.size
  go_wp2
  go_loopw [8, 19] (fun p i wr => ∃ k : Nat, k ≤ times ∧ i = .int .i64 k ∧ Hid (wr.ownsRow w2.heap.size 57 4 (.slice A1 n c1) n (cellsOf (turnsL T k (startL l)))) ∧ Hid (Below w2.heap.size w2 wr) ∧ Hid (k ≠ 0 → p = .string (nextP (turnsL T (k - 1) (startL l))))) (fun _ i _ => times - (intOf i).toNat)
  case atStart => exact ⟨0, Nat.zero_le _, rfl, HO3.out, HB3.out, fun h => absurd rfl h⟩
  case round =>
    obtain ⟨k, hk, rfl, HO, HB, HPR⟩ := hrel
    by_cases hlt : k < times
    · have hgi := HGI.out k; have hpw := HPW.out k; have hdi := HDI.out k; have hle := HLN.out k
      have hnx : turnsL T (k + 1) (startL l) = turnOf T (turnsL T k (startL l)) := rfl
      have hnp : Hid (k + 1 ≠ 0 → Value.string (nextP (turnsL T k (startL l))) = .string (nextP (turnsL T (k + 1 - 1) (startL l)))) := Lib.hid fun _ => rfl
      have HNX := Lib.hid hnx; clear hnx HPR
      have hnp2 : ∀ b, b = nextP (turnsL T k (startL l)) → Hid (k + 1 ≠ 0 → Value.string b = .string (nextP (turnsL T (k + 1 - 1) (startL l)))) := fun b e => by rw [e]; exact hnp
      have HNP := Lib.hid hnp2; clear hnp hnp2
      generalize turnsL T k (startL l) = m at *
      obtain ⟨g, cap, hv, hg0, hg1⟩ := HO.out.form (by omega)
      have e1 : A1 = some ⟨g, 0, none⟩ := by injection hv
      subst e1
      clear hv
      have HGM := Lib.hid hgi; have HPM := Lib.hid hpw; have HDM := Lib.hid hdi; have HLM := Lib.hid hle
      clear hgi hpw hdi hle
      go_wp2
      go_loopw [23] (fun i wx => ∃ j : Nat, j ≤ n ∧ i = .int .i64 j ∧ Hid (wx.ownsRow w2.heap.size 57 4 (.slice (some ⟨g, 0, none⟩) n c1) n (cellsOf (mapTo addP m j))) ∧ Hid (Below w2.heap.size w2 wx)) (fun i _ => n - (intOf i).toNat)
      case atStart => exact ⟨0, Nat.zero_le _, rfl, by rw [mapTo_zero]; exact HO.out, HB.out⟩
      case round =>
        obtain ⟨j, hj, rfl, HO4, HB4⟩ := hrel
        by_cases hjk : j < n
        · have hjl : j < m.length := by have := HLM.out; omega
          have hx : m[j]? = some m[j] := List.getElem?_eq_getElem hjl
          have hx' := mapTo_get addP m j _ hx
          have hgx := HGM.out _ (List.getElem_mem hjl)
          have hpx := HPM.out _ (List.getElem_mem hjl)
          have hsu := addP_mid m j _ hx
          generalize m[j] = x at *
          obtain ⟨x0, x1, x2, x3⟩ := own_seat HO4.out hx'
          have hf := own_free HO4.out
          have hset : ∀ q, ((wr.drewN q).setCell ⟨g, j * 4 + 3, none⟩ (.int .i64 (clip (x.pri + x.pow)))).ownsRow w2.heap.size 57 4 (.slice (some ⟨g, 0, none⟩) n c1) n (cellsOf (mapTo addP m (j + 1))) := fun q => by
            have h1 := own_pri (q := clip (x.pri + x.pow)) (own_drewN HO4.out q) hx'
            rw [hsu] at h1
            exact h1
          have KP := Lib.hid (fun W => plus_any x.pri x.pow W hgx hpx)
          have HSET := Lib.hid hset; clear hset hsu x0 x1 hx hx' hgx hpx
          generalize clip (x.pri + x.pow) = q at *
          go_wp2_with fail
          refine wp_region_L (fun w' : World => ∃ n, w' = wr.drewN n) 15 (by kernel_rfl) ?_
          refine wpAnyL_take 0 (v := .slice (some ⟨g, 0, none⟩) n c1) rfl (by kernel_rfl) (fun _ _ _ h => h) (yields_in rfl (fun w' hw' => by obtain ⟨n1, rfl⟩ := hw'; go_simp)) ⟨1, rfl⟩ ?_
          simp only [Act.put, List.setIfInBounds_toArray, List.set_cons_zero, List.set_cons_succ]
          refine wpAnyL_take 1 (v := .int .i64 j) rfl (by kernel_rfl) (fun _ _ _ h => h) (yields_in rfl (fun w' hw' => by obtain ⟨n1, rfl⟩ := hw'; go_simp)) ⟨1, rfl⟩ ?_
          simp only [Act.put, List.setIfInBounds_toArray, List.set_cons_zero, List.set_cons_succ]
          refine wpAnyL_take 2 (v := .slice (some ⟨g, 0, none⟩) n c1) rfl (by kernel_rfl) (fun _ _ _ h => h) (yields_in rfl (fun w' hw' => by obtain ⟨n1, rfl⟩ := hw'; go_simp)) ⟨1, rfl⟩ ?_
          simp only [Act.put, List.setIfInBounds_toArray, List.set_cons_zero, List.set_cons_succ]
          refine wpAnyL_take 3 (v := .int .i64 j) rfl (by kernel_rfl) (fun _ _ _ h => h) (yields_in rfl (fun w' hw' => by obtain ⟨n1, rfl⟩ := hw'; go_simp)) ⟨1, rfl⟩ ?_
          simp only [Act.put, List.setIfInBounds_toArray, List.set_cons_zero, List.set_cons_succ]
          refine wpAnyL_take 4 (v := .pointer (some ⟨g, j * 4, none⟩)) rfl (by kernel_rfl) (fun _ _ _ h => h) (yields_in rfl (fun w' hw' => by obtain ⟨n1, rfl⟩ := hw'; go_simp)) ⟨1, rfl⟩ ?_
          simp only [Act.put, List.setIfInBounds_toArray, List.set_cons_zero, List.set_cons_succ]
          refine wpAnyL_take 5 (v := .pointer (some ⟨g, j * 4 + 3, none⟩)) rfl (by kernel_rfl) (fun _ _ _ h => h) (yields_in rfl (fun w' hw' => by obtain ⟨n1, rfl⟩ := hw'; go_simp)) ⟨1, rfl⟩ ?_
          simp only [Act.put, List.setIfInBounds_toArray, List.set_cons_zero, List.set_cons_succ]
          refine wpAnyL_take 6 (v := .int .i64 x.pri) rfl (by kernel_rfl) (fun _ _ _ h => h) (yields_in rfl (fun w' hw' => by obtain ⟨n1, rfl⟩ := hw'; go_simp)) ⟨1, rfl⟩ ?_
          simp only [Act.put, List.setIfInBounds_toArray, List.set_cons_zero, List.set_cons_succ]
          refine wpAnyL_take 7 (v := .slice (some ⟨g, 0, none⟩) n c1) rfl (by kernel_rfl) (fun _ _ _ h => h) (yields_in rfl (fun w' hw' => by obtain ⟨n1, rfl⟩ := hw'; go_simp)) ⟨1, rfl⟩ ?_
          simp only [Act.put, List.setIfInBounds_toArray, List.set_cons_zero, List.set_cons_succ]
          refine wpAnyL_take 8 (v := .int .i64 j) rfl (by kernel_rfl) (fun _ _ _ h => h) (yields_in rfl (fun w' hw' => by obtain ⟨n1, rfl⟩ := hw'; go_simp)) ⟨1, rfl⟩ ?_
          simp only [Act.put, List.setIfInBounds_toArray, List.set_cons_zero, List.set_cons_succ]
          refine wpAnyL_take 9 (v := .pointer (some ⟨g, j * 4, none⟩)) rfl (by kernel_rfl) (fun _ _ _ h => h) (yields_in rfl (fun w' hw' => by obtain ⟨n1, rfl⟩ := hw'; go_simp)) ⟨1, rfl⟩ ?_
          simp only [Act.put, List.setIfInBounds_toArray, List.set_cons_zero, List.set_cons_succ]
          refine wpAnyL_take 10 (v := .pointer (some ⟨g, j * 4 + 2, none⟩)) rfl (by kernel_rfl) (fun _ _ _ h => h) (yields_in rfl (fun w' hw' => by obtain ⟨n1, rfl⟩ := hw'; go_simp)) ⟨1, rfl⟩ ?_
          simp only [Act.put, List.setIfInBounds_toArray, List.set_cons_zero, List.set_cons_succ]
          refine wpAnyL_take 11 (v := .int .i64 x.pow) rfl (by kernel_rfl) (fun _ _ _ h => h) (yields_in rfl (fun w' hw' => by obtain ⟨n1, rfl⟩ := hw'; go_simp)) ⟨1, rfl⟩ ?_
          simp only [Act.put, List.setIfInBounds_toArray, List.set_cons_zero, List.set_cons_succ]
          refine wpAnyL_one 12 rfl (by kernel_rfl) rfl ?_
          go_simp
          refine (KP.out _).mono ?_
          rintro e w5 ⟨rfl, rfl⟩
          refine ⟨⟨1, rfl⟩, ?_⟩
          refine wpAnyL_one 13 rfl (by kernel_rfl) rfl ?_
          go_simp
          refine ⟨⟨1, rfl⟩, ?_⟩
          refine wpAnyL_one 14 rfl (by kernel_rfl) rfl ?_
          go_simp
          refine ⟨⟨1, rfl⟩, ?_⟩
          refine wpAnyL_one 15 rfl (by kernel_rfl) rfl ?_
          go_simp
          refine wpAnyL_done (by kernel_rfl) ?_ _
          go_wp2
          go_roundw
          case rel => exact ⟨j + 1, by omega, by go_num, HSET.out 1, (HB4.out.drew).setCell (p := ⟨g, j * 4 + 3, none⟩) hg0 _⟩
          case measure => simp [intOf]; omega
        · obtain rfl : j = n := by omega
          have ho5 := HO4.out
          rw [mapTo_full _ _ _ (by have := HLM.out; omega)] at ho5
          have hd5 : distinct (m.map addP) := distinct_map HDM.out _ (fun _ => rfl)
          have hne : m.map addP ≠ [] := fun e => by
            have h1 := congrArg List.length e
            have := HLM.out
            simp at h1; rw [h1] at this; simp at this; omega
          obtain ⟨q, hq, hqa⟩ := propOf_at _ hne
          have hqn : q.2 < j := by
            have := (List.getElem?_eq_some_iff.1 hqa).1
            have := HLM.out
            simp at *; omega
          have hqi : in64 q.1.pri := by
            obtain ⟨y, _, hyq⟩ := List.mem_map.1 (List.mem_of_getElem? hqa)
            rw [← hyq]; exact clip_in _
          have KF := Lib.hid (sfirst_any (m.map addP) (some ⟨g, 0, none⟩) j c1 _ (Rd.of_own ho5) (by omega) hd5)
          rw [hq] at KF
          have hto : turnOf T m = (m.map addP).set q.2 { q.1 with pri := clip (q.1.pri + -T) } := by unfold turnOf; rw [hq]; rfl
          have hnq : nextP m = q.1.adr := by unfold nextP; rw [hq]
          have HO5 := Lib.hid ho5; have HQA := Lib.hid hqa; have HTO := Lib.hid hto
          have HNQ := HNP.out q.1.adr hnq.symm
          clear hd5 hne hq hqa hto ho5 hnq HNP
          obtain ⟨x, qi⟩ := q
          simp only [ixOf] at *
          go_wp2_with fail
          refine KF.out.mono ?_
          rintro e w6 ⟨rfl, hb6⟩
          have ho6 := own_below HO5.out hb6 (Nat.le_refl _)
          have HB6 := Lib.hid (HB4.out.trans (hb6.mono HB4.out.size))
          obtain ⟨x0, x1, x2, x3⟩ := own_seat ho6 HQA.out
          have hf := own_free ho6
          have hset := own_pri (q := clip (x.pri + -T)) ho6 HQA.out
          rw [← HTO.out, ← HNX.out] at hset
          have x0' : (w6.setCell ⟨g, qi * 4 + 3, none⟩ (.int .i64 (clip (x.pri + -T)))).cell? ⟨g, qi * 4, none⟩ = some (.string x.adr) := (World.cell?_setCell_other w6 _ _ _ (by intro e; injection e; omega)).trans x0
          have KP := Lib.hid (fun W => plus_any x.pri (-T) W hqi ⟨by omega, by omega⟩)
          have HSET := Lib.hid hset
          have hneg : wrap64 (-T) = -T := by unfold wrap64; omega
          clear hset ho6 hb6 x1 x2 HTO hqi x0
          generalize clip (x.pri + -T) = pq at *
          go_wp2_with fail
          refine (KP.out _).mono ?_
          rintro e w7 ⟨rfl, rfl⟩
          go_wp2
          go_roundw
          case rel => exact ⟨k + 1, by omega, by go_num, HSET.out, HB6.out.setCell (p := ⟨g, qi * 4 + 3, none⟩) hg0 _, HNQ⟩
          case measure => simp [intOf]; omega
    · obtain rfl : k = times := by omega
      have hpr := HPR.out (by omega)
      subst hpr
      have HF := Lib.hid (Rd.of_own HO.out)
      have HBF := Lib.hid (HB2.out.trans (HB.out.mono z2))
      go_wp2
      go_ret2
      first | exact ⟨A1, ⟨c1, rfl⟩, HF.out, HBF.out⟩ | exact ⟨A1, c1, rfl, HF.out, HBF.out⟩
end Go.Proofs.YtikikddkhikfkaaGreatDoor
