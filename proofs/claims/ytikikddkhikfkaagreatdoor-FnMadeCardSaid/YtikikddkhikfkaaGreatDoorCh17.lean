/-
  Plain facts of the changes of a set: the merged list, the removed ones, powers, the same validators as the specification's. No function is walked here. By the session. The changed set, in plain Lean: the same validators whichever way they are gathered, scaled, shifted and ranked. No function is walked here. By the session. The changed set, in plain Lean: its power, its numbers' bounds, that it is not empty. No function is walked here. By the session. The specification's changed set, in plain Lean: what its loops hold. No function is walked here. By the session.
-/
import Derived.Test.YtikikddkhikfkaaGreatDoorCh14
import Derived.Test.YtikikddkhikfkaaGreatDoorCh16
import Derived.Test.YtikikddkhikfkaaGreatDoorCh11
import Derived.Test.YtikikddkhikfkaaGreatDoorCh9
import Derived.Test.YtikikddkhikfkaaGreatDoorCh13
set_option linter.all false
namespace Go.Proofs.YtikikddkhikfkaaGreatDoor
open Go.RowKit

def adrs (l : List Sd) : List (List UInt8) := l.map fun s => s.adr.toList
def sameS (x y : Sd) : Bool := x.adr.toList == y.adr.toList
def notIn (U : List Sd) (e : Sd) : Bool := !(U.any (sameS e))
def px (p : Nat × Tv) : Sd := p.2.x
abbrev Srt (l : List Sd) : Prop := l.Pairwise fun x y => adrB x y = true
def mergeS : List Sd → List Sd → List Sd
  | [], us => us
  | e :: es, [] => e :: es
  | e :: es, u :: us => if adrB e u then e :: mergeS es (u :: us) else if sameS e u then u :: mergeS es us else u :: mergeS (e :: es) us
  termination_by es us => es.length + us.length
def remS : List Sd → List Sd → List Sd
  | [], _ => []
  | e :: es, [] => e :: es
  | e :: es, d :: ds => if sameS e d then remS es ds else e :: remS es (d :: ds)
def fitS : List Sd → List Sd → Bool
  | _, [] => true
  | [], _ :: _ => false
  | e :: es, d :: ds => if sameS e d then fitS es ds else fitS es (d :: ds)
theorem mergeS_nil (E : List Sd) : mergeS E [] = E := by cases E <;> simp [mergeS]
theorem mergeV_px (E U : List (Nat × Tv)) : (mergeV E U).map px = mergeS (E.map px) (U.map px) := by
  induction E, U using mergeV.induct with
  | case1 us => simp [mergeV, mergeS]
  | case2 e es => simp [mergeV, mergeS]
  | case3 e es u us h ih =>
    rw [mergeV, if_pos h]
    simp only [List.map_cons] at *
    rw [mergeS, if_pos (show adrB (px e) (px u) = true from h), ih]
  | case4 e es u us h h2 ih =>
    rw [mergeV, if_neg h, if_pos h2]
    simp only [List.map_cons] at *
    rw [mergeS, if_neg (show ¬ adrB (px e) (px u) = true from h), if_pos (show sameS (px e) (px u) = true from h2), ih]
  | case5 e es u us h h2 ih =>
    rw [mergeV, if_neg h, if_neg h2]
    simp only [List.map_cons] at *
    rw [mergeS, if_neg (show ¬ adrB (px e) (px u) = true from h), if_neg (show ¬ sameS (px e) (px u) = true from h2), ih]
theorem remV_px : ∀ (E D : List (Nat × Tv)), (remV E D).map px = remS (E.map px) (D.map px) ∧ fitV E D = fitS (E.map px) (D.map px)
  | [], [] => by simp [remV, remS, fitV, fitS]
  | [], d :: ds => by simp [remV, remS, fitV, fitS]
  | e :: es, [] => by simp [remV, remS, fitV, fitS]
  | e :: es, d :: ds => by
    have h1 := remV_px es ds
    have h2 := remV_px es (d :: ds)
    simp only [List.map_cons] at *
    rw [remV, remS, fitV, fitS]
    by_cases h : sameA e d = true
    · rw [if_pos h, if_pos h, if_pos (show sameS (px e) (px d) = true from h), if_pos (show sameS (px e) (px d) = true from h)]; exact h1
    · rw [if_neg h, if_neg h, if_neg (show ¬ sameS (px e) (px d) = true from h), if_neg (show ¬ sameS (px e) (px d) = true from h), List.map_cons, h2.1]; exact ⟨rfl, h2.2⟩

theorem same_iff (x y : Sd) : sameS x y = true ↔ x.adr.toList = y.adr.toList := by unfold sameS; simp
theorem notIn_iff (U : List Sd) (e : Sd) : notIn U e = true ↔ ∀ u ∈ U, e.adr.toList ≠ u.adr.toList := by
  unfold notIn sameS; simp
theorem adrB_ne {x y : Sd} (h : adrB x y = true) : x.adr.toList ≠ y.adr.toList := fun e => by
  unfold adrB at h; rw [e, less_irrefl] at h; cases h
theorem adrB_trans {x y z : Sd} (h : adrB x y = true) (h' : adrB y z = true) : adrB x z = true := less_trans h h'
theorem adrB_tri {x y : Sd} (h : ¬ adrB x y = true) (h' : ¬ sameS x y = true) : adrB y x = true := by
  cases hb : adrB y x with
  | true => rfl
  | false => exact absurd ((same_iff x y).2 (less_total (by unfold adrB at h; simpa using h) hb)) h'
theorem adrB_same {x y z : Sd} (h : sameS x y = true) (h' : adrB y z = true) : adrB x z = true := by
  rw [same_iff] at h; unfold adrB at *; rw [h]; exact h'
theorem Srt.ne {l : List Sd} (h : Srt l) : (adrs l).Nodup := by
  unfold adrs List.Nodup
  rw [List.pairwise_map]
  exact h.imp fun hx => adrB_ne hx
theorem srt_of {l : List Sd} (h : l.Pairwise fun x y => adrB y x = false) (hn : (adrs l).Nodup) : Srt l := by
  unfold adrs List.Nodup at hn
  rw [List.pairwise_map] at hn
  refine (List.Pairwise.and h hn).imp fun {x y} hx => ?_
  exact adrB_tri (x := y) (y := x) (by rw [hx.1]; simp) (fun e => hx.2 ((same_iff _ _).1 e).symm)
theorem filter_nil (E : List Sd) : E.filter (notIn []) = E := List.filter_eq_self.2 (fun a _ => rfl)
theorem mergeS_perm (E U : List Sd) (hE : Srt E) (hU : Srt U) : (mergeS E U).Perm (U ++ E.filter (notIn U)) := by
  induction E, U using mergeS.induct with
  | case1 us => simp [mergeS]
  | case2 e es =>
    rw [mergeS, List.nil_append, filter_nil]
  | case3 e es u us h ih =>
    rw [mergeS, if_pos h]
    have hk : notIn (u :: us) e = true := (notIn_iff _ _).2 fun v hv => by
      rcases List.mem_cons.1 hv with rfl | hv
      · exact adrB_ne h
      · exact adrB_ne (adrB_trans h ((List.pairwise_cons.1 hU).1 v hv))
    rw [List.filter_cons, if_pos hk]
    exact ((ih (List.pairwise_cons.1 hE).2 hU).cons e).trans List.perm_middle.symm
  | case4 e es u us h h2 ih =>
    rw [mergeS, if_neg h, if_pos h2]
    have hk : ¬ notIn (u :: us) e = true := fun hk => (notIn_iff _ _).1 hk u (List.mem_cons_self ..) ((same_iff _ _).1 h2)
    rw [List.filter_cons, if_neg hk]
    have hc : es.filter (notIn (u :: us)) = es.filter (notIn us) := List.filter_congr fun x hx => by
      have hxe := (List.pairwise_cons.1 hE).1 x hx
      have : sameS x u = false := by
        cases hs : sameS x u with
        | false => rfl
        | true => exact absurd (((same_iff _ _).1 h2).trans ((same_iff _ _).1 hs).symm) (adrB_ne hxe)
      unfold notIn; simp [this]
    rw [hc]
    exact (ih (List.pairwise_cons.1 hE).2 (List.pairwise_cons.1 hU).2).cons u
  | case5 e es u us h h2 ih =>
    rw [mergeS, if_neg h, if_neg h2]
    have hue := adrB_tri h h2
    have hc : (e :: es).filter (notIn (u :: us)) = (e :: es).filter (notIn us) := List.filter_congr fun x hx => by
      have hxu : adrB u x = true := by
        rcases List.mem_cons.1 hx with rfl | hx
        · exact hue
        · exact adrB_trans hue ((List.pairwise_cons.1 hE).1 x hx)
      have : sameS x u = false := by
        cases hs : sameS x u with
        | false => rfl
        | true => exact absurd ((same_iff _ _).1 hs).symm (adrB_ne hxu)
      unfold notIn; simp [this]
    rw [hc]
    exact (ih hE (List.pairwise_cons.1 hU).2).cons u
theorem mergeS_mem {E U : List Sd} {x : Sd} (hx : x ∈ mergeS E U) : x ∈ E ∨ x ∈ U := by
  induction E, U using mergeS.induct with
  | case1 us => right; simpa [mergeS] using hx
  | case2 e es => left; simpa [mergeS] using hx
  | case3 e es u us h ih =>
    rw [mergeS, if_pos h] at hx
    rcases List.mem_cons.1 hx with rfl | hx
    · exact .inl (List.mem_cons_self ..)
    · exact (ih hx).imp (List.mem_cons_of_mem _) id
  | case4 e es u us h h2 ih =>
    rw [mergeS, if_neg h, if_pos h2] at hx
    rcases List.mem_cons.1 hx with rfl | hx
    · exact .inr (List.mem_cons_self ..)
    · exact (ih hx).imp (List.mem_cons_of_mem _) (List.mem_cons_of_mem _)
  | case5 e es u us h h2 ih =>
    rw [mergeS, if_neg h, if_neg h2] at hx
    rcases List.mem_cons.1 hx with rfl | hx
    · exact .inr (List.mem_cons_self ..)
    · exact (ih hx).imp id (List.mem_cons_of_mem _)
theorem mergeS_srt (E U : List Sd) (hE : Srt E) (hU : Srt U) : Srt (mergeS E U) := by
  induction E, U using mergeS.induct with
  | case1 us => simpa [mergeS] using hU
  | case2 e es => simpa [mergeS] using hE
  | case3 e es u us h ih =>
    rw [mergeS, if_pos h]
    refine List.pairwise_cons.2 ⟨fun x hx => ?_, ih (List.pairwise_cons.1 hE).2 hU⟩
    rcases mergeS_mem hx with hx | hx
    · exact (List.pairwise_cons.1 hE).1 x hx
    · rcases List.mem_cons.1 hx with rfl | hx
      · exact h
      · exact adrB_trans h ((List.pairwise_cons.1 hU).1 x hx)
  | case4 e es u us h h2 ih =>
    rw [mergeS, if_neg h, if_pos h2]
    refine List.pairwise_cons.2 ⟨fun x hx => ?_, ih (List.pairwise_cons.1 hE).2 (List.pairwise_cons.1 hU).2⟩
    rcases mergeS_mem hx with hx | hx
    · exact adrB_same ((same_iff _ _).2 ((same_iff _ _).1 h2).symm) ((List.pairwise_cons.1 hE).1 x hx)
    · exact (List.pairwise_cons.1 hU).1 x hx
  | case5 e es u us h h2 ih =>
    rw [mergeS, if_neg h, if_neg h2]
    have hue := adrB_tri h h2
    refine List.pairwise_cons.2 ⟨fun x hx => ?_, ih hE (List.pairwise_cons.1 hU).2⟩
    rcases mergeS_mem hx with hx | hx
    · rcases List.mem_cons.1 hx with rfl | hx
      · exact hue
      · exact adrB_trans hue ((List.pairwise_cons.1 hE).1 x hx)
    · exact (List.pairwise_cons.1 hU).1 x hx
theorem remS_eq : ∀ (E D : List Sd), Srt E → Srt D → (∀ d ∈ D, ∃ e ∈ E, e.adr.toList = d.adr.toList) → fitS E D = true ∧ remS E D = E.filter (notIn D)
  | [], [] => fun _ _ _ => by simp [fitS, remS]
  | [], d :: ds => fun _ _ h => by
    obtain ⟨e, he, _⟩ := h d (List.mem_cons_self ..)
    simp at he
  | e :: es, [] => fun _ _ _ => by
    rw [fitS, remS, filter_nil]; exact ⟨rfl, rfl⟩
  | e :: es, d :: ds => fun hE hD h => by
    have hE' := List.pairwise_cons.1 hE
    have hD' := List.pairwise_cons.1 hD
    rw [fitS, remS]
    by_cases hs : sameS e d = true
    · rw [if_pos hs, if_pos hs]
      have hs' := (same_iff _ _).1 hs
      obtain ⟨h1, h2⟩ := remS_eq es ds hE'.2 hD'.2 (fun d' hd' => by
        obtain ⟨e', he', ha⟩ := h d' (List.mem_cons_of_mem _ hd')
        rcases List.mem_cons.1 he' with rfl | he'
        · exact absurd (hs'.symm.trans ha) (adrB_ne (hD'.1 d' hd'))
        · exact ⟨e', he', ha⟩)
      refine ⟨h1, ?_⟩
      rw [h2, List.filter_cons, if_neg (fun hk => (notIn_iff _ _).1 hk d (List.mem_cons_self ..) hs')]
      refine List.filter_congr fun x hx => ?_
      have : sameS x d = false := by
        cases hxd : sameS x d with
        | false => rfl
        | true => exact absurd (hs'.trans ((same_iff _ _).1 hxd).symm) (adrB_ne (hE'.1 x hx))
      unfold notIn; simp [this]
    · rw [if_neg hs, if_neg hs]
      have hs' : e.adr.toList ≠ d.adr.toList := fun e1 => hs ((same_iff _ _).2 e1)
      obtain ⟨f, hf, hfd⟩ : ∃ f ∈ es, f.adr.toList = d.adr.toList := by
        obtain ⟨f, hf, ha⟩ := h d (List.mem_cons_self ..)
        rcases List.mem_cons.1 hf with rfl | hf
        · exact absurd ha hs'
        · exact ⟨f, hf, ha⟩
      have hne : ∀ d' ∈ d :: ds, e.adr.toList ≠ d'.adr.toList := fun d' hd' => by
        rcases List.mem_cons.1 hd' with rfl | hd'
        · exact hs'
        · intro e1
          have h1 := hE'.1 f hf
          have h2 := hD'.1 d' hd'
          unfold adrB at h1 h2
          rw [e1, hfd, less_asymm h2] at h1
          cases h1
      obtain ⟨h1, h2⟩ := remS_eq es (d :: ds) hE'.2 hD (fun d' hd' => by
        obtain ⟨e', he', ha⟩ := h d' hd'
        rcases List.mem_cons.1 he' with rfl | he'
        · exact absurd ha (hne d' hd')
        · exact ⟨e', he', ha⟩)
      refine ⟨h1, ?_⟩
      rw [h2, List.filter_cons, if_pos ((notIn_iff _ _).2 hne)]

/-! the seat of an address -/
theorem seat_some {V : List Sd} {a : ByteArray} {v : Sd} (h : seatAt V a = some v) : v ∈ V ∧ v.adr.toList = a.toList := by
  rcases atL_cases a V with ⟨h1, _⟩ | ⟨i, x, h1, h2, h3⟩
  · rw [seatAt_none h1] at h; cases h
  · rw [seatAt_some h1 h2] at h; cases h
    exact ⟨List.mem_of_getElem? h2, by simpa [isA] using h3⟩
theorem seat_none {V : List Sd} {a : ByteArray} : seatAt V a = none ↔ ∀ v ∈ V, v.adr.toList ≠ a.toList := by
  rcases atL_cases a V with ⟨h1, h0⟩ | ⟨i, x, h1, h2, h3⟩
  · rw [seatAt_none h1]
    exact ⟨fun _ v hv e => (by have := h0 v hv; unfold isA at this; rw [e] at this; simp at this), fun _ => rfl⟩
  · rw [seatAt_some h1 h2]
    exact ⟨fun h => (by cases h), fun h => absurd (by simpa [isA] using h3) (h x (List.mem_of_getElem? h2))⟩
theorem nodup_same {V : List Sd} (hV : (adrs V).Nodup) {x y : Sd} (hx : x ∈ V) (hy : y ∈ V) (h : x.adr.toList = y.adr.toList) : x = y := by
  obtain ⟨i, hi⟩ := List.getElem?_of_mem hx
  obtain ⟨j, hj⟩ := List.getElem?_of_mem hy
  have h1 : (adrs V)[i]? = some x.adr.toList := by unfold adrs; rw [List.getElem?_map, hi]; rfl
  have h2 : (adrs V)[j]? = some y.adr.toList := by unfold adrs; rw [List.getElem?_map, hj]; rfl
  have hij : i = j := by
    have hi' := (List.getElem?_eq_some_iff.1 h1).1
    exact (List.getElem?_inj hi' hV).1 (h1.trans (by rw [h2, h]))
  subst hij
  rw [hi] at hj; cases hj; rfl
theorem seat_mem {V : List Sd} (hV : (adrs V).Nodup) {a : ByteArray} {v : Sd} (hv : v ∈ V) (h : v.adr.toList = a.toList) : seatAt V a = some v := by
  cases hs : seatAt V a with
  | none => exact absurd h (seat_none.1 hs v hv)
  | some x => obtain ⟨h1, h2⟩ := seat_some hs; rw [nodup_same hV h1 hv (h2.trans h.symm)]
theorem atL_neg {V : List Sd} {a : ByteArray} : atL a V < 0 ↔ seatAt V a = none := by
  rcases atL_cases a V with ⟨h1, _⟩ | ⟨i, x, h1, h2, _⟩
  · rw [seatAt_none h1]; simp; omega
  · rw [seatAt_some h1 h2]; simp; omega
theorem isNew_iff (V : List Sd) (u : Sd) : isNewB V u = true ↔ seatAt V u.adr = none := by
  rw [← atL_neg]; unfold isNewB; simp
theorem adrs_filter (V : List Sd) (p : Sd → Bool) (h : (adrs V).Nodup) : (adrs (V.filter p)).Nodup := ((List.filter_sublist (l := V) (p := p)).map _).nodup h
theorem seat_filter {V D : List Sd} (hV : (adrs V).Nodup) {a : ByteArray} (h : ∀ d ∈ D, d.adr.toList ≠ a.toList) : seatAt (V.filter (notIn D)) a = seatAt V a := by
  cases hs : seatAt V a with
  | none => exact seat_none.2 fun v hv => seat_none.1 hs v (List.mem_filter.1 hv).1
  | some x =>
    obtain ⟨h1, h2⟩ := seat_some hs
    exact seat_mem (adrs_filter V _ hV) (List.mem_filter.2 ⟨h1, (notIn_iff _ _).2 fun d hd e => h d hd (e.symm.trans h2)⟩) h2
/-! powers -/
theorem totL_nil : totL [] = 0 := rfl
theorem totL_cons (x : Sd) (r : List Sd) : totL (x :: r) = x.pow + totL r := sumI_cons _ _
theorem totL_append (l r : List Sd) : totL (l ++ r) = totL l + totL r := by
  induction l with
  | nil => simp [totL_nil]
  | cons x l ih => rw [List.cons_append, totL_cons, totL_cons, ih]; omega
theorem totL_perm {l r : List Sd} (h : l.Perm r) : totL l = totL r := by
  induction h with
  | nil => rfl
  | cons x _ ih => rw [totL_cons, totL_cons, ih]
  | swap x y l => rw [totL_cons, totL_cons, totL_cons, totL_cons]; omega
  | trans _ _ a b => exact a.trans b
theorem powAt_some {V : List Sd} {u v : Sd} (h : seatAt V u.adr = some v) : powAt V u = v.pow := by unfold powAt; rw [h]
theorem powAt_none {V : List Sd} {u : Sd} (h : seatAt V u.adr = none) : powAt V u = 0 := by unfold powAt; rw [h]
theorem tot_drop1 (d : Sd) : ∀ (W : List Sd), (adrs W).Nodup → totL (W.filter fun e => !sameS e d) = totL W - powAt W d
  | [], _ => by rw [powAt_none (seat_none.2 (fun v hv => by simp at hv))]; rfl
  | w :: r, hn => by
    have hn' := List.nodup_cons.1 (show (w.adr.toList :: adrs r).Nodup from hn)
    by_cases hs : sameS w d = true
    · have hs' := (same_iff _ _).1 hs
      rw [List.filter_cons, if_neg (by rw [hs]; simp), List.filter_eq_self.2 (fun x hx => by
        cases h1 : sameS x d with
        | false => rfl
        | true => exact absurd (List.mem_map.2 ⟨x, hx, ((same_iff _ _).1 h1).trans hs'.symm⟩) hn'.1), powAt_some (seat_mem hn (List.mem_cons_self ..) hs'), totL_cons]
      omega
    · have hs' : w.adr.toList ≠ d.adr.toList := fun e => hs ((same_iff _ _).2 e)
      rw [List.filter_cons, if_pos (by simpa using hs), totL_cons, totL_cons, tot_drop1 d r hn'.2]
      have : powAt (w :: r) d = powAt r d := by
        cases hq : seatAt r d.adr with
        | none => rw [powAt_none hq, powAt_none (seat_none.2 fun v hv => by
            rcases List.mem_cons.1 hv with rfl | hv
            · exact hs'
            · exact seat_none.1 hq v hv)]
        | some x =>
          obtain ⟨h1, h2⟩ := seat_some hq
          rw [powAt_some hq, powAt_some (seat_mem hn (List.mem_cons_of_mem _ h1) h2)]
      omega
theorem tot_drop (V : List Sd) (hV : (adrs V).Nodup) : ∀ (D : List Sd), (adrs D).Nodup → totL (V.filter (notIn D)) = totL V - remSum V D
  | [], _ => by rw [filter_nil]; simp [remSum]
  | d :: D, hD => by
    have hD' := List.nodup_cons.1 (show (d.adr.toList :: adrs D).Nodup from hD)
    have e : V.filter (notIn (d :: D)) = (V.filter (notIn D)).filter fun e => !sameS e d := by
      rw [List.filter_filter]
      refine List.filter_congr fun x _ => ?_
      unfold notIn; simp
    rw [e, tot_drop1 d _ (adrs_filter V _ hV), tot_drop V hV D hD'.2]
    have : powAt (V.filter (notIn D)) d = powAt V d := by
      unfold powAt; rw [seat_filter hV (fun d' hd' e => hD'.1 (List.mem_map.2 ⟨d', hd', e⟩))]
    simp only [remSum]
    omega
theorem sumD_eq (V : List Sd) : ∀ (U : List Sd), sumD V U = totL U - remSum V U
  | [] => by simp [sumD, remSum, totL_nil]
  | u :: U => by
    have : deltaL V u = u.pow - powAt V u := by unfold deltaL powAt; cases seatAt V u.adr <;> simp
    simp only [sumD, remSum, totL_cons, sumD_eq V U, this]; omega
theorem remSum_perm (V : List Sd) {l r : List Sd} (h : l.Perm r) : remSum V l = remSum V r := by
  induction h with
  | nil => rfl
  | cons x _ ih => simp only [remSum, ih]
  | swap x y l => simp only [remSum]; omega
  | trans _ _ a b => exact a.trans b
end Go.Proofs.YtikikddkhikfkaaGreatDoor

set_option linter.all false
namespace Go.Proofs.YtikikddkhikfkaaGreatDoor
open Go.RowKit

/-- those who come or stay, and those who go -/
def upsL (C : List Sd) : List Sd := C.filter fun u => !(u.pow == 0)
def delsL (C : List Sd) : List Sd := C.filter fun u => u.pow == 0
/-- can the changes be made? -/
structure okCh (V C : List Sd) : Prop where
  good : goodCh C
  dels : okDel V (delsL C) = true
  some_ : ¬ (((upsL C).filter (isNewB V)).length = 0 ∧ V.length = (delsL C).length)
  most : totL V - remSum V (delsL C) + sumD V (upsL C) ≤ 1152921504606846975
def keepF (C : List Sd) (s : Sd) : Option Sd := match seatAt C s.adr with
  | none => some s
  | some c => if 0 < c.pow then some { s with pow := c.pow, key := c.key } else none
def freshF (V : List Sd) (T : Int) (c : Sd) : Option Sd := if 0 < c.pow ∧ atL c.adr V < 0 then some { c with pri := -(T + T / 8) } else none
def keptL (V C : List Sd) : List Sd := V.filterMap (keepF C) ++ C.filterMap (freshF V (totL V + sumD V (upsL C)))
def outL (V C : List Sd) : List Sd := rankedL (shiftL (scaleL (2 * totL (keptL V C)) (keptL V C)))

theorem sd_adr {x y : Sd} (h : x.adr.toList = y.adr.toList) : x.adr = y.adr := by
  have := ByteArray.toList_eq x.adr
  have h2 := ByteArray.toList_eq y.adr
  rw [this, h2] at h
  have h3 : x.adr.data = y.adr.data := Array.toList_inj.1 h
  cases hx : x.adr; cases hy : y.adr
  rw [hx, hy] at h3
  simpa using h3
theorem newPri_adr (V : List Sd) (T : Int) (u : Sd) : (newPri V T u).adr = u.adr := rfl
theorem newPri_pow (V : List Sd) (T : Int) (u : Sd) : (newPri V T u).pow = u.pow := rfl
theorem adrs_newPri (V : List Sd) (T : Int) (U : List Sd) : adrs (U.map (newPri V T)) = adrs U := by unfold adrs; rw [List.map_map]; rfl
theorem totL_newPri (V : List Sd) (T : Int) (U : List Sd) : totL (U.map (newPri V T)) = totL U := by unfold totL powsOf; rw [List.map_map]; rfl
theorem srt_newPri {V : List Sd} {T : Int} {U : List Sd} (h : Srt U) : Srt (U.map (newPri V T)) := List.pairwise_map.2 h
theorem notIn_newPri (V : List Sd) (T : Int) (U : List Sd) : notIn (U.map (newPri V T)) = notIn U := by
  funext e; unfold notIn; rw [List.any_map]; rfl
theorem adrs_sub {f : Sd → Option Sd} (hf : ∀ x y, f x = some y → y.adr = x.adr) : ∀ V : List Sd, (adrs (V.filterMap f)).Sublist (adrs V)
  | [] => by simp [adrs]
  | v :: V => by
    have ih := adrs_sub hf V
    cases h : f v with
    | none => rw [List.filterMap_cons_none h]; exact ih.cons _
    | some y =>
      rw [List.filterMap_cons_some h]
      have := hf v y h
      show (y.adr.toList :: adrs (V.filterMap f)).Sublist (v.adr.toList :: adrs V)
      rw [this]; exact ih.cons_cons _
theorem keepF_adr {C : List Sd} {s y : Sd} (h : keepF C s = some y) : y.adr = s.adr := by
  unfold keepF at h
  split at h
  · cases h; rfl
  · split at h
    · cases h; rfl
    · cases h
theorem freshF_adr {V : List Sd} {T : Int} {c y : Sd} (h : freshF V T c = some y) : y.adr = c.adr := by
  unfold freshF at h
  split at h
  · cases h; rfl
  · cases h
theorem keptL_nodup {V C : List Sd} (hV : (adrs V).Nodup) (hC : (adrs C).Nodup) : (adrs (keptL V C)).Nodup := by
  unfold keptL adrs
  rw [List.map_append, List.nodup_append]
  refine ⟨(adrs_sub (fun _ _ => keepF_adr) V).nodup hV, (adrs_sub (fun _ _ => freshF_adr) C).nodup hC, fun a ha b hb e => ?_⟩
  obtain ⟨x, hx, rfl⟩ := List.mem_map.1 ha
  obtain ⟨y, hy, rfl⟩ := List.mem_map.1 hb
  obtain ⟨v, hv, hvx⟩ := List.mem_filterMap.1 hx
  obtain ⟨c, hc, hcy⟩ := List.mem_filterMap.1 hy
  have h1 := keepF_adr hvx
  have h2 := freshF_adr hcy
  unfold freshF at hcy
  split at hcy
  · rename_i h3
    rw [atL_neg] at h3
    refine seat_none.1 h3.2 v hv ?_
    rw [← h1, e, h2]
  · cases hcy
theorem nodup_of_adrs {l : List Sd} (h : (adrs l).Nodup) : l.Nodup := by
  unfold adrs List.Nodup at *
  rw [List.pairwise_map] at h
  exact h.imp fun {a b} hab e => hab (by rw [e])
/-- the merged list without those who go: the specification's list, in another order -/
theorem kept_perm {V C VS S : List Sd} (hV : (adrs V).Nodup) (hC : (adrs C).Nodup) (hp : ∀ u ∈ C, 0 ≤ u.pow) (hVS : VS.Perm V) (hVs : Srt VS) (hSC : S.Perm C) (hS : Srt S) (T : Int) (hT : T = totL V + sumD V (upsL C)) :
    ((mergeS VS ((upsL S).map (newPri V T))).filter (notIn (delsL S))).Perm (keptL V C) := by
  have hU' : Srt ((upsL S).map (newPri V T)) := srt_newPri (hS.filter _)
  have hm := mergeS_perm VS ((upsL S).map (newPri V T)) hVs hU'
  have hsr := mergeS_srt VS ((upsL S).map (newPri V T)) hVs hU'
  refine (List.perm_ext_iff_of_nodup (nodup_of_adrs (adrs_filter _ _ hsr.ne)) (nodup_of_adrs (keptL_nodup hV hC))).2 fun x => ?_
  have memU : ∀ {u : Sd}, u ∈ upsL S ↔ u ∈ C ∧ 0 < u.pow := fun {u} => by
    unfold upsL; rw [List.mem_filter, hSC.mem_iff]
    constructor
    · rintro ⟨h1, h2⟩; have := hp u h1; simp at h2; exact ⟨h1, by omega⟩
    · rintro ⟨h1, h2⟩; exact ⟨h1, by simp; omega⟩
  have memD : ∀ {u : Sd}, u ∈ delsL S ↔ u ∈ C ∧ u.pow = 0 := fun {u} => by
    unfold delsL; rw [List.mem_filter, hSC.mem_iff]; simp
  rw [List.mem_filter, hm.mem_iff, List.mem_append, List.mem_filter, notIn_newPri, hVS.mem_iff, notIn_iff, notIn_iff]
  unfold keptL
  rw [List.mem_append, List.mem_filterMap, List.mem_filterMap, List.mem_map]
  constructor
  · rintro ⟨⟨u, hu, rfl⟩ | ⟨hx, hnu⟩, hnd⟩
    · obtain ⟨huC, hup⟩ := memU.1 hu
      cases hs : seatAt V u.adr with
      | none =>
        right
        refine ⟨u, huC, ?_⟩
        unfold freshF
        rw [if_pos ⟨hup, atL_neg.2 hs⟩]
        unfold newPri; rw [hs, hT]
      | some v =>
        obtain ⟨h1, h2⟩ := seat_some hs
        left
        refine ⟨v, h1, ?_⟩
        unfold keepF
        rw [seat_mem hC huC h2.symm]
        simp only
        rw [if_pos hup]
        unfold newPri; rw [hs, sd_adr h2]
    · left
      refine ⟨x, hx, ?_⟩
      have : seatAt C x.adr = none := seat_none.2 fun c hc e => by
        rcases Nat.eq_zero_or_pos c.pow.toNat with h0 | h0
        · exact hnd c (memD.2 ⟨hc, by have := hp c hc; omega⟩) e.symm
        · exact hnu c (memU.2 ⟨hc, by omega⟩) e.symm
      unfold keepF; rw [this]
  · rintro (⟨v, hv, hk⟩ | ⟨c, hc, hk⟩)
    · unfold keepF at hk
      split at hk
      · rename_i hs
        cases hk
        exact ⟨.inr ⟨hv, fun u hu e => seat_none.1 hs u (memU.1 hu).1 e.symm⟩, fun d hd e => seat_none.1 hs d (memD.1 hd).1 e.symm⟩
      · rename_i c hs
        obtain ⟨h1, h2⟩ := seat_some hs
        split at hk
        · rename_i hpos
          cases hk
          refine ⟨.inl ⟨c, memU.2 ⟨h1, hpos⟩, ?_⟩, fun d hd e => ?_⟩
          · unfold newPri; rw [seat_mem hV hv h2.symm, sd_adr h2]
          · have := nodup_same hC (memD.1 hd).1 h1 (e.symm.trans h2.symm)
            rw [this] at hd
            have := (memD.1 hd).2; omega
        · cases hk
    · unfold freshF at hk
      split at hk
      · rename_i hcp
        cases hk
        refine ⟨.inl ⟨c, memU.2 ⟨hc, hcp.1⟩, ?_⟩, fun d hd e => ?_⟩
        · unfold newPri; rw [atL_neg.1 hcp.2, hT]
        · have := nodup_same hC (memD.1 hd).1 hc e.symm
          rw [this] at hd
          have := (memD.1 hd).2; omega
      · cases hk
/-! scaled and shifted: whatever the order -/
theorem mxf_ge : ∀ (l : List Int) (x p : Int), (p ∈ l ∨ p ≤ x) → p ≤ mxf x l
  | [], x, p, h => by rcases h with h | h; simp at h; exact h
  | y :: r, x, p, h => by
    simp only [mxf, List.foldl_cons]
    refine mxf_ge r _ p ?_
    rcases h with h | h
    · rcases List.mem_cons.1 h with rfl | h
      · right; split <;> omega
      · exact .inl h
    · right; split <;> omega
theorem mxf_in : ∀ (l : List Int) (x : Int), mxf x l = x ∨ mxf x l ∈ l
  | [], x => .inl rfl
  | y :: r, x => by
    simp only [mxf, List.foldl_cons]
    rcases mxf_in r (if x < y then y else x) with h | h
    · unfold mxf at h; rw [h]
      split
      · exact .inr (List.mem_cons_self ..)
      · exact .inl rfl
    · exact .inr (List.mem_cons_of_mem _ h)
theorem mnf_le : ∀ (l : List Int) (x p : Int), (p ∈ l ∨ x ≤ p) → mnf x l ≤ p
  | [], x, p, h => by rcases h with h | h; simp at h; exact h
  | y :: r, x, p, h => by
    simp only [mnf, List.foldl_cons]
    refine mnf_le r _ p ?_
    rcases h with h | h
    · rcases List.mem_cons.1 h with rfl | h
      · right; split <;> omega
      · exact .inl h
    · right; split <;> omega
theorem mnf_in : ∀ (l : List Int) (x : Int), mnf x l = x ∨ mnf x l ∈ l
  | [], x => .inl rfl
  | y :: r, x => by
    simp only [mnf, List.foldl_cons]
    rcases mnf_in r (if y < x then y else x) with h | h
    · unfold mnf at h; rw [h]
      split
      · exact .inr (List.mem_cons_self ..)
      · exact .inl rfl
    · exact .inr (List.mem_cons_of_mem _ h)
theorem span_perm {l r : List Sd} (h : l.Perm r) : spanOf l = spanOf r := by
  have hp : ∀ p, p ∈ prisOf l ↔ p ∈ prisOf r := fun p => (h.map Sd.pri).mem_iff
  have e1 : mxf (-9223372036854775808) (prisOf l) = mxf (-9223372036854775808) (prisOf r) := by
    refine Int.le_antisymm ?_ ?_
    · rcases mxf_in (prisOf l) (-9223372036854775808) with h1 | h1
      · rw [h1]; exact mxf_ge _ _ _ (.inr (Int.le_refl _))
      · exact mxf_ge _ _ _ (.inl ((hp _).1 h1))
    · rcases mxf_in (prisOf r) (-9223372036854775808) with h1 | h1
      · rw [h1]; exact mxf_ge _ _ _ (.inr (Int.le_refl _))
      · exact mxf_ge _ _ _ (.inl ((hp _).2 h1))
  have e2 : mnf 9223372036854775807 (prisOf l) = mnf 9223372036854775807 (prisOf r) := by
    refine Int.le_antisymm ?_ ?_
    · rcases mnf_in (prisOf r) 9223372036854775807 with h1 | h1
      · rw [h1]; exact mnf_le _ _ _ (.inr (Int.le_refl _))
      · exact mnf_le _ _ _ (.inl ((hp _).2 h1))
    · rcases mnf_in (prisOf l) 9223372036854775807 with h1 | h1
      · rw [h1]; exact mnf_le _ _ _ (.inr (Int.le_refl _))
      · exact mnf_le _ _ _ (.inl ((hp _).1 h1))
  unfold spanOf; rw [e1, e2]
theorem scaleL_perm (a : Int) {l r : List Sd} (h : l.Perm r) : (scaleL a l).Perm (scaleL a r) := by
  unfold scaleL
  rw [span_perm h]
  split
  · exact h
  · split
    · exact h.map _
    · exact h
theorem sumI_perm {l r : List Int} (h : l.Perm r) : sumI l = sumI r := by
  induction h with
  | nil => rfl
  | cons x _ ih => rw [sumI_cons, sumI_cons, ih]
  | swap x y l => rw [sumI_cons, sumI_cons, sumI_cons, sumI_cons]; omega
  | trans _ _ a b => exact a.trans b
theorem shiftL_perm {l r : List Sd} (h : l.Perm r) : (shiftL l).Perm (shiftL r) := by
  have : avgL l = avgL r := by unfold avgL; rw [h.length_eq, show sumI (prisOf l) = sumI (prisOf r) from sumI_perm (h.map Sd.pri)]
  unfold shiftL; rw [this]; exact h.map _
/-! the order of a set -/
abbrev Rnk (l : List Sd) : Prop := l.Pairwise fun x y => beforeB y x = false
theorem rnk_unique {l r : List Sd} (hl : Rnk l) (hr : Rnk r) (h : l.Perm r) (hn : (adrs l).Nodup) : l = r := by
  refine List.Perm.eq_of_pairwise (fun a b ha hb h1 h2 => ?_) hl hr h
  rw [before_false] at h1 h2
  have hb' := h.mem_iff.2 hb
  refine nodup_same hn ha hb' (less_total (a := a.adr.toList) (b := b.adr.toList) ?_ ?_)
  · cases hq : Op.bytesLess a.adr.toList b.adr.toList with
    | false => rfl
    | true => exact absurd (Or.inr ⟨by omega, hq⟩) h2
  · cases hq : Op.bytesLess b.adr.toList a.adr.toList with
    | false => rfl
    | true => exact absurd (Or.inr ⟨by omega, hq⟩) h1
theorem insK_le (x : Sd) (acc : List Sd) : ∀ k, insK x acc k ≤ k
  | 0 => Nat.le_refl _
  | k + 1 => by
    unfold insK
    split
    · split
      · have := insK_le x acc k; omega
      · exact Nat.le_refl _
    · exact Nat.le_refl _
theorem insK_after (x : Sd) (acc : List Sd) : ∀ k (j : Nat) (y : Sd), insK x acc k ≤ j → j < k → acc[j]? = some y → beforeB x y = true
  | 0, j, y, _, h, _ => by omega
  | k + 1, j, y, h1, h2, hy => by
    unfold insK at h1
    split at h1
    · rename_i z hz
      split at h1
      · rename_i hb
        rcases Nat.lt_or_ge j k with h | h
        · exact insK_after x acc k j y h1 h hy
        · obtain rfl : j = k := by omega
          rw [hz] at hy; cases hy; exact hb
      · omega
    · omega
theorem insK_at (x : Sd) (acc : List Sd) : ∀ k (y : Sd), 0 < insK x acc k → acc[insK x acc k - 1]? = some y → beforeB x y = false
  | 0, y, h, _ => by unfold insK at h; omega
  | k + 1, y, h, hy => by
    unfold insK at h hy
    split at h
    · rename_i z hz
      split at h
      · rename_i hb
        rw [hz] at hy
        simp only [hb, if_true] at hy
        exact insK_at x acc k y h hy
      · rename_i hb
        rw [hz] at hy
        simp only at hy
        rw [if_neg hb, Nat.add_sub_cancel, hz] at hy
        cases hy; simpa using hb
    · rename_i hz
      rw [hz] at hy
      simp only at hy
      rw [Nat.add_sub_cancel, hz] at hy; cases hy
theorem before_trans_false {x y z : Sd} (h : beforeB y x = false) (h' : beforeB z y = false) : beforeB z x = false := (swo_before id).ntrans _ _ _ h' h
theorem before_asymm {x y : Sd} (h : beforeB x y = true) : beforeB y x = false := by
  cases hq : beforeB y x with
  | false => rfl
  | true =>
    have := (swo_before (id : Sd → Sd)).trans _ _ _ h hq
    have h2 := (swo_before (id : Sd → Sd)).irrefl x
    simp only [id] at *
    rw [this] at h2; cases h2
theorem insR_rnk {acc : List Sd} {x : Sd} (h : Rnk acc) : Rnk (insR acc x) := by
  unfold insR
  have hk := insK_le x acc acc.length
  rw [Rnk, List.pairwise_append]
  have hsplit := h
  rw [← List.take_append_drop (insK x acc acc.length) acc] at hsplit
  rw [Rnk, List.pairwise_append] at hsplit
  have hdrop : ∀ y ∈ acc.drop (insK x acc acc.length), beforeB x y = true := fun y hy => by
    obtain ⟨j, hj⟩ := List.getElem?_of_mem hy
    rw [List.getElem?_drop] at hj
    exact insK_after x acc acc.length _ y (by omega) (List.getElem?_eq_some_iff.1 hj).1 hj
  have htake : ∀ y ∈ acc.take (insK x acc acc.length), beforeB x y = false := fun y hy => by
    obtain ⟨j, hj⟩ := List.getElem?_of_mem hy
    rw [List.getElem?_take] at hj
    split at hj
    · rename_i hjk
      obtain ⟨z, hz⟩ : ∃ z, acc[insK x acc acc.length - 1]? = some z := ⟨_, List.getElem?_eq_getElem (by omega)⟩
      have h1 := insK_at x acc acc.length z (by omega) hz
      rcases Nat.lt_or_ge j (insK x acc acc.length - 1) with hlt | hge
      · have h2 := List.pairwise_iff_getElem.1 h j (insK x acc acc.length - 1) (by omega) (by omega) hlt
        rw [(List.getElem?_eq_some_iff.1 hj).2, (List.getElem?_eq_some_iff.1 hz).2] at h2
        exact before_trans_false h2 h1
      · obtain rfl : j = insK x acc acc.length - 1 := by omega
        rw [hz] at hj; cases hj; exact h1
    · cases hj
  refine ⟨hsplit.1, List.pairwise_cons.2 ⟨fun y hy => before_asymm (hdrop y hy), hsplit.2.1⟩, fun a ha b hb => ?_⟩
  rcases List.mem_cons.1 hb with rfl | hb
  · exact htake a ha
  · exact hsplit.2.2 a ha b hb
theorem rankedL_rnk (l : List Sd) : Rnk (rankedL l) := by
  have : ∀ (l acc : List Sd), Rnk acc → Rnk (l.foldl insR acc) := by
    intro l
    induction l with
    | nil => intro acc h; exact h
    | cons x r ih => intro acc h; exact ih _ (insR_rnk h)
  exact this l [] List.Pairwise.nil
theorem adrs_core {l r : List Sd} (h : l.map core = r.map core) : adrs l = adrs r := by
  have := congrArg (List.map fun s : Sd => s.adr.toList) h
  rw [List.map_map, List.map_map] at this
  exact this
/-- what the package's set holds at the end -/
theorem out_eq {V C L l4 : List Sd} (hV : (adrs V).Nodup) (hC : (adrs C).Nodup) (hL : L.Perm (keptL V C)) (h4 : l4.Perm (shiftL (scaleL (2 * totL L) L))) (hr : Rnk l4) : l4 = outL V C := by
  unfold outL
  have hT := totL_perm hL
  rw [hT] at h4
  have h5 := h4.trans (shiftL_perm (scaleL_perm _ hL))
  refine rnk_unique hr (rankedL_rnk _) (h5.trans (rankedL_perm _).symm) ?_
  have : (adrs (shiftL (scaleL (2 * totL (keptL V C)) (keptL V C)))).Nodup := by
    rw [adrs_core ((shiftL_core _).trans (scaleL_core _ _))]; exact keptL_nodup hV hC
  exact (h5.map _).nodup_iff.2 this
end Go.Proofs.YtikikddkhikfkaaGreatDoor

set_option linter.all false
namespace Go.Proofs.YtikikddkhikfkaaGreatDoor
open Go.RowKit

theorem okCh_perm {V S C : List Sd} (h : S.Perm C) (k : okCh V S) : okCh V C := by
  refine ⟨(goodCh_perm h).1 k.good, ?_, fun hc => k.some_ ?_, ?_⟩
  · have hd : (delsL S).Perm (delsL C) := h.filter _
    have := k.dels
    unfold okDel at *
    rw [← hd.all_eq]; exact this
  · have hd : (delsL S).Perm (delsL C) := h.filter _
    have hu : ((upsL S).filter (isNewB V)).Perm ((upsL C).filter (isNewB V)) := (h.filter _).filter _
    rw [hd.length_eq, hu.length_eq]; exact hc
  · have hd : (delsL S).Perm (delsL C) := h.filter _
    have hu : (upsL S).Perm (upsL C) := h.filter _
    have := k.most
    rw [remSum_perm V hd, sumD_perm V hu] at this; exact this
theorem okDel_iff (V D : List Sd) : okDel V D = true ↔ ∀ d ∈ D, ∃ v ∈ V, v.adr.toList = d.adr.toList := by
  unfold okDel
  rw [List.all_eq_true]
  constructor
  · intro h d hd
    have h1 := h d hd
    simp only [decide_eq_true_eq] at h1
    cases hs : seatAt V d.adr with
    | none => have := atL_neg.2 hs; omega
    | some v => exact ⟨v, (seat_some hs).1, (seat_some hs).2⟩
  · intro h d hd
    obtain ⟨v, hv, ha⟩ := h d hd
    simp only [decide_eq_true_eq]
    rcases Int.lt_or_le (atL d.adr V) 0 with h1 | h1
    · exact absurd ha (seat_none.1 (atL_neg.1 h1) v hv)
    · exact h1
/-- no more go than there are -/
theorem dels_le {V D : List Sd} (h : okDel V D = true) (hD : (adrs D).Nodup) : D.length ≤ V.length := by
  have h1 : adrs D ⊆ adrs V := fun a ha => by
    obtain ⟨d, hd, rfl⟩ := List.mem_map.1 ha
    obtain ⟨v, hv, e⟩ := (okDel_iff V D).1 h d hd
    exact List.mem_map.2 ⟨v, hv, e⟩
  have := hD.length_le_of_subset h1
  simpa [adrs] using this
theorem ups_dels_ne {S : List Sd} (hS : (adrs S).Nodup) {u d : Sd} (hu : u ∈ upsL S) (hd : d ∈ delsL S) : u.adr.toList ≠ d.adr.toList := fun e => by
  obtain ⟨h1, h2⟩ := List.mem_filter.1 hu
  obtain ⟨h3, h4⟩ := List.mem_filter.1 hd
  rw [nodup_same hS h1 h3 e] at h2
  simp only [Bool.not_eq_true', beq_iff_eq] at h2 h4
  rw [h4] at h2; simp at h2
section
theorem fit_ok {V VS S : List Sd} (hVS : VS.Perm V) (hVs : Srt VS) (hS : Srt S) (T : Int) (hd : okDel V (delsL S) = true) : fitS (mergeS VS ((upsL S).map (newPri V T))) (delsL S) = true ∧ remS (mergeS VS ((upsL S).map (newPri V T))) (delsL S) = (mergeS VS ((upsL S).map (newPri V T))).filter (notIn (delsL S)) := by
  have hU' : Srt ((upsL S).map (newPri V T)) := srt_newPri (hS.filter _)
  refine remS_eq _ _ (mergeS_srt _ _ hVs hU') (hS.filter _) fun d hdd => ?_
  obtain ⟨v, hv, e⟩ := (okDel_iff V _).1 hd d hdd
  refine ⟨v, (mergeS_perm VS _ hVs hU').mem_iff.2 (List.mem_append_right _ (List.mem_filter.2 ⟨hVS.mem_iff.2 hv, ?_⟩)), e⟩
  rw [notIn_newPri, notIn_iff]
  exact fun u hu e2 => ups_dels_ne hS.ne hu hdd (e2.symm.trans e)
theorem kept_tot {V VS S : List Sd} (hV : (adrs V).Nodup) (hVS : VS.Perm V) (hVs : Srt VS) (hS : Srt S) (T : Int) : totL ((mergeS VS ((upsL S).map (newPri V T))).filter (notIn (delsL S))) = totL V + sumD V (upsL S) - remSum V (delsL S) := by
  have hU' : Srt ((upsL S).map (newPri V T)) := srt_newPri (hS.filter _)
  have hm := (mergeS_perm VS _ hVs hU').filter (notIn (delsL S))
  rw [totL_perm hm, List.filter_append, totL_append, notIn_newPri]
  have e1 : ((upsL S).map (newPri V T)).filter (notIn (delsL S)) = (upsL S).map (newPri V T) := List.filter_eq_self.2 fun x hx => by
    obtain ⟨u, hu, rfl⟩ := List.mem_map.1 hx
    exact (notIn_iff _ _).2 fun d hd e => ups_dels_ne hS.ne hu hd e
  rw [e1, totL_newPri]
  have h2 : totL ((VS.filter (notIn (upsL S))).filter (notIn (delsL S))) = totL ((V.filter (notIn (upsL S))).filter (notIn (delsL S))) := totL_perm ((hVS.filter _).filter _)
  rw [h2, tot_drop _ (adrs_filter _ _ hV) (delsL S) (adrs_filter _ _ hS.ne), tot_drop V hV (upsL S) (adrs_filter _ _ hS.ne), sumD_eq]
  have h3 : remSum (V.filter (notIn (upsL S))) (delsL S) = remSum V (delsL S) := by
    have : ∀ D : List Sd, (∀ d ∈ D, ∀ u ∈ upsL S, u.adr.toList ≠ d.adr.toList) → remSum (V.filter (notIn (upsL S))) D = remSum V D := by
      intro D
      induction D with
      | nil => intro _; rfl
      | cons d D ih =>
        intro h
        have : powAt (V.filter (notIn (upsL S))) d = powAt V d := by unfold powAt; rw [seat_filter hV (h d (List.mem_cons_self ..))]
        simp only [remSum, this, ih fun d' hd' => h d' (List.mem_cons_of_mem _ hd')]
    exact this _ fun d hd u hu => ups_dels_ne hS.ne hu hd
  rw [h3]; omega
end
theorem kept_mem {V C : List Sd} {x : Sd} (hx : x ∈ keptL V C) : x ∈ V ∨ (∃ v ∈ V, ∃ c ∈ C, 0 < c.pow ∧ x.pow = c.pow ∧ x.pri = v.pri) ∨ ∃ c ∈ C, 0 < c.pow ∧ x.pow = c.pow ∧ x.pri = -((totL V + sumD V (upsL C)) + (totL V + sumD V (upsL C)) / 8) := by
  unfold keptL at hx
  rcases List.mem_append.1 hx with h | h
  · obtain ⟨v, hv, hk⟩ := List.mem_filterMap.1 h
    unfold keepF at hk
    split at hk
    · cases hk; exact .inl hv
    · rename_i c hs
      split at hk
      · rename_i hp
        cases hk
        exact .inr (.inl ⟨v, hv, c, (seat_some hs).1, hp, rfl, rfl⟩)
      · cases hk
  · obtain ⟨c, hc, hk⟩ := List.mem_filterMap.1 h
    unfold freshF at hk
    split at hk
    · rename_i hp
      cases hk
      exact .inr (.inr ⟨c, hc, hp.1, rfl, rfl⟩)
    · cases hk
theorem kept_ne {V C : List Sd} (hV : (adrs V).Nodup) (h : okCh V C) : keptL V C ≠ [] := fun e => by
  refine h.some_ ?_
  have hf : V.filterMap (keepF C) = [] ∧ C.filterMap (freshF V (totL V + sumD V (upsL C))) = [] := List.append_eq_nil_iff.1 e
  have h1 : ((upsL C).filter (isNewB V)).length = 0 := by
    rw [List.length_eq_zero_iff, List.filter_eq_nil_iff]
    intro u hu hn
    obtain ⟨huC, hup⟩ := List.mem_filter.1 hu
    have hp := (h.good.1 u huC).1
    have hup' : 0 < u.pow := by
      simp only [Bool.not_eq_true', beq_eq_false_iff_ne, ne_eq] at hup
      omega
    have := List.filterMap_eq_nil_iff.1 hf.2 u huC
    unfold freshF at this
    rw [if_pos ⟨hup', atL_neg.2 ((isNew_iff V u).1 hn)⟩] at this
    cases this
  refine ⟨h1, Nat.le_antisymm ?_ (dels_le h.dels (adrs_filter _ _ h.good.2))⟩
  have h2 : adrs V ⊆ adrs (delsL C) := fun a ha => by
    obtain ⟨v, hv, rfl⟩ := List.mem_map.1 ha
    have h3 := List.filterMap_eq_nil_iff.1 hf.1 v hv
    unfold keepF at h3
    split at h3
    · cases h3
    · rename_i c hs
      obtain ⟨hc, hca⟩ := seat_some hs
      split at h3
      · cases h3
      · rename_i hnp
        have hp := (h.good.1 c hc).1
        exact List.mem_map.2 ⟨c, List.mem_filter.2 ⟨hc, by simp only [beq_iff_eq]; omega⟩, hca⟩
  have := List.Nodup.length_le_of_subset hV h2
  simpa [adrs] using this
theorem kept_pow {V C : List Sd} (hp : ∀ v ∈ V, 1 ≤ v.pow) : ∀ x ∈ keptL V C, 1 ≤ x.pow := fun x hx => by
  rcases kept_mem hx with h | ⟨v, _, c, _, h1, h2, _⟩ | ⟨c, _, h1, h2, _⟩
  · exact hp x h
  · omega
  · omega
theorem kept_pri {V C : List Sd} (hp : ∀ v ∈ V, -1152921504606846976 < v.pri ∧ v.pri < 1152921504606846976) (hT : 0 ≤ totL V + sumD V (upsL C) ∧ totL V + sumD V (upsL C) ≤ 1729382256910270464) : ∀ x ∈ keptL V C, -2305843009213693952 < x.pri ∧ x.pri < 2305843009213693952 := fun x hx => by
  rcases kept_mem hx with h | ⟨v, hv, c, _, h1, h2, h3⟩ | ⟨c, _, h1, h2, h3⟩
  · have := hp x h; omega
  · have := hp v hv; omega
  · omega
theorem kept_len (V C : List Sd) : (keptL V C).length ≤ V.length + C.length := by
  unfold keptL
  rw [List.length_append]
  have := List.length_filterMap_le (keepF C) V
  have := List.length_filterMap_le (freshF V (totL V + sumD V (upsL C))) C
  omega
theorem outL_core (V C : List Sd) : ((outL V C).map core).Perm ((keptL V C).map core) := by
  have h1 : (outL V C).Perm (shiftL (scaleL (2 * totL (keptL V C)) (keptL V C))) := rankedL_perm _
  refine (h1.map core).trans ?_
  rw [shiftL_core, scaleL_core]
theorem outL_len (V C : List Sd) : (outL V C).length = (keptL V C).length := by simpa using (outL_core V C).length_eq
theorem outL_tot (V C : List Sd) : totL (outL V C) = totL (keptL V C) := by
  rw [← totL_core, totL_perm (outL_core V C), totL_core]
end Go.Proofs.YtikikddkhikfkaaGreatDoor

set_option linter.all false
namespace Go.Proofs.YtikikddkhikfkaaGreatDoor
open Go.RowKit

theorem take_next {α : Type} {C : List α} {k : Nat} {x : α} (hx : C[k]? = some x) : C.take (k + 1) = C.take k ++ [x] := by
  have h := List.getElem?_eq_some_iff.1 hx
  rw [List.take_succ_eq_append_getElem h.1, h.2]
theorem ups_snoc (P : List Sd) (c : Sd) : upsL (P ++ [c]) = if c.pow = 0 then upsL P else upsL P ++ [c] := by
  unfold upsL; rw [List.filter_append]; by_cases h : c.pow = 0 <;> simp [h]
theorem dels_snoc (P : List Sd) (c : Sd) : delsL (P ++ [c]) = if c.pow = 0 then delsL P ++ [c] else delsL P := by
  unfold delsL; rw [List.filter_append]; by_cases h : c.pow = 0 <;> simp [h]
theorem atL_nn {a : ByteArray} {l : List Sd} (h : 0 ≤ atL a l) : ∃ (i : Nat) (x : Sd), atL a l = (i : Int) ∧ l[i]? = some x ∧ x.adr.toList = a.toList := by
  rcases atL_cases a l with ⟨h1, _⟩ | ⟨i, x, h1, h2, h3⟩
  · omega
  · exact ⟨i, x, h1, h2, by unfold isA at h3; simpa using h3⟩
theorem atL_no {a : ByteArray} {l : List Sd} (h : atL a l < 0) : ∀ x ∈ l, x.adr.toList ≠ a.toList := seat_none.1 (atL_neg.1 h)
theorem dup_bad {C : List Sd} {k : Nat} {c : Sd} (hx : C[k]? = some c) (h : 0 ≤ atL c.adr (C.take k)) : ¬ goodCh C := fun g => by
  have g' := (goodCh_take g (k + 1)).2
  rw [take_next hx, List.map_append, List.nodup_append] at g'
  obtain ⟨i, x, _, hi, ha⟩ := atL_nn h
  exact g'.2.2 _ (List.mem_map_of_mem (List.mem_of_getElem? hi)) _ (by simp) ha
theorem num_bad {C : List Sd} {k : Nat} {c : Sd} (hx : C[k]? = some c) (h : c.pow < 0 ∨ 1152921504606846975 < c.pow) : ¬ goodCh C := fun g => by
  have := g.1 c (List.mem_of_getElem? hx); omega
theorem next_good {C : List Sd} {k : Nat} {c : Sd} (hx : C[k]? = some c) (h : atL c.adr (C.take k) < 0) (g : goodCh (C.take k)) (hp : 0 ≤ c.pow ∧ c.pow ≤ 1152921504606846975) : goodCh (C.take (k + 1)) := by
  rw [take_next hx]; exact goodCh_snoc g hp (atL_no h)
theorem del_bad {V C : List Sd} {k : Nat} {c : Sd} (hx : C[k]? = some c) (h0 : c.pow = 0) (h : atL c.adr V < 0) : okDel V (delsL C) = false := by
  rw [← Bool.not_eq_true, okDel_iff]
  intro g
  obtain ⟨v, hv, e⟩ := g c (List.mem_filter.2 ⟨List.mem_of_getElem? hx, by simp [h0]⟩)
  exact atL_no h v hv e
theorem okDel_snoc {V l : List Sd} {c : Sd} (g : okDel V l = true) (h : 0 ≤ atL c.adr V) : okDel V (l ++ [c]) = true := by
  unfold okDel at *; simp [g, h]
/-- what the first loop has found: how many are new, how many go, and their power -/
structure Tal (V P : List Sd) (fresh gone : Nat) (less : Int) : Prop where
  good : goodCh P
  dels : okDel V (delsL P) = true
  fresh_ : fresh = ((upsL P).filter (isNewB V)).length
  gone_ : gone = (delsL P).length
  less_ : less = remSum V (delsL P)
theorem Tal.nil (V : List Sd) : Tal V [] 0 0 0 := ⟨⟨fun _ h => by simp at h, List.nodup_nil⟩, rfl, rfl, rfl, rfl⟩
theorem Tal.le {V P : List Sd} {fresh gone : Nat} {less : Int} (h : Tal V P fresh gone less) : fresh ≤ P.length ∧ gone ≤ P.length := by
  have h1 := List.length_filter_le (isNewB V) (upsL P)
  have h2 : (upsL P).length ≤ P.length := List.length_filter_le _ _
  have h3 : (delsL P).length ≤ P.length := List.length_filter_le _ _
  have := h.fresh_; have := h.gone_; omega
theorem Tal.bd {V P : List Sd} {fresh gone : Nat} {less : Int} (h : Tal V P fresh gone less) (hV : ∀ x ∈ V, 1 ≤ x.pow ∧ x.pow ≤ 1125899906842624) : 0 ≤ less ∧ less ≤ 1125899906842624 * (P.length : Int) := by
  have h2 := remSum_bd (vals := V) (fun x hx => by have := hV x hx; omega) (delsL P)
  have h3 : (delsL P).length ≤ P.length := List.length_filter_le _ _
  have := h.less_; omega
theorem Tal.gone {V C : List Sd} {k fresh gone : Nat} {less : Int} {c v : Sd} {i : Nat} (h : Tal V (C.take k) fresh gone less) (hx : C[k]? = some c) (hd : atL c.adr (C.take k) < 0) (h0 : c.pow = 0) (hi : atL c.adr V = (i : Int)) (hv : V[i]? = some v) : Tal V (C.take (k + 1)) fresh (gone + 1) (less + v.pow) := by
  have hg := next_good hx hd h.good (by omega)
  have e := take_next hx
  have eu : upsL (C.take (k + 1)) = upsL (C.take k) := by rw [e, ups_snoc, if_pos h0]
  have ed : delsL (C.take (k + 1)) = delsL (C.take k) ++ [c] := by rw [e, dels_snoc, if_pos h0]
  refine ⟨hg, by rw [ed]; exact okDel_snoc h.dels (by omega), by rw [eu]; exact h.fresh_, by rw [ed, List.length_append, ← h.gone_]; rfl, ?_⟩
  rw [ed, remSum_snoc, ← h.less_, powAt_some (seatAt_some hi hv)]
theorem Tal.new {V C : List Sd} {k fresh gone : Nat} {less : Int} {c : Sd} (h : Tal V (C.take k) fresh gone less) (hx : C[k]? = some c) (hd : atL c.adr (C.take k) < 0) (h0 : 0 < c.pow) (h1 : c.pow ≤ 1152921504606846975) (hi : atL c.adr V < 0) : Tal V (C.take (k + 1)) (fresh + 1) gone less := by
  have hg := next_good hx hd h.good (by omega)
  have e := take_next hx
  have eu : upsL (C.take (k + 1)) = upsL (C.take k) ++ [c] := by rw [e, ups_snoc, if_neg (by omega)]
  have ed : delsL (C.take (k + 1)) = delsL (C.take k) := by rw [e, dels_snoc, if_neg (by omega)]
  have hn : isNewB V c = true := by unfold isNewB; simp; omega
  refine ⟨hg, by rw [ed]; exact h.dels, ?_, by rw [ed]; exact h.gone_, by rw [ed]; exact h.less_⟩
  rw [eu, List.filter_append, List.length_append, ← h.fresh_]; simp [hn]
theorem Tal.old {V C : List Sd} {k fresh gone : Nat} {less : Int} {c : Sd} (h : Tal V (C.take k) fresh gone less) (hx : C[k]? = some c) (hd : atL c.adr (C.take k) < 0) (h0 : 0 < c.pow) (h1 : c.pow ≤ 1152921504606846975) (hi : 0 ≤ atL c.adr V) : Tal V (C.take (k + 1)) fresh gone less := by
  have hg := next_good hx hd h.good (by omega)
  have e := take_next hx
  have eu : upsL (C.take (k + 1)) = upsL (C.take k) ++ [c] := by rw [e, ups_snoc, if_neg (by omega)]
  have ed : delsL (C.take (k + 1)) = delsL (C.take k) := by rw [e, dels_snoc, if_neg (by omega)]
  have hn : isNewB V c = false := by unfold isNewB; simp; omega
  refine ⟨hg, by rw [ed]; exact h.dels, ?_, by rw [ed]; exact h.gone_, by rw [ed]; exact h.less_⟩
  rw [eu, List.filter_append, List.length_append, ← h.fresh_]; simp [hn]
/-- the second loop: the power of those who change -/
theorem rem_old {V C : List Sd} {k : Nat} {c v : Sd} {i : Nat} (hx : C[k]? = some c) (h0 : c.pow ≠ 0) (hi : atL c.adr V = (i : Int)) (hv : V[i]? = some v) : remSum V (upsL (C.take (k + 1))) = remSum V (upsL (C.take k)) + v.pow := by
  rw [take_next hx, ups_snoc, if_neg h0, remSum_snoc, powAt_some (seatAt_some hi hv)]
theorem rem_new {V C : List Sd} {k : Nat} {c : Sd} (hx : C[k]? = some c) (hi : atL c.adr V < 0) : remSum V (upsL (C.take (k + 1))) = remSum V (upsL (C.take k)) := by
  rw [take_next hx, ups_snoc]
  split
  · rfl
  · rw [remSum_snoc, powAt_none (atL_neg.1 hi), Int.add_zero]
theorem rem_zero {V C : List Sd} {k : Nat} {c : Sd} (hx : C[k]? = some c) (h0 : c.pow = 0) : remSum V (upsL (C.take (k + 1))) = remSum V (upsL (C.take k)) := by
  rw [take_next hx, ups_snoc, if_pos h0]
theorem ups_tot (C : List Sd) : totL (upsL C) = totL C := by
  induction C with
  | nil => rfl
  | cons c r ih =>
    unfold upsL at *
    rw [List.filter_cons]
    by_cases h : c.pow = 0
    · simp only [h, beq_self_eq_true, Bool.not_true, Bool.false_eq_true, if_false]; rw [ih, totL_cons, h, Int.zero_add]
    · have hb : (!(c.pow == 0)) = true := by simpa using h
      rw [if_pos hb, totL_cons, totL_cons, ih]
/-- what stays when those who go or change are taken away is no less than nought -/
theorem rest_nn {V C : List Sd} (hV : (adrs V).Nodup) (hp : ∀ x ∈ V, 1 ≤ x.pow) (g : goodCh C) : 0 ≤ totL V - remSum V (delsL C) - remSum V (upsL C) := by
  have hn : ∀ (l r : List Sd), remSum V (l ++ r) = remSum V l + remSum V r := fun l r => by
    induction l with
    | nil => simp [remSum]
    | cons x l ih => simp only [List.cons_append, remSum, ih]; omega
  have hpm : (delsL C ++ upsL C).Perm C := by
    unfold delsL upsL
    exact List.filter_append_perm _ C
  have h1 := tot_drop V hV C g.2
  have h2 : 0 ≤ totL (V.filter (notIn C)) := sumI_nn _ (fun p hp' => by obtain ⟨x, hx, rfl⟩ := List.mem_map.1 hp'; have := hp x (List.mem_filter.1 hx).1; omega)
  have h3 := remSum_perm V hpm
  rw [hn] at h3
  omega
theorem okCh_iff {V C : List Sd} {fresh gone : Nat} {less : Int} (h : Tal V C fresh gone less) (h1 : ¬ (fresh = 0 ∧ gone = V.length)) (h2 : totL V - less - remSum V (upsL C) + totL C ≤ 1152921504606846975) : okCh V C := by
  refine ⟨h.good, h.dels, fun hc => h1 ⟨by rw [h.fresh_]; exact hc.1, by rw [h.gone_]; exact hc.2.symm⟩, ?_⟩
  have := sumD_eq V (upsL C); rw [ups_tot] at this; rw [← h.less_]; omega
theorem not_ok_some {V C : List Sd} {fresh gone : Nat} {less : Int} (h : Tal V C fresh gone less) (h1 : fresh = 0 ∧ gone = V.length) : ¬ okCh V C := fun k => k.some_ ⟨by rw [← h.fresh_]; exact h1.1, by rw [← h.gone_]; exact h1.2.symm⟩
theorem not_ok_most {V C : List Sd} {fresh gone : Nat} {less : Int} (h : Tal V C fresh gone less) {k : Nat} (h2 : 1152921504606846975 < totL V - less - remSum V (upsL C) + totL (C.take k)) : ¬ okCh V C := fun g => by
  have h3 := g.most
  have := sumD_eq V (upsL C); rw [ups_tot] at this; rw [← h.less_] at h3
  have h4 : totL C = totL (C.take k) + totL (C.drop k) := by rw [← totL_append, List.take_append_drop]
  have h5 : 0 ≤ totL (C.drop k) := sumI_nn _ (fun p hp' => by obtain ⟨x, hx, rfl⟩ := List.mem_map.1 hp'; exact (h.good.1 x (List.mem_of_mem_drop hx)).1)
  omega
theorem kept_step {V C : List Sd} {k : Nat} {s : Sd} (hx : V[k]? = some s) : (V.take (k + 1)).filterMap (keepF C) = (V.take k).filterMap (keepF C) ++ (keepF C s).toList := by
  rw [take_next hx, List.filterMap_append]
  cases h : keepF C s <;> simp [h]
theorem fresh_step {V C : List Sd} {T : Int} {k : Nat} {c : Sd} (hx : C[k]? = some c) : (C.take (k + 1)).filterMap (freshF V T) = (C.take k).filterMap (freshF V T) ++ (freshF V T c).toList := by
  rw [take_next hx, List.filterMap_append]
  cases h : freshF V T c <;> simp [h]
theorem keep_none {C : List Sd} {s : Sd} (h : atL s.adr C < 0) : keepF C s = some s := by unfold keepF; rw [atL_neg.1 h]
theorem keep_some {C : List Sd} {s c : Sd} {i : Nat} (h : atL s.adr C = (i : Int)) (hc : C[i]? = some c) : keepF C s = if 0 < c.pow then some { s with pow := c.pow, key := c.key } else none := by unfold keepF; rw [seatAt_some h hc]
theorem srt_exists {V : List Sd} (hV : (adrs V).Nodup) : ∃ VS : List Sd, VS.Perm V ∧ Srt VS := by
  refine ⟨V.mergeSort fun x y => !adrB y x, List.mergeSort_perm _ _, ?_⟩
  have h := List.pairwise_mergeSort (le := fun x y : Sd => !adrB y x) (fun a b c h1 h2 => by
      simp only [Bool.not_eq_true'] at *
      exact (swo_adr id).ntrans _ _ _ h2 h1) (fun a b => by
      cases h1 : adrB b a with
      | false => simp
      | true =>
        cases h2 : adrB a b with
        | false => simp
        | true => have := less_trans h1 h2; rw [less_irrefl] at this; cases this) V
  exact srt_of (h.imp fun h => by simpa using h) (((List.mergeSort_perm V _).map _).nodup_iff.2 hV)
theorem kept_total {V C : List Sd} (hV : (adrs V).Nodup) (k : okCh V C) : totL (keptL V C) = totL V + sumD V (upsL C) - remSum V (delsL C) := by
  obtain ⟨VS, hVS, hVs⟩ := srt_exists hV
  obtain ⟨S, hS, hSs⟩ := srt_exists k.good.2
  have h1 := kept_perm hV k.good.2 (fun u hu => (k.good.1 u hu).1) hVS hVs hS hSs _ rfl
  have h2 := kept_tot hV hVS hVs hSs (totL V + sumD V (upsL C))
  rw [totL_perm h1] at h2
  have h3 : (upsL S).Perm (upsL C) := hS.filter _
  have h4 : (delsL S).Perm (delsL C) := hS.filter _
  rw [h2, sumD_perm V h3, remSum_perm V h4]
end Go.Proofs.YtikikddkhikfkaaGreatDoor
