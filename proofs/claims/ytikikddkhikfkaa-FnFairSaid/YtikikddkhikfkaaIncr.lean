/-
  IncrementProposerPriority: the walk. By the session.
-/
import Derived.Test.YtikikddkhikfkaaInc
import Derived.Test.YtikikddkhikfkaaScaled
set_option linter.unusedSimpArgs false
namespace Go.Proofs.Ytikikddkhikfkaa
open Go.RowKit

/-- a seat but for its priority -/
def core (s : Sd) : Sd := { s with pri := 0 }
theorem core_addP (s : Sd) : core (addP s) = core s := rfl
theorem core_subP (a : Int) (s : Sd) : core (subP a s) = core s := rfl
theorem core_divP (a : Int) (s : Sd) : core (divP a s) = core s := rfl
theorem map_core {f : Sd → Sd} (hf : ∀ s, core (f s) = core s) (l : List Sd) : (l.map f).map core = l.map core := by
  rw [List.map_map]; exact List.map_congr_left (fun s _ => hf s)
theorem turnOf_core (T : Int) (l : List Sd) : (turnOf T l).map core = l.map core := by
  unfold turnOf
  cases hq : propOf (l.map addP) with
  | none => exact map_core core_addP l
  | some q =>
    have hne : l.map addP ≠ [] := fun e => by rw [e] at hq; simp [propOf] at hq
    obtain ⟨q', h1, h2⟩ := propOf_at _ hne
    rw [hq] at h1; cases h1
    simp only [List.map_set]
    rw [core_subP, map_core core_addP]
    have e := map_core core_addP l
    have h3 : (l.map core)[q.2]? = some (core q.1) := by
      rw [← e, List.getElem?_map, h2]; rfl
    have h4 := List.getElem?_eq_some_iff.1 h3
    rw [← h4.2]; exact List.set_getElem_self h4.1
theorem totL_core (l : List Sd) : totL (l.map core) = totL l := by
  unfold totL powsOf; rw [List.map_map]; rfl
theorem totL_of_core {l l' : List Sd} (h : l'.map core = l.map core) : totL l' = totL l := by rw [← totL_core l', h, totL_core]
theorem length_of_core {l l' : List Sd} (h : l'.map core = l.map core) : l'.length = l.length := by have := congrArg List.length h; simpa using this
theorem distinct_of_core {l l' : List Sd} (h : l'.map core = l.map core) (hd : distinct l) : distinct l' := by
  have h1 : distinct (l'.map core) := by rw [h]; exact distinct_map hd _ (fun _ => rfl)
  intro i j x y hx hy hij
  exact h1 i j (core x) (core y) (by rw [List.getElem?_map, hx]; rfl) (by rw [List.getElem?_map, hy]; rfl) hij
theorem pow_of_core {l l' : List Sd} (h : l'.map core = l.map core) {p : Int → Prop} (hp : ∀ s ∈ l, p s.pow) : ∀ s ∈ l', p s.pow := by
  intro s hs
  have h1 : core s ∈ l.map core := by rw [← h]; exact List.mem_map_of_mem hs
  obtain ⟨t, ht, e⟩ := List.mem_map.1 h1
  have : t.pow = s.pow := (congrArg Sd.pow e : (core t).pow = (core s).pow)
  rw [← this]; exact hp t ht
theorem turnOf_in (T : Int) (l : List Sd) : ∀ s ∈ turnOf T l, in64 s.pri := by
  intro s hs
  have h1 : ∀ s ∈ l.map addP, in64 s.pri := fun s hs => by
    obtain ⟨t, _, rfl⟩ := List.mem_map.1 hs
    exact clip_in _
  unfold turnOf at hs
  split at hs
  · exact h1 s hs
  · rcases List.mem_or_eq_of_mem_set hs with h | h
    · exact h1 s h
    · rw [h]; exact clip_in _
/-- so many turns -/
def turnsL (T : Int) : Nat → List Sd → List Sd
  | 0, l => l
  | k + 1, l => turnOf T (turnsL T k l)
theorem turnsL_core (T : Int) (l : List Sd) : ∀ k, (turnsL T k l).map core = l.map core
  | 0 => rfl
  | k + 1 => (turnOf_core T _).trans (turnsL_core T l k)
theorem turnsL_in (T : Int) (l : List Sd) (h : ∀ s ∈ l, in64 s.pri) : ∀ k, ∀ s ∈ turnsL T k l, in64 s.pri
  | 0 => h
  | _ + 1 => turnOf_in T _
theorem scaleL_core (a : Int) (l : List Sd) : (scaleL a l).map core = l.map core := by
  unfold scaleL
  split
  · rfl
  · split
    · exact map_core (core_divP _) l
    · rfl
theorem shiftL_core (l : List Sd) : (shiftL l).map core = l.map core := map_core (core_subP _) l
theorem scaleL_pri (a : Int) (l : List Sd) (B : Int) (h : ∀ s ∈ l, -B ≤ s.pri ∧ s.pri ≤ B) : ∀ s ∈ scaleL a l, -B ≤ s.pri ∧ s.pri ≤ B := by
  intro s hs
  unfold scaleL at hs
  split at hs
  · exact h s hs
  · split at hs
    · obtain ⟨t, ht, rfl⟩ := List.mem_map.1 hs
      have hb := h t ht
      generalize (spanOf l + a - 1) / a = r at *
      have h1 : (t.pri.tdiv r).natAbs ≤ t.pri.natAbs := by rw [Int.natAbs_tdiv]; exact Nat.div_le_self _ _
      simp only [divP]; omega
    · exact h s hs
/-- a set behind k turns, from its seats as they were -/
def startL (l : List Sd) : List Sd := shiftL (scaleL (2 * totL l) l)
theorem startL_core (l : List Sd) : (startL l).map core = l.map core := (shiftL_core _).trans (scaleL_core _ _)
theorem startL_in (l : List Sd) : ∀ s ∈ startL l, in64 s.pri := by
  intro s hs
  obtain ⟨t, _, rfl⟩ := List.mem_map.1 hs
  exact clip_in _

theorem tot_both (lo g : Nat) (A : Option Addr) (c : Nat) (bs : List Nat) (ts : List Tv) (prop : Value) (tot : Int) (same : Bool) (w : World) (h : VSet w lo g A c bs ts prop tot same) (hn : bs.length ≤ 1000)
    (hp : ∀ t ∈ ts, 0 ≤ t.x.pow ∧ t.x.pow ≤ 1125899906842624) (ht : tot = 0 ∨ tot = totL (ts.map Tv.x)) :
    Calls Try.prog 67 #[ptrTo g] w fun e w' => e = .returned (.int .i64 (totL (ts.map Tv.x))) ∧ VSet w' lo g A c bs ts prop (totL (ts.map Tv.x)) same ∧ OnlyV g bs w w' := by
  by_cases h0 : tot = 0
  · subst h0
    refine (tot_new lo g A c bs ts prop same w h hn hp).mono ?_
    rintro e w' ⟨rfl, rfl⟩
    exact ⟨rfl, h.setTot _, OnlyV.putHead _ _ _⟩
  · rcases ht with h1 | h1
    · exact absurd h1 h0
    · refine (tot_any lo g A c bs ts prop tot same w h h0).mono ?_
      rintro e w' ⟨rfl, rfl⟩
      rw [← h1]
      exact ⟨rfl, h, OnlyV.refl _ _ _⟩

set_option maxRecDepth 100000 in
set_option maxHeartbeats 3200000 in
theorem incr_any (lo g : Nat) (A : Option Addr) (c : Nat) (bs : List Nat) (ts : List Tv) (prop : Value) (tot : Int) (same : Bool) (times : Nat) (w : World) (h : VSet w lo g A c bs ts prop tot same) (hn : bs.length ≤ 1000) (hn0 : 0 < bs.length)
    (ht : tot = 0 ∨ tot = totL (ts.map Tv.x)) (hd : distinct (ts.map Tv.x)) (hp : ∀ t ∈ ts, -1152921504606846976 < t.x.pri ∧ t.x.pri < 1152921504606846976) (hw : ∀ t ∈ ts, 1 ≤ t.x.pow ∧ t.x.pow ≤ 1125899906842624)
    (htm : 0 < times) (htm2 : times ≤ 100000) :
    Calls Try.prog 47 #[ptrTo g, .int .i32 times] w fun e w' => e = .returned (.tuple #[]) ∧ ∃ ts', ts'.map Tv.x = turnsL (totL (ts.map Tv.x)) times (startL (ts.map Tv.x)) ∧
      VSet w' lo g A c bs ts' (pval bs (propOf ((turnsL (totL (ts.map Tv.x)) (times - 1) (startL (ts.map Tv.x))).map addP))) (totL (ts.map Tv.x)) same ∧ OnlyV g bs w w' := by
  have hne : ts.map Tv.x ≠ [] := fun e => by
    have h1 := congrArg List.length e
    have := h.len
    simp at h1; rw [h1] at this; simp at this; omega
  have hlen : ts.length = bs.length := h.len
  have hT := sumI_bd (powsOf (ts.map Tv.x)) 1 1125899906842624 (fun x hx => by
    obtain ⟨s, hs, rfl⟩ := List.mem_map.1 hx
    obtain ⟨t, ht, rfl⟩ := List.mem_map.1 hs
    exact hw t ht)
  have hpl : (powsOf (ts.map Tv.x)).length = bs.length := by simp [powsOf, hlen]
  have htot : totL (ts.map Tv.x) = sumI (powsOf (ts.map Tv.x)) := rfl
  rw [hpl, ← htot] at hT
  obtain ⟨hs1, hs2⟩ := setOf_span (ts.map Tv.x) hne (fun x hx => by obtain ⟨t, ht, rfl⟩ := List.mem_map.1 hx; exact hp t ht)
  have HT := Lib.hid (tot_both lo g A c bs ts prop tot same w h hn (fun t ht => by have := hw t ht; omega) ht)
  have hstart : startL (ts.map Tv.x) = shiftL (scaleL (2 * totL (ts.map Tv.x)) (ts.map Tv.x)) := rfl
  have hscore := scaleL_core (2 * totL (ts.map Tv.x)) (ts.map Tv.x)
  have hspri := scaleL_pri (2 * totL (ts.map Tv.x)) (ts.map Tv.x) 1152921504606846976 (fun s hs => by obtain ⟨t, ht, rfl⟩ := List.mem_map.1 hs; have := hp t ht; omega)
  have hgood : ∀ k, (turnsL (totL (ts.map Tv.x)) k (startL (ts.map Tv.x))).map core = (ts.map Tv.x).map core := fun k => (turnsL_core _ _ k).trans (startL_core _)
  have hgin := turnsL_in (totL (ts.map Tv.x)) _ (startL_in (ts.map Tv.x))
  unfold ptrTo at *
  have h0 : w.cell? ⟨g, 0, none⟩ = some (.slice A bs.length c) := h.head.cell 0
  have H := Lib.hid h; have HP := Lib.hid hp; have HW := Lib.hid hw; have HD := Lib.hid hd; have HG := Lib.hid hgood; have HGI := Lib.hid hgin; have HSP := Lib.hid hspri
  have HS1 := Lib.hid hs1; have HS2 := Lib.hid hs2; have HST := Lib.hid hstart; have HSC := Lib.hid hscore
  have hpows := Lib.hid (show ∀ s ∈ ts.map Tv.x, in64 s.pow from fun s hs => by obtain ⟨t, ht, rfl⟩ := List.mem_map.1 hs; have := hw t ht; unfold in64; omega)
  clear h hp hw hd hgood hgin hspri hs1 hs2 hstart hscore htot hpl ht hlen hne
  generalize htt : totL (ts.map Tv.x) = T at *
  clear htt
  go_enter Try.func47, Try.ntmps47
  go_wp2_with (first | (go_at_call 64; refine (nil_any g bs.length c A w h0 hn0).mono ?_; rintro e w' ⟨rfl, rfl⟩) | (go_at_call 67; refine HT.out.mono ?_; rintro e w1 ⟨rfl, hv1, ho1⟩; have HV1 := Lib.hid hv1; have HO1 := Lib.hid ho1; clear hv1 ho1))
  have hC2 := rescale_any lo g A c bs ts prop T same (2 * T) w1 HV1.out (by omega) hn0 HS1.out (by have := HS2.out; omega) (by omega) (fun t ht => by have := HP.out t ht; omega)
  have HC2 := Lib.hid hC2; clear hC2
  refine HC2.out.mono ?_
  rintro e w2 ⟨rfl, ts2, hm2, hv2, ho2⟩
  have hC3 := shift_any lo g A c bs ts2 prop T same w2 hv2 hn hn0 (fun t ht => by have := HSP.out t.x (by rw [← hm2]; exact List.mem_map_of_mem ht); omega)
  rw [hm2, ← HST.out] at hC3
  have HC3 := Lib.hid hC3; have HO2 := Lib.hid (HO1.out.trans ho2); clear hC3 hm2 hv2 ho2
  go_wp2_with (go_at_call 68; refine HC3.out.mono ?_; rintro e w3 ⟨rfl, ts3, hm3, hv3, ho3⟩; have HM3 := Lib.hid hm3; have HV3 := Lib.hid hv3; have HO3 := Lib.hid (HO2.out.trans ho3); clear hm3 hv3 ho3)
  go_loopw [5, 6] (fun p i wr => ∃ k : Nat, k ≤ times ∧ i = .int .i32 k ∧ Hid (∃ ts', ts'.map Tv.x = turnsL T k (startL (ts.map Tv.x)) ∧ VSet wr lo g A c bs ts' prop T same) ∧ Hid (OnlyV g bs w wr) ∧ Hid (k ≠ 0 → p = pval bs (propOf ((turnsL T (k - 1) (startL (ts.map Tv.x))).map addP)))) (fun _ i _ => times - (intOf i).toNat)
  case atStart => exact ⟨0, Nat.zero_le _, rfl, ⟨ts3, HM3.out, HV3.out⟩, HO3.out, fun h => absurd rfl h⟩
  case round =>
    obtain ⟨k, hk, rfl, HV, HO, HPR⟩ := hrel
    by_cases hlt : k < times
    · obtain ⟨ts4, hm4, hv4⟩ := HV.out
      have hcore : (ts4.map Tv.x).map core = (ts.map Tv.x).map core := by rw [hm4]; exact HG.out k
      have hd4 : distinct (ts4.map Tv.x) := distinct_of_core hcore HD.out
      have hp4 := pow_of_core (p := in64) hcore hpows.out
      have hC4 := inc_any lo g A c bs ts4 prop T same wr hv4 hn hn0 hd4 (by omega) (by omega) (fun t ht => ⟨HGI.out k t.x (by rw [← hm4]; exact List.mem_map_of_mem ht), hp4 t.x (List.mem_map_of_mem ht)⟩)
      rw [hm4] at hC4
      have HC4 := Lib.hid hC4; clear hC4 hm4 hv4 hcore hd4 hp4
      have hwk : wrap32 ((k : Int) + 1) = (k : Int) + 1 := by unfold wrap32; omega
      go_wp2_with (go_at_call 69; refine HC4.out.mono ?_; rintro e w5 ⟨rfl, ts5, hm5, hv5, ho5⟩; have HM5 := Lib.hid hm5; have HV5 := Lib.hid hv5; have HO5 := Lib.hid (HO.out.trans ho5); clear hm5 hv5 ho5)
      go_roundw
      case rel => exact ⟨k + 1, by omega, by go_num, ⟨ts5, HM5.out, HV5.out⟩, HO5.out, fun _ => rfl⟩
      case measure => simp [intOf]; omega
    · obtain rfl : k = times := by omega
      obtain ⟨ts4, hm4, hv4⟩ := HV.out
      have hpr := HPR.out (by omega)
      have h30 := hv4.head.cell 1
      have hf := hv4.head.free 1
      have hset := hv4.setProp u5
      have HM4 := Lib.hid hm4; have HSET := Lib.hid hset; have HPR2 := Lib.hid hpr
      clear hm4 hset hpr hv4
      have hpv : ∃ u, u5 = Value.pointer u := by rw [HPR2.out]; cases propOf ((turnsL T (k - 1) (startL (ts.map Tv.x))).map addP) <;> exact ⟨_, rfl⟩
      obtain ⟨u, rfl⟩ := hpv
      go_wp2
      go_end0
      refine ⟨rfl, ts4, HM4.out, ?_, HO.out.trans (OnlyV.putHead _ _ _)⟩
      rw [← HPR2.out]
      exact HSET.out
end Go.Proofs.Ytikikddkhikfkaa
