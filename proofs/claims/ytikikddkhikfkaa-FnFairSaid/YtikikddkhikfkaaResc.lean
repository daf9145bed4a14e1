/-
  RescalePriorities and what it calls: walks. By the session.
-/
import Derived.Test.YtikikddkhikfkaaSetOf
namespace Go.Proofs.Ytikikddkhikfkaa
open Go.RowKit

def mxf (x : Int) (l : List Int) : Int := l.foldl (fun m p => if m < p then p else m) x
def mnf (x : Int) (l : List Int) : Int := l.foldl (fun m p => if p < m then p else m) x
def prisOf (l : List Sd) : List Int := l.map Sd.pri
/-- the greatest less the least priority -/
def spanOf (l : List Sd) : Int := mxf (-9223372036854775808) (prisOf l) - mnf 9223372036854775807 (prisOf l)
theorem mxf_bd : ∀ (l : List Int) (x lo hi : Int), lo ≤ x → x ≤ hi → (∀ p ∈ l, p ≤ hi) → lo ≤ mxf x l ∧ mxf x l ≤ hi := by
  intro l
  induction l with
  | nil => intro x lo hi h1 h2 _; exact ⟨h1, h2⟩
  | cons p r ih =>
    intro x lo hi h1 h2 h3
    have hp := h3 p (List.mem_cons_self ..)
    simp only [mxf, List.foldl_cons]
    exact ih _ lo hi (by split <;> omega) (by split <;> omega) fun q hq => h3 q (List.mem_cons_of_mem _ hq)
theorem mnf_bd : ∀ (l : List Int) (x lo hi : Int), lo ≤ x → x ≤ hi → (∀ p ∈ l, lo ≤ p) → lo ≤ mnf x l ∧ mnf x l ≤ hi := by
  intro l
  induction l with
  | nil => intro x lo hi h1 h2 _; exact ⟨h1, h2⟩
  | cons p r ih =>
    intro x lo hi h1 h2 h3
    have hp := h3 p (List.mem_cons_self ..)
    simp only [mnf, List.foldl_cons]
    exact ih _ lo hi (by split <;> omega) (by split <;> omega) fun q hq => h3 q (List.mem_cons_of_mem _ hq)
/-- with all priorities between lo and hi: the span -/
theorem span_bd (l : List Sd) (lo hi : Int) (hl : -9223372036854775808 ≤ lo) (hh : hi ≤ 9223372036854775807) (hne : l ≠ []) (h : ∀ s ∈ l, lo ≤ s.pri ∧ s.pri ≤ hi) : 0 ≤ spanOf l ∧ spanOf l ≤ hi - lo := by
  cases l with
  | nil => exact absurd rfl hne
  | cons s r =>
    obtain ⟨h1, h2⟩ := h s (List.mem_cons_self ..)
    have a := mxf_bd (prisOf r) s.pri s.pri hi (Int.le_refl _) h2 (fun p hp => by
      obtain ⟨x, hx, rfl⟩ := List.mem_map.1 hp
      exact (h x (List.mem_cons_of_mem _ hx)).2)
    have b := mnf_bd (prisOf r) s.pri lo s.pri h1 (Int.le_refl _) (fun p hp => by
      obtain ⟨x, hx, rfl⟩ := List.mem_map.1 hp
      exact (h x (List.mem_cons_of_mem _ hx)).1)
    have e1 : mxf (-9223372036854775808) (prisOf (s :: r)) = mxf s.pri (prisOf r) := by
      simp only [mxf, prisOf, List.map_cons, List.foldl_cons]
      congr 1
      split <;> omega
    have e2 : mnf 9223372036854775807 (prisOf (s :: r)) = mnf s.pri (prisOf r) := by
      simp only [mnf, prisOf, List.map_cons, List.foldl_cons]
      congr 1
      split <;> omega
    unfold spanOf
    rw [e1, e2]
    omega

set_option maxHeartbeats 400000 in
theorem nil_any (g n c : Nat) (A : Option Addr) (w : World) (h : w.cell? ⟨g, 0, none⟩ = some (.slice A n c)) (hn : 0 < n) :
    Calls Try.prog 64 #[.pointer (some ⟨g, 0, none⟩)] w fun e w' => e = .returned (.bool false) ∧ w = w' := by
  have hz : ((n : Int) == 0) = false := by simp; omega
  go_enter Try.func64, Try.ntmps64
  go_wp2
  go_ret
  exact ⟨rfl, rfl⟩

theorem mxf_snoc (x : Int) (l : List Int) (p : Int) : mxf x (l ++ [p]) = if mxf x l < p then p else mxf x l := by unfold mxf; rw [List.foldl_append]; rfl
theorem mnf_snoc (x : Int) (l : List Int) (p : Int) : mnf x (l ++ [p]) = if p < mnf x l then p else mnf x l := by unfold mnf; rw [List.foldl_append]; rfl

set_option maxRecDepth 100000 in
set_option maxHeartbeats 1600000 in
theorem diff_any (lo g : Nat) (A : Option Addr) (c : Nat) (bs : List Nat) (ts : List Tv) (prop : Value) (tot : Int) (same : Bool) (w : World) (h : VSet w lo g A c bs ts prop tot same) (hn : bs.length ≤ 1000000) (hn0 : 0 < bs.length)
    (hs : 0 ≤ spanOf (ts.map Tv.x)) (hs2 : spanOf (ts.map Tv.x) ≤ 9223372036854775807) :
    Calls Try.prog 65 #[.pointer (some ⟨g, 0, none⟩)] w fun e w' => e = .returned (.int .i64 (spanOf (ts.map Tv.x))) ∧ w = w' := by
  have h0 : w.cell? ⟨g, 0, none⟩ = some (.slice A bs.length c) := h.head.cell 0
  have H := Lib.hid h; clear h
  have hs' := Lib.hid hs; have hs2' := Lib.hid hs2; clear hs hs2
  go_enter Try.func65, Try.ntmps65
  go_wp2_with (go_at_call 64; refine (nil_any g bs.length c A w h0 hn0).mono ?_; rintro e w' ⟨rfl, rfl⟩)
  go_loop [3, 4, 16] (fun a b i => ∃ k : Nat, k ≤ bs.length ∧ i = .int .i64 k ∧ a = .int .i64 (mxf (-9223372036854775808) ((prisOf (ts.map Tv.x)).take k)) ∧ b = .int .i64 (mnf 9223372036854775807 ((prisOf (ts.map Tv.x)).take k))) (fun _ _ i => bs.length - (intOf i).toNat)
  case atStart => exact ⟨0, Nat.zero_le _, rfl, rfl, rfl⟩
  case round =>
    obtain ⟨k, hk, rfl, rfl, rfl⟩ := hrel
    by_cases hlt : k < bs.length
    · obtain ⟨b, t, hb, ht⟩ := H.out.at_ hlt
      obtain ⟨r, rfl, _, hp⟩ := H.out.ptr hb
      obtain ⟨_, hbv, hok⟩ := H.out.vals k b t hb ht
      obtain ⟨c0, c1, c2, c3⟩ := t.val_cells hbv
      have hg : (prisOf (ts.map Tv.x)).take (k + 1) = (prisOf (ts.map Tv.x)).take k ++ [t.x.pri] := by
        have hl : k < (prisOf (ts.map Tv.x)).length := by simp [prisOf, H.out.len]; exact hlt
        rw [List.take_succ_eq_append_getElem hl]
        have := (List.getElem?_eq_some_iff.1 ht).2
        simp [prisOf, this]
      have ha := mxf_snoc (-9223372036854775808) ((prisOf (ts.map Tv.x)).take k) t.x.pri
      have hb2 := mnf_snoc 9223372036854775807 ((prisOf (ts.map Tv.x)).take k) t.x.pri
      rw [← hg] at ha hb2
      have HA := Lib.hid ha; have HB2 := Lib.hid hb2; have HB := Lib.hid hb; have HT := Lib.hid ht; have HBV := Lib.hid hbv; have HOK := Lib.hid hok; have HG := Lib.hid hg
      clear ha hb2 hb ht hbv hok hg c0 c1 c2
      generalize mxf (-9223372036854775808) ((prisOf (ts.map Tv.x)).take k) = mx at *
      generalize mnf 9223372036854775807 ((prisOf (ts.map Tv.x)).take k) = mn at *
      by_cases q1 : t.x.pri < mn
      all_goals by_cases q2 : mx < t.x.pri
      all_goals
        go_wp2
        go_round
        case rel => exact ⟨k + 1, by omega, by go_num, by rw [HA.out]; first | rw [if_pos q2] | rw [if_neg q2], by rw [HB2.out]; first | rw [if_pos q1] | rw [if_neg q1]⟩
        case measure => simp [intOf]; omega
    · have e : k = bs.length := by omega
      have hl : (prisOf (ts.map Tv.x)).length ≤ k := by simp [prisOf, H.out.len]; omega
      rw [List.take_of_length_le hl]
      have hsp : spanOf (ts.map Tv.x) = mxf (-9223372036854775808) (prisOf (ts.map Tv.x)) - mnf 9223372036854775807 (prisOf (ts.map Tv.x)) := rfl
      have h1 := hs'.out; have h2 := hs2'.out
      rw [hsp] at h1 h2
      have HE := Lib.hid e; have HL := Lib.hid hl; have HSP := Lib.hid hsp; clear e hl hsp
      generalize mxf (-9223372036854775808) (prisOf (ts.map Tv.x)) = mx at *
      generalize mnf 9223372036854775807 (prisOf (ts.map Tv.x)) = mn at *
      go_wp2
      go_ret
      exact ⟨ret_int HSP.out.symm, rfl⟩

/-- every priority divided -/
def divP (r : Int) (s : Sd) : Sd := { s with pri := s.pri.tdiv r }
/-- scaled, as the package has it -/
def scaleL (apart : Int) (l : List Sd) : List Sd :=
  if apart ≤ 0 then l else if apart < spanOf l then l.map (divP ((spanOf l + apart - 1) / apart)) else l
def onX (f : Sd → Sd) (t : Tv) : Tv := { t with x := f t.x }
theorem onX_map (f : Sd → Sd) (ts : List Tv) : (ts.map (onX f)).map Tv.x = (ts.map Tv.x).map f := by simp [onX, Function.comp_def]

set_option maxRecDepth 100000 in
set_option maxHeartbeats 1600000 in
theorem rescale_any (lo g : Nat) (A : Option Addr) (c : Nat) (bs : List Nat) (ts : List Tv) (prop : Value) (tot : Int) (same : Bool) (apart : Int) (w : World) (h : VSet w lo g A c bs ts prop tot same) (hn : bs.length ≤ 1000000) (hn0 : 0 < bs.length)
    (hs : 0 ≤ spanOf (ts.map Tv.x)) (hs2 : spanOf (ts.map Tv.x) + apart ≤ 9223372036854775807) (ha : apart ≤ 4611686018427387904) (hp : ∀ t ∈ ts, -9223372036854775808 < t.x.pri ∧ t.x.pri ≤ 9223372036854775807) :
    Calls Try.prog 45 #[ptrTo g, .int .i64 apart] w fun e w' => e = .returned (.tuple #[]) ∧ ∃ ts', ts'.map Tv.x = scaleL apart (ts.map Tv.x) ∧ VSet w' lo g A c bs ts' prop tot same ∧ OnlyV g bs w w' := by
  unfold ptrTo
  have h0 : w.cell? ⟨g, 0, none⟩ = some (.slice A bs.length c) := h.head.cell 0
  have H := Lib.hid h; clear h
  have hs' := Lib.hid hs; have hs2' := Lib.hid hs2; have HP := Lib.hid hp; clear hp
  by_cases ha0 : apart ≤ 0
  · have hsc : scaleL apart (ts.map Tv.x) = ts.map Tv.x := by unfold scaleL; rw [if_pos ha0]
    have HSC := Lib.hid hsc; clear hsc
    go_enter Try.func45, Try.ntmps45
    go_wp2_with (go_at_call 64; refine (nil_any g bs.length c A w h0 hn0).mono ?_; rintro e w' ⟨rfl, rfl⟩)
    refine bodyPost_ret (results_none rfl _ _ _) rfl ?_
    exact ⟨rfl, ts, HSC.out.symm, H.out, OnlyV.refl _ _ _⟩
  · have hD := Lib.hid (diff_any lo g A c bs ts prop tot same w H.out hn hn0 hs (by omega))
    have hsc : scaleL apart (ts.map Tv.x) = if apart < spanOf (ts.map Tv.x) then (ts.map Tv.x).map (divP ((spanOf (ts.map Tv.x) + apart - 1) / apart)) else ts.map Tv.x := by unfold scaleL; rw [if_neg ha0]
    have HSC := Lib.hid hsc; clear hsc
    generalize spanOf (ts.map Tv.x) = sp at *
    have hq1 : 0 ≤ (sp + apart - 1) / apart := Int.ediv_nonneg (by omega) (by omega)
    have hq2 : (sp + apart - 1) / apart ≤ sp + apart - 1 := Int.ediv_le_self _ (by omega)
    by_cases hlt : apart < sp
    · rw [if_pos hlt] at HSC
      have hr1 : 1 ≤ (sp + apart - 1) / apart := (Int.le_ediv_iff_mul_le (by omega)).2 (by omega)
      have hrq : (sp + apart - 1).tdiv apart = (sp + apart - 1) / apart := Int.tdiv_eq_ediv_of_nonneg (by omega)
      have HRQ := Lib.hid hrq; clear hrq
      go_enter Try.func45, Try.ntmps45
      go_wp2_with (first | (go_at_call 64; refine (nil_any g bs.length c A w h0 hn0).mono ?_; rintro e w' ⟨rfl, rfl⟩) | (go_at_call 65; refine hD.out.mono ?_; rintro e w' ⟨rfl, rfl⟩))
      generalize (sp + apart - 1) / apart = r at *
      clear hq1 hq2 hlt hs hs2
      go_loopw [29] (fun i wr => ∃ k : Nat, k ≤ bs.length ∧ i = .int .i64 k ∧ Hid (VSet wr lo g A c bs (mapTo (onX (divP r)) ts k) prop tot same) ∧ Hid (OnlyV g bs w wr)) (fun i _ => bs.length - (intOf i).toNat)
      case atStart => exact ⟨0, Nat.zero_le _, rfl, by rw [mapTo_zero]; exact H.out, OnlyV.refl _ _ _⟩
      case round =>
        obtain ⟨k, hk, rfl, HV, HO⟩ := hrel
        by_cases hlt : k < bs.length
        · obtain ⟨b, t, hb, ht⟩ := H.out.at_ hlt
          have ht' := mapTo_get (onX (divP r)) ts k t ht
          obtain ⟨r0, rfl, _, hp⟩ := HV.out.ptr hb
          obtain ⟨_, hbv, hok⟩ := HV.out.vals k b t hb ht'
          obtain ⟨c0, c1, c2, c3⟩ := t.val_cells hbv
          have f3 := hbv.free 3
          have hb3 := HP.out t (List.mem_of_getElem? ht)
          have hq : wrap64 (t.x.pri.tdiv r) = t.x.pri.tdiv r := by
            have h1 : (t.x.pri.tdiv r).natAbs ≤ t.x.pri.natAbs := by rw [Int.natAbs_tdiv]; exact Nat.div_le_self _ _
            unfold wrap64; omega
          have hset := HV.out.setPri hb ht' (t.x.pri.tdiv r)
          have e1 : (mapTo (onX (divP r)) ts k).set k { t with x := { t.x with pri := t.x.pri.tdiv r } } = mapTo (onX (divP r)) ts (k + 1) := mapTo_succ (onX (divP r)) ts k t ht
          rw [e1] at hset
          have HSET := Lib.hid hset; have HB := Lib.hid hb; have HT := Lib.hid ht; have HBV := Lib.hid hbv; have HOK := Lib.hid hok; have HT' := Lib.hid ht'
          have hmem := Lib.hid (List.mem_of_getElem? hb)
          clear hset e1 hb ht hbv hok ht' c0 c1 c2
          go_wp2
          go_roundw
          case rel => exact ⟨k + 1, by omega, by go_num, HSET.out, HO.out.trans (OnlyV.putVal _ hmem.out 3 _)⟩
          case measure => simp [intOf]; omega
        · have hfin := HV.out
          rw [mapTo_full _ _ _ (by rw [H.out.len]; omega)] at hfin
          have HF := Lib.hid hfin; clear hfin
          go_wp2
          go_end0
          exact ⟨rfl, _, (onX_map _ _).trans HSC.out.symm, HF.out, HO.out⟩
    · rw [if_neg hlt] at HSC
      go_enter Try.func45, Try.ntmps45
      go_wp2_with (first | (go_at_call 64; refine (nil_any g bs.length c A w h0 hn0).mono ?_; rintro e w' ⟨rfl, rfl⟩) | (go_at_call 65; refine hD.out.mono ?_; rintro e w' ⟨rfl, rfl⟩))
      go_end0
      exact ⟨rfl, ts, HSC.out.symm, H.out, OnlyV.refl _ _ _⟩
end Go.Proofs.Ytikikddkhikfkaa
