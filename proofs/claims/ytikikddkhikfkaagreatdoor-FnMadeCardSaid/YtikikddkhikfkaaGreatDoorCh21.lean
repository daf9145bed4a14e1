/-
  The package's Change, UpdateWithChangeSet and the thin package's Changed: walks. By the session.
-/
import Derived.Test.YtikikddkhikfkaaGreatDoorCh20
import Derived.Test.YtikikddkhikfkaaGreatDoorCh9
set_option linter.all false
namespace Go.Proofs.YtikikddkhikfkaaGreatDoor
open Go.RowKit

set_option maxRecDepth 100000 in
set_option maxHeartbeats 3200000 in
theorem upd_any (lo g : Nat) (A : Option Addr) (c : Nat) (bs : List Nat) (ts : List Tv) (prop : Value) (tot : Int) (same : Bool) (w : World) (h : VSet w lo g A c bs ts prop tot same) (hlo : 0 < lo) (hn : bs.length ≤ 400) (ht : tot = 0 ∨ tot = totL (ts.map Tv.x))
    (hp : ∀ x ∈ ts.map Tv.x, 1 ≤ x.pow ∧ x.pow ≤ 1125899906842624) (hpr : ∀ x ∈ ts.map Tv.x, -1152921504606846976 < x.pri ∧ x.pri < 1152921504606846976) (hVn : (adrs (ts.map Tv.x)).Nodup)
    (loc : Nat) (Ac : Option Addr) (cc : Nat) (bc : List Nat) (tc : List Tv) (hc : VRow w loc Ac cc bc tc) (hnc : bc.length ≤ 400) (hca : ∀ t ∈ tc, 0 < t.x.adr.size) (T0 : Nat) (v0 : Value) (hG : w.cell? ⟨0, 0, none⟩ = some (.iface T0 v0)) :
    Calls Tryz.prog 65 #[ptrTo g, .slice Ac bc.length cc] w fun e w' => Below lo w w' ∧
      ((bc.length = 0 ∧ e = .returned .nilIface ∧ VSet w' lo g A c bs ts prop tot same) ∨
       (0 < bc.length ∧ okCh (ts.map Tv.x) (tc.map Tv.x) ∧ e = .returned .nilIface ∧ ∃ A' c' bs' ts', ts'.map Tv.x = outL (ts.map Tv.x) (tc.map Tv.x) ∧ VSet w' lo g A' c' bs' ts' prop (totL (outL (ts.map Tv.x) (tc.map Tv.x))) true) ∨
       (0 < bc.length ∧ ¬ okCh (ts.map Tv.x) (tc.map Tv.x) ∧ (∃ T v, e = .returned (.iface T v)) ∧ ∃ tot', VSet w' lo g A c bs ts prop tot' same)) := by
  have K := Lib.hid (uw_any lo g A c bs ts prop tot same w h hlo hn ht hp hpr hVn loc Ac cc bc tc hc hnc hca T0 v0 hG true)
  clear h ht hp hpr hVn hc hca hG
  unfold ptrTo at *
  go_enter Tryz.func65, Tryz.ntmps65
  go_wp2_with fail
  refine K.out.mono ?_
  rintro e w1 ⟨hb, ⟨h1, rfl, h3⟩ | ⟨h1, h2, rfl, h3⟩ | ⟨h1, h2, ⟨T, v, rfl⟩, h3⟩⟩
  · have HB := Lib.hid hb; have H3 := Lib.hid h3; clear hb h3
    go_wp2
    (try go_ret)
    exact ⟨HB.out, .inl ⟨h1, rfl, H3.out⟩⟩
  · have HB := Lib.hid hb; have H3 := Lib.hid h3; have H2 := Lib.hid h2; clear hb h3 h2
    go_wp2
    (try go_ret)
    exact ⟨HB.out, .inr (.inl ⟨h1, H2.out.1, rfl, H3.out⟩)⟩
  · have HB := Lib.hid hb; have H3 := Lib.hid h3; have H2 := Lib.hid h2; clear hb h3 h2
    go_wp2
    (try go_ret)
    exact ⟨HB.out, .inr (.inr ⟨h1, fun k => H2.out ⟨k, .inl (by trivial)⟩, ⟨T, v, rfl⟩, H3.out⟩)⟩
/-- what a set holds behind changes -/
noncomputable def chB (V C : List Sd) : Bool := @decide (C = [] ∨ okCh V C) (Classical.propDecidable _)
open Classical in
noncomputable def chO (V C : List Sd) : List Sd := if C ≠ [] ∧ okCh V C then outL V C else V
theorem ch_nil (V : List Sd) : chB V [] = true ∧ chO V [] = V := by unfold chB chO; simp
theorem ch_ok {V C : List Sd} (h : C ≠ []) (k : okCh V C) : chB V C = true ∧ chO V C = outL V C := by unfold chB chO; simp [h, k]
theorem ch_no {V C : List Sd} (h : C ≠ []) (k : ¬ okCh V C) : chB V C = false ∧ chO V C = V := by unfold chB chO; simp [h, k]
set_option maxRecDepth 100000 in
set_option maxHeartbeats 3200000 in
theorem change_any (lo g : Nat) (A : Option Addr) (c : Nat) (bs : List Nat) (ts : List Tv) (prop : Value) (tot : Int) (same : Bool) (w : World) (h : VSet w lo g A c bs ts prop tot same) (hlo : 0 < lo) (hn : bs.length ≤ 400) (ht : tot = 0 ∨ tot = totL (ts.map Tv.x))
    (hp : ∀ x ∈ ts.map Tv.x, 1 ≤ x.pow ∧ x.pow ≤ 1125899906842624) (hpr : ∀ x ∈ ts.map Tv.x, -1152921504606846976 < x.pri ∧ x.pri < 1152921504606846976) (hVn : (adrs (ts.map Tv.x)).Nodup)
    (tc : List Tv) (B : Option Addr) (m d : Nat) (hr : Rd w w.heap.size 4 B m (tc.flatMap Tv.seat)) (hok : ∀ t ∈ tc, t.ok w) (hm : m ≤ 400) (hca : ∀ t ∈ tc, 0 < t.x.adr.size) (T0 : Nat) (v0 : Value) (hG : w.cell? ⟨0, 0, none⟩ = some (.iface T0 v0)) :
    Calls Tryz.prog 35 #[ptrTo g, .slice B m d] w fun e w' => Below lo w w' ∧ e = .returned (.bool (chB (ts.map Tv.x) (tc.map Tv.x))) ∧ ∃ A' c' bs' ts' tot' same', ts'.map Tv.x = chO (ts.map Tv.x) (tc.map Tv.x) ∧ VSet w' lo g A' c' bs' ts' prop tot' same' := by
  have K := Lib.hid (setOf_any tc B m d w hr hok (by omega))
  have hl0 := h.keysV
  have hml : tc.length = m := by have := hr.1; rw [flat_length Tv.seat 4 (fun _ => rfl)] at this; omega
  have H := Lib.hid h; have HP := Lib.hid hp; have HPR := Lib.hid hpr; have HV := Lib.hid hVn; have HCA := Lib.hid hca; have HT := Lib.hid ht; have HG := Lib.hid hG; have HML := Lib.hid hml
  clear h hp hpr hVn hca ht hG hr hok hml
  unfold ptrTo at *
  go_enter Tryz.func35, Tryz.ntmps35
  go_wp2_with fail
  refine K.out.mono ?_
  rintro e w1 ⟨A1, c1, bc, rfl, hv1, hb1⟩
  have hbl : bc.length = m := by have := hv1.len; have := HML.out; omega
  subst hbl
  have h10 : w1.cell? ⟨w.heap.size, 0, none⟩ = some (.slice A1 bc.length c1) := hv1.head.cell 0
  have K2 := Lib.hid (upd_any lo g A c bs ts prop tot same w1 (H.out.keep (KeepV.of_below _ hb1 (Nat.le_refl _))) hlo hn HT.out HP.out HPR.out HV.out w.heap.size A1 c1 bc tc hv1.vrow (by omega) HCA.out T0 v0 ((hb1.cell (p := ⟨0, 0, none⟩) (by show 0 < _; omega)).trans HG.out))
  have HB1 := Lib.hid hb1
  have hnil : ∀ h : bc.length = 0, tc.map Tv.x = [] := fun h => List.eq_nil_of_length_eq_zero (by rw [List.length_map]; have := HML.out; omega)
  have hcon : ∀ h : 0 < bc.length, tc.map Tv.x ≠ [] := fun h e => by have := congrArg List.length e; rw [List.length_map, List.length_nil] at this; have := HML.out; omega
  have HNIL := Lib.hid hnil; have HCON := Lib.hid hcon
  clear hv1 hb1 hnil hcon
  unfold ptrTo at *
  go_wp2_with fail
  refine K2.out.mono ?_
  rintro e w2 ⟨hb2, ⟨h1, rfl, h3⟩ | ⟨h1, h2, rfl, A3, c3, bs3, ts3, h3, h4⟩ | ⟨h1, h2, ⟨T, v, rfl⟩, tot', h3⟩⟩
  · have hb := (HB1.out.mono hl0.1).trans hb2
    have hc : chB (ts.map Tv.x) (tc.map Tv.x) = true ∧ chO (ts.map Tv.x) (tc.map Tv.x) = ts.map Tv.x := by rw [HNIL.out h1]; exact ch_nil _
    have HB := Lib.hid hb; have H3 := Lib.hid h3; have HC := Lib.hid hc; clear hb h3 hc hb2
    go_wp2
    (try go_ret)
    exact ⟨HB.out, ret_bool (by rw [HC.out.1]), A, c, bs, ts, tot, same, HC.out.2.symm, H3.out⟩
  · have hb := (HB1.out.mono hl0.1).trans hb2
    have hc := ch_ok (HCON.out h1) h2
    have HB := Lib.hid hb; have H3 := Lib.hid h3; have H4 := Lib.hid h4; have HC := Lib.hid hc; clear hb h3 hc hb2 h2 h4
    go_wp2
    (try go_ret)
    exact ⟨HB.out, ret_bool (by rw [HC.out.1]), A3, c3, bs3, ts3, _, _, by rw [HC.out.2]; exact H3.out, H4.out⟩
  · have hb := (HB1.out.mono hl0.1).trans hb2
    have hc := ch_no (HCON.out h1) h2
    have HB := Lib.hid hb; have H3 := Lib.hid h3; have HC := Lib.hid hc; clear hb h3 hc hb2 h2
    go_wp2
    (try go_ret)
    exact ⟨HB.out, ret_bool (by rw [HC.out.1]), A, c, bs, ts, tot', same, HC.out.2.symm, H3.out⟩
set_option maxRecDepth 100000 in
set_option maxHeartbeats 3200000 in
theorem ichanged_any (l C : List Sd) (A : Option Addr) (n c : Nat) (B : Option Addr) (m d : Nat) (w : World) (hr : Rd w w.heap.size 4 A n (cellsOf l)) (hn : n ≤ 400) (hs : Rd w w.heap.size 4 B m (cellsOf C)) (hm : m ≤ 400)
    (hp : ∀ x ∈ l, 1 ≤ x.pow ∧ x.pow ≤ 1125899906842624) (hpr : ∀ x ∈ l, -1152921504606846976 < x.pri ∧ x.pri < 1152921504606846976) (hVn : (adrs l).Nodup) (hca : ∀ x ∈ C, 0 < x.adr.size) (hw0 : 0 < w.heap.size) (T0 : Nat) (v0 : Value) (hG : w.cell? ⟨0, 0, none⟩ = some (.iface T0 v0)) :
    Calls Tryz.prog 10 #[.slice A n c, .slice B m d] w fun e w' => ∃ A' c', e = .returned (.tuple #[.slice A' (chO l C).length c', .bool (chB l C)]) ∧ Rd w' w'.heap.size 4 A' (chO l C).length (cellsOf (chO l C)) ∧ Below w.heap.size w w' := by
  have K := Lib.hid (seats_any l A n c w hr (by omega))
  have HL := Lib.hid hr.len; have HS := Lib.hid hs; have HP := Lib.hid hp; have HPR := Lib.hid hpr; have HV := Lib.hid hVn; have HCA := Lib.hid hca; have HG := Lib.hid hG
  clear hr hs hp hpr hVn hca hG
  go_enter Tryz.func10, Tryz.ntmps10
  go_wp2_with fail
  refine K.out.mono ?_
  rintro e w1 ⟨A1, c1, ts, rfl, hr1, hm1, hok1, hb1⟩
  have K2 := Lib.hid (setOf_any ts A1 n c1 w1 hr1 hok1 (by omega))
  have HM1 := Lib.hid hm1; have HB1 := Lib.hid hb1
  clear hr1 hok1 hm1 hb1
  go_wp2_with fail
  refine K2.out.mono ?_
  rintro e w2 ⟨A2, c2, bs, rfl, hv2, hb2⟩
  have z1 := HB1.out.size; have z2 := hb2.size
  have hbl : bs.length = n := by have h1 := hv2.len; have h2 := congrArg List.length HM1.out; have h3 := HL.out; rw [List.length_map] at h2; omega
  have hb12 := HB1.out.trans (hb2.mono z1)
  have K3 := Lib.hid (seats_any C B m d w2 ((HS.out.below hb12).more hb12.size) (by omega))
  have HV2 := Lib.hid hv2; have HB12 := Lib.hid hb12; have HB2 := Lib.hid hb2
  clear hv2 hb12 hb2
  go_wp2_with fail
  refine K3.out.mono ?_
  rintro e w3 ⟨A3, c3, tc, rfl, hr3, hm3, hok3, hb3⟩
  have hb13 := HB12.out.trans (hb3.mono HB12.out.size)
  have hG3 := (hb13.cell (p := ⟨0, 0, none⟩) (by show 0 < _; omega)).trans HG.out
  have K4 := change_any w1.heap.size w1.heap.size A2 c2 bs ts _ _ _ w3 (HV2.out.keep (KeepV.of_below _ hb3 (Nat.le_refl _))) (by omega) (by omega) (.inl rfl) (by rw [HM1.out]; exact HP.out) (by rw [HM1.out]; exact HPR.out) (by rw [HM1.out]; exact HV.out) tc A3 m c3 hr3 hok3 hm
    (fun t ht => HCA.out t.x (by rw [← hm3]; exact List.mem_map_of_mem ht)) T0 v0 hG3
  rw [HM1.out, hm3] at K4
  have HK4 := Lib.hid K4; have HB13 := Lib.hid hb13; have HB3 := Lib.hid hb3
  clear K4 hr3 hok3 hm3 hG3 hb13 hb3
  go_wp2_with fail
  refine HK4.out.mono ?_
  rintro e w4 ⟨hb4, rfl, A4, c4, bs4, ts4, tot4, same4, hm4, hv4⟩
  have z3 := HB3.out.size; have z4 := hb4.size
  have hlen4 : bs4.length = (chO l C).length := by rw [← hm4, List.length_map]; exact hv4.len.symm
  have K5 := ours_any w1.heap.size w1.heap.size A4 c4 bs4 ts4 _ _ _ w4 hv4 (by
    have : (chO l C).length ≤ 800 := by
      unfold chO
      split
      · rw [outL_len]; have := kept_len l C; have := HL.out; have := HS.out.len; omega
      · have := HL.out; omega
    omega)
  rw [hm4, hlen4] at K5
  have HK5 := Lib.hid K5; have HB4 := Lib.hid (HB13.out.trans (hb4.mono z1))
  clear K5 hv4 hm4 hlen4 hb4
  go_wp2_with fail
  refine HK5.out.mono ?_
  rintro e w5 ⟨A5, c5, rfl, hr5, hb5⟩
  have HR5 := Lib.hid hr5; have HB5 := Lib.hid (HB4.out.trans (hb5.mono HB4.out.size))
  clear hr5 hb5
  go_wp2
  go_ret2
  exact ⟨A5, c5, rfl, HR5.out, HB5.out⟩
end Go.Proofs.YtikikddkhikfkaaGreatDoor
