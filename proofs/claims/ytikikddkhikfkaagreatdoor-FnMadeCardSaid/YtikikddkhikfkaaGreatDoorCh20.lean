/-
  updateWithChangeSet: the walk. By the session.
-/
import Derived.Test.YtikikddkhikfkaaGreatDoorCh19
set_option linter.all false
namespace Go.Proofs.YtikikddkhikfkaaGreatDoor
open Go.RowKit

set_option maxRecDepth 100000 in
set_option maxHeartbeats 6400000 in
theorem uw_any (lo g : Nat) (A : Option Addr) (c : Nat) (bs : List Nat) (ts : List Tv) (prop : Value) (tot : Int) (same : Bool) (w : World) (h : VSet w lo g A c bs ts prop tot same) (hlo : 0 < lo) (hn : bs.length ≤ 400) (ht : tot = 0 ∨ tot = totL (ts.map Tv.x))
    (hp : ∀ x ∈ ts.map Tv.x, 1 ≤ x.pow ∧ x.pow ≤ 1125899906842624) (hpr : ∀ x ∈ ts.map Tv.x, -1152921504606846976 < x.pri ∧ x.pri < 1152921504606846976) (hVn : (adrs (ts.map Tv.x)).Nodup)
    (loc : Nat) (Ac : Option Addr) (cc : Nat) (bc : List Nat) (tc : List Tv) (hc : VRow w loc Ac cc bc tc) (hnc : bc.length ≤ 400) (hca : ∀ t ∈ tc, 0 < t.x.adr.size) (T0 : Nat) (v0 : Value) (hG : w.cell? ⟨0, 0, none⟩ = some (.iface T0 v0)) (del : Bool) :
    Calls Tryz.prog 69 #[ptrTo g, .slice Ac bc.length cc, .bool del] w fun e w' => Below lo w w' ∧
      ((bc.length = 0 ∧ e = .returned .nilIface ∧ VSet w' lo g A c bs ts prop tot same) ∨
       (0 < bc.length ∧ (okCh (ts.map Tv.x) (tc.map Tv.x) ∧ (del = true ∨ delsL (tc.map Tv.x) = [])) ∧ e = .returned .nilIface ∧ ∃ A' c' bs' ts', ts'.map Tv.x = outL (ts.map Tv.x) (tc.map Tv.x) ∧ VSet w' lo g A' c' bs' ts' prop (totL (outL (ts.map Tv.x) (tc.map Tv.x))) true) ∨
       (0 < bc.length ∧ ¬ (okCh (ts.map Tv.x) (tc.map Tv.x) ∧ (del = true ∨ delsL (tc.map Tv.x) = [])) ∧ (∃ T v, e = .returned (.iface T v)) ∧ ∃ tot', VSet w' lo g A c bs ts prop tot' same)) := by
  obtain ⟨Q, hQ⟩ : ∃ Q : Ending → World → Prop, ∀ e w', Q e w' = (Below lo w w' ∧
      ((bc.length = 0 ∧ e = .returned .nilIface ∧ VSet w' lo g A c bs ts prop tot same) ∨
       (0 < bc.length ∧ (okCh (ts.map Tv.x) (tc.map Tv.x) ∧ (del = true ∨ delsL (tc.map Tv.x) = [])) ∧ e = .returned .nilIface ∧ ∃ A' c' bs' ts', ts'.map Tv.x = outL (ts.map Tv.x) (tc.map Tv.x) ∧ VSet w' lo g A' c' bs' ts' prop (totL (outL (ts.map Tv.x) (tc.map Tv.x))) true) ∨
       (0 < bc.length ∧ ¬ (okCh (ts.map Tv.x) (tc.map Tv.x) ∧ (del = true ∨ delsL (tc.map Tv.x) = [])) ∧ (∃ T v, e = .returned (.iface T v)) ∧ ∃ tot', VSet w' lo g A c bs ts prop tot' same))) := ⟨_, fun _ _ => rfl⟩
  simp only [← hQ]
  have HQ := Lib.hid hQ; clear hQ
  obtain ⟨hls, hlg⟩ := h.keysV
  have h0 : w.cell? ⟨g, 0, none⟩ = some (.slice A bs.length c) := h.head.cell 0
  have H := Lib.hid h; have HC := Lib.hid hc; have HP := Lib.hid hp; have HPR := Lib.hid hpr; have HV := Lib.hid hVn; have HCA := Lib.hid hca; have HT := Lib.hid ht; have HG := Lib.hid hG
  clear h hc hp hpr hVn hca ht hG
  unfold ptrTo
  by_cases hz : bc.length = 0
  · have hz' : (((bc.length : Nat) : Int) == 0) = true := by simp [hz]
    go_enter Tryz.func69, Tryz.ntmps69
    go_wp2
    (try go_ret)
    rw [HQ.out]
    exact ⟨Below.refl _ _, .inl ⟨hz, rfl, H.out⟩⟩
  have hz' : (((bc.length : Nat) : Int) == 0) = false := beq_eq_false_iff_ne.2 (by omega)
  have hA : Ac ≠ none := fun e => by
    obtain ⟨r, cap, hv, _, _⟩ := HC.out.row.form (by omega)
    rw [e] at hv; cases hv
  have KC := Lib.hid (proc_any loc Ac cc bc tc w HC.out (by omega) hA HCA.out)
  go_enter Tryz.func69, Tryz.ntmps69
  go_wp2_with fail
  refine KC.out.mono ?_
  rintro e w1 ⟨hb1, ⟨hgd, Au, cu, bu, tu, Ar, cr, br, tr, S, rfl, hAu, hvu, hvr, hSp, hSs, htu, htr⟩ | ⟨hgd, v, rfl⟩⟩
  case inr =>
    have hno : ¬ (okCh (ts.map Tv.x) (tc.map Tv.x) ∧ (del = true ∨ delsL (tc.map Tv.x) = [])) := fun h => hgd h.1.good
    have hset := H.out.keep (KeepV.of_below lo hb1 (Nat.le_refl _))
    have HR := Lib.hid (And.intro hno hset); have HB := Lib.hid (hb1.mono hls)
    clear hno hset hgd hb1
    go_wp2
    (try go_ret)
    rw [HQ.out]
    exact ⟨HB.out, .inr (.inr ⟨by omega, HR.out.1, ⟨_, _, rfl⟩, tot, HR.out.2⟩)⟩
  case inl =>
    have hlsz := hb1.size
    have hset := H.out.keep (KeepV.of_below lo hb1 (Nat.le_refl _))
    have hSV : S.Perm (tc.map Tv.x) := hSp
    have hSn : (adrs S).Nodup := ((goodCh_perm hSp).2 hgd).2
    have hSrt := srt_of hSs hSn
    have hlc : tc.length = bc.length := HC.out.len
    have hSl : S.length = bc.length := by rw [hSp.length_eq, List.length_map, hlc]
    have htr' : tr.map Tv.x = delsL S := htr
    have htu' : tu.map Tv.x = upsL S := htu
    have hbrl : br.length = (delsL S).length := by rw [← htr', List.length_map, hvr.len]
    have hbul : bu.length = (upsL S).length := by rw [← htu', List.length_map, hvu.len]
    have hbrn : br.length ≤ 400 := by rw [hbrl]; have := List.length_filter_le (fun u : Sd => u.pow == 0) S; unfold delsL; omega
    have hbun : bu.length ≤ 400 := by rw [hbul]; have := List.length_filter_le (fun u : Sd => !(u.pow == 0)) S; unfold upsL; omega
    have hdelp : (delsL (tc.map Tv.x) = [] ↔ br.length = 0) := by
      have : (delsL S).Perm (delsL (tc.map Tv.x)) := hSp.filter _
      rw [hbrl, this.length_eq, List.length_eq_zero_iff]
    have HGD := Lib.hid hgd; have HVU := Lib.hid hvu; have HVR := Lib.hid hvr; have HSP := Lib.hid hSp; have HSR := Lib.hid hSrt; have HTU := Lib.hid htu'; have HTR := Lib.hid htr'; have HDP := Lib.hid hdelp
    have HS1 := Lib.hid hset; have HB1 := Lib.hid hb1; have HBRL := Lib.hid hbrl; have HBUL := Lib.hid hbul
    have KE := Lib.hid (fun s W => errnew_any s W)
    clear hgd hvu hvr hSp hSrt htu' htr' hdelp hset hb1 hSs htu htr hSn hSV hlc hSl hbrl hbul
    rcases (show (del = false ∧ br.length ≠ 0) ∨ del = true ∨ (del = false ∧ br.length = 0) from by cases del with | true => exact .inr (.inl rfl) | false => exact (Nat.eq_zero_or_pos br.length).elim (fun h => .inr (.inr ⟨rfl, h⟩)) (fun h => .inl ⟨rfl, by omega⟩)) with ⟨rfl, hbr⟩ | hrest
    · have hbr' : (((br.length : Nat) : Int) == 0) = false := beq_eq_false_iff_ne.2 (by omega)
      go_wp2_with (go_at_call 99; refine (KE.out _ _).mono ?_; rintro e w2 ⟨rfl, hb2⟩; have HB2 := Lib.hid hb2; clear hb2)
      (try go_ret)
      rw [HQ.out]
      refine ⟨(HB1.out.trans (HB2.out.mono hlsz)).mono hls, .inr (.inr ⟨by omega, fun hc => ?_, ⟨_, _, rfl⟩, tot, HS1.out.keep (KeepV.of_below lo HB2.out (Nat.le_refl _))⟩)⟩
      rcases hc.2 with h1 | h1
      · cases h1
      · exact hbr (HDP.out.1 h1)
    · have hok : (del = true ∨ delsL (tc.map Tv.x) = []) := hrest.imp id fun h => HDP.out.2 h.2
      have HOK := Lib.hid hok; clear hok
      have hcond : del = true ∨ (del = false ∧ (((br.length : Nat) : Int) == 0) = true) := hrest.imp id fun h => ⟨h.1, by simp [h.2]⟩
      clear hrest
      have h0 : w1.cell? ⟨g, 0, none⟩ = some (.slice A bs.length c) := HS1.out.head.cell 0
      have KN := Lib.hid (numNew_any lo g A c bs ts prop tot same w1 HS1.out (by omega) _ Au cu bu tu HVU.out (by omega))
      rw [HTU.out] at KN
      generalize hnn : ((upsL S).filter (isNewB (ts.map Tv.x))).length = nn at *
      have HNN := Lib.hid hnn; clear hnn
      rcases hcond with rfl | ⟨rfl, hbr0⟩
      all_goals
        go_wp2_with fail
        refine KN.out.mono ?_
        rintro e w2 ⟨rfl, rfl⟩
        by_cases hE : nn = 0 ∧ bs.length = br.length
        · obtain ⟨hE1, hE2⟩ := hE
          subst hE1
          have hq : ((bs.length : Int) == (br.length : Int)) = true := by simp [hE2]
          go_wp2_with (go_at_call 99; refine (KE.out _ _).mono ?_; rintro e w2 ⟨rfl, hb2⟩; have HB2 := Lib.hid hb2; clear hb2)
          (try go_ret)
          rw [HQ.out]
          refine ⟨(HB1.out.trans (HB2.out.mono hlsz)).mono hls, .inr (.inr ⟨by omega, fun hc => ?_, ⟨_, _, rfl⟩, tot, HS1.out.keep (KeepV.of_below lo HB2.out (Nat.le_refl _))⟩)⟩
          have hk := okCh_perm HSP.out.symm hc.1
          exact hk.some_ ⟨HNN.out, by have := HBRL.out; have := H.out.len; rw [List.length_map]; omega⟩
        · have hq : (((nn : Int) == 0) = false) ∨ (((nn : Int) == 0) = true ∧ ((bs.length : Int) == (br.length : Int)) = false) := by
            rcases Nat.eq_zero_or_pos nn with h1 | h1
            · exact .inr ⟨by simp [h1], beq_eq_false_iff_ne.2 (fun e => hE ⟨h1, by omega⟩)⟩
            · exact .inl (beq_eq_false_iff_ne.2 (by omega))
          have HE := Lib.hid hE; clear hE
          have KR := Lib.hid (remov_any lo g A c bs ts prop tot same w1 HS1.out (by omega) _ Ar cr br tr HVR.out (by omega) (fun t ht => by have := HP.out t.x (List.mem_map_of_mem ht); omega) (fun hd => by
            rw [HTR.out] at hd
            have := dels_le hd (adrs_filter _ _ HSR.out.ne)
            rw [← HBRL.out, List.length_map, H.out.len] at this; exact this))
          rw [HTR.out] at KR
          rcases hq with hq | ⟨hq, hq2⟩
          all_goals
            go_wp2_with fail
            refine KR.out.mono ?_
            rintro e w2 ⟨hb2, ⟨hod, rfl⟩ | ⟨hod, pr, v, rfl⟩⟩
            case inr =>
              have HB2 := Lib.hid hb2; clear hb2
              go_wp2
              (try go_ret)
              rw [HQ.out]
              refine ⟨(HB1.out.trans (HB2.out.mono hlsz)).mono hls, .inr (.inr ⟨by omega, fun hc => ?_, ⟨_, _, rfl⟩, tot, HS1.out.keep (KeepV.of_below lo HB2.out (Nat.le_refl _))⟩)⟩
              have hk := okCh_perm HSP.out.symm hc.1
              rw [hk.dels] at hod; cases hod
            case inl =>
              have hs2 := HS1.out.keep (KeepV.of_below lo hb2 (Nat.le_refl _))
              have hvu2 := HVU.out.keep (KeepV.of_below w.heap.size hb2 (Nat.le_refl _))
              have hvr2 := HVR.out.keep (KeepV.of_below w.heap.size hb2 (Nat.le_refl _))
              have hbb2 := HB1.out.trans (hb2.mono hlsz)
              have hrb := remSum_bd (vals := ts.map Tv.x) (fun x hx => by have := HP.out x hx; omega) (delsL S)
              have hG2 : w2.cell? ⟨0, 0, none⟩ = some (.iface T0 v0) := (hbb2.cell (p := ⟨0, 0, none⟩) (by show 0 < _; omega)).trans HG.out
              have hlen2 : (delsL S).length ≤ 400 := by rw [← HBRL.out]; exact hbrn
              have hz2 : 0 < w2.heap.size := by have := hbb2.size; omega
              have KV := Lib.hid (verUpd_any lo g A c bs ts prop tot same w2 hs2 (by omega) HT.out (fun t ht => by have := HP.out t.x (List.mem_map_of_mem ht); omega) _ Au cu bu tu hvu2 (by omega) hAu (fun t ht => by
                have hx : t.x ∈ upsL S := by rw [← HTU.out]; exact List.mem_map_of_mem ht
                exact HGD.out.1 t.x (HSP.out.mem_iff.1 (List.mem_filter.1 hx).1)) (remSum (ts.map Tv.x) (delsL S)) ⟨hrb.1, by omega⟩ T0 v0 hG2 (by omega) hz2)
              rw [HTU.out] at KV
              have HVU2 := Lib.hid hvu2; have HVR2 := Lib.hid hvr2; have HBB2 := Lib.hid hbb2; have HOD := Lib.hid hod; have HRB := Lib.hid hrb
              have hlsz2 := hb2.size
              clear hs2 hvu2 hvr2 hbb2 hod hrb hG2 hb2
              generalize hRR : remSum (ts.map Tv.x) (delsL S) = RR at *
              have HRR := Lib.hid hRR; clear hRR
              go_wp2_with fail
              refine KV.out.mono ?_
              rintro e w3 ⟨hs3, ho3, ⟨hm, rfl⟩ | ⟨hm, rfl⟩⟩
              case inr =>
                have HS3 := Lib.hid hs3; have HO3 := Lib.hid ho3; clear hs3 ho3
                go_wp2
                (try go_ret)
                rw [HQ.out]
                refine ⟨(HBB2.out.mono hls).trans (HO3.out.belowLo (by omega) (by simpa using hlg)), .inr (.inr ⟨by omega, fun hc => ?_, ⟨_, _, rfl⟩, _, HS3.out⟩)⟩
                have hk := (okCh_perm HSP.out.symm hc.1).most
                rw [HRR.out] at hk; omega
              case inl =>
                have hlV : (ts.map Tv.x).length = bs.length := by rw [List.length_map]; exact H.out.len
                have hokS : okCh (ts.map Tv.x) S := ⟨(goodCh_perm HSP.out).2 HGD.out, HOD.out, fun hc => HE.out ⟨by rw [← HNN.out]; exact hc.1, by have h1 := hc.2; rw [hlV] at h1; rw [HBRL.out]; exact h1⟩, by rw [HRR.out]; exact hm⟩
                have hokC := okCh_perm HSP.out hokS
                have hfx : Fx w lo g A c bs (ts.map Tv.x) (tc.map Tv.x) S := ⟨hls, hlg, H.out.head.lt, H.out.low, fun b hb => (H.out.mem_lo hb).2, H.out.vrow.ownLo, hn, by have h1 := HSP.out.length_eq; rw [List.length_map, HC.out.len] at h1; omega, hlV, HP.out, HPR.out, HV.out, HSP.out, HSR.out, hokC⟩
                have hgw := hfx.gw
                have hst3 : S3 w lo g A c bs (ts.map Tv.x) S prop same Au cu bu Ar cr br (upsL S) w3 := ⟨⟨ts, rfl, hs3⟩,
                  ⟨tu, HTU.out, HVU2.out.keepB ho3.bytes fun i hi ho => ho3.block i hi fun e => by
                    rw [List.mem_singleton] at e
                    rcases ho with ho | ho
                    · have := (HVU2.out.ownLo i ho.symm).1; omega
                    · obtain ⟨t, _, hl, _⟩ := HVU2.out.zipmem ho; omega⟩,
                  ⟨tr, HTR.out, HVR2.out.keepB ho3.bytes fun i hi ho => ho3.block i hi fun e => by
                    rw [List.mem_singleton] at e
                    rcases ho with ho | ho
                    · have := (HVR2.out.ownLo i ho.symm).1; omega
                    · obtain ⟨t, _, hl, _⟩ := HVR2.out.zipmem ho; omega⟩,
                  (HBB2.out.mono hls).trans (ho3.belowLo (by omega) (by simpa using hlg))⟩
                have hTK := hfx.tot_pos
                have FX := Lib.hid hfx; have ST3 := Lib.hid hst3; have HOKC := Lib.hid hokC
                clear hlV hokS hokC hfx hst3 hs3 ho3 hm KE KV KR KN KC H HC HP HPR HV HCA HT HG HGD HVU HVR HVU2 HVR2 HBB2 HOD HRB HRR HE HNN HS1 HB1 HBRL HBUL HSP HSR HTU HTR HDP
                go_wp2_with fail
                refine (uw_pris FX.out hbun ST3.out).mono ?_
                rintro e w4 ⟨rfl, st4⟩
                have ST4 := Lib.hid st4; clear st4
                go_wp2_with fail
                refine (uw_app FX.out hbun hAu ST4.out).mono ?_
                rintro e w5 ⟨rfl, st5⟩
                have ST5 := Lib.hid st5; clear st5
                go_wp2_with fail
                refine (uw_rem FX.out hbrn ST5.out).mono ?_
                rintro e w6 ⟨rfl, st6⟩
                have ST6 := Lib.hid st6; clear st6
                go_wp2_with fail
                refine (uw_keys FX.out ST6.out).mono ?_
                rintro e w7 ⟨rfl, st7⟩
                have ST7 := Lib.hid st7; clear st7
                go_wp2_with fail
                refine (uw_tot FX.out ST7.out).mono ?_
                rintro e w8 ⟨rfl, st8⟩
                have hmost := st8.most
                have ST8 := Lib.hid st8; clear st8
                go_wp2_with fail
                refine (uw_power FX.out ST8.out).mono ?_
                rintro e w9 ⟨rfl, rfl⟩
                generalize hKK : totL (keptL (ts.map Tv.x) (tc.map Tv.x)) = TK at *
                have HKK := Lib.hid hKK; clear hKK
                have KRS := Lib.hid (uw_resc FX.out (by rw [HKK.out]; exact ST8.out))
                rw [HKK.out] at KRS
                go_wp2_with fail
                refine KRS.out.mono ?_
                rintro e w9 ⟨rfl, st9⟩
                have KSH := Lib.hid (uw_shift FX.out (by rw [HKK.out]; exact st9))
                rw [HKK.out] at KSH
                clear st9
                go_wp2_with fail
                refine KSH.out.mono ?_
                rintro e w10 ⟨rfl, st10⟩
                obtain ⟨A4, c4, n4, h04, ksr⟩ := uw_sort FX.out (by rw [HKK.out]; exact st10)
                have KSR := Lib.hid ksr
                clear ksr st10
                go_wp2_with fail
                refine KSR.out.mono ?_
                rintro e w11 ⟨rfl, hb11, A5, c5, bs5, ts5, he5, hs5⟩
                have HE5 := Lib.hid he5; have HS5 := Lib.hid hs5; have HB11 := Lib.hid hb11
                clear he5 hs5 hb11
                go_wp2
                (try go_ret)
                rw [HQ.out]
                exact ⟨HB11.out, .inr (.inl ⟨by omega, ⟨HOKC.out, HOK.out⟩, rfl, A5, c5, bs5, ts5, HE5.out, HS5.out⟩)⟩
end Go.Proofs.YtikikddkhikfkaaGreatDoor
