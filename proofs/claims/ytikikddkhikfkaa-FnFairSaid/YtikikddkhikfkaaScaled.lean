/-
  impl.Scaled and spec.Scaled: walks. By the session.
-/
import Derived.Test.YtikikddkhikfkaaResc
import Derived.Test.YtikikddkhikfkaaOurs
import Derived.Test.YtikikddkhikfkaaRank
set_option linter.unusedSimpArgs false
namespace Go.Proofs.Ytikikddkhikfkaa
open Go.RowKit

theorem setOf_span (l : List Sd) (hne : l ≠ []) (hp : ∀ x ∈ l, -1152921504606846976 < x.pri ∧ x.pri < 1152921504606846976) : 0 ≤ spanOf l ∧ spanOf l ≤ 2305843009213693950 := by
  have := span_bd l (-1152921504606846975) 1152921504606846975 (by omega) (by omega) hne (fun s hs => by have := hp s hs; omega)
  omega

set_option maxHeartbeats 1600000 in
theorem iscaled_any (l : List Sd) (A : Option Addr) (n c : Nat) (apart : Int) (w : World) (hr : Rd w w.heap.size 4 A n (cellsOf l)) (hn : n ≤ 1000000) (hn0 : 0 < n) (hp : ∀ x ∈ l, -1152921504606846976 < x.pri ∧ x.pri < 1152921504606846976) (ha : apart ≤ 1152921504606846976) :
    Calls Try.prog 15 #[.slice A n c, .int .i64 apart] w fun e w' => ∃ A' c', e = .returned (.slice A' n c') ∧ Rd w' w'.heap.size 4 A' n (cellsOf (scaleL apart l)) ∧ Below w.heap.size w w' := by
  have hl := hr.len
  have hne : l ≠ [] := by rintro rfl; simp at hl; omega
  obtain ⟨hs1, hs2⟩ := setOf_span l hne hp
  have HC := Lib.hid (seats_any l A n c w hr hn)
  have HL := Lib.hid hl; have HP := Lib.hid hp; clear hr hl hp hne
  have HS1 := Lib.hid hs1; have HS2 := Lib.hid hs2; clear hs1 hs2
  go_enter Try.func15, Try.ntmps15
  go_wp2_with fail
  refine HC.out.mono ?_
  rintro e w1 ⟨A1, c1, ts, rfl, hr1, hm, hok, hb1⟩
  have HM := Lib.hid hm; have HB1 := Lib.hid hb1
  have hC2 := setOf_any ts A1 n c1 w1 hr1 hok hn
  have HC2 := Lib.hid hC2
  clear hr1 hm hok hb1 hC2
  go_wp2_with fail
  refine HC2.out.mono ?_
  rintro e w2 ⟨A2, c2, bs, rfl, hv2, hb2⟩
  have HV2 := Lib.hid hv2; have HB2 := Lib.hid hb2; clear hv2 hb2
  have hbl : bs.length = n := by have h1 := HV2.out.len; have h2 := congrArg List.length HM.out; have h3 := HL.out; simp at h2; omega
  have hC3 := rescale_any w1.heap.size w1.heap.size A2 c2 bs ts _ _ _ apart w2 HV2.out (by omega) (by omega) (by rw [HM.out]; exact HS1.out) (by rw [HM.out]; have := HS2.out; omega) (by omega) (fun t ht => by have := HP.out t.x (by rw [← HM.out]; exact List.mem_map_of_mem ht); omega)
  have HC3 := Lib.hid hC3; have HBL := Lib.hid hbl; clear hC3 hbl
  go_wp2_with fail
  refine HC3.out.mono ?_
  rintro e w3 ⟨rfl, ts', hm', hv3, ho3⟩
  have hb3 := HV2.out.below ho3
  have HB3 := Lib.hid hb3
  rw [HM.out] at hm'
  have HM' := Lib.hid hm'
  have hC4 := ours_any _ _ _ _ _ _ _ _ _ w3 hv3 (by have := HBL.out; omega)
  have HC4 := Lib.hid hC4; clear hv3 ho3 hb3 hm' hC4
  go_wp2_with fail
  refine HC4.out.mono ?_
  rintro e w4 ⟨A4, c4, rfl, hr4, hb4⟩
  rw [HBL.out, HM'.out] at *
  have HR4 := Lib.hid hr4; have HB4 := Lib.hid hb4; clear hr4 hb4
  have z1 := HB1.out.size; have z2 := HB2.out.size; have z3 := HB3.out.size
  go_wp2
  go_ret
  exact ⟨A4, c4, rfl, HR4.out, (((HB1.out.trans (HB2.out.mono z1)).trans (HB3.out.mono z1)).trans (HB4.out.mono (by omega)))⟩

theorem add_zero4 (a : Addr) : a.add (0 * 4) = a := by simp [Addr.add]
/-- the span from the first seat on -/
theorem span_from (s : Sd) (r : List Sd) (hp : ∀ x ∈ s :: r, -1152921504606846976 < x.pri ∧ x.pri < 1152921504606846976) : spanOf (s :: r) = mxf s.pri (prisOf (s :: r)) - mnf s.pri (prisOf (s :: r)) := by
  have h := hp s (List.mem_cons_self ..)
  have e1 : mxf (-9223372036854775808) (prisOf (s :: r)) = mxf s.pri (prisOf (s :: r)) := by
    simp only [mxf, prisOf, List.map_cons, List.foldl_cons]
    congr 1
    split <;> split <;> omega
  have e2 : mnf 9223372036854775807 (prisOf (s :: r)) = mnf s.pri (prisOf (s :: r)) := by
    simp only [mnf, prisOf, List.map_cons, List.foldl_cons]
    congr 1
    split <;> split <;> omega
  unfold spanOf
  rw [e1, e2]

set_option maxRecDepth 100000 in
set_option maxHeartbeats 3200000 in
theorem sscaled_any (l : List Sd) (A : Option Addr) (n c : Nat) (apart : Int) (w : World) (hr : Rd w w.heap.size 4 A n (cellsOf l)) (hn : n ≤ 1000000) (hn0 : 0 < n) (hp : ∀ x ∈ l, -1152921504606846976 < x.pri ∧ x.pri < 1152921504606846976) (ha : apart ≤ 1152921504606846976) :
    Calls Try.prog 17 #[.slice A n c, .int .i64 apart] w fun e w' => ∃ A' c', e = .returned (.slice A' n c') ∧ Rd w' w'.heap.size 4 A' n (cellsOf (scaleL apart l)) ∧ Below w.heap.size w w' := by
  obtain ⟨i0, hi, hz0, hz1, hz2⟩ := info_parts infoSeat
  have HI := Lib.hid hi; have HZ0 := Lib.hid hz0; have HZ1 := Lib.hid hz1; have HZ2 := Lib.hid hz2
  clear hi hz0 hz1 hz2
  have HL := Lib.hid hr.len
  have HR := Lib.hid hr; clear hr
  have HP := Lib.hid hp; clear hp
  by_cases ha0 : apart ≤ 0
  · have hsc : scaleL apart l = l := by unfold scaleL; rw [if_pos ha0]
    have HSC := Lib.hid hsc; clear hsc
    go_enter Try.func17, Try.ntmps17
    go_wp2_with (at_builtin; refine wpList_app w rfl (.const (.slice none 0 0)) (.tmp 13) 41 rfl w.heap.size 49 i0 _ 4 48 Try.underlying41 HI.out HZ0.out HZ1.out HZ2.out rfl (by decide) (.slice none 0 0) 0 [] rfl (World.ownsRow_nil w w.heap.size _ _) w.heap.size A n c (cellsOf l) rfl HR.out (cellsOf_one l) ?q1 ?q2 (Nat.le_refl _) ?_; (case q1 => simp only [maxLen]; omega); (case q2 => omega); intro A1 c1 w1 hown hg _; simp only [Nat.zero_add, List.nil_append] at hown; have HO := Lib.hid hown; have HB := Lib.hid ((Below.refl w.heap.size w).grown hg (Nat.le_refl _) (by simp [Value.ownBlock])); clear hown hg)
    go_ret
    rw [HSC.out]
    exact ⟨A1, c1, rfl, Rd.of_own HO.out, HB.out⟩
  · have hz : ((n : Int) == 0) = false := by simp; omega
    obtain ⟨s0, r, hl⟩ : ∃ s0 r, l = s0 :: r := by
      cases l with
      | nil => have := HL.out; simp at this; omega
      | cons a b => exact ⟨a, b, rfl⟩
    have hsp := span_from s0 r (by rw [← hl]; exact HP.out)
    obtain ⟨ad, rfl, hadb, c0, c1', c2', c3⟩ := HR.out.seat (k := 0) (x := s0) (by rw [hl]; rfl)
    clear c0 c1' c2'
    rw [add_zero4 ad] at c3
    rw [← hl] at hsp
    have HSP := Lib.hid hsp; have HLL := Lib.hid hl; clear hsp hl
    go_enter Try.func17, Try.ntmps17
    go_wp2_with (at_builtin; refine wpList_app w rfl (.const (.slice none 0 0)) (.tmp 13) 41 rfl w.heap.size 49 i0 _ 4 48 Try.underlying41 HI.out HZ0.out HZ1.out HZ2.out rfl (by decide) (.slice none 0 0) 0 [] rfl (World.ownsRow_nil w w.heap.size _ _) w.heap.size (some ad) n c (cellsOf l) rfl HR.out (cellsOf_one l) ?q1 ?q2 (Nat.le_refl _) ?_; (case q1 => simp only [maxLen]; omega); (case q2 => omega); intro A1 c1 w1 hown hg _; simp only [Nat.zero_add, List.nil_append] at hown; have HO := Lib.hid hown; have hbb := ((Below.refl w.heap.size w).grown hg (Nat.le_refl _) (by simp [Value.ownBlock])); have HB := Lib.hid hbb; have d3 := (hbb.cell (p := ⟨ad.block, ad.off + 3, none⟩) hadb).trans c3; clear hown hg hbb)
    go_quiet (fail)
    go_wp2
    have HD := Lib.hid d3; clear d3 c3
    go_loopw [6, 7, 33] (fun a b i wr => ∃ k : Nat, k ≤ n ∧ i = .int .i64 k ∧ a = .int .i64 (mnf s0.pri ((prisOf l).take k)) ∧ b = .int .i64 (mxf s0.pri ((prisOf l).take k)) ∧ Hid (Below w1.heap.size w1 wr)) (fun _ _ i _ => n - (intOf i).toNat)
    case atStart => exact ⟨0, Nat.zero_le _, rfl, rfl, rfl, below_drewN (Below.refl _ _) _⟩
    case round =>
      obtain ⟨k, hk, rfl, rfl, rfl, HG⟩ := hrel
      by_cases hlt : k < n
      · have hk' : k < l.length := by have := HL.out; omega
        have hx : l[k]? = some l[k] := List.getElem?_eq_getElem hk'
        have hrr : Rd wr w.heap.size 4 (some ad) n (cellsOf l) := (HR.out.below HB.out).belowN HG.out HB.out.size
        obtain ⟨ad', h', _, e0, e1, e2, e3⟩ := hrr.seat hx
        obtain rfl := Option.some.inj h'
        have hpx := HP.out _ (List.getElem_mem hk')
        have hst : (prisOf l).take (k + 1) = (prisOf l).take k ++ [l[k].pri] := by
          have hl2 : k < (prisOf l).length := by simpa [prisOf] using hk'
          rw [List.take_succ_eq_append_getElem hl2]; simp [prisOf]
        generalize l[k] = x at *
        have ha := mxf_snoc s0.pri ((prisOf l).take k) x.pri
        have hb2 := mnf_snoc s0.pri ((prisOf l).take k) x.pri
        rw [← hst] at ha hb2
        have HA := Lib.hid ha; have HB2 := Lib.hid hb2; have HX := Lib.hid hx
        clear ha hb2 hst hx h' hrr
        generalize mxf s0.pri ((prisOf l).take k) = mx at *
        generalize mnf s0.pri ((prisOf l).take k) = mn at *
        go_wp2
        go_region
        go_wp2
        go_roundw
        case rel => exact ⟨k + 1, by omega, by go_num, by rw [HB2.out], by rw [HA.out], ((HG.out.alloc HG.out.size _).drew)⟩
        case measure => simp [intOf]; omega
      · obtain rfl : k = n := by omega
        have hll : (prisOf l).length ≤ k := by have := HL.out; simp [prisOf]; omega
        rw [List.take_of_length_le hll]
        obtain ⟨hs1, hs2⟩ := setOf_span l (by rw [HLL.out]; simp) HP.out
        have hsc : scaleL apart l = if apart < spanOf l then l.map (divP ((spanOf l + apart - 1) / apart)) else l := by unfold scaleL; rw [if_neg (by omega)]
        have HSC := Lib.hid hsc; clear hsc
        rw [HSP.out] at hs1 hs2 HSC
        generalize mxf s0.pri (prisOf l) = mx at *
        generalize mnf s0.pri (prisOf l) = mn at *
        have hown := own_below HO.out HG.out (Nat.le_refl _)
        have HO1 := Lib.hid hown; clear hown HO hll
        have hbw := HB.out.trans (HG.out.mono HB.out.size)
        have HBW := Lib.hid hbw; clear hbw
        have hneg : decide (mx - mn < 0) = false := by simp; omega
        by_cases hlt : apart < mx - mn
        · have hdv : (mx - mn - 1).tdiv apart = (mx - mn - 1) / apart := Int.tdiv_eq_ediv_of_nonneg (by omega)
          have hq0 : 0 ≤ (mx - mn - 1) / apart := Int.ediv_nonneg (by omega) (by omega)
          have hq1 : (mx - mn - 1) / apart ≤ mx - mn - 1 := Int.ediv_le_self _ (by omega)
          have heq : (mx - mn + apart - 1) / apart = (mx - mn - 1) / apart + 1 := by
            rw [show mx - mn + apart - 1 = (mx - mn - 1) + apart by omega, Int.add_ediv_of_dvd_right (Int.dvd_refl _), Int.ediv_self (by omega)]
          rw [if_pos hlt, heq] at HSC
          have HDV := Lib.hid hdv; clear hdv heq
          have hr1 : 1 ≤ (mx - mn - 1) / apart + 1 := by omega
          go_wp2
          generalize (mx - mn - 1) / apart + 1 = by_ at *
          go_loopw [61] (fun i wx => ∃ j : Nat, j ≤ k ∧ i = .int .i64 j ∧ Hid (wx.ownsRow w.heap.size 49 4 (.slice A1 k c1) k (cellsOf (mapTo (divP by_) l j))) ∧ Hid (Below w.heap.size w wx)) (fun i _ => k - (intOf i).toNat)
          case atStart => exact ⟨0, Nat.zero_le _, rfl, by rw [mapTo_zero]; exact HO1.out, HBW.out⟩
          case round =>
            obtain ⟨j, hj, rfl, HO2, HB2⟩ := hrel
            by_cases hjk : j < k
            · have hjl : j < l.length := by have := HL.out; omega
              have hx : l[j]? = some l[j] := List.getElem?_eq_getElem hjl
              have hx' := mapTo_get (divP by_) l j _ hx
              have hsu := mapTo_succ (divP by_) l j _ hx
              have hpx := HP.out _ (List.getElem_mem hjl)
              generalize l[j] = x at *
              obtain ⟨g, cap, hv, hg0, hg1⟩ := HO2.out.form (by omega)
              have e1 : A1 = some ⟨g, 0, none⟩ := by injection hv
              subst e1
              clear hv
              obtain ⟨x0, x1, x2, x3⟩ := own_seat HO2.out hx'
              have hf := own_free HO2.out
              have hq : wrap64 (x.pri.tdiv by_) = x.pri.tdiv by_ := by
                have h1 : (x.pri.tdiv by_).natAbs ≤ x.pri.natAbs := by rw [Int.natAbs_tdiv]; exact Nat.div_le_self _ _
                unfold wrap64; omega
              have hset := own_pri (q := x.pri.tdiv by_) HO2.out hx'
              have e2 : (mapTo (divP by_) l j).set j { x with pri := x.pri.tdiv by_ } = mapTo (divP by_) l (j + 1) := hsu
              rw [e2] at hset
              have HSET := Lib.hid hset; clear hset e2 hsu x0 x1 x2 hx hx'
              go_wp2
              go_roundw
              case rel => exact ⟨j + 1, by omega, by go_num, HSET.out, HB2.out.setCell (p := ⟨g, j * 4 + 3, none⟩) hg0 _⟩
              case measure => simp [intOf]; omega
            · have hfin := HO2.out
              rw [mapTo_full _ _ _ (by have := HL.out; omega)] at hfin
              have HF := Lib.hid (Rd.of_own hfin); clear hfin
              go_wp2
              go_ret
              rw [HSC.out]
              exact ⟨A1, c1, rfl, HF.out, HB2.out⟩
        · rw [if_neg hlt] at HSC
          go_wp2
          go_ret
          rw [HSC.out]
          exact ⟨A1, ⟨c1, rfl⟩, Rd.of_own HO1.out, HBW.out⟩
  
end Go.Proofs.Ytikikddkhikfkaa
