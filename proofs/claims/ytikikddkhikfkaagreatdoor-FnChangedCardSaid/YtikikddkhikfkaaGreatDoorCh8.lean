/-
  spec.Total, spec.Turned where only the power of all is bounded. Printed by gen_wide.py out of XSpec1, XSTurned. By the session. updateWithChangeSet: the calls of its second half, each as a step between states. By the session.
-/
import Derived.Test.YtikikddkhikfkaaGreatDoorCh7
import Derived.Test.YtikikddkhikfkaaGreatDoorCh6
set_option linter.all false
namespace Go.Proofs.YtikikddkhikfkaaGreatDoor
open Go.RowKit

structure turnableW (l : List Sd) : Prop where
  ne : l ≠ []
  len : l.length ≤ 500
  dist : distinct l
  pri : ∀ x ∈ l, -1152921504606846976 < x.pri ∧ x.pri < 1152921504606846976
  pow : ∀ x ∈ l, 1 ≤ x.pow
  tot : totL l ≤ 1152921504606846975
set_option maxRecDepth 100000 in
set_option maxHeartbeats 6400000 in
theorem setOf_spanW (l : List Sd) (hne : l ≠ []) (hp : ∀ x ∈ l, -2305843009213693952 < x.pri ∧ x.pri < 2305843009213693952) : 0 ≤ spanOf l ∧ spanOf l ≤ 4611686018427387902 := by
  have := span_bd l (-2305843009213693951) 2305843009213693951 (by omega) (by omega) hne (fun s hs => by have := hp s hs; omega)
  omega
set_option maxRecDepth 100000 in
set_option maxHeartbeats 6400000 in
theorem span_fromW (s : Sd) (r : List Sd) (hp : ∀ x ∈ s :: r, -2305843009213693952 < x.pri ∧ x.pri < 2305843009213693952) : spanOf (s :: r) = mxf s.pri (prisOf (s :: r)) - mnf s.pri (prisOf (s :: r)) := by
  have h := hp s (List.mem_cons_self ..)
  have e1 : mxf (-9223372036854775808) (prisOf (s :: r)) = mxf s.pri (prisOf (s :: r)) := by
    simp only [mxf, prisOf, List.map_cons, List.foldl_cons]
    congr 1
    split <;> split <;> omega
  have e2 : mnf 9223372036854775807 (prisOf (s :: r)) = mnf s.pri (prisOf (s :: r)) := by
    simp only [mnf, prisOf, List.map_cons, List.foldl_cons]
    congr 1
    split <;> split <;> omega
  unfold spanOf
  rw [e1, e2]
set_option maxRecDepth 100000 in
set_option maxHeartbeats 6400000 in
theorem sscaledW_any (l : List Sd) (A : Option Addr) (n c : Nat) (apart : Int) (w : World) (hr : Rd w w.heap.size 4 A n (cellsOf l)) (hn : n ≤ 1000000) (hn0 : 0 < n) (hp : ∀ x ∈ l, -2305843009213693952 < x.pri ∧ x.pri < 2305843009213693952) (ha : apart ≤ 2305843009213693952) :
    Calls Tryz.prog 40 #[.slice A n c, .int .i64 apart] w fun e w' => ∃ A' c', e = .returned (.slice A' n c') ∧ Rd w' w'.heap.size 4 A' n (cellsOf (scaleL apart l)) ∧ Below w.heap.size w w' := by
  obtain ⟨i0, hi, hz0, hz1, hz2⟩ := info_parts infoSeat
  have HI := Lib.hid hi; have HZ0 := Lib.hid hz0; have HZ1 := Lib.hid hz1; have HZ2 := Lib.hid hz2
  clear hi hz0 hz1 hz2
  have HL := Lib.hid hr.len
  have HR := Lib.hid hr; clear hr
  have HP := Lib.hid hp; clear hp
  by_cases ha0 : apart ≤ 0
  · have hsc : scaleL apart l = l := by unfold scaleL; rw [if_pos ha0]
    have HSC := Lib.hid hsc; clear hsc
    go_enter Tryz.func40, Tryz.ntmps40
    go_wp2_with (at_builtin; refine wpList_app w rfl (.const (.slice none 0 0)) (.tmp 13) 24 rfl w.heap.size 57 i0 _ 4 48 Tryz.underlying24 HI.out HZ0.out HZ1.out HZ2.out rfl (by decide) (.slice none 0 0) 0 [] rfl (World.ownsRow_nil w w.heap.size _ _) w.heap.size A n c (cellsOf l) rfl HR.out (cellsOf_one l) ?q1 ?q2 (Nat.le_refl _) ?_; (case q1 => simp only [maxLen]; omega); (case q2 => omega); intro A1 c1 w1 hown hg _; simp only [Nat.zero_add, List.nil_append] at hown; have HO := Lib.hid hown; have HB := Lib.hid ((Below.refl w.heap.size w).grown hg (Nat.le_refl _) (by simp [Value.ownBlock])); clear hown hg)
    go_ret
    rw [HSC.out]
    exact ⟨A1, c1, rfl, Rd.of_own HO.out, HB.out⟩
  · have hz : ((n : Int) == 0) = false := by simp; omega
    obtain ⟨s0, r, hl⟩ : ∃ s0 r, l = s0 :: r := by
      cases l with
      | nil => have := HL.out; simp at this; omega
      | cons a b => exact ⟨a, b, rfl⟩
    have hsp := span_fromW s0 r (by rw [← hl]; exact HP.out)
    obtain ⟨ad, rfl, hadb, c0, c1', c2', c3⟩ := HR.out.seat (k := 0) (x := s0) (by rw [hl]; rfl)
    clear c0 c1' c2'
    rw [add_zero4 ad] at c3
    rw [← hl] at hsp
    have HSP := Lib.hid hsp; have HLL := Lib.hid hl; clear hsp hl
    go_enter Tryz.func40, Tryz.ntmps40
    go_wp2_with (at_builtin; refine wpList_app w rfl (.const (.slice none 0 0)) (.tmp 13) 24 rfl w.heap.size 57 i0 _ 4 48 Tryz.underlying24 HI.out HZ0.out HZ1.out HZ2.out rfl (by decide) (.slice none 0 0) 0 [] rfl (World.ownsRow_nil w w.heap.size _ _) w.heap.size (some ad) n c (cellsOf l) rfl HR.out (cellsOf_one l) ?q1 ?q2 (Nat.le_refl _) ?_; (case q1 => simp only [maxLen]; omega); (case q2 => omega); intro A1 c1 w1 hown hg _; simp only [Nat.zero_add, List.nil_append] at hown; have HO := Lib.hid hown; have hbb := ((Below.refl w.heap.size w).grown hg (Nat.le_refl _) (by simp [Value.ownBlock])); have HB := Lib.hid hbb; have d3 := (hbb.cell (p := ⟨ad.block, ad.off + 3, none⟩) hadb).trans c3; clear hown hg hbb)
    go_quiet (fail)
    go_wp2
    have HD := Lib.hid d3; clear d3 c3
    go_loopw [6, 7, 33] (fun a b i wr => ∃ k : Nat, k ≤ n ∧ i = .int .i64 k ∧ a = .int .i64 (mnf s0.pri ((prisOf l).take k)) ∧ b = .int .i64 (mxf s0.pri ((prisOf l).take k)) ∧ Hid (Below w1.heap.size w1 wr)) (fun _ _ i _ => n - (intOf i).toNat)
    case atStart => exact ⟨0, Nat.zero_le _, rfl, rfl, rfl, below_drewN (Below.refl _ _) _⟩
    case round =>
      obtain ⟨k, hk, rfl, rfl, rfl, HG⟩ := hrel
      by_cases hlt : k < n
      · have hk' : k < l.length := by have := HL.out; omega
        have hx : l[k]? = some l[k] := List.getElem?_eq_getElem hk'
        have hrr : Rd wr w.heap.size 4 (some ad) n (cellsOf l) := (HR.out.below HB.out).belowN HG.out HB.out.size
        obtain ⟨ad', h', _, e0, e1, e2, e3⟩ := hrr.seat hx
        obtain rfl := Option.some.inj h'
        have hpx := HP.out _ (List.getElem_mem hk')
        have hst : (prisOf l).take (k + 1) = (prisOf l).take k ++ [l[k].pri] := by
          have hl2 : k < (prisOf l).length := by simpa [prisOf] using hk'
          rw [List.take_succ_eq_append_getElem hl2]; simp [prisOf]
        generalize l[k] = x at *
        have ha := mxf_snoc s0.pri ((prisOf l).take k) x.pri
        have hb2 := mnf_snoc s0.pri ((prisOf l).take k) x.pri
        rw [← hst] at ha hb2
        have HA := Lib.hid ha; have HB2 := Lib.hid hb2; have HX := Lib.hid hx
        clear ha hb2 hst hx h' hrr
        generalize mxf s0.pri ((prisOf l).take k) = mx at *
        generalize mnf s0.pri ((prisOf l).take k) = mn at *
        go_wp2
        go_region
        go_wp2
        go_roundw
        case rel => exact ⟨k + 1, by omega, by go_num, by rw [HB2.out], by rw [HA.out], ((HG.out.alloc HG.out.size _).drew)⟩
        case measure => simp [intOf]; omega
      · obtain rfl : k = n := by omega
        have hll : (prisOf l).length ≤ k := by have := HL.out; simp [prisOf]; omega
        rw [List.take_of_length_le hll]
        obtain ⟨hs1, hs2⟩ := setOf_spanW l (by rw [HLL.out]; simp) HP.out
        have hsc : scaleL apart l = if apart < spanOf l then l.map (divP ((spanOf l + apart - 1) / apart)) else l := by unfold scaleL; rw [if_neg (by omega)]
        have HSC := Lib.hid hsc; clear hsc
        rw [HSP.out] at hs1 hs2 HSC
        generalize mxf s0.pri (prisOf l) = mx at *
        generalize mnf s0.pri (prisOf l) = mn at *
        have hown := own_below HO.out HG.out (Nat.le_refl _)
        have HO1 := Lib.hid hown; clear hown HO hll
        have hbw := HB.out.trans (HG.out.mono HB.out.size)
        have HBW := Lib.hid hbw; clear hbw
        have hneg : decide (mx - mn < 0) = false := by simp; omega
        by_cases hlt : apart < mx - mn
        · have hdv : (mx - mn - 1).tdiv apart = (mx - mn - 1) / apart := Int.tdiv_eq_ediv_of_nonneg (by omega)
          have hq0 : 0 ≤ (mx - mn - 1) / apart := Int.ediv_nonneg (by omega) (by omega)
          have hq1 : (mx - mn - 1) / apart ≤ mx - mn - 1 := Int.ediv_le_self _ (by omega)
          have heq : (mx - mn + apart - 1) / apart = (mx - mn - 1) / apart + 1 := by
            rw [show mx - mn + apart - 1 = (mx - mn - 1) + apart by omega, Int.add_ediv_of_dvd_right (Int.dvd_refl _), Int.ediv_self (by omega)]
          rw [if_pos hlt, heq] at HSC
          have HDV := Lib.hid hdv; clear hdv heq
          have hr1 : 1 ≤ (mx - mn - 1) / apart + 1 := by omega
          go_wp2
          generalize (mx - mn - 1) / apart + 1 = by_ at *
          go_loopw [61] (fun i wx => ∃ j : Nat, j ≤ k ∧ i = .int .i64 j ∧ Hid (wx.ownsRow w.heap.size 57 4 (.slice A1 k c1) k (cellsOf (mapTo (divP by_) l j))) ∧ Hid (Below w.heap.size w wx)) (fun i _ => k - (intOf i).toNat)
          case atStart => exact ⟨0, Nat.zero_le _, rfl, by rw [mapTo_zero]; exact HO1.out, HBW.out⟩
          case round =>
            obtain ⟨j, hj, rfl, HO2, HB2⟩ := hrel
            by_cases hjk : j < k
            · have hjl : j < l.length := by have := HL.out; omega
              have hx : l[j]? = some l[j] := List.getElem?_eq_getElem hjl
              have hx' := mapTo_get (divP by_) l j _ hx
              have hsu := mapTo_succ (divP by_) l j _ hx
              have hpx := HP.out _ (List.getElem_mem hjl)
              generalize l[j] = x at *
              obtain ⟨g, cap, hv, hg0, hg1⟩ := HO2.out.form (by omega)
              have e1 : A1 = some ⟨g, 0, none⟩ := by injection hv
              subst e1
              clear hv
              obtain ⟨x0, x1, x2, x3⟩ := own_seat HO2.out hx'
              have hf := own_free HO2.out
              have hq : wrap64 (x.pri.tdiv by_) = x.pri.tdiv by_ := by
                have h1 : (x.pri.tdiv by_).natAbs ≤ x.pri.natAbs := by rw [Int.natAbs_tdiv]; exact Nat.div_le_self _ _
                unfold wrap64; omega
              have hset := own_pri (q := x.pri.tdiv by_) HO2.out hx'
              have e2 : (mapTo (divP by_) l j).set j { x with pri := x.pri.tdiv by_ } = mapTo (divP by_) l (j + 1) := hsu
              rw [e2] at hset
              have HSET := Lib.hid hset; clear hset e2 hsu x0 x1 x2 hx hx'
              go_wp2
              go_roundw
              case rel => exact ⟨j + 1, by omega, by go_num, HSET.out, HB2.out.setCell (p := ⟨g, j * 4 + 3, none⟩) hg0 _⟩
              case measure => simp [intOf]; omega
            · have hfin := HO2.out
              rw [mapTo_full _ _ _ (by have := HL.out; omega)] at hfin
              have HF := Lib.hid (Rd.of_own hfin); clear hfin
              go_wp2
              go_ret
              rw [HSC.out]
              exact ⟨A1, c1, rfl, HF.out, HB2.out⟩
        · rw [if_neg hlt] at HSC
          go_wp2
          go_ret
          rw [HSC.out]
          exact ⟨A1, ⟨c1, rfl⟩, Rd.of_own HO1.out, HBW.out⟩
  
set_option maxRecDepth 100000 in
set_option maxHeartbeats 6400000 in
theorem stotalW_any (l : List Sd) (A : Option Addr) (n c : Nat) (w : World) (hr : Rd w w.heap.size 4 A n (cellsOf l)) (hn : n ≤ 1000) (hp : ∀ x ∈ l, 0 ≤ x.pow) (hT : totL l ≤ 1152921504606846975) :
    Calls Tryz.prog 38 #[.slice A n c] w fun e w' => e = .returned (.int .i64 (totL l)) ∧ Below w.heap.size w w' := by
  have HL := Lib.hid hr.len
  have HR := Lib.hid hr; have HP := Lib.hid hp; clear hr hp
  go_enter Tryz.func38, Tryz.ntmps38
  go_wp2
  go_loopw [3, 8] (fun s i wr => ∃ k : Nat, k ≤ n ∧ i = .int .i64 k ∧ s = .int .i64 (sumI ((powsOf l).take k)) ∧ Hid (Below w.heap.size w wr)) (fun _ i _ => n - (intOf i).toNat)
  case atStart => exact ⟨0, Nat.zero_le _, rfl, rfl, Below.refl _ _⟩
  case round =>
    obtain ⟨k, hk, rfl, rfl, HB⟩ := hrel
    by_cases hlt : k < n
    · have hk' : k < l.length := by have := HL.out; omega
      have hx : l[k]? = some l[k] := List.getElem?_eq_getElem hk'
      obtain ⟨ad, rfl, _, c0, c1, c2, c3⟩ := (HR.out.below HB.out).seat hx
      have hpx := HP.out _ (List.getElem_mem hk')
      have hst : (powsOf l).take (k + 1) = (powsOf l).take k ++ [l[k].pow] := by
        have hl2 : k < (powsOf l).length := by simpa [powsOf] using hk'
        rw [List.take_succ_eq_append_getElem hl2]; simp [powsOf]
      have hbd := sumI_part (powsOf l) (fun x hx => by
        obtain ⟨s, hs, rfl⟩ := List.mem_map.1 hx
        exact HP.out s hs) k l[k].pow (by rw [powsOf, List.getElem?_map, hx]; rfl)
      rw [show sumI (powsOf l) = totL l from rfl] at hbd
      generalize l[k] = x at *
      have hs := sumI_snoc ((powsOf l).take k) x.pow
      rw [← hst] at hs
      generalize sumI ((powsOf l).take k) = s at *
      have HS := Lib.hid hs; clear hs hst hx
      go_wp2
      go_roundw
      case rel => exact ⟨k + 1, by omega, by go_num, by rw [HS.out], HB.out.alloc HB.out.size _⟩
      case measure => simp [intOf]; omega
    · obtain rfl : k = n := by omega
      have hsum : sumI ((powsOf l).take k) = totL l := by
        unfold totL; rw [List.take_of_length_le (by have := HL.out; simp [powsOf]; omega)]
      rw [hsum]
      clear hsum
      go_wp2
      go_ret
      exact ⟨rfl, HB.out⟩
set_option maxRecDepth 100000 in
set_option maxHeartbeats 6400000 in
theorem sturnedW_any (l : List Sd) (A : Option Addr) (n c times : Nat) (w : World) (hr : Rd w w.heap.size 4 A n (cellsOf l)) (hl : turnableW l) (htm : 0 < times) (htm2 : times ≤ 100000) :
    Calls Tryz.prog 45 #[.slice A n c, .int .i64 times] w fun e w' => ∃ A' c', e = .returned (.tuple #[.slice A' n c', .string (nextP (turnsL (totL l) (times - 1) (startL l)))]) ∧ Rd w' w'.heap.size 4 A' n (cellsOf (turnsL (totL l) times (startL l))) ∧ Below w.heap.size w w' := by
  have hln := hr.len
  have hn : n ≤ 500 := by have := hl.len; omega
  have hn0 : 0 < n := by have := List.length_pos_iff.2 hl.ne; omega
  have hT := totL_one l hl.pow
  rw [← hln] at hT
  have hTT := hl.tot
  have hpwt := pow_tot l (fun x hx => by have := hl.pow x hx; omega)
  have hspri := scaleL_pri (2 * totL l) l 1152921504606846976 (fun s hs => by have := hl.pri s hs; omega)
  have hcore : ∀ k, (turnsL (totL l) k (startL l)).map core = l.map core := fun k => (turnsL_core _ _ k).trans (startL_core _)
  have hgin := turnsL_in (totL l) _ (startL_in l)
  have hpow : ∀ k, ∀ s ∈ turnsL (totL l) k (startL l), in64 s.pow := fun k => pow_of_core (p := in64) (hcore k) (fun s hs => by have := hl.pow s hs; have := hpwt s hs; unfold in64; omega)
  have hdist : ∀ k, distinct (turnsL (totL l) k (startL l)) := fun k => distinct_of_core (hcore k) hl.dist
  have hlens : ∀ k, (turnsL (totL l) k (startL l)).length = n := fun k => by rw [length_of_core (hcore k)]; exact hln.symm
  have KT := Lib.hid (stotalW_any l A n c w hr (by omega) (fun x hx => by have := hl.pow x hx; omega) hl.tot)
  have hst : startL l = shiftL (scaleL (2 * totL l) l) := rfl
  have HST := Lib.hid hst; have HL := Lib.hid hln; have HR := Lib.hid hr; have HTN := Lib.hid hl; have HSP := Lib.hid hspri; have HGI := Lib.hid hgin; have HPW := Lib.hid hpow; have HDI := Lib.hid hdist; have HLN := Lib.hid hlens
  clear hst hln hr hl hspri hgin hpow hdist hlens hcore hpwt
  generalize totL l = T at *
  go_enter Tryz.func45, Tryz.ntmps45
  go_wp2_with fail
  refine KT.out.mono ?_
  rintro e w1 ⟨rfl, hb1⟩
  have HB1 := Lib.hid hb1; clear hb1
  have KS := Lib.hid (sscaledW_any l A n c (2 * T) w1 ((HR.out.below HB1.out).more HB1.out.size) (by omega) hn0 (fun x hx => by have := HTN.out.pri x hx; omega) (by omega))
  go_wp2_with fail
  refine KS.out.mono ?_
  rintro e w2 ⟨A2, c2, rfl, hr2, hb2⟩
  have HB2 := Lib.hid (HB1.out.trans (hb2.mono HB1.out.size))
  have KH := Lib.hid (shifted_any _ A2 n c2 w2 hr2 (by omega) hn0 (fun x hx => by have := HSP.out x hx; omega))
  rw [← HST.out] at KH
  clear hr2 hb2
  go_wp2_with fail
  refine KH.out.mono ?_
  rintro e w3 ⟨A1, c1, rfl, ho3, hb3⟩
  have HO3 := Lib.hid ho3; have HB3 := Lib.hid hb3; clear ho3 hb3
  have z2 := HB2.out.size
  go_wp2
  go_loopw [8, 19] (fun p i wr => ∃ k : Nat, k ≤ times ∧ i = .int .i64 k ∧ Hid (wr.ownsRow w2.heap.size 57 4 (.slice A1 n c1) n (cellsOf (turnsL T k (startL l)))) ∧ Hid (Below w2.heap.size w2 wr) ∧ Hid (k ≠ 0 → p = .string (nextP (turnsL T (k - 1) (startL l))))) (fun _ i _ => times - (intOf i).toNat)
  case atStart => exact ⟨0, Nat.zero_le _, rfl, HO3.out, HB3.out, fun h => absurd rfl h⟩
  case round =>
    obtain ⟨k, hk, rfl, HO, HB, HPR⟩ := hrel
    by_cases hlt : k < times
    · have hgi := HGI.out k; have hpw := HPW.out k; have hdi := HDI.out k; have hle := HLN.out k
      have hnx : turnsL T (k + 1) (startL l) = turnOf T (turnsL T k (startL l)) := rfl
      have hnp : Hid (k + 1 ≠ 0 → Value.string (nextP (turnsL T k (startL l))) = .string (nextP (turnsL T (k + 1 - 1) (startL l)))) := Lib.hid fun _ => rfl
      have HNX := Lib.hid hnx; clear hnx HPR
      have hnp2 : ∀ b, b = nextP (turnsL T k (startL l)) → Hid (k + 1 ≠ 0 → Value.string b = .string (nextP (turnsL T (k + 1 - 1) (startL l)))) := fun b e => by rw [e]; exact hnp
      have HNP := Lib.hid hnp2; clear hnp hnp2
      generalize turnsL T k (startL l) = m at *
      obtain ⟨g, cap, hv, hg0, hg1⟩ := HO.out.form (by omega)
      have e1 : A1 = some ⟨g, 0, none⟩ := by injection hv
      subst e1
      clear hv
      have HGM := Lib.hid hgi; have HPM := Lib.hid hpw; have HDM := Lib.hid hdi; have HLM := Lib.hid hle
      clear hgi hpw hdi hle
      go_wp2
      go_loopw [23] (fun i wx => ∃ j : Nat, j ≤ n ∧ i = .int .i64 j ∧ Hid (wx.ownsRow w2.heap.size 57 4 (.slice (some ⟨g, 0, none⟩) n c1) n (cellsOf (mapTo addP m j))) ∧ Hid (Below w2.heap.size w2 wx)) (fun i _ => n - (intOf i).toNat)
      case atStart => exact ⟨0, Nat.zero_le _, rfl, by rw [mapTo_zero]; exact HO.out, HB.out⟩
      case round =>
        obtain ⟨j, hj, rfl, HO4, HB4⟩ := hrel
        by_cases hjk : j < n
        · have hjl : j < m.length := by have := HLM.out; omega
          have hx : m[j]? = some m[j] := List.getElem?_eq_getElem hjl
          have hx' := mapTo_get addP m j _ hx
          have hgx := HGM.out _ (List.getElem_mem hjl)
          have hpx := HPM.out _ (List.getElem_mem hjl)
          have hsu := addP_mid m j _ hx
          generalize m[j] = x at *
          obtain ⟨x0, x1, x2, x3⟩ := own_seat HO4.out hx'
          have hf := own_free HO4.out
          have hset : ∀ q, ((wr.drewN q).setCell ⟨g, j * 4 + 3, none⟩ (.int .i64 (clip (x.pri + x.pow)))).ownsRow w2.heap.size 57 4 (.slice (some ⟨g, 0, none⟩) n c1) n (cellsOf (mapTo addP m (j + 1))) := fun q => by
            have h1 := own_pri (q := clip (x.pri + x.pow)) (own_drewN HO4.out q) hx'
            rw [hsu] at h1
            exact h1
          have KP := Lib.hid (fun W => plus_any x.pri x.pow W hgx hpx)
          have HSET := Lib.hid hset; clear hset hsu x0 x1 hx hx' hgx hpx
          generalize clip (x.pri + x.pow) = q at *
          go_wp2_with fail
          refine wp_region_L (fun w' : World => ∃ n, w' = wr.drewN n) 15 (by kernel_rfl) ?_
          refine wpAnyL_take 0 (v := .slice (some ⟨g, 0, none⟩) n c1) rfl (by kernel_rfl) (fun _ _ _ h => h) (yields_in rfl (fun w' hw' => by obtain ⟨n1, rfl⟩ := hw'; go_simp)) ⟨1, rfl⟩ ?_
          simp only [Act.put, List.setIfInBounds_toArray, List.set_cons_zero, List.set_cons_succ]
          refine wpAnyL_take 1 (v := .int .i64 j) rfl (by kernel_rfl) (fun _ _ _ h => h) (yields_in rfl (fun w' hw' => by obtain ⟨n1, rfl⟩ := hw'; go_simp)) ⟨1, rfl⟩ ?_
          simp only [Act.put, List.setIfInBounds_toArray, List.set_cons_zero, List.set_cons_succ]
          refine wpAnyL_take 2 (v := .slice (some ⟨g, 0, none⟩) n c1) rfl (by kernel_rfl) (fun _ _ _ h => h) (yields_in rfl (fun w' hw' => by obtain ⟨n1, rfl⟩ := hw'; go_simp)) ⟨1, rfl⟩ ?_
          simp only [Act.put, List.setIfInBounds_toArray, List.set_cons_zero, List.set_cons_succ]
          refine wpAnyL_take 3 (v := .int .i64 j) rfl (by kernel_rfl) (fun _ _ _ h => h) (yields_in rfl (fun w' hw' => by obtain ⟨n1, rfl⟩ := hw'; go_simp)) ⟨1, rfl⟩ ?_
          simp only [Act.put, List.setIfInBounds_toArray, List.set_cons_zero, List.set_cons_succ]
          refine wpAnyL_take 4 (v := .pointer (some ⟨g, j * 4, none⟩)) rfl (by kernel_rfl) (fun _ _ _ h => h) (yields_in rfl (fun w' hw' => by obtain ⟨n1, rfl⟩ := hw'; go_simp)) ⟨1, rfl⟩ ?_
          simp only [Act.put, List.setIfInBounds_toArray, List.set_cons_zero, List.set_cons_succ]
          refine wpAnyL_take 5 (v := .pointer (some ⟨g, j * 4 + 3, none⟩)) rfl (by kernel_rfl) (fun _ _ _ h => h) (yields_in rfl (fun w' hw' => by obtain ⟨n1, rfl⟩ := hw'; go_simp)) ⟨1, rfl⟩ ?_
          simp only [Act.put, List.setIfInBounds_toArray, List.set_cons_zero, List.set_cons_succ]
          refine wpAnyL_take 6 (v := .int .i64 x.pri) rfl (by kernel_rfl) (fun _ _ _ h => h) (yields_in rfl (fun w' hw' => by obtain ⟨n1, rfl⟩ := hw'; go_simp)) ⟨1, rfl⟩ ?_
          simp only [Act.put, List.setIfInBounds_toArray, List.set_cons_zero, List.set_cons_succ]
          refine wpAnyL_take 7 (v := .slice (some ⟨g, 0, none⟩) n c1) rfl (by kernel_rfl) (fun _ _ _ h => h) (yields_in rfl (fun w' hw' => by obtain ⟨n1, rfl⟩ := hw'; go_simp)) ⟨1, rfl⟩ ?_
          simp only [Act.put, List.setIfInBounds_toArray, List.set_cons_zero, List.set_cons_succ]
          refine wpAnyL_take 8 (v := .int .i64 j) rfl (by kernel_rfl) (fun _ _ _ h => h) (yields_in rfl (fun w' hw' => by obtain ⟨n1, rfl⟩ := hw'; go_simp)) ⟨1, rfl⟩ ?_
          simp only [Act.put, List.setIfInBounds_toArray, List.set_cons_zero, List.set_cons_succ]
          refine wpAnyL_take 9 (v := .pointer (some ⟨g, j * 4, none⟩)) rfl (by kernel_rfl) (fun _ _ _ h => h) (yields_in rfl (fun w' hw' => by obtain ⟨n1, rfl⟩ := hw'; go_simp)) ⟨1, rfl⟩ ?_
          simp only [Act.put, List.setIfInBounds_toArray, List.set_cons_zero, List.set_cons_succ]
          refine wpAnyL_take 10 (v := .pointer (some ⟨g, j * 4 + 2, none⟩)) rfl (by kernel_rfl) (fun _ _ _ h => h) (yields_in rfl (fun w' hw' => by obtain ⟨n1, rfl⟩ := hw'; go_simp)) ⟨1, rfl⟩ ?_
          simp only [Act.put, List.setIfInBounds_toArray, List.set_cons_zero, List.set_cons_succ]
          refine wpAnyL_take 11 (v := .int .i64 x.pow) rfl (by kernel_rfl) (fun _ _ _ h => h) (yields_in rfl (fun w' hw' => by obtain ⟨n1, rfl⟩ := hw'; go_simp)) ⟨1, rfl⟩ ?_
          simp only [Act.put, List.setIfInBounds_toArray, List.set_cons_zero, List.set_cons_succ]
          refine wpAnyL_one 12 rfl (by kernel_rfl) rfl ?_
          go_simp
          refine (KP.out _).mono ?_
          rintro e w5 ⟨rfl, rfl⟩
          refine ⟨⟨1, rfl⟩, ?_⟩
          refine wpAnyL_one 13 rfl (by kernel_rfl) rfl ?_
          go_simp
          refine ⟨⟨1, rfl⟩, ?_⟩
          refine wpAnyL_one 14 rfl (by kernel_rfl) rfl ?_
          go_simp
          refine ⟨⟨1, rfl⟩, ?_⟩
          refine wpAnyL_one 15 rfl (by kernel_rfl) rfl ?_
          go_simp
          refine wpAnyL_done (by kernel_rfl) ?_ _
          go_wp2
          go_roundw
          case rel => exact ⟨j + 1, by omega, by go_num, HSET.out 1, (HB4.out.drew).setCell (p := ⟨g, j * 4 + 3, none⟩) hg0 _⟩
          case measure => simp [intOf]; omega
        · obtain rfl : j = n := by omega
          have ho5 := HO4.out
          rw [mapTo_full _ _ _ (by have := HLM.out; omega)] at ho5
          have hd5 : distinct (m.map addP) := distinct_map HDM.out _ (fun _ => rfl)
          have hne : m.map addP ≠ [] := fun e => by
            have h1 := congrArg List.length e
            have := HLM.out
            simp at h1; rw [h1] at this; simp at this; omega
          obtain ⟨q, hq, hqa⟩ := propOf_at _ hne
          have hqn : q.2 < j := by
            have := (List.getElem?_eq_some_iff.1 hqa).1
            have := HLM.out
            simp at *; omega
          have hqi : in64 q.1.pri := by
            obtain ⟨y, _, hyq⟩ := List.mem_map.1 (List.mem_of_getElem? hqa)
            rw [← hyq]; exact clip_in _
          have KF := Lib.hid (sfirst_any (m.map addP) (some ⟨g, 0, none⟩) j c1 _ (Rd.of_own ho5) (by omega) hd5)
          rw [hq] at KF
          have hto : turnOf T m = (m.map addP).set q.2 { q.1 with pri := clip (q.1.pri + -T) } := by unfold turnOf; rw [hq]; rfl
          have hnq : nextP m = q.1.adr := by unfold nextP; rw [hq]
          have HO5 := Lib.hid ho5; have HQA := Lib.hid hqa; have HTO := Lib.hid hto
          have HNQ := HNP.out q.1.adr hnq.symm
          clear hd5 hne hq hqa hto ho5 hnq HNP
          obtain ⟨x, qi⟩ := q
          simp only [ixOf] at *
          go_wp2_with fail
          refine KF.out.mono ?_
          rintro e w6 ⟨rfl, hb6⟩
          have ho6 := own_below HO5.out hb6 (Nat.le_refl _)
          have HB6 := Lib.hid (HB4.out.trans (hb6.mono HB4.out.size))
          obtain ⟨x0, x1, x2, x3⟩ := own_seat ho6 HQA.out
          have hf := own_free ho6
          have hset := own_pri (q := clip (x.pri + -T)) ho6 HQA.out
          rw [← HTO.out, ← HNX.out] at hset
          have x0' : (w6.setCell ⟨g, qi * 4 + 3, none⟩ (.int .i64 (clip (x.pri + -T)))).cell? ⟨g, qi * 4, none⟩ = some (.string x.adr) := (World.cell?_setCell_other w6 _ _ _ (by intro e; injection e; omega)).trans x0
          have KP := Lib.hid (fun W => plus_any x.pri (-T) W hqi ⟨by omega, by omega⟩)
          have HSET := Lib.hid hset
          have hneg : wrap64 (-T) = -T := by unfold wrap64; omega
          clear hset ho6 hb6 x1 x2 HTO hqi x0
          generalize clip (x.pri + -T) = pq at *
          go_wp2_with fail
          refine (KP.out _).mono ?_
          rintro e w7 ⟨rfl, rfl⟩
          go_wp2
          go_roundw
          case rel => exact ⟨k + 1, by omega, by go_num, HSET.out, HB6.out.setCell (p := ⟨g, qi * 4 + 3, none⟩) hg0 _, HNQ⟩
          case measure => simp [intOf]; omega
    · obtain rfl : k = times := by omega
      have hpr := HPR.out (by omega)
      subst hpr
      have HF := Lib.hid (Rd.of_own HO.out)
      have HBF := Lib.hid (HB2.out.trans (HB.out.mono z2))
      go_wp2
      go_ret2
      first | exact ⟨A1, ⟨c1, rfl⟩, HF.out, HBF.out⟩ | exact ⟨A1, c1, rfl, HF.out, HBF.out⟩
end Go.Proofs.YtikikddkhikfkaaGreatDoor

set_option linter.all false
namespace Go.Proofs.YtikikddkhikfkaaGreatDoor
open Go.RowKit

theorem VRow.keepB {w w' : World} {lo : Nat} {A : Option Addr} {c : Nat} {bs : List Nat} {ts : List Tv} (h : VRow w lo A c bs ts) (kb : KeepB w w') (k : ∀ i, i < w.heap.size → (some i = (Value.slice A bs.length c).ownBlock ∨ i ∈ bs) → w'.heap[i]? = w.heap[i]?) : VRow w' lo A c bs ts := by
  refine ⟨⟨h.row.1, ?_⟩, h.len, h.nodup, fun j b t hb ht => ?_⟩
  · rcases h.row.2 with h2 | ⟨g', cap, cur, hv, hg, hh, r⟩
    · exact Or.inl h2
    · exact Or.inr ⟨g', cap, cur, hv, hg, (k g' (lt_of_heap hh) (.inl (by rw [hv]; rfl))).trans hh, r⟩
  · obtain ⟨h1, h2, h3⟩ := h.vals j b t hb ht
    exact ⟨h1, (k b h2.lt (.inr (List.mem_of_getElem? hb))).trans h2, h3.keep kb⟩
theorem VRow.zipmem {w : World} {lo : Nat} {A : Option Addr} {c : Nat} {bs : List Nat} {ts : List Tv} (h : VRow w lo A c bs ts) {b : Nat} (hb : b ∈ bs) : ∃ t ∈ ts, lo ≤ b ∧ Blk w b 136 t.val := by
  obtain ⟨j, hj⟩ := List.getElem?_of_mem hb
  obtain ⟨t, ht⟩ : ∃ t, ts[j]? = some t := ⟨_, List.getElem?_eq_getElem (by rw [h.len]; exact (List.getElem?_eq_some_iff.1 hj).1)⟩
  exact ⟨t, List.mem_of_getElem? ht, (h.vals j b t hj ht).1, (h.vals j b t hj ht).2.1⟩
theorem VRow.ownNot {w : World} {lo : Nat} {A : Option Addr} {c : Nat} {bs : List Nat} {ts : List Tv} (h : VRow w lo A c bs ts) {b : Nat} {cs : Array Value} {t : TypeId} (hb : Blk w b t cs) (ht : t ≠ 126) : some b ≠ (Value.slice A bs.length c).ownBlock := own_ne_blk h.row hb ht
theorem VRow.ownLo {w : World} {lo : Nat} {A : Option Addr} {c : Nat} {bs : List Nat} {ts : List Tv} (h : VRow w lo A c bs ts) : ∀ k, (Value.slice A bs.length c).ownBlock = some k → lo ≤ k ∧ k < w.heap.size := fun k hk => by
  refine ⟨own_base h.row k hk, ?_⟩
  rcases h.row.2 with ⟨e, _⟩ | ⟨g', cap, cur, hv, _, hh, _⟩
  · rw [e] at hk; cases hk
  · rw [hv] at hk; cases hk; exact lt_of_heap hh
theorem OnlyL.belowLo {bs : List Nat} {w w' : World} {lo : Nat} (h : OnlyL bs w w') (hl : lo ≤ w.heap.size) (hb : ∀ b ∈ bs, lo ≤ b) : Below lo w w' :=
  ⟨h.os, h.tape, h.output, h.size, fun k hk => h.block k (by omega) (fun hm => by have := hb k hm; omega)⟩
theorem OnlyR.belowLo {g : Nat} {r : Option Nat} {w w' : World} {lo : Nat} (h : OnlyR g r w w') (hl : lo ≤ w.heap.size) (hg : lo ≤ g) (hr : ∀ k, r = some k → lo ≤ k) : Below lo w w' :=
  ⟨h.os, h.tape, h.output, h.size, fun k hk => h.block k (by omega) (by omega) (fun e => by have := hr k e.symm; omega)⟩
theorem grown_belowLo {w w' : World} {lo : Nat} {row : Option Nat} (h : w.grownBy w' row) (hl : lo ≤ w.heap.size) (hr : ∀ k, row = some k → lo ≤ k) : Below lo w w' := (Below.refl lo w).grown h hl hr
theorem zip_back : ∀ (P : List (Nat × Tv)), (P.map Prod.fst).zip (P.map Prod.snd) = P
  | [] => rfl
  | p :: P => by simp [zip_back P]
theorem px_zip (bs : List Nat) (ts : List Tv) (h : ts.length = bs.length) : (bs.zip ts).map px = ts.map Tv.x := by
  have : (bs.zip ts).map px = ((bs.zip ts).map Prod.snd).map Tv.x := by rw [List.map_map]; rfl
  rw [this, List.map_snd_zip (by omega)]
theorem px_snd (P : List (Nat × Tv)) : (P.map Prod.snd).map Tv.x = P.map px := by rw [List.map_map]; rfl
/-- the set behind the sort of its row -/
theorem VSet.sorted {w w' : World} {lo g : Nat} {A : Option Addr} {c : Nat} {bs bs' : List Nat} {ts ts' : List Tv} {prop : Value} {tot : Int} {same : Bool} (h : VSet w lo g A c bs ts prop tot same) (hv : VRow w' lo A c bs' ts') (hl : bs'.length = bs.length) (hg : w.grownBy w' (Value.slice A bs.length c).ownBlock) : VSet w' lo g A c bs' ts' prop tot same := by
  have hhd := h.head.grown hg (own_ne_blk h.row h.head (by decide))
  rw [← hl] at hhd
  exact ⟨hhd, hv.row, hv.len, hv.nodup, hv.vals, h.log⟩
theorem VSet.keysV {w : World} {lo g : Nat} {A : Option Addr} {c : Nat} {bs : List Nat} {ts : List Tv} {prop : Value} {tot : Int} {same : Bool} (h : VSet w lo g A c bs ts prop tot same) : lo ≤ w.heap.size ∧ lo ≤ g := ⟨by have := h.log; have := h.head.lt; omega, h.log⟩
/-- validators of power 0 and others lie apart -/
theorem apart_rows {w : World} {lo lo' : Nat} {A A' : Option Addr} {c c' : Nat} {bu br : List Nat} {tu tr : List Tv} (hu : VRow w lo A c bu tu) (hr : VRow w lo' A' c' br tr) (h1 : ∀ t ∈ tu, t.x.pow ≠ 0) (h2 : ∀ t ∈ tr, t.x.pow = 0) : ∀ b ∈ bu, b ∉ br := fun b hb hb' => by
  obtain ⟨t, ht, _, hbt⟩ := hu.zipmem hb
  obtain ⟨t', ht', _, hbt'⟩ := hr.zipmem hb'
  have e : t.val = t'.val := by
    unfold Blk at hbt hbt'
    rw [hbt] at hbt'
    injection hbt' with e; injection e
  have e2 : t.x.pow = t'.x.pow := by
    unfold Tv.val at e
    injection e with e; injection e with _ e; injection e with _ e; injection e with e _; injection e
  exact h1 t ht (by rw [e2]; exact h2 t' ht')


/-! ### the second half, step by step -/
/-- what stands fixed while changes S (by address; C as they came) are made in the set V -/
structure Fx (w : World) (lo g : Nat) (A : Option Addr) (c : Nat) (bs : List Nat) (V C S : List Sd) : Prop where
  lole : lo ≤ w.heap.size
  log : lo ≤ g
  gw : g < w.heap.size
  low : VLow w.heap.size g A bs
  bsw : ∀ b ∈ bs, b < w.heap.size
  ownw : ∀ k, (Value.slice A bs.length c).ownBlock = some k → lo ≤ k ∧ k < w.heap.size
  nb : bs.length ≤ 400
  nS : S.length ≤ 400
  nV : V.length = bs.length
  pow : ∀ x ∈ V, 1 ≤ x.pow ∧ x.pow ≤ 1125899906842624
  pri : ∀ x ∈ V, -1152921504606846976 < x.pri ∧ x.pri < 1152921504606846976
  nod : (adrs V).Nodup
  perm : S.Perm C
  srt : Srt S
  ok : okCh V C
section
variable {w : World} {lo g : Nat} {A : Option Addr} {c : Nat} {bs : List Nat} {V C S : List Sd}
theorem Fx.okS (f : Fx w lo g A c bs V C S) : okCh V S := okCh_perm f.perm.symm f.ok
theorem Fx.nodC (f : Fx w lo g A c bs V C S) : (adrs C).Nodup := f.ok.good.2
theorem Fx.ups (f : Fx w lo g A c bs V C S) : sumD V (upsL C) = sumD V (upsL S) := sumD_perm V (f.perm.symm.filter _)
theorem totL_nn (l : List Sd) (h : ∀ x ∈ l, 0 ≤ x.pow) : 0 ≤ totL l := sumI_nn _ (fun p hp => by obtain ⟨x, hx, rfl⟩ := List.mem_map.1 hp; exact h x hx)
theorem Fx.T_bd (f : Fx w lo g A c bs V C S) : 0 ≤ totL V + sumD V (upsL S) ∧ totL V + sumD V (upsL S) ≤ 1729382256910270464 := by
  have h1 := f.okS.most
  have h2 := remSum_bd (vals := V) (fun x hx => by have := f.pow x hx; omega) (delsL S)
  have h3 : (delsL S).length ≤ S.length := List.length_filter_le _ _
  have h4 := tot_drop V f.nod (upsL S) (adrs_filter _ _ f.srt.ne)
  have h5 := totL_nn (V.filter (notIn (upsL S))) (fun x hx => by have := f.pow x (List.mem_filter.1 hx).1; omega)
  have h6 := totL_nn (upsL S) (fun x hx => (f.okS.good.1 x (List.mem_filter.1 hx).1).1)
  have h7 := sumD_eq V (upsL S)
  have := f.nS
  omega
theorem Fx.kpri (f : Fx w lo g A c bs V C S) : ∀ x ∈ keptL V C, -2305843009213693952 < x.pri ∧ x.pri < 2305843009213693952 := kept_pri f.pri (by rw [f.ups]; exact f.T_bd)
theorem Fx.kpow (f : Fx w lo g A c bs V C S) : ∀ x ∈ keptL V C, 1 ≤ x.pow := kept_pow (fun x hx => (f.pow x hx).1)
theorem Fx.klen (f : Fx w lo g A c bs V C S) : (keptL V C).length ≤ 800 := by
  have := kept_len V C; have := f.nV; have := f.nb; have := f.nS; have := f.perm.length_eq; omega
theorem Fx.kne (f : Fx w lo g A c bs V C S) : keptL V C ≠ [] := kept_ne f.nod f.ok

/-- the set as it was, with updates U and removals -/
structure S3 (w : World) (lo g : Nat) (A : Option Addr) (c : Nat) (bs : List Nat) (V S : List Sd) (prop : Value) (same : Bool) (Au : Option Addr) (cu : Nat) (bu : List Nat) (Ar : Option Addr) (cr : Nat) (br : List Nat) (U : List Sd) (w' : World) : Prop where
  set : ∃ ts, ts.map Tv.x = V ∧ VSet w' lo g A c bs ts prop (totL V) same
  up : ∃ tu, tu.map Tv.x = U ∧ VRow w' w.heap.size Au cu bu tu
  dn : ∃ tr, tr.map Tv.x = delsL S ∧ VRow w' w.heap.size Ar cr br tr
  bel : Below lo w w'
/-- the updates are merged -/
structure S5 (w : World) (lo g : Nat) (V S : List Sd) (prop : Value) (same : Bool) (Ar : Option Addr) (cr : Nat) (br : List Nat) (w' : World) : Prop where
  set : ∃ (A' : Option Addr) (c' : Nat) (P : List (Nat × Tv)) (VS : List Sd), P.map px = mergeS VS ((upsL S).map (newPri V (totL V + sumD V (upsL S)))) ∧ VS.Perm V ∧ Srt VS ∧ VSet w' lo g A' c' (P.map Prod.fst) (P.map Prod.snd) prop (totL V) same
  dn : ∃ tr, tr.map Tv.x = delsL S ∧ VRow w' w.heap.size Ar cr br tr
  bel : Below lo w w'
/-- the set holds X, in whatever order -/
structure S6 (w : World) (lo g : Nat) (V C : List Sd) (prop : Value) (X : List Sd) (tot : Int) (same : Bool) (w' : World) : Prop where
  set : ∃ (A' : Option Addr) (c' : Nat) (bs' : List Nat) (ts' : List Tv), (ts'.map Tv.x).Perm X ∧ VSet w' lo g A' c' bs' ts' prop tot same
  most : totL (keptL V C) ≤ 1152921504606846975
  bel : Below lo w w'
variable {prop : Value} {same : Bool} {Au Ar : Option Addr} {cu cr : Nat} {bu br : List Nat}
theorem uw_pris (f : Fx w lo g A c bs V C S) (hbu : bu.length ≤ 400) {w3 : World} (s : S3 w lo g A c bs V S prop same Au cu bu Ar cr br (upsL S) w3) :
    Calls Tryz.prog 103 #[.slice Au bu.length cu, ptrTo g, .int .i64 (totL V + sumD V (upsL S))] w3 fun e w4 => e = .returned (.tuple #[]) ∧ S3 w lo g A c bs V S prop same Au cu bu Ar cr br ((upsL S).map (newPri V (totL V + sumD V (upsL S)))) w4 := by
  obtain ⟨ts, rfl, hs⟩ := s.set
  obtain ⟨tu, hu, hvu⟩ := s.up
  obtain ⟨tr, hr, hvr⟩ := s.dn
  have hT := f.T_bd
  refine (pris_any lo g A c bs ts prop _ same w3 hs (by have := f.nb; omega) w.heap.size f.low Au cu bu tu hvu (by omega) _ ⟨hT.1, by omega⟩).mono ?_
  rintro e w4 ⟨rfl, tu', hu', hvu', hs', ho⟩
  have hap := apart_rows hvu hvr (fun t ht => by
      have : t.x ∈ upsL S := by rw [← hu]; exact List.mem_map_of_mem ht
      have := (List.mem_filter.1 this).2
      simp only [Bool.not_eq_true', beq_eq_false_iff_ne] at this; exact this)
    (fun t ht => by
      have : t.x ∈ delsL S := by rw [← hr]; exact List.mem_map_of_mem ht
      have := (List.mem_filter.1 this).2
      simpa using this)
  refine ⟨rfl, ⟨ts, rfl, hs'⟩, ⟨tu', by rw [hu', hu], hvu'⟩, ⟨tr, hr, ?_⟩, s.bel.trans (ho.belowLo (by have := s.bel.size; have := f.lole; omega) (fun b hb => by obtain ⟨t, _, hl, _⟩ := hvu.zipmem hb; have := f.lole; omega))⟩
  refine hvr.keepB ho.bytes fun i hi ho' => ho.block i hi fun hm => ?_
  rcases ho' with ho' | ho'
  · obtain ⟨t, _, _, hb⟩ := hvu.zipmem hm
    exact hvr.ownNot hb (by decide) ho'
  · exact hap i hm ho'
theorem own_someV {w1 : World} {N n c' : Nat} {A' : Option Addr} {xs : List Value} {e : TypeId} (h : w1.ownsRow N e 1 (.slice A' n c') n xs) (hA : A' ≠ none) : ∃ k, (Value.slice A' n c').ownBlock = some k ∧ N ≤ k := by
  rcases h.2 with ⟨e, _⟩ | ⟨g', cap, cur, hv, hg, _, _⟩
  · injection e with e; exact absurd e hA
  · exact ⟨g', by rw [hv]; rfl, hg⟩
theorem uw_app (f : Fx w lo g A c bs V C S) (hbu : bu.length ≤ 400) (hAu : Au ≠ none) {w4 : World} (s : S3 w lo g A c bs V S prop same Au cu bu Ar cr br ((upsL S).map (newPri V (totL V + sumD V (upsL S)))) w4) :
    Calls Tryz.prog 104 #[ptrTo g, .slice Au bu.length cu] w4 fun e w5 => e = .returned (.tuple #[]) ∧ S5 w lo g V S prop same Ar cr br w5 := by
  obtain ⟨ts, rfl, hs⟩ := s.set
  obtain ⟨tu, hu, hvu⟩ := s.up
  obtain ⟨tr, hr, hvr⟩ := s.dn
  obtain ⟨k, hk, hkN⟩ := own_someV hvu.row hAu
  refine (appUpd_any lo g A c bs ts prop _ same w4 hs (by have := f.nb; omega) Au cu bu tu (hvu.mono f.lole) (by omega) (fun b hb hb' => by
      have := f.bsw b hb
      obtain ⟨t, _, hl, _⟩ := hvu.zipmem hb'; omega) (by
      rw [hk]; intro e; have := (f.ownw k e.symm).2; omega)).mono ?_
  rintro e w5 ⟨rfl, A', c', P, bs2, ts2, hp2, hl2, hl2', hsr, rfl, hs5, ho⟩
  have hpx : (ts2.map Tv.x).Perm (ts.map Tv.x) := by
    have h1 := hp2.map px
    rwa [px_zip bs2 ts2 (by omega), px_zip bs ts hs.len] at h1
  refine ⟨rfl, ⟨A', c', _, ts2.map Tv.x, ?_, hpx, srt_of hsr ((hpx.map _).nodup_iff.2 f.nod), hs5⟩, ⟨tr, hr, ?_⟩, s.bel.trans (ho.belowLo (by have := s.bel.size; have := f.lole; omega) f.log (fun k hk => (f.ownw k hk).1))⟩
  · rw [mergeV_px, px_zip bs2 ts2 (by omega), px_zip bu tu hvu.len, hu]
  · refine hvr.keepB ho.bytes fun i hi ho' => ?_
    have hN : w.heap.size ≤ i := by
      rcases ho' with ho' | ho'
      · exact (hvr.ownLo i ho'.symm).1
      · obtain ⟨t, _, hl, _⟩ := hvr.zipmem ho'; exact hl
    exact ho.block i hi (by have := f.gw; omega) (fun e => by have := (f.ownw i e.symm).2; omega)
theorem uw_rem (f : Fx w lo g A c bs V C S) (hbr : br.length ≤ 400) {w5 : World} (s : S5 w lo g V S prop same Ar cr br w5) :
    Calls Tryz.prog 105 #[ptrTo g, .slice Ar br.length cr] w5 fun e w6 => e = .returned (.tuple #[]) ∧ S6 w lo g V C prop (keptL V C) (totL V) same w6 := by
  obtain ⟨A', c', P, VS, hP, hVS, hVs, hs⟩ := s.set
  obtain ⟨tr, hr, hvr⟩ := s.dn
  have hfo := fit_ok (V := V) (S := S) (T := totL V + sumD V (upsL S)) hVS hVs f.srt f.okS.dels
  have hkt := kept_tot (V := V) (S := S) f.nod hVS hVs f.srt (totL V + sumD V (upsL S))
  have hkp := kept_perm f.nod f.nodC (fun u hu => (f.ok.good.1 u hu).1) hVS hVs f.perm f.srt (totL V + sumD V (upsL S)) (by rw [f.ups])
  have hrp := remV_px P (br.zip tr)
  rw [px_zip br tr hvr.len, hr, hP] at hrp
  have hPl : P.length ≤ 800 := by
    have h1 := congrArg List.length hP
    have hsu : Srt (upsL S) := f.srt.filter _
    have h2 := (mergeS_perm VS _ hVs (srt_newPri (V := V) (T := totL V + sumD V (upsL S)) hsu)).length_eq
    have h3 : (upsL S).length ≤ S.length := List.length_filter_le _ _
    have h4 := List.length_filter_le (notIn ((upsL S).map (newPri V (totL V + sumD V (upsL S))))) VS
    have h5 := hVS.length_eq
    rw [List.length_map] at h1
    rw [List.length_append, List.length_map] at h2
    have := f.nV; have := f.nb; have := f.nS
    omega
  have hcall := appRem_any lo g A' c' (P.map Prod.fst) (P.map Prod.snd) prop _ same w5 hs (by simp; omega) w.heap.size Ar cr br tr hvr (by rw [zip_back, hrp.2]; exact hfo.1)
  refine hcall.mono ?_
  rintro e w6 ⟨rfl, A2, c2, P2, hP2, hs6, ho⟩
  rw [zip_back] at hP2
  refine ⟨rfl, ⟨A2, c2, _, _, ?_, hs6⟩, ?_, s.bel.trans (ho.belowLo (by have := s.bel.size; have := f.lole; omega) f.log (fun k hk => by cases hk))⟩
  · rw [px_snd, hP2, hrp.1, hfo.2]; exact hkp
  · rw [← totL_perm hkp, hkt]
    have := f.okS.most; omega
theorem S6.len {X : List Sd} {tot : Int} {w' : World} (f : Fx w lo g A c bs V C S) (hX : X.length = (keptL V C).length) {A' : Option Addr} {c' : Nat} {bs' : List Nat} {ts' : List Tv} (hp : (ts'.map Tv.x).Perm X) (hs : VSet w' lo g A' c' bs' ts' prop tot same) : 0 < bs'.length ∧ bs'.length ≤ 800 ∧ ∀ t ∈ ts', t.x ∈ X := by
  have h1 := hp.length_eq
  rw [List.length_map, hs.len, hX] at h1
  have h2 := f.klen
  have h3 := List.length_pos_iff.2 f.kne
  exact ⟨by omega, by omega, fun t ht => hp.mem_iff.1 (List.mem_map_of_mem ht)⟩
theorem S6.lo_le {X : List Sd} {tot : Int} {w' : World} (f : Fx w lo g A c bs V C S) (s : S6 w lo g V C prop X tot same w') : lo ≤ w'.heap.size := by have := s.bel.size; have := f.lole; omega
theorem uw_keys (f : Fx w lo g A c bs V C S) {tot : Int} {w6 : World} (s : S6 w lo g V C prop (keptL V C) tot same w6) :
    Calls Tryz.prog 63 #[ptrTo g] w6 fun e w7 => e = .returned (.tuple #[]) ∧ S6 w lo g V C prop (keptL V C) tot true w7 := by
  obtain ⟨A', c', bs', ts', hp, hs⟩ := s.set
  obtain ⟨h1, h2, h3⟩ := S6.len f rfl hp hs
  refine (keys_any lo g A' c' bs' ts' prop tot same w6 hs (by omega)).mono ?_
  rintro e w7 ⟨rfl, hs7, hg⟩
  exact ⟨rfl, ⟨A', c', bs', ts', hp, hs7⟩, s.most, s.bel.trans (grown_belowLo hg (S6.lo_le f s) (fun k hk => by cases hk; exact f.log))⟩
theorem uw_tot (f : Fx w lo g A c bs V C S) {tot : Int} {w6 : World} (s : S6 w lo g V C prop (keptL V C) tot same w6) :
    Calls Tryz.prog 106 #[ptrTo g] w6 fun e w7 => e = .returned (.tuple #[]) ∧ S6 w lo g V C prop (keptL V C) (totL (keptL V C)) same w7 := by
  obtain ⟨A', c', bs', ts', hp, hs⟩ := s.set
  obtain ⟨h1, h2, h3⟩ := S6.len f rfl hp hs
  have ht := totL_perm hp
  refine (updTotalW_any lo g A' c' bs' ts' prop tot same w6 hs (by omega) (fun t ht => by have := f.kpow t.x (h3 t ht); omega) (by rw [ht]; exact s.most)).mono ?_
  rintro e w7 ⟨rfl, rfl⟩
  rw [ht]
  exact ⟨rfl, ⟨A', c', bs', ts', hp, hs.setTot _⟩, s.most, s.bel.trans (grown_belowLo (grown_put w6 g 2 _) (S6.lo_le f s) (fun k hk => by cases hk; exact f.log))⟩
theorem Fx.tot_pos (f : Fx w lo g A c bs V C S) : 1 ≤ totL (keptL V C) := by
  have h1 := totL_one (keptL V C) f.kpow
  have h3 := List.length_pos_iff.2 f.kne
  omega
theorem uw_power (f : Fx w lo g A c bs V C S) {w6 : World} (s : S6 w lo g V C prop (keptL V C) (totL (keptL V C)) same w6) :
    Calls Tryz.prog 87 #[ptrTo g] w6 fun e w7 => e = .returned (.int .i64 (totL (keptL V C))) ∧ w6 = w7 := by
  obtain ⟨A', c', bs', ts', hp, hs⟩ := s.set
  exact tot_any lo g A' c' bs' ts' prop _ same w6 hs (by have := f.tot_pos; omega)
theorem uw_resc (f : Fx w lo g A c bs V C S) {w6 : World} (s : S6 w lo g V C prop (keptL V C) (totL (keptL V C)) same w6) :
    Calls Tryz.prog 107 #[ptrTo g, .int .i64 (2 * totL (keptL V C))] w6 fun e w7 => e = .returned (.tuple #[]) ∧ S6 w lo g V C prop (scaleL (2 * totL (keptL V C)) (keptL V C)) (totL (keptL V C)) same w7 := by
  obtain ⟨A', c', bs', ts', hp, hs⟩ := s.set
  obtain ⟨h1, h2, h3⟩ := S6.len f rfl hp hs
  have hm := s.most
  have hsp := setOf_spanW (keptL V C) f.kne f.kpri
  rw [← span_perm hp] at hsp
  refine (rescale_any lo g A' c' bs' ts' prop _ same (2 * totL (keptL V C)) w6 hs (by omega) h1 hsp.1 (by omega) (by omega) (fun t ht => by have := f.kpri t.x (h3 t ht); omega)).mono ?_
  rintro e w7 ⟨rfl, ts7, hm7, hs7, ho⟩
  exact ⟨rfl, ⟨A', c', bs', ts7, by rw [hm7]; exact scaleL_perm _ hp, hs7⟩, s.most, s.bel.trans (hs.below ho)⟩
theorem uw_shift (f : Fx w lo g A c bs V C S) {w6 : World} (s : S6 w lo g V C prop (scaleL (2 * totL (keptL V C)) (keptL V C)) (totL (keptL V C)) same w6) :
    Calls Tryz.prog 108 #[ptrTo g] w6 fun e w7 => e = .returned (.tuple #[]) ∧ S6 w lo g V C prop (shiftL (scaleL (2 * totL (keptL V C)) (keptL V C))) (totL (keptL V C)) same w7 := by
  obtain ⟨A', c', bs', ts', hp, hs⟩ := s.set
  obtain ⟨h1, h2, h3⟩ := S6.len f (length_of_core (scaleL_core _ _)) hp hs
  have hb := scaleL_pri (2 * totL (keptL V C)) (keptL V C) 2305843009213693952 (fun x hx => by have := f.kpri x hx; omega)
  refine (shift_any lo g A' c' bs' ts' prop _ same w6 hs (by omega) h1 (fun t ht => by have := hb t.x (h3 t ht); omega)).mono ?_
  rintro e w7 ⟨rfl, ts7, hm7, hs7, ho⟩
  exact ⟨rfl, ⟨A', c', bs', ts7, by rw [hm7]; exact shiftL_perm hp, hs7⟩, s.most, s.bel.trans (hs.below ho)⟩
theorem uw_sort (f : Fx w lo g A c bs V C S) {w6 : World} (s : S6 w lo g V C prop (shiftL (scaleL (2 * totL (keptL V C)) (keptL V C))) (totL (keptL V C)) same w6) :
    ∃ A' c' n, w6.cell? ⟨g, 0, none⟩ = some (.slice A' n c') ∧
    Calls Tryz.prog 109 #[.iface 184 (.slice A' n c')] w6 fun e w7 => e = .returned (.tuple #[]) ∧ Below lo w w7 ∧ ∃ A' c' bs' ts', ts'.map Tv.x = outL V C ∧ VSet w7 lo g A' c' bs' ts' prop (totL (outL V C)) same := by
  obtain ⟨A', c', bs', ts', hp, hs⟩ := s.set
  obtain ⟨h1, h2, h3⟩ := S6.len f (length_of_core ((shiftL_core _).trans (scaleL_core _ _))) hp hs
  refine ⟨A', c', bs'.length, hs.head.cell 0, (sortP_any w6 hs.vrow (by omega)).mono ?_⟩
  rintro e w7 ⟨rfl, bs2, ts2, hpz, hl, hl', hso, hv, hg⟩
  have hpx : (ts2.map Tv.x).Perm (ts'.map Tv.x) := by
    have h1 := hpz.map px
    rwa [px_zip bs2 ts2 (by omega), px_zip bs' ts' hs.len] at h1
  have he := out_eq f.nod f.nodC (List.Perm.refl (keptL V C)) (hpx.trans hp) hso
  refine ⟨rfl, s.bel.trans (grown_belowLo hg (S6.lo_le f s) (fun k hk => (hs.vrow.ownLo k hk).1)), A', c', bs2, ts2, he, ?_⟩
  rw [outL_tot]
  exact hs.sorted hv hl hg
end
end Go.Proofs.YtikikddkhikfkaaGreatDoor
