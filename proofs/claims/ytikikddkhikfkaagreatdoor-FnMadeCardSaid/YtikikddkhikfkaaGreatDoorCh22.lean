/-
  spec.Changed: the walk. By the session.
-/
import Derived.Test.YtikikddkhikfkaaGreatDoorCh17
import Derived.Test.YtikikddkhikfkaaGreatDoorCh11
import Derived.Test.YtikikddkhikfkaaGreatDoorCh18
import Derived.Test.YtikikddkhikfkaaGreatDoorCh9
import Derived.Deep.Cut
import Derived.Deep.CutRange
set_option linter.all false
namespace Go.Proofs.YtikikddkhikfkaaGreatDoor
open Go.RowKit

set_option maxRecDepth 100000 in
set_option maxHeartbeats 12800000 in
theorem schanged_any (V C : List Sd) (A : Option Addr) (n c : Nat) (B : Option Addr) (m d : Nat) (w : World) (hr : Rd w w.heap.size 4 A n (cellsOf V)) (hs : Rd w w.heap.size 4 B m (cellsOf C)) (hn : n ≤ 60) (hm : m ≤ 60) (hmd : m ≤ d)
    (hp : ∀ x ∈ V, 1 ≤ x.pow ∧ x.pow ≤ 1125899906842624) (hpr : ∀ x ∈ V, -1152921504606846976 < x.pri ∧ x.pri < 1152921504606846976) (hVn : (adrs V).Nodup) (hC : ∀ x ∈ C, -9223372036854775808 ≤ x.pow ∧ x.pow ≤ 9223372036854775807) :
    Calls Tryz.prog 12 #[.slice A n c, .slice B m d] w fun e w' => Below w.heap.size w w' ∧
      ((C = [] ∧ ∃ A' c', e = .returned (.tuple #[.slice A' n c', .bool true]) ∧ Rd w' w'.heap.size 4 A' n (cellsOf V)) ∨
       (C ≠ [] ∧ okCh V C ∧ ∃ A' c', e = .returned (.tuple #[.slice A' (outL V C).length c', .bool true]) ∧ Rd w' w'.heap.size 4 A' (outL V C).length (cellsOf (outL V C))) ∨
       (C ≠ [] ∧ ¬ okCh V C ∧ e = .returned (.tuple #[.slice none 0 0, .bool false]))) := by
  obtain ⟨Q, hQ⟩ : ∃ Q : Ending → World → Prop, ∀ e w', Q e w' = (Below w.heap.size w w' ∧
      ((C = [] ∧ ∃ A' c', e = .returned (.tuple #[.slice A' n c', .bool true]) ∧ Rd w' w'.heap.size 4 A' n (cellsOf V)) ∨
       (C ≠ [] ∧ okCh V C ∧ ∃ A' c', e = .returned (.tuple #[.slice A' (outL V C).length c', .bool true]) ∧ Rd w' w'.heap.size 4 A' (outL V C).length (cellsOf (outL V C))) ∨
       (C ≠ [] ∧ ¬ okCh V C ∧ e = .returned (.tuple #[.slice none 0 0, .bool false])))) := ⟨_, fun _ _ => rfl⟩
  simp only [← hQ]
  have HQ := Lib.hid hQ; clear hQ
  obtain ⟨i0, hi, hz0, hz1, hz2⟩ := info_parts infoSeat
  have HI := Lib.hid hi; have HZ0 := Lib.hid hz0; have HZ1 := Lib.hid hz1; have HZ2 := Lib.hid hz2
  clear hi hz0 hz1 hz2
  have HLV := Lib.hid hr.len; have HLC := Lib.hid hs.len
  have HR := Lib.hid hr; have HS := Lib.hid hs; have HP := Lib.hid hp; have HPR := Lib.hid hpr; have HV := Lib.hid hVn; have HC := Lib.hid hC
  clear hr hs hp hpr hVn hC
  by_cases hz : m = 0
  · subst hz
    go_enter Tryz.func12, Tryz.ntmps12
    go_wp2_with (at_builtin; refine wpList_app w rfl (.const (.slice none 0 0)) (.tmp 29) 24 rfl w.heap.size 57 i0 _ 4 48 Tryz.underlying24 HI.out HZ0.out HZ1.out HZ2.out rfl (by decide) (.slice none 0 0) 0 [] rfl (World.ownsRow_nil w w.heap.size _ _) w.heap.size A n c (cellsOf V) rfl HR.out (cellsOf_one V) ?q1 ?q2 (Nat.le_refl _) ?_; (case q1 => simp only [maxLen]; omega); (case q2 => omega); intro A1 c1 w1 hown hg _; simp only [Nat.zero_add, List.nil_append] at hown; have HO := Lib.hid hown; have HB := Lib.hid ((Below.refl w.heap.size w).grown hg (Nat.le_refl _) (by simp [Value.ownBlock])); clear hown hg)

    (try go_ret2)
    rw [HQ.out]
    exact ⟨HB.out, .inl ⟨List.eq_nil_of_length_eq_zero HLC.out.symm, A1, c1, rfl, Rd.of_own HO.out⟩⟩
  have hz' : ((m : Int) == 0) = false := beq_eq_false_iff_ne.2 (by omega)
  have hCne : C ≠ [] := fun e => by have := HLC.out; rw [e] at this; simp at this; omega
  have HNE := Lib.hid hCne; clear hCne
  go_enter Tryz.func12, Tryz.ntmps12
  go_wp2_with (at_builtin; refine wpList_app w rfl (.const (.slice none 0 0)) (.tmp 31) 24 rfl w.heap.size 57 i0 _ 4 48 Tryz.underlying24 HI.out HZ0.out HZ1.out HZ2.out rfl (by decide) (.slice none 0 0) 0 [] rfl (World.ownsRow_nil w w.heap.size _ _) w.heap.size A n c (cellsOf V) rfl HR.out (cellsOf_one V) ?q1 ?q2 (Nat.le_refl _) ?_; (case q1 => simp only [maxLen]; omega); (case q2 => omega); intro A1 c1 w1 hown hg _; simp only [Nat.zero_add, List.nil_append] at hown; have HO := Lib.hid hown; have HB1 := Lib.hid ((Below.refl w.heap.size w).grown hg (Nat.le_refl _) (by simp [Value.ownBlock])); clear hown hg)
  have z1 := HB1.out.size
  go_loopw [7, 8, 9, 35] (fun a b s i wr => ∃ (k fr go : Nat) (le : Int), k ≤ m ∧ i = .int .i64 k ∧ a = .int .i64 fr ∧ b = .int .i64 go ∧ s = .int .i64 le ∧ Hid (Tal V (C.take k) fr go le) ∧ Hid (Below w1.heap.size w1 wr)) (fun _ _ _ i _ => m - (intOf i).toNat)
  case atStart => exact ⟨0, 0, 0, 0, Nat.zero_le _, rfl, rfl, rfl, rfl, Tal.nil V, Below.refl _ _⟩
  case round =>
    obtain ⟨k, fr, go, le, hk, rfl, rfl, rfl, rfl, HT, HB⟩ := hrel
    have htb := HT.out.bd HP.out
    have htl := HT.out.le
    rw [List.length_take] at htl htb
    have hmin : min k C.length ≤ 60 := by omega
    generalize min k C.length = mk at *
    have hbw := HB1.out.trans (HB.out.mono z1)
    have HBW := Lib.hid hbw; clear hbw
    by_cases hlt : k < m
    ·
      --@P l1
      have hk' : k < C.length := by have := HLC.out; omega
      have hx : C[k]? = some C[k] := List.getElem?_eq_getElem hk'
      have hxC := HC.out _ (List.getElem_mem hk')
      obtain ⟨ad, rfl, _, c0, c1', c2, c3⟩ := (HS.out.below HBW.out).seat hx
      generalize C[k] = x at *
      have hrt : Rd wr wr.heap.size 4 (some ad) k (cellsOf (C.take k)) := by
        rw [cellsOf_take]; exact ((HS.out.below HBW.out).more HBW.out.size).take hk
      have HRT := Lib.hid hrt
      have KQ := fun q => sat_same (C.take k) (some ad) k d x.adr ((wr.alloc (.cells #[.string x.adr, .string x.key, .int .i64 x.pow, .int .i64 x.pri] 57)).drewN q) ((HRT.out.alloc (Nat.le_refl _) _).more (by simp)) (by omega)
      have HX := Lib.hid hx
      have hkd : k ≤ d := by omega
      clear hx hrt
      by_cases hd : 0 ≤ atL x.adr (C.take k)
      · have HBAD := Lib.hid (fun h : okCh V C => dup_bad HX.out hd h.good)
        generalize atL x.adr (C.take k) = a1 at *
        go_wp2
        go_quiet (exact quietL (KQ _))
        go_wp2
        (try go_ret2)
        rw [HQ.out]
        exact ⟨below_drewN (HBW.out.alloc HBW.out.size _) _, .inr (.inr ⟨HNE.out, HBAD.out, rfl⟩)⟩
      have hd' : atL x.adr (C.take k) < 0 := by omega
      have HGONE := Lib.hid (fun (h0 : x.pow = 0) (i : Nat) (v : Sd) (hi : atL x.adr V = (i : Int)) (hv : V[i]? = some v) => HT.out.gone HX.out hd' h0 hi hv)
      have HNEW := Lib.hid (fun (h0 : 0 < x.pow) (h1 : x.pow ≤ 1152921504606846975) (hi : atL x.adr V < 0) => HT.out.new HX.out hd' h0 h1 hi)
      have HOLD := Lib.hid (fun (h0 : 0 < x.pow) (h1 : x.pow ≤ 1152921504606846975) (hi : 0 ≤ atL x.adr V) => HT.out.old HX.out hd' h0 h1 hi)
      clear HT
      generalize atL x.adr (C.take k) = a1 at *
      by_cases hneg : x.pow < 0
      · have HBAD := Lib.hid (fun h : okCh V C => num_bad HX.out (.inl hneg) h.good)
        go_wp2
        go_quiet (exact quietL (KQ _))
        go_wp2
        (try go_ret2)
        rw [HQ.out]
        exact ⟨below_drewN (HBW.out.alloc HBW.out.size _) _, .inr (.inr ⟨HNE.out, HBAD.out, rfl⟩)⟩
      by_cases hbig : 1152921504606846975 < x.pow
      · have HBAD := Lib.hid (fun h : okCh V C => num_bad HX.out (.inr hbig) h.good)
        go_wp2
        go_quiet (exact quietL (KQ _))
        go_wp2
        (try go_ret2)
        rw [HQ.out]
        exact ⟨below_drewN (HBW.out.alloc HBW.out.size _) _, .inr (.inr ⟨HNE.out, HBAD.out, rfl⟩)⟩
      have hbA := HBW.out.alloc HBW.out.size (.cells #[.string x.adr, .string x.key, .int .i64 x.pow, .int .i64 x.pri] 57)
      have hbB := HB.out.alloc HB.out.size (.cells #[.string x.adr, .string x.key, .int .i64 x.pow, .int .i64 x.pri] 57)
      have HBA := Lib.hid hbA; have HBB := Lib.hid hbB
      have KV := Lib.hid (fun q => sat_same V A n c x.adr ((wr.alloc (.cells #[.string x.adr, .string x.key, .int .i64 x.pow, .int .i64 x.pri] 57)).drewN q) ((((HR.out.below hbA).more hbA.size))) (by omega))
      clear hbA hbB
      rcases atL_cases x.adr V with ⟨hn1, _⟩ | ⟨i, v, hi, hv, _⟩
      · rw [hn1] at KV
        by_cases h0 : x.pow = 0
        · have hbd : ¬ okCh V C := fun h => by have h1 := del_bad HX.out h0 (V := V) (by omega); rw [h.dels] at h1; cases h1
          have HBAD := Lib.hid hbd; clear hbd
          have hz0 : ((x.pow == 0) = true) := by simp [h0]
          have H0 := Lib.hid h0; clear h0
          go_wp2
          go_quiet (exact quietL (KQ _))
          go_wp2_with (go_at_call 37; refine (KV.out _).mono ?_; rintro e w9 ⟨rfl, rfl⟩)
          (try go_ret2)
          rw [HQ.out]
          exact ⟨below_drewN HBA.out _, .inr (.inr ⟨HNE.out, HBAD.out, rfl⟩)⟩
        · have HN := Lib.hid (HNEW.out (by omega) (by omega) (by omega))
          have hpos : ((x.pow == 0) = false) := beq_eq_false_iff_ne.2 h0
          go_wp2
          go_quiet (exact quietL (KQ _))
          go_wp2_with (go_at_call 37; refine (KV.out _).mono ?_; rintro e w9 ⟨rfl, rfl⟩)
          go_roundw
          case rel => exact ⟨k + 1, fr + 1, go, le, by omega, by go_num, by go_num, rfl, rfl, HN.out, below_drewN HBB.out _⟩
          case measure => simp [intOf]; omega
      · rw [hi] at KV
        have hiV := (List.getElem?_eq_some_iff.1 hv).1
        have hin : i < n := by have := HLV.out; omega
        by_cases h0 : x.pow = 0
        · have HN := Lib.hid (HGONE.out h0 i v hi hv)
          obtain ⟨ad2, rfl, _, e0, e1, e2, e3⟩ := (HR.out.below HBA.out).seat hv
          have hvp := HP.out v (List.mem_of_getElem? hv)
          have HV2 := Lib.hid hv
          have hz0 : ((x.pow == 0) = true) := by simp [h0]
          have H0 := Lib.hid h0
          clear e0 e1 e3 hv h0
          go_wp2
          go_quiet (exact quietL (KQ _))
          go_wp2_with (go_at_call 37; refine (KV.out _).mono ?_; rintro e w9 ⟨rfl, rfl⟩)
          go_roundw
          case rel => exact ⟨k + 1, fr, go + 1, le + v.pow, by omega, by go_num, rfl, by go_num, by go_num, HN.out, below_drewN HBB.out _⟩
          case measure => simp [intOf]; omega
        · have HN := Lib.hid (HOLD.out (by omega) (by omega) (by omega))
          have hpos : ((x.pow == 0) = false) := beq_eq_false_iff_ne.2 h0
          go_wp2
          go_quiet (exact quietL (KQ _))
          go_wp2_with (go_at_call 37; refine (KV.out _).mono ?_; rintro e w9 ⟨rfl, rfl⟩)
          go_roundw
          case rel => exact ⟨k + 1, fr, go, le, by omega, by go_num, rfl, rfl, rfl, HN.out, below_drewN HBB.out _⟩
          case measure => simp [intOf]; omega
      --@E l1
    · obtain rfl : m = k := by omega
      have hT := HT.out
      rw [List.take_of_length_le (by have := HLC.out; omega)] at hT
      have HT2 := Lib.hid hT; clear hT HT
      have hlV : V.length = n := HLV.out.symm
      by_cases hE : fr = 0 ∧ go = n
      · obtain ⟨rfl, rfl⟩ := hE
        have HBAD := Lib.hid (not_ok_some HT2.out ⟨rfl, hlV.symm⟩)
        go_wp2
        (try go_ret2)
        rw [HQ.out]
        exact ⟨HBW.out, .inr (.inr ⟨HNE.out, HBAD.out, rfl⟩)⟩
      have hq : (((fr : Int) == 0) = false) ∨ (((fr : Int) == 0) = true ∧ ((go : Int) == (n : Int)) = false) := by
        rcases Nat.eq_zero_or_pos fr with h1 | h1
        · exact .inr ⟨by simp [h1], beq_eq_false_iff_ne.2 (fun e => hE ⟨h1, by omega⟩)⟩
        · exact .inl (beq_eq_false_iff_ne.2 (by omega))
      have hE2 : ¬ (fr = 0 ∧ go = V.length) := by rw [hlV]; exact hE
      have HE := Lib.hid hE2
      have htv0 := totL_one V (fun x hx => (HP.out x hx).1)
      have htv1 : totL V ≤ 1125899906842624 * (V.length : Int) := by
        have := sumI_bd (powsOf V) 0 1125899906842624 (fun p hp => by obtain ⟨x, hx, rfl⟩ := List.mem_map.1 hp; have := HP.out x hx; omega)
        have h2 : (powsOf V).length = V.length := by simp [powsOf]
        unfold totL; omega
      have KT := Lib.hid (fun W (hw : Below w.heap.size w W) => stotalW_any V A n c W ((HR.out.below hw).more hw.size) (by omega) (fun x hx => by have := HP.out x hx; omega) (by omega))
      have hrn := rest_nn HV.out (fun x hx => (HP.out x hx).1) HT2.out.good
      rw [← HT2.out.less_] at hrn
      have hru := remSum_bd (vals := V) (fun x hx => by have := HP.out x hx; omega) (upsL C)
      have HRN := Lib.hid hrn
      clear hE hE2 hrn
      generalize htvv : totL V = tv at *
      have HTV := Lib.hid htvv; clear htvv
      go_upto_region 19 with fail
      go_cut [95] from 88 to 95 (fun b wx => b = .bool false ∧ wx = wr)
      case first =>
        rcases hq with hq | ⟨hq, hq2⟩
        all_goals
          go_wp2_with fail
          go_meet
          case rel => exact ⟨rfl, rfl⟩
      case rest =>
        obtain ⟨rfl, rfl⟩ := hcut
        clear hq
        go_wp2_with (go_at_call 38; refine (KT.out _ HBW.out).mono ?_; rintro e w2 ⟨rfl, hb2⟩; have HB2 := Lib.hid (HBW.out.trans (hb2.mono HBW.out.size)); have HB2' := Lib.hid hb2; clear hb2)
        have hbo := HB.out.trans (HB2'.out.mono HB.out.size)
        have HOUT := Lib.hid (own_below HO.out hbo (Nat.le_refl _))
        clear hbo KT
        have z2 := HB2.out.size
        have hru0 : (upsL C).length ≤ 60 := by have : (upsL C).length ≤ C.length := List.length_filter_le _ _; have := HLC.out; omega
        go_loopw [13, 102] (fun t i wr => ∃ k : Nat, k ≤ m ∧ i = .int .i64 k ∧ t = .int .i64 (tv - le - remSum V (upsL (C.take k))) ∧ Hid (Below w2.heap.size w2 wr)) (fun _ i _ => m - (intOf i).toNat)
        case atStart => exact ⟨0, Nat.zero_le _, rfl, by show Value.int _ _ = Value.int _ _; congr 1; show _ = tv - le - 0; omega, Below.refl _ _⟩
        case round =>
          obtain ⟨k, hk, rfl, rfl, HBL⟩ := hrel
          have hbw := HB2.out.trans (HBL.out.mono z2)
          have HBK := Lib.hid hbw; clear hbw
          by_cases hlt : k < m
          ·
            --@P l2
            have hk' : k < C.length := by have := HLC.out; omega
            have hx : C[k]? = some C[k] := List.getElem?_eq_getElem hk'
            have hxC := HC.out _ (List.getElem_mem hk')
            obtain ⟨ad, rfl, _, c0, c1', c2, c3⟩ := (HS.out.below HBK.out).seat hx
            generalize C[k] = x at *
            have HX := Lib.hid hx
            have hbA := HBK.out.alloc HBK.out.size (.cells #[.string x.adr, .string x.key, .int .i64 x.pow, .int .i64 x.pri] 57)
            have HBA := Lib.hid hbA
            have HBB := Lib.hid (HBL.out.alloc HBL.out.size (.cells #[.string x.adr, .string x.key, .int .i64 x.pow, .int .i64 x.pri] 57))
            have hrs := remSum_bd (vals := V) (fun y hy => by have := HP.out y hy; omega) (upsL (C.take k))
            have hrl : (upsL (C.take k)).length ≤ 60 := by
              have h1 : (upsL (C.take k)).length ≤ (C.take k).length := List.length_filter_le _ _
              rw [List.length_take] at h1; omega
            by_cases h0 : x.pow = 0
            · have HN := Lib.hid (rem_zero (V := V) hx h0)
              have hz0 : ((x.pow == 0) = true) := by simp [h0]
              have H0 := Lib.hid h0
              clear hx h0 hbA hrs
              go_wp2
              go_roundw
              case rel => exact ⟨k + 1, by omega, by go_num, by rw [HN.out], HBB.out⟩
              case measure => simp [intOf]; omega
            · have hpos : ((x.pow == 0) = false) := beq_eq_false_iff_ne.2 h0
              have KV := Lib.hid (sat_same V A n c x.adr (wr.alloc (.cells #[.string x.adr, .string x.key, .int .i64 x.pow, .int .i64 x.pri] 57)) ((((HR.out.below hbA).more hbA.size))) (by omega))
              clear hbA
              rcases atL_cases x.adr V with ⟨hn1, _⟩ | ⟨i, v, hi, hv, _⟩
              · have HN := Lib.hid (rem_new (V := V) hx (by omega))
                rw [hn1] at KV
                clear hx hrs
                go_wp2_with (go_at_call 37; refine KV.out.mono ?_; rintro e w9 ⟨rfl, rfl⟩)
                go_roundw
                case rel => exact ⟨k + 1, by omega, by go_num, by rw [HN.out], HBB.out⟩
                case measure => simp [intOf]; omega
              · have HN := Lib.hid (rem_old hx h0 hi hv)
                rw [hi] at KV
                have hiV := (List.getElem?_eq_some_iff.1 hv).1
                have hin : i < n := by have := HLV.out; omega
                have hvp := HP.out v (List.mem_of_getElem? hv)
                obtain ⟨ad2, rfl, _, e0, e1, e2, e3⟩ := (HR.out.below HBA.out).seat hv
                clear hx hv e0 e1 e3
                generalize remSum V (upsL (C.take k)) = rk at *
                go_wp2_with (go_at_call 37; refine KV.out.mono ?_; rintro e w9 ⟨rfl, rfl⟩)
                go_roundw
                case rel => exact ⟨k + 1, by omega, by go_num, by rw [HN.out]; go_num, HBB.out⟩
                case measure => simp [intOf]; omega
            --@E l2
          · obtain rfl : m = k := by omega
            rw [List.take_of_length_le (by have := HLC.out; omega)]
            generalize hruv : remSum V (upsL C) = ru at *
            have HRU := Lib.hid hruv; clear hruv
            have hrn := HRN.out
            have HGC := Lib.hid HT2.out.good
            have htn : ∀ j, 0 ≤ totL (C.take j) := fun j => sumI_nn _ (fun p hp => by obtain ⟨y, hy, rfl⟩ := List.mem_map.1 hp; exact (HGC.out.1 y (List.mem_of_mem_take hy)).1)
            have HTN := Lib.hid htn; clear htn
            obtain ⟨w3, hw3⟩ : ∃ x : World, x = wr := ⟨_, rfl⟩
            subst hw3
            have z3 := HBK.out.size
            have HOUT3 := Lib.hid (own_below HOUT.out HBL.out (Nat.le_refl _))
            clear HOUT
            go_wp2
            go_loopw [13, 125] (fun t i wr => ∃ k : Nat, k ≤ m ∧ i = .int .i64 k ∧ t = .int .i64 (tv - le - ru + totL (C.take k)) ∧ Hid (tv - le - ru + totL (C.take k) ≤ 1152921504606846975) ∧ Hid (Below w3.heap.size w3 wr)) (fun _ i _ => m - (intOf i).toNat)
            case atStart => exact ⟨0, Nat.zero_le _, rfl, by show Value.int _ _ = Value.int _ _; congr 1; show _ = tv - le - ru + 0; omega, by show _ ≤ _; rw [List.take_zero, totL_nil]; omega, Below.refl _ _⟩
            case round =>
              obtain ⟨k, hk, rfl, rfl, HM, HBL3⟩ := hrel
              have HBK3 := Lib.hid (HBK.out.trans (HBL3.out.mono z3))
              have htk := HTN.out k
              have htm := HM.out
              by_cases hlt : k < m
              ·
                --@P l3
                have hk' : k < C.length := by have := HLC.out; omega
                have hx : C[k]? = some C[k] := List.getElem?_eq_getElem hk'
                obtain ⟨ad, rfl, _, c0, c1', c2, c3⟩ := (HS.out.below HBK3.out).seat hx
                have hxg := HGC.out.1 _ (List.getElem_mem hk')
                generalize C[k] = x at *
                have HX := Lib.hid hx
                have hst : totL (C.take (k + 1)) = totL (C.take k) + x.pow := by rw [take_next hx, totL_append, totL_cons, totL_nil, Int.add_zero]
                have HBB := Lib.hid (HBL3.out.alloc HBL3.out.size (.cells #[.string x.adr, .string x.key, .int .i64 x.pow, .int .i64 x.pri] 57))
                have HBA := Lib.hid (HBK3.out.alloc HBK3.out.size (.cells #[.string x.adr, .string x.key, .int .i64 x.pow, .int .i64 x.pri] 57))
                by_cases hbig : 1152921504606846975 < tv - le - ru + totL (C.take k) + x.pow
                · have hbad : ¬ okCh V C := not_ok_most HT2.out (k := k + 1) (by rw [hst, HRU.out, HTV.out]; omega)
                  have HBAD := Lib.hid hbad
                  clear hx hst hbad
                  generalize totL (C.take k) = tk at *
                  go_wp2
                  (try go_ret2)
                  rw [HQ.out]
                  exact ⟨HBA.out, .inr (.inr ⟨HNE.out, HBAD.out, rfl⟩)⟩
                · have hneg : ¬ (tv - le - ru + totL (C.take k) + x.pow < 0) := by omega
                  have HST := Lib.hid hst
                  clear hx hst
                  generalize totL (C.take k) = tk at *
                  go_wp2
                  go_roundw
                  case rel => exact ⟨k + 1, by omega, by go_num, by rw [HST.out]; go_num, by show _ ≤ _; rw [HST.out]; omega, HBB.out⟩
                  case measure => simp [intOf]; omega
                --@E l3
              · obtain rfl : m = k := by omega
                rw [List.take_of_length_le (by have := HLC.out; omega)] at htm htk ⊢
                have hok : okCh V C := okCh_iff HT2.out HE.out (by rw [HRU.out, HTV.out]; exact htm)
                have hsd := sumD_eq V (upsL C)
                rw [ups_tot, HRU.out] at hsd
                obtain ⟨T, hT⟩ : ∃ T, T = totL V + sumD V (upsL C) := ⟨_, rfl⟩
                have hTe : tv - le - ru + totL C + le = T := by rw [hT, hsd, HTV.out]; omega
                have hTb : 0 ≤ T ∧ T ≤ 1729382256910270464 := by omega
                have hkt := kept_total HV.out hok
                rw [← hT, ← HT2.out.less_] at hkt
                have hkm : totL (keptL V C) ≤ 1152921504606846975 := by omega
                have hKe : keptL V C = V.filterMap (keepF C) ++ C.filterMap (freshF V T) := by rw [hT]; rfl
                have HKP := Lib.hid (kept_pri HPR.out (by rw [← hT]; exact hTb) : ∀ x ∈ keptL V C, _)
                have HKW := Lib.hid (kept_pow (C := C) (fun x hx => (HP.out x hx).1))
                have HKN := Lib.hid (kept_ne HV.out hok)
                have HKL := Lib.hid (kept_len V C)
                have HOK := Lib.hid hok; have HKM := Lib.hid hkm; have HKE := Lib.hid hKe; have HTE := Lib.hid hTe
                have HB4 := Lib.hid HBK3.out
                have HO4 := Lib.hid (own_below HOUT3.out HBL3.out (Nat.le_refl _))
                clear hok hkt hkm hKe hsd hT HOUT3 HM
                obtain ⟨w4, hw4⟩ : ∃ x : World, x = wr := ⟨_, rfl⟩
                subst hw4
                have z4 := HB4.out.size
                have HRO := Lib.hid (Rd.of_own HO4.out)
                clear HO4
                generalize totL C = tc at *
                go_wp2
                clear hTe HTE
                go_loopw [20, 145] (fun kp i wr => ∃ (k q : Nat) (A2 : Option Addr) (c2 : Nat), k ≤ n ∧ i = .int .i64 k ∧ kp = .slice A2 q c2 ∧ q ≤ k ∧ Hid (wr.ownsRow w4.heap.size 57 4 (.slice A2 q c2) q (cellsOf ((V.take k).filterMap (keepF C)))) ∧ Hid (Below w4.heap.size w4 wr)) (fun _ i _ => n - (intOf i).toNat)
                case atStart => exact ⟨0, 0, none, 0, Nat.zero_le _, rfl, rfl, Nat.zero_le _, World.ownsRow_nil _ _ _ _, Below.refl _ _⟩
                case round =>
                  obtain ⟨k, q, A2, c2, hk, rfl, rfl, hqk, HO5, HBL4⟩ := hrel
                  have HBK4 := Lib.hid (HB4.out.trans (HBL4.out.mono z4))
                  have zr := HBL4.out.size
                  by_cases hlt : k < n
                  ·
                    --@P l4
                    have hk' : k < V.length := by have := HLV.out; omega
                    have hx : V[k]? = some V[k] := List.getElem?_eq_getElem hk'
                    have hkx := kept_step (C := C) hx
                    obtain ⟨ad, hA1, _, c0, c1', c2', c3⟩ := (HRO.out.below HBL4.out).seat hx
                    subst hA1
                    generalize V[k] = x at *
                    generalize (V.take k).filterMap (keepF C) = acc at *
                    have HX := Lib.hid hx
                    have hbA := HBK4.out.alloc HBK4.out.size (.cells #[.string x.adr, .string x.key, .int .i64 x.pow, .int .i64 x.pri] 57)
                    have HBA := Lib.hid hbA
                    have HBB := Lib.hid (HBL4.out.alloc HBL4.out.size (.cells #[.string x.adr, .string x.key, .int .i64 x.pow, .int .i64 x.pri] 57))
                    have KV := Lib.hid (sat_same C B m d x.adr (wr.alloc (.cells #[.string x.adr, .string x.key, .int .i64 x.pow, .int .i64 x.pri] 57)) ((((HS.out.below hbA).more hbA.size))) (by omega))
                    clear hbA hx
                    rcases atL_cases x.adr C with ⟨hn1, _⟩ | ⟨i, v, hi, hv, _⟩
                    · have hst : (V.take (k + 1)).filterMap (keepF C) = acc ++ [x] := by rw [hkx, keep_none (by omega)]; rfl
                      have HST := Lib.hid hst
                      rw [hn1] at KV
                      clear hst hkx
                      go_wp2_with (first | (go_at_call 37; refine KV.out.mono ?_; rintro e w8 ⟨rfl, rfl⟩) | (at_builtin; refine wpList_app _ rfl (.tmp 156) (.tmp 158) 24 rfl w4.heap.size 57 i0 _ 4 48 Tryz.underlying24 HI.out HZ0.out HZ1.out HZ2.out rfl (by decide) (.slice A2 q c2) q (cellsOf acc) rfl ?ho (wr.heap.size + 1 + 1) (some ⟨wr.heap.size + 1, 0, none⟩) 1 1 x.cells rfl ?hr x.cells_one ?q1 ?q2 ?hb ?_; (case q1 => simp only [maxLen]; omega); (case q2 => omega); (case hr => exact Rd.new _ _ _ 4 1 _ rfl (by simp)); (case ho => exact (HO5.out.alloc _).alloc _); (case hb => simp; omega); intro A3 c3 w9 hown2 hg2 _; rw [cellsOf_snoc] at hown2))
                      go_roundw
                      case rel => exact ⟨k + 1, q + 1, A3, c3, by omega, by go_num, rfl, by omega, by show World.ownsRow _ _ _ _ _ _ _; rw [HST.out]; exact hown2, (HBB.out.alloc (by have := HBB.out.size; simpa using this) _).grown hg2 (by simp; omega) (own_base HO5.out)⟩
                      case measure => simp [intOf]; omega
                    · have hkk := keep_some hi hv
                      rw [hi] at KV
                      have hiC := (List.getElem?_eq_some_iff.1 hv).1
                      have him : i < m := by have := HLC.out; omega
                      have hvp := HGC.out.1 v (List.mem_of_getElem? hv)
                      obtain ⟨ad2, hB2, hb2, e0, e1, e2, e3⟩ := (HS.out.below HBK4.out).seat hv
                      subst hB2
                      have zk := HBK4.out.size
                      have hblk : (ad2.add (i * 4)).block < wr.heap.size := by rw [add_block]; omega
                      have f1 : ∀ o, (wr.alloc o).cell? ⟨(ad2.add (i * 4)).block, (ad2.add (i * 4)).off + 1, none⟩ = some (.string v.key) := fun o => (World.cell?_alloc_lt wr o ⟨(ad2.add (i * 4)).block, (ad2.add (i * 4)).off + 1, none⟩ hblk).trans e1
                      have f2 : ∀ o, (wr.alloc o).cell? ⟨(ad2.add (i * 4)).block, (ad2.add (i * 4)).off + 2, none⟩ = some (.int .i64 v.pow) := fun o => (World.cell?_alloc_lt wr o ⟨(ad2.add (i * 4)).block, (ad2.add (i * 4)).off + 2, none⟩ hblk).trans e2
                      clear hv e0 e1 e2 e3 hblk hb2
                      by_cases hp0 : 0 < v.pow
                      · have hst : (V.take (k + 1)).filterMap (keepF C) = acc ++ [{ x with pow := v.pow, key := v.key }] := by rw [hkx, hkk, if_pos hp0]; rfl
                        have HST := Lib.hid hst
                        clear hst hkx hkk
                        go_wp2_with (go_at_call 37; refine KV.out.mono ?_; rintro e w8 ⟨rfl, rfl⟩)
                        go_region
                        go_wp2_with (at_builtin; refine wpList_app _ rfl (.tmp 179) (.tmp 181) 24 rfl w4.heap.size 57 i0 _ 4 48 Tryz.underlying24 HI.out HZ0.out HZ1.out HZ2.out rfl (by decide) (.slice A2 q c2) q (cellsOf acc) rfl ?ho (wr.heap.size + 1 + 1) (some ⟨wr.heap.size + 1, 0, none⟩) 1 1 ({ x with pow := v.pow, key := v.key } : Sd).cells rfl ?hr ({ x with pow := v.pow, key := v.key } : Sd).cells_one ?q1 ?q2 ?hb ?_; (case q1 => simp only [maxLen]; omega); (case q2 => omega); (case hr => exact Rd.new _ _ _ 4 1 _ rfl (by simp)); (case ho => exact (own_drewN (HO5.out.alloc _) 1).alloc _); (case hb => simp; omega); intro A3 c3 w9 hown2 hg2 _; rw [cellsOf_snoc] at hown2)
                        go_roundw
                        case rel => exact ⟨k + 1, q + 1, A3, c3, by omega, by go_num, rfl, by omega, by show World.ownsRow _ _ _ _ _ _ _; rw [HST.out]; exact hown2, ((HBL4.out.alloc HBL4.out.size _).drew.alloc (by simp; omega) _).grown hg2 (by simp; omega) (own_base HO5.out)⟩
                        case measure => simp [intOf]; omega
                      · have hst : (V.take (k + 1)).filterMap (keepF C) = acc := by rw [hkx, hkk, if_neg hp0]; simp
                        have HST := Lib.hid hst
                        clear hst hkx hkk
                        go_wp2_with (go_at_call 37; refine KV.out.mono ?_; rintro e w8 ⟨rfl, rfl⟩)
                        go_roundw
                        case rel => exact ⟨k + 1, q, A2, c2, by omega, by go_num, rfl, by omega, by show World.ownsRow _ _ _ _ _ _ _; rw [HST.out]; exact HO5.out.alloc _, HBB.out⟩
                        case measure => simp [intOf]; omega
                    --@E l4
                  · obtain rfl : n = k := by omega
                    rw [List.take_of_length_le (by have := HLV.out; omega)] at HO5
                    obtain ⟨w5, hw5⟩ : ∃ x : World, x = wr := ⟨_, rfl⟩
                    subst hw5
                    clear HRO
                    go_wp2
                    go_loopw [20, 186] (fun kp i wr => ∃ (k q : Nat) (A2 : Option Addr) (c2 : Nat), k ≤ m ∧ i = .int .i64 k ∧ kp = .slice A2 q c2 ∧ q ≤ n + k ∧ Hid (wr.ownsRow w4.heap.size 57 4 (.slice A2 q c2) q (cellsOf (V.filterMap (keepF C) ++ (C.take k).filterMap (freshF V T)))) ∧ Hid (Below w4.heap.size w4 wr)) (fun _ i _ => m - (intOf i).toNat)
                    case atStart => exact ⟨0, q, A2, c2, Nat.zero_le _, rfl, rfl, by omega, by show World.ownsRow _ _ _ _ _ _ _; rw [List.take_zero, List.filterMap_nil, List.append_nil]; exact HO5.out, HBL4.out⟩
                    clear HO5 HBL4 hqk
                    case round =>
                      obtain ⟨k, q, A2, c2, hk, rfl, rfl, hqk, HO5, HBL4⟩ := hrel
                      have HBK4 := Lib.hid (HB4.out.trans (HBL4.out.mono z4))
                      have zr := HBL4.out.size
                      by_cases hlt : k < m
                      ·
                        --@P l5
                        have hk' : k < C.length := by have := HLC.out; omega
                        have hx : C[k]? = some C[k] := List.getElem?_eq_getElem hk'
                        have hkx := fresh_step (V := V) (T := T) hx
                        obtain ⟨ad, hB1, _, c0, c1', c2', c3⟩ := (HS.out.below HBK4.out).seat hx
                        subst hB1
                        have hxg := HGC.out.1 _ (List.getElem_mem hk')
                        generalize C[k] = x at *
                        generalize hac : V.filterMap (keepF C) ++ (C.take k).filterMap (freshF V T) = acc at *
                        have hnx : V.filterMap (keepF C) ++ (C.take (k + 1)).filterMap (freshF V T) = acc ++ (freshF V T x).toList := by rw [hkx, ← hac, List.append_assoc]
                        have hbA := HBK4.out.alloc HBK4.out.size (.cells #[.string x.adr, .string x.key, .int .i64 x.pow, .int .i64 x.pri] 57)
                        have HBB := Lib.hid (HBL4.out.alloc HBL4.out.size (.cells #[.string x.adr, .string x.key, .int .i64 x.pow, .int .i64 x.pri] 57))
                        have KV := Lib.hid (sat_same V A n c x.adr (wr.alloc (.cells #[.string x.adr, .string x.key, .int .i64 x.pow, .int .i64 x.pri] 57)) ((((HR.out.below hbA).more hbA.size))) (by omega))
                        clear hbA hx hkx hac
                        by_cases h0 : 0 < x.pow
                        · rcases atL_cases x.adr V with ⟨hn1, _⟩ | ⟨i, v, hi, hv, _⟩
                          · have hst : V.filterMap (keepF C) ++ (C.take (k + 1)).filterMap (freshF V T) = acc ++ [({ x with pri := -(T + T / 8) } : Sd)] := by rw [hnx]; unfold freshF; rw [if_pos ⟨h0, by omega⟩]; rfl
                            have HST := Lib.hid hst
                            rw [hn1] at KV
                            clear hst hnx
                            go_wp2_with (first | (go_at_call 37; refine KV.out.mono ?_; rintro e w8 ⟨rfl, rfl⟩) | (at_builtin; refine wpList_app _ rfl (.tmp 200) (.tmp 213) 24 rfl w4.heap.size 57 i0 _ 4 48 Tryz.underlying24 HI.out HZ0.out HZ1.out HZ2.out rfl (by decide) (.slice A2 q c2) q (cellsOf acc) rfl ?ho (wr.heap.size + 1 + 1) (some ⟨wr.heap.size + 1, 0, none⟩) 1 1 ({ x with pri := -(T + T / 8) } : Sd).cells rfl ?hr ({ x with pri := -(T + T / 8) } : Sd).cells_one ?q1 ?q2 ?hb ?_; (case q1 => simp only [maxLen]; omega); (case q2 => omega); (case hr => exact Rd.new _ _ _ 4 1 _ rfl (by simp)); (case ho => exact (HO5.out.alloc _).alloc _); (case hb => simp; omega); intro A3 c3 w9 hown2 hg2 _; rw [cellsOf_snoc] at hown2))
                            go_roundw
                            case rel => exact ⟨k + 1, q + 1, A3, c3, by omega, by go_num, rfl, by omega, by show World.ownsRow _ _ _ _ _ _ _; rw [HST.out]; exact hown2, (HBB.out.alloc (by have := HBB.out.size; simpa using this) _).grown hg2 (by simp; omega) (own_base HO5.out)⟩
                            case measure => simp [intOf]; omega
                          · have hst : V.filterMap (keepF C) ++ (C.take (k + 1)).filterMap (freshF V T) = acc := by rw [hnx]; unfold freshF; rw [if_neg (fun h => by omega)]; simp
                            have HST := Lib.hid hst
                            rw [hi] at KV
                            clear hst hnx hv
                            go_wp2_with (go_at_call 37; refine KV.out.mono ?_; rintro e w8 ⟨rfl, rfl⟩)
                            go_roundw
                            case rel => exact ⟨k + 1, q, A2, c2, by omega, by go_num, rfl, by omega, by show World.ownsRow _ _ _ _ _ _ _; rw [HST.out]; exact HO5.out.alloc _, HBB.out⟩
                            case measure => simp [intOf]; omega
                        · have hst : V.filterMap (keepF C) ++ (C.take (k + 1)).filterMap (freshF V T) = acc := by rw [hnx]; unfold freshF; rw [if_neg (fun h => h0 h.1)]; simp
                          have HST := Lib.hid hst
                          clear hst hnx
                          go_wp2
                          go_roundw
                          case rel => exact ⟨k + 1, q, A2, c2, by omega, by go_num, rfl, by omega, by show World.ownsRow _ _ _ _ _ _ _; rw [HST.out]; exact HO5.out.alloc _, HBB.out⟩
                          case measure => simp [intOf]; omega
                        --@E l5
                      · obtain rfl : m = k := by omega
                        rw [List.take_of_length_le (by have := HLC.out; omega), ← HKE.out] at HO5
                        have hrk : Rd wr wr.heap.size 4 A2 q (cellsOf (keptL V C)) := Rd.of_own HO5.out
                        have hql := hrk.len
                        have hq0 : 0 < q := by rw [hql]; exact List.length_pos_iff.2 HKN.out
                        have houl := outL_len V C
                        have HRK := Lib.hid hrk
                        have KT := Lib.hid (stotalW_any (keptL V C) A2 q c2 wr hrk (by omega) (fun x hx => by have := HKW.out x hx; omega) HKM.out)
                        have HQL := Lib.hid (houl.trans hql.symm)
                        have zk := HBK4.out.size
                        have hou : outL V C = rankedL (shiftL (scaleL (2 * totL (keptL V C)) (keptL V C))) := rfl
                        have HOU := Lib.hid hou
                        have hsp := scaleL_pri (2 * totL (keptL V C)) (keptL V C) 2305843009213693952 (fun s hs => by have := HKP.out s hs; omega)
                        have HSP := Lib.hid hsp
                        have hkm := HKM.out
                        have hk1 := totL_one (keptL V C) HKW.out
                        rw [← hql] at hk1
                        clear hrk hql houl hou hsp
                        generalize htk : totL (keptL V C) = tk at *
                        go_wp2_with (go_at_call 38; refine KT.out.mono ?_; rintro e w6 ⟨rfl, hb6⟩; have HB6 := Lib.hid (HBK4.out.trans (hb6.mono zk)); have HB6' := Lib.hid hb6; clear hb6)
                        have KS := Lib.hid (sscaledW_any (keptL V C) A2 q c2 (2 * tk) w6 ((HRK.out.below HB6'.out).more HB6'.out.size) (by omega) hq0 HKP.out (by omega))
                        go_wp2_with (go_at_call 40; refine KS.out.mono ?_; rintro e w7 ⟨A7, c7, rfl, hr7, hb7⟩; have HB7 := Lib.hid (HB6.out.trans (hb7.mono HB6.out.size)); have HR7 := Lib.hid hr7; clear hb7 hr7)
                        have KH := Lib.hid (shifted_any _ A7 q c7 w7 HR7.out (by omega) hq0 (fun x hx => by have := HSP.out x hx; omega))
                        go_wp2_with (go_at_call 39; refine KH.out.mono ?_; rintro e w8 ⟨A8, c8, rfl, hr8, hb8⟩; have HB8 := Lib.hid (HB7.out.trans (hb8.mono HB7.out.size)); have HR8 := Lib.hid (Rd.of_own hr8); clear hb8 hr8)
                        have KR := Lib.hid (ranked_any _ A8 q c8 w8 HR8.out (by omega))
                        rw [← HOU.out] at KR
                        go_wp2_with (go_at_call 32; refine KR.out.mono ?_; rintro e w9 ⟨A9, c9, rfl, hr9, hb9⟩; have HB9 := Lib.hid (HB8.out.trans (hb9.mono HB8.out.size)); have HR9 := Lib.hid hr9; clear hb9 hr9)
                        (try go_ret2)
                        rw [HQ.out]
                        have hr9 := HR9.out
                        rw [← HQL.out] at hr9
                        exact ⟨HB9.out, .inr (.inl ⟨HNE.out, HOK.out, A9, c9, by rw [HQL.out]; rfl, hr9⟩)⟩
end Go.Proofs.YtikikddkhikfkaaGreatDoor
