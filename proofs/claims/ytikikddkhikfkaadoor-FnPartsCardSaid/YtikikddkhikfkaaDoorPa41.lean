/-
  laws.FnParts: the walk. Printed by gen_lparts.py. By the session.
-/
import Derived.Test.YtikikddkhikfkaaDoorPa39
import Derived.Test.YtikikddkhikfkaaDoorPa29
import Derived.Test.YtikikddkhikfkaaDoorPa40
import Derived.Test.YtikikddkhikfkaaDoorPa25
set_option linter.all false
namespace Go.Proofs.YtikikddkhikfkaaDoor
open Go.RowKit

set_option maxRecDepth 100000 in
set_option maxHeartbeats 25600000 in
theorem fnParts_any (DA OA TA : Option Addr) (dc oc tc : Nat) (dl tl : List UInt8) (ol : List Int) (sz pl : Int) (w : World) (hd : Rd w w.heap.size 1 DA dl.length (bc dl)) (hdc : dl.length ≤ dc) (hdb : ∀ ad, DA = some ad → ad.block < w.heap.size)
    (ho : Rd w w.heap.size 1 OA ol.length (ic ol)) (hoc : ol.length ≤ oc) (hoi : ∀ x ∈ ol, -9223372036854775808 ≤ x ∧ x ≤ 9223372036854775807) (ht : Rd w w.heap.size 1 TA tl.length (bc tl)) (htc : tl.length ≤ tc) (htb : ∀ ad, TA = some ad → ad.block < w.heap.size)
    (hsz : -9223372036854775808 ≤ sz ∧ sz ≤ 9223372036854775807) (hpl : -9223372036854775808 ≤ pl ∧ pl ≤ 9223372036854775807) (hK : Kw w) (herr : ∃ v, w.cell? ⟨1, 0, none⟩ = some v) :
    Calls Tryd.prog 5 #[.slice DA dl.length dc, .int .i64 sz, .slice OA ol.length oc, .int .i64 pl, .slice TA tl.length tc] w fun e w' => e = .returned (.bool true) ∧ Below w.heap.size w w' := by
  have HD := Lib.hid (And.intro hd (And.intro hdc hdb)); have HO := Lib.hid (And.intro ho (And.intro hoc hoi)); have HT := Lib.hid (And.intro ht (And.intro htc htb)); have HK := Lib.hid hK; have HE := Lib.hid herr
  obtain ⟨Ld, hLd⟩ : ∃ Ld, Ld = dl.length := ⟨_, rfl⟩
  obtain ⟨Lo, hLo⟩ : ∃ Lo, Lo = ol.length := ⟨_, rfl⟩
  obtain ⟨Lt, hLt⟩ : ∃ Lt, Lt = tl.length := ⟨_, rfl⟩
  rw [← hLd, ← hLo, ← hLt]
  have hdc' : Ld ≤ dc := by omega
  have hoc' : Lo ≤ oc := by omega
  have htc' : Lt ≤ tc := by omega
  have HLS := Lib.hid (And.intro hLd (And.intro hLo hLt))
  clear hd hdc hdb ho hoc hoi ht htc htb hK herr hLd hLo hLt
  by_cases b1 : (Ld : Int) > 2147483647
  · go_enter Tryd.func5, Tryd.ntmps5
    go_wp2
    go_ret
    exact ⟨rfl, Below.refl _ _⟩
  by_cases b2 : (Lo : Int) > 2147483647
  · go_enter Tryd.func5, Tryd.ntmps5
    go_wp2
    go_ret
    exact ⟨rfl, Below.refl _ _⟩
  by_cases b3 : (Lt : Int) > 2147483647
  · go_enter Tryd.func5, Tryd.ntmps5
    go_wp2
    go_ret
    exact ⟨rfl, Below.refl _ _⟩
  obtain ⟨L, hL⟩ : ∃ L, L = min Ld 5000 := ⟨_, rfl⟩
  obtain ⟨M, hM⟩ : ∃ M, M = min Lo 400 := ⟨_, rfl⟩
  obtain ⟨ms, hms⟩ : ∃ ms : Nat, mag sz = (ms : Int) := ⟨(mag sz).toNat, by have := mag_pos sz; omega⟩
  obtain ⟨mp, hmp⟩ : ∃ mp : Nat, mag pl = (mp : Int) := ⟨(mag pl).toNat, by have := mag_pos pl; omega⟩
  obtain ⟨S, hS⟩ : ∃ S, S = 16 + ms % 1000 := ⟨_, rfl⟩
  have hL1 : min (Ld : Int) 5000 = (L : Int) := by omega
  have hM1 : min (Lo : Int) 400 = (M : Int) := by omega
  have hLd2 : L ≤ dc := by omega
  have hMd2 : M ≤ oc := by omega
  have hmx : max sz (wrap64 (-wrap64 (sz + 1))) = (ms : Int) := by rw [mag_max hsz, hms]
  have hmx2 : max pl (wrap64 (-wrap64 (pl + 1))) = (mp : Int) := by rw [mag_max hpl, hmp]
  have hms2 : ms ≤ 9223372036854775807 := by unfold mag at hms; split at hms <;> omega
  have hmp2 : mp ≤ 9223372036854775807 := by unfold mag at hmp; split at hmp <;> omega
  have hSS : (16 : Int) + (ms : Int) % 1000 = (S : Int) := by omega
  have hS1 : 16 ≤ S := by omega
  have hS2 : S ≤ 1015 := by omega
  have hL5 : L ≤ 5000 := by omega
  have hM4 : M ≤ 400 := by omega
  obtain ⟨d, hdd⟩ : ∃ d, d = dl.take 5000 := ⟨_, rfl⟩
  obtain ⟨o4, ho4⟩ : ∃ o4, o4 = ol.take 400 := ⟨_, rfl⟩
  have hdL : d.length = L := by rw [hdd, List.length_take, ← HLS.out.1]; omega
  have hoM : o4.length = M := by rw [ho4, List.length_take, ← HLS.out.2.1]; omega
  have HRD : Hid (Rd w w.heap.size 1 DA L (bc d)) := Lib.hid (by
    have h := HD.out.1.take (k := L) (by have := HLS.out; omega)
    rw [Nat.mul_one] at h
    have e : (bc dl).take L = bc d := by unfold bc; rw [← List.map_take, hdd, hL, HLS.out.1, Nat.min_comm, ← List.take_eq_take_min]
    rw [e] at h; exact h)
  have HRO : Hid (Rd w w.heap.size 1 OA M (ic o4)) := Lib.hid (by
    have h := HO.out.1.take (k := M) (by have := HLS.out; omega)
    rw [Nat.mul_one] at h
    have e : (ic ol).take M = ic o4 := by unfold ic; rw [← List.map_take, ho4, hM, HLS.out.2.1, Nat.min_comm, ← List.take_eq_take_min]
    rw [e] at h; exact h)
  have HOI : Hid (∀ x ∈ o4, -9223372036854775808 ≤ x ∧ x ≤ 9223372036854775807) := Lib.hid fun x hx => HO.out.2.2 x (List.mem_of_mem_take (by rw [ho4] at hx; exact hx))
  have HDL := Lib.hid (And.intro hdL hoM)
  clear hL hM hms hmp hS hdd ho4 hdL hoM hsz hpl
  by_cases b4 : L = 0
  · subst b4
    go_enter Tryd.func5, Tryd.ntmps5
    go_wp2_with fail
    go_region
    go_wp2_with fail
    go_ret
    exact ⟨rfl, (Below.refl _ _).drew⟩
  obtain ⟨a, hDA⟩ : ∃ a, DA = some a := by
    obtain ⟨ad, h, _⟩ := HRD.out.2 0 _ (bc_get (List.getElem?_eq_getElem (by have := HDL.out.1; omega)))
    exact ⟨ad, h⟩
  subst hDA
  have hab := HD.out.2.2 a rfl
  obtain ⟨n, hn⟩ : ∃ n, n = chunkN S L := ⟨_, rfl⟩
  have hn1 : 1 ≤ n := by rw [hn]; exact chunkN_pos (by omega) (by omega)
  have hnL : n ≤ L := by rw [hn]; exact chunkN_le (by omega)
  have HN := Lib.hid hn; have HAB := Lib.hid hab
  obtain ⟨i0, hi0, hz0, hz1, hz2⟩ := info_parts infoBs
  have HI := Lib.hid hi0; have HZ0 := Lib.hid hz0; have HZ1 := Lib.hid hz1; have HZ2 := Lib.hid hz2
  obtain ⟨j0, hj0, hy0, hy1, hy2⟩ := info_parts infoI1
  have HJ := Lib.hid hj0; have HY0 := Lib.hid hy0; have HY1 := Lib.hid hy1; have HY2 := Lib.hid hy2
  clear hn hab hi0 hz0 hz1 hz2 hj0 hy0 hy1 hy2
  go_enter Tryd.func5, Tryd.ntmps5
  go_wp2_with fail
  go_region
  go_wp2_with fail
  obtain ⟨W0, hW0⟩ : ∃ W0, W0 = w.drew := ⟨_, rfl⟩
  rw [← hW0]
  have HW0 : Hid (Below w.heap.size w W0) := Lib.hid (by rw [hW0]; exact (Below.refl _ _).drew)
  clear hW0 hL1 hM1 hmx hSS
  go_loopw [11, 12] (fun v i wr => ∃ (k : Nat) (A1 : Option Addr) (c1 q : Nat), k ≤ n ∧ Hid (q = k * S) ∧ i = .int .i64 q ∧ v = .slice A1 k c1 ∧ Hid (wr.ownsRow w.heap.size 22 1 (.slice A1 k c1) k ((List.range k).map fun i => (chunkB a dc S d i).cell)) ∧ Hid (Below w.heap.size w wr)) (fun _ i _ => L + S - (intOf i).toNat)
  case atStart => exact ⟨0, none, 0, 0, Nat.zero_le _, Lib.hid (by omega), rfl, rfl, Lib.hid (World.ownsRow_nil _ _ _ _), HW0.out⟩
  case round =>
    obtain ⟨k, A1, c1, q, hk, hqh, rfl, rfl, HRO1, HB⟩ := hrel
    have hq := hqh.out
    clear hqh
    by_cases hlt : k < n
    · have hkS : k * S < L := by rw [HN.out] at hlt; exact (chunkN_lt (by omega)).1 hlt
      rw [← hq] at hkS
      obtain ⟨m, hm⟩ : ∃ m, m = min (q + S) L := ⟨_, rfl⟩
      have hmin : min ((q : Int) + (S : Int)) (L : Int) = (m : Int) := by omega
      have hqm : q ≤ m := by omega
      have hmc : m ≤ dc := by omega
      have hcellx : Hid ((chunkB a dc S d k).cell = .slice (some (a.add q)) (m - q) (dc - q)) := Lib.hid (by
        unfold chunkB Sb.cell
        rw [chunkS_len, HDL.out.1, ← hq]
        congr 1
        omega)
      have hr7 := Rd.new wr #[.slice (some (a.add q)) (m - q) (dc - q)] 22 1 1 wr.heap.size rfl rfl
      have hb7 : Below wr.heap.size wr (wr.alloc (.cells #[.slice (some (a.add q)) (m - q) (dc - q)] 22)) := (Below.refl _ _).alloc (Nat.le_refl _) _
      have hB7 := HB.out.trans (hb7.mono HB.out.size)
      have hro7 := own_below HRO1.out hb7 (Nat.le_refl _)
      have HR7 := Lib.hid hr7; have HRO7 := Lib.hid hro7; have HB7 := Lib.hid hB7; have HQ := Lib.hid (And.intro hq hm)
      have hqd : ¬ (q : Int) ≥ (L : Int) := by omega
      have hk5 : k ≤ 5000 := by omega
      clear hr7 hb7 hB7 hro7 hq hm
      go_wp2_with (at_builtin; refine wpList_app _ rfl (.tmp 62) (.tmp 72) 61 rfl w.heap.size 22 i0 _ 1 24 Tryd.underlying61 HI.out HZ0.out HZ1.out HZ2.out rfl (by decide) (.slice A1 k c1) k ((List.range k).map fun i => (chunkB a dc S d i).cell) rfl HRO7.out (wr.heap.size + 1) (some ⟨wr.heap.size, 0, none⟩) 1 1 [.slice (some (a.add q)) (m - q) (dc - q)] rfl HR7.out ?q0 ?q1 ?q2 HB7.out.size ?_; (case q0 => intro u hu; rw [List.mem_singleton] at hu; rw [hu]; rfl); (case q1 => simp only [maxLen]; omega); (case q2 => omega); intro A8 c8 W8 hown8 hg8 _)
      have HHO : Hid (W8.ownsRow w.heap.size 22 1 (.slice A8 (k + 1) c8) (k + 1) ((List.range (k + 1)).map fun i => (chunkB a dc S d i).cell)) := Lib.hid (by
        rw [List.range_succ, List.map_append]
        simp only [List.map_cons, List.map_nil]
        rw [hcellx.out]; exact hown8)
      have HHB := Lib.hid (HB7.out.grown hg8 HB7.out.size (own_base HRO7.out))
      clear hown8 hg8
      go_roundw
      case rel => exact ⟨k + 1, by omega, A8, c8, q + S, Lib.hid (by rw [Nat.add_mul, Nat.one_mul, ← HQ.out.1]), by omega, ⟨rfl, rfl, rfl⟩, HHO.out, HHB.out⟩
      case measure => simp [intOf]; omega
    · have hqL : ¬ q < L := fun h => hlt (by rw [HN.out]; exact (chunkN_lt (by omega)).2 (by rw [← hq]; exact h))
      obtain rfl : k = n := by omega
      have hqL2 : q ≤ L + S := by
        have h1 := chunkN_le (S := S) (L := L) (by omega)
        have h2 : (k - 1) * S < L := (chunkN_lt (by omega)).1 (Nat.lt_of_lt_of_le (show k - 1 < k by omega) (Nat.le_of_eq HN.out))
        have h3 : k * S = (k - 1) * S + S := by rw [← Nat.succ_mul]; congr 1; omega
        omega
      clear hq
      go_wp2_with fail
      rename World => w1
      refine (iclone_any o4 OA M oc w1 ((HRO.out.below HB.out).more HB.out.size) (by omega)).mono ?_
      rintro e w2 ⟨A2, c2, rfl, hown2, hb2⟩
      have HO2 := Lib.hid hown2; have HB2 := Lib.hid hb2; have HRW := Lib.hid HRO1.out; have HBW := Lib.hid HB.out
      clear hown2 hb2 HRO1 HB
      go_wp2_with fail
      go_loopw [13, 78] (fun _ i wr => ∃ j : Nat, j ≤ M ∧ i = .int .i64 j ∧ Hid (wr.ownsRow w1.heap.size 3 1 (.slice A2 M c2) M (ic (mapTo (fun x => mag x % (k : Int)) o4 j))) ∧ Hid (Below w1.heap.size w1 wr)) (fun _ i _ => M - (intOf i).toNat)
      case atStart => exact ⟨0, Nat.zero_le _, rfl, Lib.hid (by rw [mapTo_zero]; exact HO2.out), HB2.out⟩
      case round =>
        obtain ⟨j, hj, rfl, HOJ, HBJ⟩ := hrel
        by_cases hlt2 : j < M
        · obtain ⟨x, hx⟩ : ∃ x, o4[j]? = some x := ⟨_, List.getElem?_eq_getElem (by have := HDL.out.2; omega)⟩
          obtain ⟨O, hA2, hOlo⟩ : ∃ O, A2 = some ⟨O, 0, none⟩ ∧ w1.heap.size ≤ O := by
            rcases HOJ.out.2 with ⟨_, h2⟩ | ⟨gg, cap, cur, hv, hlo, _⟩
            · omega
            · injection hv with h1 _ _; exact ⟨gg, h1, hlo⟩
          subst hA2
          have hxi := HOI.out x (List.mem_of_getElem? hx)
          obtain ⟨mx, hmx⟩ : ∃ mx : Nat, mag x = (mx : Int) := ⟨(mag x).toNat, by have := mag_pos x; omega⟩
          have hmx2' : mx ≤ 9223372036854775807 := by unfold mag at hmx; split at hmx <;> omega
          have hmax : max x (wrap64 (-wrap64 (x + 1))) = (mx : Int) := by rw [mag_max hxi, hmx]
          obtain ⟨r, hr⟩ : ∃ r : Nat, r = mx % k := ⟨_, rfl⟩
          have hrm : (mx : Int) % (k : Int) = (r : Int) := by rw [hr]; exact (Int.natCast_emod _ _).symm
          have hk0 : ¬ k = 0 := by omega
          have hcx : wr.cell? ⟨O, j, none⟩ = some (.int .i64 x) := by
            rw [HOJ.out.cellAt j (by omega)]
            exact ic_get (mapTo_get _ _ _ _ hx)
          have hfx : ∀ q, wr.frozen? ⟨O, q, none⟩ = false := fun q => HOJ.out.frozenAt q
          have HST : Hid ((wr.setCell ⟨O, j, none⟩ (.int .i64 (r : Int))).ownsRow w1.heap.size 3 1 (.slice (some ⟨O, 0, none⟩) M c2) M (ic (mapTo (fun x => mag x % (k : Int)) o4 (j + 1)))) := Lib.hid (by
            have h1 := (HOJ.out.stored j (.int .i64 (r : Int))).1
            have h2 : (ic (mapTo (fun x => mag x % (k : Int)) o4 j)).set j (.int .i64 (r : Int)) = ic (mapTo (fun x => mag x % (k : Int)) o4 (j + 1)) := by
              rw [← mapTo_succ _ _ _ _ hx]
              unfold ic
              rw [List.map_set]
              show _ = (List.map (Value.int .i64) (mapTo (fun x => mag x % (k : Int)) o4 j)).set j (.int .i64 (mag x % (k : Int)))
              rw [hmx, hrm]
            rw [h2] at h1; exact h1)
          have HSB : Hid (Below w1.heap.size w1 (wr.setCell ⟨O, j, none⟩ (.int .i64 (r : Int)))) := Lib.hid (HBJ.out.setCell (p := ⟨O, j, none⟩) hOlo _)
          clear hr hmx hx
          go_wp2_with fail
          go_region
          clear hcx hfx
          go_wp2_with fail
          go_roundw
          case rel => exact ⟨j + 1, by omega, by go_num, HST.out, HSB.out.drew⟩
          case measure => simp [intOf]; omega
        · obtain rfl : j = M := by omega
          have hfull : mapTo (fun x => mag x % (k : Int)) o4 j = o4.map (fun x => mag x % (k : Int)) := mapTo_full _ _ _ (by have := HDL.out.2; omega)
          rw [hfull] at HOJ
          obtain ⟨ord, hord⟩ : ∃ ord, ord = o4.map (fun x => mag x % (k : Int)) := ⟨_, rfl⟩
          rw [← hord] at HOJ
          have horl : ord.length = j := by rw [hord, List.length_map]; exact HDL.out.2
          have hob : ∀ x ∈ ord, ∃ q : Nat, x = (q : Int) ∧ q < chunkN S d.length := by
            intro x hx
            rw [hord] at hx
            obtain ⟨y, _, rfl⟩ := List.mem_map.1 hx
            have hm := mag_mod y (k : Int) (by omega)
            exact ⟨(mag y % (k : Int)).toNat, by omega, by rw [HDL.out.1, ← HN.out]; omega⟩
          clear hfull hord
          rename World => w3
          have hb3 : Below w.heap.size w w3 := HBW.out.trans (HBJ.out.mono HBW.out.size)
          have KP := Lib.hid (parts_any a dc S c2 A2 d ord w3 (by rw [HDL.out.1]; exact (HRD.out.below hb3).more hb3.size) (by rw [HDL.out.1]; omega) (Nat.lt_of_lt_of_le HAB.out hb3.size) (by rw [HDL.out.1]; omega) (by rw [HDL.out.1]; omega) hS1 hS2 (HK.out.belowS hb3) (by obtain ⟨v, hv⟩ := HE.out; exact ⟨v, (hb3.cell (p := ⟨1, 0, none⟩) (cell_lt hv)).trans hv⟩) (by rw [horl]; exact Rd.of_own HOJ.out) (by omega) hob)
          rw [HDL.out.1, ← HN.out, horl] at KP
          have HOR := Lib.hid horl; have HOB := Lib.hid hob; have HB3 := Lib.hid hb3
          clear horl hob hb3
          go_wp2_with fail
          refine KP.out.mono ?_
          rintro e w4 ⟨RA, rc, BA, bcc, rfl, hrt4, hba4, hb4⟩
          have hb4' : Below w.heap.size w w4 := HB3.out.trans (hb4.mono HB3.out.size)
          have hr14 : Below w1.heap.size w1 w4 := HBJ.out.trans (hb4.mono HBJ.out.size)
          have hrow4 := own_below HRW.out hr14 (Nat.le_refl _)
          have hcap := own_cap hrow4
          have hordr := ((Rd.of_own HOJ.out).below hb4).more hb4.size
          obtain ⟨cnt, hcnt⟩ : ∃ cnt, cnt = (seenL ord).length := ⟨_, rfl⟩
          obtain ⟨all, hall⟩ : ∃ all, all = decide ((seenL ord).length = k) := ⟨_, rfl⟩
          rw [← hall, ← hcnt]
          have hrdb : ∀ W, Below w4.heap.size w4 W → RdB W W.heap.size A1 k ((List.range k).map (chunkB a dc S d)) := fun W hW => by
            have hwW := hb4'.trans (hW.mono hb4'.size)
            exact rdB_chunks (by rw [HDL.out.1]; exact HN.out) (by omega) (by rw [HDL.out.1]; exact (HRD.out.below hwW).more hwW.size) (Nat.lt_of_lt_of_le HAB.out hwW.size) (by rw [HDL.out.1]; omega) (Rd.of_own (own_below hrow4 hW (Nat.le_refl _)))
          have hmaps := chunks_s a dc S d k (by rw [HDL.out.1]; exact HN.out)
          have KC1 : Hid (∀ W, Below w4.heap.size w4 W → Calls Tryd.prog 22 #[.slice A1 k c1] W (MadeQ W (rootL (chunksL S d)))) := Lib.hid fun W hW => by
            have h := sroot_any k ((List.range k).map (chunkB a dc S d)) (by simp) (by omega) (fun x hx => by
              obtain ⟨i, _, rfl⟩ := List.mem_map.1 hx
              show (chunkS S d i).length ≤ _
              rw [chunkS_len]; omega) A1 c1 W (hrdb W hW) hcap
            rw [hmaps] at h; exact h
          have HW4 := Lib.hid hb4'; have HR4 := Lib.hid hrow4; have HOR4 := Lib.hid hordr; have HBA := Lib.hid hba4; have HCA := Lib.hid (And.intro hcnt hall)
          clear hb4 hb4' hr14 hrow4 hcap hordr hcnt hall hrdb hmaps hba4
          go_wp2_with fail
          rename_i KK hKK
          refine parts_mid (by kernel_rfl) (by intro c a d v w h; cases d <;> exact h) KC1 hrt4 ?_
          intro r0 r1 r2 r3 r4 r5 r6 r7 r8 r9 r10 r11 r12 r13 r14 r15 r16 r17 w5 hb5
          refine hKK _ _ ?_
          clear hKK KC1 hrt4
          have HB5 := Lib.hid hb5
          clear hb5
          go_wp2_with fail
          go_loopw [19, 20, 21, 130] (fun v _ _ i wr => ∃ (t m3 : Nat) (A3 : Option Addr) (c3 : Nat), t ≤ j ∧ Hid (m3 = (seenL (ord.take t)).length) ∧ i = .int .i64 t ∧ v = .slice A3 m3 c3 ∧ Hid (wr.ownsRow w5.heap.size 3 1 (.slice A3 m3 c3) m3 (ic (seenL (ord.take t)))) ∧ Hid (Below w5.heap.size w5 wr)) (fun _ _ _ i _ => j - (intOf i).toNat)
          case atStart => exact ⟨0, 0, none, 0, Nat.zero_le _, Lib.hid rfl, rfl, rfl, Lib.hid (World.ownsRow_nil _ _ _ _), Below.refl _ _⟩
          case round =>
            obtain ⟨t, m3, A3, c3, ht, hm3, rfl, rfl, HO3, HBB⟩ := hrel
            by_cases hlt3 : t < j
            · obtain ⟨x, hx⟩ : ∃ x, ord[t]? = some x := ⟨_, List.getElem?_eq_getElem (by have := HOR.out; omega)⟩
              have hb45 : Below w4.heap.size w4 wr := HB5.out.trans (HBB.out.mono HB5.out.size)
              obtain ⟨oa, hOA, hoab, hoc0⟩ := HOR4.out.2 t _ (ic_get hx)
              subst hOA
              have hoc : wr.cell? (oa.add t) = some (.int .i64 x) := (hb45.cell (by rw [add_block]; exact hoab)).trans hoc0
              obtain ⟨ba, hBA, hbab, hbc0⟩ := HBA.out.2 t (.bool (decide (x ∉ ord.take t))) (by unfold bv; rw [List.getElem?_map, freshL_get hx]; rfl)
              subst hBA
              have hm3j : m3 ≤ 400 := by have h1 := seenL_len (ord.take t); rw [List.length_take] at h1; have := hm3.out; omega
              have htk : ord.take (t + 1) = ord.take t ++ [x] := by rw [List.take_succ, hx]; rfl
              have HTK := Lib.hid htk
              by_cases hmem : x ∈ ord.take t
              · have hbc : wr.cell? (ba.add t) = some (.bool false) := ((hb45.cell (by rw [add_block]; exact hbab)).trans hbc0).trans (by rw [decide_eq_false (by simpa using hmem)])
                have KN := Lib.hid (fun N => (icontains_any (seenL (ord.take t)) A3 m3 c3 x _ (wr.drewN N) (Rd.of_own (own_drewN HO3.out N)) (by omega)).mono (fun e w' h => (⟨by rw [h.2, decide_eq_true ((seenL_mem _ _).2 hmem)], h.1⟩ : e = .returned (.bool true) ∧ wr.drewN N = w')))
                have hso : seenL (ord.take (t + 1)) = seenL (ord.take t) := by rw [htk, seenL_snoc, if_pos ((seenL_mem _ _).2 hmem)]
                have HSO := Lib.hid hso
                clear hoc0 hbc0 hoab hbab hb45 hx htk hso hmem
                go_wp2_with fail
                go_quiet ((go_at_call 23; first | exact quietA (KN.out _) | exact quietL (KN.out _)))
                go_wp2_with fail
                go_roundw
                case rel => exact ⟨t + 1, m3, A3, c3, by omega, Lib.hid (by rw [HSO.out]; exact hm3.out), by go_num, rfl, Lib.hid (by rw [HSO.out]; exact own_drewN HO3.out _), below_drewN HBB.out _⟩
                case measure => simp [intOf]; omega
              · have hbc : wr.cell? (ba.add t) = some (.bool true) := ((hb45.cell (by rw [add_block]; exact hbab)).trans hbc0).trans (by rw [decide_eq_true hmem])
                have KN := Lib.hid (fun N => (icontains_any (seenL (ord.take t)) A3 m3 c3 x _ (wr.drewN N) (Rd.of_own (own_drewN HO3.out N)) (by omega)).mono (fun e w' h => (⟨by rw [h.2, decide_eq_false (fun h9 => hmem ((seenL_mem _ _).1 h9))], h.1⟩ : e = .returned (.bool false) ∧ wr.drewN N = w')))
                have hso : seenL (ord.take (t + 1)) = seenL (ord.take t) ++ [x] := by rw [htk, seenL_snoc, if_neg (fun h9 => hmem ((seenL_mem _ _).1 h9))]
                have HSO := Lib.hid hso
                have hb67 : ∀ N, Below wr.heap.size wr ((wr.drewN N).alloc (.cells #[.int .i64 x] 3)) := fun N => (below_drewN (Below.refl _ _) N).alloc (Nat.le_refl _) _
                have HR7 := Lib.hid (fun N => Rd.new (wr.drewN N) #[.int .i64 x] 3 1 1 wr.heap.size rfl rfl)
                have HRO7 := Lib.hid (fun N => own_below HO3.out (hb67 N) (Nat.le_refl _))
                have HB7 := Lib.hid (fun N => HBB.out.trans ((hb67 N).mono HBB.out.size))
                clear hoc0 hbc0 hoab hbab hb45 hx htk hso hmem hb67
                go_wp2_with fail
                go_quiet ((go_at_call 23; first | exact quietA (KN.out _) | exact quietL (KN.out _)))
                go_wp2_with (at_builtin; refine wpList_app _ rfl (.tmp 147) (.tmp 149) 60 rfl w5.heap.size 3 j0 _ 1 8 Tryd.underlying60 HJ.out HY0.out HY1.out HY2.out rfl (by decide) (.slice A3 m3 c3) m3 (ic (seenL (ord.take t))) rfl (HRO7.out _) _ _ 1 1 [.int .i64 x] rfl (HR7.out _) ?q0 ?q1 ?q2 (HB7.out _).size ?_; (case q0 => intro u hu; rw [List.mem_singleton] at hu; rw [hu]; rfl); (case q1 => simp only [maxLen]; omega); (case q2 => omega); intro A8 c8 W8 hown8 hg8 _)
                have HHO : Hid (W8.ownsRow w5.heap.size 3 1 (.slice A8 (m3 + 1) c8) (m3 + 1) (ic (seenL (ord.take (t + 1))))) := Lib.hid (by
                  rw [HSO.out]
                  have e : ic (seenL (ord.take t) ++ [x]) = ic (seenL (ord.take t)) ++ [.int .i64 x] := by unfold ic; rw [List.map_append]; rfl
                  rw [e]; exact hown8)
                have HHB := Lib.hid ((HB7.out _).grown hg8 (HB7.out _).size (own_base (HRO7.out 0)))
                clear hown8 hg8
                go_roundw
                case rel => exact ⟨t + 1, m3 + 1, A8, c8, by omega, Lib.hid (by rw [HSO.out, List.length_append, ← hm3.out]; rfl), by go_num, rfl, HHO.out, HHB.out⟩
                case measure => simp [intOf]; omega
            · obtain rfl : t = j := by omega
              rw [← HOR.out, List.take_length] at hm3 HO3
              obtain rfl : m3 = cnt := by rw [hm3.out, HCA.out.1]
              rename World => w6
              obtain ⟨tm, htm⟩ : ∃ tm, tm = min Lt S := ⟨_, rfl⟩
              obtain ⟨oth, hoth⟩ : ∃ oth, oth = tl.take S := ⟨_, rfl⟩
              have hol : oth.length = tm := by rw [hoth, List.length_take, ← HLS.out.2.2]; omega
              have hmin : min (Lt : Int) (S : Int) = (tm : Int) := by omega
              have htmc : tm ≤ tc := by omega
              obtain ⟨pp, hpp⟩ : ∃ pp : Nat, pp = mp % k := ⟨_, rfl⟩
              have hrm : (mp : Int) % (k : Int) = (pp : Int) := by rw [hpp]; exact (Int.natCast_emod _ _).symm
              have hppk : pp < k := by rw [hpp]; exact Nat.mod_lt _ (by omega)
              have hk0 : ¬ k = 0 := by omega
              have hb46 : Below w4.heap.size w4 w6 := HB5.out.trans (HBB.out.mono HB5.out.size)
              have hb06 : Below w.heap.size w w6 := HW4.out.trans (hb46.mono HW4.out.size)
              have hrow6 := own_below HR4.out hb46 (Nat.le_refl _)
              obtain ⟨la, hA1, _, hcl0⟩ := (Rd.of_own hrow6).2 pp ((chunkB a dc S d pp).cell) (by rw [List.getElem?_map, List.getElem?_range hppk]; rfl)
              subst hA1
              have hrt : Rd w w.heap.size 1 TA tm (bc oth) := by
                have h := HT.out.1.take (k := tm) (by have := HLS.out; omega)
                rw [Nat.mul_one] at h
                have e : (bc tl).take tm = bc oth := by unfold bc; rw [← List.map_take, hoth, htm, HLS.out.2.2, Nat.min_comm, ← List.take_eq_take_min]
                rw [e] at h; exact h
              have hppS : pp * S < L := (chunkN_lt (by omega)).1 (Nat.lt_of_lt_of_le hppk (Nat.le_of_eq HN.out))
              obtain ⟨b, hb⟩ : ∃ b, b = decide (leafL (chunkS S d pp) = leafL oth) := ⟨_, rfl⟩
              have hb12 : decide (leafL oth = leafL (chunkS S d pp)) = b := by
                rw [hb]
                by_cases hq : leafL (chunkS S d pp) = leafL oth
                · rw [decide_eq_true hq, decide_eq_true hq.symm]
                · rw [decide_eq_false hq, decide_eq_false (fun h => hq h.symm)]
              have hall : decide (m3 = k) = all := by rw [HCA.out.2, ← HCA.out.1]
              have KPT : Hid (∀ W, Below w6.heap.size w6 W → Calls Tryd.prog 24 #[.slice (some a) L dc, .int .i64 (S : Int), .int .i64 (pp : Int), .slice TA tm tc] W fun e w' => e = .returned (.bool b) ∧ Below W.heap.size W w') := Lib.hid fun W hW => by
                have hwW := hb06.trans (hW.mono hb06.size)
                have h := partTaken_any a dc S tc pp TA d oth W (by rw [HDL.out.1]; exact (HRD.out.below hwW).more hwW.size) (by rw [HDL.out.1]; omega) (Nat.lt_of_lt_of_le HAB.out hwW.size) (by rw [HDL.out.1]; omega) (by rw [HDL.out.1]; omega) hS1 hS2 (HK.out.belowS hwW) (by obtain ⟨v, hv⟩ := HE.out; exact ⟨v, (hwW.cell (p := ⟨1, 0, none⟩) (cell_lt hv)).trans hv⟩) (by rw [hol]; exact (hrt.below hwW).more hwW.size) (by omega) (fun ad e => Nat.lt_of_lt_of_le (HT.out.2.2 ad e) hwW.size) (by omega) (by rw [HDL.out.1, ← HN.out]; exact hppk)
                rw [HDL.out.1, hol, ← hb] at h; exact h
              have KL1 : Hid (∀ W, Below w6.heap.size w6 W → Calls Tryd.prog 25 #[.slice TA tm tc] W (MadeQ W (leafL oth))) := Lib.hid fun W hW => by
                have hwW := hb06.trans (hW.mono hb06.size)
                exact leafSum_any TA tm tc oth W ((hrt.below hwW).more hwW.size) (by omega)
              have KL2 : Hid (∀ W, Below w6.heap.size w6 W → Calls Tryd.prog 25 #[.slice (some (a.add (pp * S))) (chunkS S d pp).length (dc - pp * S)] W (MadeQ W (leafL (chunkS S d pp)))) := Lib.hid fun W hW => by
                have hwW := hb06.trans (hW.mono hb06.size)
                exact leafSum_any _ _ _ (chunkS S d pp) W (rd_chunk (by rw [HDL.out.1]; exact (HRD.out.below hwW).more hwW.size) (by rw [HDL.out.1]; exact hppS)) (by rw [chunkS_len]; omega)
              have hx : ∀ W, Below w6.heap.size w6 W → W.cell? (la.add pp) = some (.slice (some (a.add (pp * S))) (chunkS S d pp).length (dc - pp * S)) := fun W hW => (hW.cell (cell_lt hcl0)).trans hcl0
              have HX := Lib.hid hx; have HBE := Lib.hid hb06; have HAL := Lib.hid hall; have HB12 := Lib.hid hb12
              clear htm hoth hpp hb46 hb06 hrow6 hcl0 hrt hppS hb hb12 hall hx hol
              go_wp2_with fail
              rw [hrm]
              clear hrm
              refine parts_end (by kernel_rfl) (by intro c a d v w h; cases d <;> exact h) HAL.out hppk HB12.out KPT KL1 KL2 HX.out ?_
              intro r0 r1 r2 r3 r4 r5 r6 r7 r8 r9 r10 r11 r12 r13 r14 r15 r16 r17 r18 r19 r20 r21 r22 r23 r24 r25 r26 r27 r28 r29 r30 w7 hb7
              have HB7 := Lib.hid (HBE.out.trans (hb7.mono HBE.out.size))
              clear hb7 KPT KL1 KL2 HX
              go_wp2_with fail
              go_ret
              exact ⟨rfl, HB7.out⟩
end Go.Proofs.YtikikddkhikfkaaDoor
