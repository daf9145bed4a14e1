/-
  The package's SHA-256, block by block: walks. By the session.
-/
import Derived.Test.YtikikddkhikfkaaDoorPa3
import Derived.Test.YtikikddkhikfkaaDoorPa4
import Derived.Test.YtikikddkhikfkaaDoorPa7
import Derived.StillTailTactics
import Derived.RegionTactic
import Derived.BigRegion
import Derived.Deep.Cut
import Derived.Deep.CutRange
set_option linter.all false
namespace Go.Proofs.YtikikddkhikfkaaDoor
open Go.RowKit

theorem and_low5 (n : Int) : bits .and .u64 n 31 = n % 32 := by
  simp only [bits]
  have h : (BitVec.ofInt 64 n &&& BitVec.ofInt 64 31).toNat = (n % 32).toNat := by
    rw [BitVec.toNat_and, show (BitVec.ofInt 64 31).toNat = 2 ^ 5 - 1 from rfl, Nat.and_two_pow_sub_one_eq_mod, BitVec.toNat_ofInt]
    omega
  show IntKind.u64.wrap ((BitVec.ofInt 64 n &&& BitVec.ofInt 64 31).toNat : Int) = _
  rw [h]
  simp [IntKind.wrap, IntKind.bits, IntKind.signed]
  omega
set_option maxRecDepth 100000 in
theorem rot_any (x : UInt32) (k : Int) (w : World) (h : -31 ≤ k ∧ k ≤ -1) : Calls Tryd.prog 136 #[.int .u32 (x.toNat : Int), .int .i64 k] w fun e w' => e = .returned (.int .u32 ((rotr x (-k).toNat).toNat : Int)) ∧ ∃ n, w' = w.drewN n := by
  have hx := u32_lt x
  obtain ⟨j, hj⟩ : ∃ j : Nat, (j : Int) = 32 + k := ⟨(32 + k).toNat, by omega⟩
  have hb : bits .and .u64 (IntKind.u64.wrap k) 31 = (j : Int) := by
    rw [and_low5, IntKind.wrap_u64]; omega
  have HJ := Lib.hid hj
  have hj31 : j ≤ 31 ∧ 1 ≤ j := by omega
  clear hj h
  go_enter Tryd.func136, Tryd.ntmps136
  go_wp2
  have e1 := w_shl' x j (by omega)
  have e2 := w_shr x (32 - j) (by omega)
  (try go_ret)
  have hjk : (-k).toNat = 32 - j := by have := HJ.out; omega
  have hjj : 32 - (32 - j) = j := by omega
  refine ⟨ret_int ?_, 0, rfl⟩
  rw [e1, e2, w_or, hjk]
  unfold rotr
  rw [hjj, UInt32.or_comm]

theorem add3r (a b c : UInt32) : ((a.toNat : Int) + ((b.toNat : Int) + (c.toNat : Int))) % (4294967296 : Int) = ((a + b + c).toNat : Int) := by rw [← Int.add_assoc, add3]
def lenP : Value → Nat
  | .slice _ n _ => n
  | _ => 0
/-- the cells of an array of 64 words -/
def a64 (l : List UInt32) : Array Value := (l.map uv).toArray
theorem a64_zero : zCells = a64 (List.replicate 64 0) := by kernel_rfl
theorem blocksN_succ (m : List UInt8) (s : St) (k : Nat) : blocksN m s (k + 1) = (blocksN m s k).add (roundsN (m.drop (64 * k)) (blocksN m s k) 64) := rfl
set_option maxRecDepth 100000 in
set_option maxHeartbeats 12800000 in
theorem bg_any (g : Nat) (h0 : St) (x : List UInt8) (nx len : Nat) (l : List UInt8) (A : Option Addr) (n c : Nat) (w : World) (hb : Blk w g 215 (dgC h0 x nx len)) (hx : x.length = 64)
    (hr : Rd w w.heap.size 1 A n (bc l)) (hn : n ≤ 140737488355328) (hnc : n ≤ c) (hm : n % 64 = 0) (hk : ∀ i, i < 64 → w.cell? ⟨3, i, none⟩ = some (uv (shaK.getD i 0))) (hg : 3 < w.heap.size) :
    Calls Tryd.prog 133 #[.pointer (some ⟨g, 0, none⟩), .slice A n c] w fun e w' => e = .returned (.tuple #[]) ∧ Blk w' g 215 (dgC (blocksN l h0 (n / 64)) x nx len) ∧ w.grownBy w' (some g) := by
  have HB := Lib.hid hb; have HR := Lib.hid hr; have HK := Lib.hid hk; clear hb hr hk
  go_enter Tryd.func133, Tryd.ntmps133
  go_wp2
  rw [zLit]
  obtain ⟨ga, hga⟩ : ∃ ga, ga = w.heap.size := ⟨_, rfl⟩
  generalize hW : w.alloc _ = W
  have hb1 : Below w.heap.size w W := by rw [← hW]; exact (Below.refl _ _).alloc (Nat.le_refl _) _
  have hwa : Blk W ga 175 (a64 (List.replicate 64 0)) := by rw [← a64_zero, hga, ← hW]; exact Blk.new w _ _
  have HB1 := Lib.hid (HB.out.belowS hb1); have HBL1 := Lib.hid hb1; have HWA := Lib.hid hwa
  obtain ⟨c0, c1, c2, c3, c4, c5, c6, c7⟩ := dgBlk HB1.out
  unfold uv at c0 c1 c2 c3 c4 c5 c6 c7
  have hgl := HB.out.lt
  have HGA := Lib.hid hga
  rw [← hga]
  clear hW hb1 hwa hga
  go_quiet (fail)
  go_wp2
  clear c0 c1 c2 c3 c4 c5 c6 c7
  go_loopw [1, 5, 6, 7, 8, 9, 10, 11, 12] (fun p v0 v1 v2 v3 v4 v5 v6 v7 wr => ∃ (k : Nat) (A' : Option Addr) (s : St), 64 * k ≤ n ∧ p = .slice A' (n - 64 * k : Nat) (c - 64 * k : Nat) ∧ v0 = .int .u32 (s.a.toNat : Int) ∧ v1 = .int .u32 (s.b.toNat : Int) ∧ v2 = .int .u32 (s.c.toNat : Int) ∧ v3 = .int .u32 (s.d.toNat : Int) ∧ v4 = .int .u32 (s.e.toNat : Int) ∧ v5 = .int .u32 (s.f.toNat : Int) ∧ v6 = .int .u32 (s.g.toNat : Int) ∧ v7 = .int .u32 (s.h.toNat : Int) ∧
    Hid (s = blocksN l h0 k) ∧ Hid (Rd w w.heap.size 1 A' (n - 64 * k) (bc (l.drop (64 * k)))) ∧ Hid (∃ ws, ws.length = 64 ∧ Blk wr ga 175 (a64 ws)) ∧ Hid (Below w.heap.size w wr)) (fun p _ _ _ _ _ _ _ _ _ => lenP p)
  case atStart => exact ⟨0, A, h0, Nat.zero_le _, rfl, rfl, rfl, rfl, rfl, rfl, rfl, rfl, rfl, rfl, HR.out, ⟨_, by simp, HWA.out.drewN _⟩, below_drewN HBL1.out _⟩
  case round =>
    obtain ⟨k, A', s, hk, rfl, rfl, rfl, rfl, rfl, rfl, rfl, rfl, rfl, HS, HRK, HWK, HBK⟩ := hrel
    obtain ⟨m, hm2⟩ : ∃ m, m = n - 64 * k := ⟨_, rfl⟩
    obtain ⟨d, hd⟩ : ∃ d, d = c - 64 * k := ⟨_, rfl⟩
    have hmd : m ≤ d := by omega
    have hm64 : m % 64 = 0 := by omega
    have hmn : m ≤ n := by omega
    have HMM := Lib.hid (And.intro hm2 hd)
    rw [← hm2, ← hd]
    rw [← hm2] at HRK
    have HH := Lib.hid (And.intro hk hm)
    clear hm2 hd hk hm
    by_cases hlt : 64 ≤ m
    ·
      as_aux_lemma =>
        --@P inner
        obtain ⟨q, hq⟩ : ∃ q, q = l.drop (64 * k) := ⟨_, rfl⟩
        rw [← hq] at HRK
        have hql : q.length = m := by have := HRK.out.1; rw [bc_length] at this; omega
        have hqa : ∀ r, r < m → ∃ ad, A' = some ad ∧ ad.block < w.heap.size ∧ w.cell? (ad.add r) = some (.int .u8 ((q.getD r 0).toNat : Int)) := fun r hr => by
          have hx' : q[r]? = some q[r] := List.getElem?_eq_getElem (by omega)
          obtain ⟨ad, e, hb, hc⟩ := HRK.out.2 r _ (bc_get hx')
          exact ⟨ad, e, hb, by rw [hc, List.getD_eq_getElem?_getD, hx']; rfl⟩
        obtain ⟨ad, had, hadb, _⟩ := hqa 0 (by omega)
        subst had
        have hqb : ∀ r, r < m → w.cell? (ad.add r) = some (.int .u8 ((q.getD r 0).toNat : Int)) := fun r hr => by
          obtain ⟨ad', e, _, hc⟩ := hqa r hr
          obtain rfl := Option.some.inj e
          exact hc
        have HQB := Lib.hid hqb; have HQ := Lib.hid hq
        clear hqa hqb hq
        go_wp2
        go_loopw [13, 14, 15, 16, 17, 18, 19, 20, 80] (fun v0 v1 v2 v3 v4 v5 v6 v7 i wr => ∃ (j : Nat) (t : St), j ≤ 64 ∧ i = .int .i64 j ∧ v0 = .int .u32 (t.a.toNat : Int) ∧ v1 = .int .u32 (t.b.toNat : Int) ∧ v2 = .int .u32 (t.c.toNat : Int) ∧ v3 = .int .u32 (t.d.toNat : Int) ∧ v4 = .int .u32 (t.e.toNat : Int) ∧ v5 = .int .u32 (t.f.toNat : Int) ∧ v6 = .int .u32 (t.g.toNat : Int) ∧ v7 = .int .u32 (t.h.toNat : Int) ∧
          Hid (t = roundsN q s j) ∧ Hid (∃ ws, ws.length = 64 ∧ ws.take j = wordsN q j ∧ Blk wr ga 175 (a64 ws)) ∧ Hid (Below w.heap.size w wr)) (fun _ _ _ _ _ _ _ _ i _ => 64 - (intOf i).toNat)
        case atStart =>
          obtain ⟨ws, hw1, hw2⟩ := HWK.out
          exact ⟨0, s, Nat.zero_le _, rfl, rfl, rfl, rfl, rfl, rfl, rfl, rfl, rfl, rfl, ⟨ws, hw1, rfl, hw2⟩, HBK.out⟩
        case round =>
          obtain ⟨j, t, hj, rfl, rfl, rfl, rfl, rfl, rfl, rfl, rfl, rfl, HT, HW, HBJ⟩ := hrel
          have HLT := Lib.hid hlt
          clear hlt
          by_cases hj64 : j < 64
          · obtain ⟨ws, hwl, hwt, hwb⟩ := HW.out
            have hcw : ∀ r, r < 64 → wr.cell? ⟨ga, r, none⟩ = some (uv (ws.getD r 0)) := fun r hr => by
              have h1 : ws[r]? = some ws[r] := List.getElem?_eq_getElem (by omega)
              rw [hwb.cell r]
              unfold a64
              rw [List.getElem?_toArray, List.getElem?_map, h1, List.getD_eq_getElem?_getD, h1]; rfl
            have hput : ∀ (W : World) (y : UInt32), Blk W ga 175 (a64 ws) → y = (if j < 16 then wordAt q j else nextW (wordsN q j)) → Blk (W.setCell ⟨ga, j, none⟩ (.int .u32 (y.toNat : Int))) ga 175 (a64 (ws.set j y)) ∧ (ws.set j y).take (j + 1) = wordsN q (j + 1) := fun W y hW hy => by
              refine ⟨?_, ?_⟩
              · have h1 := hW.put j (uv y)
                have h2 : (a64 ws).setIfInBounds j (uv y) = a64 (ws.set j y) := by unfold a64; rw [List.map_set]; simp
                rw [h2] at h1; exact h1
              · rw [take_set_next (by omega), hwt, hy]; rfl
            have HPUT := Lib.hid hput; have HWB := Lib.hid hwb; have HCW := Lib.hid hcw; have HWT := Lib.hid hwt; have HWL := Lib.hid hwl
            have hf : wr.frozen? ⟨ga, j, none⟩ = false := hwb.free j
            clear hput hwb hcw hwt hwl HW
            go_upto_if 84 with fail
            go_cut [21, 71] from 81 to 156 (fun v v71 wx => v = .int .i64 j ∧ v71 = .bool (decide ((64 : Int) ≤ (m : Int))) ∧ Hid (∃ ws, ws.length = 64 ∧ ws.take (j + 1) = wordsN q (j + 1) ∧ Blk wx ga 175 (a64 ws)) ∧ Hid (Below w.heap.size w wx))
            case first =>
              by_cases hj16 : j < 16
              ·
                as_aux_lemma =>
                  --@P lo
                  obtain ⟨jj, hjj⟩ : ∃ jj : Nat, jj = j * 4 := ⟨_, rfl⟩
                  obtain ⟨d1, hd1⟩ : ∃ d : Nat, d = jj + 1 := ⟨_, rfl⟩
                  obtain ⟨d2, hd2⟩ : ∃ d : Nat, d = jj + 2 := ⟨_, rfl⟩
                  obtain ⟨d3, hd3⟩ : ∃ d : Nat, d = jj + 3 := ⟨_, rfl⟩
                  have v0 : (j : Int) * 4 = (jj : Int) := by omega
                  have v1 : IntKind.i64.wrap ((jj : Int) + 1) = (d1 : Int) := by rw [IntKind.wrap_i64]; omega
                  have v2 : IntKind.i64.wrap ((jj : Int) + 2) = (d2 : Int) := by rw [IntKind.wrap_i64]; omega
                  have v3 : IntKind.i64.wrap ((jj : Int) + 3) = (d3 : Int) := by rw [IntKind.wrap_i64]; omega
                  have hlt := HLT.out
                  have u0 : jj < m := by omega
                  have u1 : d1 < m := by omega
                  have u2 : d2 < m := by omega
                  have u3 : d3 < m := by omega
                  clear hlt
                  have hcell : ∀ r, r < m → wr.cell? (ad.add r) = some (.int .u8 ((q.getD r 0).toNat : Int)) := fun r hr => (HBJ.out.cell (by rw [add_block]; exact hadb)).trans (HQB.out r hr)
                  have e0 := hcell jj u0
                  have e1 := hcell d1 u1
                  have e2 := hcell d2 u2
                  have e3 := hcell d3 u3
                  have hwi := HCW.out j hj64
                  have hwa : wordAt q j = w32 (q.getD jj 0) (q.getD d1 0) (q.getD d2 0) (q.getD d3 0) := by rw [wordAt_eq, hd3, hd2, hd1, hjj, Nat.mul_comm j 4]
                  have HWAT := Lib.hid hwa
                  unfold uv at hwi
                  clear hcell hjj hd1 hd2 hd3 hwa
                  generalize q.getD jj 0 = b0 at *
                  generalize q.getD d1 0 = b1 at *
                  generalize q.getD d2 0 = b2 at *
                  generalize q.getD d3 0 = b3 at *
                  go_wp2_with fail
                  refine still_tail 31 (by kernel_rfl) (by kernel_rfl) ?_
                  simp only [List.take_succ_cons, List.take_zero, List.drop_succ_cons, List.drop_zero]
                  iterate 31 still_step
                  refine wpStill_nil ?_
                  go_wp2
                  rw [be_word]
                  go_meet
                  case rel =>
                    refine ⟨(by first | rfl | (have hlt := HLT.out; simp only [Value.bool.injEq, Bool.true_eq, decide_eq_true_eq]; omega)), (by first | rfl | (have hlt := HLT.out; simp only [Value.bool.injEq, Bool.true_eq, decide_eq_true_eq]; omega)), ?_, ?_⟩
                    · have h1 := HPUT.out wr (w32 b0 b1 b2 b3) HWB.out (by rw [if_pos hj16, HWAT.out])
                      exact ⟨_, by rw [List.length_set]; exact HWL.out, h1.2, h1.1.drewN 1⟩
                    · exact (HBJ.out.setCell (p := ⟨ga, j, none⟩) (by rw [HGA.out]; exact Nat.le_refl _) _).drew
                  --@E lo
              ·
                as_aux_lemma =>
                  --@P hi
                  obtain ⟨d2, hd2⟩ : ∃ d, d = j - 2 := ⟨_, rfl⟩
                  obtain ⟨d15, hd15⟩ : ∃ d, d = j - 15 := ⟨_, rfl⟩
                  obtain ⟨d7, hd7⟩ : ∃ d, d = j - 7 := ⟨_, rfl⟩
                  obtain ⟨d16, hd16⟩ : ∃ d, d = j - 16 := ⟨_, rfl⟩
                  have c2 := HCW.out d2 (by omega)
                  have c15 := HCW.out d15 (by omega)
                  have c7 := HCW.out d7 (by omega)
                  have c16 := HCW.out d16 (by omega)
                  have hwi := HCW.out j hj64
                  have hnx : nextW (wordsN q j) = ws.getD d16 0 + (rotr (ws.getD d15 0) 7 ^^^ rotr (ws.getD d15 0) 18 ^^^ ws.getD d15 0 >>> 3) + ws.getD d7 0 + (rotr (ws.getD d2 0) 17 ^^^ rotr (ws.getD d2 0) 19 ^^^ ws.getD d2 0 >>> 10) := by
                    unfold nextW
                    rw [wordsN_length, words_prev HWT.out (i := d16) (by omega), words_prev HWT.out (i := d15) (by omega), words_prev HWT.out (i := d7) (by omega), words_prev HWT.out (i := d2) (by omega), hd2, hd15, hd7, hd16]
                  have HNX := Lib.hid hnx
                  have p2 : (j : Int) - 2 = (d2 : Int) := by omega
                  have p15 : (j : Int) - 15 = (d15 : Int) := by omega
                  have p7 : (j : Int) - 7 = (d7 : Int) := by omega
                  have p16 : (j : Int) - 16 = (d16 : Int) := by omega
                  have u2 : d2 < 64 := by omega
                  have u15 : d15 < 64 := by omega
                  have u7 : d7 < 64 := by omega
                  have u16 : d16 < 64 := by omega
                  have z7 : IntKind.i64.wrap (d7 : Int) = (d7 : Int) := by rw [IntKind.wrap_i64]; omega
                  have z16 : IntKind.i64.wrap (d16 : Int) = (d16 : Int) := by rw [IntKind.wrap_i64]; omega
                  unfold uv at c2 c15 c7 c16 hwi
                  clear hd2 hd15 hd7 hd16 hnx
                  generalize ws.getD d2 0 = x2 at *
                  generalize ws.getD d15 0 = x15 at *
                  generalize ws.getD d7 0 = x7 at *
                  generalize ws.getD d16 0 = x16 at *
                  have HP := Lib.hid (And.intro p7 p16)
                  have r17 : (-(-17 : Int)).toNat = 17 := rfl
                  have r19 : (-(-19 : Int)).toNat = 19 := rfl
                  have r7 : (-(-7 : Int)).toNat = 7 := rfl
                  have r18 : (-(-18 : Int)).toNat = 18 := rfl
                  clear p7 p16
                  go_wp2_with (go_at_call 136; refine (rot_any _ _ _ (by decide)).mono ?_; rintro e w9 ⟨rfl, n9, rfl⟩)
                  rw [s1_eq, s0_eq]
                  obtain ⟨p7, p16⟩ := HP.out
                  have q7 : (d7 : Int) < 64 := by omega
                  have q16 : (d16 : Int) < 64 := by omega
                  generalize rotr x15 7 ^^^ rotr x15 18 ^^^ x15 >>> 3 = y15 at HNX ⊢
                  generalize rotr x2 17 ^^^ rotr x2 19 ^^^ x2 >>> 10 = y2 at HNX ⊢
                  refine still_tail 15 (by kernel_rfl) (by kernel_rfl) ?_
                  simp only [List.take_succ_cons, List.take_zero, List.drop_succ_cons, List.drop_zero]
                  iterate 15 still_step
                  refine wpStill_nil ?_
                  go_wp2
                  rw [add2, add2, add2]
                  go_meet
                  case rel =>
                    refine ⟨(by first | rfl | (have hlt := HLT.out; simp only [Value.bool.injEq, Bool.true_eq, decide_eq_true_eq]; omega)), (by first | rfl | (have hlt := HLT.out; simp only [Value.bool.injEq, Bool.true_eq, decide_eq_true_eq]; omega)), ?_, ?_⟩
                    · obtain ⟨h1, h2⟩ := HPUT.out wr (y2 + x7 + y15 + x16) HWB.out (by rw [if_neg hj16, HNX.out]; ac_rfl)
                      exact ⟨_, by rw [List.length_set]; exact HWL.out, h2, h1.drewN 1⟩
                    · exact (below_drewN HBJ.out _).setCell (p := ⟨ga, j, none⟩) (by rw [HGA.out]; exact Nat.le_refl _) _
                  --@E hi
            case rest =>
              obtain ⟨rfl, h71, HW2, HB2⟩ := hcut
              have H71 := Lib.hid h71
              clear h71
              as_aux_lemma =>
                --@P turn
                obtain ⟨ws2, hl2, ht2, hb2⟩ := HW2.out
                have ck : wc.cell? ⟨3, j, none⟩ = some (uv (shaK.getD j 0)) := (HB2.out.cell (p := ⟨3, j, none⟩) hg).trans (HK.out j hj64)
                have cw : wc.cell? ⟨ga, j, none⟩ = some (uv ((wordsN q 64).getD j 0)) := by
                  have h1 : ws2[j]? = some ws2[j] := List.getElem?_eq_getElem (by omega)
                  rw [wordsN_get q 64 j hj64, ← words_prev ht2 (Nat.lt_succ_self j), hb2.cell j]
                  unfold a64
                  rw [List.getElem?_toArray, List.getElem?_map, h1, List.getD_eq_getElem?_getD, h1]; rfl
                have hnx : roundsN q s (j + 1) = t.turn (shaK.getD j 0) ((wordsN q 64).getD j 0) := by rw [HT.out]; rfl
                have HNX := Lib.hid hnx; have HL2 := Lib.hid hl2; have HT2 := Lib.hid ht2; have HBW2 := Lib.hid hb2
                clear hnx hl2 ht2 hb2 HT HW2
                generalize shaK.getD j 0 = kk at *
                generalize (wordsN q 64).getD j 0 = xx at *
                obtain ⟨a, b', c', d', e, f, g', hh⟩ := t
                dsimp only
                have hT : St.turn ⟨a, b', c', d', e, f, g', hh⟩ kk xx = ⟨hh + (rotr e 6 ^^^ rotr e 11 ^^^ rotr e 25) + ((e &&& f) ^^^ (~~~e &&& g')) + kk + xx + (rotr a 2 ^^^ rotr a 13 ^^^ rotr a 22) + ((a &&& b') ^^^ (a &&& c') ^^^ (b' &&& c')), a, b', c', d' + (hh + (rotr e 6 ^^^ rotr e 11 ^^^ rotr e 25) + ((e &&& f) ^^^ (~~~e &&& g')) + kk + xx), e, f, g'⟩ := rfl
                rw [hT] at HNX
                unfold uv at ck cw
                clear hT
                have r6 : (-(-6 : Int)).toNat = 6 := rfl
                have r11 : (-(-11 : Int)).toNat = 11 := rfl
                have r25 : (-(-25 : Int)).toNat = 25 := rfl
                have r2 : (-(-2 : Int)).toNat = 2 := rfl
                have r13 : (-(-13 : Int)).toNat = 13 := rfl
                have r22 : (-(-22 : Int)).toNat = 22 := rfl
                go_wp2_with fail
                go_quiet ((exact quietLN (rot_any _ _ _ (by decide))))
                rw [show (if IntKind.u32.signed = true then (-1 : Int) else IntKind.u32.max) = IntKind.u32.max from rfl, S1_eq, ch_eq]
                generalize rotr e 6 ^^^ rotr e 11 ^^^ rotr e 25 = s1 at HNX ⊢
                generalize (e &&& f) ^^^ (~~~e &&& g') = ch at HNX ⊢
                rw [add4 hh s1 ch kk, add2 (hh + s1 + ch + kk) xx]
                generalize hh + s1 + ch + kk + xx = t1 at HNX ⊢
                go_wp2_with (go_at_call 136; refine (rot_any _ _ _ (by decide)).mono ?_; rintro e w9 ⟨rfl, n9, rfl⟩)
                rw [S0_eq, maj_eq]
                generalize rotr a 2 ^^^ rotr a 13 ^^^ rotr a 22 = sg0 at HNX ⊢
                generalize (a &&& b') ^^^ (a &&& c') ^^^ (b' &&& c') = mj at HNX ⊢
                rw [add2 sg0 mj, add2 t1 (sg0 + mj), add2 d' t1]
                have h71 := H71.out
                subst h71
                go_roundw
                case rel => exact ⟨j + 1, ⟨t1 + (sg0 + mj), a, b', c', d' + t1, e, f, g'⟩, by omega, by go_num, rfl, rfl, rfl, rfl, rfl, rfl, rfl, rfl, by show _ = _; rw [HNX.out, UInt32.add_assoc], ⟨ws2, HL2.out, HT2.out, HBW2.out.drewN _⟩, below_drewN HB2.out _⟩
                case measure => simp [intOf]; omega
                --@E turn
          · obtain rfl : j = 64 := by omega
            as_aux_lemma =>
              --@P next
              have hbn : blocksN l h0 (k + 1) = s.add t := by rw [blocksN_succ, ← HS.out, ← HQ.out, HT.out]
              have HBN := Lib.hid hbn
              have hlt := HLT.out
              have hmk := HMM.out
              have hkm := HH.out
              have hd64 : 64 ≤ (d : Int) := by omega
              have hrd : Rd w w.heap.size 1 (if d = 64 then some ad else some ⟨ad.block, ad.off + 64, none⟩) (m - 64) (bc (q.drop 64)) := by
                refine ⟨?_, fun r u hu => ?_⟩
                · rw [bc_length, List.length_drop]; omega
                · have hr : r < m - 64 := by have := (List.getElem?_eq_some_iff.1 hu).1; rw [bc_length, List.length_drop] at this; omega
                  rw [if_neg (by omega)]
                  have h1 : (bc q)[64 + r]? = some u := by
                    unfold bc at hu ⊢
                    rw [← hu, List.getElem?_map, List.getElem?_map, List.getElem?_drop]
                  obtain ⟨ad', e, hb, hc⟩ := HRK.out.2 _ _ h1
                  obtain rfl := Option.some.inj e
                  exact ⟨_, rfl, hb, by
                                          have e64 : (⟨ad.block, ad.off + 64, none⟩ : Addr) = ad.add 64 := rfl
                                          rw [e64, add_add']; exact hc⟩
              have hqd : q.drop 64 = l.drop (64 * (k + 1)) := by rw [HQ.out, List.drop_drop]; congr 1
              rw [hqd] at hrd
              have HRD := Lib.hid hrd
              obtain ⟨ws3, hl3, _, hb3⟩ := HW.out
              have HW3 := Lib.hid (And.intro hl3 hb3)
              clear hbn hrd hqd hl3 hb3 hmk hlt
              have hlt64 : (64 : Int) ≤ (m : Int) := by have := HLT.out; omega
              go_wp2
              rw [add2 s.a t.a, add2 s.b t.b, add2 s.c t.c, add2 s.d t.d, add2 s.e t.e, add2 s.f t.f, add2 s.g t.g, add2 s.h t.h]
              go_roundw
              case rel =>
                have hlt := HLT.out
                have hmk := HMM.out
                have q1 : n - 64 * (k + 1) = m - 64 := by omega
                have q2 : c - 64 * (k + 1) = d - 64 := by omega
                have hrd := HRD.out
                rw [← q1] at hrd
                exact ⟨k + 1, _, s.add t, by omega, by rw [q1, q2], rfl, rfl, rfl, rfl, rfl, rfl, rfl, rfl, HBN.out.symm, hrd, ⟨ws3, HW3.out.1, HW3.out.2⟩, HBJ.out⟩
              case measure => have hlt := HLT.out; simp [lenP]; omega
              --@E next
        --@E inner
    · have hB2 := Lib.hid (HB.out.belowS HBK.out)
      have hf := hB2.out.free
      obtain ⟨c0, c1, c2, c3, c4, c5, c6, c7⟩ := dgBlk hB2.out
      unfold uv at c0 c1 c2 c3 c4 c5 c6 c7
      as_aux_lemma =>
        --@P out
        have hkk : k = n / 64 := by have := HH.out; have := HMM.out; omega
        have HSE := Lib.hid (show s = blocksN l h0 (n / 64) by rw [← hkk]; exact HS.out)
        have HB3 := Lib.hid hB2.out
        clear hkk c0 c1 c2 c3 c4 c5 c6 c7 hf
        go_wp2
        refine dig_region (s := s) (h0 := h0) (x := x) (nx := nx) (len := len) (g := g) rfl rfl rfl rfl rfl rfl rfl rfl rfl rfl HB3.out ?_
        intro a3 w3 hd3 hz3 hbl hgr
        have HBL := Lib.hid hbl; have HGR := Lib.hid hgr
        clear hbl hgr
        go_wp2
        rw [← HSE.out]
        refine ⟨by rw [hd3], ?_⟩
        have h1 : w.grownBy wr (some g) := grownAny_of HBK.out _
        have h2 := h1.trans HGR.out
        exact ⟨.tuple #[], results_none rfl _ _ _, rfl, HBL.out, h2⟩
        --@E out
end Go.Proofs.YtikikddkhikfkaaDoor
