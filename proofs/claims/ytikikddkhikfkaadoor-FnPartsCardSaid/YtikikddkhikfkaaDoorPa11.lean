/-
  The package's SHA-256: checkSum: walk. By the session.
-/
import Derived.Test.YtikikddkhikfkaaDoorPa10
set_option linter.all false
namespace Go.Proofs.YtikikddkhikfkaaDoor
open Go.RowKit

theorem rd_blk {w : World} {g : Nat} {t : TypeId} {l : List UInt8} (h : Blk w g t (bc l).toArray) (off n : Nat) (hn : off + n ≤ l.length) : Rd w w.heap.size 1 (some ⟨g, off, none⟩) n (bc ((l.drop off).take n)) := by
  refine ⟨by rw [bc_length, List.length_take, List.length_drop]; omega, fun j u hu => ?_⟩
  refine ⟨_, rfl, h.lt, ?_⟩
  have hj : j < n := by have := (List.getElem?_eq_some_iff.1 hu).1; rw [bc_length, List.length_take] at this; omega
  rw [add_flat, h.cell, List.getElem?_toArray, ← hu, bc_take', bc_drop', List.getElem?_take, if_pos hj, List.getElem?_drop]
theorem bc_all (l : List UInt8) : (bc l).toArray.all (·.oneCell') = true := by
  rw [List.all_toArray, List.all_eq_true]
  exact bc_one l
theorem bc_size (l : List UInt8) : (bc l).toArray.size = l.length := by rw [List.size_toArray, bc_length]
theorem info32 (l : List UInt8) (h : l.length = 32) : (Tryd.prog.info? 227).map (·.size) = some (bc l).toArray.size := by rw [bc_size, h]; kernel_rfl
/-- where the number of bits stands in the padding -/
def padP (n : Nat) : Nat := zerosOf n + 1
theorem padP_small {n : Nat} (h : n % 64 < 56) : padP n = 56 - n % 64 := by unfold padP zerosOf; omega
theorem padP_big {n : Nat} (h : ¬ n % 64 < 56) : padP n = 120 - n % 64 := by unfold padP zerosOf; omega
theorem padP_le (n : Nat) : 1 ≤ padP n ∧ padP n ≤ 64 := by unfold padP zerosOf; omega
theorem pad_made (n : Nat) : ((splice (0x80 :: List.replicate 71 0) (padP n) (be8 (n * 8))).drop 0).take (padP n + 8) = padT n := by
  have h := padP_le n
  rw [List.drop_zero]
  unfold splice padT
  have e1 : (be8 (n * 8)).length = 8 := be8_length _
  have e2 : ((0x80 : UInt8) :: List.replicate 71 0).take (padP n) = [0x80] ++ List.replicate (zerosOf n) 0 := by
    unfold padP
    rw [List.take_succ_cons, List.take_replicate]
    have : min (zerosOf n) 71 = zerosOf n := by unfold zerosOf; omega
    rw [this]; rfl
  rw [← List.append_assoc, List.take_append_of_le_length (by rw [List.length_append, e1, List.length_take]; simp; omega), List.take_of_length_le (by rw [List.length_append, e1, List.length_take]; simp; omega), e2]
theorem z72 : Tryd.zeroCells233.setIfInBounds 0 (Value.int .u8 128) = (bc (0x80 :: List.replicate 71 0)).toArray := by kernel_rfl
theorem z32 : #[Value.int .u8 0, Value.int .u8 0, Value.int .u8 0, Value.int .u8 0, Value.int .u8 0, Value.int .u8 0, Value.int .u8 0, Value.int .u8 0, Value.int .u8 0, Value.int .u8 0, Value.int .u8 0, Value.int .u8 0, Value.int .u8 0, Value.int .u8 0, Value.int .u8 0, Value.int .u8 0, Value.int .u8 0, Value.int .u8 0, Value.int .u8 0, Value.int .u8 0, Value.int .u8 0, Value.int .u8 0, Value.int .u8 0, Value.int .u8 0, Value.int .u8 0, Value.int .u8 0, Value.int .u8 0, Value.int .u8 0, Value.int .u8 0, Value.int .u8 0, Value.int .u8 0, Value.int .u8 0] = (bc (List.replicate 32 0)).toArray := by kernel_rfl
theorem sum_bytes (h : St) : put4 (put4 (put4 (put4 (put4 (put4 (put4 (put4 (List.replicate 32 0) 0 h.a) 4 h.b) 8 h.c) 12 h.d) 16 h.e) 20 h.f) 24 h.g) 28 h.h = h.bytes := by
  cases h; kernel_rfl
set_option maxRecDepth 100000 in
set_option maxHeartbeats 6400000 in
theorem checkSum_any (g : Nat) (m : List UInt8) (w : World) (hd : Dg w g m) (hK : Kw w) (hgK : some g ≠ some 3) (hm : m.length ≤ 70368744177664) :
    Calls Tryd.prog 132 #[.pointer (some ⟨g, 0, none⟩)] w fun e w' => e = .returned (.agg (bc (shaL m)).toArray) ∧ w.grownBy w' (some g) ∧ ∃ h x nx len, x.length = 64 ∧ Blk w' g 215 (dgC h x nx len) := by
  obtain ⟨h0, x0, nx0, hk0, hb0⟩ := hd
  obtain ⟨L, hL⟩ : ∃ L, L = m.length := ⟨_, rfl⟩
  have c73 := (hb0.cell 73).trans (dgC_r h0 x0 nx0 m.length hk0.len).2.1
  have hgl := hb0.lt
  rw [← hL] at c73
  have HB0 := Lib.hid hb0; have HK0 := Lib.hid hk0; have HKW := Lib.hid hK; have HL := Lib.hid (And.intro hL hm); have HGK := Lib.hid hgK
  clear hb0 hk0 hK hL hm hgK
  go_enter Tryd.func132, Tryd.ntmps132
  go_upto_if 15 with fail
  generalize hW : World.alloc _ _ = W
  have hW1 : Blk W w.heap.size 227 (bc (List.replicate 32 0)).toArray ∧ Blk W (w.heap.size + 1) 233 (bc (0x80 :: List.replicate 71 0)).toArray ∧ Below w.heap.size w W ∧ W.heap.size = w.heap.size + 1 + 1 := by
    rw [← hW, z72, z32]
    refine ⟨(Blk.new w _ _).alloc _, ?_, ((Below.refl _ _).alloc (Nat.le_refl _) _).alloc (by simp) _, by simp⟩
    have h1 := Blk.new (w.alloc (.cells (bc (List.replicate 32 0)).toArray 227)) 233 (bc (0x80 :: List.replicate 71 0)).toArray
    have e : (w.alloc (.cells (bc (List.replicate 32 0)).toArray 227)).heap.size = w.heap.size + 1 := by simp
    rw [e] at h1
    exact h1
  have HW := Lib.hid hW1
  clear hW1 hW c73
  go_cut [5] from 15 to 21 (fun v wx => v = .int .u64 (padP L : Nat) ∧ wx = W)
  case first =>
    by_cases h56 : L % 64 < 56
    · have e1 : ((padP L : Nat) : Int) = 56 - (L : Int) % 64 := by rw [padP_small h56]; omega
      have HE := Lib.hid e1
      clear e1
      go_wp2_with fail
      go_meet
      case rel => exact ⟨by rw [HE.out], rfl⟩
    · have e1 : ((padP L : Nat) : Int) = 120 - (L : Int) % 64 := by rw [padP_big h56]; omega
      have HE := Lib.hid e1
      clear e1
      go_wp2_with fail
      go_meet
      case rel => exact ⟨by rw [HE.out], rfl⟩
  case rest =>
    obtain ⟨rfl, rfl⟩ := hcut
    obtain ⟨t, ht⟩ : ∃ t, t = padP L := ⟨_, rfl⟩
    obtain ⟨q, hq⟩ : ∃ q, q = t + 8 := ⟨_, rfl⟩
    obtain ⟨N, hN⟩ : ∃ N, N = L * 8 := ⟨_, rfl⟩
    obtain ⟨g4, hg4⟩ : ∃ g4, g4 = w.heap.size + 1 := ⟨_, rfl⟩
    have hpl := padP_le L
    have ht1 : 1 ≤ t ∧ t ≤ 64 := by rw [ht]; exact hpl
    have hN1 : N < 18446744073709551616 := by have := HL.out; omega
    have e1 : (L : Int) * 8 = (N : Int) := by omega
    have e2 : (N : Int) % 18446744073709551616 = (N : Int) := by omega
    have e3 : (t : Int) + 8 = (q : Int) := by omega
    have u1 : (q : Int) ≤ 72 := by omega
    have u2 : (t : Int) ≤ (q : Int) := by omega
    have u3 : ¬ 72 = t := by omega
    rw [← ht, ← hg4]
    have HT := Lib.hid (And.intro ht (And.intro hq (And.intro hN (And.intro hg4 (And.intro ht1 hN1)))))
    clear hpl ht hq hN hg4 ht1 hN1
    go_wp2_with fail
    refine (put64_any g4 t (q - t) (72 - t) 233 (0x80 :: List.replicate 71 0) N wc (by rw [HT.out.2.2.2.1]; exact HW.out.2.1) (by have := HT.out.2.1; omega) (by have := HT.out.2.2.2.2.1; simp only [List.length_cons, List.length_replicate]; omega) HT.out.2.2.2.2.2).mono ?_
    rintro e w1 ⟨rfl, hb1, hg1⟩
    have hg01 : w.grownBy w1 (some g4) := (grownAny_of HW.out.2.2.1 _).trans hg1
    have hne4 : some g ≠ some g4 := by have := HT.out.2.2.2.1; intro e; injection e with e; omega
    have HD1 : Hid (Dg w1 g m) := Lib.hid ⟨h0, x0, nx0, HK0.out, HB0.out.grown hg01 hne4⟩
    have hkw1 : Kw w1 := HKW.out.grown hg01 (by have := HT.out.2.2.2.1; have := HKW.out.2; intro e; injection e with e; omega)
    have hr1 : Rd w1 w1.heap.size 1 (some ⟨g4, 0, none⟩) q (bc (padT L)) := by
      have h1 := rd_blk hb1 0 q (by rw [length_splice _ _ _ (by rw [be8_length]; have := HT.out.2.2.2.2.1; simp only [List.length_cons, List.length_replicate]; omega)]; have := HT.out; simp only [List.length_cons, List.length_replicate]; omega)
      have h2 := pad_made L
      rw [HT.out.2.1, HT.out.1] at h1
      rw [HT.out.2.2.1, h2] at h1
      rw [HT.out.2.1, HT.out.1]
      exact h1
    have hb21 : Blk w1 w.heap.size 227 (bc (List.replicate 32 0)).toArray := HW.out.1.grown hg1 (by have := HT.out.2.2.2.1; intro e; injection e with e; omega)
    have hs1 : w.heap.size + 1 + 1 ≤ w1.heap.size := by have := hg1.size; have := HW.out.2.2.2; omega
    have HR1 := Lib.hid hr1; have HKW1 := Lib.hid hkw1; have HB21 := Lib.hid hb21; have HS1 := Lib.hid hs1
    have HG01 : Hid (w.grownBy w1 (some g4)) := Lib.hid hg01
    have HNE4 := Lib.hid hne4
    clear hb1 hg1 hg01 hne4 hkw1 hr1 hb21 hs1
    go_wp2_with fail
    refine (write_any g m (padT L) (some ⟨g4, 0, none⟩) q 72 w1 HD1.out HKW1.out HGK.out HR1.out (by rintro ad e; cases e; exact fun h => HNE4.out h.symm) (by omega) (by rw [padT_length]; have := HL.out; have := padP_le L; unfold padP at this; omega)).mono ?_
    rintro e w2 ⟨rfl, hd2, hg2⟩
    obtain ⟨h2, x2, nx2, hk2, hb2⟩ := hd2
    have hLm : padT L = padT m.length := by rw [HL.out.1]
    rw [hLm] at hk2
    obtain ⟨rfl, hsum⟩ := took_sum hk2
    have hx2 := hk2.len
    have c72 := (hb2.cell 72).trans (dgC_r h2 x2 0 _ hx2).1
    have HB2 := Lib.hid hb2; have HX2 := Lib.hid hx2; have HSUM := Lib.hid hsum
    have HB22 := Lib.hid (HB21.out.grown hg2 (by intro e; injection e with e; omega))
    have HG2 := Lib.hid hg2
    clear hb2 hx2 hsum hk2 hLm hg2
    go_wp2_with fail
    obtain ⟨g7, hg7⟩ : ∃ g7, g7 = w2.heap.size := ⟨_, rfl⟩
    rw [z32, ← hg7]
    generalize hW3 : w2.alloc _ = W3
    have hb7 : Blk W3 g7 227 (bc (List.replicate 32 0)).toArray := by rw [← hW3, hg7]; exact Blk.new w2 _ _
    have hB7 : Below w2.heap.size w2 W3 := by rw [← hW3]; exact (Below.refl _ _).alloc (Nat.le_refl _) _
    have hgw : w.grownBy w2 (some g) := by
      refine ⟨HG2.out.os.trans HG01.out.os, HG2.out.tape.trans HG01.out.tape, HG2.out.output.trans HG01.out.output, Nat.le_trans HG01.out.size HG2.out.size, fun i hi hne => ?_⟩
      exact (HG2.out.block i (Nat.lt_of_lt_of_le hi HG01.out.size) hne).trans (HG01.out.block i hi (by have := HT.out.2.2.2.1; intro e; injection e with e; omega))
    have HGW := Lib.hid hgw; have HD7 := Lib.hid hb7; have HBL := Lib.hid hB7; have HG7 := Lib.hid hg7
    clear hW3 hb7 hB7 hgw hg7 c72
    have cc0 := (dgBlk (HB2.out.belowS HBL.out)).1
    unfold uv at cc0
    go_wp2_with fail
    go_region_with (go_at_call 135; refine (put32_any g7 0 32 32 227 _ h2.a _ HD7.out.drew (by decide) (by simp [put4_length])).mono ?_; rintro e v0 ⟨rfl, hb0, hg0⟩)
    have HE0 := Lib.hid hb0
    have HF0 : Hid (Below w2.heap.size w2 v0) := Lib.hid (HBL.out.drew.grown hg0 HBL.out.size (by intro k e; cases e; rw [HG7.out]; exact Nat.le_refl _))
    clear hb0 hg0 cc0
    have cc1 := (dgBlk (HB2.out.belowS HF0.out)).2.1
    unfold uv at cc1
    go_wp2_with fail
    go_region_with (go_at_call 135; refine (put32_any g7 4 28 28 227 _ h2.b _ HE0.out.drew (by decide) (by simp [put4_length])).mono ?_; rintro e v1 ⟨rfl, hb1, hg1⟩)
    have HE1 := Lib.hid hb1
    have HF1 : Hid (Below w2.heap.size w2 v1) := Lib.hid (HF0.out.drew.grown hg1 HF0.out.size (by intro k e; cases e; rw [HG7.out]; exact Nat.le_refl _))
    clear hb1 hg1 cc1
    have cc2 := (dgBlk (HB2.out.belowS HF1.out)).2.2.1
    unfold uv at cc2
    go_wp2_with fail
    go_region_with (go_at_call 135; refine (put32_any g7 8 24 24 227 _ h2.c _ HE1.out.drew (by decide) (by simp [put4_length])).mono ?_; rintro e v2 ⟨rfl, hb2, hg2⟩)
    have HE2 := Lib.hid hb2
    have HF2 : Hid (Below w2.heap.size w2 v2) := Lib.hid (HF1.out.drew.grown hg2 HF1.out.size (by intro k e; cases e; rw [HG7.out]; exact Nat.le_refl _))
    clear hb2 hg2 cc2
    have cc3 := (dgBlk (HB2.out.belowS HF2.out)).2.2.2.1
    unfold uv at cc3
    go_wp2_with fail
    go_region_with (go_at_call 135; refine (put32_any g7 12 20 20 227 _ h2.d _ HE2.out.drew (by decide) (by simp [put4_length])).mono ?_; rintro e v3 ⟨rfl, hb3, hg3⟩)
    have HE3 := Lib.hid hb3
    have HF3 : Hid (Below w2.heap.size w2 v3) := Lib.hid (HF2.out.drew.grown hg3 HF2.out.size (by intro k e; cases e; rw [HG7.out]; exact Nat.le_refl _))
    clear hb3 hg3 cc3
    have cc4 := (dgBlk (HB2.out.belowS HF3.out)).2.2.2.2.1
    unfold uv at cc4
    go_wp2_with fail
    go_region_with (go_at_call 135; refine (put32_any g7 16 16 16 227 _ h2.e _ HE3.out.drew (by decide) (by simp [put4_length])).mono ?_; rintro e v4 ⟨rfl, hb4, hg4⟩)
    have HE4 := Lib.hid hb4
    have HF4 : Hid (Below w2.heap.size w2 v4) := Lib.hid (HF3.out.drew.grown hg4 HF3.out.size (by intro k e; cases e; rw [HG7.out]; exact Nat.le_refl _))
    clear hb4 hg4 cc4
    have cc5 := (dgBlk (HB2.out.belowS HF4.out)).2.2.2.2.2.1
    unfold uv at cc5
    go_wp2_with fail
    go_region_with (go_at_call 135; refine (put32_any g7 20 12 12 227 _ h2.f _ HE4.out.drew (by decide) (by simp [put4_length])).mono ?_; rintro e v5 ⟨rfl, hb5, hg5⟩)
    have HE5 := Lib.hid hb5
    have HF5 : Hid (Below w2.heap.size w2 v5) := Lib.hid (HF4.out.drew.grown hg5 HF4.out.size (by intro k e; cases e; rw [HG7.out]; exact Nat.le_refl _))
    clear hb5 hg5 cc5
    have cc6 := (dgBlk (HB2.out.belowS HF5.out)).2.2.2.2.2.2.1
    unfold uv at cc6
    go_wp2_with fail
    go_region_with (go_at_call 135; refine (put32_any g7 24 8 8 227 _ h2.g _ HE5.out.drew (by decide) (by simp [put4_length])).mono ?_; rintro e v6 ⟨rfl, hb6, hg6⟩)
    have HE6 := Lib.hid hb6
    have HF6 : Hid (Below w2.heap.size w2 v6) := Lib.hid (HF5.out.drew.grown hg6 HF5.out.size (by intro k e; cases e; rw [HG7.out]; exact Nat.le_refl _))
    clear hb6 hg6 cc6
    have cc7 := (dgBlk (HB2.out.belowS HF6.out)).2.2.2.2.2.2.2
    unfold uv at cc7
    have c74 := ((HB2.out.belowS HF6.out).cell 74).trans (dgC_r h2 x2 0 _ HX2.out).2.2
    go_wp2_with fail
    go_region_with (go_at_call 135; refine (put32_any g7 28 4 4 227 _ h2.h _ HE6.out.drew (by decide) (by simp [put4_length])).mono ?_; rintro e v7 ⟨rfl, hb7, hg7⟩)
    have HE7 := Lib.hid hb7
    have HF7 : Hid (Below w2.heap.size w2 v7) := Lib.hid (HF6.out.drew.grown hg7 HF6.out.size (by intro k e; cases e; rw [HG7.out]; exact Nat.le_refl _))
    clear hb7 hg7 cc7 c74
    have hE : Blk v7 g7 227 (bc (shaL m)).toArray := by
      have h1 := HE7.out
      rw [sum_bytes, HSUM.out] at h1
      exact h1
    have h22 : Blk v7 w.heap.size 227 (bc (List.replicate 32 0)).toArray := HB22.out.belowS HF7.out
    have HH := Lib.hid hE
    have H22 := Lib.hid h22
    clear hE h22
    go_wp2_with (first
      | (refine wpList_load_row rfl 227 (.tmp 7) rfl g7 rfl 227 (bc (shaL m)).toArray (0, 0) _ HH.out Tryd.underlying227 rfl (info32 _ (shaL_length m)) ?_)
      | (refine wpList_store_rowTo rfl 227 (.tmp 2) (.tmp 103) rfl rfl w.heap.size (bc (shaL m)).toArray rfl rfl 227 _ H22.out (info32 _ (shaL_length m)) (by rw [bc_size, bc_size, shaL_length]; rfl) (bc_all _) ?_))
    have h9 : Blk (v7.setRow w.heap.size (bc (shaL m)).toArray) w.heap.size 227 (bc (shaL m)).toArray := setRow_heap _ _ _ _ _ _ H22.out
    refine bodyPost_ret (results_cell_row rfl _ _ w.heap.size 227 (bc (shaL m)).toArray (0, 0) _ rfl h9 Tryd.underlying227 rfl (info32 _ (shaL_length m))) rfl ⟨rfl, ?_, ⟨h2, x2, 0, _, HX2.out, (setRow_other _ _ _ _ (by omega)).trans (HB2.out.belowS HF7.out)⟩⟩
    have h10 : w.grownBy v7 (some g) := HGW.out.trans (grownAny_of HF7.out _)
    refine ⟨h10.os, h10.tape, h10.output, Nat.le_trans h10.size (by simp [World.setRow]), fun i hi hne => ?_⟩
    rw [setRow_other _ _ _ _ (by omega)]
    exact h10.block i hi hne
end Go.Proofs.YtikikddkhikfkaaDoor
