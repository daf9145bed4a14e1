/-
  floorDiv128: the walk. By the session.
-/
import Derived.Test.YtikikddkhikfkaaClip
set_option linter.unusedSimpArgs false
namespace Go.Proofs.Ytikikddkhikfkaa
open Go.RowKit

theorem wrap_u64 {x : Int} (h0 : 0 ≤ x) (h1 : x ≤ 18446744073709551615) : IntKind.u64.wrap x = x := by
  simp [IntKind.wrap, IntKind.bits, IntKind.signed]
  omega
theorem or_low (x b : Nat) (hb : b < 2) (hx : x * 2 < 18446744073709551616) : bits BinOp.or IntKind.u64 ((x : Int) * 2) (b : Int) = (x : Int) * 2 + b := by
  have h := bits_or_u64_nat (x * 2) b hx (by omega)
  have h2 : x * 2 ||| b = x * 2 + b := by
    have := Nat.shiftLeft_add_eq_or_of_lt (i := 1) (b := b) (by omega) x
    rw [Nat.shiftLeft_eq, Nat.pow_one] at this
    exact this.symm
  rw [h2] at h
  have e : ((x * 2 : Nat) : Int) = (x : Int) * 2 := by omega
  rw [e] at h
  rw [h]; omega
/-- one step of the long division -/
theorem div_step (M j : Nat) : M / 2 ^ j = M / 2 ^ (j + 1) * 2 + M / 2 ^ j % 2 := by
  rw [Nat.pow_succ, ← Nat.div_div_eq_div_mul]; omega
theorem div_low (a n b : Nat) (h : a % n * 2 + b < n) : (a * 2 + b) % n = a % n * 2 + b ∧ (a * 2 + b) / n = a / n * 2 := by
  have e : a * 2 + b = (a % n * 2 + b) + n * (a / n * 2) := by
    have := Nat.div_add_mod a n
    have h2 : n * (a / n * 2) = n * (a / n) * 2 := (Nat.mul_assoc ..).symm
    omega
  rw [e, Nat.add_mul_mod_self_left, Nat.mod_eq_of_lt h, Nat.add_mul_div_left _ _ (by omega), Nat.div_eq_of_lt h]
  omega
theorem div_high (a n b : Nat) (hn : 1 ≤ n) (hb : b < 2) (h : n ≤ a % n * 2 + b) : (a * 2 + b) % n = a % n * 2 + b - n ∧ (a * 2 + b) / n = a / n * 2 + 1 := by
  have hr := Nat.mod_lt a (show n > 0 by omega)
  have e : a * 2 + b = (a % n * 2 + b - n) + n * (a / n * 2 + 1) := by
    have := Nat.div_add_mod a n
    have h2 : n * (a / n * 2 + 1) = n * (a / n) * 2 + n := by rw [Nat.mul_add, Nat.mul_one, Nat.mul_assoc]
    omega
  have hlt : a % n * 2 + b - n < n := by omega
  rw [e, Nat.add_mul_mod_self_left, Nat.mod_eq_of_lt hlt, Nat.add_mul_div_left _ _ (by omega), Nat.div_eq_of_lt hlt]
  omega
theorem bit_high (M j : Nat) (hj : 64 ≤ j) : M / 18446744073709551616 / 2 ^ (j - 64) % 2 = M / 2 ^ j % 2 := by
  rw [Nat.div_div_eq_div_mul, show (18446744073709551616 : Nat) = 2 ^ 64 from rfl, ← Nat.pow_add, show 64 + (j - 64) = j by omega]
theorem bit_low (M j : Nat) (hj : j < 64) : M % 18446744073709551616 / 2 ^ j % 2 = M / 2 ^ j % 2 := by
  have h := Nat.testBit_mod_two_pow M 64 j
  simp only [Nat.testBit_eq_decide_div_mod_eq, hj, decide_true, Bool.true_and, decide_eq_decide] at h
  rw [show (18446744073709551616 : Nat) = 2 ^ 64 from rfl]
  have a := Nat.mod_lt (M % 2 ^ 64 / 2 ^ j) (show 2 > 0 by omega)
  have b := Nat.mod_lt (M / 2 ^ j) (show 2 > 0 by omega)
  omega

set_option maxRecDepth 100000 in
set_option maxHeartbeats 3200000 in
theorem floorDiv_pos (M : Nat) (n : Nat) (w : World) (hn : 1 ≤ n) (hn2 : n ≤ 1000000) (hM : M ≤ n * 4611686018427387904) :
    Calls Try.prog 99 #[.int .u64 (M / 18446744073709551616 : Nat), .int .u64 (M % 18446744073709551616 : Nat), .int .i64 n] w fun e w' => e = .returned (.int .i64 (M / n : Nat)) ∧ w = w' := by
  have hneg : decide (wrap64 ((M / 18446744073709551616 : Nat) : Int) < 0) = false := by
    have : M / 18446744073709551616 ≤ 1000000 := by omega
    simp only [wrap64, decide_eq_false_iff_not]; omega
  go_enter Try.func99, Try.ntmps99
  go_wp2
  go_loop [8, 9, 11] (fun r q i => ∃ k : Nat, k ≤ 128 ∧ i = .int .i64 ((k : Int) - 1) ∧ r = .int .u64 (M / 2 ^ k % n : Nat) ∧ q = .int .u64 (M / 2 ^ k / n : Nat)) (fun _ _ i => ((intOf i) + 1).toNat)
  case atStart =>
    have hM0 : M / 2 ^ 128 = 0 := Nat.div_eq_of_lt (by omega)
    exact ⟨128, Nat.le_refl _, rfl, by rw [hM0]; simp, by rw [hM0]; simp⟩
  case round =>
    obtain ⟨k, hk, rfl, rfl, rfl⟩ := hrel
    cases k with
    | zero =>
      rw [Nat.pow_zero, Nat.div_one]
      have hq : M / n ≤ 4611686018427387904 := Nat.div_le_of_le_mul (by omega)
      have hq1 : (M : Int) / n = (M / n : Nat) := by simp
      have hq2 : 0 ≤ (M : Int) / n := by rw [hq1]; exact Int.natCast_nonneg _
      have hq3 : (M : Int) / n ≤ 4611686018427387904 := by rw [hq1]; exact Int.ofNat_le.2 hq
      clear hq1 hq
      go_wp2
      go_ret
      exact ⟨rfl, rfl⟩
    | succ j =>
      have hstep := div_step M j
      have hbl : M / 2 ^ j % 2 < 2 := Nat.mod_lt _ (by omega)
      have hrl : M / 2 ^ (j + 1) % n < n := Nat.mod_lt _ (by omega)
      have hql : M / 2 ^ j / n ≤ 4611686018427387904 := by
        have h1 : M / 2 ^ j ≤ M := Nat.div_le_self _ _
        exact Nat.div_le_of_le_mul (by omega)
      have dl := div_low (M / 2 ^ (j + 1)) n (M / 2 ^ j % 2)
      have dh := div_high (M / 2 ^ (j + 1)) n (M / 2 ^ j % 2) hn hbl
      rw [← hstep] at dl dh
      generalize hr' : M / 2 ^ j % n = r' at *
      generalize hq' : M / 2 ^ j / n = q' at *
      have HR := Lib.hid hr'; have HQQ := Lib.hid hq'; clear hr' hq'
      have bh := bit_high M j
      have bl := bit_low M j
      generalize M / 2 ^ j % 2 = b at *
      generalize M / 2 ^ (j + 1) % n = r at *
      generalize M / 2 ^ (j + 1) / n = q at *
      clear hstep
      have hH : M / 18446744073709551616 ≤ 18446744073709551615 := by omega
      have hL : M % 18446744073709551616 ≤ 18446744073709551615 := by omega
      generalize M / 18446744073709551616 = hi at *
      generalize M % 18446744073709551616 = lo at *
      have f1 : IntKind.u64.wrap ((r : Int) * 2) = (r : Int) * 2 := wrap_u64 (by omega) (by omega)
      have f3 := or_low r b hbl (by omega)
      have DL := Lib.hid dl; have DH := Lib.hid dh
      by_cases h64 : 64 ≤ j
      ·
        have f2 : bits BinOp.and .u64 ((hi : Int) / 2 ^ (j - 64)) 1 = (b : Int) := by
          have h1 : hi / 2 ^ (j - 64) ≤ hi := Nat.div_le_self _ _
          have h2 := and_one_u64 ((hi / 2 ^ (j - 64) : Nat) : Int) (Int.natCast_nonneg _) (Int.ofNat_le.2 (Nat.le_trans h1 hH))
          rw [← bh h64]
          simpa using h2
        clear bh bl dl dh
        by_cases hlt : n ≤ r * 2 + b
        · have f4 : IntKind.u64.wrap ((r : Int) * 2 + b - n) = (r : Int) * 2 + b - n := wrap_u64 (by omega) (by omega)
          have hq := DH.out hlt
          have hq2 := hq.2
          have f5 : IntKind.u64.wrap ((q : Int) * 2) = (q : Int) * 2 := wrap_u64 (by omega) (by omega)
          have f6 : bits BinOp.or IntKind.u64 ((q : Int) * 2) 1 = (q : Int) * 2 + 1 := or_low q 1 (by omega) (by omega)
          have HQ := Lib.hid hq; clear hq hq2
          go_wp2
          go_round
          case rel => exact ⟨j, by omega, rfl, by rw [HR.out, HQ.out.1]; congr 1; omega, by rw [HQQ.out, HQ.out.2]; congr 1⟩
          case measure => first | (simp [intOf]; done) | (simp [intOf]; omega)
        · have hq := DL.out (by omega)
          have hq2 := hq.2
          have f5 : IntKind.u64.wrap ((q : Int) * 2) = (q : Int) * 2 := wrap_u64 (by omega) (by omega)
          have HQ := Lib.hid hq; clear hq hq2
          go_wp2
          go_round
          case rel => exact ⟨j, by omega, rfl, by rw [HR.out, HQ.out.1]; congr 1, by rw [HQQ.out, HQ.out.2]; congr 1⟩
          case measure => first | (simp [intOf]; done) | (simp [intOf]; omega)
      ·
        have f2 : bits BinOp.and .u64 ((lo : Int) / 2 ^ j) 1 = (b : Int) := by
          have h1 : lo / 2 ^ j ≤ lo := Nat.div_le_self _ _
          have h2 := and_one_u64 ((lo / 2 ^ j : Nat) : Int) (Int.natCast_nonneg _) (Int.ofNat_le.2 (Nat.le_trans h1 hL))
          rw [← bl (by omega)]
          simpa using h2
        clear bh bl dl dh
        by_cases hlt : n ≤ r * 2 + b
        · have f4 : IntKind.u64.wrap ((r : Int) * 2 + b - n) = (r : Int) * 2 + b - n := wrap_u64 (by omega) (by omega)
          have hq := DH.out hlt
          have hq2 := hq.2
          have f5 : IntKind.u64.wrap ((q : Int) * 2) = (q : Int) * 2 := wrap_u64 (by omega) (by omega)
          have f6 : bits BinOp.or IntKind.u64 ((q : Int) * 2) 1 = (q : Int) * 2 + 1 := or_low q 1 (by omega) (by omega)
          have HQ := Lib.hid hq; clear hq hq2
          go_wp2
          go_round
          case rel => exact ⟨j, by omega, rfl, by rw [HR.out, HQ.out.1]; congr 1; omega, by rw [HQQ.out, HQ.out.2]; congr 1⟩
          case measure => first | (simp [intOf]; done) | (simp [intOf]; omega)
        · have hq := DL.out (by omega)
          have hq2 := hq.2
          have f5 : IntKind.u64.wrap ((q : Int) * 2) = (q : Int) * 2 := wrap_u64 (by omega) (by omega)
          have HQ := Lib.hid hq; clear hq hq2
          go_wp2
          go_round
          case rel => exact ⟨j, by omega, rfl, by rw [HR.out, HQ.out.1]; congr 1, by rw [HQQ.out, HQ.out.2]; congr 1⟩
          case measure => first | (simp [intOf]; done) | (simp [intOf]; omega)

theorem neg_ediv_zero {M n : Int} (h : M % n = 0) (hn : 0 < n) : -(M / n) = -M / n := by
  have hd := Int.mul_ediv_add_emod M n
  rw [h, Int.add_zero] at hd
  have e : -M = n * -(M / n) := by rw [Int.mul_neg, hd]
  rw [e, Int.mul_ediv_cancel_left _ (by omega)]
theorem neg_ediv_pos {M n : Int} (h : ¬ M % n = 0) (hn : 0 < n) : -(M / n + 1) = -M / n := by
  have hd := Int.mul_ediv_add_emod M n
  have h0 := Int.emod_nonneg M (b := n) (by omega)
  have h1 := Int.emod_lt_of_pos M hn
  have e : -M = (n - M % n) + n * -(M / n + 1) := by rw [Int.mul_neg, Int.mul_add, Int.mul_one]; omega
  rw [e, Int.add_mul_ediv_left _ _ (by omega), Int.ediv_eq_zero_of_lt (a := n - M % n) (b := n) (by omega) (by omega)]
  omega
theorem xor_max (x : Nat) (hx : x ≤ 18446744073709551615) : bits BinOp.xor IntKind.u64 IntKind.u64.max (18446744073709551615 - (x : Int)) = x := by
  have h := bits_xor_u64_nat 18446744073709551615 (18446744073709551615 - x) (by omega) (by omega)
  have h2 : 18446744073709551615 ^^^ (18446744073709551615 - x) = x := by
    have e : 18446744073709551615 - x = 2 ^ 64 - (x + 1) := by omega
    apply Nat.eq_of_testBit_eq
    intro i
    rw [Nat.testBit_xor, e, Nat.testBit_two_pow_sub_succ (by omega), show (18446744073709551615 : Nat) = 2 ^ 64 - 1 from rfl, Nat.testBit_two_pow_sub_one]
    by_cases hi : i < 64
    · simp [hi]
    · simp [hi]
      exact Nat.testBit_lt_two_pow (Nat.lt_of_lt_of_le (show x < 2 ^ 64 by omega) (Nat.pow_le_pow_right (i := 64) (j := i) (by omega) (by omega)))
  rw [h2] at h
  have e1 : ((18446744073709551615 - x : Nat) : Int) = 18446744073709551615 - (x : Int) := by omega
  rw [e1] at h
  exact h

set_option maxRecDepth 100000 in
set_option maxHeartbeats 3200000 in
theorem floorDiv_neg (M : Nat) (n : Nat) (r0 : Int) (w : World) (hn : 1 ≤ n) (hn2 : n ≤ 1000000) (hM0 : 1 ≤ M) (hM : M ≤ n * 4611686018427387904) (hr0 : r0 = -(M : Int) / n) :
    Calls Try.prog 99 #[.int .u64 (18446744073709551615 - (((M - 1) / 18446744073709551616 : Nat) : Int)), .int .u64 (18446744073709551615 - (((M - 1) % 18446744073709551616 : Nat) : Int)), .int .i64 n] w fun e w' => e = .returned (.int .i64 r0) ∧ w = w' := by
  have HR0 := Lib.hid hr0; clear hr0
  have hh : (M - 1) / 18446744073709551616 ≤ 1000000 := by omega
  have hd := Nat.div_add_mod (M - 1) 18446744073709551616
  have hlt := Nat.mod_lt (M - 1) (show 18446744073709551616 > 0 by omega)
  generalize (M - 1) / 18446744073709551616 = h1 at *
  generalize (M - 1) % 18446744073709551616 = l1 at *
  have hl1 : l1 ≤ 18446744073709551615 := by omega
  have x1 := xor_max h1 (by omega)
  have x2 := xor_max l1 hl1
  have sg : IntKind.u64.signed = false := rfl
  have wr : wrap64 (18446744073709551615 - (h1 : Int)) = -1 - h1 := by unfold wrap64; omega
  by_cases hz : l1 = 18446744073709551615
  · obtain ⟨hi, hhi⟩ : ∃ hi, hi = M / 18446744073709551616 := ⟨_, rfl⟩
    obtain ⟨lo, hlo⟩ : ∃ lo, lo = M % 18446744073709551616 := ⟨_, rfl⟩
    have hi2 : hi = h1 + 1 := by omega
    have lo2 : lo = 0 := by omega
    have w1 : IntKind.u64.wrap ((l1 : Int) + 1) = lo := by subst hz; rw [lo2]; rfl
    have w2 : IntKind.u64.wrap ((h1 : Int) + 1) = hi := by rw [hi2]; exact wrap_u64 (by omega) (by omega)
    have tz : ((lo : Int) == 0) = true := by rw [lo2]; rfl
    have hH : hi ≤ 18446744073709551615 := by omega
    have hL : lo ≤ 18446744073709551615 := by omega
    have HHI := Lib.hid hhi; have HLO := Lib.hid hlo
    clear hhi hlo hi2 lo2 hz hl1 hlt hd
    go_enter Try.func99, Try.ntmps99
    go_wp2
    go_loop [8, 9, 11] (fun r q i => ∃ k : Nat, k ≤ 128 ∧ i = .int .i64 ((k : Int) - 1) ∧ r = .int .u64 (M / 2 ^ k % n : Nat) ∧ q = .int .u64 (M / 2 ^ k / n : Nat)) (fun _ _ i => ((intOf i) + 1).toNat)
    case atStart =>
      have hM0 : M / 2 ^ 128 = 0 := Nat.div_eq_of_lt (by omega)
      exact ⟨128, Nat.le_refl _, rfl, by rw [hM0]; simp, by rw [hM0]; simp⟩
    case round =>
      obtain ⟨k, hk, rfl, rfl, rfl⟩ := hrel
      cases k with
      | zero =>
        rw [Nat.pow_zero, Nat.div_one]
        have hq : M / n ≤ 4611686018427387904 := Nat.div_le_of_le_mul (by omega)
        have hq1 : (M : Int) / n = (M / n : Nat) := by simp
        have hq2 : 0 ≤ (M : Int) / n := by rw [hq1]; exact Int.natCast_nonneg _
        have hq3 : (M : Int) / n ≤ 4611686018427387904 := by rw [hq1]; exact Int.ofNat_le.2 hq
        have hd := Int.mul_ediv_add_emod (M : Int) n
        clear hq1 hq
        by_cases hm : (M : Int) % n = 0
        · have hr2 : -((M : Int) / n) = r0 := by rw [HR0.out]; exact neg_ediv_zero hm (by omega)
          have HR2 := Lib.hid hr2; clear hr2
          have hm2 : decide (0 < (M : Int) % n) = false := by simp [hm]
          go_wp2
          go_ret
          exact ⟨ret_int HR2.out, rfl⟩
        · have hr2 : -((M : Int) / n + 1) = r0 := by rw [HR0.out]; exact neg_ediv_pos hm (by omega)
          have HR2 := Lib.hid hr2; clear hr2
          have hm2 : 0 < (M : Int) % n := by have := Int.emod_nonneg (M : Int) (b := n) (by omega); omega
          go_wp2
          go_ret
          exact ⟨ret_int HR2.out, rfl⟩
      | succ j =>
        have hstep := div_step M j
        have hbl : M / 2 ^ j % 2 < 2 := Nat.mod_lt _ (by omega)
        have hrl : M / 2 ^ (j + 1) % n < n := Nat.mod_lt _ (by omega)
        have hql : M / 2 ^ j / n ≤ 4611686018427387904 := by
          have h1 : M / 2 ^ j ≤ M := Nat.div_le_self _ _
          exact Nat.div_le_of_le_mul (by omega)
        have dl := div_low (M / 2 ^ (j + 1)) n (M / 2 ^ j % 2)
        have dh := div_high (M / 2 ^ (j + 1)) n (M / 2 ^ j % 2) hn hbl
        rw [← hstep] at dl dh
        generalize hr' : M / 2 ^ j % n = r' at *
        generalize hq' : M / 2 ^ j / n = q' at *
        have HR := Lib.hid hr'; have HQQ := Lib.hid hq'; clear hr' hq'
        have bh := bit_high M j
        have bl := bit_low M j
        generalize M / 2 ^ j % 2 = b at *
        generalize M / 2 ^ (j + 1) % n = r at *
        generalize M / 2 ^ (j + 1) / n = q at *
        clear hstep
        rw [← HHI.out] at bh
        rw [← HLO.out] at bl
        have f1 : IntKind.u64.wrap ((r : Int) * 2) = (r : Int) * 2 := wrap_u64 (by omega) (by omega)
        have f3 := or_low r b hbl (by omega)
        have DL := Lib.hid dl; have DH := Lib.hid dh
        by_cases h64 : 64 ≤ j
        ·
          have f2 : bits BinOp.and .u64 ((hi : Int) / 2 ^ (j - 64)) 1 = (b : Int) := by
            have h1 : hi / 2 ^ (j - 64) ≤ hi := Nat.div_le_self _ _
            have h2 := and_one_u64 ((hi / 2 ^ (j - 64) : Nat) : Int) (Int.natCast_nonneg _) (Int.ofNat_le.2 (Nat.le_trans h1 hH))
            rw [← bh h64]
            simpa using h2
          clear bh bl dl dh
          by_cases hlt : n ≤ r * 2 + b
          · have f4 : IntKind.u64.wrap ((r : Int) * 2 + b - n) = (r : Int) * 2 + b - n := wrap_u64 (by omega) (by omega)
            have hq := DH.out hlt
            have hq2 := hq.2
            have f5 : IntKind.u64.wrap ((q : Int) * 2) = (q : Int) * 2 := wrap_u64 (by omega) (by omega)
            have f6 : bits BinOp.or IntKind.u64 ((q : Int) * 2) 1 = (q : Int) * 2 + 1 := or_low q 1 (by omega) (by omega)
            have HQ := Lib.hid hq; clear hq hq2
            go_wp2
            go_round
            case rel => exact ⟨j, by omega, rfl, by rw [HR.out, HQ.out.1]; congr 1; omega, by rw [HQQ.out, HQ.out.2]; congr 1⟩
            case measure => first | (simp [intOf]; done) | (simp [intOf]; omega)
          · have hq := DL.out (by omega)
            have hq2 := hq.2
            have f5 : IntKind.u64.wrap ((q : Int) * 2) = (q : Int) * 2 := wrap_u64 (by omega) (by omega)
            have HQ := Lib.hid hq; clear hq hq2
            go_wp2
            go_round
            case rel => exact ⟨j, by omega, rfl, by rw [HR.out, HQ.out.1]; congr 1, by rw [HQQ.out, HQ.out.2]; congr 1⟩
            case measure => first | (simp [intOf]; done) | (simp [intOf]; omega)
        ·
          have f2 : bits BinOp.and .u64 ((lo : Int) / 2 ^ j) 1 = (b : Int) := by
            have h1 : lo / 2 ^ j ≤ lo := Nat.div_le_self _ _
            have h2 := and_one_u64 ((lo / 2 ^ j : Nat) : Int) (Int.natCast_nonneg _) (Int.ofNat_le.2 (Nat.le_trans h1 hL))
            rw [← bl (by omega)]
            simpa using h2
          clear bh bl dl dh
          by_cases hlt : n ≤ r * 2 + b
          · have f4 : IntKind.u64.wrap ((r : Int) * 2 + b - n) = (r : Int) * 2 + b - n := wrap_u64 (by omega) (by omega)
            have hq := DH.out hlt
            have hq2 := hq.2
            have f5 : IntKind.u64.wrap ((q : Int) * 2) = (q : Int) * 2 := wrap_u64 (by omega) (by omega)
            have f6 : bits BinOp.or IntKind.u64 ((q : Int) * 2) 1 = (q : Int) * 2 + 1 := or_low q 1 (by omega) (by omega)
            have HQ := Lib.hid hq; clear hq hq2
            go_wp2
            go_round
            case rel => exact ⟨j, by omega, rfl, by rw [HR.out, HQ.out.1]; congr 1; omega, by rw [HQQ.out, HQ.out.2]; congr 1⟩
            case measure => first | (simp [intOf]; done) | (simp [intOf]; omega)
          · have hq := DL.out (by omega)
            have hq2 := hq.2
            have f5 : IntKind.u64.wrap ((q : Int) * 2) = (q : Int) * 2 := wrap_u64 (by omega) (by omega)
            have HQ := Lib.hid hq; clear hq hq2
            go_wp2
            go_round
            case rel => exact ⟨j, by omega, rfl, by rw [HR.out, HQ.out.1]; congr 1, by rw [HQQ.out, HQ.out.2]; congr 1⟩
            case measure => first | (simp [intOf]; done) | (simp [intOf]; omega)

  · obtain ⟨hi, hhi⟩ : ∃ hi, hi = M / 18446744073709551616 := ⟨_, rfl⟩
    obtain ⟨lo, hlo⟩ : ∃ lo, lo = M % 18446744073709551616 := ⟨_, rfl⟩
    have hi2 : hi = h1 := by omega
    have lo2 : lo = l1 + 1 := by omega
    have w1 : IntKind.u64.wrap ((l1 : Int) + 1) = lo := by rw [lo2]; exact wrap_u64 (by omega) (by omega)
    have tz : ((lo : Int) == 0) = false := by simp; omega
    have hH : hi ≤ 18446744073709551615 := by omega
    have hL : lo ≤ 18446744073709551615 := by omega
    subst hi2
    have HHI := Lib.hid hhi; have HLO := Lib.hid hlo
    clear hhi hlo lo2 hz hl1 hlt hd
    go_enter Try.func99, Try.ntmps99
    go_wp2
    go_loop [8, 9, 11] (fun r q i => ∃ k : Nat, k ≤ 128 ∧ i = .int .i64 ((k : Int) - 1) ∧ r = .int .u64 (M / 2 ^ k % n : Nat) ∧ q = .int .u64 (M / 2 ^ k / n : Nat)) (fun _ _ i => ((intOf i) + 1).toNat)
    case atStart =>
      have hM0 : M / 2 ^ 128 = 0 := Nat.div_eq_of_lt (by omega)
      exact ⟨128, Nat.le_refl _, rfl, by rw [hM0]; simp, by rw [hM0]; simp⟩
    case round =>
      obtain ⟨k, hk, rfl, rfl, rfl⟩ := hrel
      cases k with
      | zero =>
        rw [Nat.pow_zero, Nat.div_one]
        have hq : M / n ≤ 4611686018427387904 := Nat.div_le_of_le_mul (by omega)
        have hq1 : (M : Int) / n = (M / n : Nat) := by simp
        have hq2 : 0 ≤ (M : Int) / n := by rw [hq1]; exact Int.natCast_nonneg _
        have hq3 : (M : Int) / n ≤ 4611686018427387904 := by rw [hq1]; exact Int.ofNat_le.2 hq
        have hd := Int.mul_ediv_add_emod (M : Int) n
        clear hq1 hq
        by_cases hm : (M : Int) % n = 0
        · have hr2 : -((M : Int) / n) = r0 := by rw [HR0.out]; exact neg_ediv_zero hm (by omega)
          have HR2 := Lib.hid hr2; clear hr2
          have hm2 : decide (0 < (M : Int) % n) = false := by simp [hm]
          go_wp2
          go_ret
          exact ⟨ret_int HR2.out, rfl⟩
        · have hr2 : -((M : Int) / n + 1) = r0 := by rw [HR0.out]; exact neg_ediv_pos hm (by omega)
          have HR2 := Lib.hid hr2; clear hr2
          have hm2 : 0 < (M : Int) % n := by have := Int.emod_nonneg (M : Int) (b := n) (by omega); omega
          go_wp2
          go_ret
          exact ⟨ret_int HR2.out, rfl⟩
      | succ j =>
        have hstep := div_step M j
        have hbl : M / 2 ^ j % 2 < 2 := Nat.mod_lt _ (by omega)
        have hrl : M / 2 ^ (j + 1) % n < n := Nat.mod_lt _ (by omega)
        have hql : M / 2 ^ j / n ≤ 4611686018427387904 := by
          have h1 : M / 2 ^ j ≤ M := Nat.div_le_self _ _
          exact Nat.div_le_of_le_mul (by omega)
        have dl := div_low (M / 2 ^ (j + 1)) n (M / 2 ^ j % 2)
        have dh := div_high (M / 2 ^ (j + 1)) n (M / 2 ^ j % 2) hn hbl
        rw [← hstep] at dl dh
        generalize hr' : M / 2 ^ j % n = r' at *
        generalize hq' : M / 2 ^ j / n = q' at *
        have HR := Lib.hid hr'; have HQQ := Lib.hid hq'; clear hr' hq'
        have bh := bit_high M j
        have bl := bit_low M j
        generalize M / 2 ^ j % 2 = b at *
        generalize M / 2 ^ (j + 1) % n = r at *
        generalize M / 2 ^ (j + 1) / n = q at *
        clear hstep
        rw [← HHI.out] at bh
        rw [← HLO.out] at bl
        have f1 : IntKind.u64.wrap ((r : Int) * 2) = (r : Int) * 2 := wrap_u64 (by omega) (by omega)
        have f3 := or_low r b hbl (by omega)
        have DL := Lib.hid dl; have DH := Lib.hid dh
        by_cases h64 : 64 ≤ j
        ·
          have f2 : bits BinOp.and .u64 ((hi : Int) / 2 ^ (j - 64)) 1 = (b : Int) := by
            have h1 : hi / 2 ^ (j - 64) ≤ hi := Nat.div_le_self _ _
            have h2 := and_one_u64 ((hi / 2 ^ (j - 64) : Nat) : Int) (Int.natCast_nonneg _) (Int.ofNat_le.2 (Nat.le_trans h1 hH))
            rw [← bh h64]
            simpa using h2
          clear bh bl dl dh
          by_cases hlt : n ≤ r * 2 + b
          · have f4 : IntKind.u64.wrap ((r : Int) * 2 + b - n) = (r : Int) * 2 + b - n := wrap_u64 (by omega) (by omega)
            have hq := DH.out hlt
            have hq2 := hq.2
            have f5 : IntKind.u64.wrap ((q : Int) * 2) = (q : Int) * 2 := wrap_u64 (by omega) (by omega)
            have f6 : bits BinOp.or IntKind.u64 ((q : Int) * 2) 1 = (q : Int) * 2 + 1 := or_low q 1 (by omega) (by omega)
            have HQ := Lib.hid hq; clear hq hq2
            go_wp2
            go_round
            case rel => exact ⟨j, by omega, rfl, by rw [HR.out, HQ.out.1]; congr 1; omega, by rw [HQQ.out, HQ.out.2]; congr 1⟩
            case measure => first | (simp [intOf]; done) | (simp [intOf]; omega)
          · have hq := DL.out (by omega)
            have hq2 := hq.2
            have f5 : IntKind.u64.wrap ((q : Int) * 2) = (q : Int) * 2 := wrap_u64 (by omega) (by omega)
            have HQ := Lib.hid hq; clear hq hq2
            go_wp2
            go_round
            case rel => exact ⟨j, by omega, rfl, by rw [HR.out, HQ.out.1]; congr 1, by rw [HQQ.out, HQ.out.2]; congr 1⟩
            case measure => first | (simp [intOf]; done) | (simp [intOf]; omega)
        ·
          have f2 : bits BinOp.and .u64 ((lo : Int) / 2 ^ j) 1 = (b : Int) := by
            have h1 : lo / 2 ^ j ≤ lo := Nat.div_le_self _ _
            have h2 := and_one_u64 ((lo / 2 ^ j : Nat) : Int) (Int.natCast_nonneg _) (Int.ofNat_le.2 (Nat.le_trans h1 hL))
            rw [← bl (by omega)]
            simpa using h2
          clear bh bl dl dh
          by_cases hlt : n ≤ r * 2 + b
          · have f4 : IntKind.u64.wrap ((r : Int) * 2 + b - n) = (r : Int) * 2 + b - n := wrap_u64 (by omega) (by omega)
            have hq := DH.out hlt
            have hq2 := hq.2
            have f5 : IntKind.u64.wrap ((q : Int) * 2) = (q : Int) * 2 := wrap_u64 (by omega) (by omega)
            have f6 : bits BinOp.or IntKind.u64 ((q : Int) * 2) 1 = (q : Int) * 2 + 1 := or_low q 1 (by omega) (by omega)
            have HQ := Lib.hid hq; clear hq hq2
            go_wp2
            go_round
            case rel => exact ⟨j, by omega, rfl, by rw [HR.out, HQ.out.1]; congr 1; omega, by rw [HQQ.out, HQ.out.2]; congr 1⟩
            case measure => first | (simp [intOf]; done) | (simp [intOf]; omega)
          · have hq := DL.out (by omega)
            have hq2 := hq.2
            have f5 : IntKind.u64.wrap ((q : Int) * 2) = (q : Int) * 2 := wrap_u64 (by omega) (by omega)
            have HQ := Lib.hid hq; clear hq hq2
            go_wp2
            go_round
            case rel => exact ⟨j, by omega, rfl, by rw [HR.out, HQ.out.1]; congr 1, by rw [HQQ.out, HQ.out.2]; congr 1⟩
            case measure => first | (simp [intOf]; done) | (simp [intOf]; omega)

end Go.Proofs.Ytikikddkhikfkaa
