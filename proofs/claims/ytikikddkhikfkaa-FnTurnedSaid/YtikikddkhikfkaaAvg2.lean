/-
  spec.average: walks. By the session.
-/
import Derived.Test.YtikikddkhikfkaaMost
import Derived.Test.YtikikddkhikfkaaRank
import Derived.Test.YtikikddkhikfkaaScaled
set_option linter.unusedSimpArgs false
namespace Go.Proofs.Ytikikddkhikfkaa
open Go.RowKit

theorem and_low32 (n : Int) : bits .and .i64 n 4294967295 = n % 4294967296 := by
  simp only [bits]
  have h : (BitVec.ofInt 64 n &&& BitVec.ofInt 64 4294967295).toNat = (n % 4294967296).toNat := by
    rw [BitVec.toNat_and, show (BitVec.ofInt 64 4294967295).toNat = 2 ^ 32 - 1 from rfl, Nat.and_two_pow_sub_one_eq_mod, BitVec.toNat_ofInt]
    omega
  show IntKind.i64.wrap ((BitVec.ofInt 64 n &&& BitVec.ofInt 64 4294967295).toNat : Int) = _
  rw [h]
  simp [IntKind.wrap, IntKind.bits, IntKind.signed]
  omega
theorem tdiv_floor_neg {a n : Int} (hn : 0 < n) (h : a.tmod n < 0) : a.tdiv n - 1 = a / n ∧ a.tmod n + n = a % n := by
  have h1 := Int.mul_tdiv_add_tmod a n
  have h2 := Int.lt_tmod_of_pos a hn
  have e : a = (a.tmod n + n) + n * (a.tdiv n - 1) := by rw [Int.mul_sub, Int.mul_one]; omega
  constructor
  · conv => rhs; rw [e]
    rw [Int.add_mul_ediv_left _ _ (by omega), Int.ediv_eq_zero_of_lt (a := a.tmod n + n) (by omega) (by omega)]
    omega
  · conv => rhs; rw [e]
    rw [Int.add_mul_emod_self_left, Int.emod_eq_of_lt (by omega) (by omega)]
theorem tdiv_floor_pos {a n : Int} (hn : 0 < n) (h : ¬ a.tmod n < 0) : a.tdiv n = a / n ∧ a.tmod n = a % n := by
  have h1 := Int.mul_tdiv_add_tmod a n
  have h2 := Int.tmod_lt_of_pos a hn
  have e : a = a.tmod n + n * a.tdiv n := by omega
  constructor
  · conv => rhs; rw [e]
    rw [Int.add_mul_ediv_left _ _ (by omega), Int.ediv_eq_zero_of_lt (a := a.tmod n) (by omega) (by omega)]
    omega
  · conv => rhs; rw [e]
    rw [Int.add_mul_emod_self_left, Int.emod_eq_of_lt (by omega) (by omega)]

set_option maxHeartbeats 800000 in
theorem floor_any (a n : Int) (b : Nat) (w : World) (hb : w.cell? ⟨b, 0, none⟩ = some (.int .i64 n)) (hn : 0 < n) (hn2 : n ≤ 1000000) (ha : -4611686018427387904 ≤ a ∧ a ≤ 4611686018427387904) :
    Calls Try.prog 88 #[.int .i64 a, .pointer (some ⟨b, 0, none⟩)] w fun e w' => e = .returned (.tuple #[.int .i64 (a / n), .int .i64 (a % n)]) ∧ ∃ k, w' = w.drewN k := by
  have hz : (n == 0) = false := by rw [beq_eq_false_iff_ne]; omega
  have hq : (a.tdiv n).natAbs ≤ a.natAbs := by rw [Int.natAbs_tdiv]; exact Nat.div_le_self _ _
  have hr1 := Int.tmod_lt_of_pos a hn
  have hr2 := Int.lt_tmod_of_pos a hn
  have w1 : wrap64 (a.tdiv n) = a.tdiv n := by unfold wrap64; omega
  by_cases h : a.tmod n < 0
  · obtain ⟨e1, e2⟩ := tdiv_floor_neg hn h
    have w2 : wrap64 (a.tdiv n - 1) = a.tdiv n - 1 := by unfold wrap64; omega
    have w3 : wrap64 (a.tmod n + n) = a.tmod n + n := by unfold wrap64; omega
    have E1 := Lib.hid e1; have E2 := Lib.hid e2; clear e1 e2
    go_enter Try.func88, Try.ntmps88
    go_wp2_with fail
    go_quiet (fail)
    go_wp2_with fail
    go_quiet (fail)
    go_wp2
    go_ret2
    exact ⟨by rw [E1.out, E2.out]; rfl, _, by first | rfl | exact World.drewN_drewN ..⟩
  · obtain ⟨e1, e2⟩ := tdiv_floor_pos hn h
    have h' : decide (a.tmod n < 0) = false := by simpa using h
    have E1 := Lib.hid e1; have E2 := Lib.hid e2; clear e1 e2 h
    go_enter Try.func88, Try.ntmps88
    go_wp2_with fail
    go_quiet (fail)
    go_wp2
    go_ret2
    exact ⟨by rw [E1.out, E2.out]; rfl, _, by first | rfl | exact World.drewN_drewN ..⟩

/-- the mean out of the upper and the lower halves -/
theorem avg_halves (H L n : Int) (hn : 0 < n) : H / n * 4294967296 + (H % n * 4294967296 + L) / n = (H * 4294967296 + L) / n := by
  have h := Int.mul_ediv_add_emod H n
  have e : H * 4294967296 + L = (H % n * 4294967296 + L) + n * (H / n * 4294967296) := by
    have : n * (H / n * 4294967296) = n * (H / n) * 4294967296 := (Int.mul_assoc ..).symm
    rw [this]; omega
  rw [e, Int.add_mul_ediv_left _ _ (by omega)]
  omega
def hisOf (l : List Int) : List Int := l.map (· / 4294967296)
def losOf (l : List Int) : List Int := l.map (· % 4294967296)
theorem halves_sum (l : List Int) : sumI (hisOf l) * 4294967296 + sumI (losOf l) = sumI l := by
  induction l with
  | nil => rfl
  | cons x r ih =>
    simp only [hisOf, losOf, List.map_cons] at ih ⊢
    rw [sumI_cons, sumI_cons, sumI_cons]
    omega

set_option maxRecDepth 100000 in
set_option maxHeartbeats 3200000 in
theorem average_any (l : List Sd) (A : Option Addr) (n c : Nat) (w : World) (hr : Rd w w.heap.size 4 A n (cellsOf l)) (hn : n ≤ 1000) (hn0 : 0 < n) (hp : ∀ x ∈ l, -4611686018427387904 ≤ x.pri ∧ x.pri ≤ 4611686018427387904) :
    Calls Try.prog 71 #[.slice A n c] w fun e w' => e = .returned (.int .i64 (avgL l)) ∧ Below w.heap.size w w' := by
  have hln := hr.len
  have HL := Lib.hid hln
  have HR := Lib.hid hr; have HP := Lib.hid hp; clear hr hp
  have hbdH := sumI_bd (hisOf (prisOf l)) (-1073741824) 1073741824 (fun x hx => by
    obtain ⟨p, hp, rfl⟩ := List.mem_map.1 hx
    obtain ⟨s, hs, rfl⟩ := List.mem_map.1 hp
    have := HP.out s hs
    omega)
  have hbdL := sumI_bd (losOf (prisOf l)) 0 4294967295 (fun x hx => by
    obtain ⟨p, hp, rfl⟩ := List.mem_map.1 hx
    omega)
  have hlH : (hisOf (prisOf l)).length = n := by simp [hisOf, prisOf, hln]
  have hlL : (losOf (prisOf l)).length = n := by simp [losOf, prisOf, hln]
  rw [hlH] at hbdH; rw [hlL] at hbdL
  have HH := Lib.hid hlH; have HLL := Lib.hid hlL; clear hlH hlL
  have hav : avgL l = sumI (hisOf (prisOf l)) / n * 4294967296 + (sumI (hisOf (prisOf l)) % n * 4294967296 + sumI (losOf (prisOf l))) / n := by
    rw [avg_halves _ _ _ (by omega), halves_sum]; unfold avgL; rw [hln]
  have hab : -4611686018427387904 ≤ avgL l ∧ avgL l ≤ 4611686018427387904 := avgL_bd l (by rintro rfl; simp at hln; omega) _ HP.out
  have HAV := Lib.hid hav; clear hav hln
  go_enter Try.func71, Try.ntmps71
  go_wp2
  go_loopw [4, 5, 17] (fun hi lo i wr => ∃ k : Nat, k ≤ n ∧ i = .int .i64 k ∧ hi = .int .i64 (sumI ((hisOf (prisOf l)).take k)) ∧ lo = .int .i64 (sumI ((losOf (prisOf l)).take k)) ∧ Hid (Blk wr w.heap.size 3 #[.int .i64 n]) ∧ Hid (Below w.heap.size w wr)) (fun _ _ i _ => n - (intOf i).toNat)
  case atStart => exact ⟨0, Nat.zero_le _, rfl, rfl, rfl, Blk.new _ _ _, (Below.refl _ _).alloc (Nat.le_refl _) _⟩
  case round =>
    obtain ⟨k, hk, rfl, rfl, rfl, HG, HB⟩ := hrel
    by_cases hlt : k < n
    · have hk' : k < l.length := by have := HL.out; omega
      have hx : l[k]? = some l[k] := List.getElem?_eq_getElem hk'
      obtain ⟨ad, rfl, _, c0, c1, c2, c3⟩ := (HR.out.below HB.out).seat hx
      have hpx := HP.out _ (List.getElem_mem hk')
      have hstH : (hisOf (prisOf l)).take (k + 1) = (hisOf (prisOf l)).take k ++ [l[k].pri / 4294967296] := by
        have hl2 : k < (hisOf (prisOf l)).length := by rw [HH.out]; exact hlt
        rw [List.take_succ_eq_append_getElem hl2]; simp [hisOf, prisOf]
      have hstL : (losOf (prisOf l)).take (k + 1) = (losOf (prisOf l)).take k ++ [l[k].pri % 4294967296] := by
        have hl2 : k < (losOf (prisOf l)).length := by rw [HLL.out]; exact hlt
        rw [List.take_succ_eq_append_getElem hl2]; simp [losOf, prisOf]
      have hbH := sumI_bd ((hisOf (prisOf l)).take k) (-1073741824) 1073741824 (fun x hx => by
        obtain ⟨p, hp, rfl⟩ := List.mem_map.1 (List.mem_of_mem_take hx)
        obtain ⟨s, hs, rfl⟩ := List.mem_map.1 hp
        have := HP.out s hs
        omega)
      have hbL := sumI_bd ((losOf (prisOf l)).take k) 0 4294967295 (fun x hx => by
        obtain ⟨p, hp, rfl⟩ := List.mem_map.1 (List.mem_of_mem_take hx)
        omega)
      have hlen1 : ((hisOf (prisOf l)).take k).length ≤ k := List.length_take_le _ _
      have hlen2 : ((losOf (prisOf l)).take k).length ≤ k := List.length_take_le _ _
      generalize ((hisOf (prisOf l)).take k).length = m1 at *
      generalize ((losOf (prisOf l)).take k).length = m2 at *
      generalize l[k] = x at *
      have hs1 := sumI_snoc ((hisOf (prisOf l)).take k) (x.pri / 4294967296)
      have hs2 := sumI_snoc ((losOf (prisOf l)).take k) (x.pri % 4294967296)
      rw [← hstH] at hs1; rw [← hstL] at hs2
      generalize sumI ((hisOf (prisOf l)).take k) = sh at *
      generalize sumI ((losOf (prisOf l)).take k) = sl at *
      have hand := and_low32 x.pri
      have HS1 := Lib.hid hs1; have HS2 := Lib.hid hs2; clear hs1 hs2 hstH hstL hx
      go_wp2
      go_roundw
      case rel => exact ⟨k + 1, by omega, by go_num, by rw [HS1.out], by rw [HS2.out], HG.out.alloc _, HB.out.alloc HB.out.size _⟩
      case measure => simp [intOf]; omega
    · obtain rfl : k = n := by omega
      rw [List.take_of_length_le (by rw [HH.out]; exact Nat.le_refl _), List.take_of_length_le (by rw [HLL.out]; exact Nat.le_refl _)]
      generalize sumI (hisOf (prisOf l)) = sh at *
      generalize sumI (losOf (prisOf l)) = sl at *
      have g0 : wr.cell? ⟨w.heap.size, 0, none⟩ = some (.int .i64 k) := HG.out.cell 0
      have hm1 := Int.emod_nonneg sh (b := (k : Int)) (by omega)
      have hm2 := Int.emod_lt_of_pos sh (b := (k : Int)) (by omega)
      have KC1 := Lib.hid (floor_any sh k w.heap.size wr g0 (by omega) (by omega) (by omega))
      have KC2 := Lib.hid (fun q => floor_any (sh % k * 4294967296 + sl) k w.heap.size (wr.drewN q) g0 (by omega) (by omega) (by omega))
      have hq0 : -1073741824 ≤ sh / (k : Int) := by
        rw [Int.le_ediv_iff_mul_le (by omega), Int.mul_comm]; exact hbdH.1
      have hq1 : sh / (k : Int) ≤ 1073741824 := by
        have := Int.ediv_le_ediv (show (0 : Int) < k by omega) hbdH.2
        rw [Int.mul_ediv_cancel_left _ (by omega)] at this
        exact this
      have hav := HAV.out
      rw [hav] at hab
      generalize (sh % k * 4294967296 + sl) / k = p2 at *
      generalize sh / k = q2 at *
      have HV := Lib.hid hav; clear hav
      go_wp2_with fail
      refine KC1.out.mono ?_
      rintro e w1 ⟨rfl, q1, rfl⟩
      go_wp2_with fail
      refine (KC2.out _).mono ?_
      rintro e w1 ⟨rfl, q3, rfl⟩
      go_wp2
      go_ret
      exact ⟨ret_int HV.out.symm, below_drewN HB.out _⟩
end Go.Proofs.Ytikikddkhikfkaa
