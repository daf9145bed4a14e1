/-
  floorDiv128: the walk. By the session. impl.seats: the walk. By the session. laws.back and laws.same: walks. By the session.
-/
import Derived.Test.YtikikddkhikfkaaDoorSu20
import Derived.Test.YtikikddkhikfkaaDoorRows
import Derived.Test.YtikikddkhikfkaaDoorSu1
import Derived.Laws.IdiomStrings
set_option linter.unusedSimpArgs false
namespace Go.Proofs.YtikikddkhikfkaaDoor
open Go.RowKit

theorem wrap_u64 {x : Int} (h0 : 0 ≤ x) (h1 : x ≤ 18446744073709551615) : IntKind.u64.wrap x = x := by
  simp [IntKind.wrap, IntKind.bits, IntKind.signed]
  omega
theorem or_low (x b : Nat) (hb : b < 2) (hx : x * 2 < 18446744073709551616) : bits BinOp.or IntKind.u64 ((x : Int) * 2) (b : Int) = (x : Int) * 2 + b := by
  have h := bits_or_u64_nat (x * 2) b hx (by omega)
  have h2 : x * 2 ||| b = x * 2 + b := by
    have := Nat.shiftLeft_add_eq_or_of_lt (i := 1) (b := b) (by omega) x
    rw [Nat.shiftLeft_eq, Nat.pow_one] at this
    exact this.symm
  rw [h2] at h
  have e : ((x * 2 : Nat) : Int) = (x : Int) * 2 := by omega
  rw [e] at h
  rw [h]; omega
/-- one step of the long division -/
theorem div_step (M j : Nat) : M / 2 ^ j = M / 2 ^ (j + 1) * 2 + M / 2 ^ j % 2 := by
  rw [Nat.pow_succ, ← Nat.div_div_eq_div_mul]; omega
theorem div_low (a n b : Nat) (h : a % n * 2 + b < n) : (a * 2 + b) % n = a % n * 2 + b ∧ (a * 2 + b) / n = a / n * 2 := by
  have e : a * 2 + b = (a % n * 2 + b) + n * (a / n * 2) := by
    have := Nat.div_add_mod a n
    have h2 : n * (a / n * 2) = n * (a / n) * 2 := (Nat.mul_assoc ..).symm
    omega
  rw [e, Nat.add_mul_mod_self_left, Nat.mod_eq_of_lt h, Nat.add_mul_div_left _ _ (by omega), Nat.div_eq_of_lt h]
  omega
theorem div_high (a n b : Nat) (hn : 1 ≤ n) (hb : b < 2) (h : n ≤ a % n * 2 + b) : (a * 2 + b) % n = a % n * 2 + b - n ∧ (a * 2 + b) / n = a / n * 2 + 1 := by
  have hr := Nat.mod_lt a (show n > 0 by omega)
  have e : a * 2 + b = (a % n * 2 + b - n) + n * (a / n * 2 + 1) := by
    have := Nat.div_add_mod a n
    have h2 : n * (a / n * 2 + 1) = n * (a / n) * 2 + n := by rw [Nat.mul_add, Nat.mul_one, Nat.mul_assoc]
    omega
  have hlt : a % n * 2 + b - n < n := by omega
  rw [e, Nat.add_mul_mod_self_left, Nat.mod_eq_of_lt hlt, Nat.add_mul_div_left _ _ (by omega), Nat.div_eq_of_lt hlt]
  omega
theorem bit_high (M j : Nat) (hj : 64 ≤ j) : M / 18446744073709551616 / 2 ^ (j - 64) % 2 = M / 2 ^ j % 2 := by
  rw [Nat.div_div_eq_div_mul, show (18446744073709551616 : Nat) = 2 ^ 64 from rfl, ← Nat.pow_add, show 64 + (j - 64) = j by omega]
theorem bit_low (M j : Nat) (hj : j < 64) : M % 18446744073709551616 / 2 ^ j % 2 = M / 2 ^ j % 2 := by
  have h := Nat.testBit_mod_two_pow M 64 j
  simp only [Nat.testBit_eq_decide_div_mod_eq, hj, decide_true, Bool.true_and, decide_eq_decide] at h
  rw [show (18446744073709551616 : Nat) = 2 ^ 64 from rfl]
  have a := Nat.mod_lt (M % 2 ^ 64 / 2 ^ j) (show 2 > 0 by omega)
  have b := Nat.mod_lt (M / 2 ^ j) (show 2 > 0 by omega)
  omega

theorem neg_ediv_zero {M n : Int} (h : M % n = 0) (hn : 0 < n) : -(M / n) = -M / n := by
  have hd := Int.mul_ediv_add_emod M n
  rw [h, Int.add_zero] at hd
  have e : -M = n * -(M / n) := by rw [Int.mul_neg, hd]
  rw [e, Int.mul_ediv_cancel_left _ (by omega)]
theorem neg_ediv_pos {M n : Int} (h : ¬ M % n = 0) (hn : 0 < n) : -(M / n + 1) = -M / n := by
  have hd := Int.mul_ediv_add_emod M n
  have h0 := Int.emod_nonneg M (b := n) (by omega)
  have h1 := Int.emod_lt_of_pos M hn
  have e : -M = (n - M % n) + n * -(M / n + 1) := by rw [Int.mul_neg, Int.mul_add, Int.mul_one]; omega
  rw [e, Int.add_mul_ediv_left _ _ (by omega), Int.ediv_eq_zero_of_lt (a := n - M % n) (b := n) (by omega) (by omega)]
  omega
theorem xor_max (x : Nat) (hx : x ≤ 18446744073709551615) : bits BinOp.xor IntKind.u64 IntKind.u64.max (18446744073709551615 - (x : Int)) = x := by
  have h := bits_xor_u64_nat 18446744073709551615 (18446744073709551615 - x) (by omega) (by omega)
  have h2 : 18446744073709551615 ^^^ (18446744073709551615 - x) = x := by
    have e : 18446744073709551615 - x = 2 ^ 64 - (x + 1) := by omega
    apply Nat.eq_of_testBit_eq
    intro i
    rw [Nat.testBit_xor, e, Nat.testBit_two_pow_sub_succ (by omega), show (18446744073709551615 : Nat) = 2 ^ 64 - 1 from rfl, Nat.testBit_two_pow_sub_one]
    by_cases hi : i < 64
    · simp [hi]
    · simp [hi]
      exact Nat.testBit_lt_two_pow (Nat.lt_of_lt_of_le (show x < 2 ^ 64 by omega) (Nat.pow_le_pow_right (i := 64) (j := i) (by omega) (by omega)))
  rw [h2] at h
  have e1 : ((18446744073709551615 - x : Nat) : Int) = 18446744073709551615 - (x : Int) := by omega
  rw [e1] at h
  exact h

end Go.Proofs.YtikikddkhikfkaaDoor

namespace Go.Proofs.YtikikddkhikfkaaDoor
open Go.RowKit

theorem infoTSeat : (Tryd.prog.info? 151).map (fun i => (i.zero, i.size, i.bytes)) = some (some (.agg #[.slice none 0 0, .slice none 0 0, .int .i64 0, .int .i64 0]), 4, 64) := by kernel_rfl

set_option maxRecDepth 100000 in
set_option maxHeartbeats 1600000 in
theorem seats_any (l : List Sd) (A : Option Addr) (n c : Nat) (w : World) (hr : Rd w w.heap.size 4 A n (cellsOf l)) (hn : n ≤ 1000000) :
    Calls Tryd.prog 46 #[.slice A n c] w fun e w' => ∃ (A' : Option Addr) (c' : Nat) (ts : List Tv), e = .returned (.slice A' n c') ∧ Rd w' w'.heap.size 4 A' n (ts.flatMap Tv.seat) ∧ ts.map Tv.x = l ∧ (∀ t ∈ ts, t.ok w') ∧ Below w.heap.size w w' := by
  obtain ⟨i0, hi0, hz0, hz1, hz2⟩ := info_parts infoTSeat
  have HI := Lib.hid hi0; have HZ0 := Lib.hid hz0; have HZ1 := Lib.hid hz1; have HZ2 := Lib.hid hz2
  clear hi0 hz0 hz1 hz2
  have HL := Lib.hid hr.len
  have HR := Lib.hid hr; clear hr
  go_enter Tryd.func46, Tryd.ntmps46
  go_wp2
  go_loopw [3, 8] (fun v i wr => ∃ (k : Nat) (A1 : Option Addr) (c1 : Nat) (ts : List Tv), k ≤ n ∧ i = .int .i64 k ∧ v = .slice A1 k c1 ∧ Hid (ts.map Tv.x = l.take k) ∧ Hid (∀ t ∈ ts, t.ok wr) ∧ Hid (wr.ownsRow w.heap.size 151 4 (.slice A1 k c1) k (ts.flatMap Tv.seat)) ∧ Hid (Below w.heap.size w wr)) (fun _ i _ => n - (intOf i).toNat)
  case atStart => exact ⟨0, none, 0, [], Nat.zero_le _, rfl, rfl, rfl, (by intro t h; cases h), World.ownsRow_nil w w.heap.size _ _, Below.refl _ _⟩
  case round =>
    obtain ⟨k, A1, c1, ts, hk, rfl, rfl, HM, HK, HO, HB⟩ := hrel
    have hz := HB.out.size
    by_cases hlt : k < n
    · have hk' : k < l.length := by have := HL.out; omega
      have hx : l[k]? = some l[k] := List.getElem?_eq_getElem hk'
      obtain ⟨ad, rfl, _, c0, c1', c2, c3⟩ := (HR.out.below HB.out).seat hx
      have hst : l.take (k + 1) = l.take k ++ [l[k]] := List.take_succ_eq_append_getElem hk'
      generalize l[k] = x at *
      have HST := Lib.hid hst; have HXX := Lib.hid hx
      clear hst hx
      obtain ⟨f1, kc⟩ := run_conv (P := Tryd.prog) 9 22 Tryd.underlying9 Tryd.underlying22 Tryd.underlying5 x.adr
      obtain ⟨f2, kd⟩ := run_conv (P := Tryd.prog) 9 22 Tryd.underlying9 Tryd.underlying22 Tryd.underlying5 x.key
      go_wp2_with (at_builtin; refine wpList_app _ rfl (.tmp 12) (.tmp 24) 108 rfl w.heap.size 151 i0 _ 4 64 Tryd.underlying108 HI.out HZ0.out HZ1.out HZ2.out rfl (by decide) (.slice A1 k c1) k (ts.flatMap Tv.seat) rfl ?ho (wr.heap.size + 1 + 1 + 1 + 1) (some ⟨wr.heap.size + 1 + 1 + 1, 0, none⟩) 1 1 (Tv.seat ⟨x, some ⟨wr.heap.size + 1, 0, none⟩, f1 (wr.alloc (.cells #[.string x.adr, .string x.key, .int .i64 x.pow, .int .i64 x.pri] 101)), some ⟨wr.heap.size + 1 + 1, 0, none⟩, f2 (((wr.alloc (.cells #[.string x.adr, .string x.key, .int .i64 x.pow, .int .i64 x.pri] 101)).alloc (bObj x.adr (f1 (wr.alloc (.cells #[.string x.adr, .string x.key, .int .i64 x.pow, .int .i64 x.pri] 101))))).drew)⟩) rfl ?hr (Tv.seat_one _) ?q1 ?q2 ?hb ?_; (case q1 => simp only [maxLen]; omega); (case q2 => omega); (case hr => refine Rd.drew (Rd.drew (Rd.new _ _ _ 4 1 _ rfl ?_)); simp); (case ho => exact ((((HO.out.alloc _).alloc _).alloc _).alloc _)); (case hb => simp; omega); intro A2 c2 w2 hown2 hg2 _; rw [flat_snoc] at hown2)
      go_roundw
      case rel =>
        refine ⟨k + 1, A2, c2, _, by omega, by go_num, rfl, ?_, ?_, hown2, ?_⟩
        · show List.map _ _ = _
          rw [HST.out, ← HM.out]; simp
        · have k2 : KeepB (((wr.alloc (.cells #[.string x.adr, .string x.key, .int .i64 x.pow, .int .i64 x.pri] 101)).alloc (bObj x.adr (f1 (wr.alloc (.cells #[.string x.adr, .string x.key, .int .i64 x.pow, .int .i64 x.pri] 101))))).alloc (bObj x.key (f2 (((wr.alloc (.cells #[.string x.adr, .string x.key, .int .i64 x.pow, .int .i64 x.pri] 101)).alloc (bObj x.adr (f1 (wr.alloc (.cells #[.string x.adr, .string x.key, .int .i64 x.pow, .int .i64 x.pri] 101))))).drew)))) w2 := KeepB.trans (b := World.alloc _ _) (KeepB.alloc _ _) (KeepB.of_grown (w := World.drew (World.drew _)) hg2 (own_block_ne (w := wr) HO.out (by decide) (((((Below.refl wr.heap.size wr).alloc (Nat.le_refl _) _).alloc (by simp) _).alloc (by simp; omega) _).alloc (by simp; omega) _).block))
          intro t ht
          rcases List.mem_append.1 ht with ht | ht
          · exact ((((HK.out t ht).keep (KeepB.alloc _ _)).keep (KeepB.alloc _ _)).keep (KeepB.alloc _ _)).keep k2
          · obtain rfl := List.mem_singleton.1 ht
            exact ⟨((Byt.conv _ _ _ _ (by simp)).keep (KeepB.alloc _ _)).keep k2, (Byt.conv _ _ _ _ (by simp)).keep k2⟩
        · exact ((((HB.out.alloc hz _).alloc (by simp; omega) _).alloc (by simp; omega) _).alloc (by simp; omega) _).drew.drew.grown hg2 (by simp; omega) (own_base HO.out)
      case measure => simp [intOf]; omega
    · obtain rfl : k = n := by omega
      have h1 := HO.out
      have h2 := HM.out
      rw [List.take_of_length_le (by have := HL.out; omega)] at h2
      have H1 := Lib.hid (Rd.of_own h1); clear h1
      have H2 := Lib.hid h2; clear h2
      go_wp2
      go_ret
      exact ⟨A1, c1, ts, rfl, H1.out, H2.out, HK.out, HB.out⟩
end Go.Proofs.YtikikddkhikfkaaDoor

namespace Go.Proofs.YtikikddkhikfkaaDoor
open Go.RowKit

theorem infoISeat : (Tryd.prog.info? 101).map (fun i => (i.zero, i.size, i.bytes)) = some (some (.agg #[.string ⟨#[]⟩, .string ⟨#[]⟩, .int .i64 0, .int .i64 0]), 4, 48) := by kernel_rfl

set_option maxHeartbeats 800000 in
theorem back_any (l : List Sd) (A : Option Addr) (n c : Nat) (w : World) (hr : Rd w w.heap.size 4 A n (cellsOf l)) (hn : n ≤ 1000000) :
    Calls Tryd.prog 16 #[.slice A n c] w fun e w' => ∃ A' c', e = .returned (.slice A' n c') ∧ Rd w' w'.heap.size 4 A' n (cellsOf l) ∧ Below w.heap.size w w' := by
  obtain ⟨i0, hi0, hz0, hz1, hz2⟩ := info_parts infoISeat
  have HI := Lib.hid hi0; have HZ0 := Lib.hid hz0; have HZ1 := Lib.hid hz1; have HZ2 := Lib.hid hz2
  clear hi0 hz0 hz1 hz2
  have HL := Lib.hid hr.len
  have HR := Lib.hid hr; clear hr
  go_enter Tryd.func16, Tryd.ntmps16
  go_wp2
  go_loopw [3, 8] (fun v i wr => ∃ (k : Nat) (A1 : Option Addr) (c1 : Nat), k ≤ n ∧ i = .int .i64 k ∧ v = .slice A1 k c1 ∧ Hid (wr.ownsRow w.heap.size 101 4 (.slice A1 k c1) k (cellsOf (l.take k))) ∧ Hid (Below w.heap.size w wr)) (fun _ i _ => n - (intOf i).toNat)
  case atStart => exact ⟨0, none, 0, Nat.zero_le _, rfl, rfl, World.ownsRow_nil w w.heap.size _ _, Below.refl _ _⟩
  case round =>
    obtain ⟨k, A1, c1, hk, rfl, rfl, HO, HB⟩ := hrel
    have hz := HB.out.size
    by_cases hlt : k < n
    · have hk' : k < l.length := by have := HL.out; omega
      have hx : l[k]? = some l[k] := List.getElem?_eq_getElem hk'
      obtain ⟨ad, rfl, _, c0, c1', c2, c3⟩ := (HR.out.below HB.out).seat hx
      have hst : l.take (k + 1) = l.take k ++ [l[k]] := List.take_succ_eq_append_getElem hk'
      generalize l[k] = x at *
      have HST := Lib.hid hst; have HXX := Lib.hid hx
      clear hst hx
      go_wp2_with (at_builtin; refine wpList_app _ rfl (.tmp 12) (.tmp 14) 49 rfl w.heap.size 101 i0 _ 4 48 Tryd.underlying49 HI.out HZ0.out HZ1.out HZ2.out rfl (by decide) (.slice A1 k c1) k (cellsOf (l.take k)) rfl ?ho (wr.heap.size + 1 + 1) (some ⟨wr.heap.size + 1, 0, none⟩) 1 1 x.cells rfl ?hr x.cells_one ?q1 ?q2 ?hb ?_; (case q1 => simp only [maxLen]; omega); (case q2 => omega); (case hr => exact Rd.new _ _ _ 4 1 _ rfl (by simp)); (case ho => exact (HO.out.alloc _).alloc _); (case hb => simp; omega); intro A2 c2 w2 hown2 hg2 _; rw [cellsOf_snoc] at hown2)
      go_roundw
      case rel => exact ⟨k + 1, A2, c2, by omega, by go_num, rfl, by rw [HST.out]; exact hown2, ((HB.out.alloc hz _).alloc (by simp; omega) _).grown hg2 (by simp; omega) (own_base HO.out)⟩
      case measure => simp [intOf]; omega
    · obtain rfl : k = n := by omega
      have h1 := HO.out
      rw [List.take_of_length_le (by have := HL.out; omega)] at h1
      have H1 := Lib.hid (Rd.of_own h1); clear h1
      go_wp2
      go_ret
      exact ⟨A1, c1, rfl, H1.out, HB.out⟩
end Go.Proofs.YtikikddkhikfkaaDoor
