/-
  The reference's words of the wire format: walks. By the session.
-/
import Derived.Test.YtikikddkhikfkaaWire
set_option linter.all false
namespace Go.Proofs.Ytikikddkhikfkaa
open Go.RowKit

set_option maxHeartbeats 800000 in
theorem counted_any (n : Int) (w : World) :
    Calls Try.prog 37 #[.int .i64 n] w fun e w' => ∃ A m c, e = .returned (.slice A m c) ∧ Own8 w' w.heap.size A m c (vi (u64 n)) ∧ Below w.heap.size w w' := by
  have hu : IntKind.u64.wrap n = ((u64 n : Nat) : Int) := by rw [u64_cast]; simp [IntKind.wrap, IntKind.bits, IntKind.signed]
  have hN := u64_lt n
  generalize u64 n = N at *
  go_enter Try.func37, Try.ntmps37
  go_wp2
  go_loopw [3, 4] (fun v u wr => ∃ (acc : List UInt8) (x : Nat) (A : Option Addr) (m c : Nat), u = .int .u64 x ∧ v = .slice A m c ∧ x < 18446744073709551616 ∧ Hid (vi N = acc ++ vi x) ∧ Hid (Own8 wr w.heap.size A m c acc) ∧ Hid (Below w.heap.size w wr)) (fun _ u _ => (intOf u).toNat)
  case atStart => exact ⟨[], N, none, 0, 0, by first | rfl | rw [hu], rfl, hN, rfl, Own8.nil _ _, Below.refl _ _⟩
  case round =>
    obtain ⟨acc, x, A, m, c, rfl, rfl, hx, HV, HO, HB⟩ := hrel
    have hz := HB.out.size
    have hacc := vi_acc HV.out hN
    have HM := Lib.hid HO.out.len
    by_cases hlt : 127 < x
    · have hb1 := and_127 hx
      have hb2 : bits .or .u8 ((x : Int) % 128) 128 = ((UInt8.ofNat (x % 128 + 128)).toNat : Int) := by
        have := or_128 (x := x % 128) (by omega)
        rw [Nat.mod_mod] at this
        rw [← this]; rfl
      have hnx := vi_next HV.out hlt
      have HNX := Lib.hid hnx; have HB2 := Lib.hid hb2; clear hnx hb2
      go_wp2_with (at_builtin; refine app8 _ rfl (.tmp 9) (.tmp 14) rfl w.heap.size m c A acc rfl ?ho (wr.heap.size + 1) 1 1 (some ⟨wr.heap.size, 0, none⟩) [UInt8.ofNat (x % 128 + 128)] rfl ?hr ?q1 ?hb ?_; (case hr => exact Rd.byte _ _ _ _ _ HB2.out (by simp)); (case q1 => have := HM.out; omega); (case ho => exact World.ownsRow.alloc HO.out _); (case hb => simp; omega); intro A2 c2 w2 hown2 hg2)
      go_roundw
      case rel => exact ⟨acc ++ [UInt8.ofNat (x % 128 + 128)], x / 128, A2, m + 1, c2, by first | rfl | go_num, rfl, by omega, HNX.out, hown2, (HB.out.alloc hz _).grown hg2.1 (by simp; omega) (fun k hk => (HO.out.at_ k hk).1)⟩
      case measure => simp [intOf]; omega
    · have hlast := vi_last HV.out (by omega)
      have hb2 : (x : Int) % 256 = ((UInt8.ofNat x).toNat : Int) := by
        rw [UInt8.toNat_ofNat_of_lt' (show x < 256 by omega)]; omega
      have HL := Lib.hid hlast; have HB2 := Lib.hid hb2; clear hlast hb2
      go_wp2_with (at_builtin; refine app8 _ rfl (.tmp 18) (.tmp 21) rfl w.heap.size m c A acc rfl ?ho (wr.heap.size + 1) 1 1 (some ⟨wr.heap.size, 0, none⟩) [UInt8.ofNat x] rfl ?hr ?q1 ?hb ?_; (case hr => refine Rd.byte _ _ _ _ _ ?_ (by simp); have := HB2.out; omega); (case q1 => have := HM.out; omega); (case ho => exact World.ownsRow.alloc HO.out _); (case hb => simp; omega); intro A2 c2 w2 hown2 hg2)
      go_ret
      exact ⟨A2, m + 1, c2, rfl, by rw [HL.out]; exact hown2, (HB.out.alloc hz _).grown hg2.1 (by simp; omega) (fun k hk => (HO.out.at_ k hk).1)⟩

theorem u64_zero {n : Int} (h : in64' n) : u64 n = 0 ↔ n = 0 := by unfold u64 in64' at *; omega
set_option maxHeartbeats 800000 in
theorem number_any (f : Nat) (n : Int) (w : World) (hf : f < 16) (hn : in64' n) :
    Calls Try.prog 33 #[.int .i64 f, .int .i64 n] w fun e w' => ∃ A m c, e = .returned (.slice A m c) ∧ Own8 w' w.heap.size A m c (numB f (u64 n)) ∧ Below w.heap.size w w' := by
  by_cases h0 : n = 0
  · subst h0
    go_enter Try.func33, Try.ntmps33
    go_wp2
    go_ret
    exact ⟨none, 0, 0, rfl, Own8.nil _ _, Below.refl _ _⟩
  · have hz : (n == 0) = false := by rw [beq_eq_false_iff_ne]; exact h0
    have hu : u64 n ≠ 0 := fun h => h0 ((u64_zero hn).1 h)
    have hC1 := counted_any (f * 8) w
    have hl := vi_ten (u64_lt n)
    have e1 : u64 ((f : Int) * 8) = f * 8 := by unfold u64; omega
    rw [e1, vi_small (by omega)] at hC1
    have HC1 := Lib.hid hC1; have HL := Lib.hid hl; clear hC1 hl
    have hB : Hid (numB f (u64 n) = [UInt8.ofNat (f * 8)] ++ vi (u64 n)) := by show _ = _; unfold numB; rw [if_neg hu]; rfl
    clear hu e1
    go_enter Try.func33, Try.ntmps33
    go_wp2_with fail
    refine HC1.out.mono ?_
    rintro e w1 ⟨A1, m1, c1, rfl, ho1, hb1⟩
    have HC2 := Lib.hid (counted_any n w1)
    have HO1 := Lib.hid ho1; have HB1 := Lib.hid hb1; clear ho1 hb1
    have z1 := HB1.out.size
    go_wp2_with fail
    refine HC2.out.mono ?_
    rintro e w2 ⟨A2, m2, c2, rfl, ho2, hb2⟩
    have HO2 := Lib.hid ho2; have HB2 := Lib.hid hb2; clear ho2 hb2
    have z2 := HB2.out.size
    have hm1 := HO1.out.len; have hm2 := HO2.out.len
    have HM : Hid (m1 + m2 ≤ 1000000000) := by show _ ≤ _; have := HL.out; simp at hm1; omega
    clear hm1 hm2
    go_wp2_with (at_builtin; refine app8 _ rfl (.tmp 9) (.tmp 11) rfl w.heap.size m1 c1 A1 _ rfl (HO1.out.below HB2.out (Nat.le_refl _)) _ m2 c2 A2 _ rfl HO2.out.rd HM.out (by omega) ?_; intro A3 c3 w3 ho3 hg3)
    go_ret
    exact ⟨A3, m1 + m2, c3, rfl, by rw [hB.out]; exact ho3, (HB1.out.trans (HB2.out.mono z1)).grown hg3.1 (by omega) (fun k hk => (HO1.out.at_ k hk).1)⟩

set_option maxHeartbeats 1600000 in
theorem fixed_any (f : Nat) (n : Int) (w : World) (hf : f < 15) (hn : in64' n) :
    Calls Try.prog 34 #[.int .i64 f, .int .i64 n] w fun e w' => ∃ A m c, e = .returned (.slice A m c) ∧ Own8 w' w.heap.size A m c (fixB f (u64 n)) ∧ Below w.heap.size w w' := by
  by_cases h0 : n = 0
  · subst h0
    go_enter Try.func34, Try.ntmps34
    go_wp2
    go_ret
    exact ⟨none, 0, 0, rfl, Own8.nil _ _, Below.refl _ _⟩
  · have hz : (n == 0) = false := by rw [beq_eq_false_iff_ne]; exact h0
    have hu : u64 n ≠ 0 := fun h => h0 ((u64_zero hn).1 h)
    have hw : IntKind.u64.wrap n = ((u64 n : Nat) : Int) := by rw [u64_cast]; simp [IntKind.wrap, IntKind.bits, IntKind.signed]
    have htag : bits .or .i64 ((f : Int) * 8) 1 = ((f * 8 + 1 : Nat) : Int) := by
      have := bits_join .i64 63 (by decide) wraps_i64 3 ((f : Int) * 8) 1 (by omega) (by omega) (by omega) (by omega) (by omega) (by omega)
      rw [this]; omega
    have hC1 := counted_any ((f * 8 + 1 : Nat) : Int) w
    have e1 : u64 ((f * 8 + 1 : Nat) : Int) = f * 8 + 1 := u64_nat (by omega)
    rw [e1, vi_small (by omega)] at hC1
    have HC1 := Lib.hid hC1; clear hC1
    have hB : Hid (fixB f (u64 n) = [UInt8.ofNat (f * 8 + 1)] ++ le8 (u64 n)) := by show _ = _; unfold fixB; rw [if_neg hu]; rfl
    have hN := u64_lt n
    clear hu e1
    generalize u64 n = N at *
    go_enter Try.func34, Try.ntmps34
    go_wp2_with fail
    refine HC1.out.mono ?_
    rintro e w1 ⟨A1, m1, c1, rfl, ho1, hb1⟩
    have HO1 := Lib.hid ho1; have HB1 := Lib.hid hb1; clear ho1 hb1
    have z1 := HB1.out.size
    go_wp2
    go_loopw [5, 13] (fun v i wr => ∃ (k : Nat) (A : Option Addr) (m c : Nat), k ≤ 8 ∧ i = .int .i64 k ∧ v = .slice A m c ∧ Hid (Own8 wr w.heap.size A m c ([UInt8.ofNat (f * 8 + 1)] ++ (le8 N).take k)) ∧ Hid (Below w.heap.size w wr)) (fun _ i _ => 8 - (intOf i).toNat)
    case atStart => exact ⟨0, A1, m1, c1, Nat.zero_le _, rfl, rfl, HO1.out, HB1.out⟩
    case round =>
      obtain ⟨k, A, m, c, hk, rfl, rfl, HO, HB⟩ := hrel
      have hz := HB.out.size
      have HM := Lib.hid HO.out.len
      by_cases hlt : k < 8
      · have hst : (le8 N).take (k + 1) = (le8 N).take k ++ [UInt8.ofNat (N / 2 ^ (8 * k))] := le8_take N k hlt
        have HST := Lib.hid hst; clear hst
        go_wp2_with (at_builtin; refine app8 _ rfl (.tmp 16) (.tmp 23) rfl w.heap.size m c A _ rfl (World.ownsRow.alloc HO.out _) (wr.heap.size + 1) 1 1 (some ⟨wr.heap.size, 0, none⟩) [UInt8.ofNat (N / 2 ^ (8 * k))] rfl (Rd.byte _ _ _ _ _ (byte_at N k) (by simp)) (by have := HM.out; simp at this; omega) (by simp; omega) ?_; intro A2 c2 w2 hown2 hg2)
        go_roundw
        case rel => exact ⟨k + 1, A2, m + 1, c2, by omega, by go_num, rfl, by rw [HST.out, ← List.append_assoc]; exact hown2, (HB.out.alloc hz _).grown hg2.1 (by simp; omega) (fun k hk => (HO.out.at_ k hk).1)⟩
        case measure => simp [intOf]; omega
      · obtain rfl : k = 8 := by omega
        have e8 : (le8 N).take 8 = le8 N := List.take_of_length_le (by simp [le8])
        have h1 := HO.out
        rw [e8, ← hB.out] at h1
        have HO1 := Lib.hid h1; clear h1 e8
        go_wp2
        go_ret
        exact ⟨A, m, c, rfl, HO1.out, HB.out⟩

set_option maxHeartbeats 1600000 in
theorem within_any (f : Nat) (A : Option Addr) (n c : Nat) (b : List UInt8) (w : World) (hf : f < 15) (hr : Rd w w.heap.size 1 A n (bc b)) (hn : n ≤ 500000000) :
    Calls Try.prog 30 #[.int .i64 f, .slice A n c] w fun e w' => ∃ A m c, e = .returned (.slice A m c) ∧ Own8 w' w.heap.size A m c (msgB f b) ∧ Below w.heap.size w w' := by
  have hnb : n = b.length := by have := hr.1; rw [bc_length] at this; omega
  have htag : bits .or .i64 ((f : Int) * 8) 2 = ((f * 8 + 2 : Nat) : Int) := by
    have := bits_join .i64 63 (by decide) wraps_i64 3 ((f : Int) * 8) 2 (by omega) (by omega) (by omega) (by omega) (by omega) (by omega)
    rw [this]; omega
  have hC1 := counted_any ((f * 8 + 2 : Nat) : Int) w
  have e1 : u64 ((f * 8 + 2 : Nat) : Int) = f * 8 + 2 := u64_nat (by omega)
  rw [e1, vi_small (by omega)] at hC1
  have hl := vi_ten (show n < 18446744073709551616 by omega)
  have HC1 := Lib.hid hC1; have HR := Lib.hid hr; have HL := Lib.hid hl
  have hB : Hid (msgB f b = ([UInt8.ofNat (f * 8 + 2)] ++ vi n) ++ b) := by show _ = _; unfold msgB; rw [← hnb]; simp
  clear e1 hC1 hr hl hnb
  go_enter Try.func30, Try.ntmps30
  go_wp2_with fail
  refine HC1.out.mono ?_
  rintro e w1 ⟨A1, m1, c1, rfl, ho1, hb1⟩
  have hC2 := counted_any (n : Int) w1
  rw [u64_nat (show n < 18446744073709551616 by omega)] at hC2
  have HC2 := Lib.hid hC2; clear hC2
  have HO1 := Lib.hid ho1; have HB1 := Lib.hid hb1; clear ho1 hb1
  have z1 := HB1.out.size
  go_wp2_with fail
  refine HC2.out.mono ?_
  rintro e w2 ⟨A2, m2, c2, rfl, ho2, hb2⟩
  have HO2 := Lib.hid ho2; have HB2 := Lib.hid hb2; clear ho2 hb2
  have z2 := HB2.out.size
  have hm1 := HO1.out.len; have hm2 := HO2.out.len
  have HM : Hid (m1 + m2 ≤ 11) := by show _ ≤ _; have := HL.out; simp at hm1; omega
  have HA : Hid (Below w.heap.size w w2) := HB1.out.trans (HB2.out.mono z1)
  clear hm1 hm2
  go_wp2_with (first | (at_builtin; refine app8 _ rfl (.tmp 8) (.tmp 11) rfl w.heap.size m1 c1 A1 _ rfl (HO1.out.below HB2.out (Nat.le_refl _)) _ m2 c2 A2 _ rfl HO2.out.rd (by have := HM.out; omega) (by omega) ?_; intro A3 c3 w3 ho3 hg3; have HO3 := Lib.hid ho3; have HB3 := Lib.hid (HA.out.grown hg3.1 (by omega) (fun k hk => (HO1.out.at_ k hk).1)); have HS3 := Lib.hid hg3.1.size; clear ho3 hg3) | (at_builtin; refine app8 _ rfl (.tmp 12) (.tmp 13) rfl w.heap.size (m1 + m2) c3 A3 _ rfl HO3.out w.heap.size n c A b rfl (HR.out.below HB3.out) (by have := HM.out; omega) (by have := HS3.out; omega) ?_; intro A4 c4 w4 ho4 hg4))
  go_ret
  exact ⟨A4, m1 + m2 + n, c4, rfl, by rw [hB.out]; exact ho4, HB3.out.grown hg4.1 (by have := HS3.out; omega) (fun k hk => (HO3.out.at_ k hk).1)⟩

set_option maxHeartbeats 800000 in
theorem some_any (f : Nat) (A : Option Addr) (n c : Nat) (b : List UInt8) (w : World) (hf : f < 15) (hr : Rd w w.heap.size 1 A n (bc b)) (hn : n ≤ 500000000) :
    Calls Try.prog 36 #[.int .i64 f, .slice A n c] w fun e w' => ∃ A m c, e = .returned (.slice A m c) ∧ Own8 w' w.heap.size A m c (txtB f b) ∧ Below w.heap.size w w' := by
  have hnb : n = b.length := by have := hr.1; rw [bc_length] at this; omega
  by_cases h0 : n = 0
  · have hB : Hid (txtB f b = []) := by show _ = _; unfold txtB; rw [if_pos (by omega)]
    subst h0
    clear hr hnb
    go_enter Try.func36, Try.ntmps36
    go_wp2
    go_ret
    exact ⟨none, 0, 0, rfl, by rw [hB.out]; exact Own8.nil _ _, Below.refl _ _⟩
  · have hz : ((n : Int) == 0) = false := by rw [beq_eq_false_iff_ne]; omega
    have HC := Lib.hid (within_any f A n c b w hf hr hn)
    have hB : Hid (txtB f b = msgB f b) := by show _ = _; unfold txtB; rw [if_neg (by omega)]
    clear hr hnb
    go_enter Try.func36, Try.ntmps36
    go_wp2_with fail
    refine HC.out.mono ?_
    rintro e w1 ⟨A1, m1, c1, rfl, ho1, hb1⟩
    have HO1 := Lib.hid ho1; have HB1 := Lib.hid hb1; clear ho1 hb1
    go_wp2
    go_ret
    exact ⟨A1, m1, c1, rfl, by rw [hB.out]; exact HO1.out, HB1.out⟩

/-- bytes and where they lie -/
structure Bs where
  A : Option Addr
  n : Nat
  c : Nat
  s : List UInt8
def Bs.val (b : Bs) : Value := .slice b.A b.n b.c
def Bs.ok (w : World) (b : Bs) : Prop := Rd w w.heap.size 1 b.A b.n (bc b.s)
theorem Bs.ok.below {w w' : World} {b : Bs} (h : b.ok w) (hb : Below w.heap.size w w') : b.ok w' := (Rd.below h hb).more hb.size
def joinB (l : List Bs) : List UInt8 := l.flatMap Bs.s
theorem Rd.at1 {w : World} {B n : Nat} {A : Option Addr} {xs : List Value} {k : Nat} {x : Value} (h : Rd w B 1 A n xs) (hx : xs[k]? = some x) : ∃ ad, A = some ad ∧ ad.block < B ∧ w.cell? (ad.add k) = some x := h.2 k x hx
set_option maxHeartbeats 1600000 in
theorem joined_any (l : List Bs) (A : Option Addr) (n c : Nat) (w : World) (hr : Rd w w.heap.size 1 A n (l.map Bs.val)) (hl : ∀ b ∈ l, b.ok w) (hn : n ≤ 1000) (hs : ∀ k, ((l.take k).flatMap Bs.s).length ≤ 500000000) :
    Calls Try.prog 32 #[.slice A n c] w fun e w' => ∃ A m c, e = .returned (.slice A m c) ∧ Own8 w' w.heap.size A m c (joinB l) ∧ Below w.heap.size w w' := by
  have hln : n = l.length := by have := hr.1; simp at this; omega
  have HL := Lib.hid hln; have HR := Lib.hid hr; have HO := Lib.hid hl; have HS := Lib.hid hs
  clear hln hr hl hs
  go_enter Try.func32, Try.ntmps32
  go_wp2
  go_loopw [3, 8] (fun v i wr => ∃ (k : Nat) (A1 : Option Addr) (m1 c1 : Nat), k ≤ n ∧ i = .int .i64 k ∧ v = .slice A1 m1 c1 ∧ Hid (Own8 wr w.heap.size A1 m1 c1 ((l.take k).flatMap Bs.s)) ∧ Hid (Below w.heap.size w wr)) (fun _ i _ => n - (intOf i).toNat)
  case atStart => exact ⟨0, none, 0, 0, Nat.zero_le _, rfl, rfl, Own8.nil _ _, Below.refl _ _⟩
  case round =>
    obtain ⟨k, A1, m1, c1, hk, rfl, rfl, HW, HB⟩ := hrel
    have hz := HB.out.size
    have HM := Lib.hid HW.out.len
    by_cases hlt : k < n
    · have hk' : k < l.length := by have := HL.out; omega
      have hx : l[k]? = some l[k] := List.getElem?_eq_getElem hk'
      obtain ⟨ad, rfl, _, c0⟩ := (HR.out.below HB.out).at1 (by rw [List.getElem?_map, hx]; rfl)
      have hst : (l.take (k + 1)).flatMap Bs.s = (l.take k).flatMap Bs.s ++ l[k].s := by
        rw [List.take_succ_eq_append_getElem hk', List.flatMap_append, List.flatMap_singleton]
      have hbd := HS.out (k + 1)
      rw [hst] at hbd
      have hok := HO.out _ (List.getElem_mem hk')
      generalize l[k] = x at *
      obtain ⟨xA, xn, xc, xs⟩ := x
      have hxn : xn = xs.length := by have := Rd.len1 hok; exact this
      have HX := Lib.hid hok; have HST := Lib.hid hst; have HBD := Lib.hid hbd; have HXN := Lib.hid hxn
      clear hok hst hbd hxn hx
      simp only [Bs.val] at c0
      go_wp2_with (at_builtin; refine app8 _ rfl (.tmp 12) (.tmp 13) rfl w.heap.size m1 c1 A1 _ rfl HW.out w.heap.size xn xc xA xs rfl (Rd.below HX.out HB.out) (by have := HM.out; have := HBD.out; have := HXN.out; simp only [List.length_append] at *; omega) (by omega) ?_; intro A2 c2 w2 ho2 hg2)
      go_roundw
      case rel => exact ⟨k + 1, A2, m1 + xn, c2, by omega, by go_num, rfl, by rw [HST.out]; exact ho2, HB.out.grown hg2.1 hz (fun k hk => (HW.out.at_ k hk).1)⟩
      case measure => simp [intOf]; omega
    · obtain rfl : k = n := by omega
      have h1 := HW.out
      rw [List.take_of_length_le (by have := HL.out; omega)] at h1
      have H1 := Lib.hid h1; clear h1
      go_wp2
      go_ret
      exact ⟨A1, m1, c1, rfl, H1.out, HB.out⟩
end Go.Proofs.Ytikikddkhikfkaa
