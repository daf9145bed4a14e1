/-
  The package's words of the wire format (putUvarint and its kin): walks. By the session.
-/
import Derived.Test.YtikikddkhikfkaaWire1
set_option linter.all false
namespace Go.Proofs.Ytikikddkhikfkaa
open Go.RowKit

theorem Grew.alloc {w w' : World} {v v' : Value} (h : Grew w w' v v') (o : Obj) : Grew w (w'.alloc o) v v' := h.of_below ((Below.refl _ _).alloc (Nat.le_refl _) _)
theorem Grew.size {w w' : World} {v v' : Value} (h : Grew w w' v v') : w.heap.size ≤ w'.heap.size := h.1.size
set_option maxRecDepth 100000 in
set_option maxHeartbeats 1600000 in
theorem putUv_any (B n c : Nat) (A : Option Addr) (l : List UInt8) (N : Nat) (w : World) (h : Own8 w B A n c l) (hB : B ≤ w.heap.size) (hn : n ≤ 500000000) (hN : N < 18446744073709551616) :
    Calls Try.prog 91 #[.slice A n c, .int .u64 N] w fun e w' => ∃ A' m c', e = .returned (.slice A' m c') ∧ Own8 w' B A' m c' (l ++ vi N) ∧ Grew w w' (.slice A n c) (.slice A' m c') := by
  have HO0 := Lib.hid h; have HN0 := Lib.hid h.len; clear h
  go_enter Try.func91, Try.ntmps91
  go_wp2
  go_loopw [0, 1] (fun v u wr => ∃ (acc : List UInt8) (x : Nat) (A1 : Option Addr) (m1 c1 : Nat), u = .int .u64 x ∧ v = .slice A1 m1 c1 ∧ x < 18446744073709551616 ∧ Hid (vi N = acc ++ vi x) ∧ Hid (Own8 wr B A1 m1 c1 (l ++ acc)) ∧ Hid (Grew w wr (.slice A n c) (.slice A1 m1 c1))) (fun _ u _ => (intOf u).toNat)
  case atStart => exact ⟨[], N, A, n, c, rfl, rfl, hN, rfl, by show Own8 _ _ _ _ _ _; rw [List.append_nil]; exact HO0.out, Grew.refl _ _⟩
  case round =>
    obtain ⟨acc, x, A1, m1, c1, rfl, rfl, hx, HV, HO, HG⟩ := hrel
    have hz := HG.out.size
    have hacc := vi_acc HV.out hN
    have HM : Hid (m1 + 1 ≤ 1000000000) := by
      have a := HO.out.len
      have b := HN0.out
      rw [List.length_append] at a
      show _ ≤ _; omega
    by_cases hlt : 127 < x
    · have hb2 : bits .or .u8 ((x : Int) % 256) 128 = ((UInt8.ofNat (x % 128 + 128)).toNat : Int) := by
        have := or_128 (x := x % 256) (by omega)
        rw [show x % 256 % 128 = x % 128 by omega] at this
        rw [← this]; rfl
      have hnx := vi_next HV.out hlt
      have HNX := Lib.hid hnx; have HB2 := Lib.hid hb2; clear hnx hb2
      go_wp2_with (at_builtin; refine app8 _ rfl (.tmp 7) (.tmp 11) rfl B m1 c1 A1 _ rfl (World.ownsRow.alloc HO.out _) (wr.heap.size + 1) 1 1 (some ⟨wr.heap.size, 0, none⟩) [UInt8.ofNat (x % 128 + 128)] rfl (Rd.byte _ _ _ _ _ HB2.out (by simp)) HM.out (by simp; omega) ?_; intro A2 c2 w2 hown2 hg2)
      go_roundw
      case rel => exact ⟨acc ++ [UInt8.ofNat (x % 128 + 128)], x / 128, A2, m1 + 1, c2, by first | rfl | go_num, rfl, by omega, HNX.out, by rw [← List.append_assoc]; exact hown2, (HG.out.alloc _).trans hg2⟩
      case measure => simp [intOf]; omega
    · have hlast := vi_last HV.out (by omega)
      have hb2 : (x : Int) % 256 = ((UInt8.ofNat x).toNat : Int) := byte_of x
      have HL := Lib.hid hlast; have HB2 := Lib.hid hb2; clear hlast hb2
      go_wp2_with (at_builtin; refine app8 _ rfl (.tmp 15) (.tmp 18) rfl B m1 c1 A1 _ rfl (World.ownsRow.alloc HO.out _) (wr.heap.size + 1) 1 1 (some ⟨wr.heap.size, 0, none⟩) [UInt8.ofNat x] rfl ?hr HM.out (by simp; omega) ?_; (case hr => refine Rd.byte _ _ _ _ _ ?_ (by simp); have := HB2.out; omega); intro A2 c2 w2 hown2 hg2)
      go_ret
      exact ⟨A2, m1 + 1, c2, rfl, by rw [HL.out, ← List.append_assoc]; exact hown2, (HG.out.alloc _).trans hg2⟩

set_option maxRecDepth 100000 in
set_option maxHeartbeats 1600000 in
theorem putNum_any (B n c f : Nat) (A : Option Addr) (l : List UInt8) (N : Nat) (w : World) (h : Own8 w B A n c l) (hB : B ≤ w.heap.size) (hn : n ≤ 400000000) (hN : N < 18446744073709551616) (hf : f < 32) :
    Calls Try.prog 92 #[.slice A n c, .int .i64 f, .int .u64 N] w fun e w' => ∃ A' m c', e = .returned (.slice A' m c') ∧ Own8 w' B A' m c' (l ++ numB f N) ∧ Grew w w' (.slice A n c) (.slice A' m c') := by
  have HO0 := Lib.hid h; have HN0 := Lib.hid h.len
  by_cases h0 : N = 0
  · subst h0
    have hB0 : Hid (numB f 0 = []) := rfl
    clear h
    go_enter Try.func92, Try.ntmps92
    go_wp2
    go_ret
    exact ⟨A, n, c, rfl, by rw [hB0.out, List.append_nil]; exact HO0.out, Grew.refl _ _⟩
  · have hz : ((N : Int) == 0) = false := by rw [beq_eq_false_iff_ne]; omega
    have hB0 : Hid (numB f N = [UInt8.ofNat (f * 8)] ++ vi N) := by show _ = _; unfold numB; rw [if_neg h0]; rfl
    have hbt : ((f : Int) * 8) % 256 = ((UInt8.ofNat (f * 8)).toNat : Int) := by rw [← byte_of]; omega
    have HBT := Lib.hid hbt
    clear h hbt
    go_enter Try.func92, Try.ntmps92
    go_wp2_with (at_builtin; refine app8 _ rfl (.tmp 10) (.tmp 14) rfl B n c A _ rfl (World.ownsRow.alloc HO0.out _) (w.heap.size + 1) 1 1 (some ⟨w.heap.size, 0, none⟩) [UInt8.ofNat (f * 8)] rfl ?hr (by omega) (by simp; omega) ?_; (case hr => refine Rd.byte _ _ _ _ _ ?_ (by simp); have := HBT.out; omega); intro A2 c2 w2 hown2 hg2; have HO2 := Lib.hid hown2; have HG2 := Lib.hid hg2; clear hown2 hg2)
    have K := Lib.hid (putUv_any B (n + 1) c2 A2 _ N w2 HO2.out (by have := HG2.out.size; simp at this; omega) (by omega) hN)
    refine K.out.mono ?_
    rintro e w3 ⟨A3, m3, c3, rfl, ho3, hg3⟩
    have HO3 := Lib.hid ho3; have HG3 := Lib.hid hg3; clear ho3 hg3
    go_wp2
    go_ret
    exact ⟨A3, m3, c3, rfl, by rw [hB0.out, ← List.append_assoc]; exact HO3.out, (((Grew.refl w _).alloc _).trans HG2.out).trans HG3.out⟩

set_option maxRecDepth 100000 in
set_option maxHeartbeats 1600000 in
theorem putFix_any (B n c f : Nat) (A : Option Addr) (l : List UInt8) (v : Int) (w : World) (h : Own8 w B A n c l) (hB : B ≤ w.heap.size) (hn : n ≤ 400000000) (hv : in64' v) (hf : f < 31) :
    Calls Try.prog 93 #[.slice A n c, .int .i64 f, .int .i64 v] w fun e w' => ∃ A' m c', e = .returned (.slice A' m c') ∧ Own8 w' B A' m c' (l ++ fixB f (u64 v)) ∧ Grew w w' (.slice A n c) (.slice A' m c') := by
  have HO0 := Lib.hid h; have HN0 := Lib.hid h.len
  by_cases h0 : v = 0
  · subst h0
    have hB0 : Hid (fixB f (u64 0) = []) := rfl
    clear h
    go_enter Try.func93, Try.ntmps93
    go_wp2
    go_ret
    exact ⟨A, n, c, rfl, by rw [hB0.out, List.append_nil]; exact HO0.out, Grew.refl _ _⟩
  · have hz : (v == 0) = false := by rw [beq_eq_false_iff_ne]; exact h0
    have hu : u64 v ≠ 0 := fun h => h0 ((u64_zero hv).1 h)
    have hw : IntKind.u64.wrap v = ((u64 v : Nat) : Int) := by rw [u64_cast]; simp [IntKind.wrap, IntKind.bits, IntKind.signed]
    have htag : bits .or .i64 ((f : Int) * 8) 1 = ((f * 8 + 1 : Nat) : Int) := by
      have := bits_join .i64 63 (by decide) wraps_i64 3 ((f : Int) * 8) 1 (by omega) (by omega) (by omega) (by omega) (by omega) (by omega)
      rw [this]; omega
    have hbt : ((f * 8 + 1 : Nat) : Int) % 256 = ((UInt8.ofNat (f * 8 + 1)).toNat : Int) := byte_of _
    have HBT := Lib.hid hbt
    have hB0 : Hid (fixB f (u64 v) = [UInt8.ofNat (f * 8 + 1)] ++ le8 (u64 v)) := by show _ = _; unfold fixB; rw [if_neg hu]; rfl
    have hN := u64_lt v
    clear h hbt hu
    generalize u64 v = N at *
    go_enter Try.func93, Try.ntmps93
    go_wp2_with (at_builtin; refine app8 _ rfl (.tmp 11) (.tmp 16) rfl B n c A _ rfl (World.ownsRow.alloc HO0.out _) (w.heap.size + 1) 1 1 (some ⟨w.heap.size, 0, none⟩) [UInt8.ofNat (f * 8 + 1)] rfl ?hr (by omega) (by simp; omega) ?_; (case hr => refine Rd.byte _ _ _ _ _ ?_ (by simp); have := HBT.out; omega); intro A2 c2 w2 hown2 hg2; have HO2 := Lib.hid hown2; have HG2 := Lib.hid (((Grew.refl w (.slice A n c)).alloc _).trans hg2); clear hown2 hg2)
    go_loopw [0, 7] (fun v i wr => ∃ (k : Nat) (A1 : Option Addr) (m1 c1 : Nat), k ≤ 8 ∧ i = .int .i64 k ∧ v = .slice A1 m1 c1 ∧ Hid (Own8 wr B A1 m1 c1 (l ++ [UInt8.ofNat (f * 8 + 1)] ++ (le8 N).take k)) ∧ Hid (Grew w wr (.slice A n c) (.slice A1 m1 c1))) (fun _ i _ => 8 - (intOf i).toNat)
    case atStart => exact ⟨0, A2, n + 1, c2, Nat.zero_le _, rfl, rfl, by show Own8 _ _ _ _ _ _; rw [List.take_zero, List.append_nil]; exact HO2.out, HG2.out⟩
    case round =>
      obtain ⟨k, A1, m1, c1, hk, rfl, rfl, HO, HG⟩ := hrel
      have hz := HG.out.size
      have HM : Hid (m1 + 1 ≤ 1000000000) := by
        have a := HO.out.len
        have b := HN0.out
        have d : ((le8 N).take k).length ≤ k := List.length_take_le _ _
        rw [List.length_append, List.length_append] at a
        simp only [List.length_cons, List.length_nil] at a
        show _ ≤ _; omega
      by_cases hlt : k < 8
      · have hst : (le8 N).take (k + 1) = (le8 N).take k ++ [UInt8.ofNat (N / 2 ^ (8 * k))] := le8_take N k hlt
        have HST := Lib.hid hst; clear hst
        go_wp2_with (at_builtin; refine app8 _ rfl (.tmp 22) (.tmp 29) rfl B m1 c1 A1 _ rfl (World.ownsRow.alloc HO.out _) (wr.heap.size + 1) 1 1 (some ⟨wr.heap.size, 0, none⟩) [UInt8.ofNat (N / 2 ^ (8 * k))] rfl (Rd.byte _ _ _ _ _ (byte_at N k) (by simp)) HM.out (by simp; omega) ?_; intro A2 c2 w2 hown2 hg2)
        go_roundw
        case rel => exact ⟨k + 1, A2, m1 + 1, c2, by omega, by go_num, rfl, by rw [HST.out, ← List.append_assoc]; exact hown2, (HG.out.alloc _).trans hg2⟩
        case measure => simp [intOf]; omega
      · obtain rfl : k = 8 := by omega
        have e8 : (le8 N).take 8 = le8 N := List.take_of_length_le (by simp [le8])
        have h1 := HO.out
        rw [e8, List.append_assoc, ← hB0.out] at h1
        have HO1 := Lib.hid h1; clear h1 e8
        go_wp2
        go_ret
        exact ⟨A1, m1, c1, rfl, HO1.out, HG.out⟩

set_option maxRecDepth 100000 in
set_option maxHeartbeats 1600000 in
theorem putMsg_any (B n c f : Nat) (A : Option Addr) (l : List UInt8) (X : Option Addr) (m d : Nat) (x : List UInt8) (w : World) (h : Own8 w B A n c l) (hB : B ≤ w.heap.size) (hn : n ≤ 300000000) (hr : Rd w w.heap.size 1 X m (bc x)) (ha : Apart8 (.slice A n c) X) (hX : ∀ ad, X = some ad → ad.block < w.heap.size) (hm : m ≤ 300000000) (hf : f < 31) :
    Calls Try.prog 94 #[.slice A n c, .int .i64 f, .slice X m d] w fun e w' => ∃ A' m c', e = .returned (.slice A' m c') ∧ Own8 w' B A' m c' (l ++ msgB f x) ∧ Grew w w' (.slice A n c) (.slice A' m c') := by
  have HO0 := Lib.hid h; have HN0 := Lib.hid h.len; have HR := Lib.hid hr
  have htag : bits .or .i64 ((f : Int) * 8) 2 = ((f * 8 + 2 : Nat) : Int) := by
    have := bits_join .i64 63 (by decide) wraps_i64 3 ((f : Int) * 8) 2 (by omega) (by omega) (by omega) (by omega) (by omega) (by omega)
    rw [this]; omega
  have hbt : ((f * 8 + 2 : Nat) : Int) % 256 = ((UInt8.ofNat (f * 8 + 2)).toNat : Int) := byte_of _
  have HBT := Lib.hid hbt
  have hxm := hr.len1
  have hB0 : Hid (l ++ msgB f x = ((l ++ [UInt8.ofNat (f * 8 + 2)]) ++ vi m) ++ x) := by show _ = _; unfold msgB; rw [← hxm]; simp
  have HA := Lib.hid ha; have HX := Lib.hid hX
  have hvl := vi_ten (show m < 18446744073709551616 by omega)
  have HVL := Lib.hid hvl
  clear h hbt hr hxm ha hX hvl
  go_enter Try.func94, Try.ntmps94
  go_wp2_with (at_builtin; refine app8 _ rfl (.tmp 7) (.tmp 12) rfl B n c A _ rfl (World.ownsRow.alloc HO0.out _) (w.heap.size + 1) 1 1 (some ⟨w.heap.size, 0, none⟩) [UInt8.ofNat (f * 8 + 2)] rfl ?hr (by omega) (by simp; omega) ?_; (case hr => refine Rd.byte _ _ _ _ _ ?_ (by simp); have := HBT.out; omega); intro A2 c2 w2 hown2 hg2; have HO2 := Lib.hid hown2; have HG2 := Lib.hid (((Grew.refl w (.slice A n c)).alloc _).trans hg2); clear hown2 hg2)
  have K := Lib.hid (putUv_any B (n + 1) c2 A2 _ m w2 HO2.out (by have := HG2.out.size; omega) (by omega) (by omega))
  refine K.out.mono ?_
  rintro e w3 ⟨A3, m3, c3, rfl, ho3, hg3⟩
  have hg03 := HG2.out.trans hg3
  have HM : Hid (m3 + m ≤ 1000000000) := by
    have a := ho3.len
    have b := HN0.out
    have d := HVL.out
    rw [List.length_append, List.length_append] at a
    simp only [List.length_cons, List.length_nil] at a
    show _ ≤ _; omega
  have hap := HA.out.grew HX.out hg03
  have hr3 := HR.out.grew hg03.1 (fun ad e => HA.out ad e)
  have HO3 := Lib.hid ho3; have HG3 := Lib.hid hg03; have HR3 := Lib.hid hr3; clear ho3 hg3 hg03 hr3
  go_wp2_with (at_builtin; refine app8 _ rfl (.tmp 18) (.tmp 19) rfl B m3 c3 A3 _ rfl HO3.out w.heap.size m d X x rfl HR3.out HM.out (by have := HG3.out.size; omega) ?_; intro A4 c4 w4 ho4 hg4)
  go_ret
  exact ⟨A4, m3 + m, c4, rfl, by rw [hB0.out]; exact ho4, HG3.out.trans hg4⟩

set_option maxRecDepth 100000 in
set_option maxHeartbeats 1600000 in
theorem putTxt_any (B n c f : Nat) (A : Option Addr) (l : List UInt8) (X : Option Addr) (m d : Nat) (x : List UInt8) (w : World) (h : Own8 w B A n c l) (hB : B ≤ w.heap.size) (hn : n ≤ 300000000) (hr : Rd w w.heap.size 1 X m (bc x)) (ha : Apart8 (.slice A n c) X) (hX : ∀ ad, X = some ad → ad.block < w.heap.size) (hm : m ≤ 300000000) (hf : f < 31) :
    Calls Try.prog 97 #[.slice A n c, .int .i64 f, .slice X m d] w fun e w' => ∃ A' m c', e = .returned (.slice A' m c') ∧ Own8 w' B A' m c' (l ++ txtB f x) ∧ Grew w w' (.slice A n c) (.slice A' m c') := by
  have hxm := hr.len1
  by_cases h0 : m = 0
  · have hB0 : Hid (txtB f x = []) := by show _ = _; unfold txtB; rw [if_pos (by omega)]
    have HO0 := Lib.hid h
    subst h0
    clear h hr ha hX hxm
    go_enter Try.func97, Try.ntmps97
    go_wp2
    go_ret
    exact ⟨A, n, c, rfl, by rw [hB0.out, List.append_nil]; exact HO0.out, Grew.refl _ _⟩
  · have hz : ((m : Int) == 0) = false := by rw [beq_eq_false_iff_ne]; omega
    have hB0 : Hid (txtB f x = msgB f x) := by show _ = _; unfold txtB; rw [if_neg (by omega)]
    have K := Lib.hid (putMsg_any B n c f A l X m d x w h hB hn hr ha hX hm hf)
    clear h hr ha hX hxm
    go_enter Try.func97, Try.ntmps97
    go_wp2_with fail
    refine K.out.mono ?_
    rintro e w3 ⟨A3, m3, c3, rfl, ho3, hg3⟩
    have HO3 := Lib.hid ho3; have HG3 := Lib.hid hg3; clear ho3 hg3
    go_wp2
    go_ret
    exact ⟨A3, m3, c3, rfl, by rw [hB0.out]; exact HO3.out, HG3.out⟩

set_option maxRecDepth 100000 in
set_option maxHeartbeats 1600000 in
theorem delim_any (X : Option Addr) (m d : Nat) (x : List UInt8) (w : World) (hr : Rd w w.heap.size 1 X m (bc x)) (hm : m ≤ 300000000) :
    Calls Try.prog 77 #[.slice X m d] w fun e w' => ∃ A' m c', e = .returned (.slice A' m c') ∧ Own8 w' w.heap.size A' m c' (vi x.length ++ x) ∧ Below w.heap.size w w' := by
  have hxm := hr.len1
  have K := Lib.hid (putUv_any w.heap.size 0 0 none [] m w (Own8.nil _ _) (Nat.le_refl _) (by omega) (by omega))
  have hvl := vi_ten (show m < 18446744073709551616 by omega)
  have HVL := Lib.hid hvl; have HR := Lib.hid hr; have HXM := Lib.hid hxm
  clear hr hxm hvl
  go_enter Try.func77, Try.ntmps77
  go_wp2_with fail
  refine K.out.mono ?_
  rintro e w3 ⟨A3, m3, c3, rfl, ho3, hg3⟩
  have hb3 := hg3.below (Nat.le_refl _) (fun k hk => by simp [Value.ownBlock] at hk)
  rw [List.nil_append] at ho3
  have HM : Hid (m3 + m ≤ 1000000000) := by
    have a := ho3.len
    have d := HVL.out
    show _ ≤ _; omega
  have HO3 := Lib.hid ho3; have HB3 := Lib.hid hb3; clear ho3 hg3 hb3
  go_wp2_with (at_builtin; refine app8 _ rfl (.tmp 6) (.tmp 7) rfl w.heap.size m3 c3 A3 _ rfl HO3.out w.heap.size m d X x rfl (Rd.below HR.out HB3.out) HM.out HB3.out.size ?_; intro A4 c4 w4 ho4 hg4)
  go_ret
  exact ⟨A4, m3 + m, c4, rfl, by rw [← HXM.out]; exact ho4, HB3.out.grown hg4.1 HB3.out.size (fun k hk => (HO3.out.at_ k hk).1)⟩
end Go.Proofs.Ytikikddkhikfkaa
