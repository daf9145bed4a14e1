/-
  spec.Total, spec.Ahead, spec.First: walks. By the session.
-/
import Derived.Test.YtikikddkhikfkaaIncr
import Derived.Test.YtikikddkhikfkaaLast2
set_option linter.unusedSimpArgs false
namespace Go.Proofs.Ytikikddkhikfkaa
open Go.RowKit

theorem aheadB_anti {x y : Sd} (h : x.adr.toList ≠ y.adr.toList) : aheadB x y = !aheadB y x := by
  unfold aheadB
  have hb := bytesLess_anti _ _ h
  by_cases h1 : y.pri < x.pri
  · have h2 : ¬ x.pri < y.pri := by omega
    have h3 : ¬ y.pri = x.pri := by omega
    simp [h1, h2, h3]
  · by_cases h2 : x.pri < y.pri
    · have h3 : ¬ x.pri = y.pri := by omega
      simp [h1, h2, h3]
    · have h3 : x.pri = y.pri := by omega
      rw [hb]
      simp [h3]

set_option maxHeartbeats 800000 in
theorem stotal_any (l : List Sd) (A : Option Addr) (n c : Nat) (w : World) (hr : Rd w w.heap.size 4 A n (cellsOf l)) (hn : n ≤ 1000) (hp : ∀ x ∈ l, 0 ≤ x.pow ∧ x.pow ≤ 1125899906842624) :
    Calls Try.prog 19 #[.slice A n c] w fun e w' => e = .returned (.int .i64 (totL l)) ∧ Below w.heap.size w w' := by
  have HL := Lib.hid hr.len
  have HR := Lib.hid hr; have HP := Lib.hid hp; clear hr hp
  go_enter Try.func19, Try.ntmps19
  go_wp2
  go_loopw [3, 8] (fun s i wr => ∃ k : Nat, k ≤ n ∧ i = .int .i64 k ∧ s = .int .i64 (sumI ((powsOf l).take k)) ∧ Hid (Below w.heap.size w wr)) (fun _ i _ => n - (intOf i).toNat)
  case atStart => exact ⟨0, Nat.zero_le _, rfl, rfl, Below.refl _ _⟩
  case round =>
    obtain ⟨k, hk, rfl, rfl, HB⟩ := hrel
    by_cases hlt : k < n
    · have hk' : k < l.length := by have := HL.out; omega
      have hx : l[k]? = some l[k] := List.getElem?_eq_getElem hk'
      obtain ⟨ad, rfl, _, c0, c1, c2, c3⟩ := (HR.out.below HB.out).seat hx
      have hpx := HP.out _ (List.getElem_mem hk')
      have hst : (powsOf l).take (k + 1) = (powsOf l).take k ++ [l[k].pow] := by
        have hl2 : k < (powsOf l).length := by simpa [powsOf] using hk'
        rw [List.take_succ_eq_append_getElem hl2]; simp [powsOf]
      have hbd := sumI_bd ((powsOf l).take k) 0 1125899906842624 (fun x hx => by
        obtain ⟨s, hs, rfl⟩ := List.mem_map.1 (List.mem_of_mem_take hx)
        exact HP.out s hs)
      have hlen : ((powsOf l).take k).length ≤ k := List.length_take_le _ _
      generalize ((powsOf l).take k).length = m at *
      generalize l[k] = x at *
      have hs := sumI_snoc ((powsOf l).take k) x.pow
      rw [← hst] at hs
      generalize sumI ((powsOf l).take k) = s at *
      have HS := Lib.hid hs; clear hs hst hx
      go_wp2
      go_roundw
      case rel => exact ⟨k + 1, by omega, by go_num, by rw [HS.out], HB.out.alloc HB.out.size _⟩
      case measure => simp [intOf]; omega
    · obtain rfl : k = n := by omega
      have hsum : sumI ((powsOf l).take k) = totL l := by
        unfold totL; rw [List.take_of_length_le (by have := HL.out; simp [powsOf]; omega)]
      rw [hsum]
      clear hsum
      go_wp2
      go_ret
      exact ⟨rfl, HB.out⟩

set_option maxHeartbeats 800000 in
theorem ahead_any (x y : Sd) (w : World) :
    Calls Try.prog 72 #[.agg #[.string x.adr, .string x.key, .int .i64 x.pow, .int .i64 x.pri], .agg #[.string y.adr, .string y.key, .int .i64 y.pow, .int .i64 y.pri]] w fun e w' => e = .returned (.bool (aheadB x y)) ∧ Below w.heap.size w w' := by
  have hb := Lib.hid (((Below.refl w.heap.size w).alloc (Nat.le_refl _) (.cells #[.string x.adr, .string x.key, .int .i64 x.pow, .int .i64 x.pri] 49)).alloc (by simp) (.cells #[.string y.adr, .string y.key, .int .i64 y.pow, .int .i64 y.pri] 49))
  by_cases h : x.pri = y.pri
  · have h1 : (x.pri == y.pri) = true := by simpa using h
    have h2 : aheadB x y = Op.bytesLess x.adr.toList y.adr.toList := by simp [aheadB, h]
    have H2 := Lib.hid h2; clear h2 h
    go_enter Try.func72, Try.ntmps72
    go_wp2
    go_ret
    rw [H2.out]
    exact ⟨rfl, hb.out⟩
  · have h1 : (x.pri == y.pri) = false := by simpa using h
    have h2 : aheadB x y = decide (y.pri < x.pri) := by simp [aheadB, h]
    have H2 := Lib.hid h2; clear h2 h
    go_enter Try.func72, Try.ntmps72
    go_wp2
    go_ret
    rw [H2.out]
    exact ⟨rfl, hb.out⟩
end Go.Proofs.Ytikikddkhikfkaa
