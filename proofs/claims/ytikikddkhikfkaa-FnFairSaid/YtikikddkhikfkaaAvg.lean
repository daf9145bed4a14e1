/-
  computeAvgProposerPriority, shiftByAvgProposerPriority: walks. By the session.
-/
import Derived.Test.YtikikddkhikfkaaTot
set_option linter.unusedSimpArgs false
namespace Go.Proofs.Ytikikddkhikfkaa
open Go.RowKit

/-- a whole number's upper and lower 64 bits -/
def hiOf (s : Int) : Int := s / 18446744073709551616 % 18446744073709551616
def loOf (s : Int) : Int := s % 18446744073709551616
theorem wu64 (x : Int) : IntKind.u64.wrap x = x % 18446744073709551616 := by simp [IntKind.wrap, IntKind.bits, IntKind.signed]

set_option maxRecDepth 100000 in
set_option maxHeartbeats 3200000 in
theorem avg_any (lo g : Nat) (A : Option Addr) (c : Nat) (bs : List Nat) (ts : List Tv) (prop : Value) (tot : Int) (same : Bool) (w : World) (h : VSet w lo g A c bs ts prop tot same) (hn : bs.length ≤ 1000) (hn0 : 0 < bs.length)
    (hp : ∀ t ∈ ts, -4611686018427387904 ≤ t.x.pri ∧ t.x.pri ≤ 4611686018427387904) :
    Calls Try.prog 83 #[ptrTo g] w fun e w' => e = .returned (.int .i64 (avgL (ts.map Tv.x))) ∧ w = w' := by
  unfold ptrTo
  have h0 : w.cell? ⟨g, 0, none⟩ = some (.slice A bs.length c) := h.head.cell 0
  have H := Lib.hid h; have HP := Lib.hid hp; clear h hp
  go_enter Try.func83, Try.ntmps83
  go_wp2
  go_loop [4, 5, 19] (fun hi lo_ i => ∃ k : Nat, k ≤ bs.length ∧ i = .int .i64 k ∧ hi = .int .u64 (hiOf (sumI ((prisOf (ts.map Tv.x)).take k))) ∧ lo_ = .int .u64 (loOf (sumI ((prisOf (ts.map Tv.x)).take k)))) (fun _ _ i => bs.length - (intOf i).toNat)
  case atStart => exact ⟨0, Nat.zero_le _, rfl, rfl, rfl⟩
  case round =>
    obtain ⟨k, hk, rfl, rfl, rfl⟩ := hrel
    have hbd := sumI_bd ((prisOf (ts.map Tv.x)).take k) (-4611686018427387904) 4611686018427387904 (fun x hx => by
      obtain ⟨s, hs, rfl⟩ := List.mem_map.1 (List.mem_of_mem_take hx)
      obtain ⟨u, hu, rfl⟩ := List.mem_map.1 hs
      exact HP.out u hu)
    have hlen : ((prisOf (ts.map Tv.x)).take k).length ≤ k := List.length_take_le _ _
    by_cases hlt : k < bs.length
    · obtain ⟨b, t, hb, ht⟩ := H.out.at_ hlt
      obtain ⟨r, rfl, _, hp⟩ := H.out.ptr hb
      obtain ⟨_, hbv, hok⟩ := H.out.vals k b t hb ht
      obtain ⟨c0, c1, c2, c3⟩ := t.val_cells hbv
      have hst : (prisOf (ts.map Tv.x)).take (k + 1) = (prisOf (ts.map Tv.x)).take k ++ [t.x.pri] := map_take_succ ht
      have hpt := HP.out t (List.mem_of_getElem? ht)
      generalize ((prisOf (ts.map Tv.x)).take k).length = m at *
      have hs := sumI_snoc ((prisOf (ts.map Tv.x)).take k) t.x.pri
      rw [← hst] at hs
      generalize sumI ((prisOf (ts.map Tv.x)).take k) = s at *
      have HS := Lib.hid hs; have HBV := Lib.hid hbv; have HOK := Lib.hid hok
      have hb1 : (m : Int) * -4611686018427387904 ≥ -4611686018427387904000 := by omega
      have hb2 : (m : Int) * 4611686018427387904 ≤ 4611686018427387904000 := by omega
      clear hs hbv hok hst hb ht c0 c1 c2
      generalize hx : IntKind.u64.wrap t.x.pri = x at *
      generalize hl : IntKind.u64.wrap (loOf s + x) = l1 at *
      have e1 := hx; have e2 := hl
      rw [wu64] at e1 e2
      have hx0 : 0 ≤ x ∧ x ≤ 18446744073709551615 := by omega
      have hl0 : 0 ≤ l1 ∧ l1 ≤ 18446744073709551615 := by omega
      have hlo0 : 0 ≤ loOf s ∧ loOf s ≤ 18446744073709551615 := by unfold loOf; omega
      have hhi0 : 0 ≤ hiOf s ∧ hiOf s ≤ 18446744073709551615 := by unfold hiOf; omega
      generalize hh1 : IntKind.u64.wrap (hiOf s + 1) = h1 at *
      generalize hh2 : IntKind.u64.wrap (hiOf s - 1) = h2 at *
      generalize hh3 : IntKind.u64.wrap (h1 - 1) = h3 at *
      have e3 := hh1; have e4 := hh2; have e5 := hh3
      rw [wu64] at e3 e4 e5
      have E1 := Lib.hid e1; have E2 := Lib.hid e2; have E3 := Lib.hid e3; have E4 := Lib.hid e4; have E5 := Lib.hid e5
      have hlf : l1 = loOf (s + t.x.pri) := by unfold loOf at *; omega
      have HLF := Lib.hid hlf
      have hw1 : l1 < x → (t.x.pri < 0 → h3 = hiOf (s + t.x.pri)) ∧ (¬ t.x.pri < 0 → h1 = hiOf (s + t.x.pri)) := by
        unfold hiOf loOf at *; omega
      have hw2 : ¬ l1 < x → (t.x.pri < 0 → h2 = hiOf (s + t.x.pri)) ∧ (¬ t.x.pri < 0 → hiOf s = hiOf (s + t.x.pri)) := by
        unfold hiOf loOf at *; omega
      have HW1 := Lib.hid hw1; have HW2 := Lib.hid hw2
      clear hw1 hw2 hlf e1 e2 e3 e4 e5
      by_cases q1 : l1 < x
      · by_cases q2 : t.x.pri < 0
        · go_wp2
          go_round
          case rel => exact ⟨k + 1, by omega, by go_num, by rw [HS.out, (HW1.out q1).1 q2], by rw [HS.out, HLF.out]⟩
          case measure => simp [intOf]; omega
        · go_wp2
          go_round
          case rel => exact ⟨k + 1, by omega, by go_num, by rw [HS.out, (HW1.out q1).2 q2], by rw [HS.out, HLF.out]⟩
          case measure => simp [intOf]; omega
      · by_cases q2 : t.x.pri < 0
        · go_wp2
          go_round
          case rel => exact ⟨k + 1, by omega, by go_num, by rw [HS.out, (HW2.out q1).1 q2], by rw [HS.out, HLF.out]⟩
          case measure => simp [intOf]; omega
        · go_wp2
          go_round
          case rel => exact ⟨k + 1, by omega, by go_num, by rw [HS.out, (HW2.out q1).2 q2], by rw [HS.out, HLF.out]⟩
          case measure => simp [intOf]; omega
    · obtain rfl : k = bs.length := by omega
      have hfull : (prisOf (ts.map Tv.x)).take bs.length = prisOf (ts.map Tv.x) := List.take_of_length_le (by simp [prisOf, H.out.len])
      rw [hfull] at hbd hlen ⊢
      have hav : avgL (ts.map Tv.x) = sumI (prisOf (ts.map Tv.x)) / bs.length := by unfold avgL; simp [H.out.len]
      have hlq : (prisOf (ts.map Tv.x)).length = bs.length := by simp [prisOf, H.out.len]
      rw [hlq] at hbd
      clear hfull hlen hlq
      have HAV := Lib.hid hav; clear hav
      generalize sumI (prisOf (ts.map Tv.x)) = s at *
      by_cases hs0 : 0 ≤ s
      · obtain ⟨M, rfl⟩ := Int.eq_ofNat_of_zero_le hs0
        have kc := fun W => floorDiv_pos M bs.length W (by omega) (by omega) (by omega)
        have f1 : hiOf (M : Int) = ((M / 18446744073709551616 : Nat) : Int) := by unfold hiOf; omega
        have f2 : loOf (M : Int) = ((M % 18446744073709551616 : Nat) : Int) := by unfold loOf; omega
        rw [← f1, ← f2] at kc
        have e : ((M / bs.length : Nat) : Int) = avgL (ts.map Tv.x) := by rw [HAV.out]; simp
        rw [e] at kc
        have KC := Lib.hid kc; clear kc e f1 f2
        go_wp2_with fail
        refine (KC.out _).mono ?_
        rintro e w1 ⟨rfl, rfl⟩
        go_wp2
        go_ret
        exact ⟨rfl, rfl⟩
      · obtain ⟨M, hM⟩ : ∃ M : Nat, s = -(M : Int) := ⟨s.natAbs, by omega⟩
        have kc := fun W => floorDiv_neg M bs.length (avgL (ts.map Tv.x)) W (by omega) (by omega) (by omega) (by omega) (by rw [HAV.out, hM])
        have f1 : hiOf s = 18446744073709551615 - (((M - 1) / 18446744073709551616 : Nat) : Int) := by unfold hiOf; omega
        have f2 : loOf s = 18446744073709551615 - (((M - 1) % 18446744073709551616 : Nat) : Int) := by unfold loOf; omega
        rw [← f1, ← f2] at kc
        have KC := Lib.hid kc; clear kc f1 f2 hM
        go_wp2_with fail
        refine (KC.out _).mono ?_
        rintro e w1 ⟨rfl, rfl⟩
        go_wp2
        go_ret
        exact ⟨rfl, rfl⟩
end Go.Proofs.Ytikikddkhikfkaa
