/-
  The reference's SHA-256 (spec.Sum): the walk: its answer is the bytes of the plain function shaL. By the session.
-/
import Derived.Test.YtikikddkhikfkaaDoorPa18
import Derived.Test.YtikikddkhikfkaaDoorPa15
import Derived.RegionTactic
import Derived.BigRegion
import Derived.Deep.Cut
import Derived.Outline
set_option linter.all false
namespace Go.Proofs.YtikikddkhikfkaaDoor
open Go.RowKit

def sizeOfV : Value → Nat
  | .slice _ m _ => m
  | _ => 0
set_option maxRecDepth 100000 in
set_option maxHeartbeats 8000000 in
theorem sum_any (A : Option Addr) (n c : Nat) (b : List UInt8) (w : World) (hr : Rd w w.heap.size 1 A n (bc b)) (hn : n ≤ 40000000000) :
    Calls Tryd.prog 61 #[.slice A n c] w fun e w' => ∃ A' m c', e = .returned (.slice A' m c') ∧ Own8 w' w.heap.size A' m c' (shaL b) ∧ Below w.heap.size w w' := by
  have hnb := hr.len1
  have HNB := Lib.hid hnb; have HR := Lib.hid hr; clear hnb hr
  have HB1 := Lib.hid (begin_any w)
  obtain ⟨s0, hs0⟩ : ∃ s0, s0 = shaH := ⟨_, rfl⟩
  rw [← hs0] at HB1
  have HS0 := Lib.hid hs0; clear hs0
  go_enter Tryd.func61, Tryd.ntmps61
  go_wp2_with fail
  refine HB1.out.mono ?_
  rintro e w1 ⟨rfl, hb1⟩
  have HBB1 := Lib.hid hb1; clear hb1
  have HBB2 := Lib.hid (HBB1.out.alloc HBB1.out.size (.cells (hC s0.list) 173))
  have KB0 := Lib.hid (Blk.new w1 173 (hC s0.list))
  have HR2 := Lib.hid (rounds_any (w1.alloc (.cells (hC s0.list) 173)))
  go_wp2_with (refine wpList_store_rowTo rfl 173 (.tmp 3) (.tmp 27) rfl rfl w1.heap.size (hC s0.list) rfl rfl 173 _ (heap_alloc_new _ _) (by kernel_rfl) (by kernel_rfl) (hC_one _) ?_; rw [World.setRow_alloc_new])
  refine HR2.out.mono ?_
  rintro e w2 ⟨rfl, hb2⟩
  have hbw2 := HBB2.out.trans (hb2.mono HBB2.out.size)
  have kb0 := KB0.out.belowS hb2
  have HBW2 := Lib.hid hbw2; have KB0' := Lib.hid kb0; clear hb2 hbw2 kb0
  go_upto_region 4 with (refine wpList_store_rowTo rfl 175 (.tmp 4) (.tmp 28) rfl rfl w2.heap.size kCells rfl rfl 175 _ (heap_alloc_new _ _) (by kernel_rfl) (by kernel_rfl) (by kernel_rfl) ?_; rw [World.setRow_alloc_new])
  have HBW3 := Lib.hid (HBW2.out.alloc HBW2.out.size (.cells kCells 175))
  have KB3 := Lib.hid (KB0'.out.alloc (.cells kCells 175))
  have KK3 := Lib.hid (Blk.new w2 175 kCells)
  have hgh : w.heap.size ≤ w1.heap.size := HBB1.out.size
  have hgk : w1.heap.size < w2.heap.size := KB0'.out.lt
  clear HBW2 KB0' HR2 KB0 HBB2 HB1 HBB1
  generalize w2.alloc (.cells kCells 175) = w3 at *
  generalize w1.heap.size = gh at *
  generalize w2.heap.size = gk at *
  go_wp2_with (first | (at_builtin; refine app8w _ rfl (.const (.slice none 0 0)) (.tmp 31) rfl w3.heap.size 0 0 none [] rfl (Own8.nil _ _) w.heap.size n c A b rfl (HR.out.below HBW3.out) (by omega) (Nat.le_refl _) ?_; intro A4 c4 w4 ho4 hg4; simp only [Nat.zero_add, List.nil_append] at ho4 hg4 ⊢; have HO4 := Lib.hid ho4; have HG4 := Lib.hid (hg4.below (Nat.le_refl _) (fun k hk => by simp [Value.ownBlock] at hk)); clear ho4 hg4) | (at_builtin; refine app8w _ rfl (.tmp 32) (.tmp 33) rfl w3.heap.size n c4 A4 b rfl (World.ownsRow.alloc HO4.out _) (w4.heap.size + 1) 1 1 (some ⟨w4.heap.size, 0, none⟩) [128] rfl (Rd.byte _ _ _ _ _ rfl rfl) (by omega) (by simp; have := HG4.out.size; omega) ?_; intro A5 c5 w5 ho5 hg5; have HO5 := Lib.hid ho5; have HG5 := Lib.hid ((HG4.out.alloc HG4.out.size _).grown hg5.1 (by simp; have := HG4.out.size; omega) (fun k hk => (HO4.out.at_ k hk).1)); clear ho5 hg5))
  clear HG4 HO4
  go_loopw [6] (fun v wr => ∃ (z : Nat) (A6 : Option Addr) (c6 : Nat), v = .slice A6 (n + 1 + z) c6 ∧ z ≤ zerosOf n ∧ Hid (Own8 wr w3.heap.size A6 (n + 1 + z) c6 (b ++ [128] ++ List.replicate z 0)) ∧ Hid (Below w3.heap.size w3 wr)) (fun v _ => n + 1 + zerosOf n - sizeOfV v)
  case atStart => exact ⟨0, A5, c5, rfl, Nat.zero_le _, by show Own8 _ _ _ _ _ (_ ++ []); rw [List.append_nil]; exact HO5.out, HG5.out⟩
  case round =>
    obtain ⟨z, A6, c6, rfl, hz, HO, HB⟩ := hrel
    have hzd : zerosOf n = (119 - n % 64) % 64 := rfl
    by_cases hlt : z < zerosOf n
    · have ht : (((n + 1 + z : Nat) : Int) % 64 == 56) = false := by rw [beq_eq_false_iff_ne]; omega
      have ht' : (((n + 1 + z : Nat) : Int) % 64 != 56) = true := by rw [bne_iff_ne]; omega
      have hst : List.replicate (z + 1) (0 : UInt8) = List.replicate z 0 ++ [0] := List.replicate_succ'
      have HST := Lib.hid hst; clear hst
      have hz2 := HB.out.size
      go_wp2_with (at_builtin; refine app8w _ rfl (.tmp 39) (.tmp 40) rfl w3.heap.size (n + 1 + z) c6 A6 _ rfl (World.ownsRow.alloc HO.out _) (wr.heap.size + 1) 1 1 (some ⟨wr.heap.size, 0, none⟩) [0] rfl (Rd.byte _ _ _ _ _ rfl rfl) (by omega) (by simp; omega) ?_; intro A7 c7 w7 ho7 hg7)
      go_roundw
      case rel => exact ⟨z + 1, A7, c7, rfl, by omega, by rw [HST.out, ← List.append_assoc]; exact ho7, (HB.out.alloc hz2 _).grown hg7.1 (by simp; omega) (fun k hk => (HO.out.at_ k hk).1)⟩
      case measure => simp [sizeOfV]; omega
    · obtain rfl : z = zerosOf n := by omega
      have ht : (((n + 1 + zerosOf n : Nat) : Int) % 64 == 56) = true := by rw [beq_iff_eq]; omega
      have ht' : (((n + 1 + zerosOf n : Nat) : Int) % 64 != 56) = false := by rw [bne_eq_false_iff_eq]; omega
      clear hzd
      have hpl : n + 1 + zerosOf n ≤ 40000001000 := by unfold zerosOf; omega
      have hpad : Hid (padL b = b ++ [128] ++ List.replicate (zerosOf n) 0 ++ be8 (n * 8)) := by show _ = _; rw [HNB.out]; rfl
      have h64 : Hid ((n + 1 + zerosOf n + 8) % 64 = 0) := by show _ = _; unfold zerosOf; omega
      have h56 : ((n : Int) + 1 + (zerosOf n : Int)) % 64 = 56 := by rw [beq_iff_eq] at ht; omega
      clear hz ht ht'
      generalize zerosOf n = Z at *
      generalize b ++ [128] ++ List.replicate Z 0 = pre at *
      go_wp2
      clear h56
      go_loopw [6, 42] (fun v i wr => ∃ (k : Nat) (A7 : Option Addr) (c7 : Nat), k ≤ 8 ∧ i = .int .i64 k ∧ v = .slice A7 (n + 1 + Z + k) c7 ∧ Hid (Own8 wr w3.heap.size A7 (n + 1 + Z + k) c7 (pre ++ (be8 (n * 8)).take k)) ∧ Hid (Below w3.heap.size w3 wr)) (fun _ i _ => 8 - (intOf i).toNat)
      case atStart => exact ⟨0, A6, c6, Nat.zero_le _, rfl, rfl, by show Own8 _ _ _ _ _ (_ ++ []); rw [List.append_nil]; exact HO.out, HB.out⟩
      case round =>
        obtain ⟨k, A7, c7, hk, rfl, rfl, HO7, HB7⟩ := hrel
        by_cases hlt : k < 8
        · have hst : (be8 (n * 8)).take (k + 1) = (be8 (n * 8)).take k ++ [UInt8.ofNat (n * 8 / 2 ^ (56 - 8 * k))] := by
            unfold be8
            rw [List.take_succ_eq_append_getElem (by simp; omega)]
            simp
          have hby : ((n : Int) * 8 / 2 ^ (56 - 8 * k)) % 256 = ((UInt8.ofNat (n * 8 / 2 ^ (56 - 8 * k))).toNat : Int) := by
            have := byte_of (n * 8 / 2 ^ (56 - 8 * k))
            rw [← this]; simp
          have HST := Lib.hid hst; have HBY := Lib.hid hby; clear hst hby
          have hz2 := HB7.out.size
          go_wp2_with (at_builtin; refine app8w _ rfl (.tmp 45) (.tmp 53) rfl w3.heap.size (n + 1 + Z + k) c7 A7 _ rfl (World.ownsRow.alloc HO7.out _) (wr.heap.size + 1) 1 1 (some ⟨wr.heap.size, 0, none⟩) [UInt8.ofNat (n * 8 / 2 ^ (56 - 8 * k))] rfl (Rd.byte _ _ _ _ _ HBY.out rfl) (by omega) (by simp; omega) ?_; intro A8 c8 w8 ho8 hg8)
          go_roundw
          case rel => exact ⟨k + 1, A8, c8, by omega, by go_num, rfl, by rw [HST.out, ← List.append_assoc]; exact ho8, (HB7.out.alloc hz2 _).grown hg8.1 (by simp; omega) (fun k hk => (HO7.out.at_ k hk).1)⟩
          case measure => simp [intOf]; omega
        · obtain rfl : k = 8 := by omega
          have h1 := HO7.out
          rw [List.take_of_length_le (by simp [be8])] at h1
          rw [← hpad.out] at h1
          have HO8 := Lib.hid h1; clear h1
          clear HO HB HO5 HG5 HO7 hpad hlt hk
          generalize hM : n + 1 + Z + 8 = M at *
          obtain ⟨nb, rfl⟩ : ∃ nb, M = 64 * nb := ⟨M / 64, by have := h64.out; omega⟩
          have hnb : 64 * nb ≤ 40000002000 := by omega
          have hmlen : Hid ((padL b).length = 64 * nb) := HO8.out.len.symm
          have hmsg : Hid (shaL b = (blocksN (padL b) s0 nb).list.flatMap out4) := by
            show _ = _
            unfold shaL St.bytes
            rw [hmlen.out, HS0.out, Nat.mul_div_cancel_left _ (by omega)]
          clear h64 hM
          by_cases hnb0 : nb = 0
          · exfalso
            have := hmlen.out
            subst hnb0
            simp [padL] at this
          have hHO := HO8.out
          obtain ⟨gm, cap, hv, hg0, hg1⟩ := hHO.form (by omega)
          have e1 : A7 = some ⟨gm, 0, none⟩ := by injection hv
          subst e1
          clear hv hHO
          have KB8 := Lib.hid (KB3.out.belowS HB7.out); have KK8 := Lib.hid (KK3.out.belowS HB7.out)
          have HB8 := Lib.hid (HBW3.out.trans (HB7.out.mono HBW3.out.size))
          have hgk3 : gk < w3.heap.size := KK3.out.lt
          clear KB3 KK3 HBW3 HB7
          generalize hB3 : w3.heap.size = B3 at *
          clear hB3
          generalize padL b = msg at *
          obtain ⟨w8, rfl⟩ : ∃ x : World, x = wr := ⟨_, rfl⟩
          go_wp2
          rw [show ((8 : Nat) : Int) = 8 from rfl]
          refine sumL3 gh gk gm c7 B3 nb msg s0 w rfl hnb hgh hgk hgk3 hg0 hmlen.out KB8.out KK8.out HO8.out HB8.out ?_
          rintro w9 ⟨HH, HB⟩
          intros
          dsimp only
          clear KB8 KK8 HO8 HB8
          generalize hs9 : blocksN msg s0 nb = s9 at *
          clear hs9
          have hz9 := HB.out.size
          go_wp2_with (refine wpList_load_row rfl 173 (.tmp 3) rfl gh rfl 173 (hC s9.list) (0, 0) _ HH.out Tryd.underlying173 rfl (by kernel_rfl) ?_)
          refine sumL9 s9.list rfl ?_
          rintro w10 A10 c10 ⟨HO10, HB10⟩
          intros
          dsimp only
          go_wp2
          go_ret
          exact ⟨A10, 32, c10, rfl, by rw [hmsg.out]; exact HO10.out.more hz9, HB.out.trans (HB10.out.mono hz9)⟩
end Go.Proofs.YtikikddkhikfkaaDoor
