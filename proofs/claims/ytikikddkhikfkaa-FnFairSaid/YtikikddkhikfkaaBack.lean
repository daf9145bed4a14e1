/-
  laws.back and laws.same: walks. By the session.
-/
import Derived.Test.YtikikddkhikfkaaSet2
namespace Go.Proofs.Ytikikddkhikfkaa
open Go.RowKit

theorem infoISeat : (Try.prog.info? 79).map (fun i => (i.zero, i.size, i.bytes)) = some (some (.agg #[.string ⟨#[]⟩, .string ⟨#[]⟩, .int .i64 0, .int .i64 0]), 4, 48) := by kernel_rfl

set_option maxHeartbeats 800000 in
theorem back_any (l : List Sd) (A : Option Addr) (n c : Nat) (w : World) (hr : Rd w w.heap.size 4 A n (cellsOf l)) (hn : n ≤ 1000000) :
    Calls Try.prog 16 #[.slice A n c] w fun e w' => ∃ A' c', e = .returned (.slice A' n c') ∧ Rd w' w'.heap.size 4 A' n (cellsOf l) ∧ Below w.heap.size w w' := by
  obtain ⟨i0, hi0, hz0, hz1, hz2⟩ := info_parts infoISeat
  have HI := Lib.hid hi0; have HZ0 := Lib.hid hz0; have HZ1 := Lib.hid hz1; have HZ2 := Lib.hid hz2
  clear hi0 hz0 hz1 hz2
  have HL := Lib.hid hr.len
  have HR := Lib.hid hr; clear hr
  go_enter Try.func16, Try.ntmps16
  go_wp2
  go_loopw [3, 8] (fun v i wr => ∃ (k : Nat) (A1 : Option Addr) (c1 : Nat), k ≤ n ∧ i = .int .i64 k ∧ v = .slice A1 k c1 ∧ Hid (wr.ownsRow w.heap.size 79 4 (.slice A1 k c1) k (cellsOf (l.take k))) ∧ Hid (Below w.heap.size w wr)) (fun _ i _ => n - (intOf i).toNat)
  case atStart => exact ⟨0, none, 0, Nat.zero_le _, rfl, rfl, World.ownsRow_nil w w.heap.size _ _, Below.refl _ _⟩
  case round =>
    obtain ⟨k, A1, c1, hk, rfl, rfl, HO, HB⟩ := hrel
    have hz := HB.out.size
    by_cases hlt : k < n
    · have hk' : k < l.length := by have := HL.out; omega
      have hx : l[k]? = some l[k] := List.getElem?_eq_getElem hk'
      obtain ⟨ad, rfl, _, c0, c1', c2, c3⟩ := (HR.out.below HB.out).seat hx
      have hst : l.take (k + 1) = l.take k ++ [l[k]] := List.take_succ_eq_append_getElem hk'
      generalize l[k] = x at *
      have HST := Lib.hid hst; have HXX := Lib.hid hx
      clear hst hx
      go_wp2_with (at_builtin; refine wpList_app _ rfl (.tmp 12) (.tmp 14) 39 rfl w.heap.size 79 i0 _ 4 48 Try.underlying39 HI.out HZ0.out HZ1.out HZ2.out rfl (by decide) (.slice A1 k c1) k (cellsOf (l.take k)) rfl ?ho (wr.heap.size + 1 + 1) (some ⟨wr.heap.size + 1, 0, none⟩) 1 1 x.cells rfl ?hr x.cells_one ?q1 ?q2 ?hb ?_; (case q1 => simp only [maxLen]; omega); (case q2 => omega); (case hr => exact Rd.new _ _ _ 4 1 _ rfl (by simp)); (case ho => exact (HO.out.alloc _).alloc _); (case hb => simp; omega); intro A2 c2 w2 hown2 hg2 _; rw [cellsOf_snoc] at hown2)
      go_roundw
      case rel => exact ⟨k + 1, A2, c2, by omega, by go_num, rfl, by rw [HST.out]; exact hown2, ((HB.out.alloc hz _).alloc (by simp; omega) _).grown hg2 (by simp; omega) (own_base HO.out)⟩
      case measure => simp [intOf]; omega
    · obtain rfl : k = n := by omega
      have h1 := HO.out
      rw [List.take_of_length_le (by have := HL.out; omega)] at h1
      have H1 := Lib.hid (Rd.of_own h1); clear h1
      go_wp2
      go_ret
      exact ⟨A1, c1, rfl, H1.out, HB.out⟩
end Go.Proofs.Ytikikddkhikfkaa
