/-
  laws.theirs, slices.Clone of seats: walks. By the session.
-/
import Derived.Test.YtikikddkhikfkaaGreatDoorCh3
import Derived.Lib.MinMax
set_option linter.all false
namespace Go.Proofs.YtikikddkhikfkaaGreatDoor
open Go.RowKit

set_option maxHeartbeats 800000 in
theorem theirs_any (l : List Sd) (A : Option Addr) (n c : Nat) (w : World) (hr : Rd w w.heap.size 4 A n (cellsOf l)) (hn : n ≤ 1000000) :
    Calls Tryz.prog 13 #[.slice A n c] w fun e w' => ∃ A' c', e = .returned (.slice A' n c') ∧ w'.ownsRow w.heap.size 57 4 (.slice A' n c') n (cellsOf l) ∧ Below w.heap.size w w' := by
  obtain ⟨i0, hi0, hz0, hz1, hz2⟩ := info_parts infoSeat
  have HI := Lib.hid hi0; have HZ0 := Lib.hid hz0; have HZ1 := Lib.hid hz1; have HZ2 := Lib.hid hz2
  clear hi0 hz0 hz1 hz2
  have HL := Lib.hid hr.len
  have HR := Lib.hid hr; clear hr
  go_enter Tryz.func13, Tryz.ntmps13
  go_wp2
  go_loopw [3, 8] (fun v i wr => ∃ (k : Nat) (A1 : Option Addr) (c1 : Nat), k ≤ n ∧ i = .int .i64 k ∧ v = .slice A1 k c1 ∧ Hid (wr.ownsRow w.heap.size 57 4 (.slice A1 k c1) k (cellsOf (l.take k))) ∧ Hid (Below w.heap.size w wr)) (fun _ i _ => n - (intOf i).toNat)
  case atStart => exact ⟨0, none, 0, Nat.zero_le _, rfl, rfl, World.ownsRow_nil w w.heap.size _ _, Below.refl _ _⟩
  case round =>
    obtain ⟨k, A1, c1, hk, rfl, rfl, HO, HB⟩ := hrel
    have hz := HB.out.size
    by_cases hlt : k < n
    · have hk' : k < l.length := by have := HL.out; omega
      have hx : l[k]? = some l[k] := List.getElem?_eq_getElem hk'
      obtain ⟨ad, rfl, _, c0, c1', c2, c3⟩ := (HR.out.below HB.out).seat hx
      have hst : l.take (k + 1) = l.take k ++ [l[k]] := List.take_succ_eq_append_getElem hk'
      generalize l[k] = x at *
      have HST := Lib.hid hst; have HXX := Lib.hid hx
      clear hst hx
      go_wp2_with (at_builtin; refine wpList_app _ rfl (.tmp 12) (.tmp 14) 24 rfl w.heap.size 57 i0 _ 4 48 Tryz.underlying24 HI.out HZ0.out HZ1.out HZ2.out rfl (by decide) (.slice A1 k c1) k (cellsOf (l.take k)) rfl ?ho (wr.heap.size + 1 + 1) (some ⟨wr.heap.size + 1, 0, none⟩) 1 1 x.cells rfl ?hr x.cells_one ?q1 ?q2 ?hb ?_; (case q1 => simp only [maxLen]; omega); (case q2 => omega); (case hr => exact Rd.new _ _ _ 4 1 _ rfl (by simp)); (case ho => exact (HO.out.alloc _).alloc _); (case hb => simp; omega); intro A2 c2 w2 hown2 hg2 _; rw [cellsOf_snoc] at hown2)
      go_roundw
      case rel => exact ⟨k + 1, A2, c2, by omega, by go_num, rfl, by rw [HST.out]; exact hown2, ((HB.out.alloc hz _).alloc (by simp; omega) _).grown hg2 (by simp; omega) (own_base HO.out)⟩
      case measure => simp [intOf]; omega
    · obtain rfl : k = n := by omega
      have h1 := HO.out
      rw [List.take_of_length_le (by have := HL.out; omega)] at h1
      have H1 := Lib.hid h1; clear h1
      go_wp2
      go_ret
      exact ⟨A1, c1, rfl, H1.out, HB.out⟩
set_option maxRecDepth 100000 in
set_option maxHeartbeats 800000 in
theorem sclone_any (l : List Sd) (A : Option Addr) (n c : Nat) (w : World) (hr : Rd w w.heap.size 4 A n (cellsOf l)) (hn : n ≤ 1000000) :
    Calls Tryz.prog 9 #[.slice A n c] w fun e w' => ∃ A' c', e = .returned (.slice A' n c') ∧ w'.ownsRow w.heap.size 28 4 (.slice A' n c') n (cellsOf l) ∧ Below w.heap.size w w' := by
  obtain ⟨i0, hi0, hz0, hz1, hz2⟩ := info_parts infoISeat
  have HI := Lib.hid hi0; have HZ0 := Lib.hid hz0; have HZ1 := Lib.hid hz1; have HZ2 := Lib.hid hz2
  clear hi0 hz0 hz1 hz2
  have HR := Lib.hid hr
  have hnil := fun W A => Lib.run_eql_slice_nil (P := Tryz.prog) W 22 28 A n c 0 0 Tryz.underlying22
  cases A with
  | none =>
    have hn0 : n = 0 := by
      rcases Nat.eq_zero_or_pos n with h | h
      · exact h
      · have hl : 0 < (cellsOf l).length := by rw [hr.1]; omega
        obtain ⟨ad, h, _⟩ := hr.2 0 _ (List.getElem?_eq_getElem hl)
        cases h
    subst hn0
    have hnil := hnil
    have hl0 : cellsOf l = [] := List.eq_nil_of_length_eq_zero (by simpa using hr.1)
    have HL0 := Lib.hid hl0
    clear hr hl0
    go_enter Tryz.func9, Tryz.ntmps9
    go_wp2
    go_ret
    exact ⟨none, 0, rfl, by rw [HL0.out]; exact World.ownsRow_nil _ _ _ _, Below.refl _ _⟩
  | some ad =>
    clear hr
    go_enter Tryz.func9, Tryz.ntmps9
    go_wp2_with (at_builtin; refine wpList_app _ rfl (.tmp 5) (.tmp 6) 22 rfl w.heap.size 28 i0 _ 4 48 Tryz.underlying22 HI.out HZ0.out HZ1.out HZ2.out rfl (by decide) (.slice (some ⟨w.heap.size, 0, none⟩) 0 0) 0 [] rfl ?ho w.heap.size (some ad) n c (cellsOf l) rfl ?hr (cellsOf_one l) ?q1 ?q2 ?hb ?_; (case q1 => simp only [maxLen]; omega); (case q2 => omega); (case hr => exact Rd.below HR.out ((Below.refl _ _).alloc (Nat.le_refl _) _)); (case ho => exact World.ownsRow_made w #[] 0 (Nat.le_refl _) (by decide) rfl); (case hb => simp); intro A2 c2 w2 hown2 hg2 _; simp only [Nat.zero_add, List.nil_append] at hown2 hg2 ⊢)
    go_ret
    exact ⟨A2, c2, rfl, hown2, ((Below.refl _ _).alloc (Nat.le_refl _) _).grown hg2 (by simp) (fun k hk => by simp [Value.ownBlock] at hk; omega)⟩
end Go.Proofs.YtikikddkhikfkaaGreatDoor
