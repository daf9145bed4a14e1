/-
  laws.same at one and the same list: walks. By the session.
-/
import Derived.Test.YtikikddkhikfkaaBack
namespace Go.Proofs.Ytikikddkhikfkaa
open Go.RowKit

set_option maxHeartbeats 400000 in
theorem cl_same (x : Sd) (w : World) :
    Calls Try.prog 42 #[.agg #[.string x.adr, .string x.key, .int .i64 x.pow, .int .i64 x.pri], .agg #[.string x.adr, .string x.key, .int .i64 x.pow, .int .i64 x.pri]] w fun e w' => e = .returned (.bool true) ∧ Below w.heap.size w w' := by
  go_enter Try.func42, Try.ntmps42
  go_wp2
  go_ret
  exact ⟨rfl, ((Below.refl _ _).alloc (Nat.le_refl _) _).alloc (by simp) _⟩

set_option maxHeartbeats 800000 in
theorem equal_same (l : List Sd) (A B : Option Addr) (n c d : Nat) (w : World) (hr : Rd w w.heap.size 4 A n (cellsOf l)) (hs : Rd w w.heap.size 4 B n (cellsOf l)) (hn : n ≤ 1000000) :
    Calls Try.prog 41 #[.slice A n c, .slice B n d, .func (.func 42) #[] #[]] w fun e w' => e = .returned (.bool true) ∧ Below w.heap.size w w' := by
  have HL := Lib.hid hr.len
  have HR := Lib.hid hr; have HS := Lib.hid hs; clear hr hs
  go_enter Try.func41, Try.ntmps41
  go_wp2
  go_loopw [17] (fun i wr => ∃ k : Nat, k ≤ n ∧ i = .int .i64 k ∧ Hid (Below w.heap.size w wr)) (fun i _ => n - (intOf i).toNat)
  case atStart => exact ⟨0, Nat.zero_le _, rfl, Below.refl _ _⟩
  case round =>
    obtain ⟨k, hk, rfl, HB⟩ := hrel
    have hz := HB.out.size
    by_cases hlt : k < n
    · have hk' : k < l.length := by have := HL.out; omega
      have hx : l[k]? = some l[k] := List.getElem?_eq_getElem hk'
      obtain ⟨ad, rfl, ha, c0, c1, c2, c3⟩ := (HR.out.below HB.out).seat hx
      obtain ⟨bd, rfl, hb, e0, e1, e2, e3⟩ := (HS.out.below HB.out).seat hx
      generalize l[k] = x at *
      clear hx
      have hb2 : (bd.add (k * 4)).block < wr.heap.size := by rw [add_block]; omega
      have E0 := fun o => (World.cell?_alloc_lt wr o (bd.add (k * 4)) hb2).trans e0
      have E1 := fun o => (World.cell?_alloc_lt wr o ⟨(bd.add (k * 4)).block, (bd.add (k * 4)).off + 1, none⟩ hb2).trans e1
      have E2 := fun o => (World.cell?_alloc_lt wr o ⟨(bd.add (k * 4)).block, (bd.add (k * 4)).off + 2, none⟩ hb2).trans e2
      have E3 := fun o => (World.cell?_alloc_lt wr o ⟨(bd.add (k * 4)).block, (bd.add (k * 4)).off + 3, none⟩ hb2).trans e3
      clear e0 e1 e2 e3 ha hb hb2
      go_wp2_with (go_at_call 42; refine (cl_same x _).mono ?_; rintro e w1 ⟨rfl, hb1⟩)
      go_roundw
      case rel => exact ⟨k + 1, by omega, by go_num, HB.out.trans ((((Below.refl _ _).alloc (Nat.le_refl _) _).alloc (by simp) _ |>.trans (hb1.mono (by simp; omega))).mono hz)⟩
      case measure => simp [intOf]; omega
    · obtain rfl : k = n := by omega
      go_wp2
      go_ret
      exact ⟨rfl, HB.out⟩

theorem same_any (l : List Sd) (A B : Option Addr) (n c d : Nat) (w : World) (hr : Rd w w.heap.size 4 A n (cellsOf l)) (hs : Rd w w.heap.size 4 B n (cellsOf l)) (hn : n ≤ 1000000) :
    Calls Try.prog 14 #[.slice A n c, .slice B n d] w fun e w' => e = .returned (.bool true) ∧ Below w.heap.size w w' := by
  have HC := Lib.hid (equal_same l A B n c d w hr hs hn)
  clear hr hs
  go_enter Try.func14, Try.ntmps14
  go_wp2_with (go_at_call 41; refine HC.out.mono ?_; rintro e w1 ⟨rfl, hb1⟩)
  go_ret
  exact ⟨rfl, hb1⟩
end Go.Proofs.Ytikikddkhikfkaa
