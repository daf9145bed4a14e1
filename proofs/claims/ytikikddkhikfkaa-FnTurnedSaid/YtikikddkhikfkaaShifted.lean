/-
  spec.Shifted: the walk. By the session.
-/
import Derived.Test.YtikikddkhikfkaaAvg2
set_option linter.unusedSimpArgs false
namespace Go.Proofs.Ytikikddkhikfkaa
open Go.RowKit

set_option maxRecDepth 100000 in
set_option maxHeartbeats 3200000 in
theorem shifted_any (l : List Sd) (A : Option Addr) (n c : Nat) (w : World) (hr : Rd w w.heap.size 4 A n (cellsOf l)) (hn : n ≤ 1000) (hn0 : 0 < n) (hp : ∀ x ∈ l, -4611686018427387904 ≤ x.pri ∧ x.pri ≤ 4611686018427387904) :
    Calls Try.prog 49 #[.slice A n c] w fun e w' => ∃ A' c', e = .returned (.slice A' n c') ∧ w'.ownsRow w.heap.size 49 4 (.slice A' n c') n (cellsOf (shiftL l)) ∧ Below w.heap.size w w' := by
  obtain ⟨i0, hi, hz0, hz1, hz2⟩ := info_parts infoSeat
  have HI := Lib.hid hi; have HZ0 := Lib.hid hz0; have HZ1 := Lib.hid hz1; have HZ2 := Lib.hid hz2
  clear hi hz0 hz1 hz2
  have hln := hr.len
  have hz : ((n : Int) == 0) = false := by simp; omega
  have hab : -4611686018427387904 ≤ avgL l ∧ avgL l ≤ 4611686018427387904 := avgL_bd l (by rintro rfl; simp at hln; omega) _ hp
  have HL := Lib.hid hln; have HR := Lib.hid hr; have HP := Lib.hid hp; clear hr hp hln
  have hsh : shiftL l = l.map (subP (avgL l)) := rfl
  have HSH := Lib.hid hsh; clear hsh
  go_enter Try.func49, Try.ntmps49
  go_wp2_with (at_builtin; refine wpList_app w rfl (.const (.slice none 0 0)) (.tmp 6) 41 rfl w.heap.size 49 i0 _ 4 48 Try.underlying41 HI.out HZ0.out HZ1.out HZ2.out rfl (by decide) (.slice none 0 0) 0 [] rfl (World.ownsRow_nil w w.heap.size _ _) w.heap.size A n c (cellsOf l) rfl HR.out (cellsOf_one l) ?q1 ?q2 (Nat.le_refl _) ?_; (case q1 => simp only [maxLen]; omega); (case q2 => omega); intro A1 c1 w1 hown hg _; simp only [Nat.zero_add, List.nil_append] at hown; have HO := Lib.hid hown; have HB := Lib.hid ((Below.refl w.heap.size w).grown hg (Nat.le_refl _) (by simp [Value.ownBlock])); clear hown hg)
  have KC := Lib.hid (average_any l A n c w1 ((HR.out.below HB.out).more HB.out.size) hn hn0 HP.out)
  generalize avgL l = av at *
  refine KC.out.mono ?_
  rintro e w2 ⟨rfl, hb2⟩
  have ho2 := own_below HO.out hb2 (Nat.le_refl _)
  have HO2 := Lib.hid ho2; have HB2 := Lib.hid (HB.out.trans (hb2.mono HB.out.size)); clear ho2 hb2
  have hneg : wrap64 (-av) = -av := by unfold wrap64; omega
  go_wp2
  go_loopw [16] (fun i wx => ∃ j : Nat, j ≤ n ∧ i = .int .i64 j ∧ Hid (wx.ownsRow w.heap.size 49 4 (.slice A1 n c1) n (cellsOf (mapTo (subP av) l j))) ∧ Hid (Below w.heap.size w wx)) (fun i _ => n - (intOf i).toNat)
  case atStart => exact ⟨0, Nat.zero_le _, rfl, by rw [mapTo_zero]; exact HO2.out, HB2.out⟩
  case round =>
    obtain ⟨j, hj, rfl, HO3, HB3⟩ := hrel
    by_cases hjk : j < n
    · have hjl : j < l.length := by have := HL.out; omega
      have hx : l[j]? = some l[j] := List.getElem?_eq_getElem hjl
      have hx' := mapTo_get (subP av) l j _ hx
      have hsu := mapTo_succ (subP av) l j _ hx
      have hpx := HP.out _ (List.getElem_mem hjl)
      generalize l[j] = x at *
      obtain ⟨g, cap, hv, hg0, hg1⟩ := HO3.out.form (by omega)
      have e1 : A1 = some ⟨g, 0, none⟩ := by injection hv
      subst e1
      clear hv
      obtain ⟨x0, x1, x2, x3⟩ := own_seat HO3.out hx'
      have hf := own_free HO3.out
      have hset := own_pri (q := clip (x.pri + -av)) HO3.out hx'
      have e2 : (mapTo (subP av) l j).set j { x with pri := clip (x.pri + -av) } = mapTo (subP av) l (j + 1) := hsu
      rw [e2] at hset
      have KP := Lib.hid (fun W => plus_any x.pri (-av) W ⟨by omega, by omega⟩ ⟨by omega, by omega⟩)
      have HSET := Lib.hid hset; clear hset e2 hsu x0 x1 x2 hx hx'
      generalize clip (x.pri + -av) = q at *
      go_wp2_with (go_at_call 50; refine (KP.out _).mono ?_; rintro e w5 ⟨rfl, rfl⟩)
      go_roundw
      case rel => exact ⟨j + 1, by omega, by go_num, HSET.out, HB3.out.setCell (p := ⟨g, j * 4 + 3, none⟩) hg0 _⟩
      case measure => simp [intOf]; omega
    · have hfin := HO3.out
      rw [mapTo_full _ _ _ (by have := HL.out; omega)] at hfin
      have HF := Lib.hid hfin; clear hfin
      go_wp2
      go_ret
      rw [HSH.out]
      exact ⟨A1, c1, rfl, HF.out, HB3.out⟩
end Go.Proofs.Ytikikddkhikfkaa
