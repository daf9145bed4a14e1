/-
  The row's proof lifted into the frame. For every slice of seats, while the package's table of round constants reads as its initialiser lays it: FnTold answers true, and the slice reads behind the call as it did before: a set's power is that of all, its proposer the one that is ahead, its sum that of keys and powers.
-/
import Derived.Test.YtikikddkhikfkaaDoorTo30
set_option linter.unusedSimpArgs false
namespace Go.Proofs.YtikikddkhikfkaaDoor
open Go.ChangeShapes Go.WideShapes Go.ChangeAt Go.WideMaps Go.WideElems Go.RowKit

theorem door_told (os : Os) (args : Array Value) : laidMetH Tryd.prog Rows.fnToldRow.laid ((World.doorLaid Tryd.prog 400 os).forCall (fun _ _ => 0) ⟨#[], args, []⟩).memory :=
  laidMetH_of_parts3 (fuel := 8) (laidMet_of_run' 8 (by kernel_rfl) (by kernel_rfl)) (by kernel_rfl) (by kernel_rfl)
theorem of_told {W : World} (h : laidMetH Tryd.prog Rows.fnToldRow.laid W) : Kw W := by
  rw [MakeChecks.laidMetH_plain _ _ _ (by kernel_rfl)] at h
  exact kw_of h

set_option maxRecDepth 100000 in
theorem fnTold_lifted (os : Os) (started : os.Started) (H : Type) (enc : TypeId × Value → H) :
    ReturnsInHanded {} Tryd.checked os 4 .any (fun w args => (Rows.fnToldSpec.pre enc Tryd.prog Tryd.f4 [] false w args ∧ laidMetH Tryd.prog Rows.fnToldRow.laid w) ∧ sizedMet enc Tryd.prog Tryd.f4 (OpenSpec.ofChange Rows.fnToldSpec) false w args)
      (Rows.fnToldSpec.post enc Tryd.prog Tryd.f4 false true false false) := by
  refine returnsInHanded_of_change_and (C := Tryd.checked) (X := fun w _ => laidMetH Tryd.prog Rows.fnToldRow.laid w) (fun _ _ _ hh h => h.of_heap hh) Tryd.own started (by kernel_rfl) Tryd.func4
    (ChangeSpec.witness_shaped (enc := enc) (C := Tryd.checked) (os := os) (X := fun w _ => laidMetH Tryd.prog Rows.fnToldRow.laid w) false (World.doorLaid Tryd.prog 400 os) #[.slice none 0 0] 8 rfl (World.shaped_of_RefB (by kernel_rfl) (by kernel_rfl)) (by kernel_rfl) (by kernel_rfl) (by kernel_rfl) (door_told os _)) ?_
  intro W base args ds gs before hval0 hW _ _ hL _
  have hval : ∀ (j : Nat) t v, Tryd.f4.params[j]? = some t → args[j]? = some v → Value.okWide Tryd.prog W .any base t v := hval0
  have hW' := hW
  obtain ⟨p, q, hA0, hV, rfl, hfz, hnd⟩ := hW
  have hA : DataW.TrodAll enc Tryd.prog W 0 (fun _ => true) true Tryd.f4.params.toList args.toList ds p := hA0
  have hA1 := hA
  rw [Tryd.params4] at hA hval
  obtain ⟨v0, d0, rfl, rfl, h0⟩ := trodAll_one hA
  obtain ⟨rfl, rfl⟩ := trodVars_none hV
  obtain ⟨A, n, c, l, rfl, hnc, hcm, hr, hl⟩ := open_seats (okWide_slice Tryd.underlying49 (hval 0 49 v0 rfl rfl)) h0
  have hK := of_told hL
  clear hA0 hval0 hA
  simp only [List.append_nil] at hW' hA1
  refine (fnTold_any l A n c W hr hnc hcm hl hK).mono fun e W' ⟨he, hw⟩ => ?_
  subst he
  exact ⟨_, rfl, post_true (tb := 4) Tryd.laidOut rfl Tryd.underlying4 rfl rfl (by kernel_rfl) hW' hA1 hw⟩
end Go.Proofs.YtikikddkhikfkaaDoor
