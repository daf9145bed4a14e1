/-
  The row's proof lifted into the frame. For every slice of seats, and whatever else stands in memory while the package's sentinel reads as its initialiser lays it: FnMade answers true, and the slice reads behind the call as it did before: a new set is what the specification says, behind one turn, or it can't be made.
-/
import Derived.Test.YtikikddkhikfkaaGreatDoorCh24
import Derived.Test.YtikikddkhikfkaaGreatDoorTie
import Derived.Test.YtikikddkhikfkaaGreatDoorCards
import Derived.LaidMore
import Derived.LaidLaws
import Derived.OpenShut
import Derived.Stop.Joined
import Derived.SevenTiedAt
set_option linter.unusedSimpArgs false
namespace Go.Proofs.YtikikddkhikfkaaGreatDoor
open Go.ChangeShapes Go.WideShapes Go.ChangeAt Go.WideMaps Go.WideElems Go.RowKit

theorem gOver : Tryz.prog.globalNamed "validatorsandcommits/pub/comettypes.ErrTotalVotingPowerOverflow" = some 0 := by kernel_rfl
theorem tOver : (Tryz.prog.globals[0]?).map (·.type) = some 112 := by kernel_rfl
theorem door_over (os : Os) (args : Array Value) : laidMetH Tryz.prog Rows.fnMadeRow.laid ((World.doorLaid Tryz.prog 400 os).forCall (fun _ _ => 0) ⟨#[], args, []⟩).memory :=
  laidMetH_of_parts3 (fuel := 8) (laidMet_of_run' 8 (by kernel_rfl) (by kernel_rfl)) (by kernel_rfl) (by kernel_rfl)
/-- what the condition gives the walk: the sentinel is an error -/
theorem of_over {W : World} (h : laidMetH Tryz.prog Rows.fnMadeRow.laid W) : ∃ T v, W.cell? ⟨0, 0, none⟩ = some (.iface T v) := by
  rw [MakeChecks.laidMetH_plain _ _ _ (by kernel_rfl)] at h
  obtain ⟨ps, ⟨g0, t0, cs0, f0, p0, q0, hg0, ht0, hv0, hd0, _⟩, _, _⟩ := h
  obtain rfl := Option.some.inj (gOver.symm.trans hg0)
  obtain rfl := Option.some.inj (tOver.symm.trans ht0)
  obtain ⟨f', u, v, hcs, _, _⟩ := iface_of_trod Tryz.underlying112 hd0
  have := World.var?_cell hg0 hv0 0
  rw [Array.eq_one_of_toList hcs] at this
  exact ⟨u, v, by simpa using this⟩

set_option maxRecDepth 100000 in
theorem fnMade_lifted (os : Os) (started : os.Started) (H : Type) (enc : TypeId × Value → H) :
    ReturnsInHanded {} Tryz.checked os 4 .any (fun w args => (Rows.fnMadeSpec.pre enc Tryz.prog Tryz.f4 [] false w args ∧ laidMetH Tryz.prog Rows.fnMadeRow.laid w) ∧ sizedMet enc Tryz.prog Tryz.f4 (OpenSpec.ofChange Rows.fnMadeSpec) false w args)
      (Rows.fnMadeSpec.post enc Tryz.prog Tryz.f4 false true false false) := by
  refine returnsInHanded_of_change_and (C := Tryz.checked) (X := fun w _ => laidMetH Tryz.prog Rows.fnMadeRow.laid w) (fun _ _ _ hh h => h.of_heap hh) Tryz.own started (by kernel_rfl) Tryz.func4
    (ChangeSpec.witness_shaped (enc := enc) (C := Tryz.checked) (os := os) (X := fun w _ => laidMetH Tryz.prog Rows.fnMadeRow.laid w) false (World.doorLaid Tryz.prog 400 os) #[.slice none 0 0] 8 rfl (World.shaped_of_RefB (by kernel_rfl) (by kernel_rfl)) (by kernel_rfl) (by kernel_rfl) (by kernel_rfl) (door_over os _)) ?_
  intro W base args ds gs before hval0 hW _ _ hL _
  have hval : ∀ (j : Nat) t v, Tryz.f4.params[j]? = some t → args[j]? = some v → Value.okWide Tryz.prog W .any base t v := hval0
  have hW' := hW
  obtain ⟨p, q, hA0, hV, rfl, hfz, hnd⟩ := hW
  have hA : DataW.TrodAll enc Tryz.prog W 0 (fun _ => true) true Tryz.f4.params.toList args.toList ds p := hA0
  have hA1 := hA
  rw [Tryz.params4] at hA hval
  obtain ⟨v0, d0, rfl, rfl, h0⟩ := trodAll_one hA
  obtain ⟨rfl, rfl⟩ := trodVars_none hV
  obtain ⟨A, n, c, l, rfl, hnc, hcm, hr, hl⟩ := open_seats (okWide_slice Tryz.underlying22 (hval 0 22 v0 rfl rfl)) h0
  obtain ⟨T0, u0, hG⟩ := of_over hL
  clear hA0 hval0 hA
  simp only [List.append_nil] at hW' hA1
  refine (fnMade_any l A n c W hr hnc hcm hl T0 u0 hG).mono fun e W' ⟨he, hw⟩ => ?_
  subst he
  exact ⟨_, rfl, post_true (tb := 4) Tryz.laidOut rfl Tryz.underlying4 rfl rfl (by kernel_rfl) hW' hA1 hw⟩
end Go.Proofs.YtikikddkhikfkaaGreatDoor
