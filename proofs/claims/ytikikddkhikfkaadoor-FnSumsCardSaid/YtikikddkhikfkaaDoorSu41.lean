/-
  The row's proof lifted into the frame. For every commit and every header, while the package's table of round constants reads as its initialiser lays it: FnSums answers true, and both read behind the call as they did before: a commit's sum is that of all that is said, a header's that of its fields.
-/
import Derived.Test.YtikikddkhikfkaaDoorSu35
import Derived.Test.YtikikddkhikfkaaDoorSu40
set_option linter.unusedSimpArgs false
namespace Go.Proofs.YtikikddkhikfkaaDoor
open Go.ChangeShapes Go.WideShapes Go.ChangeAt Go.WideMaps Go.WideElems Go.RowKit

theorem door_sums (os : Os) (args : Array Value) : laidMetH Tryd.prog Rows.fnSumsRow.laid ((World.doorLaid Tryd.prog 400 os).forCall (fun _ _ => 0) ⟨#[], args, []⟩).memory :=
  laidMetH_of_parts3 (fuel := 8) (laidMet_of_run' 8 (by kernel_rfl) (by kernel_rfl)) (by kernel_rfl) (by kernel_rfl)
theorem of_sums {W : World} (h : laidMetH Tryd.prog Rows.fnSumsRow.laid W) : Kw W := by
  rw [MakeChecks.laidMetH_plain _ _ _ (by kernel_rfl)] at h
  exact kw_of h

set_option maxRecDepth 100000 in
theorem fnSums_lifted (os : Os) (started : os.Started) (H : Type) (enc : TypeId × Value → H) :
    ReturnsInHanded {} Tryd.checked os 3 .any (fun w args => (Rows.fnSumsSpec.pre enc Tryd.prog Tryd.f3 [] false w args ∧ laidMetH Tryd.prog Rows.fnSumsRow.laid w) ∧ sizedMet enc Tryd.prog Tryd.f3 (OpenSpec.ofChange Rows.fnSumsSpec) false w args)
      (Rows.fnSumsSpec.post enc Tryd.prog Tryd.f3 false true false false) := by
  refine returnsInHanded_of_change_and (C := Tryd.checked) (X := fun w _ => laidMetH Tryd.prog Rows.fnSumsRow.laid w) (fun _ _ _ hh h => h.of_heap hh) Tryd.own started (by kernel_rfl) Tryd.func3
    (ChangeSpec.witness_shaped (enc := enc) (C := Tryd.checked) (os := os) (X := fun w _ => laidMetH Tryd.prog Rows.fnSumsRow.laid w) false (World.doorLaid Tryd.prog 400 os) #[.agg #[.int .i64 0, .int .i64 0, .slice none 0 0, .int .i64 0, .slice none 0 0, .slice none 0 0], .agg #[.int .i64 0, .int .i64 0, .string ByteArray.empty, .int .i64 0, .int .i64 0, .int .i64 0, .slice none 0 0, .int .i64 0, .slice none 0 0, .slice none 0 0, .slice none 0 0, .slice none 0 0, .slice none 0 0, .slice none 0 0, .slice none 0 0, .slice none 0 0, .slice none 0 0, .string ByteArray.empty]] 8 rfl (World.shaped_of_RefB (by kernel_rfl) (by kernel_rfl)) (by kernel_rfl) (by kernel_rfl) (by kernel_rfl) (door_sums os _)) ?_
  intro W base args ds gs before hval0 hW _ _ hL _
  have hval : ∀ (j : Nat) t v, Tryd.f3.params[j]? = some t → args[j]? = some v → Value.okWide Tryd.prog W .any base t v := hval0
  have hW' := hW
  obtain ⟨p, q, hA0, hV, rfl, hfz, hnd⟩ := hW
  have hA : DataW.TrodAll enc Tryd.prog W 0 (fun _ => true) true Tryd.f3.params.toList args.toList ds p := hA0
  have hA1 := hA
  rw [Tryd.params3] at hA hval
  obtain ⟨v0, v1, d0, d1, p0, p1, rfl, rfl, rfl, h0, h1⟩ := trodAll_two hA
  obtain ⟨rfl, rfl⟩ := trodVars_none hV
  obtain ⟨⟨hgt, rnd, b, A, n, c, l⟩, rfl, hfit, hok⟩ := open_commit (hval 0 27 v0 rfl rfl) h0
  obtain ⟨y, ver, app, hh, sec, nan, parts, rfl, hg, hy⟩ := open_header (hval 1 32 v1 rfl rfl) h1
  have hK := of_sums hL
  clear hA0 hval0 hA
  simp only [List.append_nil] at hW' hA1
  refine (fnSums_any hgt rnd b A n c l y ver app hh sec nan parts W hok hfit hy hg hK).mono fun e W' ⟨he, hw⟩ => ?_
  subst he
  exact ⟨_, rfl, post_true (tb := 4) Tryd.laidOut rfl Tryd.underlying4 rfl rfl (by kernel_rfl) hW' hA1 hw⟩
end Go.Proofs.YtikikddkhikfkaaDoor
