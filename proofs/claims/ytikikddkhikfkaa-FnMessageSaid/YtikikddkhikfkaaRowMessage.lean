/-
  FnMessage: what is signed of a commit is its kind, height, round, block or none, the time and the chain, as a message behind the number of its bytes: the statement.
-/
import Derived.Test.YtikikddkhikfkaaLawMessage
set_option linter.all false
namespace Go.Proofs.Ytikikddkhikfkaa
open Go.ChangeShapes Go.WideShapes Go.ChangeAt Go.RowKit Go.ChangeMaps

set_option maxRecDepth 100000 in
theorem fnMessage_lifted (os : Os) (started : os.Started) (H : Type) (enc : TypeId × Value → H) :
    ReturnsInHanded {} Try.checked os 3 .any (Rows.fnMessageSpec.pre6 enc Try.prog Try.f3 Rows.fnMessageRow.domain false) (Rows.fnMessageSpec.post enc Try.prog Try.f3 false true false false) := by
  refine returnsInHanded_of_change (C := Try.checked) Try.own started (by kernel_rfl) Try.func3
    (ChangeSpec.witness6 (enc := enc) (C := Try.checked) false ⟨#[], #[.string ByteArray.empty, .agg #[.int .i64 0, .int .i64 0, .slice none 0 0, .int .i64 0, .slice none 0 0, .slice none 0 0], .int .i64 0], []⟩ 8 (by kernel_rfl) (by kernel_rfl) (by kernel_rfl) (by kernel_rfl)) ?_
  intro W base args ds gs before hval0 hW hcnd _
  have hval : ∀ (j : Nat) t v, Try.f3.params[j]? = some t → args[j]? = some v → Value.okWide Try.prog W .any base t v := hval0
  have hW' := hW
  obtain ⟨p, q, hA0, hV, rfl, hfz, hnd⟩ := hW
  have hA : DataW.TrodAll enc Try.prog W 0 (fun _ => true) true Try.f3.params.toList args.toList ds p := hA0
  have hA1 := hA
  rw [Try.params3] at hA hval
  obtain ⟨v0, v1, v2, d0, d1, d2, p0, p1, p2, rfl, rfl, rfl, h0, h1, h2⟩ := trodAll_three hA
  obtain ⟨rfl, rfl⟩ := trodVars_none hV
  obtain ⟨ch, rfl, rfl, rfl, hch⟩ := open_string Try.underlying9 (hval 0 9 v0 rfl rfl) h0
  obtain ⟨⟨hgt, rnd, b, A, n, c, l⟩, rfl, hfit, hok⟩ := open_commit (hval 1 27 v1 rfl rfl) h1
  obtain ⟨pl, rfl, rfl, rfl, wb⟩ := open_int Try.underlying3 (hval 2 3 v2 rfl rfl) h2
  clear hA0 hval0 hA
  simp only [List.append_nil] at hW' hA1
  refine (fnMessage_any ch hgt rnd b A n c l pl W hch hok hfit (wf64 wb)).mono fun e W' ⟨he, hw⟩ => ?_
  subst he
  exact ⟨_, rfl, post_true (tb := 4) Try.laidOut rfl Try.underlying4 rfl rfl (by kernel_rfl) hW' hA1 hw⟩

theorem fnMessage_holds : Rows.FnMessageSaid :=
  OpenClaim.holds_of_wide 3 Try.f3 rfl rfl rfl rfl rfl rfl rfl ⟨rfl, rfl, rfl, rfl, rfl⟩ rfl rfl rfl rfl rfl (by kernel_rfl) Try.func3 (by kernel_rfl)
    (of_decide_eq_true (by kernel_rfl)) (by unfold Func.isWrapper; first | (rw [if_pos (by decide +kernel)]; kernel_rfl) | (rw [if_neg (by decide +kernel)]; exact ⟨rfl, rfl⟩))
    (fun os started H enc _ => fnMessage_lifted os started H enc)
#print axioms fnMessage_holds
end Go.Proofs.Ytikikddkhikfkaa
