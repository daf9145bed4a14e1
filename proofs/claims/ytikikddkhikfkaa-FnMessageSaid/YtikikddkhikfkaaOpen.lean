/-
  How an argument that is a commit opens. By the session.
-/
import Derived.Test.YtikikddkhikfkaaSign
import Derived.WideShapes
import Derived.ChangeMaps5
set_option linter.all false
namespace Go.Proofs.Ytikikddkhikfkaa
open Go.ChangeShapes Go.WideShapes Go.ChangeAt Go.RowKit

def comAgg (x : Cm) : Value := .agg #[.int .i64 x.height, .int .i64 x.round, .slice x.blk.S x.blk.sum.length x.blk.sc, .int .i64 x.blk.parts, .slice x.blk.R x.blk.root.length x.blk.rc, .slice x.A x.n x.c]
set_option maxRecDepth 100000 in
theorem open_commit {H : Type} {enc : TypeId × Value → H} {W : World} {r : Reach} {b0 : Nat} {v : Value} {d : DataW H} {p : List MemPlace} (hv : Value.okWide Try.prog W r b0 27 v) (h : DataW.Trod enc Try.prog W 0 (fun _ => true) true 27 v d p) :
    ∃ x : Cm, v = comAgg x ∧ x.fits ∧ x.ok W W.heap.size := by
  obtain ⟨cs, rfl, hsz⟩ := okWide_struct Try.underlying27 hv
  obtain ⟨fuel, h⟩ := h
  obtain ⟨x, h1, h2, h3⟩ := commit_reads h
  refine ⟨x, ?_, h2, h3⟩
  have e : cs.toList = x.cells := h1
  have e2 : cs = x.cells.toArray := by rw [← e]
  rw [e2]
  rfl
end Go.Proofs.Ytikikddkhikfkaa
