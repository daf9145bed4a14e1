/-
  types.SetOf: the walk. By the session.
-/
import Derived.Test.YtikikddkhikfkaaDoorRows
import Derived.Test.YtikikddkhikfkaaDoorPa1
import Derived.Test.YtikikddkhikfkaaDoorPa5
import Derived.Test.YtikikddkhikfkaaDoorPa21
set_option linter.unusedSimpArgs false
namespace Go.Proofs.YtikikddkhikfkaaDoor
open Go.RowKit

theorem infoPVal : (Tryd.prog.info? 147).map (fun i => (i.zero, i.size, i.bytes)) = some (some (.pointer none), 1, 8) := by kernel_rfl

end Go.Proofs.YtikikddkhikfkaaDoor
