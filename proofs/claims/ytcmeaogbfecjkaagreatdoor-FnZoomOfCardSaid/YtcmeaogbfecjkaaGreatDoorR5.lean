/- laws.FnZoomOf: the closed facts of its row. -/
import Derived.Test.YtcmeaogbfecjkaaGreatDoorRows
import Derived.ProofKit
import Derived.JoinedOf
namespace Go.Proofs.YtcmeaogbfecjkaaGreatDoor
open Go.ChangeShapes Go.WideShapes Go.ChangeAt Go.RowKit

theorem joined4 : joinedFacts Tryz.pinned.checked.prog 4 Tryz.f4 Rows.fnZoomOfSpec Rows.fnZoomOfRow = true := by kernel_rfl
end Go.Proofs.YtcmeaogbfecjkaaGreatDoor
