/- laws.FnBoxOf: the closed facts of its row. -/
import Derived.Test.YtcmeaogbfecjkaaGreatDoorRows
import Derived.ProofKit
import Derived.JoinedOf
namespace Go.Proofs.YtcmeaogbfecjkaaGreatDoor
open Go.ChangeShapes Go.WideShapes Go.ChangeAt Go.RowKit

theorem joined5 : joinedFacts Tryz.pinned.checked.prog 5 Tryz.f5 Rows.fnBoxOfSpec Rows.fnBoxOfRow = true := by kernel_rfl
end Go.Proofs.YtcmeaogbfecjkaaGreatDoor
