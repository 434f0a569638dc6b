/- laws.FnShortened: the closed facts of its row. -/
import Derived.Test.YtcmeaogbfecjkaaGreatDoorRows
import Derived.ProofKit
import Derived.JoinedOf
namespace Go.Proofs.YtcmeaogbfecjkaaGreatDoor
open Go.ChangeShapes Go.WideShapes Go.ChangeAt Go.RowKit

theorem joined3 : joinedFacts Tryz.pinned.checked.prog 3 Tryz.f3 Rows.fnShortenedSpec Rows.fnShortenedRow = true := by kernel_rfl
end Go.Proofs.YtcmeaogbfecjkaaGreatDoor
