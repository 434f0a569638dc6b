/-
  DERIVED. GIVEN WITH THE SEED: THE CARDS: each row of YtcmeaogbfecjkaaGreatDoorRows.lean that lists a variable, with what it lists TIED to the program's text (the seventh form; the later family's looks); each row that meets fmt, with fmt's text TOLD by the authors' own Lean function (tested against real Go, not proved from fmt's source: count such statements apart). THE CARD IS WHAT COUNTS. Prove the row's statement (the work); the ties are given (YtcmeaogbfecjkaaGreatDoorTie.lean); close each card by the builder's one call (the guide's Derived/Test/ToyasCard.lean, 'card_holds'). Laid BY PROGRAM, IN A SANDBOX (cutbox-door.mjs). By AI agents, Wed Nov 11 2026. No macro, syntax, notation, axiom, sorry.
-/
import Derived.Test.YtcmeaogbfecjkaaGreatDoorRows
import GoSem.ClaimSeven
namespace Go.Proofs.YtcmeaogbfecjkaaGreatDoor
namespace Rows

/-- THE TIED CARD OF 'laws.FnShortened'. -/
def fnShortenedCard : Claim7 := { stood := { row := fnShortenedRow, standIns := [], harness := (true, "6fbee44ac39c0daf3996ed257d5c6155f1875296d0f6acd4d7b1f6ad22413d55"), looks := true }, kinds := [], alts := [], laidByText := true, laidKinds := [.data, .data, .widerDeep, .widerDeep, .data, .data, .data, .data, .data, .data, .sentinel, .sentinel, .listed, .data, .sentinel, .data, .data, .data, .data, .data, .data, .data, .data, .sentinel, .pinned, .pinned, .pinned, .pinned], laidTests := true, laidLooks := .later }
def FnShortenedCardSaid : Prop := Claim7.holds Tryz.pinned (.plain (OpenSpec.ofChange fnShortenedSpec)) fnShortenedCard

/-- THE TIED CARD OF 'laws.FnZoomOf'. -/
def fnZoomOfCard : Claim7 := { stood := { row := fnZoomOfRow, standIns := [], harness := (true, "6fbee44ac39c0daf3996ed257d5c6155f1875296d0f6acd4d7b1f6ad22413d55"), looks := true }, kinds := [], alts := [], laidByText := true, laidKinds := [.data, .data, .widerDeep, .widerDeep, .data, .data, .data, .data, .data, .data, .sentinel, .sentinel, .listed, .data, .sentinel, .data, .data, .data, .data, .data, .data, .data, .data, .sentinel, .pinned, .pinned, .pinned, .pinned], laidTests := true, laidLooks := .later }
def FnZoomOfCardSaid : Prop := Claim7.holds Tryz.pinned (.plain (OpenSpec.ofChange fnZoomOfSpec)) fnZoomOfCard

/-- THE TIED CARD OF 'laws.FnBoxOf'. -/
def fnBoxOfCard : Claim7 := { stood := { row := fnBoxOfRow, standIns := [], harness := (true, "6fbee44ac39c0daf3996ed257d5c6155f1875296d0f6acd4d7b1f6ad22413d55"), looks := true }, kinds := [], alts := [], laidByText := true, laidKinds := [.data, .data, .widerDeep, .widerDeep, .data, .data, .data, .data, .data, .data, .sentinel, .sentinel, .pinned, .pinned, .pinned], laidTests := true, laidLooks := .later }
def FnBoxOfCardSaid : Prop := Claim7.holds Tryz.pinned (.plain (OpenSpec.ofChange fnBoxOfSpec)) fnBoxOfCard

/-- THE SECOND FORM's CARD OF 'laws.FnShortened'. -/
def fnShortenedUptoCard : Claim7 := { stood := { row := fnShortenedUptoRow, standIns := [], harness := (true, "6fbee44ac39c0daf3996ed257d5c6155f1875296d0f6acd4d7b1f6ad22413d55"), looks := true }, kinds := [], alts := [], laidByText := true, laidKinds := [.data, .data, .widerDeep, .widerDeep, .data, .data, .data, .data, .data, .data, .sentinel, .sentinel, .listed, .data, .sentinel, .data, .data, .data, .data, .data, .data, .data, .data, .sentinel, .pinned, .pinned, .pinned, .pinned], laidTests := true, laidLooks := .later }
def FnShortenedUptoCardSaid : Prop := Claim7.holds Tryz.pinned (.plain (OpenSpec.upto fnShortenedSpec)) fnShortenedUptoCard

/-- THE SECOND FORM's CARD OF 'laws.FnZoomOf'. -/
def fnZoomOfUptoCard : Claim7 := { stood := { row := fnZoomOfUptoRow, standIns := [], harness := (true, "6fbee44ac39c0daf3996ed257d5c6155f1875296d0f6acd4d7b1f6ad22413d55"), looks := true }, kinds := [], alts := [], laidByText := true, laidKinds := [.data, .data, .widerDeep, .widerDeep, .data, .data, .data, .data, .data, .data, .sentinel, .sentinel, .listed, .data, .sentinel, .data, .data, .data, .data, .data, .data, .data, .data, .sentinel, .pinned, .pinned, .pinned, .pinned], laidTests := true, laidLooks := .later }
def FnZoomOfUptoCardSaid : Prop := Claim7.holds Tryz.pinned (.plain (OpenSpec.upto fnZoomOfSpec)) fnZoomOfUptoCard

/-- THE SECOND FORM's CARD OF 'laws.FnBoxOf'. -/
def fnBoxOfUptoCard : Claim7 := { stood := { row := fnBoxOfUptoRow, standIns := [], harness := (true, "6fbee44ac39c0daf3996ed257d5c6155f1875296d0f6acd4d7b1f6ad22413d55"), looks := true }, kinds := [], alts := [], laidByText := true, laidKinds := [.data, .data, .widerDeep, .widerDeep, .data, .data, .data, .data, .data, .data, .sentinel, .sentinel, .pinned, .pinned, .pinned], laidTests := true, laidLooks := .later }
def FnBoxOfUptoCardSaid : Prop := Claim7.holds Tryz.pinned (.plain (OpenSpec.upto fnBoxOfSpec)) fnBoxOfUptoCard
end Rows
end Go.Proofs.YtcmeaogbfecjkaaGreatDoor
