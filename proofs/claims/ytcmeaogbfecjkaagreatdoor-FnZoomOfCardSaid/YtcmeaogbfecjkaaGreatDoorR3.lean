/- The laws of zooms: the listed variables, and a world that lays them. -/
import Derived.Test.YtcmeaogbfecjkaaGreatDoorR2
namespace Go.Proofs.YtcmeaogbfecjkaaGreatDoor
open Go.ChangeShapes Go.WideShapes Go.ChangeAt Go.RowKit

abbrev laidS : List (String × DataW Unit) := Rows.fnShortenedRow.laid

/-- The listed variables give the walk its cells. -/
theorem varsZ_of {W : World} (h : laidMetH Tryz.prog laidS W) : VarsZ W.heap.size W := by
  rw [MakeChecks.laidMetH_plain _ _ _ (by kernel_rfl)] at h
  obtain ⟨b, o, p1, p2, p3, p4⟩ := pow_of (Lib.laidMet.reads h (by simp [laidS, Rows.fnShortenedRow]))
  have e := err_of (Lib.laidMet.reads h (by simp [laidS, Rows.fnShortenedRow]))
  exact ⟨⟨opt_of (Lib.laidMet.reads h (by simp [laidS, Rows.fnShortenedRow])), info_of (Lib.laidMet.reads h (by simp [laidS, Rows.fnShortenedRow])), b, o, p1, p2, p3, p4⟩,
    asc_of (Lib.laidMet.reads h (by simp [laidS, Rows.fnShortenedRow])), e, World.block_lt_of_cell? W _ p1, ⟨b, o, p1, p2⟩, Nat.le_refl _⟩

/-- A world that lays the listed variables. -/
theorem laid_met (os : Os) (args : Array Value) : laidMetH Tryz.prog laidS ((World.laidAll Tryz.prog os laidS).forCall (fun _ _ => 0) ⟨#[], args, []⟩).memory := by
  rw [MakeChecks.laidMetH_plain _ _ _ (by kernel_rfl)]
  exact laidMet_laidAll _ (by kernel_rfl) (by kernel_rfl)
theorem laid_shaped (os : Os) : (World.laidAll Tryz.prog os laidS).Shaped Tryz.prog := World.shaped_of_ZipB (by kernel_rfl) (by kernel_rfl)
end Go.Proofs.YtcmeaogbfecjkaaGreatDoor
