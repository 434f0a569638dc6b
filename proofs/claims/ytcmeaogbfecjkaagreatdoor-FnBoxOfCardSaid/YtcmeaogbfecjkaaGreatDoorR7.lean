/- The law of boxes: the listed variables, and a world that lays them. -/
import Derived.Test.YtcmeaogbfecjkaaGreatDoorR2
namespace Go.Proofs.YtcmeaogbfecjkaaGreatDoor
open Go.ChangeShapes Go.WideShapes Go.ChangeAt Go.RowKit

abbrev laidB : List (String × DataW Unit) := Rows.fnBoxOfRow.laid

/-- The listed variables give the walk its cells. -/
theorem varsB_of {W : World} (h : laidMetH Tryz.prog laidB W) : Vars W := by
  rw [MakeChecks.laidMetH_plain _ _ _ (by kernel_rfl)] at h
  obtain ⟨b, o, p1, p2, p3, p4⟩ := pow_of (Lib.laidMet.reads h (by simp [laidB, Rows.fnBoxOfRow]))
  exact ⟨opt_of (Lib.laidMet.reads h (by simp [laidB, Rows.fnBoxOfRow])), info_of (Lib.laidMet.reads h (by simp [laidB, Rows.fnBoxOfRow])), b, o, p1, p2, p3, p4⟩

/-- A world that lays the listed variables. -/
theorem laidB_met (os : Os) (args : Array Value) : laidMetH Tryz.prog laidB ((World.laidAll Tryz.prog os laidB).forCall (fun _ _ => 0) ⟨#[], args, []⟩).memory := by
  rw [MakeChecks.laidMetH_plain _ _ _ (by kernel_rfl)]
  exact laidMet_laidAll _ (by kernel_rfl) (by kernel_rfl)
theorem laidB_shaped (os : Os) : (World.laidAll Tryz.prog os laidB).Shaped Tryz.prog := World.shaped_of_ZipB (by kernel_rfl) (by kernel_rfl)

theorem list4 {α : Type} (l : List α) (h : (⟨l⟩ : Array α).size = 4) : ∃ a b c d, l = [a, b, c, d] := by
  match l, h with
  | [a, b, c, d], _ => exact ⟨a, b, c, d, rfl⟩
end Go.Proofs.YtcmeaogbfecjkaaGreatDoor
