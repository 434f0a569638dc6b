/- More checks of numbers up to 400 quarters: not 0, not 1, of their sign. -/
import Derived.Test.YtcmeaogbfecjkaaGreatDoorF2
namespace Go.Proofs.YtcmeaogbfecjkaaGreatDoor
open Ieee

def okF (n : Nat) : Bool :=
  let q := qf n
  let r := qf (-(n : Int))
  !(double.order q 0 == some .lt || double.order q 0 == some .eq) && (n == 4 || !(double.order q one64 == some .eq)) && !(double.order q 0 == some .eq) && !(double.order r 0 == some .eq) && (double.order q q == some .eq)

theorem okF_all1 : fromTo okF 1 200 = true := by decide +kernel
theorem okF_all2 : fromTo okF 201 200 = true := by decide +kernel
theorem okF_all (n : Nat) (h1 : 1 ≤ n) (h2 : n ≤ 400) : okF n = true := by
  by_cases h : n < 201
  · exact of_fromTo okF_all1 n h1 h
  · exact of_fromTo okF_all2 n (by omega) (by omega)
end Go.Proofs.YtcmeaogbfecjkaaGreatDoor
