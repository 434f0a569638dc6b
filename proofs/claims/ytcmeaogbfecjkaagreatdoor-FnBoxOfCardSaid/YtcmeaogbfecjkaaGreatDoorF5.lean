/- The checks of 'okN', by the kernel. -/
import Derived.Test.YtcmeaogbfecjkaaGreatDoorF2
namespace Go.Proofs.YtcmeaogbfecjkaaGreatDoor
theorem okN_1 : fromTo okN 1 100 = true := by decide +kernel
theorem okN_101 : fromTo okN 101 100 = true := by decide +kernel
theorem okN_201 : fromTo okN 201 100 = true := by decide +kernel
theorem okN_301 : fromTo okN 301 100 = true := by decide +kernel
theorem okN_all (n : Nat) (h1 : 1 ≤ n) (h2 : n < 401) : okN n = true := by
  by_cases c1 : n < 101
  · exact of_fromTo okN_1 n (by omega) (by omega)
  by_cases c101 : n < 201
  · exact of_fromTo okN_101 n (by omega) (by omega)
  by_cases c201 : n < 301
  · exact of_fromTo okN_201 n (by omega) (by omega)
  exact of_fromTo okN_301 n (by omega) (by omega)
end Go.Proofs.YtcmeaogbfecjkaaGreatDoor
