/- The checks of 'okP', by the kernel. -/
import Derived.Test.YtcmeaogbfecjkaaGreatDoorF2
namespace Go.Proofs.YtcmeaogbfecjkaaGreatDoor
theorem okP_1 : fromTo okP 1 250 = true := by decide +kernel
theorem okP_251 : fromTo okP 251 250 = true := by decide +kernel
theorem okP_501 : fromTo okP 501 250 = true := by decide +kernel
theorem okP_751 : fromTo okP 751 250 = true := by decide +kernel
theorem okP_1001 : fromTo okP 1001 250 = true := by decide +kernel
theorem okP_1251 : fromTo okP 1251 250 = true := by decide +kernel
theorem okP_1501 : fromTo okP 1501 250 = true := by decide +kernel
theorem okP_1751 : fromTo okP 1751 250 = true := by decide +kernel
theorem okP_2001 : fromTo okP 2001 250 = true := by decide +kernel
theorem okP_2251 : fromTo okP 2251 250 = true := by decide +kernel
theorem okP_2501 : fromTo okP 2501 250 = true := by decide +kernel
theorem okP_2751 : fromTo okP 2751 250 = true := by decide +kernel
theorem okP_3001 : fromTo okP 3001 250 = true := by decide +kernel
theorem okP_3251 : fromTo okP 3251 250 = true := by decide +kernel
theorem okP_3501 : fromTo okP 3501 250 = true := by decide +kernel
theorem okP_3751 : fromTo okP 3751 250 = true := by decide +kernel
theorem okP_all (n : Nat) (h1 : 1 ≤ n) (h2 : n < 4001) : okP n = true := by
  by_cases c1 : n < 251
  · exact of_fromTo okP_1 n (by omega) (by omega)
  by_cases c251 : n < 501
  · exact of_fromTo okP_251 n (by omega) (by omega)
  by_cases c501 : n < 751
  · exact of_fromTo okP_501 n (by omega) (by omega)
  by_cases c751 : n < 1001
  · exact of_fromTo okP_751 n (by omega) (by omega)
  by_cases c1001 : n < 1251
  · exact of_fromTo okP_1001 n (by omega) (by omega)
  by_cases c1251 : n < 1501
  · exact of_fromTo okP_1251 n (by omega) (by omega)
  by_cases c1501 : n < 1751
  · exact of_fromTo okP_1501 n (by omega) (by omega)
  by_cases c1751 : n < 2001
  · exact of_fromTo okP_1751 n (by omega) (by omega)
  by_cases c2001 : n < 2251
  · exact of_fromTo okP_2001 n (by omega) (by omega)
  by_cases c2251 : n < 2501
  · exact of_fromTo okP_2251 n (by omega) (by omega)
  by_cases c2501 : n < 2751
  · exact of_fromTo okP_2501 n (by omega) (by omega)
  by_cases c2751 : n < 3001
  · exact of_fromTo okP_2751 n (by omega) (by omega)
  by_cases c3001 : n < 3251
  · exact of_fromTo okP_3001 n (by omega) (by omega)
  by_cases c3251 : n < 3501
  · exact of_fromTo okP_3251 n (by omega) (by omega)
  by_cases c3501 : n < 3751
  · exact of_fromTo okP_3501 n (by omega) (by omega)
  exact of_fromTo okP_3751 n (by omega) (by omega)
end Go.Proofs.YtcmeaogbfecjkaaGreatDoor
