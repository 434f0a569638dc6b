/- The checks of 'okInc', by the kernel. -/
import Derived.Test.YtcmeaogbfecjkaaGreatDoorF2
namespace Go.Proofs.YtcmeaogbfecjkaaGreatDoor
theorem okInc_1 : fromTo okInc 1 250 = true := by decide +kernel
theorem okInc_251 : fromTo okInc 251 250 = true := by decide +kernel
theorem okInc_501 : fromTo okInc 501 250 = true := by decide +kernel
theorem okInc_751 : fromTo okInc 751 250 = true := by decide +kernel
theorem okInc_1001 : fromTo okInc 1001 250 = true := by decide +kernel
theorem okInc_1251 : fromTo okInc 1251 250 = true := by decide +kernel
theorem okInc_1501 : fromTo okInc 1501 250 = true := by decide +kernel
theorem okInc_1751 : fromTo okInc 1751 250 = true := by decide +kernel
theorem okInc_2001 : fromTo okInc 2001 250 = true := by decide +kernel
theorem okInc_2251 : fromTo okInc 2251 250 = true := by decide +kernel
theorem okInc_2501 : fromTo okInc 2501 250 = true := by decide +kernel
theorem okInc_2751 : fromTo okInc 2751 250 = true := by decide +kernel
theorem okInc_3001 : fromTo okInc 3001 250 = true := by decide +kernel
theorem okInc_3251 : fromTo okInc 3251 250 = true := by decide +kernel
theorem okInc_3501 : fromTo okInc 3501 250 = true := by decide +kernel
theorem okInc_3751 : fromTo okInc 3751 249 = true := by decide +kernel
theorem okInc_all (n : Nat) (h1 : 1 ≤ n) (h2 : n < 4000) : okInc n = true := by
  by_cases c1 : n < 251
  · exact of_fromTo okInc_1 n (by omega) (by omega)
  by_cases c251 : n < 501
  · exact of_fromTo okInc_251 n (by omega) (by omega)
  by_cases c501 : n < 751
  · exact of_fromTo okInc_501 n (by omega) (by omega)
  by_cases c751 : n < 1001
  · exact of_fromTo okInc_751 n (by omega) (by omega)
  by_cases c1001 : n < 1251
  · exact of_fromTo okInc_1001 n (by omega) (by omega)
  by_cases c1251 : n < 1501
  · exact of_fromTo okInc_1251 n (by omega) (by omega)
  by_cases c1501 : n < 1751
  · exact of_fromTo okInc_1501 n (by omega) (by omega)
  by_cases c1751 : n < 2001
  · exact of_fromTo okInc_1751 n (by omega) (by omega)
  by_cases c2001 : n < 2251
  · exact of_fromTo okInc_2001 n (by omega) (by omega)
  by_cases c2251 : n < 2501
  · exact of_fromTo okInc_2251 n (by omega) (by omega)
  by_cases c2501 : n < 2751
  · exact of_fromTo okInc_2501 n (by omega) (by omega)
  by_cases c2751 : n < 3001
  · exact of_fromTo okInc_2751 n (by omega) (by omega)
  by_cases c3001 : n < 3251
  · exact of_fromTo okInc_3001 n (by omega) (by omega)
  by_cases c3251 : n < 3501
  · exact of_fromTo okInc_3251 n (by omega) (by omega)
  by_cases c3501 : n < 3751
  · exact of_fromTo okInc_3501 n (by omega) (by omega)
  exact of_fromTo okInc_3751 n (by omega) (by omega)
end Go.Proofs.YtcmeaogbfecjkaaGreatDoor
