/- laws.quarters tells a number of quarters by its digits; nothing that was there is turned. For numbers between -100,000 and 100,000. -/
import Derived.Test.YtcmeaogbfecjkaaGreatDoorA1
import Derived.Deep.RegionWith
import Derived.Deep.QuietTactic
import Derived.BigQuiet
namespace Go.Proofs.YtcmeaogbfecjkaaGreatDoor
open Go.RowKit

theorem qtr_0 (n : Nat) (h : n % 4 = 0) : qtrL n = numL (n / 4) ++ [] := by unfold qtrL; simp [h]
theorem qtr_1 (n : Nat) (h : n % 4 = 1) : qtrL n = numL (n / 4) ++ [46, 50, 53] := by unfold qtrL; simp [h]
theorem qtr_2 (n : Nat) (h : n % 4 = 2) : qtrL n = numL (n / 4) ++ [46, 53] := by unfold qtrL; simp [h]
theorem qtr_3 (n : Nat) (h : n % 4 = 3) : qtrL n = numL (n / 4) ++ [46, 55, 53] := by unfold qtrL; simp [h]

set_option maxHeartbeats 1600000 in
theorem quarters_00 (m : Int) (w : World) (h0 : 0 ≤ m) (h1 : m < 100000) (hr : m % 4 = 0) :
    Calls Tryz.prog 7 #[.int .i64 m] w fun e w' => e = .returned (bs (qtrI m)) ∧ Below w.heap.size w w' := by
  have hl1 := numL_len (m / 4).toNat (by omega)
  have hf : Hid (qtrI m = (numL (m / 4).toNat ++ [])) := by
    show _ = _
    unfold qtrI
    rw [if_neg (by omega), qtr_0 _ (by omega)]
    rw [show m.toNat / 4 = (m / 4).toNat by omega]
  have he1 : IntKind.i64.wrap (m.tdiv 4) = m / 4 := by rw [Int.tdiv_eq_ediv_of_nonneg (by omega)]; exact IntWalk.i64_in _ (by omega)
  have he2 : m.tmod 4 = 0 := by rw [Int.tmod_eq_emod_of_nonneg (by omega)]; exact hr
  clear hr
  go_enter Tryz.func7, Tryz.ntmps7
  go_wp2_with fail
  go_region_with (go_at_call 23; refine (numeral_any 100000 _ _ (by omega) (by omega) (by omega)).mono ?_; rintro e w' ⟨rfl, rfl⟩)
  all_goals
    go_wp2_with fail
    go_ret
    refine ⟨congrArg (fun b => Ending.returned (.string b)) (by rw [hf.out]; apply ByteArray.ext; simp [ByteArray.data_append]), ?_⟩
    first | exact ((Below.refl _ _).alloc (Nat.le_refl _) _).drew | exact ((Below.refl _ _).drew).alloc (Nat.le_refl _) _

set_option maxHeartbeats 1600000 in
theorem quarters_01 (m : Int) (w : World) (h0 : 0 ≤ m) (h1 : m < 100000) (hr : m % 4 = 1) :
    Calls Tryz.prog 7 #[.int .i64 m] w fun e w' => e = .returned (bs (qtrI m)) ∧ Below w.heap.size w w' := by
  have hl1 := numL_len (m / 4).toNat (by omega)
  have hf : Hid (qtrI m = (numL (m / 4).toNat ++ [46, 50, 53])) := by
    show _ = _
    unfold qtrI
    rw [if_neg (by omega), qtr_1 _ (by omega)]
    rw [show m.toNat / 4 = (m / 4).toNat by omega]
  have he1 : IntKind.i64.wrap (m.tdiv 4) = m / 4 := by rw [Int.tdiv_eq_ediv_of_nonneg (by omega)]; exact IntWalk.i64_in _ (by omega)
  have he2 : m.tmod 4 = 1 := by rw [Int.tmod_eq_emod_of_nonneg (by omega)]; exact hr
  clear hr
  go_enter Tryz.func7, Tryz.ntmps7
  go_wp2_with fail
  go_region_with (go_at_call 23; refine (numeral_any 100000 _ _ (by omega) (by omega) (by omega)).mono ?_; rintro e w' ⟨rfl, rfl⟩)
  all_goals
    go_wp2_with fail
    go_ret
    refine ⟨congrArg (fun b => Ending.returned (.string b)) (by rw [hf.out]; apply ByteArray.ext; simp [ByteArray.data_append]), ?_⟩
    first | exact ((Below.refl _ _).alloc (Nat.le_refl _) _).drew | exact ((Below.refl _ _).drew).alloc (Nat.le_refl _) _

set_option maxHeartbeats 1600000 in
theorem quarters_02 (m : Int) (w : World) (h0 : 0 ≤ m) (h1 : m < 100000) (hr : m % 4 = 2) :
    Calls Tryz.prog 7 #[.int .i64 m] w fun e w' => e = .returned (bs (qtrI m)) ∧ Below w.heap.size w w' := by
  have hl1 := numL_len (m / 4).toNat (by omega)
  have hf : Hid (qtrI m = (numL (m / 4).toNat ++ [46, 53])) := by
    show _ = _
    unfold qtrI
    rw [if_neg (by omega), qtr_2 _ (by omega)]
    rw [show m.toNat / 4 = (m / 4).toNat by omega]
  have he1 : IntKind.i64.wrap (m.tdiv 4) = m / 4 := by rw [Int.tdiv_eq_ediv_of_nonneg (by omega)]; exact IntWalk.i64_in _ (by omega)
  have he2 : m.tmod 4 = 2 := by rw [Int.tmod_eq_emod_of_nonneg (by omega)]; exact hr
  clear hr
  go_enter Tryz.func7, Tryz.ntmps7
  go_wp2_with fail
  go_region_with (go_at_call 23; refine (numeral_any 100000 _ _ (by omega) (by omega) (by omega)).mono ?_; rintro e w' ⟨rfl, rfl⟩)
  all_goals
    go_wp2_with fail
    go_ret
    refine ⟨congrArg (fun b => Ending.returned (.string b)) (by rw [hf.out]; apply ByteArray.ext; simp [ByteArray.data_append]), ?_⟩
    first | exact ((Below.refl _ _).alloc (Nat.le_refl _) _).drew | exact ((Below.refl _ _).drew).alloc (Nat.le_refl _) _

set_option maxHeartbeats 1600000 in
theorem quarters_03 (m : Int) (w : World) (h0 : 0 ≤ m) (h1 : m < 100000) (hr : m % 4 = 3) :
    Calls Tryz.prog 7 #[.int .i64 m] w fun e w' => e = .returned (bs (qtrI m)) ∧ Below w.heap.size w w' := by
  have hl1 := numL_len (m / 4).toNat (by omega)
  have hf : Hid (qtrI m = (numL (m / 4).toNat ++ [46, 55, 53])) := by
    show _ = _
    unfold qtrI
    rw [if_neg (by omega), qtr_3 _ (by omega)]
    rw [show m.toNat / 4 = (m / 4).toNat by omega]
  have he1 : IntKind.i64.wrap (m.tdiv 4) = m / 4 := by rw [Int.tdiv_eq_ediv_of_nonneg (by omega)]; exact IntWalk.i64_in _ (by omega)
  have he2 : m.tmod 4 = 3 := by rw [Int.tmod_eq_emod_of_nonneg (by omega)]; exact hr
  clear hr
  go_enter Tryz.func7, Tryz.ntmps7
  go_wp2_with fail
  go_region_with (go_at_call 23; refine (numeral_any 100000 _ _ (by omega) (by omega) (by omega)).mono ?_; rintro e w' ⟨rfl, rfl⟩)
  all_goals
    go_wp2_with fail
    go_ret
    refine ⟨congrArg (fun b => Ending.returned (.string b)) (by rw [hf.out]; apply ByteArray.ext; simp [ByteArray.data_append]), ?_⟩
    first | exact ((Below.refl _ _).alloc (Nat.le_refl _) _).drew | exact ((Below.refl _ _).drew).alloc (Nat.le_refl _) _

set_option maxHeartbeats 1600000 in
theorem quarters_10 (m : Int) (w : World) (h0 : 0 < m) (h1 : m < 100000) (hr : m % 4 = 0) :
    Calls Tryz.prog 7 #[.int .i64 (-m)] w fun e w' => e = .returned (bs (qtrI (-m))) ∧ Below w.heap.size w w' := by
  have hl1 := numL_len (m / 4).toNat (by omega)
  have hw : IntKind.i64.wrap m = m := IntWalk.i64_in _ (by omega)
  have hf : Hid (qtrI (-m) = 45 :: (numL (m / 4).toNat ++ [])) := by
    show _ = _
    unfold qtrI
    rw [if_pos (by omega), qtr_0 _ (by omega)]
    rw [show (- -m).toNat / 4 = (m / 4).toNat by omega]
  have he1 : IntKind.i64.wrap (m.tdiv 4) = m / 4 := by rw [Int.tdiv_eq_ediv_of_nonneg (by omega)]; exact IntWalk.i64_in _ (by omega)
  have he2 : m.tmod 4 = 0 := by rw [Int.tmod_eq_emod_of_nonneg (by omega)]; exact hr
  clear hr
  go_enter Tryz.func7, Tryz.ntmps7
  go_wp2_with fail
  go_region_with (go_at_call 23; refine (numeral_any 100000 _ _ (by omega) (by omega) (by omega)).mono ?_; rintro e w' ⟨rfl, rfl⟩)
  all_goals
    go_wp2_with fail
    go_ret
    refine ⟨congrArg (fun b => Ending.returned (.string b)) (by rw [hf.out]; apply ByteArray.ext; simp [ByteArray.data_append]), ?_⟩
    first | exact ((Below.refl _ _).alloc (Nat.le_refl _) _).drew | exact ((Below.refl _ _).drew).alloc (Nat.le_refl _) _

set_option maxHeartbeats 1600000 in
theorem quarters_11 (m : Int) (w : World) (h0 : 0 < m) (h1 : m < 100000) (hr : m % 4 = 1) :
    Calls Tryz.prog 7 #[.int .i64 (-m)] w fun e w' => e = .returned (bs (qtrI (-m))) ∧ Below w.heap.size w w' := by
  have hl1 := numL_len (m / 4).toNat (by omega)
  have hw : IntKind.i64.wrap m = m := IntWalk.i64_in _ (by omega)
  have hf : Hid (qtrI (-m) = 45 :: (numL (m / 4).toNat ++ [46, 50, 53])) := by
    show _ = _
    unfold qtrI
    rw [if_pos (by omega), qtr_1 _ (by omega)]
    rw [show (- -m).toNat / 4 = (m / 4).toNat by omega]
  have he1 : IntKind.i64.wrap (m.tdiv 4) = m / 4 := by rw [Int.tdiv_eq_ediv_of_nonneg (by omega)]; exact IntWalk.i64_in _ (by omega)
  have he2 : m.tmod 4 = 1 := by rw [Int.tmod_eq_emod_of_nonneg (by omega)]; exact hr
  clear hr
  go_enter Tryz.func7, Tryz.ntmps7
  go_wp2_with fail
  go_region_with (go_at_call 23; refine (numeral_any 100000 _ _ (by omega) (by omega) (by omega)).mono ?_; rintro e w' ⟨rfl, rfl⟩)
  all_goals
    go_wp2_with fail
    go_ret
    refine ⟨congrArg (fun b => Ending.returned (.string b)) (by rw [hf.out]; apply ByteArray.ext; simp [ByteArray.data_append]), ?_⟩
    first | exact ((Below.refl _ _).alloc (Nat.le_refl _) _).drew | exact ((Below.refl _ _).drew).alloc (Nat.le_refl _) _

set_option maxHeartbeats 1600000 in
theorem quarters_12 (m : Int) (w : World) (h0 : 0 < m) (h1 : m < 100000) (hr : m % 4 = 2) :
    Calls Tryz.prog 7 #[.int .i64 (-m)] w fun e w' => e = .returned (bs (qtrI (-m))) ∧ Below w.heap.size w w' := by
  have hl1 := numL_len (m / 4).toNat (by omega)
  have hw : IntKind.i64.wrap m = m := IntWalk.i64_in _ (by omega)
  have hf : Hid (qtrI (-m) = 45 :: (numL (m / 4).toNat ++ [46, 53])) := by
    show _ = _
    unfold qtrI
    rw [if_pos (by omega), qtr_2 _ (by omega)]
    rw [show (- -m).toNat / 4 = (m / 4).toNat by omega]
  have he1 : IntKind.i64.wrap (m.tdiv 4) = m / 4 := by rw [Int.tdiv_eq_ediv_of_nonneg (by omega)]; exact IntWalk.i64_in _ (by omega)
  have he2 : m.tmod 4 = 2 := by rw [Int.tmod_eq_emod_of_nonneg (by omega)]; exact hr
  clear hr
  go_enter Tryz.func7, Tryz.ntmps7
  go_wp2_with fail
  go_region_with (go_at_call 23; refine (numeral_any 100000 _ _ (by omega) (by omega) (by omega)).mono ?_; rintro e w' ⟨rfl, rfl⟩)
  all_goals
    go_wp2_with fail
    go_ret
    refine ⟨congrArg (fun b => Ending.returned (.string b)) (by rw [hf.out]; apply ByteArray.ext; simp [ByteArray.data_append]), ?_⟩
    first | exact ((Below.refl _ _).alloc (Nat.le_refl _) _).drew | exact ((Below.refl _ _).drew).alloc (Nat.le_refl _) _

set_option maxHeartbeats 1600000 in
theorem quarters_13 (m : Int) (w : World) (h0 : 0 < m) (h1 : m < 100000) (hr : m % 4 = 3) :
    Calls Tryz.prog 7 #[.int .i64 (-m)] w fun e w' => e = .returned (bs (qtrI (-m))) ∧ Below w.heap.size w w' := by
  have hl1 := numL_len (m / 4).toNat (by omega)
  have hw : IntKind.i64.wrap m = m := IntWalk.i64_in _ (by omega)
  have hf : Hid (qtrI (-m) = 45 :: (numL (m / 4).toNat ++ [46, 55, 53])) := by
    show _ = _
    unfold qtrI
    rw [if_pos (by omega), qtr_3 _ (by omega)]
    rw [show (- -m).toNat / 4 = (m / 4).toNat by omega]
  have he1 : IntKind.i64.wrap (m.tdiv 4) = m / 4 := by rw [Int.tdiv_eq_ediv_of_nonneg (by omega)]; exact IntWalk.i64_in _ (by omega)
  have he2 : m.tmod 4 = 3 := by rw [Int.tmod_eq_emod_of_nonneg (by omega)]; exact hr
  clear hr
  go_enter Tryz.func7, Tryz.ntmps7
  go_wp2_with fail
  go_region_with (go_at_call 23; refine (numeral_any 100000 _ _ (by omega) (by omega) (by omega)).mono ?_; rintro e w' ⟨rfl, rfl⟩)
  all_goals
    go_wp2_with fail
    go_ret
    refine ⟨congrArg (fun b => Ending.returned (.string b)) (by rw [hf.out]; apply ByteArray.ext; simp [ByteArray.data_append]), ?_⟩
    first | exact ((Below.refl _ _).alloc (Nat.le_refl _) _).drew | exact ((Below.refl _ _).drew).alloc (Nat.le_refl _) _

theorem quarters_any (n : Int) (w : World) (h0 : -100000 < n) (h1 : n < 100000) :
    Calls Tryz.prog 7 #[.int .i64 n] w fun e w' => e = .returned (bs (qtrI n)) ∧ Below w.heap.size w w' := by
  by_cases hs : 0 ≤ n
  · rcases (by omega : n % 4 = 0 ∨ n % 4 = 1 ∨ n % 4 = 2 ∨ n % 4 = 3) with h | h | h | h
    · exact quarters_00 n w hs h1 h
    · exact quarters_01 n w hs h1 h
    · exact quarters_02 n w hs h1 h
    · exact quarters_03 n w hs h1 h
  · obtain ⟨m, rfl⟩ : ∃ m : Int, n = -m := ⟨-n, by omega⟩
    rcases (by omega : m % 4 = 0 ∨ m % 4 = 1 ∨ m % 4 = 2 ∨ m % 4 = 3) with h | h | h | h
    · exact quarters_10 m w (by omega) (by omega) h
    · exact quarters_11 m w (by omega) (by omega) h
    · exact quarters_12 m w (by omega) (by omega) h
    · exact quarters_13 m w (by omega) (by omega) h
#print axioms quarters_any
end Go.Proofs.YtcmeaogbfecjkaaGreatDoor
