/- laws.FnZoomOf answers true, whatever the input. -/
import Derived.Test.YtcmeaogbfecjkaaGreatDoorH2
namespace Go.Proofs.YtcmeaogbfecjkaaGreatDoor
open Go.RowKit

theorem tint_says (n : Int) (b : Bool) (hb : decide (-1 ≤ n ∧ n ≤ 16777215) = b) (w : World) : Calls Tryz.prog 8 #[.int .i64 n] w fun e w' => e = .returned (.bool b) ∧ w = w' := by
  subst hb
  exact tint_any n w

set_option maxRecDepth 100000 in
set_option maxHeartbeats 1600000 in
theorem zoomLaw_out (i n u c : Int) (border loose : Bool) (w : World) (h : i < 0 ∨ 2 < i ∨ n < -400 ∨ 400 < n ∨ n = 0 ∨ u < 0 ∨ 4 ≤ u ∨ decide (-1 ≤ c ∧ c ≤ 16777215) = false ∨ (i = 0 ∧ (n < 0 ∨ n = 4))) :
    Calls Tryz.prog 4 #[.int .i64 i, .int .i64 n, .int .i64 u, .int .i64 c, .bool border, .bool loose] w fun e w' => e = .returned (.bool true) ∧ Kp w.heap.size w w' := by
  by_cases a1 : i < 0
  · clear h
    go_enter Tryz.func4, Tryz.ntmps4
    go_wp2_with fail
    go_ret
    exact ⟨rfl, Kp.refl _ w⟩
  by_cases a2 : 2 < i
  · clear h
    go_enter Tryz.func4, Tryz.ntmps4
    go_wp2_with fail
    go_ret
    exact ⟨rfl, Kp.refl _ w⟩
  by_cases a3 : n < -400
  · clear h
    go_enter Tryz.func4, Tryz.ntmps4
    go_wp2_with fail
    go_ret
    exact ⟨rfl, Kp.refl _ w⟩
  by_cases a4 : 400 < n
  · clear h
    go_enter Tryz.func4, Tryz.ntmps4
    go_wp2_with fail
    go_ret
    exact ⟨rfl, Kp.refl _ w⟩
  by_cases a5 : n = 0
  · subst a5
    clear h
    go_enter Tryz.func4, Tryz.ntmps4
    go_wp2_with fail
    go_ret
    exact ⟨rfl, Kp.refl _ w⟩
  have b5 : (n == 0) = false := by simp [a5]
  by_cases a6 : u < 0
  · clear h
    go_enter Tryz.func4, Tryz.ntmps4
    go_wp2_with fail
    go_ret
    exact ⟨rfl, Kp.refl _ w⟩
  by_cases a7 : 4 ≤ u
  · clear h
    go_enter Tryz.func4, Tryz.ntmps4
    go_wp2_with fail
    go_ret
    exact ⟨rfl, Kp.refl _ w⟩
  cases a8 : decide (-1 ≤ c ∧ c ≤ 16777215) with
  | false =>
    have HT := Lib.hid (fun w => tint_says c false a8 w)
    clear h a8
    go_enter Tryz.func4, Tryz.ntmps4
    go_wp2_with fail
    refine (HT.out w).mono ?_
    rintro e w' ⟨rfl, rfl⟩
    go_wp2_with fail
    go_ret
    exact ⟨rfl, Kp.refl _ w⟩
  | true =>
    have h9 : i = 0 ∧ (n < 0 ∨ n = 4) := by
      rcases h with h | h | h | h | h | h | h | h | h
      · omega
      · omega
      · omega
      · omega
      · omega
      · omega
      · omega
      · rw [a8] at h; cases h
      · exact h
    obtain ⟨rfl, hn⟩ := h9
    have HT := Lib.hid (fun w => tint_says c true a8 w)
    clear h a8
    by_cases a9 : n < 0
    · clear hn
      go_enter Tryz.func4, Tryz.ntmps4
      go_wp2_with fail
      refine (HT.out w).mono ?_
      rintro e w' ⟨rfl, rfl⟩
      go_wp2_with fail
      go_ret
      exact ⟨rfl, Kp.refl _ w⟩
    · have a10 : n = 4 := by omega
      subst a10
      go_enter Tryz.func4, Tryz.ntmps4
      go_wp2_with fail
      refine (HT.out w).mono ?_
      rintro e w' ⟨rfl, rfl⟩
      go_wp2_with fail
      go_ret
      exact ⟨rfl, Kp.refl _ w⟩

/-- WHATEVER THE INPUT. -/
theorem zoomLaw_any (G : Nat) (w : World) (hV : VarsZ G w) (i n u c : Int) (border loose : Bool) :
    Calls Tryz.prog 4 #[.int .i64 i, .int .i64 n, .int .i64 u, .int .i64 c, .bool border, .bool loose] w fun e w' => e = .returned (.bool true) ∧ Kp w.heap.size w w' := by
  by_cases h : i < 0 ∨ 2 < i ∨ n < -400 ∨ 400 < n ∨ n = 0 ∨ u < 0 ∨ 4 ≤ u ∨ decide (-1 ≤ c ∧ c ≤ 16777215) = false ∨ (i = 0 ∧ (n < 0 ∨ n = 4))
  · exact zoomLaw_out i n u c border loose w h
  · have hc : decide (-1 ≤ c ∧ c ≤ 16777215) = true := by
      cases hd : decide (-1 ≤ c ∧ c ≤ 16777215) with
      | true => rfl
      | false => exact absurd (by simp [hd]) h
    have hc2 := of_decide_eq_true hc
    obtain ⟨uu, rfl⟩ := Int.eq_ofNat_of_zero_le (show 0 ≤ u by omega)
    obtain ⟨col, hcol, rfl⟩ : ∃ col : Option Nat, (∀ k, col = some k → k < 16777216) ∧ c = colI col := by
      by_cases hm : c = -1
      · exact ⟨none, (fun k hk => by cases hk), hm⟩
      · obtain ⟨k, rfl⟩ := Int.eq_ofNat_of_zero_le (show 0 ≤ c by omega)
        exact ⟨some k, (fun k' hk => by cases hk; omega), rfl⟩
    rcases (by omega : i = 0 ∨ i = 1 ∨ i = 2) with rfl | rfl | rfl
    · exact zoomLaw_0 G n (by omega) (by omega) (by omega) (by omega) (by omega) uu (by omega) col hcol border loose w hV
    · exact zoomLaw_1 G n (by omega) (by omega) (by omega) uu (by omega) col hcol border loose w hV
    · exact zoomLaw_2 G n (by omega) (by omega) (by omega) uu (by omega) col hcol border loose w hV
end Go.Proofs.YtcmeaogbfecjkaaGreatDoor
