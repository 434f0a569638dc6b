/- PerUnit, tint; a background is the one that was told. -/
import Derived.Test.YtcmeaogbfecjkaaGreatDoorG4
import Derived.Test.YtcmeaogbfecjkaaGreatDoorG5
namespace Go.Proofs.YtcmeaogbfecjkaaGreatDoor
open Go.RowKit

set_option maxRecDepth 100000 in
theorem per_any (u : Nat) (hu : u < 4) (w : World) : Calls Tryz.prog 11 #[.int .i64 u] w fun e w' => e = .returned (.float .f64 (perB u)) ∧ w = w' := by
  rcases (by omega : u = 0 ∨ u = 1 ∨ u = 2 ∨ u = 3) with rfl | rfl | rfl | rfl
  all_goals
    go_enter Tryz.func11, Tryz.ntmps11
    go_wp2_with fail
    go_ret
    exact ⟨rfl, rfl⟩

theorem tint_any (n : Int) (w : World) : Calls Tryz.prog 8 #[.int .i64 n] w fun e w' => e = .returned (.bool (decide (-1 ≤ n ∧ n ≤ 16777215))) ∧ w = w' := by
  by_cases h1 : -1 ≤ n
  · by_cases h2 : n ≤ 16777215
    · have e : decide (-1 ≤ n ∧ n ≤ 16777215) = true := by simp [h1, h2]
      rw [e]
      go_enter Tryz.func8, Tryz.ntmps8
      go_wp2_with fail
      go_ret
      exact ⟨rfl, rfl⟩
    · have e : decide (-1 ≤ n ∧ n ≤ 16777215) = false := by simp [h2]
      rw [e]
      have h3 : 16777215 < n := by omega
      clear e h2
      go_enter Tryz.func8, Tryz.ntmps8
      go_wp2_with fail
      go_ret
      exact ⟨congrArg (fun b => Ending.returned (.bool b)) (decide_eq_false (p := n ≤ 16777215) (by omega)), rfl⟩
  · have e : decide (-1 ≤ n ∧ n ≤ 16777215) = false := by simp [h1]
    rw [e]
    have h3 : n < -1 := by omega
    clear e h1
    go_enter Tryz.func8, Tryz.ntmps8
    go_wp2_with fail
    go_ret
    exact ⟨rfl, rfl⟩

set_option maxRecDepth 100000 in
theorem same_any (a b c : Nat) (ha : a < 256) (hb : b < 256) (hc : c < 256) (w : World) :
    Calls Tryz.prog 25 #[.agg #[.float .f64 (cw a), .float .f64 (cw b), .float .f64 (cw c)], .agg #[.float .f64 (cd a), .float .f64 (cd b), .float .f64 (cd c)]] w fun e w' => e = .returned (.bool true) ∧ Grew w w' := by
  have na := fun w => near_part a ha w
  have nb := fun w => near_part b hb w
  have nc := fun w => near_part c hc w
  have NA := Lib.hid na
  have NB := Lib.hid nb
  have NC := Lib.hid nc
  clear na nb nc
  generalize cw a = a6 at *
  generalize cw b = b6 at *
  generalize cw c = c6 at *
  generalize cd a = a7 at *
  generalize cd b = b7 at *
  generalize cd c = c7 at *
  go_enter Tryz.func25, Tryz.ntmps25
  go_wp2_with fail
  refine (NA.out _).mono ?_
  rintro e w' ⟨rfl, rfl⟩
  go_wp2_with fail
  refine (NB.out _).mono ?_
  rintro e w' ⟨rfl, rfl⟩
  go_wp2_with fail
  refine (NC.out _).mono ?_
  rintro e w' ⟨rfl, rfl⟩
  go_wp2_with fail
  go_ret
  exact ⟨rfl, ((Grew.refl w).alloc _).alloc _⟩

theorem back_none (n : Int) (hn : n < 0) (w : World) : Calls Tryz.prog 13 #[.slice none 0 0, .int .i64 n] w fun e w' => e = .returned (.bool true) ∧ w = w' := by
  go_enter Tryz.func13, Tryz.ntmps13
  go_wp2_with fail
  go_ret
  exact ⟨rfl, rfl⟩

set_option maxRecDepth 100000 in
set_option maxHeartbeats 800000 in
theorem back_one (g n : Nat) (hn : n < 16777216) (w : World) (hr : RowC w g (n / 65536) (n / 256 % 256) (n % 256)) :
    Calls Tryz.prog 13 #[.slice (some ⟨g, 0, none⟩) 1 1, .int .i64 n] w fun e w' => e = .returned (.bool true) ∧ Grew w w' := by
  have hcol := fun w => colored_any n hn w
  have hsame := fun w => same_any (n / 65536) (n / 256 % 256) (n % 256) (by omega) (by omega) (by omega) w
  obtain ⟨q0, q1, q2⟩ := three_cells hr
  have HC := Lib.hid hcol
  have HS := Lib.hid hsame
  clear hcol hsame hr hn
  generalize cw (n / 65536) = a6 at *
  generalize cw (n / 256 % 256) = b6 at *
  generalize cw (n % 256) = c6 at *
  generalize cd (n / 65536) = a7 at *
  generalize cd (n / 256 % 256) = b7 at *
  generalize cd (n % 256) = c7 at *
  go_enter Tryz.func13, Tryz.ntmps13
  go_wp2_with fail
  go_region_held3 (fun w' => w'.cell? ⟨g, 0, none⟩ = some (.float .f64 a6) ∧ w'.cell? ⟨g, 1, none⟩ = some (.float .f64 b6) ∧ w'.cell? ⟨g, 2, none⟩ = some (.float .f64 c6)) (go_keep)
    (first | (go_at_call 26; refine (HC.out _).mono ?_; rintro e w' ⟨rfl, hg⟩;
              have a0 : w'.cell? ⟨g, 0, none⟩ = some (.float .f64 a6) := (hg.kp.cell (World.block_lt_of_cell? _ _ q0)).trans q0
              have a1 : w'.cell? ⟨g, 1, none⟩ = some (.float .f64 b6) := (hg.kp.cell (World.block_lt_of_cell? _ _ q1)).trans q1
              have a2 : w'.cell? ⟨g, 2, none⟩ = some (.float .f64 c6) := (hg.kp.cell (World.block_lt_of_cell? _ _ q2)).trans q2
              have HG := Lib.hid hg
              clear hg)
           | (go_at_call 25; refine (HS.out _).mono ?_; rintro e w' ⟨rfl, hg2⟩;
              have b0 : w'.cell? ⟨g, 0, none⟩ = some (.float .f64 a6) := (hg2.kp.cell (World.block_lt_of_cell? _ _ a0)).trans a0
              have b1 : w'.cell? ⟨g, 1, none⟩ = some (.float .f64 b6) := (hg2.kp.cell (World.block_lt_of_cell? _ _ a1)).trans a1
              have b2 : w'.cell? ⟨g, 2, none⟩ = some (.float .f64 c6) := (hg2.kp.cell (World.block_lt_of_cell? _ _ a2)).trans a2
              have HG2 := Lib.hid hg2
              clear hg2))
  go_wp2_with fail
  go_ret
  exact ⟨rfl, (HG.out.drew0.grew).trans HG2.out⟩
end Go.Proofs.YtcmeaogbfecjkaaGreatDoor
