/- A length of at most 100 units is near itself; its reckoning by the law. -/
import Derived.Test.YtcmeaogbfecjkaaGreatDoorC6
import Derived.Test.YtcmeaogbfecjkaaGreatDoorF5
import Derived.Test.YtcmeaogbfecjkaaGreatDoorF3
namespace Go.Proofs.YtcmeaogbfecjkaaGreatDoor
open Go.RowKit Ieee

def okM (n : Nat) : Bool := (double.div (floatOfInt .f64 n) four64).isSome && (double.mul (qf n) (perB 0) == some (qf n)) && (double.mul (qf n) (perB 1)).isSome && (double.mul (qf n) (perB 2)).isSome && (double.mul (qf n) (perB 3)).isSome && nearB (qf n) && nearB (yv 1 n) && nearB (yv 2 n) && nearB (yv 3 n)
theorem okM_1 : fromTo okM 1 100 = true := by decide +kernel
theorem okM_101 : fromTo okM 101 100 = true := by decide +kernel
theorem okM_201 : fromTo okM 201 100 = true := by decide +kernel
theorem okM_301 : fromTo okM 301 100 = true := by decide +kernel
theorem okM_all (n : Nat) (h1 : 1 ≤ n) (h2 : n < 401) : okM n = true := by
  by_cases c1 : n < 101
  · exact of_fromTo okM_1 n (by omega) (by omega)
  by_cases c101 : n < 201
  · exact of_fromTo okM_101 n (by omega) (by omega)
  by_cases c201 : n < 301
  · exact of_fromTo okM_201 n (by omega) (by omega)
  exact of_fromTo okM_301 n (by omega) (by omega)

/-- A length as the law reckons it, and that it is near itself. -/
structure LenOk (u : Nat) (n : Int) : Prop where
  quarter : double.div (floatOfInt .f64 n) four64 = some (qf n)
  mul : double.mul (qf n) (perB u) = some (usz u n)
  near : nearB (usz u n) = true
  nearq : nearB (qf n) = true

theorem getD_of {o : Option Nat} (h : o.isSome = true) : o = some (o.getD 0) := by
  cases o with
  | none => cases h
  | some x => rfl

theorem len_ok (u : Nat) (hu : u < 4) (n : Int) (h0 : n ≠ 0) (h1 : -400 ≤ n) (h2 : n ≤ 400) : LenOk u n := by
  have key : (double.div (floatOfInt .f64 n) four64).isSome = true ∧ double.mul (qf n) (perB 0) = some (qf n) ∧ (double.mul (qf n) (perB 1)).isSome = true ∧ (double.mul (qf n) (perB 2)).isSome = true ∧ (double.mul (qf n) (perB 3)).isSome = true ∧
      nearB (qf n) = true ∧ nearB (yv 1 n) = true ∧ nearB (yv 2 n) = true ∧ nearB (yv 3 n) = true := by
    by_cases hp : 0 ≤ n
    · obtain ⟨k, rfl⟩ := Int.eq_ofNat_of_zero_le hp
      have hk := okM_all k (by omega) (by omega)
      unfold okM at hk
      simp only [Bool.and_eq_true, beq_iff_eq] at hk
      obtain ⟨⟨⟨⟨⟨⟨⟨⟨a0, a1⟩, a2⟩, a3⟩, a4⟩, a5⟩, a6⟩, a7⟩, a8⟩ := hk
      exact ⟨a0, a1, a2, a3, a4, a5, a6, a7, a8⟩
    · obtain ⟨k, rfl⟩ : ∃ k : Nat, n = -(k : Int) := ⟨(-n).toNat, by omega⟩
      have hk := okN_all k (by omega) (by omega)
      unfold okN at hk
      simp only [Bool.and_eq_true, beq_iff_eq] at hk
      obtain ⟨⟨⟨⟨⟨⟨⟨⟨⟨⟨_, a0⟩, _⟩, a1⟩, a2⟩, a3⟩, a4⟩, b0⟩, b1⟩, b2⟩, b3⟩ := hk
      have hy : yv 0 (-(k : Int)) = qf (-(k : Int)) := by unfold yv; rw [a1]; rfl
      rw [hy] at b0
      exact ⟨a0, a1, a2, a3, a4, b0, b1, b2, b3⟩
  obtain ⟨k0, k1, k2, k3, k4, k5, k6, k7, k8⟩ := key
  refine ⟨getD_of k0, ?_, ?_, k5⟩
  · rcases (by omega : u = 0 ∨ u = 1 ∨ u = 2 ∨ u = 3) with rfl | rfl | rfl | rfl
    · exact k1
    · exact getD_of k2
    · exact getD_of k3
    · exact getD_of k4
  · rcases (by omega : u = 0 ∨ u = 1 ∨ u = 2 ∨ u = 3) with rfl | rfl | rfl | rfl
    · exact k5
    · exact k6
    · exact k7
    · exact k8

theorem near_zero : nearB 0 = true := by decide +kernel

/-- Near(y, y). -/
theorem near_any (y : Nat) (h : nearB y = true) (w : World) : Calls Tryz.prog 12 #[.float .f64 y, .float .f64 y] w fun e w' => e = .returned (.bool true) ∧ w = w' := by
  unfold nearB at h
  split at h
  · rename_i d hd
    have r1 := fun w : World => run_float_arith (P := Tryz.prog) w .sub 24 .f64 _ _ _ hd
    simp only at h
    split at h
    · rename_i a ha
      split at h
      · rename_i b hb
        have r2 := fun w : World => run_float_arith (P := Tryz.prog) w .add 24 .f64 _ _ _ ha
        have r3 := fun w : World => run_float_arith (P := Tryz.prog) w .mul 24 .f64 _ _ _ hb
        clear ha hb hd
        cases t1 : (double.order d 0 == some .lt) <;> cases t2 : (double.order y 0 == some .lt)
        all_goals
          simp only [t1, t2, Bool.false_eq_true, if_false, if_true] at r2 h
          have g1 : (FloatKind.f64.format.order d 0 == some .lt) = _ := t1
          have g2 : (FloatKind.f64.format.order y 0 == some .lt) = _ := t2
          have g3 : (FloatKind.f64.format.order _ b == some .lt || FloatKind.f64.format.order _ b == some .eq) = true := h
          clear t1 t2 h
          unfold one64 at r2
          have hneg : ∀ (x : Nat) (w : World), (Op.unary .neg (.float .f64 x)).run Tryz.prog w = .ok (.float .f64 (Op.negFloat .f64 x)) w := fun _ _ => rfl
          go_enter Tryz.func12, Tryz.ntmps12
          go_wp2_with fail
          go_ret
          exact ⟨rfl, rfl⟩
      · cases h
    · cases h
  · cases h
end Go.Proofs.YtcmeaogbfecjkaaGreatDoor
