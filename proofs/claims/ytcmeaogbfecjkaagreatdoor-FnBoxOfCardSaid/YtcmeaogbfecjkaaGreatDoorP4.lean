/- The numbers of a box: quarters from 1 to 4000, read, as lengths, near themselves, and in their order. -/
import Derived.Test.YtcmeaogbfecjkaaGreatDoorG5
import Derived.Test.YtcmeaogbfecjkaaGreatDoorF4
namespace Go.Proofs.YtcmeaogbfecjkaaGreatDoor
open Go.RowKit Ieee

theorem near_pos {y : Nat} (hy : y < inf64) : nearB y = true := by
  obtain ⟨a, b, h1, h2, h3, h4, h5, h6⟩ := near_steps hy
  unfold nearB
  have e1 : one64 = 4607182418800017408 := rfl
  simp only [h1, h2, h3, e1, Bool.false_eq_true, if_false, h4, h5, h6]

/-- What a box's number gives. -/
structure BoxNum (u k : Nat) : Prop where
  parse : ∀ s : ByteArray, s.data.toList = qtrL k → ∀ w, Vars w → Calls Tryz.prog 60 #[.string s, .int .i64 64] w fun e w' => e = .returned (.tuple #[.float .f64 (qf k), .nilIface]) ∧ w = w'
  user : ∀ w, Calls Tryz.prog 61 #[.float .f64 (qf k), .int .i64 u] w fun e w' => e = .returned (.float .f64 (usz u k)) ∧ w = w'
  len : LenOk u k
  fin : usz u k < inf64

theorem box_num (u k : Nat) (hu : u < 4) (h1 : 1 ≤ k) (h2 : k ≤ 4000) : BoxNum u k := by
  have hk := okP_all k (by omega) (by omega)
  unfold okP at hk
  simp only [Bool.and_eq_true, decide_eq_true_eq, bne_iff_ne, beq_iff_eq] at hk
  obtain ⟨⟨⟨⟨⟨⟨⟨⟨⟨⟨_, d0⟩, p0⟩, p1⟩, a0⟩, a1⟩, a2⟩, a3⟩, f1⟩, f2⟩, f3⟩ := hk
  have hf : usz u k < inf64 := by
    unfold usz
    rcases (by omega : u = 0 ∨ u = 1 ∨ u = 2 ∨ u = 3) with rfl | rfl | rfl | rfl
    · exact p1
    · exact f1
    · exact f2
    · exact f3
  refine ⟨fun s hs w hV => parse_pos k s hs w hV h1 h2, fun w => user_any u k hu a1 a2 a3 w, ⟨getD_of d0, ?_, near_pos hf, near_pos p1⟩, hf⟩
  rcases (by omega : u = 0 ∨ u = 1 ∨ u = 2 ∨ u = 3) with rfl | rfl | rfl | rfl
  · exact a0
  · exact getD_of a1
  · exact getD_of a2
  · exact getD_of a3

theorem usz_next (u k : Nat) (hu : u < 4) (h1 : 1 ≤ k) (h2 : k < 4000) : usz u k < usz u ((k + 1 : Nat) : Int) := by
  have hk := okInc_all k h1 h2
  unfold okInc at hk
  simp only [Bool.and_eq_true, decide_eq_true_eq] at hk
  obtain ⟨⟨⟨i0, i1⟩, i2⟩, i3⟩ := hk
  have y0 : ∀ n : Nat, 1 ≤ n → n < 4001 → yv 0 n = qf n := by
    intro n g1 g2
    have hn := okP_all n g1 g2
    unfold okP at hn
    simp only [Bool.and_eq_true, decide_eq_true_eq, bne_iff_ne, beq_iff_eq] at hn
    obtain ⟨⟨⟨⟨⟨⟨⟨_, a0⟩, _⟩, _⟩, _⟩, _⟩, _⟩, _⟩ := hn
    unfold yv; rw [a0]; rfl
  unfold usz
  rcases (by omega : u = 0 ∨ u = 1 ∨ u = 2 ∨ u = 3) with rfl | rfl | rfl | rfl
  · have e1 := y0 k h1 (by omega)
    have e2 := y0 (k + 1) (by omega) (by omega)
    rw [if_pos rfl, if_pos rfl, ← e1, ← e2]
    exact i0
  · exact i1
  · exact i2
  · exact i3

theorem usz_le (u j : Nat) (hu : u < 4) (h1 : 1 ≤ j) : ∀ d, j + d ≤ 4000 → usz u j ≤ usz u ((j + d : Nat) : Int)
  | 0, _ => Nat.le_refl _
  | d + 1, h => Nat.le_trans (usz_le u j hu h1 d (by omega)) (Nat.le_of_lt (usz_next u (j + d) hu (by omega) (by omega)))

/-- A greater length is not below a smaller one. -/
theorem not_below (u j k : Nat) (hu : u < 4) (h1 : 1 ≤ j) (h : j ≤ k) (h2 : k ≤ 4000) : (double.order (usz u k) (usz u j) == some .lt) = false := by
  have hle := usz_le u j hu h1 (k - j) (by omega)
  rw [show j + (k - j) = k by omega] at hle
  exact order_ge _ _ hle (box_num u k hu (by omega) h2).fin
end Go.Proofs.YtcmeaogbfecjkaaGreatDoor
