/- Plain facts on double precision numbers: positive finite words are ordered as their bits are; a number is near itself. -/
import Derived.Laws.FloatArith
namespace Go.Proofs.YtcmeaogbfecjkaaGreatDoor
open Ieee

abbrev inf64 : Nat := 9218868437227405312

/-- The magnitude and the place of a positive finite word. -/
def magOf (w : Nat) : Nat := if w < 4503599627370496 then w else 4503599627370496 + w % 4503599627370496
def upOf (w : Nat) : Nat := if w < 4503599627370496 then 0 else w / 4503599627370496 - 1

theorem read_pos (w : Nat) (h : w < inf64) : double.read w = .number false (magOf w) (double.leastPlace + (upOf w : Nat)) := by
  unfold inf64 at h
  have e1 : double.signWeight = 9223372036854775808 := by decide
  have e2 : double.binade = 4503599627370496 := by decide
  have e3 : double.infRung = 9218868437227405312 := by decide
  have hq : w / 9223372036854775808 = 0 := Nat.div_eq_of_lt (by omega)
  have hr : w % 9223372036854775808 = w := Nat.mod_eq_of_lt (by omega)
  unfold Format.read magOf upOf
  rw [e1, e2, e3, hq, hr]
  by_cases hb : w < 4503599627370496
  · simp [hb]
  · simp [hb, h]

theorem mag_up (a b : Nat) (h : a ≤ b) : upOf a ≤ upOf b ∧ magOf a ≤ magOf b <<< (upOf b - upOf a) := by
  have hup : upOf a ≤ upOf b := by
    unfold upOf
    by_cases ha : a < 4503599627370496
    · simp [ha]
    · have hb : ¬ b < 4503599627370496 := by omega
      rw [if_neg ha, if_neg hb]
      have := Nat.div_le_div_right (c := 4503599627370496) h
      omega
  refine ⟨hup, ?_⟩
  rw [Nat.shiftLeft_eq]
  have hp : 1 ≤ 2 ^ (upOf b - upOf a) := Nat.one_le_two_pow
  by_cases he : upOf a = upOf b
  · have : magOf a ≤ magOf b := by
      unfold magOf
      by_cases ha : a < 4503599627370496
      · by_cases hb : b < 4503599627370496
        · rw [if_pos ha, if_pos hb]; exact h
        · rw [if_pos ha, if_neg hb]; omega
      · have hb : ¬ b < 4503599627370496 := by omega
        rw [if_neg ha, if_neg hb]
        unfold upOf at he
        rw [if_neg ha, if_neg hb] at he
        have h1 : 1 ≤ a / 4503599627370496 := by omega
        have h2 : 1 ≤ b / 4503599627370496 := by omega
        have := Nat.div_add_mod a 4503599627370496
        have := Nat.div_add_mod b 4503599627370496
        omega
    rw [he]; simp; exact this
  · have h2 : 2 ≤ 2 ^ (upOf b - upOf a) := by
      calc 2 = 2 ^ 1 := rfl
        _ ≤ _ := Nat.pow_le_pow_right (by omega) (by omega)
    have hb1 : 4503599627370496 ≤ magOf b := by
      unfold magOf
      split
      · rename_i hb; unfold upOf at he hup; rw [if_pos hb] at he hup; omega
      · omega
    have ha1 : magOf a < 2 * 4503599627370496 := by
      unfold magOf; split
      · omega
      · have := Nat.mod_lt a (show 4503599627370496 > 0 by decide); omega
    calc magOf a ≤ 2 * 4503599627370496 := by omega
      _ ≤ magOf b * 2 := by omega
      _ ≤ _ := Nat.mul_le_mul_left _ h2

/-- A greater positive word is not below a smaller one. -/
theorem order_ge (a b : Nat) (h : a ≤ b) (hb : b < inf64) : (double.order b a == some .lt) = false := by
  unfold Format.order
  rw [read_pos a (by omega), read_pos b hb]
  obtain ⟨h1, h2⟩ := mag_up a b h
  unfold Datum.order
  dsimp only
  have e1 : min (double.leastPlace + (upOf b : Nat)) (double.leastPlace + (upOf a : Nat)) = double.leastPlace + (upOf a : Nat) := by omega
  rw [e1]
  have e2 : (double.leastPlace + (upOf b : Nat) - (double.leastPlace + (upOf a : Nat))).toNat = upOf b - upOf a := by omega
  have e3 : (double.leastPlace + (upOf a : Nat) - (double.leastPlace + (upOf a : Nat))).toNat = 0 := by omega
  rw [e2, e3]
  have hc : compare (signed false (magOf b) (upOf b - upOf a)) (signed false (magOf a) 0) ≠ .lt := by
    unfold signed
    simp only [Bool.false_eq_true, if_false, Nat.shiftLeft_zero]
    intro hc
    have := Int.compare_eq_lt.1 hc
    omega
  cases hc' : compare (signed false (magOf b) (upOf b - upOf a)) (signed false (magOf a) 0) <;> simp_all

theorem write_pos (m : Nat) (p : Int) : double.write (.number false m p) ≤ inf64 := by
  have e3 : double.infRung = 9218868437227405312 := by decide
  unfold Format.write Format.nearest inf64
  dsimp only
  split
  · unfold Format.word; simp
  · unfold Format.word
    simp only [Bool.false_eq_true, if_false]
    rw [← e3]; exact Nat.min_le_right ..

theorem read_le (w : Nat) (h : w ≤ inf64) : (∃ m p, double.read w = .number false m p) ∨ double.read w = .infinity false := by
  by_cases he : w < inf64
  · exact .inl ⟨_, _, read_pos w he⟩
  · obtain rfl : w = inf64 := by omega
    exact .inr (by decide +kernel)

theorem sum_pos {x y : Nat} (hx : x ≤ inf64) (hy : y ≤ inf64) : ∃ r, double.add x y = some r ∧ r ≤ inf64 := by
  have e3 : double.write (.infinity false) = inf64 := by decide +kernel
  unfold Format.add
  rcases read_le x hx with ⟨m, p, h1⟩ | h1 <;> rcases read_le y hy with ⟨n, q, h2⟩ | h2 <;> rw [h1, h2] <;> simp only [Datum.sum, if_true, Option.map_some]
  · refine ⟨_, rfl, ?_⟩
    have hs : ∀ (a b : Nat), signed false m a + signed false n b = ((m <<< a + n <<< b : Nat) : Int) := fun a b => by simp [signed]
    rw [hs]
    have : (if ((m <<< (p - min p q).toNat + n <<< (q - min p q).toNat : Nat) : Int) = 0 then (false && false) else decide (((m <<< (p - min p q).toNat + n <<< (q - min p q).toNat : Nat) : Int) < 0)) = false := by
      split
      · rfl
      · exact decide_eq_false (Int.not_lt.2 (Int.natCast_nonneg _))
    rw [this]; exact write_pos _ _
  · exact ⟨_, rfl, by rw [e3]; exact Nat.le_refl _⟩
  · exact ⟨_, rfl, by rw [e3]; exact Nat.le_refl _⟩
  · exact ⟨_, rfl, by rw [e3]; exact Nat.le_refl _⟩

theorem mul_pos {x y m : Nat} {p : Int} (hx : double.read x = .number false m p) (hm : m ≠ 0) (hy : y ≤ inf64) : ∃ r, double.mul x y = some r ∧ r ≤ inf64 := by
  have e3 : double.write (.infinity false) = inf64 := by decide +kernel
  unfold Format.mul
  rw [hx]
  rcases read_le y hy with ⟨n, q, h2⟩ | h2 <;> rw [h2] <;> simp only [Datum.product, Bool.xor_self, Option.map_some, hm, if_false]
  · exact ⟨_, rfl, write_pos _ _⟩
  · exact ⟨_, rfl, by rw [e3]; exact Nat.le_refl _⟩

theorem zero_le_pos {y : Nat} (hy : y ≤ inf64) : (double.order 0 y == some .lt || double.order 0 y == some .eq) = true := by
  have e0 : double.read 0 = .number false 0 double.leastPlace := by decide +kernel
  unfold Format.order
  rw [e0]
  rcases read_le y hy with ⟨n, q, h2⟩ | h2 <;> rw [h2] <;> simp only [Datum.order]
  · have h0 : ∀ a, signed false 0 a = 0 := fun a => by simp [signed]
    have h1 : ∀ a, signed false n a = ((n <<< a : Nat) : Int) := fun a => by simp [signed]
    rw [h0, h1]
    generalize n <<< _ = z
    cases hc : compare (0 : Int) (z : Int) with
    | lt => rfl
    | eq => rfl
    | gt => have := Int.compare_eq_gt.1 hc; omega
  · rfl

theorem pos_not_neg {y : Nat} (hy : y < inf64) : (double.order y 0 == some .lt) = false := order_ge 0 y (Nat.zero_le _) hy

theorem sub_self {y : Nat} (hy : y < inf64) : double.sub y y = some 0 := by
  unfold Format.sub
  rw [read_pos y hy]
  simp only [Datum.opposite, Datum.sum, Bool.not_false, Option.map_some]
  have h1 : ∀ (a : Nat) (p : Int), signed false a (p - min p p).toNat + signed true a (p - min p p).toNat = 0 := fun a p => by simp [signed]; omega
  rw [h1]
  rfl

/-- 'Near(y, y)' of a positive finite y: each step of the reckoning. -/
theorem near_steps {y : Nat} (hy : y < inf64) : ∃ a b, double.sub y y = some 0 ∧ (double.order 0 0 == some .lt) = false ∧ (double.order y 0 == some .lt) = false ∧
    double.add 4607182418800017408 y = some a ∧ double.mul 4472406533629990549 a = some b ∧ (double.order 0 b == some .lt || double.order 0 b == some .eq) = true := by
  obtain ⟨a, h1, h2⟩ := sum_pos (x := 4607182418800017408) (y := y) (by decide) (by omega)
  obtain ⟨b, h3, h4⟩ := mul_pos (x := 4472406533629990549) (y := a) (read_pos _ (by decide)) (by decide) h2
  exact ⟨a, b, sub_self hy, by decide +kernel, pos_not_neg hy, h1, h3, zero_le_pos h4⟩
end Go.Proofs.YtcmeaogbfecjkaaGreatDoor
