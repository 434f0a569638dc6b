/- laws.FnBoxOf answers true at every input. -/
import Derived.Test.YtcmeaogbfecjkaaGreatDoorPI
import Derived.Test.YtcmeaogbfecjkaaGreatDoorPJ
import Derived.Test.YtcmeaogbfecjkaaGreatDoorPK
import Derived.Test.YtcmeaogbfecjkaaGreatDoorPL
import Derived.Test.YtcmeaogbfecjkaaGreatDoorPM
import Derived.Test.YtcmeaogbfecjkaaGreatDoorPN
namespace Go.Proofs.YtcmeaogbfecjkaaGreatDoor
open Go.RowKit

theorem near_len (u k : Nat) (hu : u < 4) (h : 4 ≤ k ∧ k ≤ 4000) : nearB (usz u k) = true := (box_num u k hu (by omega) h.2).len.near

/-- Where all four numbers are in their bounds. -/
theorem law_good (f u a k0 k1 k2 k3 : Nat) (hf : f ≤ 4) (hu : u < 4) (ha : a < 9) (h0 : 4 ≤ k0 ∧ k0 ≤ 4000) (h1 : 4 ≤ k1 ∧ k1 ≤ 4000) (h2 : 4 ≤ k2 ∧ k2 ≤ 4000) (h3 : 4 ≤ k3 ∧ k3 ≤ 4000) (w : World) (hV : Vars w) :
    Calls Tryz.prog 5 #[.int .i64 f, .agg #[.int .i64 k0, .int .i64 k1, .int .i64 k2, .int .i64 k3], .int .i64 a, .int .i64 u] w fun e w' => e = .returned (.bool true) ∧ Kp w.heap.size w w' := by
  have S := sums_of (qtrL k0) (qtrL k1) (qtrL k2) (qtrL k3) (qtr_text k0 h0.2).len (qtr_text k1 h1.2).len (qtr_text k2 h2.2).len (qtr_text k3 h3.2).len
  have Q0 := qtr_says k0 h0.1 h0.2
  have Q1 := qtr_says k1 h1.1 h1.2
  have Q2 := qtr_says k2 h2.1 h2.2
  have Q3 := qtr_says k3 h3.1 h3.2
  have N0 := num_steps u k0 hu h0.1 h0.2
  have N1 := num_steps u k1 hu h1.1 h1.2
  have N2 := num_steps u k2 hu h2.1 h2.2
  have N3 := num_steps u k3 hu h3.1 h3.2
  have y0 := near_len u k0 hu h0
  have y1 := near_len u k1 hu h1
  have y2 := near_len u k2 hu h2
  have y3 := near_len u k3 hu h3
  rcases (by omega : f = 0 ∨ f = 1 ∨ f = 2 ∨ f = 3 ∨ f = 4) with rfl | rfl | rfl | rfl | rfl
  · have hl := S.z4
    rw [bs_size] at hl
    have hB := fun (hc : k0 < k2 ∧ k1 < k3) w hV => of_rect u k0 k1 k2 k3 hu h0 h1 h2 h3 hc.1 hc.2 w hV
    have hz : (⟨([91] ++ joinC 32 [qtrL k0, qtrL k1, qtrL k2, qtrL k3]).toArray⟩ : ByteArray).size ≤ 36 := by
      rw [bs_size]
      simp only [List.length_append, List.length_cons, List.length_nil]
      omega
    exact law0 u k0 k1 k2 k3 a _ _ _ _ _ _ _ _ _ _ _ _ _ _ _ S _ _ (bs_append [91] _) (bs_append _ [93]) hz hu ha Q0 Q1 Q2 Q3 N0 N1 N2 N3 hB (nearRect_any _ _ _ _ y0 y1 y2 y3) w hV
  · exact law1 u k0 k1 k2 k3 a _ _ _ _ _ _ _ _ _ _ _ _ _ _ _ S hu ha Q0 Q1 Q2 Q3 N0 N1 N2 N3 (of_one u k0 hu h0.1 h0.2) (margins_any _ _ _ _ _ _ y0 y0 y0 y0) w hV
  · exact law2 u k0 k1 k2 k3 a _ _ _ _ _ _ _ _ _ _ _ _ _ _ _ S (bs_append _ _) hu ha Q0 Q1 Q2 Q3 N0 N1 N2 N3 (of_two u k0 k1 hu h0 h1) (margins_any _ _ _ _ _ _ y1 y1 y0 y0) w hV
  · exact law3 u k0 k1 k2 k3 a _ _ _ _ _ _ _ _ _ _ _ _ _ _ _ S hu ha Q0 Q1 Q2 Q3 N0 N1 N2 N3 (of_four u k0 k1 k2 k3 hu h0 h1 h2 h3) (margins_any _ _ _ _ _ _ y3 y1 y0 y2) w hV
  · have A := anchor_text a ha
    have hla := A.len
    have l0 := (qtr_text k0 h0.2).len
    have l1 := (qtr_text k1 h1.2).len
    have hB := fun w hV => of_dim u k0 k1 a hu ha h0 h1 w hV
    have he : joinC 44 [joinC 58 [posL, shortL a], joinC 58 [32 :: dimL, joinC 32 [qtrL k0, qtrL k1]]] = [112, 111, 115, 58] ++ shortL a ++ [44, 32, 100, 105, 109, 58] ++ qtrL k0 ++ [32] ++ qtrL k1 := by simp [joinC]
    rw [he] at hB
    have z0 : (⟨(shortL a).toArray⟩ : ByteArray).size ≤ 2 := by rw [bs_size]; exact hla
    have z1 : (⟨([112, 111, 115, 58] ++ shortL a).toArray⟩ : ByteArray).size ≤ 6 := by rw [bs_size]; simp only [List.length_append, List.length_cons, List.length_nil]; omega
    have z2 : (⟨([112, 111, 115, 58] ++ shortL a ++ [44, 32, 100, 105, 109, 58]).toArray⟩ : ByteArray).size ≤ 12 := by rw [bs_size]; simp only [List.length_append, List.length_cons, List.length_nil]; omega
    have z3 : (⟨([112, 111, 115, 58] ++ shortL a ++ [44, 32, 100, 105, 109, 58] ++ qtrL k0).toArray⟩ : ByteArray).size ≤ 20 := by rw [bs_size]; simp only [List.length_append, List.length_cons, List.length_nil]; omega
    have z4 : (⟨([112, 111, 115, 58] ++ shortL a ++ [44, 32, 100, 105, 109, 58] ++ qtrL k0 ++ [32]).toArray⟩ : ByteArray).size ≤ 21 := by rw [bs_size]; simp only [List.length_append, List.length_cons, List.length_nil]; omega
    exact law4 u k0 k1 k2 k3 a _ _ _ _ _ _ _ _ _ _ _ _ _ _ _ S ⟨(shortL a).toArray⟩ _ _ _ _ _ (bs_append [112, 111, 115, 58] _) (bs_append _ [44, 32, 100, 105, 109, 58]) (bs_append _ (qtrL k0)) (bs_append _ [32]) (bs_append _ (qtrL k1)) z0 z1 z2 z3 z4 rfl hu ha Q0 Q1 Q2 Q3 N0 N1 N2 N3 hB (nearPair_any _ _ y0 y1) w hV

theorem int_nat (n : Int) (h : 4 ≤ n ∧ n ≤ 4000) : ∃ k : Nat, n = k ∧ 4 ≤ k ∧ k ≤ 4000 := ⟨n.toNat, by omega, by omega, by omega⟩

/-- laws.FnBoxOf answers true. -/
theorem boxLaw_any (w : World) (hV : Vars w) (f n0 n1 n2 n3 a u : Int) :
    Calls Tryz.prog 5 #[.int .i64 f, .agg #[.int .i64 n0, .int .i64 n1, .int .i64 n2, .int .i64 n3], .int .i64 a, .int .i64 u] w fun e w' => e = .returned (.bool true) ∧ Kp w.heap.size w w' := by
  by_cases hg : f < 0 ∨ 4 < f ∨ a < 0 ∨ 8 < a ∨ u < 0 ∨ 4 ≤ u
  · exact bad_guard f a u n0 n1 n2 n3 hg w
  obtain ⟨g, rfl, hg4⟩ : ∃ g : Nat, f = g ∧ g ≤ 4 := ⟨f.toNat, by omega, by omega⟩
  obtain ⟨b, rfl, hb⟩ : ∃ b : Nat, a = b ∧ b < 9 := ⟨a.toNat, by omega, by omega⟩
  obtain ⟨v, rfl, hv⟩ : ∃ v : Nat, u = v ∧ v < 4 := ⟨u.toNat, by omega, by omega⟩
  by_cases c0 : 4 ≤ n0 ∧ n0 ≤ 4000
  case neg => exact bad0 g (by omega) (by omega) v b n0 n1 n2 n3 hv hb (by omega) w
  obtain ⟨k0, rfl, h0⟩ := int_nat n0 c0
  by_cases c1 : 4 ≤ n1 ∧ n1 ≤ 4000
  case neg => exact bad1 g (by omega) (by omega) v b k0 _ n1 n2 n3 _ _ _ _ _ _ _ _ _ _ _ (sums_of (qtrL k0) [] [] [] (qtr_text k0 h0.2).len (by simp) (by simp) (by simp)) hv hb (qtr_says k0 h0.1 h0.2) (num_steps v k0 hv h0.1 h0.2) (by omega) w
  obtain ⟨k1, rfl, h1⟩ := int_nat n1 c1
  by_cases c2 : 4 ≤ n2 ∧ n2 ≤ 4000
  case neg => exact bad2 g (by omega) (by omega) v b k0 k1 _ _ n2 n3 _ _ _ _ _ _ _ _ _ _ _ (sums_of (qtrL k0) (qtrL k1) [] [] (qtr_text k0 h0.2).len (qtr_text k1 h1.2).len (by simp) (by simp)) hv hb (qtr_says k0 h0.1 h0.2) (num_steps v k0 hv h0.1 h0.2) (qtr_says k1 h1.1 h1.2) (num_steps v k1 hv h1.1 h1.2) (by omega) w
  obtain ⟨k2, rfl, h2⟩ := int_nat n2 c2
  by_cases c3 : 4 ≤ n3 ∧ n3 ≤ 4000
  case neg => exact bad3 g (by omega) (by omega) v b k0 k1 k2 _ _ _ n3 _ _ _ _ _ _ _ _ _ _ _ (sums_of (qtrL k0) (qtrL k1) (qtrL k2) [] (qtr_text k0 h0.2).len (qtr_text k1 h1.2).len (qtr_text k2 h2.2).len (by simp)) hv hb (qtr_says k0 h0.1 h0.2) (num_steps v k0 hv h0.1 h0.2) (qtr_says k1 h1.1 h1.2) (num_steps v k1 hv h1.1 h1.2) (qtr_says k2 h2.1 h2.2) (num_steps v k2 hv h2.1 h2.2) (by omega) w
  obtain ⟨k3, rfl, h3⟩ := int_nat n3 c3
  exact law_good g v b k0 k1 k2 k3 hg4 hv hb h0 h1 h2 h3 w hV
end Go.Proofs.YtcmeaogbfecjkaaGreatDoor
