/- laws.FnZoomOf's helpers over what was told: the settings in memory, their text, the background. -/
import Derived.Test.YtcmeaogbfecjkaaGreatDoorG11
namespace Go.Proofs.YtcmeaogbfecjkaaGreatDoor
open Go.RowKit

def colI : Option Nat → Int
  | none => -1
  | some c => c
/-- The cells of the settings beside the first. -/
def moreV (col : Option Nat) (border : Bool) : List Value :=
  (match col with | some c => [.string bgS, .string ⟨(hexL c).toArray⟩] | none => []) ++ (if border then [.string boS, .string onS] else [])
def moreN (col : Option Nat) (border : Bool) : Nat := (match col with | some _ => 1 | none => 0) + (if border then 1 else 0)

theorem tinted_told (col : Option Nat) (border : Bool) (base : Nat) (v : Value) (xs : List Value) (w : World) (hb : base ≤ w.heap.size) (hown : w.ownsRow base 36 2 v 1 xs) :
    Calls Tryz.prog 9 #[v, .int .i64 (colI col), .bool border] w fun e w' => ∃ v', e = .returned v' ∧ w'.ownsRow base 36 2 v' (1 + moreN col border) (xs ++ moreV col border) ∧ Kp base w w' := by
  cases col with
  | none =>
    cases border with
    | false =>
      refine (tinted_00 v (-1) (by omega) w).mono ?_
      rintro e w' ⟨he, rfl⟩
      exact ⟨v, he, by simpa [moreN, moreV] using hown, Kp.refl _ _⟩
    | true =>
      refine (tinted_01 base v 1 xs (by omega) (-1) (by omega) w hb hown).mono ?_
      rintro e w' ⟨v', he, ho, hk⟩
      exact ⟨v', he, by simpa [moreN, moreV] using ho, hk⟩
  | some c =>
    cases border with
    | false =>
      refine (tinted_10 base v 1 xs (by omega) c w hb hown).mono ?_
      rintro e w' ⟨v', he, ho, hk⟩
      exact ⟨v', he, by simpa [moreN, moreV] using ho, hk⟩
    | true =>
      refine (tinted_11 base v 1 xs (by omega) c w hb hown).mono ?_
      rintro e w' ⟨v', he, ho, hk⟩
      exact ⟨v', he, by simpa [moreN, moreV] using ho, hk⟩

/-- A row of one setting is owned by who made it. -/
theorem row_one (W : World) (base : Nat) (x y : Value) (hb : base ≤ W.heap.size) : (W.alloc (.cells #[x, y] 36)).ownsRow base 36 2 (.slice (some ⟨W.heap.size, 0, none⟩) 1 1) 1 [x, y] :=
  ⟨rfl, .inr ⟨W.heap.size, 1, #[x, y], rfl, hb, heap_alloc_new _ _, by omega, by decide, rfl, rfl⟩⟩

theorem joined_told (j : Nat) (hj : j < 3) (n : Int) (h1 : -400 ≤ n) (h2 : n ≤ 400) (loose : Bool) (col : Option Nat) (border : Bool) (base : Nat) (v : Value) (w : World)
    (hown : w.ownsRow base 36 2 v (1 + moreN col border) ([.string ⟨(nameL j).toArray⟩, .string ⟨(qtrI n).toArray⟩] ++ moreV col border)) :
    Calls Tryz.prog 10 #[v, .bool loose] w fun e w' => e = .returned (bs (joinC 44 (partsOf j n loose col border))) ∧ Grew w w' := by
  have hl := qtrI_len n (by omega) (by omega)
  have hnl : (nameL j).length ≤ 7 := by rcases (by omega : j = 0 ∨ j = 1 ∨ j = 2) with rfl | rfl | rfl <;> decide
  have hrow : ∃ g cap, v = .slice (some ⟨g, 0, none⟩) (1 + moreN col border) cap ∧ ∀ (i : Nat) (x : Value), ([.string ⟨(nameL j).toArray⟩, .string ⟨(qtrI n).toArray⟩] ++ moreV col border)[i]? = some x → w.cell? ⟨g, i, none⟩ = some x := by
    rcases hown.2 with ⟨_, h0⟩ | ⟨g, cap, cur, hv, hb, hg, hn, _, _, ht⟩
    · omega
    · refine ⟨g, cap, hv, fun i x hx => ?_⟩
      rw [← ht] at hx
      have hi : i < (1 + moreN col border) * 2 := by
        by_cases hi : i < (1 + moreN col border) * 2
        · exact hi
        · rw [List.getElem?_eq_none (by simp; omega)] at hx; cases hx
      rw [List.getElem?_take_of_lt hi] at hx
      simp only [World.cell?, hg]
      simpa using hx
  obtain ⟨g, cap, rfl, hc⟩ := hrow
  have s0 : (⟨(nameL j).toArray⟩ : ByteArray).size ≤ 20 := by rw [bs_size]; omega
  have t0 : (⟨(qtrI n).toArray⟩ : ByteArray).size ≤ 20 := by rw [bs_size]; omega
  have c0 := hc 0 _ rfl
  have c1 := hc 1 _ rfl
  have gen : ∀ l : List UInt8, ∀ b : ByteArray, b.data.toList = l → (.returned (.string b) : Ending) = .returned (bs l) := fun l b h => by subst h; rfl
  cases col with
  | none =>
    cases border with
    | false =>
      cases loose
      · refine (joined_1f _ _ g cap w c0 c1 s0 t0).mono ?_
        rintro e w' ⟨rfl, hk⟩
        exact ⟨gen _ _ (by simp [partsOf, joinC, partT, ByteArray.data_append]), hk⟩
      · refine (joined_1t _ _ g cap w c0 c1 s0 t0).mono ?_
        rintro e w' ⟨rfl, hk⟩
        exact ⟨gen _ _ (by simp [partsOf, joinC, partT, ByteArray.data_append]), hk⟩
    | true =>
      have c2 := hc 2 _ rfl
      have c3 := hc 3 _ rfl
      cases loose
      · refine (joined_2f _ _ _ _ g cap w c0 c1 s0 t0 c2 c3 (by decide) (by decide)).mono ?_
        rintro e w' ⟨rfl, hk⟩
        exact ⟨gen _ _ (by simp [partsOf, joinC, partT, ByteArray.data_append]), hk⟩
      · refine (joined_2t _ _ _ _ g cap w c0 c1 s0 t0 c2 c3 (by decide) (by decide)).mono ?_
        rintro e w' ⟨rfl, hk⟩
        exact ⟨gen _ _ (by simp [partsOf, joinC, partT, ByteArray.data_append]), hk⟩
  | some c =>
    have c2 := hc 2 _ rfl
    have c3 := hc 3 _ rfl
    have t1 : (⟨(hexL c).toArray⟩ : ByteArray).size ≤ 20 := by rw [bs_size]; show 7 ≤ 20; omega
    cases border with
    | false =>
      cases loose
      · refine (joined_2f _ _ _ _ g cap w c0 c1 s0 t0 c2 c3 (by decide) t1).mono ?_
        rintro e w' ⟨rfl, hk⟩
        exact ⟨gen _ _ (by simp [partsOf, joinC, partT, ByteArray.data_append]), hk⟩
      · refine (joined_2t _ _ _ _ g cap w c0 c1 s0 t0 c2 c3 (by decide) t1).mono ?_
        rintro e w' ⟨rfl, hk⟩
        exact ⟨gen _ _ (by simp [partsOf, joinC, partT, ByteArray.data_append]), hk⟩
    | true =>
      have c4 := hc 4 _ rfl
      have c5 := hc 5 _ rfl
      cases loose
      · refine (joined_3f _ _ _ _ _ _ g cap w c0 c1 s0 t0 c2 c3 (by decide) t1 c4 c5 (by decide) (by decide)).mono ?_
        rintro e w' ⟨rfl, hk⟩
        exact ⟨gen _ _ (by simp [partsOf, joinC, partT, ByteArray.data_append]), hk⟩
      · refine (joined_3t _ _ _ _ _ _ g cap w c0 c1 s0 t0 c2 c3 (by decide) t1 c4 c5 (by decide) (by decide)).mono ?_
        rintro e w' ⟨rfl, hk⟩
        exact ⟨gen _ _ (by simp [partsOf, joinC, partT, ByteArray.data_append]), hk⟩
end Go.Proofs.YtcmeaogbfecjkaaGreatDoor
