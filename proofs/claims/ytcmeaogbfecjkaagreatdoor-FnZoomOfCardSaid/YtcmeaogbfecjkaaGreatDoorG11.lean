/- ZoomOf answers the zoom that its settings tell. -/
import Derived.Test.YtcmeaogbfecjkaaGreatDoorG10
namespace Go.Proofs.YtcmeaogbfecjkaaGreatDoor
open Go.RowKit

theorem stage_end (F H V : Nat) (u : Int) (col : Option Nat) (border : Bool) (j : Nat) (n : Int) (loose : Bool) : stageZ F H V u col border (partsOf j n loose col border).length =
    (match col with | none => ZIs F H V u border (.pointer none) | some c => ZB F H V u border (c32 (c / 65536)) (c32 (c / 256 % 256)) (c32 (c % 256))) := by
  cases col <;> cases border <;> rfl

theorem nameL_no (j : Nat) (hj : j < 3) : (44 : UInt8) ∉ nameL j := by
  rcases (by omega : j = 0 ∨ j = 1 ∨ j = 2) with rfl | rfl | rfl <;> decide

theorem parts_ok (j : Nat) (hj : j < 3) (n : Int) (h1 : -400 ≤ n) (h2 : n ≤ 400) (loose : Bool) (col : Option Nat) (border : Bool) :
    (∀ p ∈ partsOf j n loose col border, (44 : UInt8) ∉ p) ∧ (joinC 44 (partsOf j n loose col border)).length ≤ 1000 ∧ (partsOf j n loose col border).length ≤ 10 ∧ joinC 44 (partsOf j n loose col border) ≠ [] := by
  have hd := digs_no _ (qtrI_digs n) 44 (by decide)
  have hl := qtrI_len n (by omega) (by omega)
  have hnl : (nameL j).length ≤ 7 := by rcases (by omega : j = 0 ∨ j = 1 ∨ j = 2) with rfl | rfl | rfl <;> decide
  have e1 := part_no false loose (nameL j) (qtrI n) (nameL_no j hj) hd
  have e2 : ∀ c, (44 : UInt8) ∉ partT loose loose bgS.data.toList (hexL c) := fun c => part_no loose loose _ _ (by decide) (hexL_without c 44 (by decide) (by decide))
  have e3 : (44 : UInt8) ∉ partT loose loose boS.data.toList onS.data.toList := part_no loose loose _ _ (by decide) (by decide)
  have l1 := part_len false loose (nameL j) (qtrI n)
  have l2 : ∀ c, (partT loose loose bgS.data.toList (hexL c)).length ≤ 17 := fun c => (part_len loose loose bgS.data.toList (hexL c)).1
  have l3 : (partT loose loose boS.data.toList onS.data.toList).length ≤ 11 := (part_len loose loose _ _).1
  have hne := l1.2
  have l1' : (partT false loose (nameL j) (qtrI n)).length ≤ 40 := by have := l1.1; omega
  unfold partsOf
  generalize partT false loose (nameL j) (qtrI n) = p1 at *
  generalize partT loose loose boS.data.toList onS.data.toList = p3 at *
  cases col with
  | none =>
    cases border
    · exact ⟨by simpa using e1, by simp [joinC]; omega, by simp, by simpa [joinC] using hne⟩
    · exact ⟨by simp; exact ⟨e1, e3⟩, by simp [joinC]; omega, by simp, by simp [joinC]⟩
  | some c =>
    have e2c : (44 : UInt8) ∉ partT loose loose [98, 103, 99, 111, 108, 111, 114] (hexL c) := e2 c
    have l2c : (partT loose loose [98, 103, 99, 111, 108, 111, 114] (hexL c)).length ≤ 17 := l2 c
    cases border
    · exact ⟨by simp; exact ⟨e1, e2c⟩, by simp [joinC]; omega, by simp, by simp [joinC]⟩
    · exact ⟨by simp; exact ⟨e1, e2c, e3⟩, by simp [joinC]; omega, by simp, by simp [joinC]⟩

theorem told_any (G j : Nat) (hj : j < 3) (n : Int) (h0 : n ≠ 0) (h1 : -400 ≤ n) (h2 : n ≤ 400) (hf : j = 0 → 0 < n ∧ n ≠ 4) (u : Nat) (hu : u < 4) (loose : Bool) (col : Option Nat) (hcol : ∀ c, col = some c → c < 16777216) (border : Bool) (w : World) (hV : VarsZ G w) :
    Calls Tryz.prog 6 #[bs (joinC 44 (partsOf j n loose col border)), .int .i64 u] w fun e w' => ∃ v, e = .returned (.tuple #[.agg #[.float .f64 (if j = 0 then qf n else 0), .float .f64 (if j = 1 then usz u n else 0), .float .f64 (if j = 2 then usz u n else 0), .bool border, v], .bool true]) ∧ Back w.heap.size w' v col ∧ Kp w.heap.size w w' := by
  obtain ⟨p1, p2, p3, p4⟩ := parts_ok j hj n h1 h2 loose col border
  have hit := stage_items G j hj n h0 h1 h2 hf u hu loose col hcol border
  have hnz := ne_zero_bits n h0 h1 h2
  have hcond : ((FloatKind.f64.format.order (if j = 0 then qf n else 0) 0 != some .eq) = false ∨ ((FloatKind.f64.format.order (if j = 0 then qf n else 0) 0 != some .eq) = true ∧ (FloatKind.f64.format.order (if j = 1 then usz u n else 0) 0 != some .eq) = false ∧ (FloatKind.f64.format.order (if j = 2 then usz u n else 0) 0 != some .eq) = false)) := by
    rcases (by omega : j = 0 ∨ j = 1 ∨ j = 2) with rfl | rfl | rfl
    · exact .inr ⟨hnz, zero_bits, zero_bits⟩
    · exact .inl zero_bits
    · exact .inl zero_bits
  generalize (if j = 0 then qf n else 0) = F at *
  generalize (if j = 1 then usz u n else 0) = H at *
  generalize (if j = 2 then usz u n else 0) = V at *
  have hend : ∀ Z w, stageZ F H V u col border (partsOf j n loose col border).length Z w → ∃ c, ZAt w Z F H V u border c := by
    intro Z w h
    rw [stage_end] at h
    cases col with
    | none => exact ⟨_, h⟩
    | some c =>
      obtain ⟨k, _, h2, _⟩ := h
      exact ⟨_, h2⟩
  have hparse : ∀ w1, VarsZ G w1 → Calls Tryz.prog 21 #[bs (joinC 44 (partsOf j n loose col border)), .int .i64 u] w1 fun e w' => ∃ Z, e = .returned (.tuple #[.pointer (some ⟨Z, 0, none⟩), .nilIface]) ∧ w1.heap.size ≤ Z ∧ stageZ F H V u col border (partsOf j n loose col border).length Z w' ∧ Kp w1.heap.size w1 w' := by
    intro w1 hV1
    have := parseZoom_any G (partsOf j n loose col border) (by unfold partsOf; simp) p1 p2 p3 p4 u (fun i => stageZ F H V u col border i) (fun w Z h => h) (fun i => stageZ_stable _ _ _ _ _ _ i) hit
      (fun Z w h => by obtain ⟨c, hc⟩ := hend Z w h; exact ⟨F, H, V, border, c, hc, hcond⟩) w1 hV1
    refine this.mono ?_
    rintro e w' ⟨Z, he, hz, hP, hK, _⟩
    exact ⟨Z, he, hz, hP, hK⟩
  have hown : Own (stageZ F H V u col border (partsOf j n loose col border).length) := by
    intro Z w1 w2 h hk
    rw [stage_end] at h ⊢
    cases col with
    | none =>
      show ZAt _ _ _ _ _ _ _ _
      have h' : ZAt w1 Z F H V u border (.pointer none) := h
      unfold ZAt at *
      rw [hk Z (Nat.le_refl _) (Array.getElem?_eq_some_iff.1 h').1]
      exact h'
    | some c =>
      obtain ⟨k, h1, h2, h3⟩ := h
      refine ⟨k, h1, ?_, ?_⟩
      · unfold ZAt at *
        rw [hk Z (Nat.le_refl _) (Array.getElem?_eq_some_iff.1 h2).1]
        exact h2
      · unfold CAt at *
        rw [hk k (by omega) (Array.getElem?_eq_some_iff.1 h3).1]
        exact h3
  cases col with
  | none =>
    refine (zoomOf_ok ⟨(joinC 44 (partsOf j n loose none border)).toArray⟩ u _ hown w F H V border (fun Z w h => by rw [stage_end] at h; exact h) (fun w1 hk => hparse w1 (hV.kp (hk.mono hV.sz)))).mono ?_
    rintro e w' ⟨he, hk⟩
    exact ⟨_, he, rfl, hk⟩
  | some c =>
    have hc := hcol c rfl
    refine (zoomOf_col ⟨(joinC 44 (partsOf j n loose (some c) border)).toArray⟩ u _ hown w F H V border (c / 65536) (c / 256 % 256) (c % 256) (by omega) (by omega) (by omega) (fun Z w h => by rw [stage_end] at h; obtain ⟨k, _, h2, h3⟩ := h; exact ⟨k, h2, h3⟩) (fun w1 hk => hparse w1 (hV.kp (hk.mono hV.sz)))).mono ?_
    rintro e w' ⟨g, he, hg, hr, hk⟩
    exact ⟨_, he, ⟨g, hg, rfl, hr⟩, hk⟩
end Go.Proofs.YtcmeaogbfecjkaaGreatDoor
