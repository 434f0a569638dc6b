/- ZoomOf over settings that were told: a factor or a margin, a background or none, a border or none. -/
import Derived.Test.YtcmeaogbfecjkaaGreatDoorG9
namespace Go.Proofs.YtcmeaogbfecjkaaGreatDoor
open Go.RowKit

theorem part_no (lead loose : Bool) (p r : List UInt8) (hp : (44 : UInt8) ∉ p) (hr : (44 : UInt8) ∉ r) : (44 : UInt8) ∉ partT lead loose p r := by
  cases lead <;> cases loose <;> simp [partT, hp, hr]
theorem part_len (lead loose : Bool) (p r : List UInt8) : (partT lead loose p r).length ≤ p.length + r.length + 3 ∧ partT lead loose p r ≠ [] := by
  cases lead <;> cases loose <;> simp [partT] <;> omega

def partsOf (j : Nat) (n : Int) (loose : Bool) (col : Option Nat) (border : Bool) : List (List UInt8) :=
  partT false loose (nameL j) (qtrI n) :: ((match col with | some c => [partT loose loose bgS.data.toList (hexL c)] | none => []) ++ (if border then [partT loose loose boS.data.toList onS.data.toList] else []))

/-- A background in memory is the one that was told. -/
def Back (B : Nat) (w : World) (v : Value) : Option Nat → Prop
  | none => v = .slice none 0 0
  | some c => ∃ g, B ≤ g ∧ v = .slice (some ⟨g, 0, none⟩) 1 1 ∧ RowC w g (c / 65536) (c / 256 % 256) (c % 256)

/-- What is known of the zoom behind so many parts. -/
def stageZ (F H V : Nat) (u : Int) (col : Option Nat) (border : Bool) (i : Nat) : Nat → World → Prop :=
  if i = 0 then ZIs 0 0 0 u false (.pointer none)
  else match col with
    | none => if i = 1 then ZIs F H V u false (.pointer none) else ZIs F H V u border (.pointer none)
    | some c => if i = 1 then ZIs F H V u false (.pointer none) else if i = 2 then ZB F H V u false (c32 (c / 65536)) (c32 (c / 256 % 256)) (c32 (c % 256)) else ZB F H V u border (c32 (c / 65536)) (c32 (c / 256 % 256)) (c32 (c % 256))

theorem stageZ_stable (F H V : Nat) (u : Int) (col : Option Nat) (border : Bool) (i : Nat) : Stable (stageZ F H V u col border i) := by
  unfold stageZ
  cases col
  · split
    · exact ZIs.stable _ _ _ _ _ _
    · simp only
      split <;> exact ZIs.stable _ _ _ _ _ _
  · split
    · exact ZIs.stable _ _ _ _ _ _
    · simp only
      split
      · exact ZIs.stable _ _ _ _ _ _
      · split <;> exact ZB.stable _ _ _ _ _ _ _ _

theorem hexL_vis (n : Nat) : visB (hexL n) = true := by
  unfold visB
  rw [List.all_eq_true]
  intro b hb
  rcases hexL_mem n b hb with h | h
  · subst h; decide
  · simp only [Bool.and_eq_true, decide_eq_true_eq]; omega

theorem item_bg (G : Nat) (lead loose : Bool) (c : Nat) (hc : c < 16777216) (F H V : Nat) (u : Int) :
    Item G (ZIs F H V u false (.pointer none)) (ZB F H V u false (c32 (c / 65536)) (c32 (c / 256 % 256)) (c32 (c % 256))) (partT lead loose bgS.data.toList (hexL c)) := by
  refine item_any G 3 _ _ lead loose _ _ bgL_nm (hexL_vis c) (hexL_without c 58 (by decide) (by decide)) (by unfold hexL; simp) (by show 7 ≤ 20; omega) ?_
  intro w Z m hV hGZ hz hm
  obtain ⟨ev, hE⟩ := hV.e
  exact handle_bg c hc w Z m hm ev hE F H V u false _ hz
theorem item_bo1 (G : Nat) (lead loose : Bool) (F H V : Nat) (u : Int) :
    Item G (ZIs F H V u false (.pointer none)) (ZIs F H V u true (.pointer none)) (partT lead loose boS.data.toList onS.data.toList) := by
  refine item_any G 4 _ _ lead loose _ _ boL_nm (by decide) (by decide) (by decide) (by decide) ?_
  intro w Z m hV hGZ hz hm
  exact handle_bo _ w Z m hm F H V u false _ hz (fun w' h _ => h)
theorem item_bo2 (G : Nat) (lead loose : Bool) (F H V : Nat) (u : Int) (a b c : Nat) :
    Item G (ZB F H V u false a b c) (ZB F H V u true a b c) (partT lead loose boS.data.toList onS.data.toList) := by
  refine item_any G 4 _ _ lead loose _ _ boL_nm (by decide) (by decide) (by decide) (by decide) ?_
  intro w Z m hV hGZ hz hm
  obtain ⟨k, h1, h2, h3⟩ := hz
  refine handle_bo _ w Z m hm F H V u false _ h2 (fun w' h hk => ⟨k, h1, h, ?_⟩)
  unfold CAt at *
  rw [hk.block k (Array.getElem?_eq_some_iff.1 h3).1 (by omega)]
  exact h3

theorem stage_items (G j : Nat) (hj : j < 3) (n : Int) (h0 : n ≠ 0) (h1 : -400 ≤ n) (h2 : n ≤ 400) (hf : j = 0 → 0 < n ∧ n ≠ 4) (u : Nat) (hu : u < 4) (loose : Bool) (col : Option Nat) (hcol : ∀ c, col = some c → c < 16777216) (border : Bool) :
    ∀ i (hi : i < (partsOf j n loose col border).length), Item G (stageZ (if j = 0 then qf n else 0) (if j = 1 then usz u n else 0) (if j = 2 then usz u n else 0) u col border i) (stageZ (if j = 0 then qf n else 0) (if j = 1 then usz u n else 0) (if j = 2 then usz u n else 0) u col border (i + 1)) (partsOf j n loose col border)[i] := by
  have first := item_first G j hj n h0 h1 h2 hf u hu false loose
  generalize (if j = 0 then qf n else 0) = F at *
  generalize (if j = 1 then usz u n else 0) = H at *
  generalize (if j = 2 then usz u n else 0) = V at *
  intro i hi
  cases col with
  | none =>
    cases border with
    | false =>
      have : i = 0 := by simp [partsOf] at hi; omega
      subst this
      exact first
    | true =>
      have : i = 0 ∨ i = 1 := by simp [partsOf] at hi; omega
      rcases this with rfl | rfl
      · exact first
      · exact item_bo1 G loose loose F H V u
  | some c =>
    have hc := hcol c rfl
    cases border with
    | false =>
      have : i = 0 ∨ i = 1 := by simp [partsOf] at hi; omega
      rcases this with rfl | rfl
      · exact first
      · exact item_bg G loose loose c hc F H V u
    | true =>
      have : i = 0 ∨ i = 1 ∨ i = 2 := by simp [partsOf] at hi; omega
      rcases this with rfl | rfl | rfl
      · exact first
      · exact item_bg G loose loose c hc F H V u
      · exact item_bo2 G loose loose F H V u _ _ _
end Go.Proofs.YtcmeaogbfecjkaaGreatDoor
