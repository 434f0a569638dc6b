/- The texts that the laws make of numbers: digits, and quarters. -/
import Derived.Test.YtcmeaogbfecjkaaGreatDoorProg
import Derived.WalkKit
import Derived.WalkSpells
import Derived.WalkLawsBesides
namespace Go.Proofs.YtcmeaogbfecjkaaGreatDoor
open Go.RowKit

/-- The digits of a number, by the law's own recursion. -/
def numL (n : Nat) : List UInt8 := if h : n < 10 then [UInt8.ofNat (48 + n)] else numL (n / 10) ++ numL (n % 10)
termination_by n
decreasing_by all_goals omega

theorem numL_len (n : Nat) (h : n < 100000) : (numL n).length ≤ 5 := by
  have step : ∀ a, (numL a).length = if a < 10 then 1 else (numL (a / 10)).length + 1 := by
    intro a
    rw [numL]
    split
    · simp
    · rename_i h10
      have : (numL (a % 10)).length = 1 := by rw [numL]; rw [dif_pos (by omega)]; rfl
      rw [List.length_append, this]
  have h1 : ∀ a, a < 10 → (numL a).length ≤ 1 := fun a ha => by rw [step]; rw [if_pos ha]; omega
  have h2 : ∀ a, a < 100 → (numL a).length ≤ 2 := fun a ha => by
    rw [step]; split
    · omega
    · have := h1 (a / 10) (by omega); omega
  have h3 : ∀ a, a < 1000 → (numL a).length ≤ 3 := fun a ha => by
    rw [step]; split
    · omega
    · have := h2 (a / 10) (by omega); omega
  have h4 : ∀ a, a < 10000 → (numL a).length ≤ 4 := fun a ha => by
    rw [step]; split
    · omega
    · have := h3 (a / 10) (by omega); omega
  rw [step]; split
  · omega
  · have := h4 (n / 10) (by omega); omega

abbrev bs (l : List UInt8) : Value := .string ⟨l.toArray⟩

theorem bs_append (l m : List UInt8) : (⟨l.toArray⟩ ++ ⟨m.toArray⟩ : ByteArray) = ⟨(l ++ m).toArray⟩ := by
  apply ByteArray.ext; simp [ByteArray.data_append]

theorem dig_cut (n : Nat) (h : n < 10) : (⟨#[48, 49, 50, 51, 52, 53, 54, 55, 56, 57]⟩ : ByteArray).extract n (n + 1) = ⟨(numL n).toArray⟩ := by
  have : ∀ n : Fin 10, (⟨#[48, 49, 50, 51, 52, 53, 54, 55, 56, 57]⟩ : ByteArray).extract n (n + 1) = ⟨([UInt8.ofNat (48 + n)] : List UInt8).toArray⟩ := by decide
  rw [numL, dif_pos h]; exact this ⟨n, h⟩

set_option maxHeartbeats 400000 in
theorem numeral_any (k : Nat) : ∀ (n : Int) (w : World), 0 ≤ n → n ≤ k → n < 100000 →
    Calls Tryz.prog 23 #[.int .i64 n] w fun e w' => e = .returned (bs (numL n.toNat)) ∧ w = w' := by
  induction k with
  | zero =>
    intro n w h0 hk _
    obtain rfl : n = 0 := by omega
    go_enter Tryz.func23, Tryz.ntmps23
    go_wp2_with fail
    go_ret
    exact ⟨congrArg (fun b => Ending.returned (.string b)) (dig_cut 0 (by omega)), rfl⟩
  | succ k ih =>
    intro n w h0 hk hn
    by_cases h10 : n < 10
    · obtain ⟨m, rfl⟩ := Int.eq_ofNat_of_zero_le h0
      have hm : m < 10 := by omega
      go_enter Tryz.func23, Tryz.ntmps23
      go_wp2_with fail
      go_ret
      exact ⟨congrArg (fun b => Ending.returned (.string b)) (by simpa using dig_cut m hm), rfl⟩
    · have hl1 := numL_len (n / 10).toNat (by omega)
      have hl2 := numL_len (n % 10).toNat (by omega)
      have hf : Hid (numL n.toNat = numL (n / 10).toNat ++ numL (n % 10).toNat) := by
        show _ = _
        rw [numL, dif_neg (by omega), show n.toNat / 10 = (n / 10).toNat by omega, show n.toNat % 10 = (n % 10).toNat by omega]
      go_enter Tryz.func23, Tryz.ntmps23
      go_wp2_with fail
      refine (ih (n / 10) _ (by omega) (by omega) (by omega)).mono ?_
      rintro e w' ⟨rfl, rfl⟩
      go_wp2_with fail
      refine (ih (n % 10) _ (by omega) (by omega) (by omega)).mono ?_
      rintro e w' ⟨rfl, rfl⟩
      go_wp2_with fail
      go_ret
      exact ⟨congrArg (fun b => Ending.returned (.string b)) (by rw [hf.out]; exact bs_append _ _), rfl⟩

/-- A number of quarters as digits. -/
def qtrL (n : Nat) : List UInt8 := numL (n / 4) ++ (match n % 4 with | 0 => [] | 1 => [46, 50, 53] | 2 => [46, 53] | _ => [46, 55, 53])
def qtrI (n : Int) : List UInt8 := if n < 0 then 45 :: qtrL (-n).toNat else qtrL n.toNat
end Go.Proofs.YtcmeaogbfecjkaaGreatDoor
