/- strconv's readFloat at plain decimals: what its one loop reckons, as a plain fold. No program in sight. -/
import Derived.Below
namespace Go.Proofs.YtcmeaogbfecjkaaGreatDoor

/-- What readFloat's loop holds: the mantissa, its digits, the point's place. -/
structure Rf where
  mant : Nat
  nd : Nat
  dp : Int
  dot : Bool
  dig : Bool
  deriving DecidableEq

def rf0 : Rf := ⟨0, 0, 0, false, false⟩

def rfStep (x : Rf) (c : UInt8) : Rf :=
  if c.toNat = 46 then { x with dot := true, dp := x.nd }
  else if c.toNat = 48 ∧ x.nd = 0 then { x with dig := true, dp := x.dp - 1 }
  else { x with dig := true, nd := x.nd + 1, mant := x.mant * 10 + (c.toNat - 48) }

/-- Digits, and one point at the most. -/
def rfOk (x : Rf) : List UInt8 → Bool
  | [] => true
  | c :: l => ((c.toNat == 46 && !x.dot) || (48 ≤ c.toNat && c.toNat ≤ 57)) && rfOk (rfStep x c) l

def rfExp (x : Rf) : Int := (if x.dot then x.dp else x.nd) - x.nd

/-- What holds of the loop's state at place k of the text. -/
structure RfInv (l : List UInt8) (fin : Rf) (k : Nat) (x : Rf) : Prop where
  ok : rfOk x (l.drop k) = true
  fold : (l.drop k).foldl rfStep x = fin
  nd : x.nd ≤ k
  mant : x.mant < 10 ^ x.nd
  lo : -(k : Int) ≤ x.dp
  hi : x.dp ≤ k

theorem RfInv.mant_lt {l : List UInt8} {fin : Rf} {k : Nat} {x : Rf} (h : RfInv l fin k x) (hk : k ≤ 9) : x.mant < 1000000000 := by
  have h1 : 10 ^ x.nd ≤ 10 ^ 9 := Nat.pow_le_pow_right (by omega) (by have := h.nd; omega)
  have := h.mant
  omega

theorem RfInv.next {l : List UInt8} {fin : Rf} {k : Nat} {x : Rf} (h : RfInv l fin k x) {c : UInt8} (hc : l.drop k = c :: l.drop (k + 1)) :
    RfInv l fin (k + 1) (rfStep x c) ∧ ((c.toNat = 46 ∧ x.dot = false) ∨ (48 ≤ c.toNat ∧ c.toNat ≤ 57)) := by
  obtain ⟨h1, h2, h3, h4, h5, h6⟩ := h
  rw [hc] at h1 h2
  simp only [rfOk, Bool.and_eq_true, Bool.or_eq_true, beq_iff_eq, Bool.not_eq_true', decide_eq_true_eq] at h1
  refine ⟨⟨h1.2, h2, ?_, ?_, ?_, ?_⟩, h1.1⟩
  · unfold rfStep; split
    · dsimp only; omega
    · split <;> dsimp only <;> omega
  · unfold rfStep; split
    · exact h4
    · split
      · exact h4
      · dsimp only
        have : 10 ^ (x.nd + 1) = 10 ^ x.nd * 10 := Nat.pow_succ ..
        rcases h1.1 with hh | hh
        · omega
        · omega
  · unfold rfStep; split
    · dsimp only; omega
    · split <;> dsimp only <;> omega
  · unfold rfStep; split
    · dsimp only; omega
    · split <;> dsimp only <;> omega

theorem RfInv.done {l : List UInt8} {fin : Rf} {k : Nat} {x : Rf} (h : RfInv l fin k x) (hk : l.length ≤ k) : x = fin := by
  have := h.fold
  rw [List.drop_eq_nil_of_le hk] at this
  exact this

theorem rf_dot {x : Rf} {c : UInt8} (h : c.toNat = 46) : rfStep x c = { x with dot := true, dp := x.nd } := by unfold rfStep; rw [if_pos h]
theorem rf_zero {x : Rf} {c : UInt8} (h : c.toNat = 48) (h0 : x.nd = 0) : rfStep x c = { x with dig := true, dp := x.dp - 1 } := by unfold rfStep; rw [if_neg (by omega), if_pos ⟨h, h0⟩]
theorem rf_dig {x : Rf} {c : UInt8} (h : 48 ≤ c.toNat) (h0 : ¬ (c.toNat = 48 ∧ x.nd = 0)) : rfStep x c = { x with dig := true, nd := x.nd + 1, mant := x.mant * 10 + (c.toNat - 48) } := by
  unfold rfStep; rw [if_neg (by omega), if_neg h0]

theorem drop_at (s : ByteArray) (k : Nat) (h : k < s.size) : s.data.toList.drop k = s[k] :: s.data.toList.drop (k + 1) := by
  rw [List.drop_eq_getElem_cons (by simpa using h)]; rfl
end Go.Proofs.YtcmeaogbfecjkaaGreatDoor
