/- What is asked of one number of quarters: its text is read as itself, its lengths in the four units are finite, positive and rise. Plain reckoning. -/
import Derived.Test.YtcmeaogbfecjkaaGreatDoorA1
import Derived.Test.YtcmeaogbfecjkaaGreatDoorB1
import Derived.Test.YtcmeaogbfecjkaaGreatDoorF1
namespace Go.Proofs.YtcmeaogbfecjkaaGreatDoor
open Ieee

def numF : Nat → Nat → List UInt8
  | 0, n => [UInt8.ofNat (48 + n)]
  | k + 1, n => if n < 10 then [UInt8.ofNat (48 + n)] else numF k (n / 10) ++ [UInt8.ofNat (48 + n % 10)]

theorem numL_numF : ∀ (k n : Nat), n < 10 ^ (k + 1) → numL n = numF k n
  | 0, n, h => by rw [numL, dif_pos (by omega)]; rfl
  | k + 1, n, h => by
    rw [numL]
    unfold numF
    by_cases h10 : n < 10
    · rw [dif_pos h10, if_pos h10]
    · rw [dif_neg h10, if_neg h10]
      have h1 : n / 10 < 10 ^ (k + 1) := by
        rw [Nat.pow_succ] at h
        omega
      rw [numL_numF k _ h1]
      congr 1
      rw [numL, dif_pos (by omega)]

/-- The digits of a number of quarters below 40,000. -/
def qtrF (n : Nat) : List UInt8 := numF 3 (n / 4) ++ (match n % 4 with | 0 => [] | 1 => [46, 50, 53] | 2 => [46, 53] | _ => [46, 55, 53])
theorem qtrL_qtrF (n : Nat) (h : n < 40000) : qtrL n = qtrF n := by
  unfold qtrL qtrF
  rw [numL_numF 3 _ (by omega)]; rfl

def one64 : Nat := 4607182418800017408
def four64 : Nat := 4616189618054758400
/-- How many points a unit has: as bits. -/
def perB (u : Nat) : Nat := match u with | 1 => 4634766966517661696 | 2 => 4628672035919596310 | 3 => 4613565473389991339 | _ => one64

/-- n quarters, as bits. -/
def qf (n : Int) : Nat := (double.div (floatOfInt .f64 n) four64).getD 0
/-- n quarters of a unit, in points, as bits. -/
def yv (u : Nat) (n : Int) : Nat := (double.mul (qf n) (perB u)).getD 0

/-- What atof64exact makes of a mantissa and an exponent. -/
def atofB (m : Nat) (e : Int) (neg : Bool) : Option Nat :=
  let f := if neg then Op.negFloat .f64 (floatOfInt .f64 m) else floatOfInt .f64 m
  if e = 0 then some f else if e = -1 then double.div f 4621819117588971520 else if e = -2 then double.div f 4636737291354636288 else none

def digB (c : UInt8) : Bool := 48 ≤ c.toNat && c.toNat ≤ 57
/-- A plain decimal: its sign off, its first sign a digit. -/
def bareOk (l : List UInt8) : Bool := l.length ≤ 8 && digB (l.headD 0) && rfOk rf0 l

def okP (n : Nat) : Bool :=
  let l := qtrF n
  let x := l.foldl rfStep rf0
  bareOk l && x.dig && x.mant != 0 && decide (x.mant < 4503599627370496) && (atofB x.mant (rfExp x) false == some (qf n)) && decide (rfExp x ≤ 0) && decide (-2 ≤ rfExp x) && (x.dot || decide (rfExp x = 0)) &&
  (double.div (floatOfInt .f64 n) four64).isSome && decide (0 < qf n) && decide (qf n < inf64) &&
  (double.mul (qf n) (perB 0) == some (qf n)) && (double.mul (qf n) (perB 1)).isSome && (double.mul (qf n) (perB 2)).isSome && (double.mul (qf n) (perB 3)).isSome &&
  decide (yv 1 n < inf64) && decide (yv 2 n < inf64) && decide (yv 3 n < inf64)

def okInc (n : Nat) : Bool := decide (yv 0 n < yv 0 (n + 1)) && decide (yv 1 n < yv 1 (n + 1)) && decide (yv 2 n < yv 2 (n + 1)) && decide (yv 3 n < yv 3 (n + 1))

/-- The steps of 'Near(y, y)'. -/
def nearB (y : Nat) : Bool :=
  match double.sub y y with
  | some d =>
    let d := if double.order d 0 == some .lt then Op.negFloat .f64 d else d
    let m := if double.order y 0 == some .lt then Op.negFloat .f64 y else y
    match double.add one64 m with
    | some a => match double.mul 4472406533629990549 a with
      | some b => double.order d b == some .lt || double.order d b == some .eq
      | none => false
    | none => false
  | none => false

def okN (n : Nat) : Bool :=
  let l := qtrF n
  let x := l.foldl rfStep rf0
  let q := qf (-(n : Int))
  bareOk l && x.dig && x.mant != 0 && decide (x.mant < 4503599627370496) && (atofB x.mant (rfExp x) true == some q) && decide (rfExp x ≤ 0) && decide (-2 ≤ rfExp x) && (x.dot || decide (rfExp x = 0)) &&
  (double.div (floatOfInt .f64 (-(n : Int))) four64).isSome && (double.order q 0 == some .lt) &&
  (double.mul q (perB 0) == some q) && (double.mul q (perB 1)).isSome && (double.mul q (perB 2)).isSome && (double.mul q (perB 3)).isSome &&
  nearB (yv 0 (-(n : Int))) && nearB (yv 1 (-(n : Int))) && nearB (yv 2 (-(n : Int))) && nearB (yv 3 (-(n : Int)))

def fromTo (f : Nat → Bool) (a n : Nat) : Bool := (List.range n).all fun i => f (a + i)
theorem of_fromTo {f : Nat → Bool} {a n : Nat} (h : fromTo f a n = true) (k : Nat) (h1 : a ≤ k) (h2 : k < a + n) : f k = true := by
  have := (List.all_eq_true.1 h) (k - a) (List.mem_range.2 (by omega))
  rw [show a + (k - a) = k by omega] at this
  exact this
end Go.Proofs.YtcmeaogbfecjkaaGreatDoor
