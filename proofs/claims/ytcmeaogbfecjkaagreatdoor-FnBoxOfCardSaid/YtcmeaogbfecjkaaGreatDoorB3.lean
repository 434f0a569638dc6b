/- strconv.ParseFloat at a number of quarters: that number, nearest; nothing is turned. -/
import Derived.Test.YtcmeaogbfecjkaaGreatDoorB2
import Derived.Test.YtcmeaogbfecjkaaGreatDoorF2
import Derived.Lib.Hide
namespace Go.Proofs.YtcmeaogbfecjkaaGreatDoor
open Go.RowKit

/-- What the walks read of the program's variables, as the rows' condition lays them. -/
structure Vars (w : World) : Prop where
  opt : w.cell? ⟨18, 0, none⟩ = some (.bool true)
  bits : w.cell? ⟨19, 0, none⟩ = some (.int .u64 52)
  pow : ∃ b o : Nat, w.cell? ⟨23, 0, none⟩ = some (.slice (some ⟨b, o, none⟩) 23 23) ∧ b < w.heap.size ∧
    w.cell? ⟨b, o + 1, none⟩ = some (.float .f64 4621819117588971520) ∧ w.cell? ⟨b, o + 2, none⟩ = some (.float .f64 4636737291354636288)

theorem Vars.mono {w w' : World} (h : Vars w) (hb : Below w.heap.size w w') : Vars w' := by
  obtain ⟨h1, h2, b, o, h3, h4, h5, h6⟩ := h
  have k1 := World.block_lt_of_cell? w _ h1
  have k2 := World.block_lt_of_cell? w _ h2
  have k3 := World.block_lt_of_cell? w _ h3
  have := hb.size
  exact ⟨(hb.cell k1).trans h1, (hb.cell k2).trans h2, b, o, (hb.cell k3).trans h3, by omega, (hb.cell (p := ⟨b, o + 1, none⟩) h4).trans h5, (hb.cell (p := ⟨b, o + 2, none⟩) h4).trans h6⟩

theorem Vars.drew {w : World} (h : Vars w) : Vars w.drew := h.mono (Below.refl _ _).drew
theorem Vars.alloc {w : World} (h : Vars w) (o : Obj) : Vars (w.alloc o) := h.mono ((Below.refl _ _).alloc (Nat.le_refl _) o)

theorem idx_list (s : ByteArray) (k : Nat) (h : k < s.size) : s[k] = s.data.toList[k]'(by simpa using h) := rfl

theorem special_pos (s : ByteArray) (w : World) (hs : 0 < s.size) (h0 : 48 ≤ (s[0].toNat : Int)) (h1 : (s[0].toNat : Int) ≤ 57) :
    Calls Tryz.prog 126 #[.string s] w fun e w' => e = .returned (.tuple #[.float .f64 0, .int .i64 0, .bool false]) ∧ w = w' := by
  have hne : ¬ s = ByteArray.empty := fun e => by subst e; simp at hs
  have b1 : ((s[0].toNat : Int) == 43) = false := by rw [beq_eq_false_iff_ne]; omega
  have b2 : ((s[0].toNat : Int) == 45) = false := by rw [beq_eq_false_iff_ne]; omega
  have b3 : ((s[0].toNat : Int) == 105) = false := by rw [beq_eq_false_iff_ne]; omega
  have b4 : ((s[0].toNat : Int) == 73) = false := by rw [beq_eq_false_iff_ne]; omega
  have b5 : ((s[0].toNat : Int) == 110) = false := by rw [beq_eq_false_iff_ne]; omega
  have b6 : ((s[0].toNat : Int) == 78) = false := by rw [beq_eq_false_iff_ne]; omega
  go_enter Tryz.func126, Tryz.ntmps126
  go_wp2_with fail
  go_ret3
  exact ⟨rfl, rfl⟩

abbrev infinityS : ByteArray := ⟨#[105, 110, 102, 105, 110, 105, 116, 121]⟩
/-- A text that begins with a digit shares no beginning with 'infinity'. -/
theorem prefix_none (s : ByteArray) (w : World) (hs : 0 < s.size) (h0 : 48 ≤ (s[0].toNat : Int)) (h1 : (s[0].toNat : Int) ≤ 57) :
    Calls Tryz.prog 140 #[.string s, .string infinityS] w fun e w' => e = .returned (.int .i64 0) ∧ w = w' := by
  have b1 : ((s[0].toNat : Int) != ((infinityS[0]'(by decide)).toNat : Int)) = true := by
    have : (infinityS[0]'(by decide)).toNat = 105 := by decide
    rw [bne_iff_ne]; omega
  go_enter Tryz.func140, Tryz.ntmps140
  go_wp2_with fail
  all_goals
    refine wp_loop_rounds 1 ?_
    rw [rounds_succ]
    go_wp2_with fail
    go_ret
    exact ⟨rfl, rfl⟩

theorem special_neg (s : ByteArray) (w : World) (hs : 1 < s.size) (hc : (s[0].toNat : Int) = 45) (h0 : 48 ≤ (s[1].toNat : Int)) (h1 : (s[1].toNat : Int) ≤ 57) :
    Calls Tryz.prog 126 #[.string s] w fun e w' => e = .returned (.tuple #[.float .f64 0, .int .i64 0, .bool false]) ∧ w = w' := by
  have hne : ¬ s = ByteArray.empty := fun e => by subst e; simp at hs
  have b1 : ((s[0].toNat : Int) == 43) = false := by rw [beq_eq_false_iff_ne]; omega
  have b2 : ((s[0].toNat : Int) == 45) = true := by rw [beq_iff_eq]; omega
  have e0 : (s.extract 1 s.size)[0]'(by simp; omega) = s[1] := by rw [ByteArray.getElem_extract]
  have c0 : 48 ≤ (((s.extract 1 s.size)[0]'(by simp; omega)).toNat : Int) := by rw [e0]; exact h0
  have c1 : (((s.extract 1 s.size)[0]'(by simp; omega)).toNat : Int) ≤ 57 := by rw [e0]; exact h1
  have HP := fun w => Lib.hid (prefix_none (s.extract 1 s.size) w (by simp; omega) c0 c1)
  clear e0 c0 c1 h0 h1
  go_enter Tryz.func126, Tryz.ntmps126
  go_wp2_with (go_at_call 140; refine (HP _).out.mono ?_; rintro e w' ⟨rfl, rfl⟩)
  go_ret3
  exact ⟨rfl, rfl⟩

theorem shr52 (m : Nat) (hm : m < 4503599627370496) (w : World) : (binOp .shr 201 (.int .u64 m) (.int .u64 52)).run Tryz.prog w = .ok (.int .u64 0) w := by
  have h : (m : Int) / 2 ^ min (Int.toNat 52) IntKind.u64.bits = 0 := by
    show (m : Int) / 4503599627370496 = 0
    omega
  simp only [binOp, shift_shr_any IntKind.u64 IntKind.u64 m 52 (by omega), h]
  rfl

theorem quo_run (x y r : Nat) (h : Ieee.double.div x y = some r) (w : World) : (binOp .quo 24 (.float .f64 x) (.float .f64 y)).run Tryz.prog w = .ok (.float .f64 r) w :=
  run_float_arith w .quo 24 .f64 x y r h

set_option maxHeartbeats 400000 in
theorem exact_00 (m : Nat) (hm : m < 4503599627370496) (w : World) (hV : Vars w) :
    Calls Tryz.prog 137 #[.int .u64 m, .int .i64 0, .bool false] w fun e w' => e = .returned (.tuple #[.float .f64 (floatOfInt .f64 m), .bool true]) ∧ w = w' := by
  have h1 := hV.bits
  have hsh := fun w => shr52 m hm w
  go_enter Tryz.func137, Tryz.ntmps137
  go_wp2_with fail
  go_ret2
  exact ⟨rfl, rfl⟩

set_option maxHeartbeats 400000 in
theorem exact_01 (m : Nat) (r : Nat) (hm : m < 4503599627370496) (hd : Ieee.double.div (floatOfInt .f64 m) 4621819117588971520 = some r) (w : World) (hV : Vars w) :
    Calls Tryz.prog 137 #[.int .u64 m, .int .i64 (-1), .bool false] w fun e w' => e = .returned (.tuple #[.float .f64 r, .bool true]) ∧ w = w' := by
  have h1 := hV.bits
  obtain ⟨b, o, h2, _, h31, h32⟩ := hV.pow
  have hq := fun w => quo_run _ _ _ hd w
  have hsh := fun w => shr52 m hm w
  go_enter Tryz.func137, Tryz.ntmps137
  go_wp2_with fail
  go_ret2
  exact ⟨rfl, rfl⟩

set_option maxHeartbeats 400000 in
theorem exact_02 (m : Nat) (r : Nat) (hm : m < 4503599627370496) (hd : Ieee.double.div (floatOfInt .f64 m) 4636737291354636288 = some r) (w : World) (hV : Vars w) :
    Calls Tryz.prog 137 #[.int .u64 m, .int .i64 (-2), .bool false] w fun e w' => e = .returned (.tuple #[.float .f64 r, .bool true]) ∧ w = w' := by
  have h1 := hV.bits
  obtain ⟨b, o, h2, _, h31, h32⟩ := hV.pow
  have hq := fun w => quo_run _ _ _ hd w
  have hsh := fun w => shr52 m hm w
  go_enter Tryz.func137, Tryz.ntmps137
  go_wp2_with fail
  go_ret2
  exact ⟨rfl, rfl⟩

set_option maxHeartbeats 400000 in
theorem exact_10 (m : Nat) (hm : m < 4503599627370496) (w : World) (hV : Vars w) :
    Calls Tryz.prog 137 #[.int .u64 m, .int .i64 0, .bool true] w fun e w' => e = .returned (.tuple #[.float .f64 (Op.negFloat .f64 (floatOfInt .f64 m)), .bool true]) ∧ w = w' := by
  have h1 := hV.bits
  have hsh := fun w => shr52 m hm w
  have hng : ∀ (w : World), (Op.unary .neg (.float .f64 (floatOfInt .f64 m))).run Tryz.prog w = .ok (.float .f64 (Op.negFloat .f64 (floatOfInt .f64 m))) w := fun _ => rfl
  go_enter Tryz.func137, Tryz.ntmps137
  go_wp2_with fail
  go_ret2
  exact ⟨rfl, rfl⟩

set_option maxHeartbeats 400000 in
theorem exact_11 (m : Nat) (r : Nat) (hm : m < 4503599627370496) (hd : Ieee.double.div (Op.negFloat .f64 (floatOfInt .f64 m)) 4621819117588971520 = some r) (w : World) (hV : Vars w) :
    Calls Tryz.prog 137 #[.int .u64 m, .int .i64 (-1), .bool true] w fun e w' => e = .returned (.tuple #[.float .f64 r, .bool true]) ∧ w = w' := by
  have h1 := hV.bits
  obtain ⟨b, o, h2, _, h31, h32⟩ := hV.pow
  have hq := fun w => quo_run _ _ _ hd w
  have hsh := fun w => shr52 m hm w
  have hng : ∀ (w : World), (Op.unary .neg (.float .f64 (floatOfInt .f64 m))).run Tryz.prog w = .ok (.float .f64 (Op.negFloat .f64 (floatOfInt .f64 m))) w := fun _ => rfl
  go_enter Tryz.func137, Tryz.ntmps137
  go_wp2_with fail
  go_ret2
  exact ⟨rfl, rfl⟩

set_option maxHeartbeats 400000 in
theorem exact_12 (m : Nat) (r : Nat) (hm : m < 4503599627370496) (hd : Ieee.double.div (Op.negFloat .f64 (floatOfInt .f64 m)) 4636737291354636288 = some r) (w : World) (hV : Vars w) :
    Calls Tryz.prog 137 #[.int .u64 m, .int .i64 (-2), .bool true] w fun e w' => e = .returned (.tuple #[.float .f64 r, .bool true]) ∧ w = w' := by
  have h1 := hV.bits
  obtain ⟨b, o, h2, _, h31, h32⟩ := hV.pow
  have hq := fun w => quo_run _ _ _ hd w
  have hsh := fun w => shr52 m hm w
  have hng : ∀ (w : World), (Op.unary .neg (.float .f64 (floatOfInt .f64 m))).run Tryz.prog w = .ok (.float .f64 (Op.negFloat .f64 (floatOfInt .f64 m))) w := fun _ => rfl
  go_enter Tryz.func137, Tryz.ntmps137
  go_wp2_with fail
  go_ret2
  exact ⟨rfl, rfl⟩

theorem exact_any (m : Nat) (e : Int) (neg : Bool) (r : Nat) (hm : m < 4503599627370496) (h : atofB m e neg = some r) (w : World) (hV : Vars w) :
    Calls Tryz.prog 137 #[.int .u64 m, .int .i64 e, .bool neg] w fun e w' => e = .returned (.tuple #[.float .f64 r, .bool true]) ∧ w = w' := by
  have h' : (if e = 0 then some (if neg = true then Op.negFloat .f64 (floatOfInt .f64 m) else floatOfInt .f64 m) else if e = -1 then Ieee.double.div (if neg = true then Op.negFloat .f64 (floatOfInt .f64 m) else floatOfInt .f64 m) 4621819117588971520 else if e = -2 then Ieee.double.div (if neg = true then Op.negFloat .f64 (floatOfInt .f64 m) else floatOfInt .f64 m) 4636737291354636288 else none) = some r := h
  clear h
  have hf : ∀ (a b : Nat), (if false = true then a else b) = b := fun _ _ => rfl
  have ht : ∀ (a b : Nat), (if true = true then a else b) = a := fun _ _ => rfl
  have h := h'
  clear h'
  by_cases h0 : e = 0
  · subst h0
    rw [if_pos rfl] at h
    cases neg with
    | false => rw [hf] at h; obtain rfl := Option.some.inj h; exact exact_00 m hm w hV
    | true => rw [ht] at h; obtain rfl := Option.some.inj h; exact exact_10 m hm w hV
  · rw [if_neg h0] at h
    by_cases h1 : e = -1
    · subst h1
      rw [if_pos rfl] at h
      cases neg with
      | false => rw [hf] at h; exact exact_01 m r hm h w hV
      | true => rw [ht] at h; exact exact_11 m r hm h w hV
    · rw [if_neg h1] at h
      by_cases h2 : e = -2
      · subst h2
        rw [if_pos rfl] at h
        cases neg with
        | false => rw [hf] at h; exact exact_02 m r hm h w hV
        | true => rw [ht] at h; exact exact_12 m r hm h w hV
      · rw [if_neg h2] at h; cases h

end Go.Proofs.YtcmeaogbfecjkaaGreatDoor
