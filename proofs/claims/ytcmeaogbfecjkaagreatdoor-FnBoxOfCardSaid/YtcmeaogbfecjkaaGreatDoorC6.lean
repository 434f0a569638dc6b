/- What a zoom's factor and margins do to a zoom that is being read. -/
import Derived.Test.YtcmeaogbfecjkaaGreatDoorB4
import Derived.Test.YtcmeaogbfecjkaaGreatDoorC5
import Derived.Test.YtcmeaogbfecjkaaGreatDoorF6
namespace Go.Proofs.YtcmeaogbfecjkaaGreatDoor
open Go.RowKit

/-- A float is stored as any value of one cell. -/
theorem run_store_float {P : Program} {w : World} {a : Addr} {m : Mode} (k : FloatKind) (b : Nat) : (store a (.float k b) m).run P w = stored P w a (.float k b) m := run_store P w a _ m rfl
attribute [go_sem] run_store_float

theorem mul_run (x y r : Nat) (h : Ieee.double.mul x y = some r) (w : World) : (binOp .mul 24 (.float .f64 x) (.float .f64 y)).run Tryz.prog w = .ok (.float .f64 r) w :=
  run_float_arith w .mul 24 .f64 x y r h

/-- A length in points: as types.ToUserSpace reckons it. -/
def usz (u : Nat) (n : Int) : Nat := if u = 0 then qf n else yv u n

theorem user_any (u : Nat) (n : Int) (hu : u < 4) (h1 : (Ieee.double.mul (qf n) (perB 1)).isSome = true) (h2 : (Ieee.double.mul (qf n) (perB 2)).isSome = true) (h3 : (Ieee.double.mul (qf n) (perB 3)).isSome = true) (w : World) :
    Calls Tryz.prog 61 #[.float .f64 (qf n), .int .i64 u] w fun e w' => e = .returned (.float .f64 (usz u n)) ∧ w = w' := by
  have m1 : Ieee.double.mul (qf n) 4634766966517661696 = some (yv 1 n) := by
    obtain ⟨r, hr⟩ := Option.isSome_iff_exists.1 h1
    unfold yv; rw [hr]; exact hr
  have m2 : Ieee.double.mul (qf n) 4628672035919596310 = some (yv 2 n) := by
    obtain ⟨r, hr⟩ := Option.isSome_iff_exists.1 h2
    unfold yv; rw [hr]; exact hr
  have m3 : Ieee.double.mul (qf n) 4613565473389991339 = some (yv 3 n) := by
    obtain ⟨r, hr⟩ := Option.isSome_iff_exists.1 h3
    unfold yv; rw [hr]; exact hr
  have r1 := fun w => mul_run _ _ _ m1 w
  have r2 := fun w => mul_run _ _ _ m2 w
  have r3 := fun w => mul_run _ _ _ m3 w
  clear m1 m2 m3 h1 h2 h3
  generalize hq : qf n = q at *
  have HQ := Lib.hid hq
  clear hq
  rcases (by omega : u = 0 ∨ u = 1 ∨ u = 2 ∨ u = 3) with rfl | rfl | rfl | rfl
  all_goals
    go_enter Tryz.func61, Tryz.ntmps61
    go_wp2_with fail
    go_ret
    refine ⟨?_, rfl⟩
    first | rfl | (unfold usz; rw [if_pos rfl, HQ.out]; rfl)

/-- Below block B, but for block Z, the world is as it was. -/
structure Kx (Z B : Nat) (w w' : World) : Prop where
  os : w'.os = w.os
  output : w'.output = w.output
  size : w.heap.size ≤ w'.heap.size
  block : ∀ k, k < B → k ≠ Z → w'.heap[k]? = w.heap[k]?
theorem Kx.refl (Z B : Nat) (w : World) : Kx Z B w w := ⟨rfl, rfl, Nat.le_refl _, fun _ _ _ => rfl⟩
theorem Kx.trans {Z B : Nat} {a b c : World} (h : Kx Z B a b) (k : Kx Z B b c) : Kx Z B a c :=
  ⟨k.os.trans h.os, k.output.trans h.output, Nat.le_trans h.size k.size, fun i hi hz => (k.block i hi hz).trans (h.block i hi hz)⟩
theorem Kx.of {Z B : Nat} {w w' : World} (h : Kp B w w') : Kx Z B w w' := ⟨h.os, h.output, h.size, fun k hk _ => h.block k hk⟩
theorem Kx.mono {Z B B' : Nat} {w w' : World} (h : Kx Z B w w') (hB : B' ≤ B) : Kx Z B' w w' := ⟨h.os, h.output, h.size, fun k hk hz => h.block k (Nat.lt_of_lt_of_le hk hB) hz⟩
theorem Kx.set {Z B o : Nat} {v : Value} {w : World} : Kx Z B w (w.setCell ⟨Z, o, none⟩ v) :=
  ⟨rfl, rfl, by simp [World.setCell], fun k _ hz => Below.heap_setCell w ⟨Z, o, none⟩ v k hz⟩
/-- What is kept but for one block that is new is kept. -/
theorem Kx.kp {Z B : Nat} {w w' : World} (h : Kx Z B w w') (hZ : B ≤ Z) : Kp B w w' := ⟨h.os, h.output, h.size, fun k hk => h.block k hk (by omega)⟩

/-- A zoom as it lies in memory. -/
def ZAt (w : World) (Z F H V : Nat) (U : Int) (b : Bool) (c : Value) : Prop :=
  w.heap[Z]? = some (.cells #[.float .f64 F, .float .f64 H, .float .f64 V, .int .i64 U, .bool b, c] 69 (0, 0))
theorem ZAt.cell {w : World} {Z F H V : Nat} {U : Int} {b : Bool} {c : Value} (h : ZAt w Z F H V U b c) (i : Nat) (v : Value) (hv : #[.float .f64 F, .float .f64 H, .float .f64 V, .int .i64 U, .bool b, c][i]? = some v) : w.cell? ⟨Z, i, none⟩ = some v := by
  unfold ZAt at h
  simp only [World.cell?, h]
  simpa using hv
theorem ZAt.free {w : World} {Z F H V : Nat} {U : Int} {b : Bool} {c : Value} (h : ZAt w Z F H V U b c) (i : Nat) : w.frozen? ⟨Z, i, none⟩ = false := by
  unfold ZAt at h
  simp [World.frozen?, h]
theorem ZAt.kp {w w' : World} {Z F H V : Nat} {U : Int} {b : Bool} {c : Value} (h : ZAt w Z F H V U b c) (hk : Kp w.heap.size w w') : ZAt w' Z F H V U b c := by
  unfold ZAt at *
  rw [hk.block Z (Array.getElem?_eq_some_iff.1 h).1]; exact h
theorem set_block (w : World) (Z i : Nat) (cs : Array Value) (T : TypeId) (v : Value) (h : w.heap[Z]? = some (.cells cs T (0, 0))) : (w.setCell ⟨Z, i, none⟩ v).heap[Z]? = some (.cells (cs.setIfInBounds i v) T (0, 0)) := by
  simp [World.setCell, Array.getElem?_modify, h]

/-- The facts of a number of quarters that a walk wants. -/
theorem num_facts (n : Nat) (h1 : 1 ≤ n) (h2 : n ≤ 400) : (Ieee.double.order (qf n) 0 == some .lt) = false ∧ (Ieee.double.order (qf n) 0 == some .eq) = false ∧ (Ieee.double.order (qf (-(n : Int))) 0 == some .eq) = false ∧ (n ≠ 4 → (Ieee.double.order (qf n) 4607182418800017408 == some .eq) = false) := by
  have h := okF_all n h1 h2
  unfold okF at h
  simp only [Bool.and_eq_true, Bool.or_eq_true, Bool.not_eq_true', beq_iff_eq, Bool.or_eq_false_iff] at h
  obtain ⟨⟨⟨⟨⟨a1, a2⟩, a3⟩, a4⟩, a5⟩, a6⟩ := h
  refine ⟨a1, a2, a5, fun hn => ?_⟩
  rcases a3 with a3 | a3
  · exact absurd a3 hn
  · exact a3

set_option maxHeartbeats 800000 in
theorem factor_any (n : Nat) (s : ByteArray) (hs : s.data.toList = qtrL n) (h1 : 1 ≤ n) (h2 : n ≤ 400) (h4 : n ≠ 4) (w : World) (hV : Vars w) (Z F H V : Nat) (U : Int) (b : Bool) (c : Value) (hz : ZAt w Z F H V U b c) :
    Calls Tryz.prog 53 #[.string s, .pointer (some ⟨Z, 0, none⟩)] w fun e w' => e = .returned .nilIface ∧ ZAt w' Z (qf n) H V U b c ∧ Kx Z w.heap.size w w' := by
  obtain ⟨f1, f2, _, f4⟩ := num_facts n h1 h2
  have g1 : (FloatKind.f64.format.order (qf n) 0 == some .lt) = false := f1
  have g2 : (FloatKind.f64.format.order (qf n) 0 == some .eq) = false := f2
  have g4 : (FloatKind.f64.format.order (qf n) 4607182418800017408 == some .eq) = false := f4 h4
  have c0 := hz.cell 0 _ rfl
  have fr := hz.free 0
  have HP := Lib.hid (parse_pos n s hs w hV h1 (by omega))
  have HZ := Lib.hid hz
  clear f1 f2 f4 hz hs hV
  go_enter Tryz.func53, Tryz.ntmps53
  go_wp2_with fail
  refine HP.out.mono ?_
  rintro e w' ⟨rfl, rfl⟩
  clear HP
  generalize hq : qf n = q at *
  have HQ := Lib.hid hq
  clear hq
  go_wp2_with fail
  go_ret
  refine ⟨rfl, ?_, Kx.set⟩
  rw [HQ.out]
  exact set_block w Z 0 _ 69 _ HZ.out

/-- A number of quarters from -400 to 400, not 0: it is read as itself, its lengths are numbers, it is not 0. -/
structure NumOk (n : Int) (s : ByteArray) : Prop where
  parse : ∀ w, Vars w → Calls Tryz.prog 60 #[.string s, .int .i64 64] w fun e w' => e = .returned (.tuple #[.float .f64 (qf n), .nilIface]) ∧ w = w'
  m1 : (Ieee.double.mul (qf n) (perB 1)).isSome = true
  m2 : (Ieee.double.mul (qf n) (perB 2)).isSome = true
  m3 : (Ieee.double.mul (qf n) (perB 3)).isSome = true
  ne0 : (Ieee.double.order (qf n) 0 == some .eq) = false

theorem num_ok (n : Int) (h0 : n ≠ 0) (h1 : -400 ≤ n) (h2 : n ≤ 400) (s : ByteArray) (hs : s.data.toList = qtrI n) : NumOk n s := by
  by_cases hp : 0 ≤ n
  · obtain ⟨k, rfl⟩ := Int.eq_ofNat_of_zero_le hp
    have hs' : s.data.toList = qtrL k := by rw [hs]; unfold qtrI; rw [if_neg (by omega), Int.toNat_natCast]
    have hk := okP_all k (by omega) (by omega)
    unfold okP at hk
    simp only [Bool.and_eq_true, decide_eq_true_eq, bne_iff_ne, beq_iff_eq] at hk
    obtain ⟨⟨⟨⟨⟨⟨_, a1⟩, a2⟩, a3⟩, _⟩, _⟩, _⟩ := hk
    exact ⟨fun w hV => parse_pos k s hs' w hV (by omega) (by omega), a1, a2, a3, (num_facts k (by omega) (by omega)).2.1⟩
  · obtain ⟨k, rfl⟩ : ∃ k : Nat, n = -(k : Int) := ⟨(-n).toNat, by omega⟩
    have hs' : s.data.toList = 45 :: qtrL k := by rw [hs]; unfold qtrI; rw [if_pos (by omega), show (- -(k : Int)).toNat = k by omega]
    have hk := okN_all k (by omega) (by omega)
    unfold okN at hk
    simp only [Bool.and_eq_true, decide_eq_true_eq, bne_iff_ne, beq_iff_eq] at hk
    obtain ⟨⟨⟨⟨⟨⟨⟨_, a1⟩, a2⟩, a3⟩, _⟩, _⟩, _⟩, _⟩ := hk
    exact ⟨fun w hV => parse_neg k s hs' w hV (by omega) (by omega), a1, a2, a3, (num_facts k (by omega) (by omega)).2.2.1⟩

set_option maxHeartbeats 800000 in
theorem hmargin_any (n : Int) (s : ByteArray) (hn : NumOk n s) (w : World) (hV : Vars w) (Z F : Nat) (u : Nat) (hu : u < 4) (b : Bool) (c : Value) (hz : ZAt w Z F 0 0 u b c) :
    Calls Tryz.prog 54 #[.string s, .pointer (some ⟨Z, 0, none⟩)] w fun e w' => e = .returned .nilIface ∧ ZAt w' Z F (usz u n) 0 u b c ∧ Kx Z w.heap.size w w' := by
  have g2 : (FloatKind.f64.format.order (qf n) 0 == some .eq) = false := hn.ne0
  have g3 : (FloatKind.f64.format.order 0 0 == some .eq) = true := by decide +kernel
  have g3' : (FloatKind.f64.format.order 0 0 != some .eq) = false := by decide +kernel
  have c0 := hz.cell 1 _ rfl
  have c1 := hz.cell 2 _ rfl
  have c2 := hz.cell 3 _ rfl
  have fr := hz.free 1
  have HP := Lib.hid (hn.parse w hV)
  have HU := Lib.hid (user_any u n hu hn.m1 hn.m2 hn.m3 w)
  have HZ := Lib.hid hz
  clear hz hV hn
  go_enter Tryz.func54, Tryz.ntmps54
  go_wp2_with fail
  refine HP.out.mono ?_
  rintro e w' ⟨rfl, rfl⟩
  clear HP
  go_wp2_with (go_at_call 61; refine HU.out.mono ?_; rintro e w' ⟨rfl, rfl⟩)
  go_ret
  refine ⟨rfl, ?_, Kx.set⟩
  exact set_block w Z 1 _ 69 _ HZ.out

set_option maxHeartbeats 800000 in
theorem vmargin_any (n : Int) (s : ByteArray) (hn : NumOk n s) (w : World) (hV : Vars w) (Z F : Nat) (u : Nat) (hu : u < 4) (b : Bool) (c : Value) (hz : ZAt w Z F 0 0 u b c) :
    Calls Tryz.prog 55 #[.string s, .pointer (some ⟨Z, 0, none⟩)] w fun e w' => e = .returned .nilIface ∧ ZAt w' Z F 0 (usz u n) u b c ∧ Kx Z w.heap.size w w' := by
  have g2 : (FloatKind.f64.format.order (qf n) 0 == some .eq) = false := hn.ne0
  have g3 : (FloatKind.f64.format.order 0 0 == some .eq) = true := by decide +kernel
  have g3' : (FloatKind.f64.format.order 0 0 != some .eq) = false := by decide +kernel
  have c0 := hz.cell 2 _ rfl
  have c1 := hz.cell 1 _ rfl
  have c2 := hz.cell 3 _ rfl
  have fr := hz.free 2
  have HP := Lib.hid (hn.parse w hV)
  have HU := Lib.hid (user_any u n hu hn.m1 hn.m2 hn.m3 w)
  have HZ := Lib.hid hz
  clear hz hV hn
  go_enter Tryz.func55, Tryz.ntmps55
  go_wp2_with fail
  refine HP.out.mono ?_
  rintro e w' ⟨rfl, rfl⟩
  clear HP
  go_wp2_with (go_at_call 61; refine HU.out.mono ?_; rintro e w' ⟨rfl, rfl⟩)
  go_ret
  refine ⟨rfl, ?_, Kx.set⟩
  exact set_block w Z 2 _ 69 _ HZ.out

set_option maxHeartbeats 800000 in
theorem border_any (w : World) (Z F H V : Nat) (U : Int) (b : Bool) (c : Value) (hz : ZAt w Z F H V U b c) :
    Calls Tryz.prog 57 #[.string ⟨#[111, 110]⟩, .pointer (some ⟨Z, 0, none⟩)] w fun e w' => e = .returned .nilIface ∧ ZAt w' Z F H V U true c ∧ Kx Z w.heap.size w w' := by
  have c0 := hz.cell 4 _ rfl
  have fr := hz.free 4
  have HZ := Lib.hid hz
  clear hz
  go_enter Tryz.func57, Tryz.ntmps57
  go_wp2_with (go_at_call 52; refine (lower_any _ _ (by decide) (low_key _ (by decide))).mono ?_; rintro e w' ⟨rfl, rfl⟩)
  go_ret
  refine ⟨rfl, ?_, Kx.set⟩
  exact set_block w Z 4 _ 69 _ HZ.out
end Go.Proofs.YtcmeaogbfecjkaaGreatDoor
