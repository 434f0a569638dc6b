/- A colour's parts: a byte over 255 as a float32 that is made wider, and as a float64: the two lie within a millionth. -/
import Derived.Test.YtcmeaogbfecjkaaGreatDoorProg
import Derived.WalkKit
import Derived.Laws.Cover2
import Derived.Laws.FloatArith
import Derived.Deep.RegionWith
import Derived.Deep.RegionHeld3
import Derived.Lib.Hide
import Derived.Laws.Bits128
namespace Go.Proofs.YtcmeaogbfecjkaaGreatDoor
open Go.RowKit

/-- A float is stored as any value of one cell. -/
theorem run_store_fl {P : Program} {w : World} {a : Addr} {m : Mode} (k : FloatKind) (b : Nat) : (store a (.float k b) m).run P w = stored P w a (.float k b) m := run_store P w a _ m rfl
attribute [go_sem] run_store_fl

/-- A byte over 255 as a float32. -/
def c32 (b : Nat) : Nat := (floatBits .quo .f32 (floatOfInt .f32 b) 1132396544).getD 0
/-- That, made wider. -/
def cw (b : Nat) : Nat := (floatToFloatBits .f32 (c32 b) .f64).getD 0
/-- A byte over 255 as a float64. -/
def cd (b : Nat) : Nat := (floatBits .quo .f64 (floatOfInt .f64 b) 4643176031446892544).getD 0
def okC (b : Nat) : Bool :=
  (floatBits .quo .f32 (floatOfInt .f32 b) 1132396544).isSome && (floatToFloatBits .f32 (c32 b) .f64).isSome && (floatBits .quo .f64 (floatOfInt .f64 b) 4643176031446892544).isSome &&
  (match floatBits .sub .f64 (cw b) (cd b), floatBits .sub .f64 (cd b) (cw b) with
   | some r, some s => (FloatKind.f64.format.order r 4517329193108106637 == some .lt) && (FloatKind.f64.format.order s 4517329193108106637 == some .lt)
   | _, _ => false)
theorem okC_all : ((List.range 256).all okC) = true := by decide +kernel

structure Col (b : Nat) : Prop where
  q32 : floatBits .quo .f32 (floatOfInt .f32 b) 1132396544 = some (c32 b)
  wide : floatToFloatBits .f32 (c32 b) .f64 = some (cw b)
  q64 : floatBits .quo .f64 (floatOfInt .f64 b) 4643176031446892544 = some (cd b)
  near : ∃ r s, floatBits .sub .f64 (cw b) (cd b) = some r ∧ floatBits .sub .f64 (cd b) (cw b) = some s ∧ (FloatKind.f64.format.order r 4517329193108106637 == some .lt) = true ∧ (FloatKind.f64.format.order s 4517329193108106637 == some .lt) = true

theorem col_of (b : Nat) (hb : b < 256) : Col b := by
  have h := List.all_eq_true.1 okC_all b (List.mem_range.2 hb)
  unfold okC at h
  simp only [Bool.and_eq_true] at h
  obtain ⟨⟨⟨h1, h2⟩, h3⟩, h4⟩ := h
  refine ⟨?_, ?_, ?_, ?_⟩
  · unfold c32; exact (Option.some_get h1).symm.trans (by rw [Option.get_eq_getD])
  · unfold cw; exact (Option.some_get h2).symm.trans (by rw [Option.get_eq_getD])
  · unfold cd; exact (Option.some_get h3).symm.trans (by rw [Option.get_eq_getD])
  · split at h4
    · rename_i r s hr hs
      simp only [Bool.and_eq_true] at h4
      exact ⟨r, s, hr, hs, h4.1, h4.2⟩
    · cases h4

theorem i64_and255 (n : Int) : bits .and .i64 n 255 = n % 256 := by
  have h255 : (BitVec.ofInt 64 255).toNat = 2 ^ 8 - 1 := by decide
  have key : (BitVec.ofInt 64 n &&& BitVec.ofInt 64 255).toNat = (n % ((2 ^ 64 : Nat) : Int)).toNat % 2 ^ 8 := by
    rw [BitVec.toNat_and, BitVec.toNat_ofInt, h255, Nat.and_two_pow_sub_one_eq_mod]
  show IntKind.i64.wrap ((BitVec.ofInt 64 n &&& BitVec.ofInt 64 255).toNat : Nat) = n % 256
  rw [key, IntKind.wrap_i64]
  omega
theorem i64_and15 (n : Int) : bits .and .i64 n 15 = n % 16 := by
  have h15 : (BitVec.ofInt 64 15).toNat = 2 ^ 4 - 1 := by decide
  have key : (BitVec.ofInt 64 n &&& BitVec.ofInt 64 15).toNat = (n % ((2 ^ 64 : Nat) : Int)).toNat % 2 ^ 4 := by
    rw [BitVec.toNat_and, BitVec.toNat_ofInt, h15, Nat.and_two_pow_sub_one_eq_mod]
  show IntKind.i64.wrap ((BitVec.ofInt 64 n &&& BitVec.ofInt 64 15).toNat : Nat) = n % 16
  rw [key, IntKind.wrap_i64]
  omega

/-- What is kept where only new blocks came. -/
structure Grew (w w' : World) : Prop where
  os : w'.os = w.os
  output : w'.output = w.output
  size : w.heap.size ≤ w'.heap.size
  block : ∀ k, k < w.heap.size → w'.heap[k]? = w.heap[k]?
theorem Grew.refl (w : World) : Grew w w := ⟨rfl, rfl, Nat.le_refl _, fun _ _ => rfl⟩
theorem Grew.alloc {a w : World} (h : Grew a w) (o : Obj) : Grew a (w.alloc o) :=
  ⟨h.os, h.output, by have := h.size; simp; omega, fun k hk => (heap_alloc_old w o (Nat.lt_of_lt_of_le hk h.size)).trans (h.block k hk)⟩

theorem near_part (b : Nat) (hb : b < 256) (w : World) : Calls Tryz.prog 40 #[.float .f64 (cw b), .float .f64 (cd b)] w fun e w' => e = .returned (.bool true) ∧ w = w' := by
  obtain ⟨r, s, h1, h2, h3, h4⟩ := (col_of b hb).near
  have r1 := fun w : World => run_float_arith (P := Tryz.prog) w .sub 24 .f64 _ _ _ h1
  have r2 := fun w : World => run_float_arith (P := Tryz.prog) w .sub 24 .f64 _ _ _ h2
  clear h1 h2
  generalize cw b = x at *
  generalize cd b = y at *
  go_enter Tryz.func40, Tryz.ntmps40
  go_wp2_with fail
  go_ret
  exact ⟨rfl, rfl⟩

set_option maxRecDepth 100000 in
theorem shade_any (a b c : Nat) (ha : a < 256) (hb : b < 256) (hc : c < 256) (w : World) :
    Calls Tryz.prog 39 #[.agg #[.float .f32 (c32 a), .float .f32 (c32 b), .float .f32 (c32 c)]] w fun e w' => e = .returned (.agg #[.float .f64 (cw a), .float .f64 (cw b), .float .f64 (cw c)]) ∧ Grew w w' := by
  have ra := fun w : World => run_convert_float_float (P := Tryz.prog) (w := w) 95 24 .f32 .f64 _ _ (by kernel_rfl) Tryz.underlying24 (col_of a ha).wide
  have rb := fun w : World => run_convert_float_float (P := Tryz.prog) (w := w) 95 24 .f32 .f64 _ _ (by kernel_rfl) Tryz.underlying24 (col_of b hb).wide
  have rc := fun w : World => run_convert_float_float (P := Tryz.prog) (w := w) 95 24 .f32 .f64 _ _ (by kernel_rfl) Tryz.underlying24 (col_of c hc).wide
  generalize c32 a = a3 at *
  generalize c32 b = b3 at *
  generalize c32 c = c3 at *
  generalize cw a = a6 at *
  generalize cw b = b6 at *
  generalize cw c = c6 at *
  go_enter Tryz.func39, Tryz.ntmps39
  go_wp2_with fail
  refine bodyPost_ret (v := .agg #[.float .f64 a6, .float .f64 b6, .float .f64 c6]) (by simp [results, Tryz.results39, go_sem]) rfl ⟨rfl, ((Grew.refl w).alloc _).alloc _⟩

set_option maxRecDepth 100000 in
theorem colored_any (n : Nat) (hn : n < 16777216) (w : World) :
    Calls Tryz.prog 26 #[.int .i64 n] w fun e w' => e = .returned (.agg #[.float .f64 (cd (n / 65536)), .float .f64 (cd (n / 256 % 256)), .float .f64 (cd (n % 256))]) ∧ Grew w w' := by
  have ra := fun w : World => run_float_arith (P := Tryz.prog) w .quo 24 .f64 _ _ _ (col_of (n / 65536) (by omega)).q64
  have rb := fun w : World => run_float_arith (P := Tryz.prog) w .quo 24 .f64 _ _ _ (col_of (n / 256 % 256) (by omega)).q64
  have rc := fun w : World => run_float_arith (P := Tryz.prog) w .quo 24 .f64 _ _ _ (col_of (n % 256) (by omega)).q64
  rw [show ((n / 65536 : Nat) : Int) = (n : Int) / 65536 by omega] at ra
  rw [show ((n / 256 % 256 : Nat) : Int) = (n : Int) / 256 % 256 by omega] at rb
  rw [show ((n % 256 : Nat) : Int) = (n : Int) % 256 by omega] at rc
  have m1 := i64_and255 ((n : Int) / 256)
  have m2 := i64_and255 (n : Int)
  generalize cd (n / 65536) = a6 at *
  generalize cd (n / 256 % 256) = b6 at *
  generalize cd (n % 256) = c6 at *
  go_enter Tryz.func26, Tryz.ntmps26
  go_wp2_with fail
  refine bodyPost_ret (v := .agg #[.float .f64 a6, .float .f64 b6, .float .f64 c6]) (by simp [results, Tryz.results26, go_sem]) rfl ⟨rfl, (Grew.refl w).alloc _⟩

/-- A digit to the base of sixteen. -/
def hexD (k : Nat) : UInt8 := if k < 10 then UInt8.ofNat (48 + k) else UInt8.ofNat (87 + k)
/-- A colour as its six digits. -/
def hexL (n : Nat) : List UInt8 := [35, hexD (n / 1048576 % 16), hexD (n / 65536 % 16), hexD (n / 4096 % 16), hexD (n / 256 % 16), hexD (n / 16 % 16), hexD (n % 16)]

theorem hex_cut (k : Nat) (h : k < 16) : (⟨#[48, 49, 50, 51, 52, 53, 54, 55, 56, 57, 97, 98, 99, 100, 101, 102]⟩ : ByteArray).extract k (k + 1) = ⟨#[hexD k]⟩ := by
  have : ∀ k : Fin 16, (⟨#[48, 49, 50, 51, 52, 53, 54, 55, 56, 57, 97, 98, 99, 100, 101, 102]⟩ : ByteArray).extract k (k + 1) = ⟨#[hexD k]⟩ := by decide
  exact this ⟨k, h⟩

theorem hex_slice (k : Nat) (h : k < 16) (c : UInt8) (hc : hexD k = c) (w : World) :
    (Instr.slice 9 (.string ⟨#[48, 49, 50, 51, 52, 53, 54, 55, 56, 57, 97, 98, 99, 100, 101, 102]⟩) (some (.int .i64 k)) (some (.int .i64 ((k : Int) + 1))) none).run Tryz.prog w = .ok (.string ⟨#[c]⟩) w := by
  have hs : (⟨#[48, 49, 50, 51, 52, 53, 54, 55, 56, 57, 97, 98, 99, 100, 101, 102]⟩ : ByteArray).size = 16 := rfl
  rw [run_slice_string w 9 _ .i64 .i64 k (k + 1) Tryz.underlying9 (by omega) (by omega) (by rw [hs]; omega)]
  rw [Int.toNat_natCast, show ((k : Int) + 1).toNat = k + 1 by omega, hex_cut k h, hc]

set_option maxRecDepth 100000 in
set_option maxHeartbeats 800000 in
theorem hexes_any (n : Nat) (w : World) :
    Calls Tryz.prog 24 #[.int .i64 n] w fun e w' => e = .returned (.string ⟨(hexL n).toArray⟩) ∧ w'.Alike w := by
  have m5 : bits .and .i64 ((n : Int) / 1048576) 15 = ((n / 1048576 % 16 : Nat) : Int) := by rw [i64_and15]; omega
  have l5 : n / 1048576 % 16 < 16 := by omega
  have x5 := fun w => hex_slice (n / 1048576 % 16) l5 _ rfl w
  have z5 : IntKind.i64.wrap (((n / 1048576 % 16) : Nat) + 1 : Int) = (((n / 1048576 % 16) : Nat) : Int) + 1 := IntWalk.i64_in _ (by omega)
  have m4 : bits .and .i64 ((n : Int) / 65536) 15 = ((n / 65536 % 16 : Nat) : Int) := by rw [i64_and15]; omega
  have l4 : n / 65536 % 16 < 16 := by omega
  have x4 := fun w => hex_slice (n / 65536 % 16) l4 _ rfl w
  have z4 : IntKind.i64.wrap (((n / 65536 % 16) : Nat) + 1 : Int) = (((n / 65536 % 16) : Nat) : Int) + 1 := IntWalk.i64_in _ (by omega)
  have m3 : bits .and .i64 ((n : Int) / 4096) 15 = ((n / 4096 % 16 : Nat) : Int) := by rw [i64_and15]; omega
  have l3 : n / 4096 % 16 < 16 := by omega
  have x3 := fun w => hex_slice (n / 4096 % 16) l3 _ rfl w
  have z3 : IntKind.i64.wrap (((n / 4096 % 16) : Nat) + 1 : Int) = (((n / 4096 % 16) : Nat) : Int) + 1 := IntWalk.i64_in _ (by omega)
  have m2 : bits .and .i64 ((n : Int) / 256) 15 = ((n / 256 % 16 : Nat) : Int) := by rw [i64_and15]; omega
  have l2 : n / 256 % 16 < 16 := by omega
  have x2 := fun w => hex_slice (n / 256 % 16) l2 _ rfl w
  have z2 : IntKind.i64.wrap (((n / 256 % 16) : Nat) + 1 : Int) = (((n / 256 % 16) : Nat) : Int) + 1 := IntWalk.i64_in _ (by omega)
  have m1 : bits .and .i64 ((n : Int) / 16) 15 = ((n / 16 % 16 : Nat) : Int) := by rw [i64_and15]; omega
  have l1 : n / 16 % 16 < 16 := by omega
  have x1 := fun w => hex_slice (n / 16 % 16) l1 _ rfl w
  have z1 : IntKind.i64.wrap (((n / 16 % 16) : Nat) + 1 : Int) = (((n / 16 % 16) : Nat) : Int) + 1 := IntWalk.i64_in _ (by omega)
  have m0 : bits .and .i64 ((n : Int)) 15 = ((n % 16 : Nat) : Int) := by rw [i64_and15]; omega
  have l0 : n % 16 < 16 := by omega
  have x0 := fun w => hex_slice (n % 16) l0 _ rfl w
  have z0 : IntKind.i64.wrap (((n % 16) : Nat) + 1 : Int) = (((n % 16) : Nat) : Int) + 1 := IntWalk.i64_in _ (by omega)
  unfold hexL
  generalize hexD (n / 1048576 % 16) = c5 at x5 ⊢
  generalize n / 1048576 % 16 = d5 at m5 l5 x5 z5
  generalize hexD (n / 65536 % 16) = c4 at x4 ⊢
  generalize n / 65536 % 16 = d4 at m4 l4 x4 z4
  generalize hexD (n / 4096 % 16) = c3 at x3 ⊢
  generalize n / 4096 % 16 = d3 at m3 l3 x3 z3
  generalize hexD (n / 256 % 16) = c2 at x2 ⊢
  generalize n / 256 % 16 = d2 at m2 l2 x2 z2
  generalize hexD (n / 16 % 16) = c1 at x1 ⊢
  generalize n / 16 % 16 = d1 at m1 l1 x1 z1
  generalize hexD (n % 16) = c0 at x0 ⊢
  generalize n % 16 = d0 at m0 l0 x0 z0
  go_enter Tryz.func24, Tryz.ntmps24
  go_wp2_with fail
  refine wp_loop_rounds 7 ?_
  rw [rounds_succ]
  go_wp2_with fail
  go_region
  go_wp2_with fail
  rw [rounds_succ]
  go_wp2_with fail
  go_region
  go_wp2_with fail
  rw [rounds_succ]
  go_wp2_with fail
  go_region
  go_wp2_with fail
  rw [rounds_succ]
  go_wp2_with fail
  go_region
  go_wp2_with fail
  rw [rounds_succ]
  go_wp2_with fail
  go_region
  go_wp2_with fail
  rw [rounds_succ]
  go_wp2_with fail
  go_region
  go_wp2_with fail
  rw [rounds_succ]
  go_wp2_with fail
  go_ret
  exact ⟨congrArg (fun b => Ending.returned (.string b)) (by apply ByteArray.ext; simp [ByteArray.data_append]), rfl, rfl, rfl⟩
end Go.Proofs.YtcmeaogbfecjkaaGreatDoor
