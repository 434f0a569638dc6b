/- laws.FnBoxOf: the walk. -/
import Derived.Test.YtcmeaogbfecjkaaGreatDoorPG
import Derived.Test.YtcmeaogbfecjkaaGreatDoorG6
import Derived.Test.YtcmeaogbfecjkaaGreatDoorA2
namespace Go.Proofs.YtcmeaogbfecjkaaGreatDoor
open Go.RowKit

/-- What the law has of its numbers: in memory, as lengths. -/
structure Nums (w0 w : World) (k0 k1 k2 k3 : Int) (f0 f1 f2 f3 : Nat) : Prop where
  n : w.heap[w0.heap.size]? = some (.cells #[.int .i64 k0, .int .i64 k1, .int .i64 k2, .int .i64 k3] 42 (0, 0))
  f : w.heap[w0.heap.size + 1]? = some (.cells #[.float .f64 f0, .float .f64 f1, .float .f64 f2, .float .f64 f3] 43 (0, 0))
  kp : Kp w0.heap.size w0 w
  sz : w0.heap.size + 2 ≤ w.heap.size

theorem Nums.start (w0 : World) (k0 k1 k2 k3 : Int) : Nums w0 ((w0.alloc (.cells #[.int .i64 k0, .int .i64 k1, .int .i64 k2, .int .i64 k3] 42)).alloc (.cells #[.float .f64 0, .float .f64 0, .float .f64 0, .float .f64 0] 43)) k0 k1 k2 k3 0 0 0 0 := by
  refine ⟨(heap_alloc_old _ _ (by simp)).trans (heap_alloc_new _ _), ?_, ((Kp.refl _ _).alloc (Nat.le_refl _) _).alloc (by simp) _, by simp⟩
  have h := heap_alloc_new (w0.alloc (.cells #[.int .i64 k0, .int .i64 k1, .int .i64 k2, .int .i64 k3] 42)) (.cells #[.float .f64 0, .float .f64 0, .float .f64 0, .float .f64 0] 43)
  rw [show (w0.alloc (.cells #[.int .i64 k0, .int .i64 k1, .int .i64 k2, .int .i64 k3] 42)).heap.size = w0.heap.size + 1 by simp] at h
  exact h

theorem Nums.kept {w0 w w' : World} {k0 k1 k2 k3 : Int} {f0 f1 f2 f3 : Nat} (h : Nums w0 w k0 k1 k2 k3 f0 f1 f2 f3) (hk : Kp w.heap.size w w') : Nums w0 w' k0 k1 k2 k3 f0 f1 f2 f3 := by
  have := h.sz
  have hs := hk.size
  exact ⟨(hk.block _ (by omega)).trans h.n, (hk.block _ (by omega)).trans h.f, h.kp.trans (hk.mono (by omega)), by omega⟩

theorem Nums.drewn {w0 w : World} {k0 k1 k2 k3 : Int} {f0 f1 f2 f3 : Nat} (h : Nums w0 w k0 k1 k2 k3 f0 f1 f2 f3) : Nums w0 w.drew k0 k1 k2 k3 f0 f1 f2 f3 := ⟨h.n, h.f, kp_drew h.kp, h.sz⟩

theorem Nums.allocd {w0 w : World} {k0 k1 k2 k3 : Int} {f0 f1 f2 f3 : Nat} (h : Nums w0 w k0 k1 k2 k3 f0 f1 f2 f3) (o : Obj) : Nums w0 (w.alloc o) k0 k1 k2 k3 f0 f1 f2 f3 := h.kept ((Kp.refl _ _).alloc (Nat.le_refl _) _)
theorem Nums.ne0 {w0 w : World} {k0 k1 k2 k3 : Int} {f0 f1 f2 f3 : Nat} (h : Nums w0 w k0 k1 k2 k3 f0 f1 f2 f3) : ¬ w0.heap.size = w.heap.size := by have := h.sz; omega
theorem Nums.ne0' {w0 w : World} {k0 k1 k2 k3 : Int} {f0 f1 f2 f3 : Nat} (h : Nums w0 w k0 k1 k2 k3 f0 f1 f2 f3) : ¬ w.heap.size = w0.heap.size := by have := h.sz; omega
theorem Nums.ne1 {w0 w : World} {k0 k1 k2 k3 : Int} {f0 f1 f2 f3 : Nat} (h : Nums w0 w k0 k1 k2 k3 f0 f1 f2 f3) : ¬ w0.heap.size + 1 = w.heap.size := by have := h.sz; omega
theorem Nums.ne1' {w0 w : World} {k0 k1 k2 k3 : Int} {f0 f1 f2 f3 : Nat} (h : Nums w0 w k0 k1 k2 k3 f0 f1 f2 f3) : ¬ w.heap.size = w0.heap.size + 1 := by have := h.sz; omega
theorem Nums.lt0 {w0 w : World} {k0 k1 k2 k3 : Int} {f0 f1 f2 f3 : Nat} (h : Nums w0 w k0 k1 k2 k3 f0 f1 f2 f3) : w0.heap.size < w.heap.size := by have := h.sz; omega
theorem Nums.lt1 {w0 w : World} {k0 k1 k2 k3 : Int} {f0 f1 f2 f3 : Nat} (h : Nums w0 w k0 k1 k2 k3 f0 f1 f2 f3) : w0.heap.size + 1 < w.heap.size := by have := h.sz; omega
theorem Nums.told {w0 w : World} {k0 k1 k2 k3 : Int} {f0 f1 f2 f3 : Nat} (h : Nums w0 w k0 k1 k2 k3 f0 f1 f2 f3) (b : Nat) (hb : w0.heap.size + 2 ≤ b) (r0 : Value) (l ri t bo : Nat) (d : Value) (a : Int) : Nums w0 (bset w b r0 l ri t bo d a) k0 k1 k2 k3 f0 f1 f2 f3 :=
  ⟨(bset_far _ _ _ _ _ _ _ _ _ _ (by omega)).trans h.n, (bset_far _ _ _ _ _ _ _ _ _ _ (by omega)).trans h.f, h.kp.trans ((bset_kx _ _ _ _ _ _ _ _ _ _).kp (by omega)), Nat.le_trans h.sz (bset_kx _ _ _ _ _ _ _ _ _ 0).size⟩
theorem kept_block {w w' : World} {k : Nat} {o : Obj} (hk : Kp w.heap.size w w') (h : w.heap[k]? = some o) : w'.heap[k]? = some o := (hk.block k (Array.getElem?_eq_some_iff.1 h).1).trans h

theorem Nums.cells {w0 w : World} {k0 k1 k2 k3 : Int} {f0 f1 f2 f3 : Nat} (h : Nums w0 w k0 k1 k2 k3 f0 f1 f2 f3) :
    w.cell? ⟨w0.heap.size, 0, none⟩ = some (.int .i64 k0) ∧ w.cell? ⟨w0.heap.size, 1, none⟩ = some (.int .i64 k1) ∧ w.cell? ⟨w0.heap.size, 2, none⟩ = some (.int .i64 k2) ∧ w.cell? ⟨w0.heap.size, 3, none⟩ = some (.int .i64 k3) ∧
    w.cell? ⟨w0.heap.size + 1, 0, none⟩ = some (.float .f64 f0) ∧ w.cell? ⟨w0.heap.size + 1, 1, none⟩ = some (.float .f64 f1) ∧ w.cell? ⟨w0.heap.size + 1, 2, none⟩ = some (.float .f64 f2) ∧ w.cell? ⟨w0.heap.size + 1, 3, none⟩ = some (.float .f64 f3) ∧
    ∀ i, w.frozen? ⟨w0.heap.size + 1, i, none⟩ = false := by
  have hn := h.n
  have hf := h.f
  refine ⟨?_, ?_, ?_, ?_, ?_, ?_, ?_, ?_, fun i => by simp [World.frozen?, hf]⟩ <;> simp [World.cell?, hn, hf]

theorem Nums.set0 {w0 w : World} {k0 k1 k2 k3 : Int} {f0 f1 f2 f3 : Nat} (h : Nums w0 w k0 k1 k2 k3 f0 f1 f2 f3) (y : Nat) : Nums w0 (w.setCell ⟨w0.heap.size + 1, 0, none⟩ (.float .f64 y)) k0 k1 k2 k3 y f1 f2 f3 := by
  refine ⟨(Below.heap_setCell _ _ _ _ (by show w0.heap.size ≠ w0.heap.size + 1; omega)).trans h.n, set_block w _ 0 _ 43 _ h.f, h.kp.trans (Kx.set.kp (by omega)), by have := h.sz; simpa [World.setCell] using this⟩
theorem Nums.set1 {w0 w : World} {k0 k1 k2 k3 : Int} {f0 f1 f2 f3 : Nat} (h : Nums w0 w k0 k1 k2 k3 f0 f1 f2 f3) (y : Nat) : Nums w0 (w.setCell ⟨w0.heap.size + 1, 1, none⟩ (.float .f64 y)) k0 k1 k2 k3 f0 y f2 f3 := by
  refine ⟨(Below.heap_setCell _ _ _ _ (by show w0.heap.size ≠ w0.heap.size + 1; omega)).trans h.n, set_block w _ 1 _ 43 _ h.f, h.kp.trans (Kx.set.kp (by omega)), by have := h.sz; simpa [World.setCell] using this⟩
theorem Nums.set2 {w0 w : World} {k0 k1 k2 k3 : Int} {f0 f1 f2 f3 : Nat} (h : Nums w0 w k0 k1 k2 k3 f0 f1 f2 f3) (y : Nat) : Nums w0 (w.setCell ⟨w0.heap.size + 1, 2, none⟩ (.float .f64 y)) k0 k1 k2 k3 f0 f1 y f3 := by
  refine ⟨(Below.heap_setCell _ _ _ _ (by show w0.heap.size ≠ w0.heap.size + 1; omega)).trans h.n, set_block w _ 2 _ 43 _ h.f, h.kp.trans (Kx.set.kp (by omega)), by have := h.sz; simpa [World.setCell] using this⟩
theorem Nums.set3 {w0 w : World} {k0 k1 k2 k3 : Int} {f0 f1 f2 f3 : Nat} (h : Nums w0 w k0 k1 k2 k3 f0 f1 f2 f3) (y : Nat) : Nums w0 (w.setCell ⟨w0.heap.size + 1, 3, none⟩ (.float .f64 y)) k0 k1 k2 k3 f0 f1 f2 y := by
  refine ⟨(Below.heap_setCell _ _ _ _ (by show w0.heap.size ≠ w0.heap.size + 1; omega)).trans h.n, set_block w _ 3 _ 43 _ h.f, h.kp.trans (Kx.set.kp (by omega)), by have := h.sz; simpa [World.setCell] using this⟩

/-- quarters, of a box's number. -/
structure QtrSays (k : Nat) (q : ByteArray) : Prop where
  says : ∀ w, Calls Tryz.prog 7 #[.int .i64 k] w fun e w' => e = .returned (.string q) ∧ Kp w.heap.size w w'
  len : q.size ≤ 8
  lo : ¬ (k : Int) < 4
  hi : ¬ (4000 : Int) < k

theorem qtr_says (k : Nat) (h1 : 4 ≤ k) (h2 : k ≤ 4000) : QtrSays k ⟨(qtrL k).toArray⟩ := by
  refine ⟨fun w => (quarters_any k w (by omega) (by omega)).mono ?_, (qtr_text k h2).len, by omega, by omega⟩
  rintro e w' ⟨he, hb⟩
  have hq : qtrI (k : Int) = qtrL k := by unfold qtrI; rw [if_neg (by omega), Int.toNat_natCast]
  rw [hq] at he
  exact ⟨he, Kp.of hb⟩

/-- The law's steps with a number. -/
structure NumSteps (u k y : Nat) : Prop where
  quo : ∀ w : World, (binOp .quo 24 (.float .f64 (floatOfInt .f64 (k : Int))) (.float .f64 4616189618054758400)).run Tryz.prog w = .ok (.float .f64 (qf k)) w
  mul : ∀ w : World, (binOp .mul 24 (.float .f64 (qf k)) (.float .f64 (perB u))).run Tryz.prog w = .ok (.float .f64 y) w

theorem num_steps (u k : Nat) (hu : u < 4) (h1 : 4 ≤ k) (h2 : k ≤ 4000) : NumSteps u k (usz u k) :=
  ⟨fun w => quo_run _ _ _ (box_num u k hu (by omega) h2).len.quarter w, fun w => mul_run _ _ _ (box_num u k hu (by omega) h2).len.mul w⟩

/-- The sums of the law's texts. -/
structure Sums (q0 q1 q2 q3 S1 T1 S2 T2 S3 T3 S4 : ByteArray) : Prop where
  s1 : (⟨#[]⟩ : ByteArray) ++ q0 = S1
  t1 : S1 ++ ⟨#[32]⟩ = T1
  s2 : T1 ++ q1 = S2
  t2 : S2 ++ ⟨#[32]⟩ = T2
  s3 : T2 ++ q2 = S3
  t3 : S3 ++ ⟨#[32]⟩ = T3
  s4 : T3 ++ q3 = S4
  z1 : S1.size ≤ 8
  y1 : T1.size ≤ 9
  z2 : S2.size ≤ 17
  y2 : T2.size ≤ 18
  z3 : S3.size ≤ 26
  y3 : T3.size ≤ 27
  z4 : S4.size ≤ 35

theorem sums_of (p0 p1 p2 p3 : List UInt8) (h0 : p0.length ≤ 8) (h1 : p1.length ≤ 8) (h2 : p2.length ≤ 8) (h3 : p3.length ≤ 8) :
    Sums ⟨p0.toArray⟩ ⟨p1.toArray⟩ ⟨p2.toArray⟩ ⟨p3.toArray⟩ ⟨p0.toArray⟩ ⟨(p0 ++ [32]).toArray⟩ ⟨(joinC 32 [p0, p1]).toArray⟩ ⟨(joinC 32 [p0, p1] ++ [32]).toArray⟩ ⟨(joinC 32 [p0, p1, p2]).toArray⟩ ⟨(joinC 32 [p0, p1, p2] ++ [32]).toArray⟩ ⟨(joinC 32 [p0, p1, p2, p3]).toArray⟩ := by
  constructor
  · exact (bs_append [] p0)
  · exact (bs_append p0 [32])
  · rw [bs_append]; simp [joinC]
  · exact (bs_append (joinC 32 [p0, p1]) [32])
  · rw [bs_append]; simp [joinC]
  · exact (bs_append (joinC 32 [p0, p1, p2]) [32])
  · rw [bs_append]; simp [joinC]
  all_goals
    rw [bs_size]
    first | omega | (simp only [joinC, List.length_append, List.length_cons, List.length_nil]; omega)

theorem idx4 (x0 x1 x2 x3 : Int) : (∀ w, (Instr.index 42 (.agg #[.int .i64 x0, .int .i64 x1, .int .i64 x2, .int .i64 x3]) (.int .i64 0)).run Tryz.prog w = .ok (.int .i64 x0) w) ∧
    (∀ w, (Instr.index 42 (.agg #[.int .i64 x0, .int .i64 x1, .int .i64 x2, .int .i64 x3]) (.int .i64 1)).run Tryz.prog w = .ok (.int .i64 x1) w) ∧
    (∀ w, (Instr.index 42 (.agg #[.int .i64 x0, .int .i64 x1, .int .i64 x2, .int .i64 x3]) (.int .i64 2)).run Tryz.prog w = .ok (.int .i64 x2) w) ∧
    (∀ w, (Instr.index 42 (.agg #[.int .i64 x0, .int .i64 x1, .int .i64 x2, .int .i64 x3]) (.int .i64 3)).run Tryz.prog w = .ok (.int .i64 x3) w) := by
  refine ⟨fun w => ?_, fun w => ?_, fun w => ?_, fun w => ?_⟩ <;> simp [Instr.index, run_underlying Tryz.underlying42, asIntOf, go_sem, part, Tryz.sizeOf3]

set_option maxRecDepth 100000 in
set_option maxHeartbeats 3200000 in
theorem law3 (u k0 k1 k2 k3 a y0 y1 y2 y3 : Nat) (p0 p1 p2 p3 S1 T1 S2 T2 S3 T3 S4 : ByteArray) (hS : Sums p0 p1 p2 p3 S1 T1 S2 T2 S3 T3 S4) (hu : u < 4) (ha : a < 9) (hq0 : QtrSays k0 p0) (hq1 : QtrSays k1 p1) (hq2 : QtrSays k2 p2) (hq3 : QtrSays k3 p3)
    (hs0 : NumSteps u k0 y0) (hs1 : NumSteps u k1 y1) (hs2 : NumSteps u k2 y2) (hs3 : NumSteps u k3 y3) 
    (hB : ∀ w, Vars w → Calls Tryz.prog 15 #[.string S4, .int .i64 u] w fun e w' => e = .returned (toldV (.slice none 0 0) y3 y1 y0 y2 (.slice none 0 0) 0) ∧ Kp w.heap.size w w')
    (hM : ∀ w, Calls Tryz.prog 17 #[.agg (tcells (.slice none 0 0) y3 y1 y0 y2 (.slice none 0 0) 0), .float .f64 y0, .float .f64 y1, .float .f64 y2, .float .f64 y3] w fun e w' => e = .returned (.bool true) ∧ Kp w.heap.size w w') (w : World) (hV : Vars w) :
    Calls Tryz.prog 5 #[.int .i64 3, .agg #[.int .i64 k0, .int .i64 k1, .int .i64 k2, .int .i64 k3], .int .i64 a, .int .i64 u] w fun e w' => e = .returned (.bool true) ∧ Kp w.heap.size w w' := by
  obtain ⟨r0, m0⟩ := hs0
  obtain ⟨r1, m1⟩ := hs1
  obtain ⟨r2, m2⟩ := hs2
  obtain ⟨r3, m3⟩ := hs3
  have HN := Lib.hid (Nums.start w k0 k1 k2 k3)
  obtain ⟨x0, x1, x2, x3⟩ := idx4 k0 k1 k2 k3
  have HQ0 := Lib.hid hq0.says
  have HQ1 := Lib.hid hq1.says
  have HQ2 := Lib.hid hq2.says
  have HQ3 := Lib.hid hq3.says
  have l0 := hq0.len
  have l1 := hq1.len
  have l2 := hq2.len
  have l3 := hq3.len
  have b0 := hq0.lo
  have b0' := hq0.hi
  have b1 := hq1.lo
  have b1' := hq1.hi
  have b2 := hq2.lo
  have b2' := hq2.hi
  have b3 := hq3.lo
  have b3' := hq3.hi
  obtain ⟨s1, t1, s2, t2, s3, t3, s4, z1, v1, z2, v2, z3, v3, z4⟩ := hS
  have HV := Lib.hid hV
  have HB := Lib.hid hB
  have HM := Lib.hid hM
  clear hq0 hq1 hq2 hq3 hV hB hM
  go_enter Tryz.func5, Tryz.ntmps5
  go_wp2_with fail
  refine (per_any u hu _).mono ?_
  rintro e w' ⟨rfl, rfl⟩
  go_wp2_with fail
  generalize (w.alloc (.cells #[.int .i64 k0, .int .i64 k1, .int .i64 k2, .int .i64 k3] 42)).alloc (.cells #[.float .f64 0, .float .f64 0, .float .f64 0, .float .f64 0] 43) = w1 at *
  refine wp_loop_rounds 5 ?_
  rw [rounds_succ]
  obtain ⟨_, _, _, _, g0, g1, g2, g3, gf⟩ := HN.out.cells
  go_wp2_with fail
  refine (HQ0.out _).mono ?_
  rintro e w2 ⟨rfl, hk⟩
  have HN2 := Lib.hid ((HN.out.set0 y0).kept hk)
  clear hk g0 g1 g2 g3 gf HN
  go_wp2_with fail
  rw [rounds_succ]
  obtain ⟨_, _, _, _, g0, g1, g2, g3, gf⟩ := HN2.out.cells
  go_wp2_with fail
  refine (HQ1.out _).mono ?_
  rintro e w3 ⟨rfl, hk⟩
  have HN3 := Lib.hid ((HN2.out.set1 y1).kept hk)
  clear hk g0 g1 g2 g3 gf HN2
  go_wp2_with fail
  rw [rounds_succ]
  obtain ⟨_, _, _, _, g0, g1, g2, g3, gf⟩ := HN3.out.cells
  go_wp2_with fail
  refine (HQ2.out _).mono ?_
  rintro e w4 ⟨rfl, hk⟩
  have HN4 := Lib.hid ((HN3.out.set2 y2).kept hk)
  clear hk g0 g1 g2 g3 gf HN3
  go_wp2_with fail
  rw [rounds_succ]
  obtain ⟨_, _, _, _, g0, g1, g2, g3, gf⟩ := HN4.out.cells
  go_wp2_with fail
  refine (HQ3.out _).mono ?_
  rintro e w5 ⟨rfl, hk⟩
  have HN5 := Lib.hid ((HN4.out.set3 y3).kept hk)
  clear hk g0 g1 g2 g3 gf HN4
  go_wp2_with fail
  rw [rounds_succ]
  go_wp2_with fail
  refine (words_any _).mono ?_
  rintro e w6 ⟨g, c, v2, rfl, hw, hk⟩
  have HN6 := Lib.hid (HN5.out.kept hk)
  have HV6 : Hid (Vars w6) := HV.out.kp (HN5.out.kept hk).kp
  clear hk hw HN5
  go_wp2_with fail
  refine (HB.out _ HV6.out).mono ?_
  rintro e w7 ⟨rfl, hk⟩
  have HN7 := Lib.hid (HN6.out.kept hk)
  have hs7 := (HN6.out.kept hk).sz
  have hl7 : w.heap.size + 1 < w7.heap.size := by omega
  have hn7 : ¬ w.heap.size + 1 = w7.heap.size := by omega
  have HK7 : Hid (Kp w.heap.size w (w7.alloc (.cells (tcells (.slice none 0 0) y3 y1 y0 y2 (.slice none 0 0) 0) 49))) := HN7.out.kp.alloc (by omega) _
  obtain ⟨_, _, _, _, g0, g1, g2, g3, _⟩ := HN7.out.cells
  clear hk HN6
  go_wp2_with fail
  refine (HM.out _).mono ?_
  rintro e w8 ⟨rfl, hk8⟩
  have HK8 := Lib.hid hk8
  clear hk8
  go_wp2_with fail
  go_ret
  exact ⟨rfl, HK7.out.trans (HK8.out.mono (by simp; omega))⟩
end Go.Proofs.YtcmeaogbfecjkaaGreatDoor
