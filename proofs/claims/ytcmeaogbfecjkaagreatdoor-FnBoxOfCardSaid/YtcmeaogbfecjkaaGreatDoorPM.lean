/- laws.FnBoxOf: inputs of which it does not speak. -/
import Derived.Test.YtcmeaogbfecjkaaGreatDoorPH
namespace Go.Proofs.YtcmeaogbfecjkaaGreatDoor
open Go.RowKit

set_option maxRecDepth 100000 in
set_option maxHeartbeats 3200000 in
theorem bad0 (f : Int) (hf0 : 0 ≤ f) (hf4 : f ≤ 4) (u a  : Nat) (n0 n1 n2 n3 : Int) (hu : u < 4) (ha : a < 9) (hbad : n0 < 4 ∨ 4000 < n0) (w : World) :
    Calls Tryz.prog 5 #[.int .i64 f, .agg #[.int .i64 n0, .int .i64 n1, .int .i64 n2, .int .i64 n3], .int .i64 a, .int .i64 u] w fun e w' => e = .returned (.bool true) ∧ Kp w.heap.size w w' := by
  have HN1 := Lib.hid (Nums.start w n0 n1 n2 n3)
  obtain ⟨x0, x1, x2, x3⟩ := idx4 n0 n1 n2 n3
  have g1 : ¬ f < 0 := by omega
  have g2 : ¬ 4 < f := by omega
  go_enter Tryz.func5, Tryz.ntmps5
  go_wp2_with fail
  refine (per_any u hu _).mono ?_
  rintro e w' ⟨rfl, rfl⟩
  go_wp2_with fail
  generalize (w.alloc (.cells #[.int .i64 n0, .int .i64 n1, .int .i64 n2, .int .i64 n3] 42)).alloc (.cells #[.float .f64 0, .float .f64 0, .float .f64 0, .float .f64 0] 43) = w1 at *
  refine wp_loop_rounds 1 ?_
  rw [rounds_succ]
  rcases hbad with hb | hb
  · go_wp2_with fail
    go_ret
    exact ⟨rfl, HN1.out.kp⟩
  · have hb' : ¬ n0 < 4 := by omega
    go_wp2_with fail
    go_ret
    exact ⟨rfl, HN1.out.kp⟩

set_option maxRecDepth 100000 in
set_option maxHeartbeats 3200000 in
theorem bad1 (f : Int) (hf0 : 0 ≤ f) (hf4 : f ≤ 4) (u a k0 y0 : Nat) (n1 n2 n3 : Int) (p0 p1 p2 p3 S1 T1 S2 T2 S3 T3 S4 : ByteArray) (hS : Sums p0 p1 p2 p3 S1 T1 S2 T2 S3 T3 S4) (hu : u < 4) (ha : a < 9) (hq0 : QtrSays k0 p0) (hs0 : NumSteps u k0 y0) (hbad : n1 < 4 ∨ 4000 < n1) (w : World) :
    Calls Tryz.prog 5 #[.int .i64 f, .agg #[.int .i64 k0, .int .i64 n1, .int .i64 n2, .int .i64 n3], .int .i64 a, .int .i64 u] w fun e w' => e = .returned (.bool true) ∧ Kp w.heap.size w w' := by
  obtain ⟨r0, m0⟩ := hs0
  have HQ0 := Lib.hid hq0.says
  have l0 := hq0.len
  have b0 := hq0.lo
  have b0' := hq0.hi
  clear hq0
  obtain ⟨s1, t1, s2, t2, s3, t3, s4, z1, v1, z2, v2, z3, v3, z4⟩ := hS
  have HN1 := Lib.hid (Nums.start w k0 n1 n2 n3)
  obtain ⟨x0, x1, x2, x3⟩ := idx4 k0 n1 n2 n3
  have g1 : ¬ f < 0 := by omega
  have g2 : ¬ 4 < f := by omega
  go_enter Tryz.func5, Tryz.ntmps5
  go_wp2_with fail
  refine (per_any u hu _).mono ?_
  rintro e w' ⟨rfl, rfl⟩
  go_wp2_with fail
  generalize (w.alloc (.cells #[.int .i64 k0, .int .i64 n1, .int .i64 n2, .int .i64 n3] 42)).alloc (.cells #[.float .f64 0, .float .f64 0, .float .f64 0, .float .f64 0] 43) = w1 at *
  refine wp_loop_rounds 2 ?_
  rw [rounds_succ]
  obtain ⟨_, _, _, _, c0, c1, c2, c3, cf⟩ := HN1.out.cells
  go_wp2_with fail
  refine (HQ0.out _).mono ?_
  rintro e w2 ⟨rfl, hk⟩
  have HN2 := Lib.hid ((HN1.out.set0 y0).kept hk)
  clear hk c0 c1 c2 c3 cf HN1
  go_wp2_with fail
  rw [rounds_succ]
  rcases hbad with hb | hb
  · go_wp2_with fail
    go_ret
    exact ⟨rfl, HN2.out.kp⟩
  · have hb' : ¬ n1 < 4 := by omega
    go_wp2_with fail
    go_ret
    exact ⟨rfl, HN2.out.kp⟩

set_option maxRecDepth 100000 in
set_option maxHeartbeats 3200000 in
theorem bad2 (f : Int) (hf0 : 0 ≤ f) (hf4 : f ≤ 4) (u a k0 k1 y0 y1 : Nat) (n2 n3 : Int) (p0 p1 p2 p3 S1 T1 S2 T2 S3 T3 S4 : ByteArray) (hS : Sums p0 p1 p2 p3 S1 T1 S2 T2 S3 T3 S4) (hu : u < 4) (ha : a < 9) (hq0 : QtrSays k0 p0) (hs0 : NumSteps u k0 y0) (hq1 : QtrSays k1 p1) (hs1 : NumSteps u k1 y1) (hbad : n2 < 4 ∨ 4000 < n2) (w : World) :
    Calls Tryz.prog 5 #[.int .i64 f, .agg #[.int .i64 k0, .int .i64 k1, .int .i64 n2, .int .i64 n3], .int .i64 a, .int .i64 u] w fun e w' => e = .returned (.bool true) ∧ Kp w.heap.size w w' := by
  obtain ⟨r0, m0⟩ := hs0
  have HQ0 := Lib.hid hq0.says
  have l0 := hq0.len
  have b0 := hq0.lo
  have b0' := hq0.hi
  clear hq0
  obtain ⟨r1, m1⟩ := hs1
  have HQ1 := Lib.hid hq1.says
  have l1 := hq1.len
  have b1 := hq1.lo
  have b1' := hq1.hi
  clear hq1
  obtain ⟨s1, t1, s2, t2, s3, t3, s4, z1, v1, z2, v2, z3, v3, z4⟩ := hS
  have HN1 := Lib.hid (Nums.start w k0 k1 n2 n3)
  obtain ⟨x0, x1, x2, x3⟩ := idx4 k0 k1 n2 n3
  have g1 : ¬ f < 0 := by omega
  have g2 : ¬ 4 < f := by omega
  go_enter Tryz.func5, Tryz.ntmps5
  go_wp2_with fail
  refine (per_any u hu _).mono ?_
  rintro e w' ⟨rfl, rfl⟩
  go_wp2_with fail
  generalize (w.alloc (.cells #[.int .i64 k0, .int .i64 k1, .int .i64 n2, .int .i64 n3] 42)).alloc (.cells #[.float .f64 0, .float .f64 0, .float .f64 0, .float .f64 0] 43) = w1 at *
  refine wp_loop_rounds 3 ?_
  rw [rounds_succ]
  obtain ⟨_, _, _, _, c0, c1, c2, c3, cf⟩ := HN1.out.cells
  go_wp2_with fail
  refine (HQ0.out _).mono ?_
  rintro e w2 ⟨rfl, hk⟩
  have HN2 := Lib.hid ((HN1.out.set0 y0).kept hk)
  clear hk c0 c1 c2 c3 cf HN1
  go_wp2_with fail
  rw [rounds_succ]
  obtain ⟨_, _, _, _, c0, c1, c2, c3, cf⟩ := HN2.out.cells
  go_wp2_with fail
  refine (HQ1.out _).mono ?_
  rintro e w3 ⟨rfl, hk⟩
  have HN3 := Lib.hid ((HN2.out.set1 y1).kept hk)
  clear hk c0 c1 c2 c3 cf HN2
  go_wp2_with fail
  rw [rounds_succ]
  rcases hbad with hb | hb
  · go_wp2_with fail
    go_ret
    exact ⟨rfl, HN3.out.kp⟩
  · have hb' : ¬ n2 < 4 := by omega
    go_wp2_with fail
    go_ret
    exact ⟨rfl, HN3.out.kp⟩

set_option maxRecDepth 100000 in
set_option maxHeartbeats 3200000 in
theorem bad3 (f : Int) (hf0 : 0 ≤ f) (hf4 : f ≤ 4) (u a k0 k1 k2 y0 y1 y2 : Nat) (n3 : Int) (p0 p1 p2 p3 S1 T1 S2 T2 S3 T3 S4 : ByteArray) (hS : Sums p0 p1 p2 p3 S1 T1 S2 T2 S3 T3 S4) (hu : u < 4) (ha : a < 9) (hq0 : QtrSays k0 p0) (hs0 : NumSteps u k0 y0) (hq1 : QtrSays k1 p1) (hs1 : NumSteps u k1 y1) (hq2 : QtrSays k2 p2) (hs2 : NumSteps u k2 y2) (hbad : n3 < 4 ∨ 4000 < n3) (w : World) :
    Calls Tryz.prog 5 #[.int .i64 f, .agg #[.int .i64 k0, .int .i64 k1, .int .i64 k2, .int .i64 n3], .int .i64 a, .int .i64 u] w fun e w' => e = .returned (.bool true) ∧ Kp w.heap.size w w' := by
  obtain ⟨r0, m0⟩ := hs0
  have HQ0 := Lib.hid hq0.says
  have l0 := hq0.len
  have b0 := hq0.lo
  have b0' := hq0.hi
  clear hq0
  obtain ⟨r1, m1⟩ := hs1
  have HQ1 := Lib.hid hq1.says
  have l1 := hq1.len
  have b1 := hq1.lo
  have b1' := hq1.hi
  clear hq1
  obtain ⟨r2, m2⟩ := hs2
  have HQ2 := Lib.hid hq2.says
  have l2 := hq2.len
  have b2 := hq2.lo
  have b2' := hq2.hi
  clear hq2
  obtain ⟨s1, t1, s2, t2, s3, t3, s4, z1, v1, z2, v2, z3, v3, z4⟩ := hS
  have HN1 := Lib.hid (Nums.start w k0 k1 k2 n3)
  obtain ⟨x0, x1, x2, x3⟩ := idx4 k0 k1 k2 n3
  have g1 : ¬ f < 0 := by omega
  have g2 : ¬ 4 < f := by omega
  go_enter Tryz.func5, Tryz.ntmps5
  go_wp2_with fail
  refine (per_any u hu _).mono ?_
  rintro e w' ⟨rfl, rfl⟩
  go_wp2_with fail
  generalize (w.alloc (.cells #[.int .i64 k0, .int .i64 k1, .int .i64 k2, .int .i64 n3] 42)).alloc (.cells #[.float .f64 0, .float .f64 0, .float .f64 0, .float .f64 0] 43) = w1 at *
  refine wp_loop_rounds 4 ?_
  rw [rounds_succ]
  obtain ⟨_, _, _, _, c0, c1, c2, c3, cf⟩ := HN1.out.cells
  go_wp2_with fail
  refine (HQ0.out _).mono ?_
  rintro e w2 ⟨rfl, hk⟩
  have HN2 := Lib.hid ((HN1.out.set0 y0).kept hk)
  clear hk c0 c1 c2 c3 cf HN1
  go_wp2_with fail
  rw [rounds_succ]
  obtain ⟨_, _, _, _, c0, c1, c2, c3, cf⟩ := HN2.out.cells
  go_wp2_with fail
  refine (HQ1.out _).mono ?_
  rintro e w3 ⟨rfl, hk⟩
  have HN3 := Lib.hid ((HN2.out.set1 y1).kept hk)
  clear hk c0 c1 c2 c3 cf HN2
  go_wp2_with fail
  rw [rounds_succ]
  obtain ⟨_, _, _, _, c0, c1, c2, c3, cf⟩ := HN3.out.cells
  go_wp2_with fail
  refine (HQ2.out _).mono ?_
  rintro e w4 ⟨rfl, hk⟩
  have HN4 := Lib.hid ((HN3.out.set2 y2).kept hk)
  clear hk c0 c1 c2 c3 cf HN3
  go_wp2_with fail
  rw [rounds_succ]
  rcases hbad with hb | hb
  · go_wp2_with fail
    go_ret
    exact ⟨rfl, HN4.out.kp⟩
  · have hb' : ¬ n3 < 4 := by omega
    go_wp2_with fail
    go_ret
    exact ⟨rfl, HN4.out.kp⟩

set_option maxRecDepth 100000 in
set_option maxHeartbeats 1600000 in
theorem bad_guard (f a u n0 n1 n2 n3 : Int) (h : f < 0 ∨ 4 < f ∨ a < 0 ∨ 8 < a ∨ u < 0 ∨ 4 ≤ u) (w : World) :
    Calls Tryz.prog 5 #[.int .i64 f, .agg #[.int .i64 n0, .int .i64 n1, .int .i64 n2, .int .i64 n3], .int .i64 a, .int .i64 u] w fun e w' => e = .returned (.bool true) ∧ Kp w.heap.size w w' := by
  have HK : Hid (Kp w.heap.size w (w.alloc (.cells #[.int .i64 n0, .int .i64 n1, .int .i64 n2, .int .i64 n3] 42))) := (Kp.refl _ _).alloc (Nat.le_refl _) _
  by_cases c0 : f < 0
  · clear h
    go_enter Tryz.func5, Tryz.ntmps5
    go_wp2_with fail
    go_ret
    exact ⟨rfl, HK.out⟩
  by_cases c1 : 4 < f
  · clear h
    go_enter Tryz.func5, Tryz.ntmps5
    go_wp2_with fail
    go_ret
    exact ⟨rfl, HK.out⟩
  by_cases c2 : a < 0
  · clear h
    go_enter Tryz.func5, Tryz.ntmps5
    go_wp2_with fail
    go_ret
    exact ⟨rfl, HK.out⟩
  by_cases c3 : 8 < a
  · clear h
    go_enter Tryz.func5, Tryz.ntmps5
    go_wp2_with fail
    go_ret
    exact ⟨rfl, HK.out⟩
  by_cases c4 : u < 0
  · clear h
    go_enter Tryz.func5, Tryz.ntmps5
    go_wp2_with fail
    go_ret
    exact ⟨rfl, HK.out⟩
  have c5 : 4 ≤ u := by omega
  clear h
  go_enter Tryz.func5, Tryz.ntmps5
  go_wp2_with fail
  go_ret
  exact ⟨rfl, HK.out⟩
end Go.Proofs.YtcmeaogbfecjkaaGreatDoor
