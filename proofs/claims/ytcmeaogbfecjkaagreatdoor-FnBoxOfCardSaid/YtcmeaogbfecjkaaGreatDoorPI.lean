/- laws.FnBoxOf: the walk of one margin. -/
import Derived.Test.YtcmeaogbfecjkaaGreatDoorPH
namespace Go.Proofs.YtcmeaogbfecjkaaGreatDoor
open Go.RowKit

set_option maxRecDepth 100000 in
set_option maxHeartbeats 3200000 in
theorem law1 (u k0 k1 k2 k3 a y0 y1 y2 y3 : Nat) (p0 p1 p2 p3 S1 T1 S2 T2 S3 T3 S4 : ByteArray) (hS : Sums p0 p1 p2 p3 S1 T1 S2 T2 S3 T3 S4) (hu : u < 4) (ha : a < 9) (hq0 : QtrSays k0 p0) (hq1 : QtrSays k1 p1) (hq2 : QtrSays k2 p2) (hq3 : QtrSays k3 p3)
    (hs0 : NumSteps u k0 y0) (hs1 : NumSteps u k1 y1) (hs2 : NumSteps u k2 y2) (hs3 : NumSteps u k3 y3) 
    (hB : ∀ w, Vars w → Calls Tryz.prog 15 #[.string p0, .int .i64 u] w fun e w' => e = .returned (toldV (.slice none 0 0) y0 y0 y0 y0 (.slice none 0 0) 0) ∧ Kp w.heap.size w w')
    (hM : ∀ w, Calls Tryz.prog 17 #[.agg (tcells (.slice none 0 0) y0 y0 y0 y0 (.slice none 0 0) 0), .float .f64 y0, .float .f64 y0, .float .f64 y0, .float .f64 y0] w fun e w' => e = .returned (.bool true) ∧ Kp w.heap.size w w') (w : World) (hV : Vars w) :
    Calls Tryz.prog 5 #[.int .i64 1, .agg #[.int .i64 k0, .int .i64 k1, .int .i64 k2, .int .i64 k3], .int .i64 a, .int .i64 u] w fun e w' => e = .returned (.bool true) ∧ Kp w.heap.size w w' := by
  obtain ⟨r0, m0⟩ := hs0
  obtain ⟨r1, m1⟩ := hs1
  obtain ⟨r2, m2⟩ := hs2
  obtain ⟨r3, m3⟩ := hs3
  have HN := Lib.hid (Nums.start w k0 k1 k2 k3)
  obtain ⟨x0, x1, x2, x3⟩ := idx4 k0 k1 k2 k3
  have HQ0 := Lib.hid hq0.says
  have HQ1 := Lib.hid hq1.says
  have HQ2 := Lib.hid hq2.says
  have HQ3 := Lib.hid hq3.says
  have l0 := hq0.len
  have l1 := hq1.len
  have l2 := hq2.len
  have l3 := hq3.len
  have b0 := hq0.lo
  have b0' := hq0.hi
  have b1 := hq1.lo
  have b1' := hq1.hi
  have b2 := hq2.lo
  have b2' := hq2.hi
  have b3 := hq3.lo
  have b3' := hq3.hi
  obtain ⟨s1, t1, s2, t2, s3, t3, s4, z1, v1, z2, v2, z3, v3, z4⟩ := hS
  have HV := Lib.hid hV
  have HB := Lib.hid hB
  have HM := Lib.hid hM
  clear hq0 hq1 hq2 hq3 hV hB hM
  go_enter Tryz.func5, Tryz.ntmps5
  go_wp2_with fail
  refine (per_any u hu _).mono ?_
  rintro e w' ⟨rfl, rfl⟩
  go_wp2_with fail
  generalize (w.alloc (.cells #[.int .i64 k0, .int .i64 k1, .int .i64 k2, .int .i64 k3] 42)).alloc (.cells #[.float .f64 0, .float .f64 0, .float .f64 0, .float .f64 0] 43) = w1 at *
  refine wp_loop_rounds 5 ?_
  rw [rounds_succ]
  obtain ⟨_, _, _, _, g0, g1, g2, g3, gf⟩ := HN.out.cells
  go_wp2_with fail
  refine (HQ0.out _).mono ?_
  rintro e w2 ⟨rfl, hk⟩
  have HN2 := Lib.hid ((HN.out.set0 y0).kept hk)
  clear hk g0 g1 g2 g3 gf HN
  go_wp2_with fail
  rw [rounds_succ]
  obtain ⟨_, _, _, _, g0, g1, g2, g3, gf⟩ := HN2.out.cells
  go_wp2_with fail
  refine (HQ1.out _).mono ?_
  rintro e w3 ⟨rfl, hk⟩
  have HN3 := Lib.hid ((HN2.out.set1 y1).kept hk)
  clear hk g0 g1 g2 g3 gf HN2
  go_wp2_with fail
  rw [rounds_succ]
  obtain ⟨_, _, _, _, g0, g1, g2, g3, gf⟩ := HN3.out.cells
  go_wp2_with fail
  refine (HQ2.out _).mono ?_
  rintro e w4 ⟨rfl, hk⟩
  have HN4 := Lib.hid ((HN3.out.set2 y2).kept hk)
  clear hk g0 g1 g2 g3 gf HN3
  go_wp2_with fail
  rw [rounds_succ]
  obtain ⟨_, _, _, _, g0, g1, g2, g3, gf⟩ := HN4.out.cells
  go_wp2_with fail
  refine (HQ3.out _).mono ?_
  rintro e w5 ⟨rfl, hk⟩
  have HN5 := Lib.hid ((HN4.out.set3 y3).kept hk)
  clear hk g0 g1 g2 g3 gf HN4
  go_wp2_with fail
  rw [rounds_succ]
  go_wp2_with fail
  refine (words_any _).mono ?_
  rintro e w6 ⟨g, c, v2, rfl, hw, hk⟩
  have HN6 := Lib.hid (HN5.out.kept hk)
  have HV6 : Hid (Vars w6) := HV.out.kp (HN5.out.kept hk).kp
  clear hk hw HN5
  obtain ⟨n0, _⟩ := HN6.out.cells
  go_wp2_with fail
  refine (HQ0.out _).mono ?_
  rintro e w7 ⟨rfl, hk⟩
  have HN7 := Lib.hid (HN6.out.kept hk)
  have HV7 : Hid (Vars w7) := HV.out.kp (HN6.out.kept hk).kp
  clear hk HN6
  go_wp2_with fail
  refine (HB.out _ HV7.out).mono ?_
  rintro e w9 ⟨rfl, hk⟩
  have HN9 := Lib.hid (HN7.out.kept hk)
  clear hk HN7
  have HK9 : Hid (Kp w.heap.size w (w9.alloc (.cells (tcells (.slice none 0 0) y0 y0 y0 y0 (.slice none 0 0) 0) 49))) := HN9.out.kp.alloc (by have := HN9.out.sz; omega) _
  have hs9 := HN9.out.sz
  have hl9 : w.heap.size + 1 < w9.heap.size := by omega
  have hn9 : ¬ w.heap.size + 1 = w9.heap.size := by omega
  obtain ⟨_, _, _, _, g0, g1, g2, g3, _⟩ := HN9.out.cells
  go_wp2_with fail
  refine (HM.out _).mono ?_
  rintro e w8 ⟨rfl, hk8⟩
  have HK8 := Lib.hid hk8
  clear hk8
  go_wp2_with fail
  go_ret
  exact ⟨rfl, HK9.out.trans (HK8.out.mono (by simp; omega))⟩
end Go.Proofs.YtcmeaogbfecjkaaGreatDoor
