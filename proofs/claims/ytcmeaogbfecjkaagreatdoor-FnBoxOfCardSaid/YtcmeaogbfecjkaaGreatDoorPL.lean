/- laws.FnBoxOf: the walk of a size. -/
import Derived.Test.YtcmeaogbfecjkaaGreatDoorPH
import Derived.Deep.DeepCutAuto
import Derived.Deep.RegionHeld3
import Derived.Deep.RegionWith
namespace Go.Proofs.YtcmeaogbfecjkaaGreatDoor
open Go.RowKit

theorem kept_cell {w w' : World} {b i : Nat} {v : Value} (hk : Kp w.heap.size w w') (h : w.cell? ⟨b, i, none⟩ = some v) : w'.cell? ⟨b, i, none⟩ = some v := (hk.cell (p := ⟨b, i, none⟩) (World.block_lt_of_cell? _ _ h)).trans h
theorem cell_drewn {w : World} {b i : Nat} {v : Value} (h : w.cell? ⟨b, i, none⟩ = some v) : w.drew.cell? ⟨b, i, none⟩ = some v := h
theorem cell_allocd {w : World} (o : Obj) {b i : Nat} {v : Value} (h : w.cell? ⟨b, i, none⟩ = some v) : (w.alloc o).cell? ⟨b, i, none⟩ = some v := kept_cell ((Kp.refl _ _).alloc (Nat.le_refl _) _) h

set_option maxRecDepth 100000 in
set_option maxHeartbeats 3200000 in
theorem law4 (u k0 k1 k2 k3 a y0 y1 y2 y3 : Nat) (p0 p1 p2 p3 S1 T1 S2 T2 S3 T3 S4 : ByteArray) (hS : Sums p0 p1 p2 p3 S1 T1 S2 T2 S3 T3 S4) (sa A1 A2 A3 A4 A5 : ByteArray) (hA1 : (⟨#[112, 111, 115, 58]⟩ : ByteArray) ++ sa = A1) (hA2 : A1 ++ ⟨#[44, 32, 100, 105, 109, 58]⟩ = A2) (hA3 : A2 ++ p0 = A3) (hA4 : A3 ++ ⟨#[32]⟩ = A4) (hA5 : A4 ++ p1 = A5) (hza : sa.size ≤ 2) (hz1 : A1.size ≤ 6) (hz2 : A2.size ≤ 12) (hz3 : A3.size ≤ 20) (hz4 : A4.size ≤ 21) (hsa : bs (shortL a) = .string sa) (hu : u < 4) (ha : a < 9) (hq0 : QtrSays k0 p0) (hq1 : QtrSays k1 p1) (hq2 : QtrSays k2 p2) (hq3 : QtrSays k3 p3)
    (hs0 : NumSteps u k0 y0) (hs1 : NumSteps u k1 y1) (hs2 : NumSteps u k2 y2) (hs3 : NumSteps u k3 y3) 
    (hB : ∀ w, Vars w → Calls Tryz.prog 15 #[.string A5, .int .i64 u] w fun e w' => ∃ q cap, e = .returned (toldV (.slice none 0 0) 0 0 0 0 (.slice (some ⟨q, 0, none⟩) 1 cap) a) ∧ w'.heap[q]? = some (.cells #[.float .f64 y0, .float .f64 y1] 58 (0, 0)) ∧ Kp w.heap.size w w')
    (hM : ∀ w, Calls Tryz.prog 18 #[.agg #[.float .f64 y0, .float .f64 y1], .agg #[.float .f64 y0, .float .f64 y1]] w fun e w' => e = .returned (.bool true) ∧ Kp w.heap.size w w') (w : World) (hV : Vars w) :
    Calls Tryz.prog 5 #[.int .i64 4, .agg #[.int .i64 k0, .int .i64 k1, .int .i64 k2, .int .i64 k3], .int .i64 a, .int .i64 u] w fun e w' => e = .returned (.bool true) ∧ Kp w.heap.size w w' := by
  obtain ⟨r0, m0⟩ := hs0
  obtain ⟨r1, m1⟩ := hs1
  obtain ⟨r2, m2⟩ := hs2
  obtain ⟨r3, m3⟩ := hs3
  have HN := Lib.hid (Nums.start w k0 k1 k2 k3)
  obtain ⟨x0, x1, x2, x3⟩ := idx4 k0 k1 k2 k3
  have HQ0 := Lib.hid hq0.says
  have HQ1 := Lib.hid hq1.says
  have HQ2 := Lib.hid hq2.says
  have HQ3 := Lib.hid hq3.says
  have l0 := hq0.len
  have l1 := hq1.len
  have l2 := hq2.len
  have l3 := hq3.len
  have b0 := hq0.lo
  have b0' := hq0.hi
  have b1 := hq1.lo
  have b1' := hq1.hi
  have b2 := hq2.lo
  have b2' := hq2.hi
  have b3 := hq3.lo
  have b3' := hq3.hi
  obtain ⟨s1, t1, s2, t2, s3, t3, s4, z1, v1, z2, v2, z3, v3, z4⟩ := hS
  have HV := Lib.hid hV
  have HB := Lib.hid hB
  have HM := Lib.hid hM
  clear hq0 hq1 hq2 hq3 hV hB hM
  go_enter Tryz.func5, Tryz.ntmps5
  go_wp2_with fail
  refine (per_any u hu _).mono ?_
  rintro e w' ⟨rfl, rfl⟩
  go_wp2_with fail
  generalize (w.alloc (.cells #[.int .i64 k0, .int .i64 k1, .int .i64 k2, .int .i64 k3] 42)).alloc (.cells #[.float .f64 0, .float .f64 0, .float .f64 0, .float .f64 0] 43) = w1 at *
  refine wp_loop_rounds 5 ?_
  rw [rounds_succ]
  obtain ⟨_, _, _, _, g0, g1, g2, g3, gf⟩ := HN.out.cells
  go_wp2_with fail
  refine (HQ0.out _).mono ?_
  rintro e w2 ⟨rfl, hk⟩
  have HN2 := Lib.hid ((HN.out.set0 y0).kept hk)
  clear hk g0 g1 g2 g3 gf HN
  go_wp2_with fail
  rw [rounds_succ]
  obtain ⟨_, _, _, _, g0, g1, g2, g3, gf⟩ := HN2.out.cells
  go_wp2_with fail
  refine (HQ1.out _).mono ?_
  rintro e w3 ⟨rfl, hk⟩
  have HN3 := Lib.hid ((HN2.out.set1 y1).kept hk)
  clear hk g0 g1 g2 g3 gf HN2
  go_wp2_with fail
  rw [rounds_succ]
  obtain ⟨_, _, _, _, g0, g1, g2, g3, gf⟩ := HN3.out.cells
  go_wp2_with fail
  refine (HQ2.out _).mono ?_
  rintro e w4 ⟨rfl, hk⟩
  have HN4 := Lib.hid ((HN3.out.set2 y2).kept hk)
  clear hk g0 g1 g2 g3 gf HN3
  go_wp2_with fail
  rw [rounds_succ]
  obtain ⟨_, _, _, _, g0, g1, g2, g3, gf⟩ := HN4.out.cells
  go_wp2_with fail
  refine (HQ3.out _).mono ?_
  rintro e w5 ⟨rfl, hk⟩
  have HN5 := Lib.hid ((HN4.out.set3 y3).kept hk)
  clear hk g0 g1 g2 g3 gf HN4
  go_wp2_with fail
  rw [rounds_succ]
  go_wp2_with fail
  refine (words_any _).mono ?_
  rintro e w6 ⟨g, c, v2, rfl, hw, hk⟩
  have HN6 := Lib.hid (HN5.out.kept hk)
  have HAG : Hid (w6.cell? ⟨g, a, none⟩ = some (.string sa)) := (hw a ha).trans (congrArg some hsa)
  have HV6 : Hid (Vars w6) := HV.out.kp (HN5.out.kept hk).kp
  clear hk hw HN5
  have HVN : Hid (∀ wx, Nums w wx k0 k1 k2 k3 y0 y1 y2 y3 → Vars wx) := Lib.hid (fun wx h => HV.out.kp h.kp)
  have ag6 : w6.cell? ⟨g, a, none⟩ = some (.string sa) := HAG.out
  clear HAG
  go_upto_region 32 with (fail)
  go_cut [24, 25] from 199 to 219 (fun p c wx => c = .bool true ∧ ∃ b q cap, p = .pointer (some ⟨b, 0, none⟩) ∧ Hid (Nums w wx k0 k1 k2 k3 y0 y1 y2 y3) ∧ Hid (wx.heap[b]? = some (.cells (tcells (.slice none 0 0) 0 0 0 0 (.slice (some ⟨q, 0, none⟩) 1 cap) a) 49 (0, 0))) ∧ Hid (wx.heap[q]? = some (.cells #[.float .f64 y0, .float .f64 y1] 58 (0, 0))))
  case first =>
    have kn6 := HN6.out
    obtain ⟨n0, n1, _⟩ := kn6.cells
    have gl6 : g < w6.heap.size := World.block_lt_of_cell? _ _ ag6
    have gn6 : ¬ g = w6.heap.size := by omega
    have gn6' : ¬ w6.heap.size = g := by omega
    have ia0 : (0 : Int) ≤ (a : Int) := by omega
    have ia9 : (a : Int) < 9 := by omega
    have hc1 : ¬ 9223372036854775807 < 4 + sa.size := by omega
    have hc2 : ¬ 9223372036854775807 < A1.size + 6 := by omega
    have hc3 : ¬ 9223372036854775807 < A2.size + p0.size := by omega
    have hc4 : ¬ 9223372036854775807 < A3.size + 1 := by omega
    have hc5 : ¬ 9223372036854775807 < A4.size + p1.size := by omega
    have a60 := kn6.cells.1; have a61 := kn6.cells.2.1; have e6 := kn6.ne0; have e6' := kn6.ne0'; have m6 := kn6.ne1; have m6' := kn6.ne1'; have l6 := kn6.lt0; have l6' := kn6.lt1
    go_region_held3 (fun w' => w'.cell? ⟨w.heap.size, 0, none⟩ = some (.int .i64 k0) ∧ w'.cell? ⟨w.heap.size, 1, none⟩ = some (.int .i64 k1) ∧ w'.cell? ⟨g, a, none⟩ = some (.string sa)) (go_keep)
      (first | (go_at_call_of 7 (Value.int .i64 (k0 : Int)); refine (HQ0.out _).mono ?_; rintro e w7 ⟨rfl, hk7⟩;
                have kn7 : Nums w w7 k0 k1 k2 k3 y0 y1 y2 y3 := (Nums.kept (w := _) (by first | with_reducible exact kn6 | with_reducible exact kn6.drewn | with_reducible exact kn6.allocd _ | with_reducible exact kn6.drewn.allocd _ | with_reducible exact (kn6.allocd _).drewn) hk7);
                have ag7 : w7.cell? ⟨g, a, none⟩ = some (.string sa) := kept_cell (w := _) hk7 (by first | with_reducible exact ag6 | with_reducible exact cell_drewn ag6 | with_reducible exact cell_allocd _ ag6 | with_reducible exact cell_allocd _ (cell_drewn ag6) | with_reducible exact cell_drewn (cell_allocd _ ag6)); have gl7 : g < w7.heap.size := World.block_lt_of_cell? _ _ ag7; have gn7 : ¬ g = w7.heap.size := (by omega); have gn7' : ¬ w7.heap.size = g := (by omega);
                try (have za67 : w7.heap[w6.heap.size]? = some bres := (hk7.block _ (by simp)).trans (heap_alloc_new _ _));
                have a70 := kn7.cells.1; have a71 := kn7.cells.2.1; have e7 := kn7.ne0; have e7' := kn7.ne0'; have m7 := kn7.ne1; have m7' := kn7.ne1'; have l7 := kn7.lt0; have l7' := kn7.lt1; clear hk7)
             | (go_at_call_of 7 (Value.int .i64 (k1 : Int)); refine (HQ1.out _).mono ?_; rintro e w8 ⟨rfl, hk8⟩;
                have kn8 : Nums w w8 k0 k1 k2 k3 y0 y1 y2 y3 := (Nums.kept (w := _) (by first | with_reducible exact kn7 | with_reducible exact kn7.drewn | with_reducible exact kn7.allocd _ | with_reducible exact kn7.drewn.allocd _ | with_reducible exact (kn7.allocd _).drewn) hk8);
                have ag8 : w8.cell? ⟨g, a, none⟩ = some (.string sa) := kept_cell (w := _) hk8 (by first | with_reducible exact ag7 | with_reducible exact cell_drewn ag7 | with_reducible exact cell_allocd _ ag7 | with_reducible exact cell_allocd _ (cell_drewn ag7) | with_reducible exact cell_drewn (cell_allocd _ ag7)); have gl8 : g < w8.heap.size := World.block_lt_of_cell? _ _ ag8; have gn8 : ¬ g = w8.heap.size := (by omega); have gn8' : ¬ w8.heap.size = g := (by omega);
                try (have za68 : w8.heap[w6.heap.size]? = some bres := kept_block (w := _) hk8 (by first | with_reducible exact za67 | (exact (heap_alloc_old _ _ (Array.getElem?_eq_some_iff.1 za67).1).trans za67)));
                try (have za78 : w8.heap[w7.heap.size]? = some bres := (hk8.block _ (by simp)).trans (heap_alloc_new _ _));
                have a80 := kn8.cells.1; have a81 := kn8.cells.2.1; have e8 := kn8.ne0; have e8' := kn8.ne0'; have m8 := kn8.ne1; have m8' := kn8.ne1'; have l8 := kn8.lt0; have l8' := kn8.lt1; clear hk8)
             | (go_at_call 15; refine (HB.out _ (HVN.out _ (by first | with_reducible exact kn8 | with_reducible exact kn8.drewn | with_reducible exact kn8.allocd _ | with_reducible exact kn8.drewn.allocd _ | with_reducible exact (kn8.allocd _).drewn))).mono ?_; rintro e w9 ⟨q, cap, rfl, hq9, hk9⟩;
                have kn9 : Nums w w9 k0 k1 k2 k3 y0 y1 y2 y3 := (Nums.kept (w := _) (by first | with_reducible exact kn8 | with_reducible exact kn8.drewn | with_reducible exact kn8.allocd _ | with_reducible exact kn8.drewn.allocd _ | with_reducible exact (kn8.allocd _).drewn) hk9);
                have ag9 : w9.cell? ⟨g, a, none⟩ = some (.string sa) := kept_cell (w := _) hk9 (by first | with_reducible exact ag8 | with_reducible exact cell_drewn ag8 | with_reducible exact cell_allocd _ ag8 | with_reducible exact cell_allocd _ (cell_drewn ag8) | with_reducible exact cell_drewn (cell_allocd _ ag8)); have gl9 : g < w9.heap.size := World.block_lt_of_cell? _ _ ag9; have gn9 : ¬ g = w9.heap.size := (by omega); have gn9' : ¬ w9.heap.size = g := (by omega);
                try (have za69 : w9.heap[w6.heap.size]? = some bres := kept_block (w := _) hk9 (by first | with_reducible exact za68 | (exact (heap_alloc_old _ _ (Array.getElem?_eq_some_iff.1 za68).1).trans za68)));
                try (have za79 : w9.heap[w7.heap.size]? = some bres := kept_block (w := _) hk9 (by first | with_reducible exact za78 | (exact (heap_alloc_old _ _ (Array.getElem?_eq_some_iff.1 za78).1).trans za78)));
                try (have za89 : w9.heap[w8.heap.size]? = some bres := (hk9.block _ (by simp)).trans (heap_alloc_new _ _));
                try (have zz := bres_cells w9 _ za69; obtain ⟨r0, r1, r2, r3, r4, r5, r6, r7, r8, r9, rf⟩ := zz);
                try (have zz := bres_cells w9 _ za79; obtain ⟨r0, r1, r2, r3, r4, r5, r6, r7, r8, r9, rf⟩ := zz);
                try (have zz := bres_cells w9 _ za89; obtain ⟨r0, r1, r2, r3, r4, r5, r6, r7, r8, r9, rf⟩ := zz);
                have a90 := kn9.cells.1; have a91 := kn9.cells.2.1; have e9 := kn9.ne0; have e9' := kn9.ne0'; have m9 := kn9.ne1; have m9' := kn9.ne1'; have l9 := kn9.lt0; have l9' := kn9.lt1; clear hk9))
    all_goals
      go_wp2_with fail
      go_meet
    · exact ⟨rfl, _, q, cap, rfl, Lib.hid (kn9.allocd _), Lib.hid (heap_alloc_new _ _), Lib.hid ((heap_alloc_old _ _ (Array.getElem?_eq_some_iff.1 hq9).1).trans hq9)⟩
    · have c1 := kn9.told w8.heap.size kn8.sz (.slice none 0 0) 0 0 0 0 (.slice (some ⟨q, 0, none⟩) 1 cap) a
      have c2 := bset_block w9 w8.heap.size (.slice none 0 0) 0 0 0 0 (.slice (some ⟨q, 0, none⟩) 1 cap) a _ _ _ _ _ _ _ _ _ _ za89
      have qn : q ≠ w8.heap.size := fun hq => by rw [hq, za89] at hq9; simp at hq9
      have c3 := (bset_far w9 w8.heap.size (.slice none 0 0) 0 0 0 0 (.slice (some ⟨q, 0, none⟩) 1 cap) a q qn).trans hq9
      unfold bset at c1 c2 c3
      exact ⟨rfl, _, q, cap, rfl, Lib.hid c1, Lib.hid c2, Lib.hid c3⟩
    · have c1 := kn9.told w7.heap.size kn7.sz (.slice none 0 0) 0 0 0 0 (.slice (some ⟨q, 0, none⟩) 1 cap) a
      have c2 := bset_block w9 w7.heap.size (.slice none 0 0) 0 0 0 0 (.slice (some ⟨q, 0, none⟩) 1 cap) a _ _ _ _ _ _ _ _ _ _ za79
      have qn : q ≠ w7.heap.size := fun hq => by rw [hq, za79] at hq9; simp at hq9
      have c3 := (bset_far w9 w7.heap.size (.slice none 0 0) 0 0 0 0 (.slice (some ⟨q, 0, none⟩) 1 cap) a q qn).trans hq9
      unfold bset at c1 c2 c3
      exact ⟨rfl, _, q, cap, rfl, Lib.hid c1, Lib.hid c2, Lib.hid c3⟩
    · have c1 := kn9.told w6.heap.size kn6.sz (.slice none 0 0) 0 0 0 0 (.slice (some ⟨q, 0, none⟩) 1 cap) a
      have c2 := bset_block w9 w6.heap.size (.slice none 0 0) 0 0 0 0 (.slice (some ⟨q, 0, none⟩) 1 cap) a _ _ _ _ _ _ _ _ _ _ za69
      have qn : q ≠ w6.heap.size := fun hq => by rw [hq, za69] at hq9; simp at hq9
      have c3 := (bset_far w9 w6.heap.size (.slice none 0 0) 0 0 0 0 (.slice (some ⟨q, 0, none⟩) 1 cap) a q qn).trans hq9
      unfold bset at c1 c2 c3
      exact ⟨rfl, _, q, cap, rfl, Lib.hid c1, Lib.hid c2, Lib.hid c3⟩
  case rest =>
    obtain ⟨rfl, b, q, cap, rfl, HN9, HB9, HQ9⟩ := hcut
    clear HQ0 HQ1 HQ2 HQ3 HN6 HB ag6
    obtain ⟨_, _, _, _, g0, g1, _, _, _⟩ := HN9.out.cells
    obtain ⟨_, _, _, _, _, _, b6, b7, _, _, _⟩ := tcell HB9.out
    have hqq := HQ9.out
    have d0 : wc.cell? ⟨q, 0, none⟩ = some (.float .f64 y0) := by simp [World.cell?, hqq]
    have d1 : wc.cell? ⟨q, 1, none⟩ = some (.float .f64 y1) := by simp [World.cell?, hqq]
    clear hqq
    go_upto_region 33 with (fail)
    go_region_held3 (fun w' => w'.cell? ⟨b, 6, none⟩ = some (.slice (some ⟨q, 0, none⟩) 1 cap) ∧ w'.cell? ⟨b, 7, none⟩ = some (.int .i64 a) ∧ w'.cell? ⟨q, 0, none⟩ = some (.float .f64 y0) ∧ w'.cell? ⟨q, 1, none⟩ = some (.float .f64 y1) ∧ w'.cell? ⟨w.heap.size + 1, 0, none⟩ = some (.float .f64 y0) ∧ w'.cell? ⟨w.heap.size + 1, 1, none⟩ = some (.float .f64 y1)) (go_keep)
      (first | (go_at_call 18; refine (HM.out _).mono ?_; rintro e w8 ⟨rfl, hk8⟩;
                have x6 : w8.cell? ⟨b, 6, none⟩ = some (.slice (some ⟨q, 0, none⟩) 1 cap) := kept_cell (w := _) hk8 (by first | with_reducible exact b6 | with_reducible exact cell_drewn b6);
                have x7 : w8.cell? ⟨b, 7, none⟩ = some (.int .i64 a) := kept_cell (w := _) hk8 (by first | with_reducible exact b7 | with_reducible exact cell_drewn b7);
                have x8 : w8.cell? ⟨q, 0, none⟩ = some (.float .f64 y0) := kept_cell (w := _) hk8 (by first | with_reducible exact d0 | with_reducible exact cell_drewn d0);
                have x9 : w8.cell? ⟨q, 1, none⟩ = some (.float .f64 y1) := kept_cell (w := _) hk8 (by first | with_reducible exact d1 | with_reducible exact cell_drewn d1);
                have x10 : w8.cell? ⟨w.heap.size + 1, 0, none⟩ = some (.float .f64 y0) := kept_cell (w := _) hk8 (by first | with_reducible exact g0 | with_reducible exact cell_drewn g0);
                have x11 : w8.cell? ⟨w.heap.size + 1, 1, none⟩ = some (.float .f64 y1) := kept_cell (w := _) hk8 (by first | with_reducible exact g1 | with_reducible exact cell_drewn g1);
                have HK8 := Lib.hid hk8;
                clear hk8))
    go_wp2_with fail
    go_ret
    exact ⟨rfl, (kp_drew HN9.out.kp).trans (HK8.out.mono HN9.out.kp.size)⟩
end Go.Proofs.YtcmeaogbfecjkaaGreatDoor
