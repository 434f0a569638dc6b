/- BoxOf of a rectangle, and of a size. -/
import Derived.Test.YtcmeaogbfecjkaaGreatDoorPC
namespace Go.Proofs.YtcmeaogbfecjkaaGreatDoor
open Go.RowKit

theorem RectAt.cells {w : World} {r a b c d : Nat} (h : RectAt w r a b c d) : w.cell? ⟨r, 0, none⟩ = some (.float .f64 a) ∧ w.cell? ⟨r, 1, none⟩ = some (.float .f64 b) ∧ w.cell? ⟨r, 2, none⟩ = some (.float .f64 c) ∧ w.cell? ⟨r, 3, none⟩ = some (.float .f64 d) := by
  unfold RectAt at h
  refine ⟨?_, ?_, ?_, ?_⟩ <;> simp [World.cell?, h]

set_option maxRecDepth 100000 in
set_option maxHeartbeats 1600000 in
theorem told_any (r a b c d : Nat) (w : World) (h : RectAt w r a b c d) : Calls Tryz.prog 29 #[.pointer (some ⟨r, 0, none⟩)] w fun e w' => e = .returned (.agg #[.float .f64 a, .float .f64 b, .float .f64 c, .float .f64 d]) ∧ Kp w.heap.size w w' := by
  have rlt : r < w.heap.size := (Array.getElem?_eq_some_iff.1 h).1
  have hA : RectAt (w.alloc (.cells #[.float .f64 0, .float .f64 0, .float .f64 0, .float .f64 0] 54)) r a b c d := by unfold RectAt; rw [heap_alloc_old _ _ rlt]; exact h
  have hN : (w.alloc (.cells #[.float .f64 0, .float .f64 0, .float .f64 0, .float .f64 0] 54)).heap[w.heap.size]? = some (.cells #[.float .f64 0, .float .f64 0, .float .f64 0, .float .f64 0] 54 (0, 0)) := heap_alloc_new _ _
  have HK : Hid (Kp w.heap.size w (w.alloc (.cells #[.float .f64 0, .float .f64 0, .float .f64 0, .float .f64 0] 54))) := (Kp.refl _ _).alloc (Nat.le_refl _) _
  have HA := Lib.hid hA
  have HN := Lib.hid hN
  have rne : ¬ r = w.heap.size := by omega
  have rne2 : ¬ w.heap.size = r := by omega
  clear h hA hN
  go_enter Tryz.func29, Tryz.ntmps29
  go_wp2_with fail
  generalize w.alloc (.cells #[.float .f64 0, .float .f64 0, .float .f64 0, .float .f64 0] 54) = w1 at *
  obtain ⟨c0, c1, c2, c3⟩ := HA.out.cells
  obtain ⟨q0, q1, q2, q3⟩ : w1.cell? ⟨w.heap.size, 0, none⟩ = some (.float .f64 0) ∧ w1.cell? ⟨w.heap.size, 1, none⟩ = some (.float .f64 0) ∧ w1.cell? ⟨w.heap.size, 2, none⟩ = some (.float .f64 0) ∧ w1.cell? ⟨w.heap.size, 3, none⟩ = some (.float .f64 0) := by
    have hN := HN.out
    refine ⟨?_, ?_, ?_, ?_⟩ <;> simp [World.cell?, hN]
  have qf : ∀ i, w1.frozen? ⟨w.heap.size, i, none⟩ = false := fun i => by have hN := HN.out; simp [World.frozen?, hN]
  generalize hz : w.heap.size = z at *
  have HZ := Lib.hid hz
  clear hz
  go_still_tail 21, (by kernel_rfl)
  go_wp2_with fail
  have h1 := set_block w1 z 0 _ 54 (.float .f64 a) HN.out
  have h2 := set_block _ z 1 _ 54 (.float .f64 b) h1
  have h3 := set_block _ z 2 _ 54 (.float .f64 c) h2
  have h4 := set_block _ z 3 _ 54 (.float .f64 d) h3
  have k1 := Kx.set (Z := z) (B := z) (o := 0) (v := .float .f64 a) (w := w1)
  have k2 := k1.trans (Kx.set (o := 1) (v := .float .f64 b))
  have k3 := k2.trans (Kx.set (o := 2) (v := .float .f64 c))
  have k4 := kp_drew (k3.trans (Kx.set (o := 3) (v := .float .f64 d)) |>.kp (Nat.le_refl _))
  clear h1 h2 h3 k1 k2 k3
  generalize (((w1.setCell ⟨z, 0, none⟩ (.float .f64 a)).setCell ⟨z, 1, none⟩ (.float .f64 b)).setCell ⟨z, 2, none⟩ (.float .f64 c)).setCell ⟨z, 3, none⟩ (.float .f64 d) = w5 at *
  have e0 : w5.cell? ⟨z, 0, none⟩ = some (.float .f64 a) := by simp [World.cell?, h4]
  have e1 : w5.cell? ⟨z, 1, none⟩ = some (.float .f64 b) := by simp [World.cell?, h4]
  have e2 : w5.cell? ⟨z, 2, none⟩ = some (.float .f64 c) := by simp [World.cell?, h4]
  have e3 : w5.cell? ⟨z, 3, none⟩ = some (.float .f64 d) := by simp [World.cell?, h4]
  refine bodyPost_ret (v := .agg #[.float .f64 a, .float .f64 b, .float .f64 c, .float .f64 d]) (by simp [results, Tryz.results29, go_sem, e0, e1, e2, e3]) rfl ⟨rfl, ?_⟩
  rw [HZ.out]
  exact HK.out.trans k4

theorem DimAt.cells {w : World} {r a b : Nat} (h : DimAt w r a b) : w.cell? ⟨r, 0, none⟩ = some (.float .f64 a) ∧ w.cell? ⟨r, 1, none⟩ = some (.float .f64 b) := by
  unfold DimAt at h
  refine ⟨?_, ?_⟩ <;> simp [World.cell?, h]

set_option maxRecDepth 100000 in
set_option maxHeartbeats 1600000 in
theorem dims_any (r a b : Nat) (w : World) (h : DimAt w r a b) : Calls Tryz.prog 30 #[.pointer (some ⟨r, 0, none⟩)] w fun e w' => e = .returned (.agg #[.float .f64 a, .float .f64 b]) ∧ Kp w.heap.size w w' := by
  have rlt : r < w.heap.size := (Array.getElem?_eq_some_iff.1 h).1
  have hA : DimAt (w.alloc (.cells #[.float .f64 0, .float .f64 0] 58)) r a b := by unfold DimAt; rw [heap_alloc_old _ _ rlt]; exact h
  have hN : (w.alloc (.cells #[.float .f64 0, .float .f64 0] 58)).heap[w.heap.size]? = some (.cells #[.float .f64 0, .float .f64 0] 58 (0, 0)) := heap_alloc_new _ _
  have HK : Hid (Kp w.heap.size w (w.alloc (.cells #[.float .f64 0, .float .f64 0] 58))) := (Kp.refl _ _).alloc (Nat.le_refl _) _
  have HA := Lib.hid hA
  have HN := Lib.hid hN
  have rne : ¬ r = w.heap.size := by omega
  have rne2 : ¬ w.heap.size = r := by omega
  clear h hA hN
  go_enter Tryz.func30, Tryz.ntmps30
  go_wp2_with fail
  generalize w.alloc (.cells #[.float .f64 0, .float .f64 0] 58) = w1 at *
  obtain ⟨c0, c1⟩ := HA.out.cells
  obtain ⟨q0, q1⟩ : w1.cell? ⟨w.heap.size, 0, none⟩ = some (.float .f64 0) ∧ w1.cell? ⟨w.heap.size, 1, none⟩ = some (.float .f64 0) := by
    have hN := HN.out
    refine ⟨?_, ?_⟩ <;> simp [World.cell?, hN]
  have qf : ∀ i, w1.frozen? ⟨w.heap.size, i, none⟩ = false := fun i => by have hN := HN.out; simp [World.frozen?, hN]
  generalize hz : w.heap.size = z at *
  have HZ := Lib.hid hz
  clear hz
  go_still_tail 9, (by kernel_rfl)
  go_wp2_with fail
  have h1 := set_block w1 z 0 _ 58 (.float .f64 a) HN.out
  have h2 := set_block _ z 1 _ 58 (.float .f64 b) h1
  have k1 := Kx.set (Z := z) (B := z) (o := 0) (v := .float .f64 a) (w := w1)
  have k2 := kp_drew (k1.trans (Kx.set (o := 1) (v := .float .f64 b)) |>.kp (Nat.le_refl _))
  clear h1 k1
  generalize (w1.setCell ⟨z, 0, none⟩ (.float .f64 a)).setCell ⟨z, 1, none⟩ (.float .f64 b) = w5 at *
  have e0 : w5.cell? ⟨z, 0, none⟩ = some (.float .f64 a) := by simp [World.cell?, h2]
  have e1 : w5.cell? ⟨z, 1, none⟩ = some (.float .f64 b) := by simp [World.cell?, h2]
  refine bodyPost_ret (v := .agg #[.float .f64 a, .float .f64 b]) (by simp [results, Tryz.results30, go_sem, e0, e1]) rfl ⟨rfl, ?_⟩
  rw [HZ.out]
  exact HK.out.trans k2

theorem sliced_facts (w4 : World) (r o : Nat) (cs : Array Value) (T : TypeId) (xs : Array Value) (hr : w4.heap[r]? = some (.cells xs 49 (0, 0))) :
    ((w4.setCell ⟨r, o, none⟩ (.slice (some ⟨w4.heap.size, 0, none⟩) 1 1)).alloc (.cells cs T)).heap[r]? = some (.cells (xs.setIfInBounds o (.slice (some ⟨w4.heap.size, 0, none⟩) 1 1)) 49 (0, 0)) ∧
    ((w4.setCell ⟨r, o, none⟩ (.slice (some ⟨w4.heap.size, 0, none⟩) 1 1)).alloc (.cells cs T)).heap[w4.heap.size]? = some (.cells cs T (0, 0)) ∧
    (∀ k, k ≠ r → k < w4.heap.size → ((w4.setCell ⟨r, o, none⟩ (.slice (some ⟨w4.heap.size, 0, none⟩) 1 1)).alloc (.cells cs T)).heap[k]? = w4.heap[k]?) ∧
    ∀ B, B ≤ r → Kp B w4 ((w4.setCell ⟨r, o, none⟩ (.slice (some ⟨w4.heap.size, 0, none⟩) 1 1)).alloc (.cells cs T)) := by
  have hlt := (Array.getElem?_eq_some_iff.1 hr).1
  have hs : (w4.setCell ⟨r, o, none⟩ (.slice (some ⟨w4.heap.size, 0, none⟩) 1 1)).heap.size = w4.heap.size := by simp [World.setCell]
  refine ⟨(heap_alloc_old _ _ (by omega)).trans (set_block w4 r o xs 49 _ hr), ?_, fun k h1 h2 => (heap_alloc_old _ _ (by omega)).trans (Below.heap_setCell _ _ _ _ h1), fun B hB => (Kx.set.kp hB).alloc (by omega) _⟩
  have h := heap_alloc_new (w4.setCell ⟨r, o, none⟩ (.slice (some ⟨w4.heap.size, 0, none⟩) 1 1)) (.cells cs T)
  rw [hs] at h
  exact h

set_option maxRecDepth 100000 in
set_option maxHeartbeats 3200000 in
theorem boxOf_rect (s : ByteArray) (U : Int) (a b c d : Nat) (w : World)
    (hp : ∀ w1, Kp w.heap.size w w1 → Calls Tryz.prog 28 #[.string s, .int .i64 U] w1 fun e w' => ∃ Z, e = .returned (.tuple #[.pointer (some ⟨Z, 0, none⟩), .nilIface]) ∧ w1.heap.size ≤ Z ∧ rectBox a b c d w1.heap.size Z w' ∧ Kp w1.heap.size w1 w') :
    Calls Tryz.prog 15 #[.string s, .int .i64 U] w fun e w' => ∃ q cap, e = .returned (toldV (.slice (some ⟨q, 0, none⟩) 1 cap) 0 0 0 0 (.slice none 0 0) 0) ∧ w'.heap[q]? = some (.cells #[.float .f64 a, .float .f64 b, .float .f64 c, .float .f64 d] 54 (0, 0)) ∧ Kp w.heap.size w w' := by
  have HC := Lib.hid (bcalm_ok s U (rectBox a b c d) (own_rect a b c d) w hp)
  clear hp
  have hm := hmf
  go_enter Tryz.func15, Tryz.ntmps15
  go_wp2_with fail
  refine HC.out.mono ?_
  rintro e w2 ⟨rfl, Z, hz, ⟨r, hrB, hr, hrect⟩, h3, h4, h5, hk⟩
  have HRC := Lib.hid hrect
  clear hrect
  have c3 := h3.cell
  have c4 := h4.cell
  have HF := Lib.hid (box_facts hr h3 h5)
  have HK := Lib.hid hk
  have hne1 : ¬ w.heap.size + 1 + 1 = Z := by omega
  have hne2 : ¬ Z = w.heap.size + 1 + 1 := by omega
  clear hr h3 h4 h5 hk HC hm
  go_wp2_with fail
  go_cut [] from 20 to 53 (fun wx => Hid (BoxPut wx w.heap.size Z 0 0 0 0 (.pointer (some ⟨r, 0, none⟩)) (.pointer none) 0) ∧ Hid (Kp w.heap.size w wx) ∧ Hid (RectAt wx r a b c d))
  case first =>
    obtain ⟨p3, z0, z2, z3, z4, z5, z6, z7, z8, z9, z10, _⟩ := HF.out
    go_still_tail 33, (by kernel_rfl)
    change wpList _ _ _ _ _ w2.drew
    clear p3 z0 z2 z3 z4 z5 z6 z7 z8 z9 z10
    have HKD : Hid (Kp w.heap.size w w2.drew) := kp_drew HK.out
    have HF2 : Hid (BoxFacts w2.drew w.heap.size Z 0 0 0 0 (.pointer (some ⟨r, 0, none⟩)) (.pointer none) 0) := by have h := HF.out; exact Lib.hid ⟨h.1, h.2, h.3, h.4, h.5, h.6, h.7, h.8, h.9, h.10, h.11, h.12⟩
    have HRC3 : Hid (RectAt w2.drew r a b c d) := HRC.out
    clear c3 c4 HF HK HRC
    generalize w2.drew = w3 at *
    obtain ⟨p3, z0, z2, z3, z4, z5, z6, z7, z8, z9, z10, hr⟩ := HF2.out
    obtain ⟨r0, r1, r2, r3, r4, r5, r6, r7, r8, r9, rf⟩ := bres_cells w3 _ hr
    clear hr
    go_wp2_with fail
    go_meet
    case rel =>
      obtain ⟨g1, g2⟩ := put_of HF2.out HKD.out hz
      refine ⟨g1, g2, ?_⟩
      show _ = _
      exact (bset_far _ _ _ _ _ _ _ _ _ _ (by omega)).trans HRC3.out
  case rest =>
    obtain ⟨HP, HK9, HR9⟩ := hcut
    clear HK HF c3 c4 HRC
    obtain ⟨p3, z0, z7, hr⟩ := HP.out
    obtain ⟨r0, r1, r2, r3, r4, r5, r6, r7, r8, r9, rf⟩ := tcell hr
    have HR := Lib.hid hr
    clear hr
    go_wp2_with fail
    refine (told_any r a b c d _ HR9.out).mono ?_
    rintro e w4 ⟨rfl, hk4⟩
    have HK4 : Hid (Kp w.heap.size w w4) := HK9.out.trans (hk4.mono HK9.out.size)
    have hrl := (Array.getElem?_eq_some_iff.1 HR.out).1
    have HR4 : Hid (w4.heap[w.heap.size + 1 + 1]? = some (.cells (tcells (.slice none 0 0) 0 0 0 0 (.slice none 0 0) 0) 49 (0, 0))) := (hk4.block _ hrl).trans HR.out
    have hs4 := hk4.size
    have p3' : w4.cell? ⟨w.heap.size + 1 + 1 + 1, 0, none⟩ = some (.pointer (some ⟨Z, 0, none⟩)) := (hk4.cell (p := ⟨w.heap.size + 1 + 1 + 1, 0, none⟩) (World.block_lt_of_cell? _ _ p3)).trans p3
    have z7' : w4.cell? ⟨Z, 7, none⟩ = some (.pointer none) := (hk4.cell (p := ⟨Z, 7, none⟩) (World.block_lt_of_cell? _ _ z7)).trans z7
    have hl3 : w.heap.size + 1 + 1 + 1 < w4.heap.size := World.block_lt_of_cell? _ _ p3'
    have hlZ : Z < w4.heap.size := World.block_lt_of_cell? _ _ z7'
    have hl2 : w.heap.size + 1 + 1 < w4.heap.size := by omega
    have hn2 : ¬ w.heap.size + 1 + 1 = w4.heap.size := by omega
    have hn3 : ¬ w.heap.size + 1 + 1 + 1 = w4.heap.size := by omega
    have hnZ : ¬ Z = w4.heap.size := by omega
    clear p3 z0 z7 r0 r1 r2 r3 r4 r5 r6 r7 r8 r9 rf HP hk4 HK9 HR9 HR
    obtain ⟨r0, _, _, _, _, _, _, _, _, _, rf⟩ := tcell HR4.out
    go_upto_region 8 with (fail)
    obtain ⟨g1, g2, g3, g4⟩ := sliced_facts w4 (w.heap.size + 1 + 1) 0 #[.float .f64 a, .float .f64 b, .float .f64 c, .float .f64 d] 54 _ HR4.out
    have hz7 := (cell_far (g3 Z (by omega) hlZ) 7).trans z7'
    have hp3 := (cell_far (g3 (w.heap.size + 1 + 1 + 1) (by omega) hl3) 0).trans p3'
    have hk5 := HK4.out.trans (g4 w.heap.size (by omega))
    clear g3 g4 z7' p3' HK4 HR4 r0 rf hn3 hnZ hn2
    generalize (w4.setCell ⟨w.heap.size + 1 + 1, 0, none⟩ (.slice (some ⟨w4.heap.size, 0, none⟩) 1 1)).alloc (.cells #[.float .f64 a, .float .f64 b, .float .f64 c, .float .f64 d] 54) = w5 at *
    have HR5 : Hid (w5.heap[w.heap.size + 1 + 1]? = some (.cells (tcells (.slice (some ⟨w4.heap.size, 0, none⟩) 1 1) 0 0 0 0 (.slice none 0 0) 0) 49 (0, 0))) := g1
    have HN5 := Lib.hid g2
    have HK5 := Lib.hid hk5
    have hq2 : w4.heap.size ≠ w.heap.size + 1 + 1 := by omega
    clear g1 g2 hk5
    generalize w4.heap.size = q at *
    obtain ⟨r0, r1, r2, r3, r4, r5, r6, r7, r8, r9, rf⟩ := tcell HR5.out
    go_wp2_with fail
    obtain ⟨q0, q1, q2, q3, q4, q5, q6, q7, q8, q9, _⟩ := tcell (bset_block w5 (w.heap.size + 1 + 1) (.slice (some ⟨q, 0, none⟩) 1 1) 0 0 0 0 (.slice none 0 0) 0 _ _ _ _ _ _ _ _ _ _ HR5.out)
    have hkq := (bset_kx w5 (w.heap.size + 1 + 1) (.slice (some ⟨q, 0, none⟩) 1 1) 0 0 0 0 (.slice none 0 0) 0 w.heap.size).kp (by omega)
    have hnq := (bset_far w5 (w.heap.size + 1 + 1) (.slice (some ⟨q, 0, none⟩) 1 1) 0 0 0 0 (.slice none 0 0) 0 q hq2).trans HN5.out
    simp only [bset] at q0 q1 q2 q3 q4 q5 q6 q7 q8 q9 hkq hnq
    refine bodyPost_ret (v := toldV (.slice (some ⟨q, 0, none⟩) 1 1) 0 0 0 0 (.slice none 0 0) 0) (by simp [results, Tryz.results15, go_sem, q0, q1, q2, q3, q4, q5, q6, q7, q8, q9]) rfl ⟨q, 1, rfl, hnq, HK5.out.trans hkq⟩
set_option maxRecDepth 100000 in
set_option maxHeartbeats 3200000 in
theorem boxOf_dim (s : ByteArray) (U : Int) (x y : Nat) (a : Int) (w : World)
    (hp : ∀ w1, Kp w.heap.size w w1 → Calls Tryz.prog 28 #[.string s, .int .i64 U] w1 fun e w' => ∃ Z, e = .returned (.tuple #[.pointer (some ⟨Z, 0, none⟩), .nilIface]) ∧ w1.heap.size ≤ Z ∧ dimBox x y a w1.heap.size Z w' ∧ Kp w1.heap.size w1 w') :
    Calls Tryz.prog 15 #[.string s, .int .i64 U] w fun e w' => ∃ q cap, e = .returned (toldV (.slice none 0 0) 0 0 0 0 (.slice (some ⟨q, 0, none⟩) 1 cap) a) ∧ w'.heap[q]? = some (.cells #[.float .f64 x, .float .f64 y] 58 (0, 0)) ∧ Kp w.heap.size w w' := by
  have HC := Lib.hid (bcalm_ok s U (dimBox x y a) (own_dim x y a) w hp)
  clear hp
  have hm := hmf
  go_enter Tryz.func15, Tryz.ntmps15
  go_wp2_with fail
  refine HC.out.mono ?_
  rintro e w2 ⟨rfl, Z, hz, ⟨r, hrB, hr, hrect⟩, h3, h4, h5, hk⟩
  have HRC := Lib.hid hrect
  clear hrect
  have c3 := h3.cell
  have c4 := h4.cell
  have HF := Lib.hid (box_facts hr h3 h5)
  have HK := Lib.hid hk
  have hne1 : ¬ w.heap.size + 1 + 1 = Z := by omega
  have hne2 : ¬ Z = w.heap.size + 1 + 1 := by omega
  clear hr h3 h4 h5 hk HC hm
  go_wp2_with fail
  go_cut [] from 20 to 53 (fun wx => Hid (BoxPut wx w.heap.size Z 0 0 0 0 (.pointer none) (.pointer (some ⟨r, 0, none⟩)) a) ∧ Hid (Kp w.heap.size w wx) ∧ Hid (DimAt wx r x y))
  case first =>
    obtain ⟨p3, z0, z2, z3, z4, z5, z6, z7, z8, z9, z10, _⟩ := HF.out
    go_still_tail 33, (by kernel_rfl)
    change wpList _ _ _ _ _ w2.drew
    clear p3 z0 z2 z3 z4 z5 z6 z7 z8 z9 z10
    have HKD : Hid (Kp w.heap.size w w2.drew) := kp_drew HK.out
    have HF2 : Hid (BoxFacts w2.drew w.heap.size Z 0 0 0 0 (.pointer none) (.pointer (some ⟨r, 0, none⟩)) a) := by have h := HF.out; exact Lib.hid ⟨h.1, h.2, h.3, h.4, h.5, h.6, h.7, h.8, h.9, h.10, h.11, h.12⟩
    have HRC3 : Hid (DimAt w2.drew r x y) := HRC.out
    clear c3 c4 HF HK HRC
    generalize w2.drew = w3 at *
    obtain ⟨p3, z0, z2, z3, z4, z5, z6, z7, z8, z9, z10, hr⟩ := HF2.out
    obtain ⟨r0, r1, r2, r3, r4, r5, r6, r7, r8, r9, rf⟩ := bres_cells w3 _ hr
    clear hr
    go_wp2_with fail
    go_meet
    case rel =>
      obtain ⟨g1, g2⟩ := put_of HF2.out HKD.out hz
      refine ⟨g1, g2, ?_⟩
      show _ = _
      exact (bset_far _ _ _ _ _ _ _ _ _ _ (by omega)).trans HRC3.out
  case rest =>
    obtain ⟨HP, HK9, HR9⟩ := hcut
    clear HK HF c3 c4 HRC
    obtain ⟨p3, z0, z7, hr⟩ := HP.out
    obtain ⟨r0, r1, r2, r3, r4, r5, r6, r7, r8, r9, rf⟩ := tcell hr
    have HR := Lib.hid hr
    clear hr
    go_wp2_with fail
    refine (dims_any r x y _ HR9.out).mono ?_
    rintro e w4 ⟨rfl, hk4⟩
    have HK4 : Hid (Kp w.heap.size w w4) := HK9.out.trans (hk4.mono HK9.out.size)
    have hrl := (Array.getElem?_eq_some_iff.1 HR.out).1
    have HR4 : Hid (w4.heap[w.heap.size + 1 + 1]? = some (.cells (tcells (.slice none 0 0) 0 0 0 0 (.slice none 0 0) a) 49 (0, 0))) := (hk4.block _ hrl).trans HR.out
    have hs4 := hk4.size
    have p3' : w4.cell? ⟨w.heap.size + 1 + 1 + 1, 0, none⟩ = some (.pointer (some ⟨Z, 0, none⟩)) := (hk4.cell (p := ⟨w.heap.size + 1 + 1 + 1, 0, none⟩) (World.block_lt_of_cell? _ _ p3)).trans p3
    have z7' : w4.cell? ⟨Z, 7, none⟩ = some (.pointer (some ⟨r, 0, none⟩)) := (hk4.cell (p := ⟨Z, 7, none⟩) (World.block_lt_of_cell? _ _ z7)).trans z7
    have hl3 : w.heap.size + 1 + 1 + 1 < w4.heap.size := World.block_lt_of_cell? _ _ p3'
    have hlZ : Z < w4.heap.size := World.block_lt_of_cell? _ _ z7'
    have hl2 : w.heap.size + 1 + 1 < w4.heap.size := by omega
    have hn2 : ¬ w.heap.size + 1 + 1 = w4.heap.size := by omega
    have hn3 : ¬ w.heap.size + 1 + 1 + 1 = w4.heap.size := by omega
    have hnZ : ¬ Z = w4.heap.size := by omega
    clear p3 z0 z7 r0 r1 r2 r3 r4 r5 r6 r7 r8 r9 rf HP hk4 HK9 HR9 HR
    obtain ⟨_, _, _, _, _, _, r6, _, _, _, rf⟩ := tcell HR4.out
    go_upto_region 10 with (fail)
    obtain ⟨g1, g2, g3, g4⟩ := sliced_facts w4 (w.heap.size + 1 + 1) 6 #[.float .f64 x, .float .f64 y] 58 _ HR4.out
    have hz7 := (cell_far (g3 Z (by omega) hlZ) 7).trans z7'
    have hp3 := (cell_far (g3 (w.heap.size + 1 + 1 + 1) (by omega) hl3) 0).trans p3'
    have hk5 := HK4.out.trans (g4 w.heap.size (by omega))
    clear g3 g4 z7' p3' HK4 HR4 r6 rf hn3 hnZ hn2
    generalize (w4.setCell ⟨w.heap.size + 1 + 1, 6, none⟩ (.slice (some ⟨w4.heap.size, 0, none⟩) 1 1)).alloc (.cells #[.float .f64 x, .float .f64 y] 58) = w5 at *
    have HR5 : Hid (w5.heap[w.heap.size + 1 + 1]? = some (.cells (tcells (.slice none 0 0) 0 0 0 0 (.slice (some ⟨w4.heap.size, 0, none⟩) 1 1) a) 49 (0, 0))) := g1
    have HN5 := Lib.hid g2
    have HK5 := Lib.hid hk5
    have hq2 : w4.heap.size ≠ w.heap.size + 1 + 1 := by omega
    clear g1 g2 hk5
    generalize w4.heap.size = q at *
    obtain ⟨r0, r1, r2, r3, r4, r5, r6, r7, r8, r9, rf⟩ := tcell HR5.out
    go_wp2_with fail
    obtain ⟨q0, q1, q2, q3, q4, q5, q6, q7, q8, q9, _⟩ := tcell (bset_block w5 (w.heap.size + 1 + 1) (.slice none 0 0) 0 0 0 0 (.slice (some ⟨q, 0, none⟩) 1 1) a _ _ _ _ _ _ _ _ _ _ HR5.out)
    have hkq := (bset_kx w5 (w.heap.size + 1 + 1) (.slice none 0 0) 0 0 0 0 (.slice (some ⟨q, 0, none⟩) 1 1) a w.heap.size).kp (by omega)
    have hnq := (bset_far w5 (w.heap.size + 1 + 1) (.slice none 0 0) 0 0 0 0 (.slice (some ⟨q, 0, none⟩) 1 1) a q hq2).trans HN5.out
    simp only [bset] at q0 q1 q2 q3 q4 q5 q6 q7 q8 q9 hkq hnq
    refine bodyPost_ret (v := toldV (.slice none 0 0) 0 0 0 0 (.slice (some ⟨q, 0, none⟩) 1 1) a) (by simp [results, Tryz.results15, go_sem, q0, q1, q2, q3, q4, q5, q6, q7, q8, q9]) rfl ⟨q, 1, rfl, hnq, HK5.out.trans hkq⟩
end Go.Proofs.YtcmeaogbfecjkaaGreatDoor
