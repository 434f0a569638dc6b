/- impl.ZoomOf. -/
import Derived.Test.YtcmeaogbfecjkaaGreatDoorC8
import Derived.Deep.RegionHeld3
import Derived.Laws.EntriesVeiled
namespace Go.Proofs.YtcmeaogbfecjkaaGreatDoor
open Go.RowKit

/-- What hangs on the blocks from Z on alone. -/
def Own (A : Nat → World → Prop) : Prop := ∀ Z w w', A Z w → (∀ k, Z ≤ k → k < w.heap.size → w'.heap[k]? = w.heap[k]?) → A Z w'

theorem colors_nil (w : World) : Calls Tryz.prog 22 #[.pointer none] w fun e w' => e = .returned (.slice none 0 0) ∧ w = w' := by
  go_enter Tryz.func22, Tryz.ntmps22
  go_wp2_with fail
  go_ret
  exact ⟨rfl, rfl⟩

/-- The world in which ZoomOf's closure is called. -/
def zw (s : ByteArray) (U : Int) (w : World) : World :=
  ((((w.alloc (.cells #[.string s] 9)).alloc (.cells #[.int .i64 U] 3)).alloc (.cells #[.float .f64 0, .float .f64 0, .float .f64 0, .bool false, .slice none 0 0] 27)).alloc (.cells #[.pointer none] 60)).alloc (.cells #[.nilIface] 62)

abbrev zres : Obj := .cells #[.float .f64 0, .float .f64 0, .float .f64 0, .bool false, .slice none 0 0] 27 (0, 0)

theorem zw_facts (s : ByteArray) (U : Int) (w : World) : One (zw s U w) w.heap.size (.string s) 9 ∧ One (zw s U w) (w.heap.size + 1) (.int .i64 U) 3 ∧ (zw s U w).heap[w.heap.size + 1 + 1]? = some zres ∧
    One (zw s U w) (w.heap.size + 1 + 1 + 1) (.pointer none) 60 ∧ One (zw s U w) (w.heap.size + 1 + 1 + 1 + 1) .nilIface 62 ∧ (zw s U w).heap.size = w.heap.size + 5 ∧ Kp w.heap.size w (zw s U w) := by
  have hk : Kp w.heap.size w (zw s U w) := by
    unfold zw
    refine Kp.alloc (Kp.alloc (Kp.alloc (Kp.alloc (Kp.alloc (Kp.refl _ _) (Nat.le_refl _) _) ?_ _) ?_ _) ?_ _) ?_ _ <;> simp <;> omega
  have hh : (zw s U w).heap = ((((w.heap.push (.cells #[.string s] 9)).push (.cells #[.int .i64 U] 3)).push zres).push (.cells #[.pointer none] 60)).push (.cells #[.nilIface] 62) := rfl
  unfold One
  rw [hh]
  have q : ∀ (xs : Array Obj) (a : Obj) (i : Nat), i ≠ xs.size → (xs.push a)[i]? = xs[i]? := fun xs a i h => by rw [Array.getElem?_push, if_neg h]
  have e : ∀ (xs : Array Obj) (a : Obj) (i : Nat), i = xs.size → (xs.push a)[i]? = some a := fun xs a i h => by rw [Array.getElem?_push, if_pos h]
  refine ⟨?_, ?_, ?_, ?_, ?_, ?_, hk⟩
  · rw [q _ _ _ (by simp only [Array.size_push]; omega), q _ _ _ (by simp only [Array.size_push]; omega), q _ _ _ (by simp only [Array.size_push]; omega), q _ _ _ (by simp only [Array.size_push]; omega), e _ _ _ rfl]
  · rw [q _ _ _ (by simp only [Array.size_push]; omega), q _ _ _ (by simp only [Array.size_push]; omega), q _ _ _ (by simp only [Array.size_push]; omega), e _ _ _ (by simp only [Array.size_push])]
  · rw [q _ _ _ (by simp only [Array.size_push]; omega), q _ _ _ (by simp only [Array.size_push]; omega), e _ _ _ (by simp only [Array.size_push])]
  · rw [q _ _ _ (by simp only [Array.size_push]; omega), e _ _ _ (by simp only [Array.size_push])]
  · rw [e _ _ _ (by simp only [Array.size_push])]
  · simp only [Array.size_push]

/-- calm about the closure, where the settings are read. -/
theorem zcalm_ok (s : ByteArray) (U : Int) (R : Nat → World → Prop) (hR : Own R) (w : World)
    (hp : ∀ w1, Kp w.heap.size w w1 → Calls Tryz.prog 21 #[.string s, .int .i64 U] w1 fun e w' => ∃ Z, e = .returned (.tuple #[.pointer (some ⟨Z, 0, none⟩), .nilIface]) ∧ w1.heap.size ≤ Z ∧ R Z w' ∧ Kp w1.heap.size w1 w') :
    Calls Tryz.prog 19 #[.func (.func 20) #[] #[.pointer (some ⟨w.heap.size, 0, none⟩), .pointer (some ⟨w.heap.size + 1, 0, none⟩), .pointer (some ⟨w.heap.size + 1 + 1 + 1, 0, none⟩), .pointer (some ⟨w.heap.size + 1 + 1 + 1 + 1, 0, none⟩)]] (zw s U w) fun e w2 =>
      e = .returned (.bool true) ∧ ∃ Z, w.heap.size + 6 ≤ Z ∧ R Z w2 ∧ One w2 (w.heap.size + 1 + 1 + 1) (.pointer (some ⟨Z, 0, none⟩)) 60 ∧ One w2 (w.heap.size + 1 + 1 + 1 + 1) .nilIface 62 ∧ w2.heap[w.heap.size + 1 + 1]? = some zres ∧ Kp w.heap.size w w2 := by
  obtain ⟨f0, f1, f2, f3, f4, fs, fk⟩ := zw_facts s U w
  have hk6 : Kp w.heap.size w ((zw s U w).alloc (.cells #[.bool false] 4)) := fk.alloc (by omega) _
  have hs6 : ((zw s U w).alloc (.cells #[.bool false] 4)).heap.size = w.heap.size + 6 := by simp; omega
  have old : ∀ k, k < (zw s U w).heap.size → ((zw s U w).alloc (.cells #[.bool false] 4)).heap[k]? = (zw s U w).heap[k]? := fun k hk => heap_alloc_old _ _ hk
  have g0 : One ((zw s U w).alloc (.cells #[.bool false] 4)) w.heap.size (.string s) 9 := by unfold One at *; rw [old _ (by omega)]; exact f0
  have g1 : One ((zw s U w).alloc (.cells #[.bool false] 4)) (w.heap.size + 1) (.int .i64 U) 3 := by unfold One at *; rw [old _ (by omega)]; exact f1
  have g2 : ((zw s U w).alloc (.cells #[.bool false] 4)).heap[w.heap.size + 1 + 1]? = some zres := by rw [old _ (by omega)]; exact f2
  have g3 : One ((zw s U w).alloc (.cells #[.bool false] 4)) (w.heap.size + 1 + 1 + 1) (.pointer none) 60 := by unfold One at *; rw [old _ (by omega)]; exact f3
  have g4 : One ((zw s U w).alloc (.cells #[.bool false] 4)) (w.heap.size + 1 + 1 + 1 + 1) .nilIface 62 := by unfold One at *; rw [old _ (by omega)]; exact f4
  have g5 : One ((zw s U w).alloc (.cells #[.bool false] 4)) (zw s U w).heap.size (.bool false) 4 := heap_alloc_new _ _
  refine (calm_20 _ _ _ _ (zw s U w) (fun w1 => One w1 (zw s U w).heap.size (.bool false) 4 ∧ ∃ Z, w.heap.size + 6 ≤ Z ∧ R Z w1 ∧ One w1 (w.heap.size + 1 + 1 + 1) (.pointer (some ⟨Z, 0, none⟩)) 60 ∧ One w1 (w.heap.size + 1 + 1 + 1 + 1) .nilIface 62 ∧ w1.heap[w.heap.size + 1 + 1]? = some zres ∧ Kp w.heap.size w w1) (fun w1 h => h.1) ?_).mono ?_
  · refine (zclosure_ok s U _ _ _ _ 9 3 60 62 (.pointer none) .nilIface R _ g0 g1 g3 g4 (by omega) (hp _ hk6)).mono ?_
    rintro e w' ⟨he, Z, w1, hr, hk, hz, rfl⟩
    rw [hs6] at hk hz
    refine ⟨he, ?_, Z, hz, ?_, ?_, ?_, ?_, ?_⟩
    · exact ((g5.kp hk (by omega)).set_other (by omega)).set_other (by omega)
    · refine hR Z w1 _ hr (fun k h1 h2 => ?_)
      rw [Below.heap_setCell _ _ _ _ (by show k ≠ w.heap.size + 1 + 1 + 1 + 1; omega), Below.heap_setCell _ _ _ _ (by show k ≠ w.heap.size + 1 + 1 + 1; omega)]
    · exact ((g3.kp hk (by omega)).set).set_other (by omega)
    · exact ((g4.kp hk (by omega)).set_other (by omega)).set
    · rw [Below.heap_setCell _ _ _ _ (by show w.heap.size + 1 + 1 ≠ w.heap.size + 1 + 1 + 1 + 1; omega), Below.heap_setCell _ _ _ _ (by show w.heap.size + 1 + 1 ≠ w.heap.size + 1 + 1 + 1; omega), hk.block _ (by omega)]; exact g2
    · exact (hk6.trans (hk.mono (by omega))).trans (((Kx.set (Z := w.heap.size + 1 + 1 + 1)).kp (by omega)).trans ((Kx.set (Z := w.heap.size + 1 + 1 + 1 + 1)).kp (by omega)))
  · rintro e w2 ⟨he, w1, ⟨h0, Z, h1, h2, h3, h4, h5, h6⟩, rfl⟩
    have hne : ∀ k, k ≠ (zw s U w).heap.size → (w1.setCell ⟨(zw s U w).heap.size, 0, none⟩ (.bool true)).heap[k]? = w1.heap[k]? := fun k hk => Below.heap_setCell _ _ _ _ hk
    refine ⟨he, Z, h1, hR Z w1 _ h2 (fun k hk _ => hne k (by omega)), h3.set_other (by omega), h4.set_other (by omega), by rw [hne _ (by omega)]; exact h5, h6.trans ((Kx.set (Z := (zw s U w).heap.size)).kp (by omega))⟩

/-- The world after a zoom was stored. -/
def zset (w : World) (r F H V : Nat) (b : Bool) (v : Value) : World :=
  (((((w.setCell ⟨r, 0, none⟩ (.float .f64 F)).setCell ⟨r, 1, none⟩ (.float .f64 H)).setCell ⟨r, 2, none⟩ (.float .f64 V)).setCell ⟨r, 3, none⟩ (.bool b)).setCell ⟨r, 4, none⟩ v).drew

theorem zset_facts (w : World) (r F H V : Nat) (b : Bool) (v : Value) (h : w.heap[r]? = some zres) :
    (zset w r F H V b v).cell? ⟨r, 0, none⟩ = some (.float .f64 F) ∧ (zset w r F H V b v).cell? ⟨r, 1, none⟩ = some (.float .f64 H) ∧ (zset w r F H V b v).cell? ⟨r, 2, none⟩ = some (.float .f64 V) ∧
    (zset w r F H V b v).cell? ⟨r, 3, none⟩ = some (.bool b) ∧ (zset w r F H V b v).cell? ⟨r, 4, none⟩ = some v ∧ ∀ B, B ≤ r → Kp B w (zset w r F H V b v) := by
  have h1 := set_block w r 0 #[.float .f64 0, .float .f64 0, .float .f64 0, .bool false, .slice none 0 0] 27 (.float .f64 F) h
  have h2 := set_block _ r 1 _ 27 (.float .f64 H) h1
  have h3 := set_block _ r 2 _ 27 (.float .f64 V) h2
  have h4 := set_block _ r 3 _ 27 (.bool b) h3
  have h5 := set_block _ r 4 _ 27 v h4
  have hd : ∀ u : World, u.drew.heap = u.heap := fun _ => rfl
  have h6 : (zset w r F H V b v).heap[r]? = some (.cells #[.float .f64 F, .float .f64 H, .float .f64 V, .bool b, v] 27 (0, 0)) := by
    unfold zset
    rw [hd, h5]
    simp
  have hc : ∀ (i : Nat) (x : Value), #[.float .f64 F, .float .f64 H, .float .f64 V, .bool b, v][i]? = some x → (zset w r F H V b v).cell? ⟨r, i, none⟩ = some x := by
    intro i x hx
    generalize zset w r F H V b v = w9 at *
    simp only [World.cell?, h6]
    simpa using hx
  clear h1 h2 h3 h4 h5
  refine ⟨hc 0 _ rfl, hc 1 _ rfl, hc 2 _ rfl, hc 3 _ rfl, hc 4 _ rfl, fun B hB => ?_⟩
  have k1 := Kx.set (Z := r) (B := B) (o := 0) (v := .float .f64 F) (w := w)
  have k2 := k1.trans (Kx.set (o := 1) (v := .float .f64 H))
  have k3 := k2.trans (Kx.set (o := 2) (v := .float .f64 V))
  have k4 := k3.trans (Kx.set (o := 3) (v := .bool b))
  have k5 := k4.trans (Kx.set (o := 4) (v := v))
  unfold zset
  generalize (((((w.setCell ⟨r, 0, none⟩ (.float .f64 F)).setCell ⟨r, 1, none⟩ (.float .f64 H)).setCell ⟨r, 2, none⟩ (.float .f64 V)).setCell ⟨r, 3, none⟩ (.bool b)).setCell ⟨r, 4, none⟩ v) = w5 at k5 ⊢
  exact ⟨k5.os, k5.output, k5.size, (k5.kp hB).block⟩

set_option maxRecDepth 100000 in
set_option maxHeartbeats 1600000 in
theorem zoomOf_ok (s : ByteArray) (U : Int) (R : Nat → World → Prop) (hR : Own R) (w : World) (F H V : Nat) (b : Bool)
    (hend : ∀ Z w, R Z w → ZAt w Z F H V U b (.pointer none))
    (hp : ∀ w1, Kp w.heap.size w w1 → Calls Tryz.prog 21 #[.string s, .int .i64 U] w1 fun e w' => ∃ Z, e = .returned (.tuple #[.pointer (some ⟨Z, 0, none⟩), .nilIface]) ∧ w1.heap.size ≤ Z ∧ R Z w' ∧ Kp w1.heap.size w1 w') :
    Calls Tryz.prog 6 #[.string s, .int .i64 U] w fun e w' => e = .returned (.tuple #[.agg #[.float .f64 F, .float .f64 H, .float .f64 V, .bool b, .slice none 0 0], .bool true]) ∧ Kp w.heap.size w w' := by
  have HC := Lib.hid (zcalm_ok s U R hR w hp)
  have HE := Lib.hid hend
  clear hend hp hR
  have hm := hmf
  go_enter Tryz.func6, Tryz.ntmps6
  go_wp2_with fail
  refine HC.out.mono ?_
  rintro e w2 ⟨rfl, Z, hz, hr, h3, h4, h5, hk⟩
  have ha := HE.out Z w2 hr
  have c3 := h3.cell
  have c4 := h4.cell
  have z0 := ha.cell 0 _ rfl
  have z1 := ha.cell 1 _ rfl
  have z2 := ha.cell 2 _ rfl
  have z4 := ha.cell 4 _ rfl
  have z5 := ha.cell 5 _ rfl
  have HK := Lib.hid hk
  have H5 := Lib.hid h5
  clear hr h3 h4 h5 hk ha HC HE hm
  go_wp2_with fail
  have r0 : w2.cell? ⟨w.heap.size + 1 + 1, 0, none⟩ = some (.float .f64 0) := by simp [World.cell?, H5.out]
  have r1 : w2.cell? ⟨w.heap.size + 1 + 1, 1, none⟩ = some (.float .f64 0) := by simp [World.cell?, H5.out]
  have r2 : w2.cell? ⟨w.heap.size + 1 + 1, 2, none⟩ = some (.float .f64 0) := by simp [World.cell?, H5.out]
  have r3 : w2.cell? ⟨w.heap.size + 1 + 1, 3, none⟩ = some (.bool false) := by simp [World.cell?, H5.out]
  have r4 : w2.cell? ⟨w.heap.size + 1 + 1, 4, none⟩ = some (.slice none 0 0) := by simp [World.cell?, H5.out]
  have rf : ∀ i, w2.frozen? ⟨w.heap.size + 1 + 1, i, none⟩ = false := by intro i; simp [World.frozen?, H5.out]
  have hne1 : ¬ w.heap.size + 1 + 1 = Z := by omega
  have hne2 : ¬ Z = w.heap.size + 1 + 1 := by omega
  go_region_held3 (fun w' => w'.cell? ⟨w.heap.size + 1 + 1 + 1, 0, none⟩ = some (.pointer (some ⟨Z, 0, none⟩)) ∧ w'.cell? ⟨Z, 0, none⟩ = some (.float .f64 F) ∧ w'.cell? ⟨Z, 1, none⟩ = some (.float .f64 H) ∧ w'.cell? ⟨Z, 2, none⟩ = some (.float .f64 V) ∧ w'.cell? ⟨Z, 4, none⟩ = some (.bool b) ∧ w'.cell? ⟨Z, 5, none⟩ = some (.pointer none)) (go_keep)
    (first | (go_at_call 22; refine (colors_nil _).mono ?_; rintro e w' ⟨rfl, rfl⟩))
  go_wp2_with fail
  have hf := zset_facts w2 (w.heap.size + 1 + 1) F H V b (.slice none 0 0) H5.out
  obtain ⟨q0, q1, q2, q3, q4, hkq⟩ := hf
  simp only [zset] at q0 q1 q2 q3 q4 hkq
  refine bodyPost_ret (v := .tuple #[.agg #[.float .f64 F, .float .f64 H, .float .f64 V, .bool b, .slice none 0 0], .bool true]) (by simp [results, Tryz.results6, go_sem, q0, q1, q2, q3, q4]) rfl ⟨rfl, HK.out.trans (hkq _ (by omega))⟩

theorem zcalm_bad (s : ByteArray) (U : Int) (w : World)
    (hp : ∀ w1, Kp w.heap.size w w1 → Calls Tryz.prog 21 #[.string s, .int .i64 U] w1 fun e w' => ∃ a, e = .returned (.tuple #[.pointer none, .iface 107 (.pointer (some a))]) ∧ Kp w1.heap.size w1 w') :
    Calls Tryz.prog 19 #[.func (.func 20) #[] #[.pointer (some ⟨w.heap.size, 0, none⟩), .pointer (some ⟨w.heap.size + 1, 0, none⟩), .pointer (some ⟨w.heap.size + 1 + 1 + 1, 0, none⟩), .pointer (some ⟨w.heap.size + 1 + 1 + 1 + 1, 0, none⟩)]] (zw s U w) fun e w2 =>
      e = .returned (.bool true) ∧ ∃ a, One w2 (w.heap.size + 1 + 1 + 1 + 1) (.iface 107 (.pointer (some a))) 62 ∧ w2.heap[w.heap.size + 1 + 1]? = some zres ∧ Kp w.heap.size w w2 := by
  obtain ⟨f0, f1, f2, f3, f4, fs, fk⟩ := zw_facts s U w
  have hk6 : Kp w.heap.size w ((zw s U w).alloc (.cells #[.bool false] 4)) := fk.alloc (by omega) _
  have hs6 : ((zw s U w).alloc (.cells #[.bool false] 4)).heap.size = w.heap.size + 6 := by simp; omega
  have old : ∀ k, k < (zw s U w).heap.size → ((zw s U w).alloc (.cells #[.bool false] 4)).heap[k]? = (zw s U w).heap[k]? := fun k hk => heap_alloc_old _ _ hk
  have g0 : One ((zw s U w).alloc (.cells #[.bool false] 4)) w.heap.size (.string s) 9 := by unfold One at *; rw [old _ (by omega)]; exact f0
  have g1 : One ((zw s U w).alloc (.cells #[.bool false] 4)) (w.heap.size + 1) (.int .i64 U) 3 := by unfold One at *; rw [old _ (by omega)]; exact f1
  have g2 : ((zw s U w).alloc (.cells #[.bool false] 4)).heap[w.heap.size + 1 + 1]? = some zres := by rw [old _ (by omega)]; exact f2
  have g3 : One ((zw s U w).alloc (.cells #[.bool false] 4)) (w.heap.size + 1 + 1 + 1) (.pointer none) 60 := by unfold One at *; rw [old _ (by omega)]; exact f3
  have g4 : One ((zw s U w).alloc (.cells #[.bool false] 4)) (w.heap.size + 1 + 1 + 1 + 1) .nilIface 62 := by unfold One at *; rw [old _ (by omega)]; exact f4
  have g5 : One ((zw s U w).alloc (.cells #[.bool false] 4)) (zw s U w).heap.size (.bool false) 4 := heap_alloc_new _ _
  refine (calm_20 _ _ _ _ (zw s U w) (fun w1 => One w1 (zw s U w).heap.size (.bool false) 4 ∧ ∃ a, One w1 (w.heap.size + 1 + 1 + 1 + 1) (.iface 107 (.pointer (some a))) 62 ∧ w1.heap[w.heap.size + 1 + 1]? = some zres ∧ Kp w.heap.size w w1) (fun w1 h => h.1) (Lib.hid ?_)).mono ?_
  · refine (zclosure_bad s U _ _ _ _ 9 3 60 62 (.pointer none) .nilIface _ g0 g1 g3 g4 (by omega) (Lib.hid (hp _ hk6))).mono ?_
    rintro e w' ⟨he, a, w1, hk, rfl⟩
    rw [hs6] at hk
    refine ⟨he, ?_, a, ?_, ?_, ?_⟩
    · exact ((g5.kp hk (by omega)).set_other (by omega)).set_other (by omega)
    · exact ((g4.kp hk (by omega)).set_other (by omega)).set
    · rw [Below.heap_setCell _ _ _ _ (by show w.heap.size + 1 + 1 ≠ w.heap.size + 1 + 1 + 1 + 1; omega), Below.heap_setCell _ _ _ _ (by show w.heap.size + 1 + 1 ≠ w.heap.size + 1 + 1 + 1; omega), hk.block _ (by omega)]; exact g2
    · exact (hk6.trans (hk.mono (by omega))).trans (((Kx.set (Z := w.heap.size + 1 + 1 + 1)).kp (by omega)).trans ((Kx.set (Z := w.heap.size + 1 + 1 + 1 + 1)).kp (by omega)))
  · rintro e w2 ⟨he, w1, ⟨h0, a, h4, h5, h6⟩, rfl⟩
    have hne : ∀ k, k ≠ (zw s U w).heap.size → (w1.setCell ⟨(zw s U w).heap.size, 0, none⟩ (.bool true)).heap[k]? = w1.heap[k]? := fun k hk => Below.heap_setCell _ _ _ _ hk
    refine ⟨he, a, h4.set_other (by omega), by rw [hne _ (by omega)]; exact h5, h6.trans ((Kx.set (Z := (zw s U w).heap.size)).kp (by omega))⟩

set_option maxRecDepth 100000 in
set_option maxHeartbeats 1600000 in
theorem zoomOf_bad (s : ByteArray) (U : Int) (w : World)
    (hp : ∀ w1, Kp w.heap.size w w1 → Calls Tryz.prog 21 #[.string s, .int .i64 U] w1 fun e w' => ∃ a, e = .returned (.tuple #[.pointer none, .iface 107 (.pointer (some a))]) ∧ Kp w1.heap.size w1 w') :
    Calls Tryz.prog 6 #[.string s, .int .i64 U] w fun e w' => e = .returned (.tuple #[.agg #[.float .f64 0, .float .f64 0, .float .f64 0, .bool false, .slice none 0 0], .bool false]) ∧ Kp w.heap.size w w' := by
  have HC := Lib.hid (zcalm_bad s U w hp)
  clear hp
  have hm := hmf
  go_enter Tryz.func6, Tryz.ntmps6
  go_wp2_with fail
  refine HC.out.mono ?_
  rintro e w2 ⟨rfl, a, h4, h5, hk⟩
  have c4 := h4.cell
  have HK := Lib.hid hk
  have H5 := Lib.hid h5
  clear h4 h5 hk HC hm
  have r0 : w2.cell? ⟨w.heap.size + 1 + 1, 0, none⟩ = some (.float .f64 0) := by simp [World.cell?, H5.out]
  have r1 : w2.cell? ⟨w.heap.size + 1 + 1, 1, none⟩ = some (.float .f64 0) := by simp [World.cell?, H5.out]
  have r2 : w2.cell? ⟨w.heap.size + 1 + 1, 2, none⟩ = some (.float .f64 0) := by simp [World.cell?, H5.out]
  have r3 : w2.cell? ⟨w.heap.size + 1 + 1, 3, none⟩ = some (.bool false) := by simp [World.cell?, H5.out]
  have r4 : w2.cell? ⟨w.heap.size + 1 + 1, 4, none⟩ = some (.slice none 0 0) := by simp [World.cell?, H5.out]
  have rf : ∀ i, w2.frozen? ⟨w.heap.size + 1 + 1, i, none⟩ = false := by intro i; simp [World.frozen?, H5.out]
  go_wp2_with fail
  have hdc : ∀ (u : World) p, u.drew.cell? p = u.cell? p := fun _ _ => rfl
  have hdk : ∀ (B : Nat) (u v : World), Kp B u v.drew → Kp B u v := fun B u v k => ⟨k.os, k.output, k.size, k.block⟩
  obtain ⟨q0, q1, q2, q3, q4, hkq⟩ := zset_facts w2 (w.heap.size + 1 + 1) 0 0 0 false (.slice none 0 0) H5.out
  simp only [zset, hdc] at q0 q1 q2 q3 q4 hkq
  refine bodyPost_ret (v := .tuple #[.agg #[.float .f64 0, .float .f64 0, .float .f64 0, .bool false, .slice none 0 0], .bool false]) (by simp [results, Tryz.results6, go_sem, q0, q1, q2, q3, q4]) rfl ⟨rfl, HK.out.trans (hdk _ _ _ (hkq _ (by omega)))⟩
end Go.Proofs.YtcmeaogbfecjkaaGreatDoor
