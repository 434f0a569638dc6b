/- BoxOf: its closure, calm about it; BoxOf of margins. -/
import Derived.Test.YtcmeaogbfecjkaaGreatDoorPA
import Derived.StillTailTactics
import Derived.Deep.DeepCutAuto
namespace Go.Proofs.YtcmeaogbfecjkaaGreatDoor
open Go.RowKit

/-- What hangs on the blocks from B on alone. -/
def OwnB (A : Nat → Nat → World → Prop) : Prop := ∀ B Z w w', A B Z w → B ≤ Z → (∀ k, B ≤ k → k < w.heap.size → w'.heap[k]? = w.heap[k]?) → A B Z w'

theorem own_margin (l r t b : Nat) : OwnB fun _ => marginBox l r t b := by
  intro B Z w w' h hB hk
  have hlt := BoxAt.lt h
  unfold marginBox BoxAt at *
  rw [hk Z hB hlt]; exact h
theorem own_rect (a b c d : Nat) : OwnB (rectBox a b c d) := by
  rintro B Z w w' ⟨r, hr, h1, h2⟩ hB hk
  refine ⟨r, hr, ?_, ?_⟩
  · have hlt := BoxAt.lt h1
    unfold BoxAt at *
    rw [hk Z hB hlt]; exact h1
  · unfold RectAt at *
    rw [hk r hr (Array.getElem?_eq_some_iff.1 h2).1]; exact h2
theorem own_dim (x y : Nat) (a : Int) : OwnB (dimBox x y a) := by
  rintro B Z w w' ⟨d, hd, h1, h2⟩ hB hk
  refine ⟨d, hd, ?_, ?_⟩
  · have hlt := BoxAt.lt h1
    unfold BoxAt at *
    rw [hk Z hB hlt]; exact h1
  · unfold DimAt at *
    rw [hk d hd (Array.getElem?_eq_some_iff.1 h2).1]; exact h2

/-- The world in which BoxOf's closure is called. -/
def bw (s : ByteArray) (U : Int) (w : World) : World :=
  ((((w.alloc (.cells #[.string s] 9)).alloc (.cells #[.int .i64 U] 3)).alloc (.cells #[.slice none 0 0, .string ⟨#[]⟩, .float .f64 0, .float .f64 0, .float .f64 0, .float .f64 0, .slice none 0 0, .int .i64 0, .int .i64 0, .int .i64 0] 49)).alloc (.cells #[.pointer none] 75)).alloc (.cells #[.nilIface] 62)

abbrev bres : Obj := .cells #[.slice none 0 0, .string ⟨#[]⟩, .float .f64 0, .float .f64 0, .float .f64 0, .float .f64 0, .slice none 0 0, .int .i64 0, .int .i64 0, .int .i64 0] 49 (0, 0)

theorem bw_facts (s : ByteArray) (U : Int) (w : World) : One (bw s U w) w.heap.size (.string s) 9 ∧ One (bw s U w) (w.heap.size + 1) (.int .i64 U) 3 ∧ (bw s U w).heap[w.heap.size + 1 + 1]? = some bres ∧
    One (bw s U w) (w.heap.size + 1 + 1 + 1) (.pointer none) 75 ∧ One (bw s U w) (w.heap.size + 1 + 1 + 1 + 1) .nilIface 62 ∧ (bw s U w).heap.size = w.heap.size + 5 ∧ Kp w.heap.size w (bw s U w) := by
  have hk : Kp w.heap.size w (bw s U w) := by
    unfold bw
    refine Kp.alloc (Kp.alloc (Kp.alloc (Kp.alloc (Kp.alloc (Kp.refl _ _) (Nat.le_refl _) _) ?_ _) ?_ _) ?_ _) ?_ _ <;> simp <;> omega
  have hh : (bw s U w).heap = ((((w.heap.push (.cells #[.string s] 9)).push (.cells #[.int .i64 U] 3)).push bres).push (.cells #[.pointer none] 75)).push (.cells #[.nilIface] 62) := rfl
  unfold One
  rw [hh]
  have q : ∀ (xs : Array Obj) (a : Obj) (i : Nat), i ≠ xs.size → (xs.push a)[i]? = xs[i]? := fun xs a i h => by rw [Array.getElem?_push, if_neg h]
  have e : ∀ (xs : Array Obj) (a : Obj) (i : Nat), i = xs.size → (xs.push a)[i]? = some a := fun xs a i h => by rw [Array.getElem?_push, if_pos h]
  refine ⟨?_, ?_, ?_, ?_, ?_, ?_, hk⟩
  · rw [q _ _ _ (by simp only [Array.size_push]; omega), q _ _ _ (by simp only [Array.size_push]; omega), q _ _ _ (by simp only [Array.size_push]; omega), q _ _ _ (by simp only [Array.size_push]; omega), e _ _ _ rfl]
  · rw [q _ _ _ (by simp only [Array.size_push]; omega), q _ _ _ (by simp only [Array.size_push]; omega), q _ _ _ (by simp only [Array.size_push]; omega), e _ _ _ (by simp only [Array.size_push])]
  · rw [q _ _ _ (by simp only [Array.size_push]; omega), q _ _ _ (by simp only [Array.size_push]; omega), e _ _ _ (by simp only [Array.size_push])]
  · rw [q _ _ _ (by simp only [Array.size_push]; omega), e _ _ _ (by simp only [Array.size_push])]
  · rw [e _ _ _ (by simp only [Array.size_push])]
  · simp only [Array.size_push]

set_option maxHeartbeats 800000 in
theorem bclosure_ok (s : ByteArray) (U : Int) (b0 b1 b2 b3 : Nat) (T0 T1 T2 T3 : TypeId) (x y : Value) (R : Nat → World → Prop) (w : World)
    (h0 : One w b0 (.string s) T0) (h1 : One w b1 (.int .i64 U) T1) (h2 : One w b2 x T2) (h3 : One w b3 y T3) (hne : b2 ≠ b3)
    (hp : Hid (Calls Tryz.prog 28 #[.string s, .int .i64 U] w fun e w' => ∃ Z, e = .returned (.tuple #[.pointer (some ⟨Z, 0, none⟩), .nilIface]) ∧ w.heap.size ≤ Z ∧ R Z w' ∧ Kp w.heap.size w w')) :
    Calls Tryz.prog 27 #[.pointer (some ⟨b0, 0, none⟩), .pointer (some ⟨b1, 0, none⟩), .pointer (some ⟨b2, 0, none⟩), .pointer (some ⟨b3, 0, none⟩)] w fun e w' =>
      e = .returned (.tuple #[]) ∧ ∃ Z w1, R Z w1 ∧ Kp w.heap.size w w1 ∧ w.heap.size ≤ Z ∧ (w1.setCell ⟨b2, 0, none⟩ (.pointer (some ⟨Z, 0, none⟩))).setCell ⟨b3, 0, none⟩ .nilIface = w' := by
  have c0 := h0.cell
  have c1 := h1.cell
  have H2 := Lib.hid h2
  have H3 := Lib.hid h3
  clear h0 h1 h2 h3
  go_enter Tryz.func27, Tryz.ntmps27
  go_wp2_with fail
  refine hp.out.mono ?_
  rintro e w1 ⟨Z, rfl, hz, hr, hk⟩
  have g2 : One w1 b2 x T2 := H2.out.kp hk H2.out.lt
  have g3 : One w1 b3 y T3 := H3.out.kp hk H3.out.lt
  have c2 := g2.cell
  have f2 := g2.free
  have g3' : One (w1.setCell ⟨b2, 0, none⟩ (.pointer (some ⟨Z, 0, none⟩))) b3 y T3 := g3.set_other (Ne.symm hne)
  have c3 := g3'.cell
  have f3 := g3'.free
  have HR := Lib.hid hr
  have HK := Lib.hid hk
  clear hr hk g2 g3 g3' hp c0 c1
  go_wp2_with fail
  go_end0
  exact ⟨rfl, Z, w1, HR.out, HK.out, hz, rfl⟩
/-- calm about the closure, where the settings are read. -/
theorem bcalm_ok (s : ByteArray) (U : Int) (R : Nat → Nat → World → Prop) (hR : OwnB R) (w : World)
    (hp : ∀ w1, Kp w.heap.size w w1 → Calls Tryz.prog 28 #[.string s, .int .i64 U] w1 fun e w' => ∃ Z, e = .returned (.tuple #[.pointer (some ⟨Z, 0, none⟩), .nilIface]) ∧ w1.heap.size ≤ Z ∧ R w1.heap.size Z w' ∧ Kp w1.heap.size w1 w') :
    Calls Tryz.prog 19 #[.func (.func 27) #[] #[.pointer (some ⟨w.heap.size, 0, none⟩), .pointer (some ⟨w.heap.size + 1, 0, none⟩), .pointer (some ⟨w.heap.size + 1 + 1 + 1, 0, none⟩), .pointer (some ⟨w.heap.size + 1 + 1 + 1 + 1, 0, none⟩)]] (bw s U w) fun e w2 =>
      e = .returned (.bool true) ∧ ∃ Z, w.heap.size + 6 ≤ Z ∧ R (w.heap.size + 6) Z w2 ∧ One w2 (w.heap.size + 1 + 1 + 1) (.pointer (some ⟨Z, 0, none⟩)) 75 ∧ One w2 (w.heap.size + 1 + 1 + 1 + 1) .nilIface 62 ∧ w2.heap[w.heap.size + 1 + 1]? = some bres ∧ Kp w.heap.size w w2 := by
  obtain ⟨f0, f1, f2, f3, f4, fs, fk⟩ := bw_facts s U w
  have hk6 : Kp w.heap.size w ((bw s U w).alloc (.cells #[.bool false] 4)) := fk.alloc (by omega) _
  have hs6 : ((bw s U w).alloc (.cells #[.bool false] 4)).heap.size = w.heap.size + 6 := by simp; omega
  have old : ∀ k, k < (bw s U w).heap.size → ((bw s U w).alloc (.cells #[.bool false] 4)).heap[k]? = (bw s U w).heap[k]? := fun k hk => heap_alloc_old _ _ hk
  have g0 : One ((bw s U w).alloc (.cells #[.bool false] 4)) w.heap.size (.string s) 9 := by unfold One at *; rw [old _ (by omega)]; exact f0
  have g1 : One ((bw s U w).alloc (.cells #[.bool false] 4)) (w.heap.size + 1) (.int .i64 U) 3 := by unfold One at *; rw [old _ (by omega)]; exact f1
  have g2 : ((bw s U w).alloc (.cells #[.bool false] 4)).heap[w.heap.size + 1 + 1]? = some bres := by rw [old _ (by omega)]; exact f2
  have g3 : One ((bw s U w).alloc (.cells #[.bool false] 4)) (w.heap.size + 1 + 1 + 1) (.pointer none) 75 := by unfold One at *; rw [old _ (by omega)]; exact f3
  have g4 : One ((bw s U w).alloc (.cells #[.bool false] 4)) (w.heap.size + 1 + 1 + 1 + 1) .nilIface 62 := by unfold One at *; rw [old _ (by omega)]; exact f4
  have g5 : One ((bw s U w).alloc (.cells #[.bool false] 4)) (bw s U w).heap.size (.bool false) 4 := heap_alloc_new _ _
  refine (calm_27 _ _ _ _ (bw s U w) (fun w1 => One w1 (bw s U w).heap.size (.bool false) 4 ∧ ∃ Z, w.heap.size + 6 ≤ Z ∧ R (w.heap.size + 6) Z w1 ∧ One w1 (w.heap.size + 1 + 1 + 1) (.pointer (some ⟨Z, 0, none⟩)) 75 ∧ One w1 (w.heap.size + 1 + 1 + 1 + 1) .nilIface 62 ∧ w1.heap[w.heap.size + 1 + 1]? = some bres ∧ Kp w.heap.size w w1) (fun w1 h => h.1) ?_).mono ?_
  · refine (bclosure_ok s U _ _ _ _ 9 3 75 62 (.pointer none) .nilIface (R (w.heap.size + 6)) _ g0 g1 g3 g4 (by omega) (by have := hp _ hk6; rw [hs6] at this; rw [hs6]; exact this)).mono ?_
    rintro e w' ⟨he, Z, w1, hr, hk, hz, rfl⟩
    rw [hs6] at hk hz
    refine ⟨he, ?_, Z, hz, ?_, ?_, ?_, ?_, ?_⟩
    · exact ((g5.kp hk (by omega)).set_other (by omega)).set_other (by omega)
    · refine hR _ Z w1 _ hr hz (fun k h1 h2 => ?_)
      rw [Below.heap_setCell _ _ _ _ (by show k ≠ w.heap.size + 1 + 1 + 1 + 1; omega), Below.heap_setCell _ _ _ _ (by show k ≠ w.heap.size + 1 + 1 + 1; omega)]
    · exact ((g3.kp hk (by omega)).set).set_other (by omega)
    · exact ((g4.kp hk (by omega)).set_other (by omega)).set
    · rw [Below.heap_setCell _ _ _ _ (by show w.heap.size + 1 + 1 ≠ w.heap.size + 1 + 1 + 1 + 1; omega), Below.heap_setCell _ _ _ _ (by show w.heap.size + 1 + 1 ≠ w.heap.size + 1 + 1 + 1; omega), hk.block _ (by omega)]; exact g2
    · exact (hk6.trans (hk.mono (by omega))).trans (((Kx.set (Z := w.heap.size + 1 + 1 + 1)).kp (by omega)).trans ((Kx.set (Z := w.heap.size + 1 + 1 + 1 + 1)).kp (by omega)))
  · rintro e w2 ⟨he, w1, ⟨h0, Z, h1, h2, h3, h4, h5, h6⟩, rfl⟩
    have hne : ∀ k, k ≠ (bw s U w).heap.size → (w1.setCell ⟨(bw s U w).heap.size, 0, none⟩ (.bool true)).heap[k]? = w1.heap[k]? := fun k hk => Below.heap_setCell _ _ _ _ hk
    refine ⟨he, Z, h1, hR _ Z w1 _ h2 h1 (fun k hk _ => hne k (by omega)), h3.set_other (by omega), h4.set_other (by omega), by rw [hne _ (by omega)]; exact h5, h6.trans ((Kx.set (Z := (bw s U w).heap.size)).kp (by omega))⟩

theorem bres_cells (w : World) (r : Nat) (h : w.heap[r]? = some bres) :
    w.cell? ⟨r, 0, none⟩ = some (.slice none 0 0) ∧ w.cell? ⟨r, 1, none⟩ = some (.string ⟨#[]⟩) ∧ w.cell? ⟨r, 2, none⟩ = some (.float .f64 0) ∧ w.cell? ⟨r, 3, none⟩ = some (.float .f64 0) ∧ w.cell? ⟨r, 4, none⟩ = some (.float .f64 0) ∧
    w.cell? ⟨r, 5, none⟩ = some (.float .f64 0) ∧ w.cell? ⟨r, 6, none⟩ = some (.slice none 0 0) ∧ w.cell? ⟨r, 7, none⟩ = some (.int .i64 0) ∧ w.cell? ⟨r, 8, none⟩ = some (.int .i64 0) ∧ w.cell? ⟨r, 9, none⟩ = some (.int .i64 0) ∧ ∀ i, w.frozen? ⟨r, i, none⟩ = false := by
  refine ⟨?_, ?_, ?_, ?_, ?_, ?_, ?_, ?_, ?_, ?_, fun i => by simp [World.frozen?, h]⟩ <;> simp [World.cell?, h]

/-- What BoxOf reads of the box, and the cells of its answer. -/
structure BoxFacts (w : World) (B Z l ri t b : Nat) (x y : Value) (a : Int) : Prop where
  p3 : w.cell? ⟨B + 1 + 1 + 1, 0, none⟩ = some (.pointer (some ⟨Z, 0, none⟩))
  z0 : w.cell? ⟨Z, 0, none⟩ = some x
  z2 : w.cell? ⟨Z, 2, none⟩ = some (.string ⟨#[]⟩)
  z3 : w.cell? ⟨Z, 3, none⟩ = some (.float .f64 l)
  z4 : w.cell? ⟨Z, 4, none⟩ = some (.float .f64 ri)
  z5 : w.cell? ⟨Z, 5, none⟩ = some (.float .f64 t)
  z6 : w.cell? ⟨Z, 6, none⟩ = some (.float .f64 b)
  z7 : w.cell? ⟨Z, 7, none⟩ = some y
  z8 : w.cell? ⟨Z, 8, none⟩ = some (.int .i64 a)
  z9 : w.cell? ⟨Z, 9, none⟩ = some (.int .i64 0)
  z10 : w.cell? ⟨Z, 10, none⟩ = some (.int .i64 0)
  hr : w.heap[B + 1 + 1]? = some bres

theorem box_facts {w : World} {B Z l ri t b : Nat} {x y : Value} {a : Int} (h : BoxAt w Z x l ri t b y a) (h3 : One w (B + 1 + 1 + 1) (.pointer (some ⟨Z, 0, none⟩)) 75) (h5 : w.heap[B + 1 + 1]? = some bres) : BoxFacts w B Z l ri t b x y a :=
  ⟨h3.cell, h.cell 0 _ rfl, h.cell 2 _ rfl, h.cell 3 _ rfl, h.cell 4 _ rfl, h.cell 5 _ rfl, h.cell 6 _ rfl, h.cell 7 _ rfl, h.cell 8 _ rfl, h.cell 9 _ rfl, h.cell 10 _ rfl, h5⟩

theorem kp_drew {B : Nat} {a w : World} (h : Kp B a w) : Kp B a w.drew := ⟨h.os, h.output, h.size, h.block⟩

/-- What BoxOf has read of the box once its own fields are told. -/
structure BoxPut (w : World) (B Z l ri t b : Nat) (x y : Value) (a : Int) : Prop where
  p3 : w.cell? ⟨B + 1 + 1 + 1, 0, none⟩ = some (.pointer (some ⟨Z, 0, none⟩))
  z0 : w.cell? ⟨Z, 0, none⟩ = some x
  z7 : w.cell? ⟨Z, 7, none⟩ = some y
  hr : w.heap[B + 1 + 1]? = some (.cells #[.slice none 0 0, .string ⟨#[]⟩, .float .f64 l, .float .f64 ri, .float .f64 t, .float .f64 b, .slice none 0 0, .int .i64 a, .int .i64 0, .int .i64 0] 49 (0, 0))

/-- The cells of a told box. -/
abbrev tcells (r0 : Value) (l ri t b : Nat) (d : Value) (a : Int) : Array Value := #[r0, .string ⟨#[]⟩, .float .f64 l, .float .f64 ri, .float .f64 t, .float .f64 b, d, .int .i64 a, .int .i64 0, .int .i64 0]

/-- The world after a told box was stored. -/
def bset (w : World) (r : Nat) (r0 : Value) (l ri t b : Nat) (d : Value) (a : Int) : World :=
  (((((((((w.setCell ⟨r, 0, none⟩ r0).setCell ⟨r, 1, none⟩ (.string ⟨#[]⟩)).setCell ⟨r, 2, none⟩ (.float .f64 l)).setCell ⟨r, 3, none⟩ (.float .f64 ri)).setCell ⟨r, 4, none⟩ (.float .f64 t)).setCell ⟨r, 5, none⟩ (.float .f64 b)).setCell ⟨r, 6, none⟩ d).setCell ⟨r, 7, none⟩ (.int .i64 a)).setCell ⟨r, 8, none⟩ (.int .i64 0)).setCell ⟨r, 9, none⟩ (.int .i64 0)

theorem bset_block (w : World) (r : Nat) (r0 : Value) (l ri t b : Nat) (d : Value) (a : Int) (x0 x1 x2 x3 x4 x5 x6 x7 x8 x9 : Value) (h : w.heap[r]? = some (.cells #[x0, x1, x2, x3, x4, x5, x6, x7, x8, x9] 49 (0, 0))) :
    (bset w r r0 l ri t b d a).heap[r]? = some (.cells (tcells r0 l ri t b d a) 49 (0, 0)) := by
  have h1 := set_block w r 0 _ 49 r0 h
  have h2 := set_block _ r 1 _ 49 (.string ⟨#[]⟩) h1
  have h3 := set_block _ r 2 _ 49 (.float .f64 l) h2
  have h4 := set_block _ r 3 _ 49 (.float .f64 ri) h3
  have h5 := set_block _ r 4 _ 49 (.float .f64 t) h4
  have h6 := set_block _ r 5 _ 49 (.float .f64 b) h5
  have h7 := set_block _ r 6 _ 49 d h6
  have h8 := set_block _ r 7 _ 49 (.int .i64 a) h7
  have h9 := set_block _ r 8 _ 49 (.int .i64 0) h8
  have h10 := set_block _ r 9 _ 49 (.int .i64 0) h9
  unfold bset
  rw [h10]
  simp

theorem bset_kx (w : World) (r : Nat) (r0 : Value) (l ri t b : Nat) (d : Value) (a : Int) (B : Nat) : Kx r B w (bset w r r0 l ri t b d a) := by
  have k1 := Kx.set (Z := r) (B := B) (o := 0) (v := r0) (w := w)
  have k2 := k1.trans (Kx.set (o := 1) (v := .string ⟨#[]⟩))
  have k3 := k2.trans (Kx.set (o := 2) (v := .float .f64 l))
  have k4 := k3.trans (Kx.set (o := 3) (v := .float .f64 ri))
  have k5 := k4.trans (Kx.set (o := 4) (v := .float .f64 t))
  have k6 := k5.trans (Kx.set (o := 5) (v := .float .f64 b))
  have k7 := k6.trans (Kx.set (o := 6) (v := d))
  have k8 := k7.trans (Kx.set (o := 7) (v := .int .i64 a))
  have k9 := k8.trans (Kx.set (o := 8) (v := .int .i64 0))
  have k10 := k9.trans (Kx.set (o := 9) (v := .int .i64 0))
  unfold bset
  exact k10

theorem tcell {w : World} {r : Nat} {r0 : Value} {l ri t b : Nat} {d : Value} {a : Int} (h : w.heap[r]? = some (.cells (tcells r0 l ri t b d a) 49 (0, 0))) :
    w.cell? ⟨r, 0, none⟩ = some r0 ∧ w.cell? ⟨r, 1, none⟩ = some (.string ⟨#[]⟩) ∧ w.cell? ⟨r, 2, none⟩ = some (.float .f64 l) ∧ w.cell? ⟨r, 3, none⟩ = some (.float .f64 ri) ∧ w.cell? ⟨r, 4, none⟩ = some (.float .f64 t) ∧
    w.cell? ⟨r, 5, none⟩ = some (.float .f64 b) ∧ w.cell? ⟨r, 6, none⟩ = some d ∧ w.cell? ⟨r, 7, none⟩ = some (.int .i64 a) ∧ w.cell? ⟨r, 8, none⟩ = some (.int .i64 0) ∧ w.cell? ⟨r, 9, none⟩ = some (.int .i64 0) ∧ ∀ i, w.frozen? ⟨r, i, none⟩ = false := by
  refine ⟨?_, ?_, ?_, ?_, ?_, ?_, ?_, ?_, ?_, ?_, fun i => by simp [World.frozen?, h]⟩ <;> simp [World.cell?, h]

abbrev toldV (r0 : Value) (l ri t b : Nat) (d : Value) (a : Int) : Value := .tuple #[.agg (tcells r0 l ri t b d a), .bool true]

theorem bset_far (w : World) (r : Nat) (r0 : Value) (l ri t b : Nat) (d : Value) (a : Int) (k : Nat) (hk : k ≠ r) : (bset w r r0 l ri t b d a).heap[k]? = w.heap[k]? :=
  (bset_kx w r r0 l ri t b d a (k + 1)).block k (by omega) hk

theorem cell_far {w w' : World} {k : Nat} (h : w'.heap[k]? = w.heap[k]?) (i : Nat) : w'.cell? ⟨k, i, none⟩ = w.cell? ⟨k, i, none⟩ := World.cell?_of_block (w := w) h

theorem put_of {w w3 : World} {B Z l ri t b : Nat} {x y : Value} {a : Int} (h : BoxFacts w3 B Z l ri t b x y a) (hk : Kp B w w3) (hz : B + 6 ≤ Z) :
    Hid (BoxPut (bset w3 (B + 1 + 1) (.slice none 0 0) l ri t b (.slice none 0 0) a) B Z l ri t b x y a) ∧ Hid (Kp B w (bset w3 (B + 1 + 1) (.slice none 0 0) l ri t b (.slice none 0 0) a)) := by
  refine ⟨?_, hk.trans ((bset_kx _ _ _ _ _ _ _ _ _ B).kp (by omega))⟩
  refine ⟨(cell_far (bset_far _ _ _ _ _ _ _ _ _ _ (by omega)) 0).trans h.p3, (cell_far (bset_far _ _ _ _ _ _ _ _ _ _ (by omega)) 0).trans h.z0, (cell_far (bset_far _ _ _ _ _ _ _ _ _ _ (by omega)) 7).trans h.z7, bset_block _ _ _ _ _ _ _ _ _ _ _ _ _ _ _ _ _ _ _ h.hr⟩

set_option maxRecDepth 100000 in
set_option maxHeartbeats 3200000 in
theorem boxOf_margin (s : ByteArray) (U : Int) (l ri t b : Nat) (w : World)
    (hp : ∀ w1, Kp w.heap.size w w1 → Calls Tryz.prog 28 #[.string s, .int .i64 U] w1 fun e w' => ∃ Z, e = .returned (.tuple #[.pointer (some ⟨Z, 0, none⟩), .nilIface]) ∧ w1.heap.size ≤ Z ∧ marginBox l ri t b Z w' ∧ Kp w1.heap.size w1 w') :
    Calls Tryz.prog 15 #[.string s, .int .i64 U] w fun e w' => e = .returned (toldV (.slice none 0 0) l ri t b (.slice none 0 0) 0) ∧ Kp w.heap.size w w' := by
  have HC := Lib.hid (bcalm_ok s U (fun _ => marginBox l ri t b) (own_margin l ri t b) w hp)
  clear hp
  have hm := hmf
  go_enter Tryz.func15, Tryz.ntmps15
  go_wp2_with fail
  refine HC.out.mono ?_
  rintro e w2 ⟨rfl, Z, hz, hr, h3, h4, h5, hk⟩
  have c3 := h3.cell
  have c4 := h4.cell
  have HF := Lib.hid (box_facts hr h3 h5)
  have HK := Lib.hid hk
  have hne1 : ¬ w.heap.size + 1 + 1 = Z := by omega
  have hne2 : ¬ Z = w.heap.size + 1 + 1 := by omega
  clear hr h3 h4 h5 hk HC hm
  go_wp2_with fail
  go_cut [] from 20 to 53 (fun wx => Hid (BoxPut wx w.heap.size Z l ri t b (.pointer none) (.pointer none) 0) ∧ Hid (Kp w.heap.size w wx))
  case first =>
    obtain ⟨p3, z0, z2, z3, z4, z5, z6, z7, z8, z9, z10, _⟩ := HF.out
    go_still_tail 33, (by kernel_rfl)
    change wpList _ _ _ _ _ w2.drew
    clear p3 z0 z2 z3 z4 z5 z6 z7 z8 z9 z10
    have HKD : Hid (Kp w.heap.size w w2.drew) := kp_drew HK.out
    have HF2 : Hid (BoxFacts w2.drew w.heap.size Z l ri t b (.pointer none) (.pointer none) 0) := by have h := HF.out; exact Lib.hid ⟨h.1, h.2, h.3, h.4, h.5, h.6, h.7, h.8, h.9, h.10, h.11, h.12⟩
    clear c3 c4 HF HK
    generalize w2.drew = w3 at *
    obtain ⟨p3, z0, z2, z3, z4, z5, z6, z7, z8, z9, z10, hr⟩ := HF2.out
    obtain ⟨r0, r1, r2, r3, r4, r5, r6, r7, r8, r9, rf⟩ := bres_cells w3 _ hr
    clear hr
    go_wp2_with fail
    go_meet
    case rel => exact put_of HF2.out HKD.out hz
  case rest =>
    obtain ⟨HP, HK9⟩ := hcut
    clear HK HF c3 c4
    obtain ⟨p3, z0, z7, hr⟩ := HP.out
    obtain ⟨r0, r1, r2, r3, r4, r5, r6, r7, r8, r9, rf⟩ := tcell hr
    have HR := Lib.hid hr
    clear hr
    go_wp2_with fail
    obtain ⟨q0, q1, q2, q3, q4, q5, q6, q7, q8, q9, _⟩ := tcell (bset_block wc (w.heap.size + 1 + 1) (.slice none 0 0) l ri t b (.slice none 0 0) 0 _ _ _ _ _ _ _ _ _ _ HR.out)
    have hkq := (bset_kx wc (w.heap.size + 1 + 1) (.slice none 0 0) l ri t b (.slice none 0 0) 0 w.heap.size).kp (by omega)
    simp only [bset] at q0 q1 q2 q3 q4 q5 q6 q7 q8 q9 hkq
    refine bodyPost_ret (v := toldV (.slice none 0 0) l ri t b (.slice none 0 0) 0) (by simp [results, Tryz.results15, go_sem, q0, q1, q2, q3, q4, q5, q6, q7, q8, q9]) rfl ⟨rfl, HK9.out.trans hkq⟩
end Go.Proofs.YtcmeaogbfecjkaaGreatDoor
