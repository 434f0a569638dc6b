/- impl.ZoomOf: its closure, calm about it, and what it answers. -/
import Derived.Test.YtcmeaogbfecjkaaGreatDoorC7
import Derived.Defers
import Derived.Recover
namespace Go.Proofs.YtcmeaogbfecjkaaGreatDoor
open Go.RowKit

/-- A block of one cell. -/
def One (w : World) (b : Nat) (v : Value) (T : TypeId) : Prop := w.heap[b]? = some (.cells #[v] T (0, 0))
theorem One.cell {w : World} {b : Nat} {v : Value} {T : TypeId} (h : One w b v T) : w.cell? ⟨b, 0, none⟩ = some v := by
  unfold One at h
  simp [World.cell?, h]
theorem One.free {w : World} {b : Nat} {v : Value} {T : TypeId} (h : One w b v T) : w.frozen? ⟨b, 0, none⟩ = false := by
  unfold One at h
  simp [World.frozen?, h]
theorem One.kp {w w' : World} {b B : Nat} {v : Value} {T : TypeId} (h : One w b v T) (hk : Kp B w w') (hb : b < B) : One w' b v T := by
  unfold One at *
  rw [hk.block b hb]; exact h
theorem One.lt {w : World} {b : Nat} {v : Value} {T : TypeId} (h : One w b v T) : b < w.heap.size := (Array.getElem?_eq_some_iff.1 h).1
theorem One.set {w : World} {b : Nat} {v u : Value} {T : TypeId} (h : One w b v T) : One (w.setCell ⟨b, 0, none⟩ u) b u T := by
  have := set_block w b 0 _ T u h
  simpa [One] using this
theorem One.set_other {w : World} {b c : Nat} {v u : Value} {T : TypeId} (h : One w b v T) (hne : b ≠ c) : One (w.setCell ⟨c, 0, none⟩ u) b v T := by
  unfold One at *
  rw [Below.heap_setCell _ _ _ _ hne]; exact h

abbrev hmf_ : Prop := ∀ (fn : Fn) (first cap : Array Value) (w : World), (Instr.makeFunc fn first cap).run Tryz.prog w = .ok (.func fn first cap) w
theorem hmf : hmf_ := fun _ _ _ _ => rfl

set_option maxHeartbeats 800000 in
theorem zclosure_ok (s : ByteArray) (U : Int) (b0 b1 b2 b3 : Nat) (T0 T1 T2 T3 : TypeId) (x y : Value) (R : Nat → World → Prop) (w : World)
    (h0 : One w b0 (.string s) T0) (h1 : One w b1 (.int .i64 U) T1) (h2 : One w b2 x T2) (h3 : One w b3 y T3) (hne : b2 ≠ b3)
    (hp : Hid (Calls Tryz.prog 21 #[.string s, .int .i64 U] w fun e w' => ∃ Z, e = .returned (.tuple #[.pointer (some ⟨Z, 0, none⟩), .nilIface]) ∧ w.heap.size ≤ Z ∧ R Z w' ∧ Kp w.heap.size w w')) :
    Calls Tryz.prog 20 #[.pointer (some ⟨b0, 0, none⟩), .pointer (some ⟨b1, 0, none⟩), .pointer (some ⟨b2, 0, none⟩), .pointer (some ⟨b3, 0, none⟩)] w fun e w' =>
      e = .returned (.tuple #[]) ∧ ∃ Z w1, R Z w1 ∧ Kp w.heap.size w w1 ∧ w.heap.size ≤ Z ∧ (w1.setCell ⟨b2, 0, none⟩ (.pointer (some ⟨Z, 0, none⟩))).setCell ⟨b3, 0, none⟩ .nilIface = w' := by
  have c0 := h0.cell
  have c1 := h1.cell
  have H2 := Lib.hid h2
  have H3 := Lib.hid h3
  clear h0 h1 h2 h3
  go_enter Tryz.func20, Tryz.ntmps20
  go_wp2_with fail
  refine hp.out.mono ?_
  rintro e w1 ⟨Z, rfl, hz, hr, hk⟩
  have g2 : One w1 b2 x T2 := H2.out.kp hk H2.out.lt
  have g3 : One w1 b3 y T3 := H3.out.kp hk H3.out.lt
  have c2 := g2.cell
  have f2 := g2.free
  have g3' : One (w1.setCell ⟨b2, 0, none⟩ (.pointer (some ⟨Z, 0, none⟩))) b3 y T3 := g3.set_other (Ne.symm hne)
  have c3 := g3'.cell
  have f3 := g3'.free
  have HR := Lib.hid hr
  have HK := Lib.hid hk
  clear hr hk g2 g3 g3' hp c0 c1
  go_wp2_with fail
  go_end0
  exact ⟨rfl, Z, w1, HR.out, HK.out, hz, rfl⟩
set_option maxHeartbeats 800000 in
theorem zclosure_bad (s : ByteArray) (U : Int) (b0 b1 b2 b3 : Nat) (T0 T1 T2 T3 : TypeId) (x y : Value) (w : World)
    (h0 : One w b0 (.string s) T0) (h1 : One w b1 (.int .i64 U) T1) (h2 : One w b2 x T2) (h3 : One w b3 y T3) (hne : b2 ≠ b3)
    (hp : Hid (Calls Tryz.prog 21 #[.string s, .int .i64 U] w fun e w' => ∃ a, e = .returned (.tuple #[.pointer none, .iface 107 (.pointer (some a))]) ∧ Kp w.heap.size w w')) :
    Calls Tryz.prog 20 #[.pointer (some ⟨b0, 0, none⟩), .pointer (some ⟨b1, 0, none⟩), .pointer (some ⟨b2, 0, none⟩), .pointer (some ⟨b3, 0, none⟩)] w fun e w' =>
      e = .returned (.tuple #[]) ∧ ∃ a w1, Kp w.heap.size w w1 ∧ (w1.setCell ⟨b2, 0, none⟩ (.pointer none)).setCell ⟨b3, 0, none⟩ (.iface 107 (.pointer (some a))) = w' := by
  have c0 := h0.cell
  have c1 := h1.cell
  have H2 := Lib.hid h2
  have H3 := Lib.hid h3
  clear h0 h1 h2 h3
  go_enter Tryz.func20, Tryz.ntmps20
  go_wp2_with fail
  refine hp.out.mono ?_
  rintro e w1 ⟨a, rfl, hk⟩
  have g2 : One w1 b2 x T2 := H2.out.kp hk H2.out.lt
  have g3 : One w1 b3 y T3 := H3.out.kp hk H3.out.lt
  have c2 := g2.cell
  have f2 := g2.free
  have g3' : One (w1.setCell ⟨b2, 0, none⟩ (.pointer none)) b3 y T3 := g3.set_other (Ne.symm hne)
  have c3 := g3'.cell
  have f3 := g3'.free
  have HK := Lib.hid hk
  clear hk g2 g3 g3' hp c0 c1
  go_wp2_with fail
  go_end0
  exact ⟨rfl, a, w1, HK.out, rfl⟩
/-- calm's own deferred closure, where nothing has panicked. -/
theorem calm_idle (p : Addr) (w : World) :
    CallsD Tryz.prog 31 #[.pointer (some p)] .returning w fun e u' w' => e = .returned (.tuple #[]) ∧ u' = .returning ∧ w' = w := by
  refine callsD_of_wpS Tryz.func31 rfl fun c₀ cs hu => ?_
  apply wpS_seq
  apply wpS_region
  simp [wpOpsS, go_sem, recoverD, hu, Tryz.ntmps31, Exit.thenS]
  refine wpS_cond (t := false) (by simp [Act.eval, Array.replicate]) ?_
  simp only [Bool.false_eq_true, if_false]
  refine wpS_of_wp (wp_skip ?_)
  cases c₀
  simp_all [bodyPostS, results, Tryz.results31]

set_option maxHeartbeats 800000 in
theorem calm_20 (x0 x1 x2 x3 : Value) (w : World) (Q : World → Prop) (hQ : ∀ w1, Q w1 → One w1 w.heap.size (.bool false) 4)
    (hf : Hid (Calls Tryz.prog 20 #[x0, x1, x2, x3] (w.alloc (.cells #[.bool false] 4)) fun e w' => e = .returned (.tuple #[]) ∧ Q w')) :
    Calls Tryz.prog 19 #[.func (.func 20) #[] #[x0, x1, x2, x3]] w fun e w' => e = .returned (.bool true) ∧ ∃ w1, Q w1 ∧ w1.setCell ⟨w.heap.size, 0, none⟩ (.bool true) = w' := by
  have hm := hmf
  have HQ := Lib.hid hQ
  clear hQ
  go_enter_defers Tryz.func19, Tryz.ntmps19
  go_wp2_with fail
  refine hf.out.mono ?_
  rintro e w1 ⟨rfl, hq⟩
  have g := HQ.out w1 hq
  have c0 := g.cell
  have f0 := g.free
  have HCS := Lib.hid (g.set (u := .bool true)).cell
  have HQ1 := Lib.hid hq
  clear hf hq g
  go_wp2_with fail
  refine leaves_cons (f := 31) (args := #[.pointer (some ⟨w.heap.size, 0, none⟩)]) (by simp) (by simp [go_sem]) ?_
  refine (calm_idle ⟨w.heap.size, 0, none⟩ _).mono ?_
  rintro e u' w'' ⟨rfl, rfl, rfl⟩
  simp only [Leaves, settle, results, Tryz.results19, go_sem]
  simp [go_sem]
  rw [HCS.out]
  exact ⟨_, rfl, rfl, w1, HQ1.out, rfl⟩

set_option maxHeartbeats 800000 in
theorem calm_27 (x0 x1 x2 x3 : Value) (w : World) (Q : World → Prop) (hQ : ∀ w1, Q w1 → One w1 w.heap.size (.bool false) 4)
    (hf : Hid (Calls Tryz.prog 27 #[x0, x1, x2, x3] (w.alloc (.cells #[.bool false] 4)) fun e w' => e = .returned (.tuple #[]) ∧ Q w')) :
    Calls Tryz.prog 19 #[.func (.func 27) #[] #[x0, x1, x2, x3]] w fun e w' => e = .returned (.bool true) ∧ ∃ w1, Q w1 ∧ w1.setCell ⟨w.heap.size, 0, none⟩ (.bool true) = w' := by
  have hm := hmf
  have HQ := Lib.hid hQ
  clear hQ
  go_enter_defers Tryz.func19, Tryz.ntmps19
  go_wp2_with fail
  refine hf.out.mono ?_
  rintro e w1 ⟨rfl, hq⟩
  have g := HQ.out w1 hq
  have c0 := g.cell
  have f0 := g.free
  have HCS := Lib.hid (g.set (u := .bool true)).cell
  have HQ1 := Lib.hid hq
  clear hf hq g
  go_wp2_with fail
  refine leaves_cons (f := 31) (args := #[.pointer (some ⟨w.heap.size, 0, none⟩)]) (by simp) (by simp [go_sem]) ?_
  refine (calm_idle ⟨w.heap.size, 0, none⟩ _).mono ?_
  rintro e u' w'' ⟨rfl, rfl, rfl⟩
  simp only [Leaves, settle, results, Tryz.results19, go_sem]
  simp [go_sem]
  rw [HCS.out]
  exact ⟨_, rfl, rfl, w1, HQ1.out, rfl⟩

end Go.Proofs.YtcmeaogbfecjkaaGreatDoor
