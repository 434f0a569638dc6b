/- The law's comparisons: margins, rectangles, sizes; the anchors' names. -/
import Derived.Test.YtcmeaogbfecjkaaGreatDoorPE
namespace Go.Proofs.YtcmeaogbfecjkaaGreatDoor
open Go.RowKit

set_option maxRecDepth 100000 in
set_option maxHeartbeats 1600000 in
theorem margins_any (l r t b : Nat) (d : Value) (a : Int) (hl : nearB l = true) (hr : nearB r = true) (ht : nearB t = true) (hb : nearB b = true) (w : World) :
    Calls Tryz.prog 17 #[.agg (tcells (.slice none 0 0) l r t b d a), .float .f64 t, .float .f64 r, .float .f64 b, .float .f64 l] w fun e w' => e = .returned (.bool true) ∧ Kp w.heap.size w w' := by
  have HL := Lib.hid (fun w => near_any l hl w)
  have HR := Lib.hid (fun w => near_any r hr w)
  have HT := Lib.hid (fun w => near_any t ht w)
  have HB := Lib.hid (fun w => near_any b hb w)
  have HK : Hid (Kp w.heap.size w (w.alloc (.cells (tcells (.slice none 0 0) l r t b d a) 49))) := (Kp.refl _ _).alloc (Nat.le_refl _) _
  clear hl hr ht hb
  go_enter Tryz.func17, Tryz.ntmps17
  go_wp2_with fail
  refine (HT.out _).mono ?_
  rintro e w' ⟨rfl, rfl⟩
  go_wp2_with fail
  refine (HR.out _).mono ?_
  rintro e w' ⟨rfl, rfl⟩
  go_wp2_with fail
  refine (HB.out _).mono ?_
  rintro e w' ⟨rfl, rfl⟩
  go_wp2_with fail
  refine (HL.out _).mono ?_
  rintro e w' ⟨rfl, rfl⟩
  go_wp2_with fail
  go_ret
  exact ⟨rfl, HK.out⟩

set_option maxRecDepth 100000 in
set_option maxHeartbeats 1600000 in
theorem nearPair_any (x y : Nat) (hx : nearB x = true) (hy : nearB y = true) (w : World) :
    Calls Tryz.prog 18 #[.agg #[.float .f64 x, .float .f64 y], .agg #[.float .f64 x, .float .f64 y]] w fun e w' => e = .returned (.bool true) ∧ Kp w.heap.size w w' := by
  have HX := Lib.hid (fun w => near_any x hx w)
  have HY := Lib.hid (fun w => near_any y hy w)
  have HK : Hid (Kp w.heap.size w ((w.alloc (.cells #[.float .f64 x, .float .f64 y] 58)).alloc (.cells #[.float .f64 x, .float .f64 y] 58))) := ((Kp.refl _ _).alloc (Nat.le_refl _) _).alloc (by simp) _
  clear hx hy
  go_enter Tryz.func18, Tryz.ntmps18
  go_wp2_with fail
  refine (HX.out _).mono ?_
  rintro e w' ⟨rfl, rfl⟩
  go_wp2_with fail
  refine (HY.out _).mono ?_
  rintro e w' ⟨rfl, rfl⟩
  go_wp2_with fail
  go_ret
  exact ⟨rfl, HK.out⟩

set_option maxRecDepth 100000 in
set_option maxHeartbeats 1600000 in
theorem nearRect_any (a b c d : Nat) (ha : nearB a = true) (hb : nearB b = true) (hc : nearB c = true) (hd : nearB d = true) (w : World) :
    Calls Tryz.prog 16 #[.agg #[.float .f64 a, .float .f64 b, .float .f64 c, .float .f64 d], .agg #[.float .f64 a, .float .f64 b, .float .f64 c, .float .f64 d]] w fun e w' => e = .returned (.bool true) ∧ Kp w.heap.size w w' := by
  have HA := Lib.hid (fun w => near_any a ha w)
  have HB := Lib.hid (fun w => near_any b hb w)
  have HC := Lib.hid (fun w => near_any c hc w)
  have HD := Lib.hid (fun w => near_any d hd w)
  have HK : Hid (Kp w.heap.size w ((w.alloc (.cells #[.float .f64 a, .float .f64 b, .float .f64 c, .float .f64 d] 54)).alloc (.cells #[.float .f64 a, .float .f64 b, .float .f64 c, .float .f64 d] 54))) := ((Kp.refl _ _).alloc (Nat.le_refl _) _).alloc (by simp) _
  clear ha hb hc hd
  go_enter Tryz.func16, Tryz.ntmps16
  go_wp2_with fail
  refine (HA.out _).mono ?_
  rintro e w' ⟨rfl, rfl⟩
  go_wp2_with fail
  refine (HB.out _).mono ?_
  rintro e w' ⟨rfl, rfl⟩
  go_wp2_with fail
  refine (HC.out _).mono ?_
  rintro e w' ⟨rfl, rfl⟩
  go_wp2_with fail
  refine (HD.out _).mono ?_
  rintro e w' ⟨rfl, rfl⟩
  go_wp2_with fail
  go_ret
  exact ⟨rfl, HK.out⟩

/-- The anchors' names in memory. -/
theorem words_any (w : World) : Calls Tryz.prog 14 #[] w fun e w' => ∃ g c v2, e = .returned (.tuple #[.slice (some ⟨g, 0, none⟩) 9 c, v2]) ∧ (∀ a : Nat, a < 9 → w'.cell? ⟨g, a, none⟩ = some (bs (shortL a))) ∧ Kp w.heap.size w w' := by
  go_enter Tryz.func14, Tryz.ntmps14
  go_wp2_with fail
  go_ret2
  refine ⟨w.heap.size, 9, _, rfl, fun a ha => ?_, ((Kp.refl _ _).alloc (Nat.le_refl _) _).alloc (by simp) _⟩
  rw [World.cell?_alloc_lt _ _ ⟨w.heap.size, a, none⟩ (by simp)]
  rcases (by omega : a = 0 ∨ a = 1 ∨ a = 2 ∨ a = 3 ∨ a = 4 ∨ a = 5 ∨ a = 6 ∨ a = 7 ∨ a = 8) with rfl | rfl | rfl | rfl | rfl | rfl | rfl | rfl | rfl
  all_goals simp [shortL]
end Go.Proofs.YtcmeaogbfecjkaaGreatDoor
