/- An anchor by its name; a box's size is read into it. -/
import Derived.Test.YtcmeaogbfecjkaaGreatDoorP6
namespace Go.Proofs.YtcmeaogbfecjkaaGreatDoor
open Go.RowKit

/-- The names of anchors. -/
def shortL (a : Nat) : List UInt8 := match a with
  | 0 => [116, 108] | 1 => [116, 99] | 2 => [116, 114] | 3 => [108] | 4 => [99] | 5 => [114] | 6 => [98, 108] | 7 => [98, 99] | _ => [98, 114]

set_option maxRecDepth 100000 in
set_option maxHeartbeats 1600000 in
theorem anchor_any (a : Nat) (ha : a < 9) (w : World) : Calls Tryz.prog 66 #[bs (shortL a)] w fun e w' => e = .returned (.tuple #[.int .i64 a, .nilIface]) ∧ w = w' := by
  rcases (by omega : a = 0 ∨ a = 1 ∨ a = 2 ∨ a = 3 ∨ a = 4 ∨ a = 5 ∨ a = 6 ∨ a = 7 ∨ a = 8) with rfl | rfl | rfl | rfl | rfl | rfl | rfl | rfl | rfl
  all_goals
    unfold shortL bs
    go_enter Tryz.func66, Tryz.ntmps66
    go_wp2_with fail
    go_ret2
    exact ⟨rfl, rfl⟩

set_option maxRecDepth 100000 in
set_option maxHeartbeats 800000 in
theorem wh_any (u k1 k2 : Nat) (hb1 : BoxNum u k1) (hb2 : BoxNum u k2) (s1 s2 : ByteArray) (hs1 : NumText k1 s1) (hs2 : NumText k2 s2) (w : World) (hV : Vars w) :
    Calls Tryz.prog 86 #[.string s1, .string s2, .bool true] w fun e w' => e = .returned (.tuple #[.float .f64 (qf k1), .float .f64 (qf k2), .nilIface]) ∧ w = w' := by
  have HP1 := Lib.hid (hb1.parse s1 hs1.text w hV)
  have HP2 := Lib.hid (hb2.parse s2 hs2.text w hV)
  clear hs1 hs2 hV hb1 hb2
  go_enter Tryz.func86, Tryz.ntmps86
  go_wp2_with fail
  refine HP1.out.mono ?_
  rintro e w' ⟨rfl, rfl⟩
  clear HP1
  go_wp2_with fail
  refine HP2.out.mono ?_
  rintro e w' ⟨rfl, rfl⟩
  clear HP2
  go_wp2_with fail
  go_ret3
  exact ⟨rfl, rfl⟩

theorem BoxAt.cell {w : World} {Z l ri t b : Nat} {r d : Value} {a : Int} (h : BoxAt w Z r l ri t b d a) (i : Nat) (v : Value)
    (hv : #[r, .bool false, .string ⟨#[]⟩, .float .f64 l, .float .f64 ri, .float .f64 t, .float .f64 b, d, .int .i64 a, .int .i64 0, .int .i64 0][i]? = some v) : w.cell? ⟨Z, i, none⟩ = some v := by
  unfold BoxAt at h
  simp only [World.cell?, h]
  simpa using hv
theorem BoxAt.free {w : World} {Z l ri t b : Nat} {r d : Value} {a : Int} (h : BoxAt w Z r l ri t b d a) (i : Nat) : w.frozen? ⟨Z, i, none⟩ = false := by
  unfold BoxAt at h
  simp [World.frozen?, h]
theorem BoxAt.lt {w : World} {Z l ri t b : Nat} {r d : Value} {a : Int} (h : BoxAt w Z r l ri t b d a) : Z < w.heap.size := (Array.getElem?_eq_some_iff.1 h).1
theorem BoxAt.kp {w w' : World} {B Z l ri t b : Nat} {r d : Value} {a : Int} (h : BoxAt w Z r l ri t b d a) (hk : Kp B w w') (hZ : Z < B) : BoxAt w' Z r l ri t b d a := by
  unfold BoxAt at *
  rw [hk.block Z hZ]; exact h

/-- A size as it lies in memory. -/
def DimAt (w : World) (d x y : Nat) : Prop := w.heap[d]? = some (.cells #[.float .f64 x, .float .f64 y] 106 (0, 0))

set_option maxRecDepth 100000 in
set_option maxHeartbeats 3200000 in
theorem dim_any (u k1 k2 : Nat) (hb1 : BoxNum u k1) (hb2 : BoxNum u k2) (p1 p2 : List UInt8) (hs1 : NumText k1 ⟨p1.toArray⟩) (hs2 : NumText k2 ⟨p2.toArray⟩)
    (hne : ∀ p ∈ [p1, p2], p ≠ []) (hvis : ∀ p ∈ [p1, p2], visB p = true) (w : World) (hV : Vars w) (Z l ri t b : Nat) (r d0 : Value) (a : Int) (hZ : BoxAt w Z r l ri t b d0 a) :
    Calls Tryz.prog 65 #[bs (joinC 32 [p1, p2]), .pointer (some ⟨Z, 0, none⟩), .int .i64 u] w fun e w' => e = .returned .nilIface ∧
      ∃ d, w.heap.size ≤ d ∧ BoxAt w' Z r l ri t b (.pointer (some ⟨d, 0, none⟩)) a ∧ DimAt w' d (usz u k1) (usz u k2) ∧ Kx Z w.heap.size w w' := by
  have HF := Lib.hid (fun w => fields_any [p1, p2] _ (fields_of [p1, p2]) (by simp) hne hvis (by simp) w)
  obtain ⟨q1, hq1⟩ : ∃ q1 : ByteArray, q1 = ⟨p1.toArray⟩ := ⟨_, rfl⟩
  have hs1' : NumText k1 q1 := by rw [hq1]; exact hs1
  have HQ := Lib.hid hq1
  have HW := Lib.hid (fun w h => wh_any u k1 k2 hb1 hb2 q1 _ hs1' hs2 w h)
  have HU1 := Lib.hid (fun w => hb1.user w)
  have HU2 := Lib.hid (fun w => hb2.user w)
  have HV := Lib.hid hV
  obtain ⟨n, hn, h37⟩ := hs1'.last
  have hsm := hs1'.small
  have h37b : ((q1[n].toNat : Int) == 37) = false := by simpa using h37
  have HZ := Lib.hid hZ
  clear hq1 hs1 hs1' hs2 hb1 hb2 hne hvis hV hZ
  go_enter Tryz.func65, Tryz.ntmps65
  go_wp2_with fail
  refine (HF.out _).mono ?_
  rintro e w1 ⟨v, rfl, hown, hgrew⟩
  obtain ⟨g, cap, rfl, hg0, hr, hcap, hglt⟩ := owns_open (n := 2) hown (by decide)
  have c0 : w1.cell? ⟨g, 0, none⟩ = some (.string q1) := by rw [HQ.out]; exact hr.cell 0 (by simp)
  have c1 : w1.cell? ⟨g, 1, none⟩ = some (bs p2) := hr.cell 1 (by simp)
  have HV1 : Hid (Vars w1) := HV.out.kp hgrew.kp
  have hz1 : BoxAt w1 Z r l ri t b d0 a := HZ.out.kp hgrew.kp HZ.out.lt
  have z7 : w1.cell? ⟨Z, 7, none⟩ = some d0 := hz1.cell 7 _ rfl
  have zlt : Z < w1.heap.size := hz1.lt
  have zne : ¬ Z = w1.heap.size := by omega
  have f7 := hz1.free 7
  have HZ1 := Lib.hid hz1
  have HG := Lib.hid hgrew
  clear hown hr hgrew hcap HF hz1
  go_wp2_with fail
  go_region
  go_wp2_with fail
  refine (HW.out _ HV1.out.drew).mono ?_
  rintro e w' ⟨rfl, rfl⟩
  clear HW
  go_wp2_with fail
  refine (HU1.out _).mono ?_
  rintro e w' ⟨rfl, rfl⟩
  clear HU1
  go_wp2_with fail
  refine (HU2.out _).mono ?_
  rintro e w' ⟨rfl, rfl⟩
  clear HU2
  go_wp2_with fail
  go_ret
  have hs1 := HG.out.size
  have hsz : (w1.setCell ⟨Z, 7, none⟩ (.pointer (some ⟨w1.heap.size, 0, none⟩))).heap.size = w1.heap.size := by simp [World.setCell]
  have k : Kx Z w.heap.size w ((w1.setCell ⟨Z, 7, none⟩ (.pointer (some ⟨w1.heap.size, 0, none⟩))).alloc (.cells #[.float .f64 (usz u k1), .float .f64 (usz u k2)] 106)) :=
    ((Kx.of HG.out.kp).trans Kx.set).trans (Kx.of (Kp.alloc (Kp.refl _ _) (by omega) _))
  refine ⟨rfl, w1.heap.size, hs1, ?_, ?_, ⟨k.os, k.output, k.size, k.block⟩⟩
  · exact (heap_alloc_old _ _ (by omega)).trans (set_block w1 Z 7 _ 82 _ HZ1.out)
  · have h := heap_alloc_new (w1.setCell ⟨Z, 7, none⟩ (.pointer (some ⟨w1.heap.size, 0, none⟩))) (.cells #[.float .f64 (usz u k1), .float .f64 (usz u k2)] 106)
    rw [hsz] at h
    exact h
end Go.Proofs.YtcmeaogbfecjkaaGreatDoor
