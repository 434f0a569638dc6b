/- A box's margins; a box by its corners. -/
import Derived.Test.YtcmeaogbfecjkaaGreatDoorP2
import Derived.Test.YtcmeaogbfecjkaaGreatDoorP4
import Derived.Test.YtcmeaogbfecjkaaGreatDoorP5
import Derived.Deep.RegionHeld3
namespace Go.Proofs.YtcmeaogbfecjkaaGreatDoor
open Go.RowKit

theorem owns_open {w : World} {base n : Nat} {v : Value} {xs : List Value} (h : w.ownsRow base 9 1 v n xs) (hn : 0 < n) :
    ∃ g cap, v = .slice (some ⟨g, 0, none⟩) n cap ∧ base ≤ g ∧ RowAt w g n xs ∧ n ≤ cap ∧ g < w.heap.size := by
  rcases h.2 with ⟨_, h0⟩ | ⟨g, cap, cur, hv, hb, hg, hn, _, _, ht⟩
  · omega
  · exact ⟨g, cap, hv, hb, ⟨cur, hg, by simpa using ht⟩, hn, (Array.getElem?_eq_some_iff.1 hg).1⟩

/-- A box as it lies in memory. -/
def BoxAt (w : World) (Z : Nat) (r : Value) (l ri t b : Nat) (d : Value) (a : Int) : Prop :=
  w.heap[Z]? = some (.cells #[r, .bool false, .string ⟨#[]⟩, .float .f64 l, .float .f64 ri, .float .f64 t, .float .f64 b, d, .int .i64 a, .int .i64 0, .int .i64 0] 82 (0, 0))

/-- A number of quarters as a text in memory: its last sign. -/
structure NumText (k : Nat) (s : ByteArray) : Prop where
  text : s.data.toList = qtrL k
  last : ∃ n, ∃ h : s.size = n + 1, (s[n].toNat : Int) ≠ 37
  small : s.size ≤ 8

theorem num_text (k : Nat) (h : k ≤ 4000) : NumText k ⟨(qtrL k).toArray⟩ := by
  have q := qtr_text k h
  obtain ⟨z, r, hz, h1, h2⟩ := q.last
  refine ⟨rfl, ⟨r.length, by rw [bs_size, hz]; simp, ?_⟩, by rw [bs_size]; exact q.len⟩
  rw [bs_get]
  simp only [hz]
  rw [List.getElem_append_right (Nat.le_refl _)]
  simp
  omega

/-- A call gives a box, in new memory. -/
def GivesBox (f : Nat) (args : Array Value) (w : World) (A : Nat → World → Prop) : Prop :=
  Calls Tryz.prog f args w fun e w' => ∃ Z, e = .returned (.tuple #[.pointer (some ⟨Z, 0, none⟩), .nilIface]) ∧ w.heap.size ≤ Z ∧ A Z w' ∧ Grew w w'
abbrev marginBox (l r t b : Nat) (Z : Nat) (w : World) : Prop := BoxAt w Z (.pointer none) l r t b (.pointer none) 0

set_option maxRecDepth 100000 in
set_option maxHeartbeats 800000 in
theorem single_any (u k : Nat) (hb : BoxNum u k) (t s : ByteArray) (hs : NumText k s) (w : World) (hV : Vars w) :
    GivesBox 68 #[.string t, .string s, .bool true, .int .i64 u] w (marginBox (usz u k) (usz u k) (usz u k) (usz u k)) := by
  unfold GivesBox marginBox
  have HP := Lib.hid (hb.parse s hs.text w hV)
  have HU := Lib.hid (hb.user w)
  obtain ⟨n, hn, h37⟩ := hs.last
  have hsm := hs.small
  have h37b : ((s[n].toNat : Int) == 37) = false := by simpa using h37
  clear hs hV hb
  go_enter Tryz.func68, Tryz.ntmps68
  go_wp2_with fail
  refine HP.out.mono ?_
  rintro e w' ⟨rfl, rfl⟩
  clear HP
  go_wp2_with fail
  refine HU.out.mono ?_
  rintro e w' ⟨rfl, rfl⟩
  clear HU
  go_wp2_with fail
  go_ret2
  exact ⟨w.heap.size, rfl, Nat.le_refl _, heap_alloc_new _ _, (Grew.refl w).alloc _⟩

set_option maxRecDepth 100000 in
set_option maxHeartbeats 1600000 in
theorem two_any (u k1 k2 : Nat) (hb1 : BoxNum u k1) (hb2 : BoxNum u k2) (t s1 s2 : ByteArray) (hs1 : NumText k1 s1) (hs2 : NumText k2 s2) (w : World) (hV : Vars w) :
    GivesBox 69 #[.string t, .string s1, .string s2, .bool true, .int .i64 u] w (marginBox (usz u k2) (usz u k2) (usz u k1) (usz u k1)) := by
  unfold GivesBox marginBox
  have HP1 := Lib.hid (hb1.parse s1 hs1.text w hV)
  have HU1 := Lib.hid (hb1.user w)
  have HP2 := Lib.hid (hb2.parse s2 hs2.text w hV)
  have HU2 := Lib.hid (hb2.user w)
  obtain ⟨n, hn, h37⟩ := hs1.last
  have hsm := hs1.small
  have h37b : ((s1[n].toNat : Int) == 37) = false := by simpa using h37
  clear hs1 hs2 hV hb1 hb2
  go_enter Tryz.func69, Tryz.ntmps69
  go_wp2_with fail
  refine HP1.out.mono ?_
  rintro e w' ⟨rfl, rfl⟩
  clear HP1
  go_wp2_with fail
  refine HP2.out.mono ?_
  rintro e w' ⟨rfl, rfl⟩
  clear HP2
  go_wp2_with fail
  refine HU1.out.mono ?_
  rintro e w' ⟨rfl, rfl⟩
  clear HU1
  go_wp2_with fail
  refine HU2.out.mono ?_
  rintro e w' ⟨rfl, rfl⟩
  clear HU2
  go_wp2_with fail
  go_ret2
  exact ⟨w.heap.size, rfl, Nat.le_refl _, heap_alloc_new _ _, (Grew.refl w).alloc _⟩

set_option maxRecDepth 100000 in
set_option maxHeartbeats 1600000 in
theorem four_any (u k1 k2 k3 k4 : Nat) (hb1 : BoxNum u k1) (hb2 : BoxNum u k2) (hb3 : BoxNum u k3) (hb4 : BoxNum u k4) (t s1 s2 s3 s4 : ByteArray) (hs1 : NumText k1 s1) (hs2 : NumText k2 s2) (hs3 : NumText k3 s3) (hs4 : NumText k4 s4) (w : World) (hV : Vars w) :
    GivesBox 71 #[.string t, .string s1, .string s2, .string s3, .string s4, .bool true, .int .i64 u] w (marginBox (usz u k4) (usz u k2) (usz u k1) (usz u k3)) := by
  unfold GivesBox marginBox
  have HP1 := Lib.hid (hb1.parse s1 hs1.text w hV)
  have HU1 := Lib.hid (hb1.user w)
  have HP2 := Lib.hid (hb2.parse s2 hs2.text w hV)
  have HU2 := Lib.hid (hb2.user w)
  have HP3 := Lib.hid (hb3.parse s3 hs3.text w hV)
  have HU3 := Lib.hid (hb3.user w)
  have HP4 := Lib.hid (hb4.parse s4 hs4.text w hV)
  have HU4 := Lib.hid (hb4.user w)
  obtain ⟨n, hn, h37⟩ := hs1.last
  have hsm := hs1.small
  have h37b : ((s1[n].toNat : Int) == 37) = false := by simpa using h37
  clear hs1 hs2 hs3 hs4 hV hb1 hb2 hb3 hb4
  go_enter Tryz.func71, Tryz.ntmps71
  go_wp2_with fail
  refine HP1.out.mono ?_
  rintro e w' ⟨rfl, rfl⟩
  clear HP1
  go_wp2_with fail
  refine HP2.out.mono ?_
  rintro e w' ⟨rfl, rfl⟩
  clear HP2
  go_wp2_with fail
  refine HP3.out.mono ?_
  rintro e w' ⟨rfl, rfl⟩
  clear HP3
  go_wp2_with fail
  refine HP4.out.mono ?_
  rintro e w' ⟨rfl, rfl⟩
  clear HP4
  go_wp2_with fail
  refine HU1.out.mono ?_
  rintro e w' ⟨rfl, rfl⟩
  clear HU1
  go_wp2_with fail
  refine HU2.out.mono ?_
  rintro e w' ⟨rfl, rfl⟩
  clear HU2
  go_wp2_with fail
  refine HU3.out.mono ?_
  rintro e w' ⟨rfl, rfl⟩
  clear HU3
  go_wp2_with fail
  refine HU4.out.mono ?_
  rintro e w' ⟨rfl, rfl⟩
  clear HU4
  go_wp2_with fail
  go_ret2
  exact ⟨w.heap.size, rfl, Nat.le_refl _, heap_alloc_new _ _, (Grew.refl w).alloc _⟩

theorem grew_drew {a w : World} (h : Grew a.drew w) : Grew a w := ⟨h.os, h.output, h.size, h.block⟩

theorem RowAt.drew {w : World} {g n : Nat} {xs : List Value} (h : RowAt w g n xs) : RowAt w.drew g n xs := h

set_option maxRecDepth 100000 in
set_option maxHeartbeats 800000 in
theorem margin1 (u k : Nat) (hb : BoxNum u k) (t s : ByteArray) (hs : NumText k s) (g cap : Nat) (w : World) (hV : Vars w) (hr : RowAt w g 1 [.string s]) :
    GivesBox 47 #[.slice (some ⟨g, 0, none⟩) 1 cap, .string t, .bool true, .int .i64 u] w (marginBox (usz u k) (usz u k) (usz u k) (usz u k)) := by
  have HS := Lib.hid (single_any u k hb t s hs w hV)
  have c0 : w.cell? ⟨g, 0, none⟩ = some (.string s) := hr.cell 0 (by simp)
  clear hs hV hb hr
  unfold GivesBox at HS ⊢
  go_enter Tryz.func47, Tryz.ntmps47
  go_wp2_with fail
  refine HS.out.mono ?_
  rintro e w' ⟨Z, rfl, hz, ha, hg⟩
  go_wp2_with fail
  go_ret2
  exact ⟨Z, rfl, hz, ha, hg⟩

set_option maxRecDepth 100000 in
set_option maxHeartbeats 800000 in
theorem margin2 (u k1 k2 : Nat) (hb1 : BoxNum u k1) (hb2 : BoxNum u k2) (t s1 s2 : ByteArray) (hs1 : NumText k1 s1) (hs2 : NumText k2 s2) (g cap : Nat) (w : World) (hV : Vars w) (hr : RowAt w g 2 [.string s1, .string s2]) :
    GivesBox 47 #[.slice (some ⟨g, 0, none⟩) 2 cap, .string t, .bool true, .int .i64 u] w (marginBox (usz u k2) (usz u k2) (usz u k1) (usz u k1)) := by
  have HS := Lib.hid (two_any u k1 k2 hb1 hb2 t s1 s2 hs1 hs2 w.drew hV.drew)
  have c0 : w.cell? ⟨g, 0, none⟩ = some (.string s1) := hr.cell 0 (by simp)
  have c1 : w.cell? ⟨g, 1, none⟩ = some (.string s2) := hr.cell 1 (by simp)
  clear hs1 hs2 hV hb1 hb2 hr
  unfold GivesBox at HS ⊢
  go_enter Tryz.func47, Tryz.ntmps47
  go_wp2_with fail
  go_region_held3 (fun w' => w'.cell? ⟨g, 0, none⟩ = some (.string s1) ∧ w'.cell? ⟨g, 1, none⟩ = some (.string s2)) (go_keep)
    (first | (go_at_call 69; refine HS.out.mono ?_; rintro e w' ⟨Z, rfl, hz, ha, hg⟩;
              have a0 : w'.cell? ⟨g, 0, none⟩ = some (.string s1) := (hg.kp.cell (World.block_lt_of_cell? _ _ c0)).trans c0
              have a1 : w'.cell? ⟨g, 1, none⟩ = some (.string s2) := (hg.kp.cell (World.block_lt_of_cell? _ _ c1)).trans c1))
  go_wp2_with fail
  go_ret2
  exact ⟨Z, rfl, hz, ha, grew_drew hg⟩

set_option maxRecDepth 100000 in
set_option maxHeartbeats 1600000 in
theorem margin4 (u k1 k2 k3 k4 : Nat) (hb1 : BoxNum u k1) (hb2 : BoxNum u k2) (hb3 : BoxNum u k3) (hb4 : BoxNum u k4) (t s1 s2 s3 s4 : ByteArray) (hs1 : NumText k1 s1) (hs2 : NumText k2 s2) (hs3 : NumText k3 s3) (hs4 : NumText k4 s4)
    (g cap : Nat) (w : World) (hV : Vars w) (hr : RowAt w g 4 [.string s1, .string s2, .string s3, .string s4]) :
    GivesBox 47 #[.slice (some ⟨g, 0, none⟩) 4 cap, .string t, .bool true, .int .i64 u] w (marginBox (usz u k4) (usz u k2) (usz u k1) (usz u k3)) := by
  have HS := Lib.hid (four_any u k1 k2 k3 k4 hb1 hb2 hb3 hb4 t s1 s2 s3 s4 hs1 hs2 hs3 hs4 w.drew hV.drew)
  have c0 : w.cell? ⟨g, 0, none⟩ = some (.string s1) := hr.cell 0 (by simp)
  have c1 : w.cell? ⟨g, 1, none⟩ = some (.string s2) := hr.cell 1 (by simp)
  have c2 : w.cell? ⟨g, 2, none⟩ = some (.string s3) := hr.cell 2 (by simp)
  have c3 : w.cell? ⟨g, 3, none⟩ = some (.string s4) := hr.cell 3 (by simp)
  clear hs1 hs2 hs3 hs4 hV hb1 hb2 hb3 hb4 hr
  unfold GivesBox at HS ⊢
  go_enter Tryz.func47, Tryz.ntmps47
  go_wp2_with fail
  go_region_held3 (fun w' => w'.cell? ⟨g, 0, none⟩ = some (.string s1) ∧ w'.cell? ⟨g, 1, none⟩ = some (.string s2) ∧ w'.cell? ⟨g, 2, none⟩ = some (.string s3) ∧ w'.cell? ⟨g, 3, none⟩ = some (.string s4)) (go_keep)
    (first | (go_at_call 71; refine HS.out.mono ?_; rintro e w' ⟨Z, rfl, hz, ha, hg⟩;
              have a0 : w'.cell? ⟨g, 0, none⟩ = some (.string s1) := (hg.kp.cell (World.block_lt_of_cell? _ _ c0)).trans c0
              have a1 : w'.cell? ⟨g, 1, none⟩ = some (.string s2) := (hg.kp.cell (World.block_lt_of_cell? _ _ c1)).trans c1
              have a2 : w'.cell? ⟨g, 2, none⟩ = some (.string s3) := (hg.kp.cell (World.block_lt_of_cell? _ _ c2)).trans c2
              have a3 : w'.cell? ⟨g, 3, none⟩ = some (.string s4) := (hg.kp.cell (World.block_lt_of_cell? _ _ c3)).trans c3))
  go_wp2_with fail
  go_ret2
  exact ⟨Z, rfl, hz, ha, grew_drew hg⟩

/-- A rectangle as it lies in memory. -/
def RectAt (w : World) (r a b c d : Nat) : Prop := w.heap[r]? = some (.cells #[.float .f64 a, .float .f64 b, .float .f64 c, .float .f64 d] 104 (0, 0))

theorem newRect (a b c d : Nat) (w : World) : Calls Tryz.prog 62 #[.float .f64 a, .float .f64 b, .float .f64 c, .float .f64 d] w fun e w' => e = .returned (.pointer (some ⟨w.heap.size, 0, none⟩)) ∧ RectAt w' w.heap.size a b c d ∧ Grew w w' := by
  go_enter Tryz.func62, Tryz.ntmps62
  go_wp2_with fail
  go_ret
  exact ⟨rfl, heap_alloc_new _ _, (Grew.refl w).alloc _⟩

abbrev rectBox (a b c d : Nat) (B : Nat) (Z : Nat) (w : World) : Prop := ∃ r, B ≤ r ∧ BoxAt w Z (.pointer (some ⟨r, 0, none⟩)) 0 0 0 0 (.pointer none) 0 ∧ RectAt w r a b c d

set_option maxRecDepth 100000 in
set_option maxHeartbeats 3200000 in
theorem rect_any (u k1 k2 k3 k4 : Nat) (hb1 : BoxNum u k1) (hb2 : BoxNum u k2) (hb3 : BoxNum u k3) (hb4 : BoxNum u k4) (p1 p2 p3 p4 : List UInt8) (hs1 : NumText k1 ⟨p1.toArray⟩) (hs2 : NumText k2 ⟨p2.toArray⟩) (hs3 : NumText k3 ⟨p3.toArray⟩) (hs4 : NumText k4 ⟨p4.toArray⟩)
    (hne : ∀ p ∈ [p1, p2, p3, p4], p ≠ []) (hvis : ∀ p ∈ [p1, p2, p3, p4], visB p = true)
    (hx : (Ieee.double.order (usz u k3) (usz u k1) == some .lt) = false) (hy : (Ieee.double.order (usz u k4) (usz u k2) == some .lt) = false) (w : World) (hV : Vars w) :
    GivesBox 42 #[bs (joinC 32 [p1, p2, p3, p4]), .int .i64 u] w (rectBox (usz u k1) (usz u k2) (usz u k3) (usz u k4) w.heap.size) := by
  have HF := Lib.hid (fun w => fields_any [p1, p2, p3, p4] _ (fields_of [p1, p2, p3, p4]) (by simp) hne hvis (by simp) w)
  have HP1 := Lib.hid (fun w h => hb1.parse _ hs1.text w h)
  have HP2 := Lib.hid (fun w h => hb2.parse _ hs2.text w h)
  have HP3 := Lib.hid (fun w h => hb3.parse _ hs3.text w h)
  have HP4 := Lib.hid (fun w h => hb4.parse _ hs4.text w h)
  have HU1 := Lib.hid (fun w => hb1.user w)
  have HU2 := Lib.hid (fun w => hb2.user w)
  have HU3 := Lib.hid (fun w => hb3.user w)
  have HU4 := Lib.hid (fun w => hb4.user w)
  have HV := Lib.hid hV
  have g1 : (FloatKind.f64.format.order (usz u k3) (usz u k1) == some .lt) = false := hx
  have g2 : (FloatKind.f64.format.order (usz u k4) (usz u k2) == some .lt) = false := hy
  clear hs1 hs2 hs3 hs4 hb1 hb2 hb3 hb4 hne hvis hV hx hy
  unfold GivesBox
  go_enter Tryz.func42, Tryz.ntmps42
  go_wp2_with fail
  refine (HF.out _).mono ?_
  rintro e w1 ⟨v, rfl, hown, hgrew⟩
  obtain ⟨g, cap, rfl, hg0, hr, hcap, hglt⟩ := owns_open hown (by simp)
  have c0 : w1.cell? ⟨g, 0, none⟩ = some (bs p1) := hr.cell 0 (by simp)
  have c1 : w1.cell? ⟨g, 1, none⟩ = some (bs p2) := hr.cell 1 (by simp)
  have c2 : w1.cell? ⟨g, 2, none⟩ = some (bs p3) := hr.cell 2 (by simp)
  have c3 : w1.cell? ⟨g, 3, none⟩ = some (bs p4) := hr.cell 3 (by simp)
  have hcap' : 4 ≤ cap := by simpa using hcap
  have HV1 : Hid (Vars w1) := HV.out.kp hgrew.kp
  have HG := Lib.hid hgrew
  clear hown hr hgrew hcap HF
  simp only [List.length_cons, List.length_nil]
  go_wp2_with fail
  refine (HP1.out _ HV1.out).mono ?_
  rintro e w' ⟨rfl, rfl⟩
  go_wp2_with fail
  refine (HU1.out _).mono ?_
  rintro e w' ⟨rfl, rfl⟩
  go_wp2_with fail
  refine (HP2.out _ HV1.out).mono ?_
  rintro e w' ⟨rfl, rfl⟩
  go_wp2_with fail
  refine (HU2.out _).mono ?_
  rintro e w' ⟨rfl, rfl⟩
  go_wp2_with fail
  refine (HP3.out _ HV1.out).mono ?_
  rintro e w' ⟨rfl, rfl⟩
  go_wp2_with fail
  refine (HU3.out _).mono ?_
  rintro e w' ⟨rfl, rfl⟩
  go_wp2_with fail
  refine (HP4.out _ HV1.out).mono ?_
  rintro e w' ⟨rfl, rfl⟩
  go_wp2_with fail
  refine (HU4.out _).mono ?_
  rintro e w' ⟨rfl, rfl⟩
  go_wp2_with fail
  refine (newRect _ _ _ _ _).mono ?_
  rintro e w2 ⟨rfl, hrect, hg2⟩
  have HR := Lib.hid hrect
  have HG2 := Lib.hid hg2
  clear hrect hg2
  go_wp2_with fail
  go_ret2
  have s2 := HG2.out.size
  have s1 := HG.out.size
  have hlt := (Array.getElem?_eq_some_iff.1 HR.out).1
  refine ⟨w2.heap.size, rfl, by omega, ⟨w1.heap.size, s1, heap_alloc_new _ _, ?_⟩, (HG.out.trans HG2.out).alloc _⟩
  unfold RectAt
  rw [heap_alloc_old _ _ hlt]
  exact HR.out
end Go.Proofs.YtcmeaogbfecjkaaGreatDoor
