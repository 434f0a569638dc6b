/- impl.colors of a background; impl.ZoomOf where a background is told. -/
import Derived.Test.YtcmeaogbfecjkaaGreatDoorG3
namespace Go.Proofs.YtcmeaogbfecjkaaGreatDoor
open Go.RowKit

theorem Grew.drew0 {a w : World} (h : Grew a.drew w) : Kp a.heap.size a w := ⟨h.os, h.output, h.size, h.block⟩
/-- A row of one colour. -/
def RowC (w : World) (g a b c : Nat) : Prop := w.heap[g]? = some (.cells #[.float .f64 (cw a), .float .f64 (cw b), .float .f64 (cw c)] 73 (0, 0))

set_option maxRecDepth 100000 in
theorem colors_one (k a b c : Nat) (ha : a < 256) (hb : b < 256) (hc : c < 256) (w : World) (hk : CAt w k (c32 a) (c32 b) (c32 c)) :
    Calls Tryz.prog 22 #[.pointer (some ⟨k, 0, none⟩)] w fun e w' => ∃ g, e = .returned (.slice (some ⟨g, 0, none⟩) 1 1) ∧ w.heap.size ≤ g ∧ RowC w' g a b c ∧ Grew w w' := by
  have hsh := shade_any a b c ha hb hc w
  obtain ⟨q0, q1, q2⟩ := three_cells hk
  have HS := Lib.hid hsh
  clear hsh hk
  unfold RowC
  generalize c32 a = a3 at *
  generalize c32 b = b3 at *
  generalize c32 c = c3 at *
  generalize cw a = a6 at *
  generalize cw b = b6 at *
  generalize cw c = c6 at *
  go_enter Tryz.func22, Tryz.ntmps22
  go_wp2_with fail
  refine HS.out.mono ?_
  rintro e w1 ⟨rfl, hg⟩
  have HG := Lib.hid hg
  clear hg HS
  go_wp2_with fail
  go_ret
  exact ⟨w1.heap.size, rfl, HG.out.size, heap_alloc_new _ _, HG.out.alloc _⟩

theorem zchain (w : World) (r F H V : Nat) (b : Bool) (v : Value) (k : Nat) (hk : k ≠ r) :
    (((((w.setCell ⟨r, 0, none⟩ (.float .f64 F)).setCell ⟨r, 1, none⟩ (.float .f64 H)).setCell ⟨r, 2, none⟩ (.float .f64 V)).setCell ⟨r, 3, none⟩ (.bool b)).setCell ⟨r, 4, none⟩ v).heap[k]? = w.heap[k]? := by
  have e : ∀ (u : World) (o : Nat) (x : Value), (u.setCell ⟨r, o, none⟩ x).heap[k]? = u.heap[k]? := fun u o x => Below.heap_setCell _ _ _ _ hk
  rw [e, e, e, e, e]

set_option maxRecDepth 100000 in
set_option maxHeartbeats 1600000 in
theorem zoomOf_col (s : ByteArray) (U : Int) (R : Nat → World → Prop) (hR : Own R) (w : World) (F H V : Nat) (b : Bool) (x y z : Nat) (hx : x < 256) (hy : y < 256) (hz : z < 256)
    (hend : ∀ Z w, R Z w → ∃ k, ZAt w Z F H V U b (.pointer (some ⟨k, 0, none⟩)) ∧ CAt w k (c32 x) (c32 y) (c32 z))
    (hp : ∀ w1, Kp w.heap.size w w1 → Calls Tryz.prog 21 #[.string s, .int .i64 U] w1 fun e w' => ∃ Z, e = .returned (.tuple #[.pointer (some ⟨Z, 0, none⟩), .nilIface]) ∧ w1.heap.size ≤ Z ∧ R Z w' ∧ Kp w1.heap.size w1 w') :
    Calls Tryz.prog 6 #[.string s, .int .i64 U] w fun e w' => ∃ g, e = .returned (.tuple #[.agg #[.float .f64 F, .float .f64 H, .float .f64 V, .bool b, .slice (some ⟨g, 0, none⟩) 1 1], .bool true]) ∧ w.heap.size ≤ g ∧ RowC w' g x y z ∧ Kp w.heap.size w w' := by
  have HC := Lib.hid (zcalm_ok s U R hR w hp)
  have HE := Lib.hid hend
  clear hend hp hR
  have hm := hmf
  go_enter Tryz.func6, Tryz.ntmps6
  go_wp2_with fail
  refine HC.out.mono ?_
  rintro e w2 ⟨rfl, Z, hZ, hr, h3, h4, h5, hk⟩
  obtain ⟨k, ha, hc⟩ := HE.out Z w2 hr
  have c3 := h3.cell
  have c4 := h4.cell
  have z0 := ha.cell 0 _ rfl
  have z1 := ha.cell 1 _ rfl
  have z2 := ha.cell 2 _ rfl
  have z4 := ha.cell 4 _ rfl
  have z5 := ha.cell 5 _ rfl
  have ltx := h3.lt
  have ltz : Z < w2.heap.size := (Array.getElem?_eq_some_iff.1 ha).1
  have hcol := colors_one k x y z hx hy hz w2.drew hc
  have HCOL := Lib.hid hcol
  have HK := Lib.hid hk
  have H5 := Lib.hid h5
  have LTX := Lib.hid ltx
  have LTZ := Lib.hid ltz
  clear hr h3 h4 h5 hk ha HC HE hm hc hcol ltx ltz
  go_wp2_with fail
  have r0 : w2.cell? ⟨w.heap.size + 1 + 1, 0, none⟩ = some (.float .f64 0) := by simp [World.cell?, H5.out]
  have r1 : w2.cell? ⟨w.heap.size + 1 + 1, 1, none⟩ = some (.float .f64 0) := by simp [World.cell?, H5.out]
  have r2 : w2.cell? ⟨w.heap.size + 1 + 1, 2, none⟩ = some (.float .f64 0) := by simp [World.cell?, H5.out]
  have r3 : w2.cell? ⟨w.heap.size + 1 + 1, 3, none⟩ = some (.bool false) := by simp [World.cell?, H5.out]
  have r4 : w2.cell? ⟨w.heap.size + 1 + 1, 4, none⟩ = some (.slice none 0 0) := by simp [World.cell?, H5.out]
  have rf : ∀ i, w2.frozen? ⟨w.heap.size + 1 + 1, i, none⟩ = false := by intro i; simp [World.frozen?, H5.out]
  have hne1 : ¬ w.heap.size + 1 + 1 = Z := by omega
  have hne2 : ¬ Z = w.heap.size + 1 + 1 := by omega
  go_region_held3 (fun w' => w'.cell? ⟨w.heap.size + 1 + 1 + 1, 0, none⟩ = some (.pointer (some ⟨Z, 0, none⟩)) ∧ w'.cell? ⟨Z, 0, none⟩ = some (.float .f64 F) ∧ w'.cell? ⟨Z, 1, none⟩ = some (.float .f64 H) ∧ w'.cell? ⟨Z, 2, none⟩ = some (.float .f64 V) ∧ w'.cell? ⟨Z, 4, none⟩ = some (.bool b) ∧ w'.cell? ⟨Z, 5, none⟩ = some (.pointer (some ⟨k, 0, none⟩))) (go_keep)
    (first | (go_at_call 22; refine HCOL.out.mono ?_; rintro e w' ⟨g, rfl, hg, hrow, hgr⟩;
              have a0 : w'.cell? ⟨w.heap.size + 1 + 1 + 1, 0, none⟩ = some (.pointer (some ⟨Z, 0, none⟩)) := (hgr.kp.cell LTX.out).trans c3;
              have a1 : w'.cell? ⟨Z, 0, none⟩ = some (.float .f64 F) := (hgr.kp.cell (p := ⟨Z, 0, none⟩) LTZ.out).trans z0;
              have a2 : w'.cell? ⟨Z, 1, none⟩ = some (.float .f64 H) := (hgr.kp.cell (p := ⟨Z, 1, none⟩) LTZ.out).trans z1;
              have a3 : w'.cell? ⟨Z, 2, none⟩ = some (.float .f64 V) := (hgr.kp.cell (p := ⟨Z, 2, none⟩) LTZ.out).trans z2;
              have a4 : w'.cell? ⟨Z, 4, none⟩ = some (.bool b) := (hgr.kp.cell (p := ⟨Z, 4, none⟩) LTZ.out).trans z4;
              have a5 : w'.cell? ⟨Z, 5, none⟩ = some (.pointer (some ⟨k, 0, none⟩)) := (hgr.kp.cell (p := ⟨Z, 5, none⟩) LTZ.out).trans z5;
              have hb : w'.heap[w.heap.size + 1 + 1]? = some zres := (hgr.block (w.heap.size + 1 + 1) (by have := LTX.out; show w.heap.size + 1 + 1 < w2.heap.size; omega)).trans H5.out;
              have b0 : w'.cell? ⟨w.heap.size + 1 + 1, 0, none⟩ = some (.float .f64 0) := by simp [World.cell?, hb]
              have b1 : w'.cell? ⟨w.heap.size + 1 + 1, 1, none⟩ = some (.float .f64 0) := by simp [World.cell?, hb]
              have b2 : w'.cell? ⟨w.heap.size + 1 + 1, 2, none⟩ = some (.float .f64 0) := by simp [World.cell?, hb]
              have b3 : w'.cell? ⟨w.heap.size + 1 + 1, 3, none⟩ = some (.bool false) := by simp [World.cell?, hb]
              have b4 : w'.cell? ⟨w.heap.size + 1 + 1, 4, none⟩ = some (.slice none 0 0) := by simp [World.cell?, hb]
              have bf : ∀ i, w'.frozen? ⟨w.heap.size + 1 + 1, i, none⟩ = false := by intro i; simp [World.frozen?, hb]
              have HB := Lib.hid hb
              have HG := Lib.hid hg
              have HROW := Lib.hid hrow
              have HGR := Lib.hid hgr
              clear hb hg hrow hgr))
  go_wp2_with fail
  have hdc : ∀ (u : World) p, u.drew.cell? p = u.cell? p := fun _ _ => rfl
  have hdk : ∀ (B : Nat) (u v : World), Kp B u v.drew → Kp B u v := fun B u v k => ⟨k.os, k.output, k.size, k.block⟩
  obtain ⟨q0, q1, q2, q3, q4, hkq⟩ := zset_facts w' (w.heap.size + 1 + 1) F H V b (.slice (some ⟨g, 0, none⟩) 1 1) HB.out
  simp only [zset, hdc] at q0 q1 q2 q3 q4 hkq
  have hgs : w2.heap.size ≤ g := HG.out
  have hlt : w.heap.size + 1 + 1 + 1 < w2.heap.size := LTX.out
  have hrow : RowC (((((w'.setCell ⟨w.heap.size + 1 + 1, 0, none⟩ (.float .f64 F)).setCell ⟨w.heap.size + 1 + 1, 1, none⟩ (.float .f64 H)).setCell ⟨w.heap.size + 1 + 1, 2, none⟩ (.float .f64 V)).setCell ⟨w.heap.size + 1 + 1, 3, none⟩ (.bool b)).setCell ⟨w.heap.size + 1 + 1, 4, none⟩ (.slice (some ⟨g, 0, none⟩) 1 1)) g x y z := by
    unfold RowC
    rw [zchain _ _ _ _ _ _ _ g (by omega)]
    exact HROW.out
  have hkk : Kp w.heap.size w w' := HK.out.trans ((Kp.mono HGR.out.drew0 (by omega)))
  refine bodyPost_ret (v := .tuple #[.agg #[.float .f64 F, .float .f64 H, .float .f64 V, .bool b, .slice (some ⟨g, 0, none⟩) 1 1], .bool true]) (by simp [results, Tryz.results6, go_sem, q0, q1, q2, q3, q4]) rfl ⟨g, rfl, by omega, hrow, hkk.trans (hdk _ _ _ (hkq _ (by omega)))⟩
end Go.Proofs.YtcmeaogbfecjkaaGreatDoor
