/- laws.FnZoomOf: the walk where the input is one that the law speaks of. -/
import Derived.Test.YtcmeaogbfecjkaaGreatDoorH1
import Derived.Test.YtcmeaogbfecjkaaGreatDoorA2
import Derived.Deep.DeepCutAuto
namespace Go.Proofs.YtcmeaogbfecjkaaGreatDoor
open Go.RowKit

theorem Kp.cellsz {w w' : World} (h : Kp w.heap.size w w') : ∀ b i, b < w.heap.size → w'.cell? ⟨b, i, none⟩ = w.cell? ⟨b, i, none⟩ := fun b i hb => h.cell (p := ⟨b, i, none⟩) hb
theorem Kp.drewz {B : Nat} {a w : World} (h : Kp B a w) : Kp B a w.drew := ⟨h.os, h.output, h.size, h.block⟩
theorem Back.kp {B : Nat} {w w' : World} {v : Value} {col : Option Nat} (h : Back B w v col) (hk : Kp w.heap.size w w') : Back B w' v col := by
  cases col with
  | none => exact h
  | some c =>
    obtain ⟨g, h1, h2, h3⟩ := h
    refine ⟨g, h1, h2, ?_⟩
    unfold RowC at *
    rw [hk.block g (Array.getElem?_eq_some_iff.1 h3).1]
    exact h3
theorem back_told (col : Option Nat) (hcol : ∀ c, col = some c → c < 16777216) (B : Nat) (w : World) (v : Value) (h : Back B w v col) : Calls Tryz.prog 13 #[v, .int .i64 (colI col)] w fun e w' => e = .returned (.bool true) ∧ Grew w w' := by
  cases col with
  | none =>
    have hv : v = .slice none 0 0 := h
    subst hv
    refine (back_none (-1) (by omega) w).mono ?_
    rintro e w' ⟨he, rfl⟩
    exact ⟨he, Grew.refl _⟩
  | some c =>
    obtain ⟨g, _, rfl, hr⟩ := h
    exact back_one g c (hcol c rfl) w hr
theorem row_at (W : World) (base r : Nat) (x y : Value) (hr : r = W.heap.size) (hb : base ≤ r) : (W.alloc (.cells #[x, y] 36)).ownsRow base 36 2 (.slice (some ⟨r, 0, none⟩) 1 1) 1 [x, y] := by
  subst hr
  exact row_one W base x y hb
theorem tint_yes (col : Option Nat) (hcol : ∀ c, col = some c → c < 16777216) (w : World) : Calls Tryz.prog 8 #[.int .i64 (colI col)] w fun e w' => e = .returned (.bool true) ∧ w = w' := by
  have hct : decide (-1 ≤ colI col ∧ colI col ≤ 16777215) = true := by
    cases col with
    | none => rfl
    | some c => have := hcol c rfl; simp [colI]; omega
  refine (tint_any (colI col) w).mono ?_
  rintro e w' ⟨he, hw⟩
  exact ⟨by rw [he, hct], hw⟩

set_option maxRecDepth 100000 in
set_option maxHeartbeats 3200000 in
theorem zoomLaw_0 (G : Nat) (n : Int) (h0 : n ≠ 0) (h1 : -400 ≤ n) (h2 : n ≤ 400) (hf0 : 0 < n) (hf4 : n ≠ 4) (u : Nat) (hu : u < 4) (col : Option Nat) (hcol : ∀ c, col = some c → c < 16777216) (border loose : Bool) (w : World) (hV : VarsZ G w) :
    Calls Tryz.prog 4 #[.int .i64 0, .int .i64 n, .int .i64 u, .int .i64 (colI col), .bool border, .bool loose] w fun e w' => e = .returned (.bool true) ∧ Kp w.heap.size w w' := by
  have hql := qtrI_len n (by omega) (by omega)
  have HT := Lib.hid (fun w => tint_yes col hcol w)
  have HTI := Lib.hid (fun base v xs w hb hown => tinted_told col border base v xs w hb hown)
  have HJ := Lib.hid (fun base v w hown => joined_told 0 (by omega) n h1 h2 loose col border base v w hown)
  have HZ := Lib.hid (fun w hV => told_any G 0 (by omega) n h0 h1 h2 (fun _ => ⟨hf0, hf4⟩) u hu loose col hcol border w hV)
  have HB := Lib.hid (fun B w v h => back_told col hcol B w v h)
  have HV := Lib.hid hV
  have hb4 : (n == 4) = false := by simp [hf4]
  have hb0 : (n == 0) = false := by simp [h0]
  have hbn : decide (n < 0) = false := by simp; omega
  clear hV hcol
  generalize colI col = ci at *
  go_enter Tryz.func4, Tryz.ntmps4
  go_wp2_with fail
  refine (HT.out w).mono ?_
  rintro e w' ⟨rfl, rfl⟩
  go_upto_region 3 with (fail)
  go_cut [13] from 61 to 71 (fun l wx => wx.ownsRow w.heap.size 36 2 l (1 + moreN col border) ([.string ⟨(nameL 0).toArray⟩, .string ⟨(qtrI n).toArray⟩] ++ moreV col border) ∧ Kp w.heap.size w wx)
  case first =>
    go_region_with
      (first | (go_at_call 7; refine (quarters_any _ _ (by omega) (by omega)).mono ?_; rintro e w' ⟨rfl, hb⟩; have hk7 := Kp.of hb; clear hb; have hc := hk7.cellsz;
                have hk3 : Kp w.heap.size w w' := (by first | exact (Kp.drewz (Kp.refl _ _)).trans hk7 | exact ((Kp.drewz (Kp.refl _ w)).alloc (Nat.le_refl _) _).trans (hk7.mono (by simp))))
             | (go_at_call 9; refine (HTI.out w.heap.size _ _ _ (by have := hk3.size; simp; omega) (row_at _ w.heap.size _ _ _ (by first | rfl | (simp; done)) (by have := hk3.size; omega))).mono ?_; rintro e w' ⟨v', rfl, ho, hk9⟩;
                have hk9t : Kp w.heap.size w w' := (by refine Kp.trans ?_ hk9; refine Kp.alloc ?_ ?_ _; (first | (refine Kp.alloc hk3 ?_ _; exact hk3.size) | exact hk3); (have := hk3.size; first | omega | (simp; omega)))))
    all_goals
      go_wp2_with fail
      go_meet
    all_goals
      exact ⟨ho, hk9t⟩
  case rest =>
    obtain ⟨ho, hk⟩ := hcut
    have HO := Lib.hid ho
    have HK := Lib.hid hk
    clear ho hk HTI HT
    go_wp2_with fail
    refine (HJ.out w.heap.size _ wc HO.out).mono ?_
    rintro e w1 ⟨rfl, hg1⟩
    have hk1 : Kp w.heap.size w w1 := HK.out.trans (hg1.kp.mono HK.out.size)
    have HK1 := Lib.hid hk1
    have V1 := Lib.hid (HV.out.kp (hk1.mono HV.out.sz))
    clear hg1 hk1 HO HJ
    go_wp2_with fail
    refine (HZ.out w1 V1.out).mono ?_
    rintro e w2 ⟨v, rfl, hback, hk2⟩
    have hvv : v = .slice none 0 0 ∨ ∃ g, v = .slice (some ⟨g, 0, none⟩) 1 1 := by
      cases col with
      | none => exact .inl hback
      | some c => obtain ⟨g, _, h, _⟩ := hback; exact .inr ⟨g, h⟩
    have HBK := Lib.hid hback
    have HK2 := Lib.hid (HK1.out.trans (hk2.mono HK1.out.size))
    clear hback hk2 HZ V1 HV
    have hL := len_ok u hu n h0 h1 h2
    have rq := fun w : World => run_float_arith (P := Tryz.prog) w .quo 24 .f64 _ _ _ hL.quarter
    unfold four64 at rq
    have rm := fun w : World => run_float_arith (P := Tryz.prog) w .mul 24 .f64 _ _ _ hL.mul
    have NZ := Lib.hid (fun w => near_any 0 near_zero w)
    have NF := Lib.hid (fun w => near_any (qf n) hL.nearq w)
    have NL := Lib.hid (fun w => near_any (usz u n) hL.near w)
    have PU := Lib.hid (fun w => per_any u hu w)
    clear hL
    generalize qf n = q at *
    generalize usz u n = l at *
    generalize perB u = pb at *
    rcases hvv with rfl | ⟨g, rfl⟩
    all_goals
      go_wp2_with fail
      refine (NF.out _).mono ?_
      rintro e w' ⟨rfl, rfl⟩
      go_wp2_with fail
      refine (NZ.out _).mono ?_
      rintro e w' ⟨rfl, rfl⟩
      go_wp2_with fail
      refine (NZ.out _).mono ?_
      rintro e w' ⟨rfl, rfl⟩
      go_wp2_with fail
      refine (HB.out w1.heap.size _ _ (HBK.out.kp (((Kp.refl _ w2).alloc (Nat.le_refl _) _).alloc (by simp) _))).mono ?_
      rintro e w' ⟨rfl, hgw⟩
      have HGW := Lib.hid hgw
      clear hgw
      go_wp2_with fail
      go_ret
      exact ⟨rfl, ((HK2.out.alloc HK2.out.size _).alloc (by have := HK2.out.size; simp; omega) _).trans (HGW.out.kp.mono (by have := HK2.out.size; simp; omega))⟩

set_option maxRecDepth 100000 in
set_option maxHeartbeats 3200000 in
theorem zoomLaw_1 (G : Nat) (n : Int) (h0 : n ≠ 0) (h1 : -400 ≤ n) (h2 : n ≤ 400) (u : Nat) (hu : u < 4) (col : Option Nat) (hcol : ∀ c, col = some c → c < 16777216) (border loose : Bool) (w : World) (hV : VarsZ G w) :
    Calls Tryz.prog 4 #[.int .i64 1, .int .i64 n, .int .i64 u, .int .i64 (colI col), .bool border, .bool loose] w fun e w' => e = .returned (.bool true) ∧ Kp w.heap.size w w' := by
  have hql := qtrI_len n (by omega) (by omega)
  have HT := Lib.hid (fun w => tint_yes col hcol w)
  have HTI := Lib.hid (fun base v xs w hb hown => tinted_told col border base v xs w hb hown)
  have HJ := Lib.hid (fun base v w hown => joined_told 1 (by omega) n h1 h2 loose col border base v w hown)
  have HZ := Lib.hid (fun w hV => told_any G 1 (by omega) n h0 h1 h2 (fun h => by cases h) u hu loose col hcol border w hV)
  have HB := Lib.hid (fun B w v h => back_told col hcol B w v h)
  have HV := Lib.hid hV
  have hb0 : (n == 0) = false := by simp [h0]
  clear hV hcol
  generalize colI col = ci at *
  go_enter Tryz.func4, Tryz.ntmps4
  go_wp2_with fail
  refine (HT.out w).mono ?_
  rintro e w' ⟨rfl, rfl⟩
  go_upto_region 3 with (fail)
  go_cut [13] from 61 to 71 (fun l wx => wx.ownsRow w.heap.size 36 2 l (1 + moreN col border) ([.string ⟨(nameL 1).toArray⟩, .string ⟨(qtrI n).toArray⟩] ++ moreV col border) ∧ Kp w.heap.size w wx)
  case first =>
    go_region_with
      (first | (go_at_call 7; refine (quarters_any _ _ (by omega) (by omega)).mono ?_; rintro e w' ⟨rfl, hb⟩; have hk7 := Kp.of hb; clear hb; have hc := hk7.cellsz;
                have hk3 : Kp w.heap.size w w' := (by first | exact (Kp.drewz (Kp.refl _ _)).trans hk7 | exact ((Kp.drewz (Kp.refl _ w)).alloc (Nat.le_refl _) _).trans (hk7.mono (by simp))))
             | (go_at_call 9; refine (HTI.out w.heap.size _ _ _ (by have := hk3.size; simp; omega) (row_at _ w.heap.size _ _ _ (by first | rfl | (simp; done)) (by have := hk3.size; omega))).mono ?_; rintro e w' ⟨v', rfl, ho, hk9⟩;
                have hk9t : Kp w.heap.size w w' := (by refine Kp.trans ?_ hk9; refine Kp.alloc ?_ ?_ _; (first | (refine Kp.alloc hk3 ?_ _; exact hk3.size) | exact hk3); (have := hk3.size; first | omega | (simp; omega)))))
    all_goals
      go_wp2_with fail
      go_meet
    all_goals
      exact ⟨ho, hk9t⟩
  case rest =>
    obtain ⟨ho, hk⟩ := hcut
    have HO := Lib.hid ho
    have HK := Lib.hid hk
    clear ho hk HTI HT
    go_wp2_with fail
    refine (HJ.out w.heap.size _ wc HO.out).mono ?_
    rintro e w1 ⟨rfl, hg1⟩
    have hk1 : Kp w.heap.size w w1 := HK.out.trans (hg1.kp.mono HK.out.size)
    have HK1 := Lib.hid hk1
    have V1 := Lib.hid (HV.out.kp (hk1.mono HV.out.sz))
    clear hg1 hk1 HO HJ
    go_wp2_with fail
    refine (HZ.out w1 V1.out).mono ?_
    rintro e w2 ⟨v, rfl, hback, hk2⟩
    have hvv : v = .slice none 0 0 ∨ ∃ g, v = .slice (some ⟨g, 0, none⟩) 1 1 := by
      cases col with
      | none => exact .inl hback
      | some c => obtain ⟨g, _, h, _⟩ := hback; exact .inr ⟨g, h⟩
    have HBK := Lib.hid hback
    have HK2 := Lib.hid (HK1.out.trans (hk2.mono HK1.out.size))
    clear hback hk2 HZ V1 HV
    have hL := len_ok u hu n h0 h1 h2
    have rq := fun w : World => run_float_arith (P := Tryz.prog) w .quo 24 .f64 _ _ _ hL.quarter
    unfold four64 at rq
    have rm := fun w : World => run_float_arith (P := Tryz.prog) w .mul 24 .f64 _ _ _ hL.mul
    have NZ := Lib.hid (fun w => near_any 0 near_zero w)
    have NF := Lib.hid (fun w => near_any (qf n) hL.nearq w)
    have NL := Lib.hid (fun w => near_any (usz u n) hL.near w)
    have PU := Lib.hid (fun w => per_any u hu w)
    clear hL
    generalize qf n = q at *
    generalize usz u n = l at *
    generalize perB u = pb at *
    rcases hvv with rfl | ⟨g, rfl⟩
    all_goals
      go_wp2_with fail
      refine (PU.out _).mono ?_
      rintro e w' ⟨rfl, rfl⟩
      go_wp2_with fail
      refine (NZ.out _).mono ?_
      rintro e w' ⟨rfl, rfl⟩
      go_wp2_with fail
      refine (NL.out _).mono ?_
      rintro e w' ⟨rfl, rfl⟩
      go_wp2_with fail
      refine (NZ.out _).mono ?_
      rintro e w' ⟨rfl, rfl⟩
      go_wp2_with fail
      refine (HB.out w1.heap.size _ _ (HBK.out.kp (((Kp.refl _ w2).alloc (Nat.le_refl _) _).alloc (by simp) _))).mono ?_
      rintro e w' ⟨rfl, hgw⟩
      have HGW := Lib.hid hgw
      clear hgw
      go_wp2_with fail
      go_ret
      exact ⟨rfl, ((HK2.out.alloc HK2.out.size _).alloc (by have := HK2.out.size; simp; omega) _).trans (HGW.out.kp.mono (by have := HK2.out.size; simp; omega))⟩

set_option maxRecDepth 100000 in
set_option maxHeartbeats 3200000 in
theorem zoomLaw_2 (G : Nat) (n : Int) (h0 : n ≠ 0) (h1 : -400 ≤ n) (h2 : n ≤ 400) (u : Nat) (hu : u < 4) (col : Option Nat) (hcol : ∀ c, col = some c → c < 16777216) (border loose : Bool) (w : World) (hV : VarsZ G w) :
    Calls Tryz.prog 4 #[.int .i64 2, .int .i64 n, .int .i64 u, .int .i64 (colI col), .bool border, .bool loose] w fun e w' => e = .returned (.bool true) ∧ Kp w.heap.size w w' := by
  have hql := qtrI_len n (by omega) (by omega)
  have HT := Lib.hid (fun w => tint_yes col hcol w)
  have HTI := Lib.hid (fun base v xs w hb hown => tinted_told col border base v xs w hb hown)
  have HJ := Lib.hid (fun base v w hown => joined_told 2 (by omega) n h1 h2 loose col border base v w hown)
  have HZ := Lib.hid (fun w hV => told_any G 2 (by omega) n h0 h1 h2 (fun h => by cases h) u hu loose col hcol border w hV)
  have HB := Lib.hid (fun B w v h => back_told col hcol B w v h)
  have HV := Lib.hid hV
  have hb0 : (n == 0) = false := by simp [h0]
  clear hV hcol
  generalize colI col = ci at *
  go_enter Tryz.func4, Tryz.ntmps4
  go_wp2_with fail
  refine (HT.out w).mono ?_
  rintro e w' ⟨rfl, rfl⟩
  go_upto_region 3 with (fail)
  go_cut [13] from 61 to 71 (fun l wx => wx.ownsRow w.heap.size 36 2 l (1 + moreN col border) ([.string ⟨(nameL 2).toArray⟩, .string ⟨(qtrI n).toArray⟩] ++ moreV col border) ∧ Kp w.heap.size w wx)
  case first =>
    go_region_with
      (first | (go_at_call 7; refine (quarters_any _ _ (by omega) (by omega)).mono ?_; rintro e w' ⟨rfl, hb⟩; have hk7 := Kp.of hb; clear hb; have hc := hk7.cellsz;
                have hk3 : Kp w.heap.size w w' := (by first | exact (Kp.drewz (Kp.refl _ _)).trans hk7 | exact ((Kp.drewz (Kp.refl _ w)).alloc (Nat.le_refl _) _).trans (hk7.mono (by simp))))
             | (go_at_call 9; refine (HTI.out w.heap.size _ _ _ (by have := hk3.size; simp; omega) (row_at _ w.heap.size _ _ _ (by first | rfl | (simp; done)) (by have := hk3.size; omega))).mono ?_; rintro e w' ⟨v', rfl, ho, hk9⟩;
                have hk9t : Kp w.heap.size w w' := (by refine Kp.trans ?_ hk9; refine Kp.alloc ?_ ?_ _; (first | (refine Kp.alloc hk3 ?_ _; exact hk3.size) | exact hk3); (have := hk3.size; first | omega | (simp; omega)))))
    all_goals
      go_wp2_with fail
      go_meet
    all_goals
      exact ⟨ho, hk9t⟩
  case rest =>
    obtain ⟨ho, hk⟩ := hcut
    have HO := Lib.hid ho
    have HK := Lib.hid hk
    clear ho hk HTI HT
    go_wp2_with fail
    refine (HJ.out w.heap.size _ wc HO.out).mono ?_
    rintro e w1 ⟨rfl, hg1⟩
    have hk1 : Kp w.heap.size w w1 := HK.out.trans (hg1.kp.mono HK.out.size)
    have HK1 := Lib.hid hk1
    have V1 := Lib.hid (HV.out.kp (hk1.mono HV.out.sz))
    clear hg1 hk1 HO HJ
    go_wp2_with fail
    refine (HZ.out w1 V1.out).mono ?_
    rintro e w2 ⟨v, rfl, hback, hk2⟩
    have hvv : v = .slice none 0 0 ∨ ∃ g, v = .slice (some ⟨g, 0, none⟩) 1 1 := by
      cases col with
      | none => exact .inl hback
      | some c => obtain ⟨g, _, h, _⟩ := hback; exact .inr ⟨g, h⟩
    have HBK := Lib.hid hback
    have HK2 := Lib.hid (HK1.out.trans (hk2.mono HK1.out.size))
    clear hback hk2 HZ V1 HV
    have hL := len_ok u hu n h0 h1 h2
    have rq := fun w : World => run_float_arith (P := Tryz.prog) w .quo 24 .f64 _ _ _ hL.quarter
    unfold four64 at rq
    have rm := fun w : World => run_float_arith (P := Tryz.prog) w .mul 24 .f64 _ _ _ hL.mul
    have NZ := Lib.hid (fun w => near_any 0 near_zero w)
    have NF := Lib.hid (fun w => near_any (qf n) hL.nearq w)
    have NL := Lib.hid (fun w => near_any (usz u n) hL.near w)
    have PU := Lib.hid (fun w => per_any u hu w)
    clear hL
    generalize qf n = q at *
    generalize usz u n = l at *
    generalize perB u = pb at *
    rcases hvv with rfl | ⟨g, rfl⟩
    all_goals
      go_wp2_with fail
      refine (PU.out _).mono ?_
      rintro e w' ⟨rfl, rfl⟩
      go_wp2_with fail
      refine (NZ.out _).mono ?_
      rintro e w' ⟨rfl, rfl⟩
      go_wp2_with fail
      refine (NZ.out _).mono ?_
      rintro e w' ⟨rfl, rfl⟩
      go_wp2_with fail
      refine (NL.out _).mono ?_
      rintro e w' ⟨rfl, rfl⟩
      go_wp2_with fail
      refine (HB.out w1.heap.size _ _ (HBK.out.kp (((Kp.refl _ w2).alloc (Nat.le_refl _) _).alloc (by simp) _))).mono ?_
      rintro e w' ⟨rfl, hgw⟩
      have HGW := Lib.hid hgw
      clear hgw
      go_wp2_with fail
      go_ret
      exact ⟨rfl, ((HK2.out.alloc HK2.out.size _).alloc (by have := HK2.out.size; simp; omega) _).trans (HGW.out.kp.mono (by have := HK2.out.size; simp; omega))⟩

end Go.Proofs.YtcmeaogbfecjkaaGreatDoor
