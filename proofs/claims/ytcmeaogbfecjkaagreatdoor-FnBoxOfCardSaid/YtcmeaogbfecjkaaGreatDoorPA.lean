/- A box by an anchor and a size; ParseBox. -/
import Derived.Test.YtcmeaogbfecjkaaGreatDoorP8
namespace Go.Proofs.YtcmeaogbfecjkaaGreatDoor
open Go.RowKit

abbrev posL : List UInt8 := [112, 111, 115]
abbrev dimL : List UInt8 := [100, 105, 109]

structure AnchorText (a : Nat) (sa : List UInt8) : Prop where
  says : ∀ w, Calls Tryz.prog 66 #[bs sa] w fun e w' => e = .returned (.tuple #[.int .i64 a, .nilIface]) ∧ w = w'
  ends : EndsV sa
  len : sa.length ≤ 2
  no58 : (58 : UInt8) ∉ sa
  no44 : (44 : UInt8) ∉ sa

theorem anchor_text (a : Nat) (ha : a < 9) : AnchorText a (shortL a) := by
  have key : ∀ a < 9, (shortL a) ≠ [] ∧ visB (shortL a) = true ∧ (shortL a).length ≤ 2 ∧ (58 : UInt8) ∉ shortL a ∧ (44 : UInt8) ∉ shortL a := by decide
  obtain ⟨h1, h2, h3, h4, h5⟩ := key a ha
  exact ⟨fun w => anchor_any a ha w, ends_vis _ h1 h2, h3, h4, h5⟩

abbrev dimBox (x y : Nat) (a : Int) (B : Nat) (Z : Nat) (w : World) : Prop := ∃ d, B ≤ d ∧ BoxAt w Z (.pointer none) 0 0 0 0 (.pointer (some ⟨d, 0, none⟩)) a ∧ DimAt w d x y

theorem BoxAt.kx {w w' : World} {Z l ri t b : Nat} {r d : Value} {a : Int} (h : BoxAt w Z r l ri t b d a) (hk : Grew w w') : BoxAt w' Z r l ri t b d a := h.kp hk.kp h.lt

set_option maxRecDepth 100000 in
set_option maxHeartbeats 3200000 in
theorem pos_any (u k1 k2 a : Nat) (sa p1 p2 : List UInt8) (hA : AnchorText a sa) (hb1 : BoxNum u k1) (hb2 : BoxNum u k2) (hs1 : NumText k1 ⟨p1.toArray⟩) (hs2 : NumText k2 ⟨p2.toArray⟩)
    (hne : ∀ p ∈ [p1, p2], p ≠ []) (hvis : ∀ p ∈ [p1, p2], visB p = true) (h58 : (58 : UInt8) ∉ joinC 32 [p1, p2]) (hlen : (joinC 32 [p1, p2]).length ≤ 20) (hend : EndsV (joinC 32 [p1, p2]))
    (g cap : Nat) (w : World) (hV : Vars w) (hr : RowAt w g 2 [bs (joinC 58 [posL, sa]), bs (joinC 58 [32 :: dimL, joinC 32 [p1, p2]])]) :
    GivesBox 45 #[.slice (some ⟨g, 0, none⟩) 2 cap, .int .i64 u] w (dimBox (usz u k1) (usz u k2) a w.heap.size) := by
  have glt : g < w.heap.size := by obtain ⟨cur, h1, _⟩ := hr; exact (Array.getElem?_eq_some_iff.1 h1).1
  have HD := Lib.hid (fun w hV Z hZ => dim_any u k1 k2 hb1 hb2 p1 p2 hs1 hs2 hne hvis w hV Z 0 0 0 0 (.pointer none) (.pointer none) a hZ)
  have hla := hA.len
  have HSP0 := Lib.hid (fun w => split43 58 [posL, sa] (by simp) (by simp [posL]; exact hA.no58) w (by simp [joinC, posL]; omega) (by simp))
  have HSP1 := Lib.hid (fun w => split43 58 [32 :: dimL, joinC 32 [p1, p2]] (by simp) (by simp only [List.mem_cons, List.mem_nil_iff, or_false, forall_eq_or_imp, forall_eq]; exact ⟨by decide, h58⟩) w (by rw [show joinC 58 [32 :: dimL, joinC 32 [p1, p2]] = [32, 100, 105, 109, 58] ++ joinC 32 [p1, p2] from rfl]; simp only [List.length_append, List.length_cons, List.length_nil]; omega) (by simp))
  have HT0 := Lib.hid (fun w => trimE posL (ends_vis _ (by decide) (by decide)) (by decide) w)
  have HT1 := Lib.hid (fun w => trimE sa hA.ends (by omega) w)
  have HT2 := Lib.hid (fun w => trimE1 dimL (ends_vis _ (by decide) (by decide)) (by decide) w)
  have HT3 := Lib.hid (fun w => trimE (joinC 32 [p1, p2]) hend (by omega) w)
  have HA := Lib.hid hA.says
  have HV := Lib.hid hV
  have HR := Lib.hid hr
  clear hA hs1 hs2 hb1 hb2 hne hvis h58 hlen hend hV
  have c0 : w.cell? ⟨g, 0, none⟩ = some (bs (joinC 58 [posL, sa])) := hr.cell 0 (by simp)
  clear hr
  generalize hjj : joinC 32 [p1, p2] = jj at *
  have HJ := Lib.hid hjj
  clear hjj
  generalize ht0 : joinC 58 [posL, sa] = t0 at *
  generalize ht1 : joinC 58 [32 :: dimL, jj] = t1 at *
  clear ht0 ht1
  unfold GivesBox
  go_enter Tryz.func45, Tryz.ntmps45
  go_wp2_with fail
  refine wp_loop_rounds 3 ?_
  rw [rounds_succ]
  go_wp2_with fail
  refine (HSP0.out _).mono ?_
  rintro e w1 ⟨v, rfl, hown, hbel⟩
  obtain ⟨g1, cap1, rfl, hg1, hr1, hcap1, hglt1⟩ := owns_open (n := 2) hown (by decide)
  have q0 : w1.cell? ⟨g1, 0, none⟩ = some (bs posL) := hr1.cell 0 (by simp)
  have q1 : w1.cell? ⟨g1, 1, none⟩ = some (bs sa) := hr1.cell 1 (by simp)
  have HG1 : Hid (Grew w w1) := ((Grew.refl w).alloc _).trans (Grew.of hbel)
  have HZ1 : Hid (BoxAt w1 w.heap.size (.pointer none) 0 0 0 0 (.pointer none) 4) := BoxAt.kx (heap_alloc_new _ _) (Grew.of hbel)
  clear hown hbel hr1 HSP0 c0
  go_wp2_with fail
  refine (HT0.out _).mono ?_
  rintro e w2 ⟨rfl, hg2⟩
  have q2 : w2.cell? ⟨g1, 1, none⟩ = some (bs sa) := (hg2.kp.cell (p := ⟨g1, 1, none⟩) hglt1).trans q1
  have HG2 : Hid (Grew w w2) := HG1.out.trans hg2
  have HZ2 : Hid (BoxAt w2 w.heap.size (.pointer none) 0 0 0 0 (.pointer none) 4) := HZ1.out.kx hg2
  clear hg2 q0 q1 HG1 HZ1 HT0
  go_wp2_with fail
  refine (HT1.out _).mono ?_
  rintro e w3 ⟨rfl, hg3⟩
  have HG3 : Hid (Grew w w3) := HG2.out.trans hg3
  have HZ3 : Hid (BoxAt w3 w.heap.size (.pointer none) 0 0 0 0 (.pointer none) 4) := HZ2.out.kx hg3
  have z8 : w3.cell? ⟨w.heap.size, 8, none⟩ = some (.int .i64 4) := HZ3.out.cell 8 _ rfl
  have f8 := HZ3.out.free 8
  clear hg3 q2 HG2 HZ2 HT1
  go_wp2_with fail
  refine (HA.out _).mono ?_
  rintro e w' ⟨rfl, rfl⟩
  go_wp2_with fail
  have HG4 : Hid (Grew w (w3.setCell ⟨w.heap.size, 8, none⟩ (.int .i64 a))) := HG3.out.set (Nat.le_refl _)
  have HZ4 : Hid (BoxAt (w3.setCell ⟨w.heap.size, 8, none⟩ (.int .i64 a)) w.heap.size (.pointer none) 0 0 0 0 (.pointer none) a) := set_block w3 w.heap.size 8 _ 82 _ HZ3.out
  generalize w3.setCell ⟨w.heap.size, 8, none⟩ (.int .i64 a) = w4 at *
  have c1 : w4.cell? ⟨g, 1, none⟩ = some (bs t1) := (HG4.out.kp.cell (p := ⟨g, 1, none⟩) glt).trans (HR.out.cell 1 (by simp))
  clear z8 f8 HG3 HZ3 HA
  rw [rounds_succ]
  go_wp2_with fail
  refine (HSP1.out _).mono ?_
  rintro e w5 ⟨v, rfl, hown, hbel⟩
  obtain ⟨g5, cap5, rfl, hg5, hr5, hcap5, hglt5⟩ := owns_open (n := 2) hown (by decide)
  have q0 : w5.cell? ⟨g5, 0, none⟩ = some (bs (32 :: dimL)) := hr5.cell 0 (by simp)
  have q1 : w5.cell? ⟨g5, 1, none⟩ = some (bs jj) := hr5.cell 1 (by simp)
  have HG5 : Hid (Grew w w5) := HG4.out.trans (Grew.of hbel)
  have HZ5 : Hid (BoxAt w5 w.heap.size (.pointer none) 0 0 0 0 (.pointer none) a) := HZ4.out.kx (Grew.of hbel)
  clear hown hbel hr5 HSP1 c1 HG4 HZ4
  go_wp2_with fail
  refine (HT2.out _).mono ?_
  rintro e w6 ⟨rfl, hg6⟩
  have q2 : w6.cell? ⟨g5, 1, none⟩ = some (bs jj) := (hg6.kp.cell (p := ⟨g5, 1, none⟩) hglt5).trans q1
  have HG6 : Hid (Grew w w6) := HG5.out.trans hg6
  have HZ6 : Hid (BoxAt w6 w.heap.size (.pointer none) 0 0 0 0 (.pointer none) a) := HZ5.out.kx hg6
  clear hg6 q0 q1 HG5 HZ5 HT2
  go_wp2_with fail
  refine (HT3.out _).mono ?_
  rintro e w7 ⟨rfl, hg7⟩
  have HG7 : Hid (Grew w w7) := HG6.out.trans hg7
  have HZ7 : Hid (BoxAt w7 w.heap.size (.pointer none) 0 0 0 0 (.pointer none) a) := HZ6.out.kx hg7
  clear hg7 q2 HG6 HZ6 HT3
  go_wp2_with fail
  refine (HD.out _ (HV.out.kp HG7.out.kp) _ HZ7.out).mono ?_
  rintro e w8 ⟨rfl, d, hd, hz8, hd8, hk8⟩
  have hs7 := HG7.out.size
  have hk : Kp w.heap.size w7 w8 := (hk8.mono hs7).kp (Nat.le_refl _)
  have HG8 : Hid (Grew w w8) := (HG7.out.kp.trans hk).grew
  have z7 : w8.cell? ⟨w.heap.size, 7, none⟩ = some (.pointer (some ⟨d, 0, none⟩)) := hz8.cell 7 _ rfl
  have HZ8 := Lib.hid hz8
  have HD8 := Lib.hid hd8
  clear hk8 hk hz8 hd8 HD HG7 HZ7
  go_wp2_with fail
  rw [rounds_succ]
  go_wp2_with fail
  go_ret2
  exact ⟨w.heap.size, rfl, Nat.le_refl _, ⟨d, by omega, HZ8.out, HD8.out⟩, HG8.out⟩

abbrev TrimOk (s : ByteArray) : Prop := ∀ w, Calls Tryz.prog 41 #[.string s] w fun e w' => e = .returned (.string s) ∧ Grew w w'

set_option maxRecDepth 100000 in
set_option maxHeartbeats 1600000 in
theorem parse_rect (s t : ByteArray) (n : Nat) (hsz : s.size = n + 1 + 1) (hn : n ≤ 900) (h0 : s[0].toNat = 91) (h1 : s[n + 1].toNat = 93) (hcut : s.extract 1 (n + 1) = t) (hT : TrimOk s) (u a b c d : Nat)
    (hR : ∀ w, Vars w → GivesBox 42 #[.string t, .int .i64 u] w (rectBox a b c d w.heap.size)) (w : World) (hV : Vars w) :
    GivesBox 28 #[.string s, .int .i64 u] w (rectBox a b c d w.heap.size) := by
  have HT := Lib.hid hT
  have HR := Lib.hid hR
  have HV := Lib.hid hV
  have h0b : ((s[0].toNat : Int) == 91) = true := by rw [h0]; rfl
  have h1b : ((s[n + 1].toNat : Int) == 93) = true := by rw [h1]; rfl
  clear hT hR hV
  unfold GivesBox
  go_enter Tryz.func28, Tryz.ntmps28
  go_wp2_with fail
  refine (HT.out _).mono ?_
  rintro e w1 ⟨rfl, hg⟩
  have HG := Lib.hid hg
  have HV1 : Hid (Vars w1) := HV.out.kp hg.kp
  clear hg HT HV
  go_wp2_with fail
  refine (HR.out _ HV1.out).mono ?_
  rintro e w2 ⟨Z, rfl, hz, ⟨r, hr, hb, hc⟩, hg2⟩
  have HB := Lib.hid hb
  have HC := Lib.hid hc
  have HG2 := Lib.hid hg2
  have hs1 := HG.out.size
  clear hb hc hg2 HR
  go_wp2_with fail
  go_ret2
  exact ⟨Z, rfl, by omega, ⟨r, by omega, HB.out, HC.out⟩, HG.out.trans HG2.out⟩

theorem RowAt.at {w : World} {g n : Nat} {xs : List Value} {v : Value} (h : RowAt w g n xs) (i : Nat) (hv : xs[i]? = some v) : w.cell? ⟨g, i, none⟩ = some v := by
  obtain ⟨hi, rfl⟩ := List.getElem?_eq_some_iff.1 hv
  exact h.cell i hi

/-- A text that is neither 'abs' nor 'rel'. -/
structure NoWord (q : ByteArray) : Prop where
  a : ¬ q.toList = [97, 98, 115]
  r : ¬ q.toList = [114, 101, 108]

set_option maxRecDepth 100000 in
set_option maxHeartbeats 3200000 in
theorem parse_margin (s : ByteArray) (n : Nat) (hsz : s.size = n + 1) (hn : n ≤ 900) (h0 : s[0].toNat ≠ 91) (hT : TrimOk s) (hpre : Lib.hasPrefix s.data.toList [100, 105, 109] = false)
    (hsp : ∀ w, Calls Tryz.prog 43 #[.string s, .string ⟨#[44]⟩] w fun e w' => ∃ v, e = .returned v ∧ w'.ownsRow w.heap.size 9 1 v 1 [.string s] ∧ Below w.heap.size w w')
    (L m : Nat) (hL : (L = 1 ∧ m = 0) ∨ (L = 2 ∧ m = 1) ∨ (L = 4 ∧ m = 3)) (xs : List Value)
    (hF : ∀ w, Calls Tryz.prog 46 #[.string s] w fun e w' => ∃ v, e = .returned v ∧ w'.ownsRow (w.heap.size + 1) 9 1 v L xs ∧ Grew w w')
    (q0 q : ByteArray) (hx0 : xs[0]? = some (.string q0)) (hxm : xs[m]? = some (.string q)) (hq0 : NoWord q0) (hq : NoWord q) (u : Nat) (A : Nat → World → Prop)
    (hM : ∀ w g cap, Vars w → RowAt w g L xs → GivesBox 47 #[.slice (some ⟨g, 0, none⟩) L cap, .string s, .bool true, .int .i64 u] w A) (w : World) (hV : Vars w) :
    GivesBox 28 #[.string s, .int .i64 u] w A := by
  have HT := Lib.hid hT
  have HS := Lib.hid hsp
  have HF := Lib.hid hF
  have HM := Lib.hid hM
  have HV := Lib.hid hV
  have h0b : ((s[0].toNat : Int) == 91) = false := by simp; omega
  have e1 := hq0.a
  have e2 := hq0.r
  have e3 := hq.a
  have e4 := hq.r
  have d1 : (q0.toList == [97, 98, 115]) = false := by simpa using e1
  have d2 : (q0.toList == [114, 101, 108]) = false := by simpa using e2
  have d3 : (q.toList == [97, 98, 115]) = false := by simpa using e3
  have d4 : (q.toList == [114, 101, 108]) = false := by simpa using e4
  have hpi : Lib.hasPrefix s.data.toList [100, 105, 109] = false := hpre
  clear hT hsp hF hM hV hpre
  unfold GivesBox at HM ⊢
  rcases hL with ⟨rfl, rfl⟩ | ⟨rfl, rfl⟩ | ⟨rfl, rfl⟩
  all_goals
    go_enter Tryz.func28, Tryz.ntmps28
    go_wp2_with fail
    refine (HT.out _).mono ?_
    rintro e w1 ⟨rfl, hg⟩
    have HG := Lib.hid hg
    have HV1 : Hid (Vars w1) := HV.out.kp hg.kp
    clear hg HT HV
    go_wp2_with fail
    refine (HS.out _).mono ?_
    rintro e w2 ⟨v, rfl, hown, hbel⟩
    obtain ⟨g, cap, rfl, hg0, hr, hcap, hglt⟩ := owns_open hown (by decide)
    have c0 : w2.cell? ⟨g, 0, none⟩ = some (.string s) := hr.at 0 rfl
    have HG2 : Hid (Grew w w2) := HG.out.trans (Grew.of hbel)
    have HV2 : Hid (Vars w2) := HV1.out.mono hbel
    clear hown hbel hr HG HV1 HS
    go_wp2_with fail
    refine (Tryz.strings_HasPrefix _ _ _).mono ?_
    rintro e w' ⟨rfl, rfl⟩
    go_wp2_with fail
    refine (HF.out _).mono ?_
    rintro e w3 ⟨v, rfl, hown, hgr⟩
    obtain ⟨g3, cap3, rfl, hg3, hr, hcap3, hglt3⟩ := owns_open hown (by decide)
    have c0 : w3.cell? ⟨g3, 0, none⟩ = some (.string q0) := hr.at 0 hx0
    have cm := hr.at _ hxm
    have HG3 : Hid (Grew w w3) := HG2.out.trans hgr
    have HV3 : Hid (Vars w3) := HV2.out.kp hgr.kp
    have HR := Lib.hid hr
    clear hown hgr hr HG2 HV2 HF
    go_wp2_with fail
    refine (HM.out _ _ _ HV3.out HR.out).mono ?_
    rintro e w4 ⟨Z, rfl, hz, ha, hg4⟩
    have HA := Lib.hid ha
    have HG4 := Lib.hid hg4
    have hs3 := HG3.out.size
    clear ha hg4 HM
    go_wp2_with fail
    go_ret2
    exact ⟨Z, rfl, by omega, HA.out, HG3.out.trans HG4.out⟩

set_option maxRecDepth 100000 in
set_option maxHeartbeats 1600000 in
theorem parse_dim (s : ByteArray) (n : Nat) (hsz : s.size = n + 1) (hn : n ≤ 900) (h0 : s[0].toNat ≠ 91) (hT : TrimOk s) (xs : List Value)
    (hsp : ∀ w, Calls Tryz.prog 43 #[.string s, .string ⟨#[44]⟩] w fun e w' => ∃ v, e = .returned v ∧ w'.ownsRow w.heap.size 9 1 v 2 xs ∧ Below w.heap.size w w') (u x y : Nat) (a : Int)
    (hM : ∀ w g cap, Vars w → RowAt w g 2 xs → GivesBox 45 #[.slice (some ⟨g, 0, none⟩) 2 cap, .int .i64 u] w (dimBox x y a w.heap.size)) (w : World) (hV : Vars w) :
    GivesBox 28 #[.string s, .int .i64 u] w (dimBox x y a w.heap.size) := by
  have HT := Lib.hid hT
  have HS := Lib.hid hsp
  have HM := Lib.hid hM
  have HV := Lib.hid hV
  have h0b : ((s[0].toNat : Int) == 91) = false := by simp; omega
  clear hT hsp hM hV
  unfold GivesBox at HM ⊢
  go_enter Tryz.func28, Tryz.ntmps28
  go_wp2_with fail
  refine (HT.out _).mono ?_
  rintro e w1 ⟨rfl, hg⟩
  have HG := Lib.hid hg
  have HV1 : Hid (Vars w1) := HV.out.kp hg.kp
  clear hg HT HV
  go_wp2_with fail
  refine (HS.out _).mono ?_
  rintro e w2 ⟨v, rfl, hown, hbel⟩
  obtain ⟨g, cap, rfl, hg0, hr, hcap, hglt⟩ := owns_open hown (by decide)
  have HG2 : Hid (Grew w w2) := HG.out.trans (Grew.of hbel)
  have HV2 : Hid (Vars w2) := HV1.out.mono hbel
  have HR := Lib.hid hr
  clear hown hbel hr HG HV1 HS
  go_wp2_with fail
  refine (HM.out _ _ _ HV2.out HR.out).mono ?_
  rintro e w3 ⟨Z, rfl, hz, ⟨d, hd, hb, hx⟩, hg3⟩
  have HB := Lib.hid hb
  have HX := Lib.hid hx
  have HG3 := Lib.hid hg3
  have hs2 := HG2.out.size
  clear hb hx hg3 HM
  go_wp2_with fail
  go_ret2
  exact ⟨Z, rfl, by omega, ⟨d, by omega, HB.out, HX.out⟩, HG2.out.trans HG3.out⟩
end Go.Proofs.YtcmeaogbfecjkaaGreatDoor
