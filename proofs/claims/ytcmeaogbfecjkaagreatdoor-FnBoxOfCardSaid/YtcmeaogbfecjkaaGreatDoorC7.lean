/- ParseZoomConfig: a text of parts with commas between, each of which does its step to the zoom. -/
import Derived.Test.YtcmeaogbfecjkaaGreatDoorC6
import Derived.Test.YtcmeaogbfecjkaaGreatDoorC3
namespace Go.Proofs.YtcmeaogbfecjkaaGreatDoor
open Go.RowKit

theorem Vars.kp {w w' : World} (h : Vars w) (hb : Kp w.heap.size w w') : Vars w' := by
  obtain ⟨h1, h2, b, o, h3, h4, h5, h6⟩ := h
  have k1 := World.block_lt_of_cell? w _ h1
  have k2 := World.block_lt_of_cell? w _ h2
  have k3 := World.block_lt_of_cell? w _ h3
  have := hb.size
  exact ⟨(hb.cell k1).trans h1, (hb.cell k2).trans h2, b, o, (hb.cell k3).trans h3, by omega, (hb.cell (p := ⟨b, o + 1, none⟩) h4).trans h5, (hb.cell (p := ⟨b, o + 2, none⟩) h4).trans h6⟩
theorem Asc.kp {w w' : World} (h : Asc w) (hb : Kp w.heap.size w w') : Asc w' := by
  have k := World.block_lt_of_cell? w _ h.yes
  exact ⟨fun c h1 h2 => (hb.cell (p := ⟨0, c, none⟩) k).trans (h.no c h1 h2), (hb.cell (p := ⟨0, 32, none⟩) k).trans h.yes⟩

/-- The program's variables, as a zoom's reading looks into them: all below block 'G'. -/
structure VarsZ (G : Nat) (w : World) : Prop where
  v : Vars w
  a : Asc w
  e : ∃ ev, w.cell? ⟨20, 0, none⟩ = some ev
  g : 23 < G
  pw : ∃ b o : Nat, w.cell? ⟨23, 0, none⟩ = some (.slice (some ⟨b, o, none⟩) 23 23) ∧ b < G
  sz : G ≤ w.heap.size

/-- What is kept below G keeps the variables. -/
theorem VarsZ.kx {G Z : Nat} {w w' : World} (h : VarsZ G w) (hb : Kx Z G w w') (hZ : G ≤ Z) : VarsZ G w' := by
  have hk : Kp G w w' := hb.kp hZ
  obtain ⟨⟨h1, h2, b, o, h3, h4, h5, h6⟩, ha, ⟨ev, he⟩, hg, ⟨b', o', h3', hb'⟩, hs⟩ := h
  rw [h3'] at h3
  injection h3 with h3
  injection h3 with h3
  injection h3 with h3
  injection h3 with e1 e2
  subst e1 e2
  have hsz := hb.size
  refine ⟨⟨(hk.cell (p := ⟨18, 0, none⟩) (by show 18 < G; omega)).trans h1, (hk.cell (p := ⟨19, 0, none⟩) (by show 19 < G; omega)).trans h2, b', o', (hk.cell (p := ⟨23, 0, none⟩) hg).trans h3', by omega, (hk.cell (p := ⟨b', o' + 1, none⟩) hb').trans h5, (hk.cell (p := ⟨b', o' + 2, none⟩) hb').trans h6⟩,
    ⟨fun c h1 h2 => (hk.cell (p := ⟨0, c, none⟩) (by show 0 < G; omega)).trans (ha.no c h1 h2), (hk.cell (p := ⟨0, 32, none⟩) (by show 0 < G; omega)).trans ha.yes⟩, ⟨ev, (hk.cell (p := ⟨20, 0, none⟩) (by show 20 < G; omega)).trans he⟩, hg, ⟨b', o', (hk.cell (p := ⟨23, 0, none⟩) hg).trans h3', hb'⟩, by omega⟩
theorem VarsZ.kp {G : Nat} {w w' : World} (h : VarsZ G w) (hb : Kp G w w') : VarsZ G w' := h.kx (Z := G) (Kx.of hb) (Nat.le_refl _)

abbrev TrimSays (t u : List UInt8) : Prop := ∀ w, Asc w → Calls Tryz.prog 35 #[bs t] w fun e w' => e = .returned (bs u) ∧ Below w.heap.size w w'

/-- A part 'name:value' takes a zoom from what A says to what B says. -/
structure Item (G : Nat) (A B : Nat → World → Prop) (t : List UInt8) : Prop where
  says : ∃ p r name val : List UInt8, t = p ++ 58 :: r ∧ (58 : UInt8) ∉ p ∧ (58 : UInt8) ∉ r ∧ r.length ≤ 500 ∧ t.length ≤ 500 ∧ TrimSays p name ∧ TrimSays r val ∧ name ≠ [] ∧ val ≠ [] ∧
    ∀ (w : World) (Z m : Nat), VarsZ G w → G ≤ Z → A Z w → w.heap[m]? = some (.map es5 5) → Calls Tryz.prog 37 #[.map (some m), bs name, bs val, .pointer (some ⟨Z, 0, none⟩)] w fun e w' =>
      e = .returned .nilIface ∧ B Z w' ∧ Kx Z w.heap.size w w'

def Stable (A : Nat → World → Prop) : Prop := ∀ Z w w', A Z w → Kp w.heap.size w w' → A Z w'

/-- What the parts' row holds. -/
def RowAt (w : World) (g n : Nat) (xs : List Value) : Prop := ∃ cur, w.heap[g]? = some (.cells cur 9 (0, 0)) ∧ cur.toList.take n = xs
theorem RowAt.cell {w : World} {g n : Nat} {xs : List Value} (h : RowAt w g n xs) (i : Nat) (hi : i < xs.length) : w.cell? ⟨g, i, none⟩ = some xs[i] := by
  obtain ⟨cur, h1, h2⟩ := h
  subst h2
  rw [List.length_take] at hi
  simp only [World.cell?, h1]
  have : i < cur.size := by
    have : cur.toList.length = cur.size := by simp
    omega
  simp [this]
theorem RowAt.kx {w w' : World} {Z g n : Nat} {xs : List Value} (h : RowAt w g n xs) (hk : Kx Z w.heap.size w w') (hg : g ≠ Z) : RowAt w' g n xs := by
  obtain ⟨cur, h1, h2⟩ := h
  exact ⟨cur, by rw [hk.block g (Array.getElem?_eq_some_iff.1 h1).1 hg]; exact h1, h2⟩

set_option maxRecDepth 100000 in
set_option maxHeartbeats 3200000 in
theorem parseZoom_any (G : Nat) (ps : List (List UInt8)) (hps : ps ≠ []) (hc : ∀ p ∈ ps, (44 : UInt8) ∉ p) (hlen : (joinC 44 ps).length ≤ 1000) (hpl : ps.length ≤ 10) (hne : joinC 44 ps ≠ []) (U : Int) (P : Nat → Nat → World → Prop)
    (hP0 : ∀ w Z, ZAt w Z 0 0 0 U false (.pointer none) → P 0 Z w) (hst : ∀ i, Stable (P i)) (hit : ∀ i (hi : i < ps.length), Item G (P i) (P (i + 1)) ps[i])
    (hend : ∀ Z w, P ps.length Z w → ∃ F H V b c, ZAt w Z F H V U b c ∧ ((FloatKind.f64.format.order F 0 != some .eq) = false ∨ ((FloatKind.f64.format.order F 0 != some .eq) = true ∧ (FloatKind.f64.format.order H 0 != some .eq) = false ∧ (FloatKind.f64.format.order V 0 != some .eq) = false)))
    (w : World) (hV : VarsZ G w) :
    Calls Tryz.prog 21 #[bs (joinC 44 ps), .int .i64 U] w fun e w' => ∃ Z, e = .returned (.tuple #[.pointer (some ⟨Z, 0, none⟩), .nilIface]) ∧ w.heap.size ≤ Z ∧ P ps.length Z w' ∧ Kp w.heap.size w w' ∧ VarsZ G w' := by
  have hne' : (joinC 44 ps).isEmpty = false := by simpa using hne
  have HP0 := Lib.hid hP0
  have HST := Lib.hid hst
  have HIT := Lib.hid hit
  have HEND := Lib.hid hend
  have HV := Lib.hid hV
  have HC := Lib.hid hc
  clear hP0 hst hit hend hV hc hne
  have hnpos : 0 < ps.length := List.length_pos_iff.2 hps
  go_enter Tryz.func21, Tryz.ntmps21
  go_wp2_with fail
  refine (split33 44 ps hps HC.out _ hlen (by omega)).mono ?_
  rintro e w1 ⟨v, rfl, hown, hbel⟩
  have hsz1 : w.heap.size + 1 ≤ w1.heap.size := by have := hbel.size; simp at this; omega
  have hz0 : ZAt w1 w.heap.size 0 0 0 U false (.pointer none) := by
    unfold ZAt
    rw [hbel.block w.heap.size (by simp)]
    exact heap_alloc_new _ _
  have hrow : ∃ g cap, v = .slice (some ⟨g, 0, none⟩) ps.length cap ∧ w.heap.size + 1 ≤ g ∧ RowAt w1 g ps.length (ps.map bs) ∧ ps.length ≤ cap := by
    rcases hown.2 with ⟨_, h0⟩ | ⟨g, cap, cur, hv, hb, hg, hn, _, _, ht⟩
    · omega
    · exact ⟨g, cap, hv, by simpa using hb, ⟨cur, hg, by simpa using ht⟩, hn⟩
  obtain ⟨g, cap, rfl, hgz, hrow, hcap⟩ := hrow
  have hk1 : Kp w.heap.size w w1 := ((Kp.refl _ w).alloc (Nat.le_refl _) _).trans ((Kp.of hbel).mono (by simp))
  have hG : G ≤ w.heap.size := HV.out.sz
  have hV1 : VarsZ G w1 := HV.out.kp (hk1.mono hG)
  have HK1 := Lib.hid hk1
  have HV1 := Lib.hid hV1
  have HROW := Lib.hid hrow
  have HS0 : Hid (P 0 w.heap.size w1) := HP0.out _ _ hz0
  have hglt : g < w1.heap.size := by
    obtain ⟨cur, h1, _⟩ := hrow
    exact (Array.getElem?_eq_some_iff.1 h1).1
  clear hown hbel hz0 hrow hk1 hV1
  obtain ⟨Z, hZ⟩ : ∃ Z, Z = w.heap.size := ⟨_, rfl⟩
  rw [← hZ] at HS0 hgz hsz1 hG ⊢
  have HZ := Lib.hid hZ
  clear hZ
  go_wp2_with fail
  go_loopw [22] (fun iv wr => ∃ i : Nat, i ≤ ps.length ∧ iv = .int .i64 i ∧ Hid (P i Z wr) ∧ Hid (VarsZ G wr) ∧ Hid (RowAt wr g ps.length (ps.map bs)) ∧ Hid (Kp Z w wr) ∧ w1.heap.size ≤ wr.heap.size) (fun iv _ => ps.length - (intOf iv).toNat)
  case atStart => exact ⟨0, Nat.zero_le _, rfl, HS0, HV1, HROW, by show Kp Z w w1; rw [HZ.out]; exact HK1.out, Nat.le_refl _⟩
  case round =>
    obtain ⟨i, hi, rfl, HS, HVr, HR, HK, hszr⟩ := hrel
    by_cases hlt : i < ps.length
    · obtain ⟨p, r, name, val, ht, hp, hr, hrl, htl, htp, htr, hnn, hvn, hh⟩ := (HIT.out i hlt).says
      have hcell : wr.cell? ⟨g, i, none⟩ = some (bs ps[i]) := by
        have := HR.out.cell i (by simpa using hlt)
        simpa using this
      rw [ht] at hcell
      have HTP := Lib.hid htp
      have HTR := Lib.hid htr
      have HH := Lib.hid hh
      have HPn := Lib.hid hp
      have HRn := Lib.hid hr
      have hnn' : name.isEmpty = false := by simpa using hnn
      have hvn' : val.isEmpty = false := by simpa using hvn
      have htl' : (p ++ 58 :: r).length ≤ 500 := by rw [← ht]; exact htl
      clear ht htl htp htr hh hp hr hnn hvn
      go_wp2_with fail
      refine (split2 _ p r rfl HPn.out _ (by show (p ++ 58 :: r).toArray.size ≤ 1000; simp at htl' ⊢; omega)).mono ?_
      rintro e w2 ⟨rfl, rfl⟩
      have hbA : Below wr.heap.size wr (wr.alloc (.cells #[bs p, bs r] 9)).drew := ((Below.refl _ _).alloc (Nat.le_refl _) _).drew
      have hAA : Asc (wr.alloc (.cells #[bs p, bs r] 9)).drew := HVr.out.a.mono hbA
      have hcA : (wr.alloc (.cells #[bs p, bs r] 9)).drew.cell? ⟨wr.heap.size, 1, none⟩ = some (bs r) := by simp
      have hsA : (wr.alloc (.cells #[bs p, bs r] 9)).drew.heap.size = wr.heap.size + 1 := by simp
      have HAA := Lib.hid hAA
      have HBA := Lib.hid hbA
      have HCA := Lib.hid hcA
      have HSA := Lib.hid hsA
      clear hbA hAA hcA hsA
      go_wp2_with fail
      refine (HTP.out _ HAA.out).mono ?_
      rintro e w3 ⟨rfl, hb3⟩
      have hc3 : w3.cell? ⟨wr.heap.size, 1, none⟩ = some (bs r) := by
        rw [hb3.cell (by show wr.heap.size < _; rw [HSA.out]; omega)]; exact HCA.out
      have hB3 : Below wr.heap.size wr w3 := HBA.out.trans (hb3.mono (by rw [HSA.out]; omega))
      have HB3 := Lib.hid hB3
      have HA3 := Lib.hid (HVr.out.a.mono hB3)
      have h3s : wr.heap.size + 1 ≤ w3.heap.size := by have := hb3.size; rw [HSA.out] at this; exact this
      clear hb3 hB3 HAA HBA HCA HSA HTP
      go_wp2_with (first
        | (go_at_call 36; go_in)
        | (go_at_call 48; refine (index_none48 _ 58 HRn.out _ (by show r.toArray.size ≤ 1000; simp; omega)).mono ?_; rintro e w' ⟨rfl, rfl⟩))
      refine (HTR.out _ HA3.out).mono ?_
      rintro e w4 ⟨rfl, hb4⟩
      have hB4 : Below wr.heap.size wr w4 := HB3.out.trans (hb4.mono (by omega))
      have HB4 := Lib.hid hB4
      have h4s : wr.heap.size + 1 ≤ w4.heap.size := by have := hb4.size; omega
      clear hb4 hB4 HB3 HA3 HTR hc3
      go_wp2_with (go_at_call 38; refine (zoomMap_made _).mono ?_; rintro e w' ⟨rfl, rfl⟩)
      have hB5 : Below wr.heap.size wr (w4.alloc (.map #[e0, e1, e2, e3, e4] 5)) := HB4.out.alloc (by omega) _
      have hm5 : (w4.alloc (.map #[e0, e1, e2, e3, e4] 5)).heap[w4.heap.size]? = some (.map es5 5) := heap_alloc_new _ _
      have hZr : Z ≤ wr.heap.size := by have := HK.out.size; rw [← HZ.out] at this; exact this
      have hV5 : VarsZ G (w4.alloc (.map #[e0, e1, e2, e3, e4] 5)) := HVr.out.kp ((Kp.of hB5).mono (by omega))
      have hP5 : P i Z (w4.alloc (.map #[e0, e1, e2, e3, e4] 5)) := HST.out i Z _ _ HS.out (Kp.of hB5)
      refine (HH.out _ Z w4.heap.size hV5 hG hP5 hm5).mono ?_
      rintro e w6 ⟨rfl, hP6, hK6⟩
      have hK6' : Kx Z wr.heap.size wr w6 := (Kx.of (Kp.of hB5)).trans (hK6.mono (by simp; omega))
      have HV6 : Hid (VarsZ G w6) := HVr.out.kx (hK6'.mono (by omega)) hG
      have HR6 : Hid (RowAt w6 g ps.length (ps.map bs)) := HR.out.kx hK6' (by omega)
      have HKK6 : Hid (Kp Z w w6) := HK.out.trans ((hK6'.mono hZr).kp (Nat.le_refl _))
      have HP6 := Lib.hid hP6
      have hs6 : w1.heap.size ≤ w6.heap.size := by have := hK6'.size; omega
      clear hP6 hK6 hK6' hV5 hP5 hm5 hB5 HB4 HH
      go_wp2_with fail
      go_roundw
      case rel => exact ⟨i + 1, by omega, by go_num, HP6, HV6, HR6, HKK6, hs6⟩
      case measure => simp [intOf]; omega
    · obtain rfl : i = ps.length := by omega
      obtain ⟨F, H, V, b, c, hz, hcond⟩ := HEND.out Z wr HS.out
      have c0 := hz.cell 0 _ rfl
      have c1 := hz.cell 1 _ rfl
      have c2 := hz.cell 2 _ rfl
      clear hz
      rcases hcond with h1 | ⟨h1, h2, h3⟩
      · go_wp2_with fail
        go_ret2
        exact ⟨Z, rfl, by rw [HZ.out]; exact Nat.le_refl _, HS.out, by rw [← HZ.out]; exact HK.out, HVr.out⟩
      · go_wp2_with fail
        go_ret2
        exact ⟨Z, rfl, by rw [HZ.out]; exact Nat.le_refl _, HS.out, by rw [← HZ.out]; exact HK.out, HVr.out⟩
set_option maxRecDepth 100000 in
set_option maxHeartbeats 3200000 in
theorem parseZoom_bad (G : Nat) (p r name val : List UInt8) (hc : (44 : UInt8) ∉ p ++ 58 :: r) (htl : (p ++ 58 :: r).length ≤ 500) (hp : (58 : UInt8) ∉ p) (hr : (58 : UInt8) ∉ r) (htp : TrimSays p name) (htr : TrimSays r val) (hnn : name ≠ []) (hvn : val ≠ []) (U : Int)
    (hh : ∀ (w : World) (z : Value) (m : Nat), w.heap[m]? = some (.map es5 5) → Calls Tryz.prog 37 #[.map (some m), bs name, bs val, z] w fun e w' => ∃ a, e = .returned (.iface 107 (.pointer (some a))) ∧ Kp w.heap.size w w')
    (w : World) (hV : VarsZ G w) :
    Calls Tryz.prog 21 #[bs (p ++ 58 :: r), .int .i64 U] w fun e w' => ∃ a, e = .returned (.tuple #[.pointer none, .iface 107 (.pointer (some a))]) ∧ Kp w.heap.size w w' := by
  have hne' : (p ++ 58 :: r).isEmpty = false := by cases p <;> rfl
  have HV := Lib.hid hV
  have HC := Lib.hid hc
  have HTP := Lib.hid htp
  have HTR := Lib.hid htr
  have HH := Lib.hid hh
  have HPn := Lib.hid hp
  have HRn := Lib.hid hr
  have hnn' : name.isEmpty = false := by simpa using hnn
  have hvn' : val.isEmpty = false := by simpa using hvn
  have hrl : r.length ≤ 500 := by simp at htl; omega
  have hspl := fun w => split33 44 [p ++ 58 :: r] (by simp) (by simpa using hc) w (by show (p ++ 58 :: r).length ≤ 1000; omega) (by simp)
  have HSPL := Lib.hid hspl
  clear htp htr hh hp hr hnn hvn hV hc hspl
  go_enter Tryz.func21, Tryz.ntmps21
  go_wp2_with fail
  refine (HSPL.out _).mono ?_
  rintro e w1 ⟨v, rfl, hown, hbel⟩
  have hsz1 : w.heap.size + 1 ≤ w1.heap.size := by have := hbel.size; simp at this; omega
  have hrow : ∃ g cap, v = .slice (some ⟨g, 0, none⟩) 1 cap ∧ w.heap.size + 1 ≤ g ∧ RowAt w1 g 1 [bs (p ++ 58 :: r)] ∧ 1 ≤ cap := by
    rcases hown.2 with ⟨_, h0⟩ | ⟨g, cap, cur, hv, hb, hg, hn, _, _, ht⟩
    · simp at h0
    · exact ⟨g, cap, hv, by simpa using hb, ⟨cur, hg, by simpa using ht⟩, hn⟩
  obtain ⟨g, cap, rfl, hgz, hrow, hcap⟩ := hrow
  have hk1 : Kp w.heap.size w w1 := ((Kp.refl _ w).alloc (Nat.le_refl _) _).trans ((Kp.of hbel).mono (by simp))
  have hV1 : VarsZ G w1 := HV.out.kp (hk1.mono HV.out.sz)
  have HK1 := Lib.hid hk1
  have HVr := Lib.hid hV1
  have hcell : w1.cell? ⟨g, 0, none⟩ = some (bs (p ++ 58 :: r)) := hrow.cell 0 (by simp)
  clear hown hbel hrow hk1 hV1
  obtain ⟨wr, hwr⟩ : ∃ wr : World, wr = w1 := ⟨_, rfl⟩
  subst hwr
  go_wp2_with fail
  refine wp_loop_rounds 1 ?_
  rw [rounds_succ]
  go_wp2_with fail
  refine (split2 _ p r rfl HPn.out _ (by show (p ++ 58 :: r).toArray.size ≤ 1000; simp at htl ⊢; omega)).mono ?_
  rintro e w2 ⟨rfl, rfl⟩
  have hbA : Below wr.heap.size wr (wr.alloc (.cells #[bs p, bs r] 9)).drew := ((Below.refl _ _).alloc (Nat.le_refl _) _).drew
  have hAA : Asc (wr.alloc (.cells #[bs p, bs r] 9)).drew := HVr.out.a.mono hbA
  have hcA : (wr.alloc (.cells #[bs p, bs r] 9)).drew.cell? ⟨wr.heap.size, 1, none⟩ = some (bs r) := by simp
  have hsA : (wr.alloc (.cells #[bs p, bs r] 9)).drew.heap.size = wr.heap.size + 1 := by simp
  have HAA := Lib.hid hAA
  have HBA := Lib.hid hbA
  have HCA := Lib.hid hcA
  have HSA := Lib.hid hsA
  clear hbA hAA hcA hsA
  go_wp2_with fail
  refine (HTP.out _ HAA.out).mono ?_
  rintro e w3 ⟨rfl, hb3⟩
  have hc3 : w3.cell? ⟨wr.heap.size, 1, none⟩ = some (bs r) := by
    rw [hb3.cell (by show wr.heap.size < _; rw [HSA.out]; omega)]; exact HCA.out
  have hB3 : Below wr.heap.size wr w3 := HBA.out.trans (hb3.mono (by rw [HSA.out]; omega))
  have HB3 := Lib.hid hB3
  have HA3 := Lib.hid (HVr.out.a.mono hB3)
  have h3s : wr.heap.size + 1 ≤ w3.heap.size := by have := hb3.size; rw [HSA.out] at this; exact this
  clear hb3 hB3 HAA HBA HCA HSA HTP
  go_wp2_with (first
    | (go_at_call 36; go_in)
    | (go_at_call 48; refine (index_none48 _ 58 HRn.out _ (by show r.toArray.size ≤ 1000; simp; omega)).mono ?_; rintro e w' ⟨rfl, rfl⟩))
  refine (HTR.out _ HA3.out).mono ?_
  rintro e w4 ⟨rfl, hb4⟩
  have hB4 : Below wr.heap.size wr w4 := HB3.out.trans (hb4.mono (by omega))
  have HB4 := Lib.hid hB4
  have h4s : wr.heap.size + 1 ≤ w4.heap.size := by have := hb4.size; omega
  clear hb4 hB4 HB3 HA3 HTR hc3
  go_wp2_with (go_at_call 38; refine (zoomMap_made _).mono ?_; rintro e w' ⟨rfl, rfl⟩)
  have hB5 : Below wr.heap.size wr (w4.alloc (.map #[e0, e1, e2, e3, e4] 5)) := HB4.out.alloc (by omega) _
  have hm5 : (w4.alloc (.map #[e0, e1, e2, e3, e4] 5)).heap[w4.heap.size]? = some (.map es5 5) := heap_alloc_new _ _
  refine (HH.out _ _ w4.heap.size hm5).mono ?_
  rintro e w6 ⟨a, rfl, hK6⟩
  have HK6 : Hid (Kp w.heap.size w w6) := (HK1.out.trans ((Kp.of hB5).mono (by have := HK1.out.size; omega))).trans (hK6.mono (by have := HK1.out.size; simp; omega))
  clear hK6 hm5 hB5 HB4 HH
  go_wp2_with fail
  go_ret2
  exact ⟨a, rfl, HK6.out⟩
end Go.Proofs.YtcmeaogbfecjkaaGreatDoor
