/- laws.FnShortened: the walk. -/
import Derived.Test.YtcmeaogbfecjkaaGreatDoorD2
import Derived.Test.YtcmeaogbfecjkaaGreatDoorA2
import Derived.Deep.DeepCutAuto
import Derived.Laws.IdiomStrings
namespace Go.Proofs.YtcmeaogbfecjkaaGreatDoor
open Go.RowKit

theorem Kp.drew {B : Nat} {a w : World} (h : Kp B a w) : Kp B a w.drew := ⟨h.os, h.output, h.size, h.block⟩
theorem Kp.set {B Z o : Nat} {a w : World} {v : Value} (h : Kp B a w) (hZ : B ≤ Z) : Kp B a (w.setCell ⟨Z, o, none⟩ v) := h.trans ((Kx.set (Z := Z) (B := B) (o := o) (v := v) (w := w)).kp hZ)
theorem Kp.cells {w w' : World} (h : Kp w.heap.size w w') : ∀ b i, b < w.heap.size → w'.cell? ⟨b, i, none⟩ = w.cell? ⟨b, i, none⟩ := fun b i hb => h.cell (p := ⟨b, i, none⟩) hb
theorem Kp.frozens {w w' : World} (h : Kp w.heap.size w w') : ∀ b i, b < w.heap.size → w'.frozen? ⟨b, i, none⟩ = w.frozen? ⟨b, i, none⟩ := fun b i hb => h.frozen (p := ⟨b, i, none⟩) hb
theorem Kp.lts {w w' : World} (h : Kp w.heap.size w w') : ∀ b, b < w.heap.size → b < w'.heap.size := fun _ hb => Nat.lt_of_lt_of_le hb h.size
/-- A zoom stored, no draw behind it. -/
theorem zput_facts (w : World) (r F H V : Nat) (b : Bool) (v : Value) (h : w.heap[r]? = some zres) (B : Nat) (w0 : World) (hB : B ≤ r) (hk : Kp B w0 w) :
    Kp B w0 (((((w.setCell ⟨r, 0, none⟩ (.float .f64 F)).setCell ⟨r, 1, none⟩ (.float .f64 H)).setCell ⟨r, 2, none⟩ (.float .f64 V)).setCell ⟨r, 3, none⟩ (.bool b)).setCell ⟨r, 4, none⟩ v) ∧
    (((((w.setCell ⟨r, 0, none⟩ (.float .f64 F)).setCell ⟨r, 1, none⟩ (.float .f64 H)).setCell ⟨r, 2, none⟩ (.float .f64 V)).setCell ⟨r, 3, none⟩ (.bool b)).setCell ⟨r, 4, none⟩ v).cell? ⟨r, 0, none⟩ = some (.float .f64 F) ∧
    (((((w.setCell ⟨r, 0, none⟩ (.float .f64 F)).setCell ⟨r, 1, none⟩ (.float .f64 H)).setCell ⟨r, 2, none⟩ (.float .f64 V)).setCell ⟨r, 3, none⟩ (.bool b)).setCell ⟨r, 4, none⟩ v).cell? ⟨r, 1, none⟩ = some (.float .f64 H) ∧
    (((((w.setCell ⟨r, 0, none⟩ (.float .f64 F)).setCell ⟨r, 1, none⟩ (.float .f64 H)).setCell ⟨r, 2, none⟩ (.float .f64 V)).setCell ⟨r, 3, none⟩ (.bool b)).setCell ⟨r, 4, none⟩ v).cell? ⟨r, 2, none⟩ = some (.float .f64 V) := by
  have hdc : ∀ (u : World) p, u.drew.cell? p = u.cell? p := fun _ _ => rfl
  have hdk : ∀ (B : Nat) (u v : World), Kp B u v.drew → Kp B u v := fun B u v k => ⟨k.os, k.output, k.size, k.block⟩
  obtain ⟨q0, q1, q2, _, _, hkq⟩ := zset_facts w r F H V b v h
  simp only [zset, hdc] at q0 q1 q2 hkq
  exact ⟨hk.trans (hdk _ _ _ (hkq B hB)), q0, q1, q2⟩
/-- A row of one byte, as a text. -/
theorem one_back (w : World) (p : ByteArray) (k : Nat) (h : k < p.size) (_h97 : 97 ≤ p[k].toNat) :
    (convert 23 9 (.slice (some ⟨w.heap.size, 0, none⟩) 1 1)).run Tryz.prog (w.alloc (.cells #[.int .u8 (((p[k].toNat : Int) - 32) % 256)] 5)) = .ok (.string ⟨#[p[k] - 32]⟩) (w.alloc (.cells #[.int .u8 (((p[k].toNat : Int) - 32) % 256)] 5)) := by
  have hlt : p[k].toNat < 256 := UInt8.toNat_lt _
  have hx : (((p[k].toNat : Int) - 32) % 256) = ((p[k] - 32).toNat : Int) := by
    rw [UInt8.toNat_sub]
    show _ = (((256 - 32 + p[k].toNat) % 256 : Nat) : Int)
    omega
  have := run_convert_bytes_back (P := Tryz.prog) (w.alloc (.cells #[.int .u8 (((p[k].toNat : Int) - 32) % 256)] 5)) 23 9 5 ⟨w.heap.size, 0, none⟩ 1 [p[k] - 32] Tryz.underlying23 Tryz.underlying5 Tryz.underlying9 (fun j hj => by
    obtain rfl : j = 0 := by simpa using hj
    rw [hx]
    simp [Addr.add])
  exact this
/-- What the walk wants of a name and of its beginning. -/
structure Shorts (G : Nat) (full q : ByteArray) (n : Nat) (v : Value) : Prop where
  a : ∀ w, VarsZ G w → Calls Tryz.prog 6 #[.string (full ++ ⟨#[58]⟩ ++ ⟨(qtrI n).toArray⟩), .int .i64 0] w fun e w' => e = .returned (.tuple #[v, .bool true]) ∧ Kp w.heap.size w w'
  b : ∀ w, VarsZ G w → Calls Tryz.prog 6 #[.string (q ++ ⟨#[58]⟩ ++ ⟨(qtrI n).toArray⟩), .int .i64 0] w fun e w' => e = .returned (.tuple #[v, .bool true]) ∧ Kp w.heap.size w w'
  c : ∀ w, VarsZ G w → Calls Tryz.prog 6 #[.string (⟨#[120]⟩ ++ q ++ ⟨#[58]⟩ ++ ⟨(qtrI n).toArray⟩), .int .i64 0] w fun e w' => e = .returned (.tuple #[.agg #[.float .f64 0, .float .f64 0, .float .f64 0, .bool false, .slice none 0 0], .bool false]) ∧ Kp w.heap.size w w'

abbrev names3 : Obj := .cells #[.string ⟨#[102, 97, 99, 116, 111, 114]⟩, .string ⟨#[104, 109, 97, 114, 103, 105, 110]⟩, .string ⟨#[118, 109, 97, 114, 103, 105, 110]⟩] 9 (0, 0)

set_option maxRecDepth 100000 in
set_option maxHeartbeats 1600000 in
theorem shortened_plain (j : Nat) (hj : j < 3) (full q : ByteArray) (hfull : ∀ w : World, (w.alloc names3).cell? ⟨w.heap.size, j, none⟩ = some (.string full)) (L : Int) (n : Nat) (h1 : 5 ≤ n) (h2 : n ≤ 400) (hL1 : 1 ≤ L) (hL2 : L ≤ full.size) (hfs : full.size ≤ 7)
    (p : List UInt8) (hcut : full.extract 0 L.toNat = ⟨p.toArray⟩) (hp : ∀ k (hk : k < p.length), 97 ≤ p[k].toNat) (hpl : p.length ≤ 7) (cap : Bool) (hq : q = if cap then ⟨(upL p).toArray⟩ else ⟨p.toArray⟩) (hqs : q.size ≤ 7) (G : Nat) (w : World) (hV : VarsZ G w) (F H V : Nat)
    (hF : (FloatKind.f64.format.order F F == some .eq) = true) (hH : (FloatKind.f64.format.order H H == some .eq) = true) (hW : (FloatKind.f64.format.order V V == some .eq) = true)
    (hS : Shorts G full q n (.agg #[.float .f64 F, .float .f64 H, .float .f64 V, .bool false, .slice none 0 0])) :
    Calls Tryz.prog 3 #[.int .i64 j, .int .i64 L, .int .i64 n, .bool cap] w fun e w' => e = .returned (.bool true) ∧ Kp w.heap.size w w' := by
  have hql := qtrI_len (n : Int) (by omega) (by omega)
  have HS := Lib.hid hS
  have HV := Lib.hid hV
  have hfull0 := hfull w
  have HP := Lib.hid hp
  have HQ := Lib.hid hq
  clear hS hV hfull hp hq
  go_enter Tryz.func3, Tryz.ntmps3
  go_upto_if 53 with (fail)
  go_cut [10] from 53 to 68 (fun s wx => s = .string q ∧ Kp (w.heap.size + 1) (w.alloc names3) wx)
  case first =>
    cases cap
    · go_wp2_with fail
      go_meet
      case rel => exact ⟨by rw [HQ.out]; rfl, Kp.refl _ _⟩
    · go_wp2_with fail
      go_loopw [11, 56] (fun out i w' => ∃ k : Nat, k ≤ p.length ∧ out = .string ⟨(upL (p.take k)).toArray⟩ ∧ i = .int .i64 k ∧ Kp (w.heap.size + 1) (w.alloc names3) w') (fun _ i _ => p.length - (intOf i).toNat)
      case atStart => exact ⟨0, Nat.zero_le _, rfl, rfl, Kp.refl _ _⟩
      case round =>
        obtain ⟨k, hk, rfl, rfl, hkp⟩ := hrel
        by_cases hlt : k < p.length
        · have hb := HP.out k hlt
          have hcv := one_back wr ⟨p.toArray⟩ k hlt hb
          have HK := Lib.hid hkp
          have hul : (upL (p.take k)).length = k := by simp [upL]; omega
          have HC := Lib.hid hcut
          clear hkp hcut
          go_wp2_with fail
          go_roundw
          case rel =>
            refine ⟨k + 1, by omega, ?_, by go_num, HK.out.alloc (by have := HK.out.size; simp at this; omega) _⟩
            congr 1
            rw [bs_append]
            congr 2
            rw [List.take_succ_eq_append_getElem hlt]
            unfold upL
            rw [List.map_append]
            rfl
          case measure => simp [intOf]; omega
        · have hke : k = p.length := by omega
          go_wp2_with fail
          go_meet
          case rel => exact ⟨by rw [HQ.out, hke, List.take_length]; rfl, hkp⟩
  case rest =>
  obtain ⟨rfl, kx⟩ := hcut
  have hfull1 : wc.cell? ⟨w.heap.size, j, none⟩ = some (.string full) := (kx.cell (p := ⟨w.heap.size, j, none⟩) (by show w.heap.size < w.heap.size + 1; omega)).trans hfull0
  have KX := Lib.hid kx
  clear kx hfull0
  go_wp2_with fail
  refine (quarters_any _ _ (by omega) (by omega)).mono ?_
  rintro e w1 ⟨rfl, hb1⟩
  have hsx : w.heap.size + 1 ≤ wc.heap.size := by have := KX.out.size; simp at this; omega
  have K1 : Kp w.heap.size w w1 := (((Kp.refl _ w).alloc (Nat.le_refl _) _).trans (KX.out.mono (by omega))).trans ((Kp.of hb1).mono (by omega))
  have n0 : w1.cell? ⟨w.heap.size, j, none⟩ = some (.string full) := by
    rw [hb1.cell (p := ⟨w.heap.size, j, none⟩) (by show w.heap.size < wc.heap.size; omega)]; exact hfull1
  have V1 : VarsZ G w1 := HV.out.kp (K1.mono HV.out.sz)
  have s1 : w.heap.size + 1 ≤ w1.heap.size := by have := hb1.size; omega
  have HK1 := Lib.hid K1
  have HV1 := Lib.hid V1
  clear K1 V1 hb1 hfull1 hsx
  go_wp2_with fail
  refine (HS.out.b _ HV1.out).mono ?_
  rintro e w2 ⟨rfl, hk2⟩
  have K2 : Kp w.heap.size w w2 := HK1.out.trans (hk2.mono (by omega))
  have n1 : w2.cell? ⟨w.heap.size, j, none⟩ = some (.string full) := by
    rw [hk2.cell (p := ⟨w.heap.size, j, none⟩) (by show w.heap.size < w1.heap.size; omega)]; exact n0
  have s2 : w1.heap.size ≤ w2.heap.size := hk2.size
  have HK2 := Lib.hid K2
  clear K2 n0 hk2 HK1 HV1
  go_wp2_with fail
  have m0 : ∀ o, (w2.alloc o).cell? ⟨w.heap.size, j, none⟩ = some (.string full) := fun o => by
    rw [World.cell?_alloc_lt _ _ _ (World.block_lt_of_cell? w2 _ n1)]; exact n1
  have m1 := m0 (.cells #[.float .f64 F, .float .f64 H, .float .f64 V, .bool false, .slice none 0 0] 27)
  have f0 : (w2.alloc (.cells #[.float .f64 F, .float .f64 H, .float .f64 V, .bool false, .slice none 0 0] 27)).cell? ⟨w2.heap.size, 0, none⟩ = some (.float .f64 F) := by simp
  have f1 : (w2.alloc (.cells #[.float .f64 F, .float .f64 H, .float .f64 V, .bool false, .slice none 0 0] 27)).cell? ⟨w2.heap.size, 1, none⟩ = some (.float .f64 H) := by simp
  have f2 : (w2.alloc (.cells #[.float .f64 F, .float .f64 H, .float .f64 V, .bool false, .slice none 0 0] 27)).cell? ⟨w2.heap.size, 2, none⟩ = some (.float .f64 V) := by simp
  have K3 : Kp w.heap.size w (w2.alloc (.cells #[.float .f64 F, .float .f64 H, .float .f64 V, .bool false, .slice none 0 0] 27)) := HK2.out.alloc (by omega) _
  have s3 : (w2.alloc (.cells #[.float .f64 F, .float .f64 H, .float .f64 V, .bool false, .slice none 0 0] 27)).heap.size = w2.heap.size + 1 := by simp
  generalize w2.alloc (.cells #[.float .f64 F, .float .f64 H, .float .f64 V, .bool false, .slice none 0 0] 27) = w3 at *
  generalize hr1 : w2.heap.size = r1 at *
  have V3 : VarsZ G w3 := HV.out.kp (K3.mono HV.out.sz)
  have HK3 := Lib.hid K3
  have HV3 := Lib.hid V3
  have s4 : w.heap.size ≤ r1 := by omega
  have s5 : w.heap.size < r1 := by omega
  have hb4 : ¬ 9223372036854775807 < full.size + 1 := by omega
  have hb7 : ¬ 9223372036854775807 < full.size + 1 + (qtrI (n : Int)).length := by omega
  clear K3 V3 m0 n1 HK2
  go_cut [15, 16] from 78 to 89 (fun p c wx => c = .bool true ∧ ∃ r2, p = .pointer (some ⟨r2, 0, none⟩) ∧ Kp w3.heap.size w3 wx ∧ wx.cell? ⟨r2, 0, none⟩ = some (.float .f64 F) ∧ wx.cell? ⟨r2, 1, none⟩ = some (.float .f64 H) ∧ wx.cell? ⟨r2, 2, none⟩ = some (.float .f64 V))
  case first =>
    go_region_held3 (fun w' => w'.cell? ⟨w.heap.size, j, none⟩ = some (.string full))
      (first | (rw [World.cell?_setCell_far, World.cell?_setCell_far, World.cell?_setCell_far, World.cell?_setCell_far, World.cell?_setCell_far]
                · rw [hk4.cell (p := ⟨w.heap.size, j, none⟩) (by show w.heap.size < w3.heap.size; omega)]; exact m1
                all_goals (dsimp only; first | omega | (have := hz3.out; omega)))
             | (go_keep; done)
             | (rw [World.cell?_alloc_lt _ _ ⟨w.heap.size, j, none⟩ (by dsimp only; have := hz4.out; omega), hk4.cell (p := ⟨w.heap.size, j, none⟩) (by show w.heap.size < w3.heap.size; omega)]; exact m1)
             | (rw [World.cell?_alloc_lt _ _ ⟨w.heap.size, j, none⟩ (by dsimp only; have := hz3.out; omega), hk3.cell (p := ⟨w.heap.size, j, none⟩) (by show w.heap.size < w3.heap.size; omega)]; exact m1)
             | (rw [hk4.cell (p := ⟨w.heap.size, j, none⟩) (by show w.heap.size < w3.heap.size; omega)]; exact m1)
             | (rw [hk3.cell (p := ⟨w.heap.size, j, none⟩) (by show w.heap.size < w3.heap.size; omega)]; exact m1))
      (first | (go_at_call 7; refine (quarters_any _ _ (by omega) (by omega)).mono ?_; rintro e w' ⟨rfl, hb⟩; have hk7 := Kp.of hb; clear hb; have hc := hk7.cells; have hf := hk7.frozens; have hs := hk7.lts;
                have hk3 : Kp w3.heap.size w3 w' := (by first | exact (Kp.drew (Kp.refl _ _)).trans hk7 | exact ((Kp.drew (Kp.refl _ w3)).alloc (Nat.le_refl _) _).trans (hk7.mono (by simp))); have hz3 := Lib.hid hk3.size)
             | (go_at_call 6; refine (HS.out.a _ (HV3.out.kp (Kp.mono (by first | exact hk3 | exact hk3.alloc hk3.size _) HV3.out.sz))).mono ?_; rintro e w' ⟨rfl, hk6⟩; have hc := hk6.cells; have hf := hk6.frozens; have hs := hk6.lts;
                have hk4 : Kp w3.heap.size w3 w' := (by first | exact hk3.trans (hk6.mono hk3.size) | exact (hk3.alloc hk3.size _).trans (hk6.mono (by have := hk3.size; simp; omega))); have hz4 := Lib.hid hk4.size))
    all_goals
      go_wp2_with fail
      go_meet
    · show _ ∧ _
      exact ⟨rfl, _, rfl, hk4.alloc hz4.out _, by simp, by simp, by simp⟩
    · show _ ∧ _
      obtain ⟨k0, q0, q1, q2⟩ := zput_facts _ _ F H V false (.slice none 0 0) (by rw [hk6.block _ (by simp)]; exact heap_alloc_new _ _) w3.heap.size w3 hz3.out hk4
      exact ⟨rfl, _, rfl, k0, q0, q1, q2⟩
    · show _ ∧ _
      obtain ⟨k0, q0, q1, q2⟩ := zput_facts _ (r1 + 1) F H V false (.slice none 0 0) (by rw [hk6.block _ (by have := hk7.size; simp at this; omega), hk7.block _ (by simp; omega)]; have := heap_alloc_new w3.drew zres; rw [← s3]; exact this) w3.heap.size w3 (by omega) hk4
      exact ⟨rfl, _, rfl, k0, q0, q1, q2⟩
  case rest =>
    obtain ⟨rfl, r2, rfl, kc, d0, d1, d2⟩ := hcut
    have kw : Kp w.heap.size w wc := HK3.out.trans (kc.mono (by omega))
    have e0 := (kc.cell (p := ⟨r1, 0, none⟩) (by show r1 < w3.heap.size; omega)).trans f0
    have e1 := (kc.cell (p := ⟨r1, 1, none⟩) (by show r1 < w3.heap.size; omega)).trans f1
    have e2 := (kc.cell (p := ⟨r1, 2, none⟩) (by show r1 < w3.heap.size; omega)).trans f2
    have vc : VarsZ G wc := HV.out.kp (kw.mono HV.out.sz)
    have KC := Lib.hid kw
    have VC := Lib.hid vc
    clear kw vc kc f0 f1 f2 m1 HK3 HV3 s1 s2 s3 s4 s5 hr1
    go_wp2_with fail
    refine (quarters_any _ _ (by omega) (by omega)).mono ?_
    rintro e w5 ⟨rfl, hb5⟩
    have V5 := Lib.hid (VC.out.kp ((Kp.of hb5).mono VC.out.sz))
    go_wp2_with fail
    refine (HS.out.c _ V5.out).mono ?_
    rintro e w6 ⟨rfl, hk6⟩
    have k6 : Kp wc.heap.size wc w6 := (Kp.of hb5).trans (hk6.mono hb5.size)
    have a0 : ∀ o, (w6.alloc o).cell? ⟨r1, 0, none⟩ = some (.float .f64 F) := fun o => by
      have l := World.block_lt_of_cell? wc _ e0
      have c := (k6.cell l).trans e0
      rw [World.cell?_alloc_lt _ _ _ (World.block_lt_of_cell? w6 _ c)]; exact c
    have a1 : ∀ o, (w6.alloc o).cell? ⟨r1, 1, none⟩ = some (.float .f64 H) := fun o => by
      have l := World.block_lt_of_cell? wc _ e1
      have c := (k6.cell l).trans e1
      rw [World.cell?_alloc_lt _ _ _ (World.block_lt_of_cell? w6 _ c)]; exact c
    have a2 : ∀ o, (w6.alloc o).cell? ⟨r1, 2, none⟩ = some (.float .f64 V) := fun o => by
      have l := World.block_lt_of_cell? wc _ e2
      have c := (k6.cell l).trans e2
      rw [World.cell?_alloc_lt _ _ _ (World.block_lt_of_cell? w6 _ c)]; exact c
    have b0 : ∀ o, (w6.alloc o).cell? ⟨r2, 0, none⟩ = some (.float .f64 F) := fun o => by
      have l := World.block_lt_of_cell? wc _ d0
      have c := (k6.cell l).trans d0
      rw [World.cell?_alloc_lt _ _ _ (World.block_lt_of_cell? w6 _ c)]; exact c
    have b1 : ∀ o, (w6.alloc o).cell? ⟨r2, 1, none⟩ = some (.float .f64 H) := fun o => by
      have l := World.block_lt_of_cell? wc _ d1
      have c := (k6.cell l).trans d1
      rw [World.cell?_alloc_lt _ _ _ (World.block_lt_of_cell? w6 _ c)]; exact c
    have b2 : ∀ o, (w6.alloc o).cell? ⟨r2, 2, none⟩ = some (.float .f64 V) := fun o => by
      have l := World.block_lt_of_cell? wc _ d2
      have c := (k6.cell l).trans d2
      rw [World.cell?_alloc_lt _ _ _ (World.block_lt_of_cell? w6 _ c)]; exact c
    have K6 := Lib.hid (KC.out.trans (k6.mono KC.out.size))
    clear k6 hk6 hb5 V5 d0 d1 d2 e0 e1 e2 hb4 hb7
    go_wp2_with fail
    go_ret
    exact ⟨rfl, K6.out.alloc K6.out.size _⟩
end Go.Proofs.YtcmeaogbfecjkaaGreatDoor
