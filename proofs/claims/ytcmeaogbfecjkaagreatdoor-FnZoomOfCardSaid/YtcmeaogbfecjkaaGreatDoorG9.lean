/- A zoom's settings, with blanks and without, do their steps. -/
import Derived.Test.YtcmeaogbfecjkaaGreatDoorG8
import Derived.Test.YtcmeaogbfecjkaaGreatDoorD2
namespace Go.Proofs.YtcmeaogbfecjkaaGreatDoor
open Go.RowKit

/-- A part 'name:value', with a blank ahead of the name, ahead of the value. -/
def partT (lead loose : Bool) (p r : List UInt8) : List UInt8 := (if lead then [32] else []) ++ p ++ 58 :: ((if loose then [32] else []) ++ r)

theorem item_any (G j : Nat) (A B : Nat → World → Prop) (lead loose : Bool) (p r : List UInt8) (hp : Nm j p) (hv : visB r = true) (h58 : (58 : UInt8) ∉ r) (hr0 : r ≠ []) (hrl : r.length ≤ 20)
    (h : ∀ (w : World) (Z m : Nat), VarsZ G w → G ≤ Z → A Z w → w.heap[m]? = some (.map es5 5) → Calls Tryz.prog 37 #[.map (some m), bs p, bs r, .pointer (some ⟨Z, 0, none⟩)] w fun e w' =>
      e = .returned .nilIface ∧ B Z w' ∧ Kx Z w.heap.size w w') : Item G A B (partT lead loose p r) := by
  have hl := hp.len
  have hn := hp.no58
  have tp : TrimSays p p := trim_list p hp.ne (by omega) hp.vis
  have tp1 : TrimSays (32 :: p) p := trim_list_sp p hp.ne (by omega) hp.vis
  have tr : TrimSays r r := trim_list r hr0 (by omega) hv
  have tr1 : TrimSays (32 :: r) r := trim_list_sp r hr0 (by omega) hv
  cases lead <;> cases loose
  · exact ⟨p, r, p, r, by simp [partT], hn, h58, by omega, by simp [partT]; omega, tp, tr, hp.ne, hr0, h⟩
  · exact ⟨p, 32 :: r, p, r, by simp [partT], hn, by simp [h58], by simp; omega, by simp [partT]; omega, tp, tr1, hp.ne, hr0, h⟩
  · exact ⟨32 :: p, r, p, r, by simp [partT], by simp [hn], h58, by omega, by simp [partT]; omega, tp1, tr, hp.ne, hr0, h⟩
  · exact ⟨32 :: p, 32 :: r, p, r, by simp [partT], by simp [hn], by simp [h58], by simp; omega, by simp [partT]; omega, tp1, tr1, hp.ne, hr0, h⟩

/-- A zoom with a background, as it lies. -/
def ZB (F H V : Nat) (U : Int) (b : Bool) (a3 b3 c3 : Nat) (Z : Nat) (w : World) : Prop := ∃ k, Z < k ∧ ZAt w Z F H V U b (.pointer (some ⟨k, 0, none⟩)) ∧ CAt w k a3 b3 c3
theorem ZB.stable (F H V : Nat) (U : Int) (b : Bool) (a3 b3 c3 : Nat) : Stable (ZB F H V U b a3 b3 c3) := fun _ _ _ ⟨k, h1, h2, h3⟩ hk => ⟨k, h1, h2.kp hk, h3.kp hk⟩

theorem bgL_nm : Nm 3 bgS.data.toList := nm_of (by decide +kernel)
theorem boL_nm : Nm 4 boS.data.toList := nm_of (by decide +kernel)

theorem handle_bg (n : Nat) (hn : n < 16777216) (w : World) (Z m : Nat) (hm : w.heap[m]? = some (.map es5 5)) (ev : Value) (hE : w.cell? ⟨20, 0, none⟩ = some ev) (F H V : Nat) (U : Int) (b : Bool) (c : Value) (hz : ZAt w Z F H V U b c) :
    Calls Tryz.prog 37 #[.map (some m), bs bgS.data.toList, bs (hexL n), .pointer (some ⟨Z, 0, none⟩)] w fun e w' => e = .returned .nilIface ∧ ZB F H V U b (c32 (n / 65536)) (c32 (n / 256 % 256)) (c32 (n % 256)) Z w' ∧ Kx Z w.heap.size w w' := by
  have hp := bgL_nm
  have lt : Z < w.heap.size := (Array.getElem?_eq_some_iff.1 hz).1
  refine (handle_3 ⟨bgS.data.toList.toArray⟩ ⟨(Lib.toLowerA bgS.data.toList).toArray⟩ ⟨(hexL n).toArray⟩ _ m w (fun v w' => v = .nilIface ∧ ZB F H V U b (c32 (n / 65536)) (c32 (n / 256 % 256)) (c32 (n % 256)) Z w' ∧ Kx Z w.heap.size w w') hm (by rw [bs_size]; have := hp.len; omega) hp.ascii (by simp)
    hp.k0 hp.k1 hp.k2 hp.k3 hp.k4 (Lib.hid ?_)).mono ?_
  · intro w1 hk
    have hE1 : w1.cell? ⟨20, 0, none⟩ = some ev := (hk.cell (World.block_lt_of_cell? w _ hE)).trans hE
    refine (bg_any n hn w1 ev hE1 Z F H V U b c (hz.kp hk)).mono ?_
    rintro e w' ⟨he, k, h1, h2, h3, h4⟩
    exact ⟨_, he, rfl, ⟨k, by have := hk.size; omega, h2, h3⟩, (Kx.of hk).trans (h4.mono hk.size)⟩
  · rintro e w' ⟨v, he, rfl, h⟩
    exact ⟨he, h⟩

/-- border:on, whatever the zoom. -/
theorem handle_bo (A : Nat → World → Prop) (w : World) (Z m : Nat) (hm : w.heap[m]? = some (.map es5 5)) (F H V : Nat) (U : Int) (b : Bool) (c : Value)
    (hz : ZAt w Z F H V U b c) (hA : ∀ w', ZAt w' Z F H V U true c → Kx Z w.heap.size w w' → A Z w') :
    Calls Tryz.prog 37 #[.map (some m), bs boS.data.toList, bs onS.data.toList, .pointer (some ⟨Z, 0, none⟩)] w fun e w' => e = .returned .nilIface ∧ A Z w' ∧ Kx Z w.heap.size w w' := by
  have hp := boL_nm
  refine (handle_4 ⟨boS.data.toList.toArray⟩ ⟨(Lib.toLowerA boS.data.toList).toArray⟩ ⟨onS.data.toList.toArray⟩ _ m w (fun v w' => v = .nilIface ∧ A Z w' ∧ Kx Z w.heap.size w w') hm (by rw [bs_size]; have := hp.len; omega) hp.ascii (by simp)
    hp.k0 hp.k1 hp.k2 hp.k3 hp.k4 (Lib.hid ?_)).mono ?_
  · intro w1 hk
    refine (border_any w1 Z F H V U b c (hz.kp hk)).mono ?_
    rintro e w' ⟨he, h2, h4⟩
    have hkx : Kx Z w.heap.size w w' := (Kx.of hk).trans (h4.mono hk.size)
    exact ⟨_, he, rfl, hA w' h2 hkx, hkx⟩
  · rintro e w' ⟨v, he, rfl, h⟩
    exact ⟨he, h⟩

/-- The first setting. -/
theorem item_first (G j : Nat) (hj : j < 3) (n : Int) (h0 : n ≠ 0) (h1 : -400 ≤ n) (h2 : n ≤ 400) (hf : j = 0 → 0 < n ∧ n ≠ 4) (u : Nat) (hu : u < 4) (lead loose : Bool) :
    Item G (ZIs 0 0 0 u false (.pointer none)) (ZIs (if j = 0 then qf n else 0) (if j = 1 then usz u n else 0) (if j = 2 then usz u n else 0) u false (.pointer none)) (partT lead loose (nameL j) (qtrI n)) := by
  have hlen := qtrI_len n (by omega) (by omega)
  have hd := qtrI_digs n
  have hp := (names_at j 1 hj (by omega) (by rcases (by omega : j = 0 ∨ j = 1 ∨ j = 2) with rfl | rfl | rfl <;> decide)).1
  refine item_any G j _ _ lead loose _ _ hp (digs_vis _ hd) (digs_no _ hd 58 (by decide)) (qtrI_ne n) (by omega) ?_
  intro w Z m hV hGZ hz hm
  rcases (by omega : j = 0 ∨ j = 1 ∨ j = 2) with rfl | rfl | rfl
  · obtain ⟨k, rfl⟩ := Int.eq_ofNat_of_zero_le (show 0 ≤ n by have := hf rfl; omega)
    have hq : qtrI (k : Int) = qtrL k := by unfold qtrI; rw [if_neg (by omega), Int.toNat_natCast]
    rw [hq]
    have := hf rfl
    exact handle_factor _ hp k (by omega) (by omega) (by omega) w Z m hV.v hm 0 0 0 u false _ hz
  · exact handle_hm _ hp n h0 h1 h2 w Z m hV.v hm 0 u hu false _ hz
  · exact handle_vm _ hp n h0 h1 h2 w Z m hV.v hm 0 u hu false _ hz
end Go.Proofs.YtcmeaogbfecjkaaGreatDoor
