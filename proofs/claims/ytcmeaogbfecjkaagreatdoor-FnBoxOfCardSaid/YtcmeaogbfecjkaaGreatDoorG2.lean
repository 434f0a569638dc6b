/- A colour's digits are read as its three parts. -/
import Derived.Test.YtcmeaogbfecjkaaGreatDoorG1
import Derived.Test.YtcmeaogbfecjkaaGreatDoorSh
namespace Go.Proofs.YtcmeaogbfecjkaaGreatDoor
open Go.RowKit

theorem Grew.of {w w' : World} (h : Below w.heap.size w w') : Grew w w' := ⟨h.os, h.output, h.size, h.block⟩
theorem Grew.trans {a b c : World} (h : Grew a b) (k : Grew b c) : Grew a c :=
  ⟨k.os.trans h.os, k.output.trans h.output, Nat.le_trans h.size k.size, fun i hi => (k.block i (Nat.lt_of_lt_of_le hi h.size)).trans (h.block i hi)⟩
theorem Grew.drew {a w : World} (h : Grew a w) : Grew a w.drew := ⟨h.os, h.output, h.size, h.block⟩
theorem Grew.set {a w : World} {b o : Nat} {v : Value} (h : Grew a w) (hb : a.heap.size ≤ b) : Grew a (w.setCell ⟨b, o, none⟩ v) :=
  ⟨h.os, h.output, by rw [World.size_setCell]; exact h.size, fun k hk => (Below.heap_setCell w ⟨b, o, none⟩ v k (by show k ≠ b; omega)).trans (h.block k hk)⟩

theorem set_blk (w : World) (Z i : Nat) (cs : Array Value) (T : TypeId) (v : Value) (h : w.heap[Z]? = some (.cells cs T (0, 0))) : (w.setCell ⟨Z, i, none⟩ v).heap[Z]? = some (.cells (cs.setIfInBounds i v) T (0, 0)) := by
  simp [World.setCell, Array.getElem?_modify, h]
/-- Three cells stored into a block of three. -/
theorem three_set (w : World) (r : Nat) (x y z a b c : Value) (T : TypeId) (h : w.heap[r]? = some (.cells #[x, y, z] T (0, 0))) :
    (((w.setCell ⟨r, 0, none⟩ a).setCell ⟨r, 1, none⟩ b).setCell ⟨r, 2, none⟩ c).heap[r]? = some (.cells #[a, b, c] T (0, 0)) := by
  have h1 := set_blk w r 0 #[x, y, z] T a h
  have h2 := set_blk _ r 1 _ T b h1
  have h3 := set_blk _ r 2 _ T c h2
  rw [h3]
  simp
theorem three_cells {w : World} {r : Nat} {a b c : Value} {T : TypeId} (h : w.heap[r]? = some (.cells #[a, b, c] T (0, 0))) : w.cell? ⟨r, 0, none⟩ = some a ∧ w.cell? ⟨r, 1, none⟩ = some b ∧ w.cell? ⟨r, 2, none⟩ = some c := by
  refine ⟨?_, ?_, ?_⟩ <;> simp [World.cell?, h]

theorem hexD_v (k : Nat) (h : k < 16) : Lib.Hx.v (hexD k) = k := by
  have : ∀ k : Fin 16, Lib.Hx.v (hexD k) = k := by decide
  exact this ⟨k, h⟩

/-- The six digits, without their sign. -/
def hexT (n : Nat) : List UInt8 := [hexD (n / 1048576 % 16), hexD (n / 65536 % 16), hexD (n / 4096 % 16), hexD (n / 256 % 16), hexD (n / 16 % 16), hexD (n % 16)]
theorem hexT_decode (n : Nat) (hn : n < 16777216) : Lib.Hx.decode (hexT n) = ([UInt8.ofNat (n / 65536), UInt8.ofNat (n / 256 % 256), UInt8.ofNat (n % 256)], .ok) := by
  unfold hexT
  have e : ∀ k, ¬ 15 < Lib.Hx.v (hexD (k % 16)) := fun k => by rw [hexD_v _ (Nat.mod_lt _ (by omega))]; omega
  rw [Lib.Hx.decode_two, if_neg (e _), if_neg (e _), Lib.Hx.decode_two, if_neg (e _), if_neg (e _), Lib.Hx.decode_two, if_neg (e _), if_neg (e _), Lib.Hx.decode_nil]
  rw [hexD_v _ (Nat.mod_lt _ (by omega)), hexD_v _ (Nat.mod_lt _ (by omega)), hexD_v _ (Nat.mod_lt _ (by omega)), hexD_v _ (Nat.mod_lt _ (by omega)), hexD_v _ (Nat.mod_lt _ (by omega)), hexD_v _ (Nat.mod_lt _ (by omega))]
  rw [show n / 1048576 % 16 * 16 + n / 65536 % 16 = n / 65536 by omega, show n / 4096 % 16 * 16 + n / 256 % 16 = n / 256 % 256 by omega, show n / 16 % 16 * 16 + n % 16 = n % 256 by omega]

set_option maxRecDepth 100000 in
set_option maxHeartbeats 800000 in
theorem hexcol_of (n : Nat) (hn : n < 16777216) (s : ByteArray) (hsz : s.size = 7) (h0 : s[0].toNat = 35) (hcut : s.extract 1 7 = ⟨(hexT n).toArray⟩) (w : World) (ev : Value) (hE : w.cell? ⟨20, 0, none⟩ = some ev) :
    Calls Tryz.prog 102 #[.string s] w fun e w' => e = .returned (.tuple #[.agg #[.float .f32 (c32 (n / 65536)), .float .f32 (c32 (n / 256 % 256)), .float .f32 (c32 (n % 256))], .nilIface]) ∧ Grew w w' := by
  have ra := fun w : World => run_float_arith (P := Tryz.prog) w .quo 95 .f32 _ _ _ (col_of (n / 65536) (by omega)).q32
  have rb := fun w : World => run_float_arith (P := Tryz.prog) w .quo 95 .f32 _ _ _ (col_of (n / 256 % 256) (by omega)).q32
  have rc := fun w : World => run_float_arith (P := Tryz.prog) w .quo 95 .f32 _ _ _ (col_of (n % 256) (by omega)).q32
  have DEC := Lib.hid (hexT_decode n hn)
  have CUT := Lib.hid hcut
  have HE := Lib.hid hE
  have l1 : n / 65536 < 256 := by omega
  have l2 : n / 256 % 256 < 256 := by omega
  have l3 : n % 256 < 256 := by omega
  have hts : (hexT n).length = 6 := rfl
  clear hE hn
  generalize c32 (n / 65536) = a3 at *
  generalize c32 (n / 256 % 256) = b3 at *
  generalize c32 (n % 256) = c3 at *
  go_enter Tryz.func102, Tryz.ntmps102
  go_wp2_with fail
  have hw2 : ((w.alloc (.cells #[.float .f32 0, .float .f32 0, .float .f32 0] 97)).alloc (.cells #[.float .f32 0, .float .f32 0, .float .f32 0] 97)).cell? ⟨20, 0, none⟩ = some ev := by
    have k := World.block_lt_of_cell? w _ HE.out
    rw [World.cell?_alloc_lt _ _ _ (by show 20 < _; simp; have : 20 < w.heap.size := k; omega), World.cell?_alloc_lt _ _ _ k]
    exact HE.out
  refine (Tryz.hex_DecodeString_owns ⟨(hexT n).toArray⟩ _ ev hw2 (by show 6 ≤ _; omega)).mono ?_
  rintro e w1 ⟨v, rfl, hown, hb⟩
  have hd : Lib.Hx.decode (⟨(hexT n).toArray⟩ : ByteArray).data.toList = ([UInt8.ofNat (n / 65536), UInt8.ofNat (n / 256 % 256), UInt8.ofNat (n % 256)], .ok) := DEC.out
  rw [hd] at hown ⊢
  rw [show Lib.Hx.errVal 229 ev Lib.Hx.Out.ok = .nilIface from rfl]
  have hrow : ∃ g cap, v = .slice (some ⟨g, 0, none⟩) 3 cap ∧ w1.cell? ⟨g, 0, none⟩ = some (.int .u8 ((n / 65536 : Nat) : Int)) ∧ w1.cell? ⟨g, 1, none⟩ = some (.int .u8 ((n / 256 % 256 : Nat) : Int)) ∧ w1.cell? ⟨g, 2, none⟩ = some (.int .u8 ((n % 256 : Nat) : Int)) ∧ 3 ≤ cap := by
    have u : ∀ k, k < 256 → (UInt8.ofNat k).toNat = k := fun k hk => by simp; omega
    rcases hown.2 with ⟨_, h0⟩ | ⟨g, cap, cur, hv, hb, hg, hn, _, _, ht⟩
    · simp at h0
    · have hl : cur.toList.take 3 = [Value.int .u8 ((n / 65536 : Nat) : Int), .int .u8 ((n / 256 % 256 : Nat) : Int), .int .u8 ((n % 256 : Nat) : Int)] := by
        have := ht
        simp only [List.map_cons, List.map_nil, u _ l1, u _ l2, u _ l3] at this
        simpa using this
      have c : ∀ i (x : Value), ([Value.int .u8 ((n / 65536 : Nat) : Int), .int .u8 ((n / 256 % 256 : Nat) : Int), .int .u8 ((n % 256 : Nat) : Int)] : List Value)[i]? = some x → w1.cell? ⟨g, i, none⟩ = some x := by
        intro i x hx
        rw [← hl] at hx
        have hi : i < 3 := by
          by_cases hi : i < 3
          · exact hi
          · rw [List.getElem?_eq_none (by simp; omega)] at hx; cases hx
        rw [List.getElem?_take_of_lt hi] at hx
        simp only [World.cell?, hg]
        simpa using hx
      exact ⟨g, cap, hv, c 0 _ rfl, c 1 _ rfl, c 2 _ rfl, hn⟩
  obtain ⟨g, cap, rfl, g0, g1, g2, hcap⟩ := hrow
  have hs2 : w.heap.size + 2 ≤ w1.heap.size := by have := hb.size; simp at this; omega
  have hz : w1.heap[w.heap.size]? = some (.cells #[.float .f32 0, .float .f32 0, .float .f32 0] 97 (0, 0)) := by
    rw [hb.block w.heap.size (by simp; omega), heap_alloc_old _ _ (by simp), heap_alloc_new]
  have z0 : w1.cell? ⟨w.heap.size, 0, none⟩ = some (.float .f32 0) := by simp [World.cell?, hz]
  have z1 : w1.cell? ⟨w.heap.size, 1, none⟩ = some (.float .f32 0) := by simp [World.cell?, hz]
  have z2 : w1.cell? ⟨w.heap.size, 2, none⟩ = some (.float .f32 0) := by simp [World.cell?, hz]
  have zf : ∀ i, w1.frozen? ⟨w.heap.size, i, none⟩ = false := by intro i; simp [World.frozen?, hz]
  have HB := Lib.hid hb
  have HZ := Lib.hid hz
  have HS2 := Lib.hid hs2
  clear hb hz hs2 hown hd hw2 DEC CUT hts
  generalize n / 65536 = na at *
  generalize n / 256 % 256 = nb at *
  generalize n % 256 = nc at *
  go_wp2_with fail
  go_region
  go_wp2_with fail
  have h3 := three_set w1 w.heap.size _ _ _ (.float .f32 a3) (.float .f32 b3) (.float .f32 c3) 97 HZ.out
  have hg : Grew w (((w1.setCell ⟨w.heap.size, 0, none⟩ (.float .f32 a3)).setCell ⟨w.heap.size, 1, none⟩ (.float .f32 b3)).setCell ⟨w.heap.size, 2, none⟩ (.float .f32 c3)) := by
    have k0 : Grew w w1 := (((Grew.refl w).alloc _).alloc _).trans (Grew.of HB.out)
    exact ((k0.set (Nat.le_refl _)).set (Nat.le_refl _)).set (Nat.le_refl _)
  generalize (((w1.setCell ⟨w.heap.size, 0, none⟩ (.float .f32 a3)).setCell ⟨w.heap.size, 1, none⟩ (.float .f32 b3)).setCell ⟨w.heap.size, 2, none⟩ (.float .f32 c3)) = w9 at h3 hg ⊢
  obtain ⟨q0, q1, q2⟩ := three_cells h3
  have hdc : ∀ (u : World) p, u.drew.cell? p = u.cell? p := fun _ _ => rfl
  refine bodyPost_ret (v := .tuple #[.agg #[.float .f32 a3, .float .f32 b3, .float .f32 c3], .nilIface]) (by simp [results, Tryz.results102, go_sem, hdc, q0, q1, q2]) rfl ⟨rfl, hg.drew⟩

theorem hexcol_any (n : Nat) (hn : n < 16777216) (w : World) (ev : Value) (hE : w.cell? ⟨20, 0, none⟩ = some ev) :
    Calls Tryz.prog 102 #[.string ⟨(hexL n).toArray⟩] w fun e w' => e = .returned (.tuple #[.agg #[.float .f32 (c32 (n / 65536)), .float .f32 (c32 (n / 256 % 256)), .float .f32 (c32 (n % 256))], .nilIface]) ∧ Grew w w' :=
  hexcol_of n hn _ rfl rfl (by apply ByteArray.ext; unfold hexL hexT; simp) w ev hE
end Go.Proofs.YtcmeaogbfecjkaaGreatDoor
