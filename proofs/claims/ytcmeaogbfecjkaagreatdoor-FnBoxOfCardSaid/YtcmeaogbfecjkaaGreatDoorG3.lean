/- ParseColor over a colour's six digits; the setting of a zoom's background. -/
import Derived.Test.YtcmeaogbfecjkaaGreatDoorG2
import Derived.Test.YtcmeaogbfecjkaaGreatDoorC9
namespace Go.Proofs.YtcmeaogbfecjkaaGreatDoor
open Go.RowKit

theorem Grew.kp {w w' : World} (h : Grew w w') : Kp w.heap.size w w' := ⟨h.os, h.output, h.size, h.block⟩
theorem Kp.grew {w w' : World} (h : Kp w.heap.size w w') : Grew w w' := ⟨h.os, h.output, h.size, h.block⟩

theorem hexL_no (n : Nat) (c : UInt8) (hc : (hexL n).all (fun b => decide (b ≠ c)) = true) : c ∉ hexL n := by
  intro hm
  have := List.all_eq_true.1 hc c hm
  simp at this
theorem hexD_range (k : Nat) (h : k < 16) : 48 ≤ (hexD k).toNat ∧ (hexD k).toNat ≤ 102 ∧ hexD k ≠ 58 := by
  have : ∀ k : Fin 16, 48 ≤ (hexD k).toNat ∧ (hexD k).toNat ≤ 102 ∧ hexD k ≠ 58 := by decide
  exact this ⟨k, h⟩
theorem hexL_mem (n : Nat) (b : UInt8) (hb : b ∈ hexL n) : b = 35 ∨ (48 ≤ b.toNat ∧ b.toNat ≤ 102 ∧ b ≠ 58) := by
  unfold hexL at hb
  simp only [List.mem_cons, List.mem_nil_iff, or_false] at hb
  rcases hb with h | h | h | h | h | h | h
  · exact .inl h
  all_goals
    subst h
    exact .inr (hexD_range _ (Nat.mod_lt _ (by omega)))
theorem hexL_without (n : Nat) (c : UInt8) (h1 : c ≠ 35) (h2 : c.toNat < 48 ∨ c = 58) : c ∉ hexL n := by
  intro hm
  rcases hexL_mem n c hm with h | h
  · exact h1 h
  · rcases h2 with h2 | h2
    · omega
    · exact h.2.2 h2

set_option maxRecDepth 100000 in
set_option maxHeartbeats 800000 in
theorem parseColor_of (s : ByteArray) (a3 b3 c3 : Nat) (hsz : s.size = 7) (h0 : s[0].toNat = 35) (w : World) (ev : Value) (hE : w.cell? ⟨20, 0, none⟩ = some ev)
    (hcol : ∀ w : World, w.cell? ⟨20, 0, none⟩ = some ev → Calls Tryz.prog 102 #[.string s] w fun e w' => e = .returned (.tuple #[.agg #[.float .f32 a3, .float .f32 b3, .float .f32 c3], .nilIface]) ∧ Grew w w')
    (hspl : ∀ w : World, Calls Tryz.prog 101 #[.string s, .string ⟨#[32]⟩] w fun e w' => ∃ v, e = .returned v ∧ w'.ownsRow w.heap.size 9 1 v 1 [.string s] ∧ Below w.heap.size w w') :
    Calls Tryz.prog 81 #[.string s] w fun e w' => e = .returned (.tuple #[.agg #[.float .f32 a3, .float .f32 b3, .float .f32 c3], .nilIface]) ∧ Grew w w' := by
  have HC := Lib.hid hcol
  have HSP := Lib.hid hspl
  have HE := Lib.hid hE
  clear hcol hspl hE
  go_enter Tryz.func81, Tryz.ntmps81
  go_wp2_with fail
  refine (HSP.out _).mono ?_
  rintro e w1 ⟨v, rfl, hown, hb⟩
  have hrow : ∃ g cap, v = .slice (some ⟨g, 0, none⟩) 1 cap ∧ w1.cell? ⟨g, 0, none⟩ = some (.string s) ∧ 1 ≤ cap := by
    rcases hown.2 with ⟨_, h0⟩ | ⟨g, cap, cur, hv, hb, hg, hn, _, _, ht⟩
    · simp at h0
    · have hx : cur.toList[0]? = some (.string s) := by
        have : (cur.toList.take 1)[0]? = some (Value.string s) := by rw [show cur.toList.take 1 = [.string s] by simpa using ht]; rfl
        rwa [List.getElem?_take_of_lt (by omega)] at this
      exact ⟨g, cap, hv, by simp only [World.cell?, hg]; simpa using hx, hn⟩
  obtain ⟨g, cap, rfl, g0, hcap⟩ := hrow
  have hs2 : w.heap.size + 2 ≤ w1.heap.size := by have := hb.size; simp at this; omega
  have hz : w1.heap[w.heap.size]? = some (.cells #[.float .f32 0, .float .f32 0, .float .f32 0] 97 (0, 0)) := by
    rw [hb.block w.heap.size (by simp; omega), heap_alloc_old _ _ (by simp), heap_alloc_new]
  have k20 := World.block_lt_of_cell? w _ HE.out
  have hE1 : w1.cell? ⟨20, 0, none⟩ = some ev := by
    have k : 20 < w.heap.size := k20
    rw [hb.cell (p := ⟨20, 0, none⟩) (by show 20 < _; simp; omega), World.cell?_alloc_lt _ _ _ (by show 20 < _; simp; omega), World.cell?_alloc_lt _ _ _ k]
    exact HE.out
  have HB := Lib.hid hb
  have HZ := Lib.hid hz
  have HS2 := Lib.hid hs2
  have HE1 := Lib.hid hE1
  clear hb hz hs2 hown hE1 k20 HE HSP
  go_wp2_with fail
  refine (HC.out _ HE1.out).mono ?_
  rintro e w2 ⟨rfl, hk2⟩
  have hz2 : w2.heap[w.heap.size]? = some (.cells #[.float .f32 0, .float .f32 0, .float .f32 0] 97 (0, 0)) := by
    rw [hk2.block w.heap.size (by have := HS2.out; omega)]; exact HZ.out
  have z0 : w2.cell? ⟨w.heap.size, 0, none⟩ = some (.float .f32 0) := by simp [World.cell?, hz2]
  have z1 : w2.cell? ⟨w.heap.size, 1, none⟩ = some (.float .f32 0) := by simp [World.cell?, hz2]
  have z2 : w2.cell? ⟨w.heap.size, 2, none⟩ = some (.float .f32 0) := by simp [World.cell?, hz2]
  have zf : ∀ i, w2.frozen? ⟨w.heap.size, i, none⟩ = false := by intro i; simp [World.frozen?, hz2]
  have HK2 := Lib.hid hk2
  have HZ2 := Lib.hid hz2
  clear hk2 hz2 HC HE1 g0
  go_wp2_with fail
  have h3 := three_set w2 w.heap.size _ _ _ (.float .f32 a3) (.float .f32 b3) (.float .f32 c3) 97 HZ2.out
  have hg : Grew w (((w2.setCell ⟨w.heap.size, 0, none⟩ (.float .f32 a3)).setCell ⟨w.heap.size, 1, none⟩ (.float .f32 b3)).setCell ⟨w.heap.size, 2, none⟩ (.float .f32 c3)) := by
    have k0 : Grew w w2 := ((((Grew.refl w).alloc _).alloc _).trans (Grew.of HB.out)).trans HK2.out
    exact ((k0.set (Nat.le_refl _)).set (Nat.le_refl _)).set (Nat.le_refl _)
  generalize (((w2.setCell ⟨w.heap.size, 0, none⟩ (.float .f32 a3)).setCell ⟨w.heap.size, 1, none⟩ (.float .f32 b3)).setCell ⟨w.heap.size, 2, none⟩ (.float .f32 c3)) = w9 at h3 hg ⊢
  obtain ⟨q0, q1, q2⟩ := three_cells h3
  refine bodyPost_ret (v := .tuple #[.agg #[.float .f32 a3, .float .f32 b3, .float .f32 c3], .nilIface]) (by simp [results, Tryz.results81, go_sem, q0, q1, q2]) rfl ⟨rfl, hg⟩

theorem parseColor_any (n : Nat) (hn : n < 16777216) (w : World) (ev : Value) (hE : w.cell? ⟨20, 0, none⟩ = some ev) :
    Calls Tryz.prog 81 #[.string ⟨(hexL n).toArray⟩] w fun e w' => e = .returned (.tuple #[.agg #[.float .f32 (c32 (n / 65536)), .float .f32 (c32 (n / 256 % 256)), .float .f32 (c32 (n % 256))], .nilIface]) ∧ Grew w w' :=
  parseColor_of _ _ _ _ rfl rfl w ev hE (fun w hE => hexcol_any n hn w ev hE)
    (fun w => split101 32 [hexL n] (by simp) (by simpa using hexL_without n 32 (by decide) (by decide)) w (by show 7 ≤ 1000; omega) (by simp))

/-- A colour as it lies in memory. -/
def CAt (w : World) (c a3 b3 c3 : Nat) : Prop := w.heap[c]? = some (.cells #[.float .f32 a3, .float .f32 b3, .float .f32 c3] 97 (0, 0))
theorem CAt.kp {w w' : World} {c a b d : Nat} (h : CAt w c a b d) (hk : Kp w.heap.size w w') : CAt w' c a b d := by
  unfold CAt at *
  rw [hk.block c (Array.getElem?_eq_some_iff.1 h).1]; exact h

set_option maxHeartbeats 800000 in
/-- bgcolor:#rrggbb. -/
theorem bg_any (n : Nat) (hn : n < 16777216) (w : World) (ev : Value) (hE : w.cell? ⟨20, 0, none⟩ = some ev) (Z F H V : Nat) (U : Int) (b : Bool) (c : Value) (hz : ZAt w Z F H V U b c) :
    Calls Tryz.prog 56 #[.string ⟨(hexL n).toArray⟩, .pointer (some ⟨Z, 0, none⟩)] w fun e w' => e = .returned .nilIface ∧ ∃ k, w.heap.size ≤ k ∧ ZAt w' Z F H V U b (.pointer (some ⟨k, 0, none⟩)) ∧ CAt w' k (c32 (n / 65536)) (c32 (n / 256 % 256)) (c32 (n % 256)) ∧ Kx Z w.heap.size w w' := by
  have hcol := parseColor_any n hn w ev hE
  have HC := Lib.hid hcol
  have HZ := Lib.hid hz
  clear hcol hz hE
  generalize c32 (n / 65536) = a3 at *
  generalize c32 (n / 256 % 256) = b3 at *
  generalize c32 (n % 256) = c3 at *
  go_enter Tryz.func56, Tryz.ntmps56
  go_wp2_with fail
  refine HC.out.mono ?_
  rintro e w1 ⟨rfl, hk⟩
  have hz1 : ZAt w1 Z F H V U b c := HZ.out.kp hk.kp
  have lt1 : Z < w1.heap.size := (Array.getElem?_eq_some_iff.1 hz1).1
  have hz2 : ZAt (w1.alloc (.cells #[.float .f32 a3, .float .f32 b3, .float .f32 c3] 97)) Z F H V U b c := by
    unfold ZAt at *
    rw [heap_alloc_old _ _ lt1]; exact hz1
  have p5 := hz2.cell 5 _ rfl
  have fr := hz2.free 5
  have hne : ¬ w1.heap.size = Z := by omega
  have HK := Lib.hid hk
  have HZ2 := Lib.hid hz2
  have HLT := Lib.hid lt1
  clear hk hz1 hz2 HC HZ lt1
  go_wp2_with fail
  go_ret
  refine ⟨rfl, w1.heap.size, HK.out.size, ?_, ?_, ?_⟩
  · have := set_block _ Z 5 _ 69 (.pointer (some ⟨w1.heap.size, 0, none⟩)) HZ2.out
    unfold ZAt
    rw [this]
    simp
  · unfold CAt
    rw [Below.heap_setCell _ _ _ _ (by show w1.heap.size ≠ Z; exact hne), heap_alloc_new]
  · exact (Kx.of (HK.out.kp.alloc HK.out.size _)).trans Kx.set
end Go.Proofs.YtcmeaogbfecjkaaGreatDoor
