/- laws.tinted adds a background and a border to the settings. -/
import Derived.Test.YtcmeaogbfecjkaaGreatDoorG6
namespace Go.Proofs.YtcmeaogbfecjkaaGreatDoor
open Go.RowKit

theorem info36 : (Tryz.prog.info? 36).map (fun i => (i.zero, i.size, i.bytes)) = some (some (.agg #[.string ⟨#[]⟩, .string ⟨#[]⟩]), 2, 32) := by kernel_rfl

abbrev bgS : ByteArray := ⟨#[98, 103, 99, 111, 108, 111, 114]⟩
abbrev boS : ByteArray := ⟨#[98, 111, 114, 100, 101, 114]⟩
abbrev onS : ByteArray := ⟨#[111, 110]⟩

theorem two_new (w : World) (x y : Value) (T : TypeId) : ∀ (j : Nat) (u : Value), [x, y][j]? = some u → (w.alloc (.cells #[x, y] T)).cell? ((⟨w.heap.size, 0, none⟩ : Addr).add j) = some u := by
  intro j u hj
  match j, hj with
  | 0, hj =>
    have : x = u := by simpa using hj
    subst this
    simp [Addr.add]
  | 1, hj =>
    have : y = u := by simpa using hj
    subst this
    simp [Addr.add]
  | j + 2, hj => simp at hj

theorem tinted_00 (v : Value) (n : Int) (hn : n < 0) (w : World) : Calls Tryz.prog 9 #[v, .int .i64 n, .bool false] w fun e w' => e = .returned v ∧ w = w' := by
  go_enter Tryz.func9, Tryz.ntmps9
  go_wp2_with fail
  go_ret
  exact ⟨rfl, rfl⟩

set_option maxRecDepth 100000 in
set_option maxHeartbeats 800000 in
theorem tinted_01 (base : Nat) (v : Value) (k : Nat) (xs : List Value) (hk : k ≤ 5) (n : Int) (hn : n < 0) (w : World) (hb : base ≤ w.heap.size) (hown : w.ownsRow base 36 2 v k xs) :
    Calls Tryz.prog 9 #[v, .int .i64 n, .bool true] w fun e w' => ∃ v', e = .returned v' ∧ w'.ownsRow base 36 2 v' (k + 1) (xs ++ [.string boS, .string onS]) ∧ Kp base w w' := by
  obtain ⟨i0, hi, hz0, hz1, hz2⟩ := info_parts info36
  go_enter Tryz.func9, Tryz.ntmps9
  go_wp2_with (at_builtin; refine wpList_append_own _ rfl _ _ 33 rfl base 36 i0 (.agg #[.string ⟨#[]⟩, .string ⟨#[]⟩]) 2 32 Tryz.underlying33 hi hz0 hz1 hz2 rfl (by decide) _ _ _ rfl (hown.alloc _) ⟨w.heap.size, 0, none⟩ 1 1 [.string boS, .string onS] rfl rfl ?c1 ?c2 ?c3 ?c4 ?c5 ?_)
  case c1 => exact two_new _ _ _ _
  case c2 => simp [Value.oneCell']
  case c3 => unfold maxLen; omega
  case c4 => omega
  case c5 => simp; omega
  intro v' w1 hown' hgrow _
  go_wp2_with fail
  go_ret
  exact ⟨_, rfl, hown', Kp.of (((Below.refl base w).alloc hb _).grown hgrow (by simp; omega) (fun j hj => (hown.lt j hj).1))⟩

set_option maxRecDepth 100000 in
set_option maxHeartbeats 800000 in
theorem tinted_10 (base : Nat) (v : Value) (k : Nat) (xs : List Value) (hk : k ≤ 5) (n : Nat) (w : World) (hb : base ≤ w.heap.size) (hown : w.ownsRow base 36 2 v k xs) :
    Calls Tryz.prog 9 #[v, .int .i64 n, .bool false] w fun e w' => ∃ v', e = .returned v' ∧ w'.ownsRow base 36 2 v' (k + 1) (xs ++ [.string bgS, .string ⟨(hexL n).toArray⟩]) ∧ Kp base w w' := by
  obtain ⟨i0, hi, hz0, hz1, hz2⟩ := info_parts info36
  have HX := Lib.hid (fun w => hexes_any n w)
  generalize (⟨(hexL n).toArray⟩ : ByteArray) = t at *
  go_enter Tryz.func9, Tryz.ntmps9
  go_wp2_with fail
  refine (HX.out _).mono ?_
  rintro e w1 ⟨rfl, hal⟩
  have hown1 : w1.ownsRow base 36 2 v k xs := by unfold World.ownsRow at *; rw [hal.1]; exact hown
  have hb1 : base ≤ w1.heap.size := by rw [hal.1]; exact hb
  have HBEL := Lib.hid (Kp.alike (B := base) hal)
  clear hal hown hb
  go_wp2_with (at_builtin; refine wpList_append_own _ rfl _ _ 33 rfl base 36 i0 (.agg #[.string ⟨#[]⟩, .string ⟨#[]⟩]) 2 32 Tryz.underlying33 hi hz0 hz1 hz2 rfl (by decide) _ _ _ rfl (hown1.alloc _) ⟨w1.heap.size, 0, none⟩ 1 1 [.string bgS, .string t] rfl rfl ?c1 ?c2 ?c3 ?c4 ?c5 ?_)
  case c1 => exact two_new _ _ _ _
  case c2 => simp [Value.oneCell']
  case c3 => unfold maxLen; omega
  case c4 => omega
  case c5 => simp; omega
  intro v' w2 hown' hgrow _
  go_wp2_with fail
  go_ret
  exact ⟨_, rfl, hown', HBEL.out.trans (Kp.of (((Below.refl base w1).alloc hb1 _).grown hgrow (by simp; omega) (fun j hj => (hown1.lt j hj).1)))⟩

set_option maxRecDepth 100000 in
set_option maxHeartbeats 800000 in
theorem tinted_11 (base : Nat) (v : Value) (k : Nat) (xs : List Value) (hk : k ≤ 5) (n : Nat) (w : World) (hb : base ≤ w.heap.size) (hown : w.ownsRow base 36 2 v k xs) :
    Calls Tryz.prog 9 #[v, .int .i64 n, .bool true] w fun e w' => ∃ v', e = .returned v' ∧ w'.ownsRow base 36 2 v' (k + 1 + 1) (xs ++ [.string bgS, .string ⟨(hexL n).toArray⟩, .string boS, .string onS]) ∧ Kp base w w' := by
  obtain ⟨i0, hi, hz0, hz1, hz2⟩ := info_parts info36
  have HX := Lib.hid (fun w => hexes_any n w)
  generalize (⟨(hexL n).toArray⟩ : ByteArray) = t at *
  go_enter Tryz.func9, Tryz.ntmps9
  go_wp2_with fail
  refine (HX.out _).mono ?_
  rintro e w1 ⟨rfl, hal⟩
  have hown1 : w1.ownsRow base 36 2 v k xs := by unfold World.ownsRow at *; rw [hal.1]; exact hown
  have hb1 : base ≤ w1.heap.size := by rw [hal.1]; exact hb
  have HBEL := Lib.hid (Kp.alike (B := base) hal)
  clear hal hown hb
  go_wp2_with (at_builtin; refine wpList_append_own _ rfl _ _ 33 rfl base 36 i0 (.agg #[.string ⟨#[]⟩, .string ⟨#[]⟩]) 2 32 Tryz.underlying33 hi hz0 hz1 hz2 rfl (by decide) _ _ _ rfl (hown1.alloc _) ⟨w1.heap.size, 0, none⟩ 1 1 [.string bgS, .string t] rfl rfl ?c1 ?c2 ?c3 ?c4 ?c5 ?_)
  case c1 => exact two_new _ _ _ _
  case c2 => simp [Value.oneCell']
  case c3 => unfold maxLen; omega
  case c4 => omega
  case c5 => simp; omega
  intro v2 w2 hown2 hgrow _
  have hk2 : Kp base w1 w2 := Kp.of (((Below.refl base w1).alloc hb1 _).grown hgrow (by simp; omega) (fun j hj => (hown1.lt j hj).1))
  have hb2 : base ≤ w2.heap.size := by have := hk2.size; omega
  have HK2 := Lib.hid hk2
  clear hk2 hgrow hown1 hb1
  go_wp2_with (at_builtin; refine wpList_append_own _ rfl _ _ 33 rfl base 36 i0 (.agg #[.string ⟨#[]⟩, .string ⟨#[]⟩]) 2 32 Tryz.underlying33 hi hz0 hz1 hz2 rfl (by decide) _ _ _ rfl (hown2.alloc _) ⟨w2.heap.size, 0, none⟩ 1 1 [.string boS, .string onS] rfl rfl ?c1 ?c2 ?c3 ?c4 ?c5 ?_)
  case c1 => exact two_new _ _ _ _
  case c2 => simp [Value.oneCell']
  case c3 => unfold maxLen; omega
  case c4 => omega
  case c5 => simp; omega
  intro v3 w3 hown3 hgrow _
  go_wp2_with fail
  go_ret
  exact ⟨_, rfl, hown3, (HBEL.out.trans HK2.out).trans (Kp.of (((Below.refl base w2).alloc hb2 _).grown hgrow (by simp; omega) (fun j hj => (hown2.lt j hj).1)))⟩
end Go.Proofs.YtcmeaogbfecjkaaGreatDoor
