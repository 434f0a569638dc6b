/- A box's text: blanks around and between, of plain characters. -/
import Derived.Test.YtcmeaogbfecjkaaGreatDoorG3
import Derived.Laws.RangeString
namespace Go.Proofs.YtcmeaogbfecjkaaGreatDoor
open Go.RowKit

set_option maxRecDepth 100000 in
theorem blank_no (c : Int) (h1 : 33 ≤ c) (h2 : c < 128) (w : World) : Calls Tryz.prog 59 #[.int .i32 c] w fun e w' => e = .returned (.bool false) ∧ w = w' := by
  have e1 : (c == 9) = false := by simp; omega
  have e2 : (c == 10) = false := by simp; omega
  have e3 : (c == 11) = false := by simp; omega
  have e4 : (c == 12) = false := by simp; omega
  have e5 : (c == 13) = false := by simp; omega
  have e6 : (c == 32) = false := by simp; omega
  have e7 : (c == 133) = false := by simp; omega
  have e8 : (c == 160) = false := by simp; omega
  have e9 : (c == 5760) = false := by simp; omega
  have e10 : (c == 8232) = false := by simp; omega
  have e11 : (c == 8233) = false := by simp; omega
  have e12 : (c == 8239) = false := by simp; omega
  have e13 : (c == 8287) = false := by simp; omega
  have e14 : (c == 12288) = false := by simp; omega
  have e15 : decide (8192 ≤ c) = false := by simp; omega
  go_enter Tryz.func59, Tryz.ntmps59
  go_wp2_with fail
  go_ret
  exact ⟨rfl, rfl⟩

theorem blank_yes (w : World) : Calls Tryz.prog 59 #[.int .i32 32] w fun e w' => e = .returned (.bool true) ∧ w = w' := by
  go_enter Tryz.func59, Tryz.ntmps59
  go_wp2_with fail
  go_ret
  exact ⟨rfl, rfl⟩

theorem iter_grew (w : World) (s : ByteArray) (p : Nat) : Grew w (w.iter s p) := (Grew.refl w).alloc _

set_option maxRecDepth 100000 in
set_option maxHeartbeats 800000 in
theorem first_at (s : ByteArray) (hs : 0 < s.size) (h1 : 33 ≤ s[0].toNat) (h2 : s[0].toNat < 128) (w : World) :
    Calls Tryz.prog 82 #[.string s, .func (.func 59) #[] #[], .bool false] w fun e w' => e = .returned (.int .i64 0) ∧ Grew w w' := by
  have rn := fun ty => run_next_ascii (P := Tryz.prog) w s 0 ty hs h2
  have HB := Lib.hid (fun w => blank_no (s[0].toNat : Int) (by omega) (by omega) w)
  have HG := Lib.hid (iter_grew w s 1)
  go_enter Tryz.func82, Tryz.ntmps82
  go_wp2_with fail
  refine wp_loop_rounds 1 ?_
  rw [rounds_succ]
  go_wp2_with fail
  refine (HB.out _).mono ?_
  rintro e w' ⟨rfl, rfl⟩
  go_wp2_with fail
  go_ret
  exact ⟨rfl, HG.out⟩

set_option maxRecDepth 100000 in
/-- The last byte, one of the plain ones. -/
theorem last_rune (s : ByteArray) (n : Nat) (hn : s.size = n + 1) (hn2 : n ≤ 1000) (h2 : s[n].toNat < 128) (w : World) :
    Calls Tryz.prog 93 #[.string s] w fun e w' => e = .returned (.tuple #[.int .i32 (s[n].toNat : Int), .int .i64 1]) ∧ w = w' := by
  have g : (s[n].toNat : Int) < 128 := by omega
  go_enter Tryz.func93, Tryz.ntmps93
  go_wp2_with fail
  go_ret2
  exact ⟨rfl, rfl⟩

set_option maxRecDepth 100000 in
set_option maxHeartbeats 800000 in
theorem last_at (s : ByteArray) (n : Nat) (hn : s.size = n + 1) (hn2 : n ≤ 1000) (h1 : 33 ≤ s[n].toNat) (h2 : s[n].toNat < 128) (w : World) :
    Calls Tryz.prog 73 #[.string s, .func (.func 59) #[] #[], .bool false] w fun e w' => e = .returned (.int .i64 n) ∧ w = w' := by
  have HL := Lib.hid (fun w => last_rune s n hn hn2 h2 w)
  have HB := Lib.hid (fun w => blank_no (s[n].toNat : Int) (by omega) (by omega) w)
  have hx : s.extract 0 (n + 1) = s := by rw [← hn]; exact ByteArray.extract_zero_size
  go_enter Tryz.func73, Tryz.ntmps73
  go_wp2_with fail
  refine wp_loop_rounds 1 ?_
  rw [rounds_succ]
  go_wp2_with fail
  refine (HL.out _).mono ?_
  rintro e w' ⟨rfl, rfl⟩
  go_wp2_with fail
  refine (HB.out _).mono ?_
  rintro e w' ⟨rfl, rfl⟩
  go_wp2_with fail
  go_ret
  exact ⟨rfl, rfl⟩

set_option maxHeartbeats 800000 in
theorem left_trim (s : ByteArray) (hs : 0 < s.size) (a1 : 33 ≤ s[0].toNat) (a2 : s[0].toNat < 128) (w : World) :
    Calls Tryz.prog 58 #[.string s, .func (.func 59) #[] #[]] w fun e w' => e = .returned (.string s) ∧ Grew w w' := by
  have HF := Lib.hid (fun w => first_at s hs a1 a2 w)
  have hx : s.extract 0 s.size = s := ByteArray.extract_zero_size
  clear a1 a2
  go_enter Tryz.func58, Tryz.ntmps58
  go_wp2_with fail
  refine (HF.out _).mono ?_
  rintro e w' ⟨rfl, hg⟩
  have HG := Lib.hid hg
  clear hg
  go_wp2_with fail
  go_ret
  exact ⟨rfl, HG.out⟩

set_option maxRecDepth 100000 in
set_option maxHeartbeats 800000 in
theorem right_trim (s : ByteArray) (n : Nat) (hn : s.size = n + 1) (hn2 : n ≤ 1000) (z1 : 33 ≤ s[n].toNat) (z2 : s[n].toNat < 128) (w : World) :
    Calls Tryz.prog 51 #[.string s, .func (.func 59) #[] #[]] w fun e w' => e = .returned (.string s) ∧ w = w' := by
  have HL := Lib.hid (fun w => last_at s n hn hn2 z1 z2 w)
  have hx : s.extract 0 (n + 1) = s := by rw [← hn]; exact ByteArray.extract_zero_size
  have hsp : s.data.toList = s.data.toList.take n ++ [s[n]] := by
    have hl : s.data.toList.length = n + 1 := by rw [← hn]; simp
    have : s.data.toList[n]'(by omega) = s[n] := rfl
    rw [← this, ← List.take_succ_eq_append_getElem (by omega), ← hl, List.take_length]
  clear z1
  generalize s[n] = c at *
  have hc := cut_back s (s.data.toList.take n) [c] hsp
  have hl2 : (s.data.toList.take n).length = n := by
    have hl : s.data.toList.length = n + 1 := by rw [← hn]; simp
    rw [List.length_take]; omega
  rw [hl2, hn] at hc
  have HD := Lib.hid (fun w => Tryz.utf8_DecodeRuneInString_ascii ⟨[c].toArray⟩ c w rfl z2)
  clear z2 hsp hl2
  go_enter Tryz.func51, Tryz.ntmps51
  go_wp2_with fail
  refine (HL.out _).mono ?_
  rintro e w' ⟨rfl, rfl⟩
  go_wp2_with fail
  refine (HD.out _).mono ?_
  rintro e w' ⟨rfl, rfl⟩
  go_wp2_with fail
  go_ret
  exact ⟨rfl, rfl⟩

/-- zzTrimSpace where both ends are plain characters. -/
theorem trimB (s : ByteArray) (n : Nat) (hn : s.size = n + 1) (hn2 : n < 1000) (a1 : 33 ≤ s[0].toNat) (a2 : s[0].toNat < 128) (z1 : 33 ≤ s[n].toNat) (z2 : s[n].toNat < 128) (w : World) :
    Calls Tryz.prog 41 #[.string s] w fun e w' => e = .returned (.string s) ∧ Grew w w' := by
  have HF := Lib.hid (fun w => left_trim s (by omega) a1 a2 w)
  have HL := Lib.hid (fun w => right_trim s n hn (by omega) z1 z2 w)
  clear a1 a2 z1 z2
  go_enter Tryz.func41, Tryz.ntmps41
  go_wp2_with fail
  refine (HF.out _).mono ?_
  rintro e w' ⟨rfl, hg⟩
  have HG := Lib.hid hg
  clear hg
  go_wp2_with fail
  refine (HL.out _).mono ?_
  rintro e w' ⟨rfl, rfl⟩
  go_wp2_with fail
  go_ret
  exact ⟨rfl, HG.out⟩

set_option maxRecDepth 100000 in
set_option maxHeartbeats 800000 in
theorem first_at1 (s : ByteArray) (hs : 1 < s.size) (h0 : s[0].toNat = 32) (h1 : 33 ≤ s[1].toNat) (h2 : s[1].toNat < 128) (w : World) :
    Calls Tryz.prog 82 #[.string s, .func (.func 59) #[] #[], .bool false] w fun e w' => e = .returned (.int .i64 1) ∧ Grew w w' := by
  have rn := fun ty => run_next_ascii (P := Tryz.prog) w s 0 ty (by omega) (by omega)
  have rn1 := fun ty => run_next_ascii (P := Tryz.prog) w s 1 ty hs h2
  have HY := Lib.hid (fun w => blank_yes w)
  have HB := Lib.hid (fun w => blank_no (s[1].toNat : Int) (by omega) (by omega) w)
  have HG := Lib.hid (iter_grew w s 2)
  go_enter Tryz.func82, Tryz.ntmps82
  go_wp2_with fail
  refine wp_loop_rounds 2 ?_
  rw [rounds_succ]
  go_wp2_with fail
  refine (HY.out _).mono ?_
  rintro e w' ⟨rfl, rfl⟩
  go_wp2_with fail
  rw [rounds_succ]
  go_wp2_with fail
  refine (HB.out _).mono ?_
  rintro e w' ⟨rfl, rfl⟩
  go_wp2_with fail
  go_ret
  exact ⟨rfl, HG.out⟩

set_option maxHeartbeats 800000 in
theorem left_trim1 (s t : ByteArray) (hs : 1 < s.size) (ht : s.extract 1 s.size = t) (h0 : s[0].toNat = 32) (a1 : 33 ≤ s[1].toNat) (a2 : s[1].toNat < 128) (w : World) :
    Calls Tryz.prog 58 #[.string s, .func (.func 59) #[] #[]] w fun e w' => e = .returned (.string t) ∧ Grew w w' := by
  have HF := Lib.hid (fun w => first_at1 s hs h0 a1 a2 w)
  clear a1 a2 h0
  go_enter Tryz.func58, Tryz.ntmps58
  go_wp2_with fail
  refine (HF.out _).mono ?_
  rintro e w' ⟨rfl, hg⟩
  have HG := Lib.hid hg
  clear hg
  go_wp2_with fail
  go_ret
  exact ⟨rfl, HG.out⟩

/-- zzTrimSpace behind one blank. -/
theorem trimB1 (s t : ByteArray) (n : Nat) (hs : 1 < s.size) (ht : s.extract 1 s.size = t) (h0 : s[0].toNat = 32) (a1 : 33 ≤ s[1].toNat) (a2 : s[1].toNat < 128) (hn : t.size = n + 1) (hn2 : n < 1000) (z1 : 33 ≤ t[n].toNat) (z2 : t[n].toNat < 128) (w : World) :
    Calls Tryz.prog 41 #[.string s] w fun e w' => e = .returned (.string t) ∧ Grew w w' := by
  have HF := Lib.hid (fun w => left_trim1 s t hs ht h0 a1 a2 w)
  have HL := Lib.hid (fun w => right_trim t n hn (by omega) z1 z2 w)
  clear a1 a2 z1 z2 h0 ht
  go_enter Tryz.func41, Tryz.ntmps41
  go_wp2_with fail
  refine (HF.out _).mono ?_
  rintro e w' ⟨rfl, hg⟩
  have HG := Lib.hid hg
  clear hg
  go_wp2_with fail
  refine (HL.out _).mono ?_
  rintro e w' ⟨rfl, rfl⟩
  go_wp2_with fail
  go_ret
  exact ⟨rfl, HG.out⟩
end Go.Proofs.YtcmeaogbfecjkaaGreatDoor
