/- zzIndex (of one byte), in each of the packages that have it: the first place, or -1; nothing is turned. -/
import Derived.Test.YtcmeaogbfecjkaaGreatDoorA1
import Derived.Handy
import Derived.Lib.Hide
import Derived.Lib.Strings
namespace Go.Proofs.YtcmeaogbfecjkaaGreatDoor
open Go.RowKit

theorem one_cut (s : ByteArray) (k : Nat) (h : k < s.size) : (s.extract k (k + 1)).toList = [s[k]] := by
  rw [Lib.toList_data, ByteArray.data_extract, Array.toList_extract, List.extract_eq_take_drop]
  rw [show k + 1 - k = 1 by omega, List.drop_eq_getElem_cons (by simpa using h)]
  rfl

theorem at_split (s : ByteArray) (p r : List UInt8) (c : UInt8) (h : s.data.toList = p ++ c :: r) (hn : c ∉ p) :
    p.length < s.size ∧ (∀ hk : p.length < s.size, s[p.length] = c) ∧ ∀ k (_ : k < p.length) (hk : k < s.size), s[k] ≠ c := by
  have hsz : s.size = p.length + (r.length + 1) := by
    have := congrArg List.length h
    simpa using this
  refine ⟨by omega, fun hk => ?_, fun k h1 hk e => hn ?_⟩
  · have e : s[p.length] = s.data.toList[p.length]'(by simpa using hk) := rfl
    rw [e]; simp [h]
  · have e1 : s[k] = s.data.toList[k]'(by simpa using hk) := rfl
    rw [e1] at e
    have e2 : s.data.toList[k]'(by simpa using hk) = p[k] := by
      simp only [h]
      rw [List.getElem_append_left h1]
    rw [e2] at e
    rw [← e]; exact List.getElem_mem h1

set_option maxHeartbeats 400000 in
theorem index_at48 (s : ByteArray) (c : UInt8) (p r : List UInt8) (h : s.data.toList = p ++ c :: r) (hn : c ∉ p) (w : World) (hs : s.size ≤ 1000) :
    Calls Tryz.prog 48 #[.string s, .string ⟨#[c]⟩] w fun e w' => e = .returned (.int .i64 p.length) ∧ w = w' := by
  obtain ⟨hl, hat, hbe⟩ := at_split s p r c h hn
  have HAT := Lib.hid hat
  have HBE := Lib.hid hbe
  clear hat hbe h hn
  obtain ⟨n, rfl⟩ : ∃ n, n = p.length := ⟨_, rfl⟩
  generalize p.length = n at *
  go_enter Tryz.func48, Tryz.ntmps48
  go_wp2_with fail
  go_loop [5] (fun i => ∃ k : Nat, k ≤ n ∧ i = .int .i64 k) (fun i => s.size + 1 - (intOf i).toNat)
  case atStart => exact ⟨0, Nat.zero_le _, rfl⟩
  case round =>
    obtain ⟨k, hk, rfl⟩ := hrel
    by_cases hlt : k < n
    · have b : ((s.extract k (k + 1)).toList == [c]) = false := by
        rw [one_cut s k (by omega)]
        simpa using HBE.out k hlt (by omega)
      have hk1 : (k : Int) + 1 ≤ s.size := by omega
      go_wp2_with fail
      go_round
      case rel => exact ⟨k + 1, by omega, by go_num⟩
      case measure => simp [intOf]; omega
    · obtain rfl : k = n := by omega
      have b : ((s.extract k (k + 1)).toList == [c]) = true := by
        rw [one_cut s k hl, HAT.out hl]
        simp
      go_wp2_with fail
      go_ret
      exact ⟨rfl, rfl⟩

set_option maxHeartbeats 400000 in
theorem index_none48 (s : ByteArray) (c : UInt8) (h : c ∉ s.data.toList) (w : World) (hs : s.size ≤ 1000) :
    Calls Tryz.prog 48 #[.string s, .string ⟨#[c]⟩] w fun e w' => e = .returned (.int .i64 (-1)) ∧ w = w' := by
  have H := Lib.hid h
  clear h
  go_enter Tryz.func48, Tryz.ntmps48
  go_wp2_with fail
  go_loop [5] (fun i => ∃ k : Nat, k ≤ s.size ∧ i = .int .i64 k) (fun i => s.size + 1 - (intOf i).toNat)
  case atStart => exact ⟨0, Nat.zero_le _, rfl⟩
  case round =>
    obtain ⟨k, hk, rfl⟩ := hrel
    by_cases hlt : k < s.size
    · have b : ((s.extract k (k + 1)).toList == [c]) = false := by
        rw [one_cut s k hlt]
        have : s[k] ≠ c := fun e => H.out (by rw [← e]; exact List.getElem_mem (l := s.data.toList) (by simpa using hlt))
        simpa using this
      go_wp2_with fail
      go_round
      case rel => exact ⟨k + 1, by omega, by go_num⟩
      case measure => simp [intOf]; omega
    · go_wp2_with fail
      go_ret
      exact ⟨rfl, rfl⟩

set_option maxHeartbeats 400000 in
theorem index_at63 (s : ByteArray) (c : UInt8) (p r : List UInt8) (h : s.data.toList = p ++ c :: r) (hn : c ∉ p) (w : World) (hs : s.size ≤ 1000) :
    Calls Tryz.prog 63 #[.string s, .string ⟨#[c]⟩] w fun e w' => e = .returned (.int .i64 p.length) ∧ w = w' := by
  obtain ⟨hl, hat, hbe⟩ := at_split s p r c h hn
  have HAT := Lib.hid hat
  have HBE := Lib.hid hbe
  clear hat hbe h hn
  obtain ⟨n, rfl⟩ : ∃ n, n = p.length := ⟨_, rfl⟩
  generalize p.length = n at *
  go_enter Tryz.func63, Tryz.ntmps63
  go_wp2_with fail
  go_loop [5] (fun i => ∃ k : Nat, k ≤ n ∧ i = .int .i64 k) (fun i => s.size + 1 - (intOf i).toNat)
  case atStart => exact ⟨0, Nat.zero_le _, rfl⟩
  case round =>
    obtain ⟨k, hk, rfl⟩ := hrel
    by_cases hlt : k < n
    · have b : ((s.extract k (k + 1)).toList == [c]) = false := by
        rw [one_cut s k (by omega)]
        simpa using HBE.out k hlt (by omega)
      have hk1 : (k : Int) + 1 ≤ s.size := by omega
      go_wp2_with fail
      go_round
      case rel => exact ⟨k + 1, by omega, by go_num⟩
      case measure => simp [intOf]; omega
    · obtain rfl : k = n := by omega
      have b : ((s.extract k (k + 1)).toList == [c]) = true := by
        rw [one_cut s k hl, HAT.out hl]
        simp
      go_wp2_with fail
      go_ret
      exact ⟨rfl, rfl⟩

set_option maxHeartbeats 400000 in
theorem index_none63 (s : ByteArray) (c : UInt8) (h : c ∉ s.data.toList) (w : World) (hs : s.size ≤ 1000) :
    Calls Tryz.prog 63 #[.string s, .string ⟨#[c]⟩] w fun e w' => e = .returned (.int .i64 (-1)) ∧ w = w' := by
  have H := Lib.hid h
  clear h
  go_enter Tryz.func63, Tryz.ntmps63
  go_wp2_with fail
  go_loop [5] (fun i => ∃ k : Nat, k ≤ s.size ∧ i = .int .i64 k) (fun i => s.size + 1 - (intOf i).toNat)
  case atStart => exact ⟨0, Nat.zero_le _, rfl⟩
  case round =>
    obtain ⟨k, hk, rfl⟩ := hrel
    by_cases hlt : k < s.size
    · have b : ((s.extract k (k + 1)).toList == [c]) = false := by
        rw [one_cut s k hlt]
        have : s[k] ≠ c := fun e => H.out (by rw [← e]; exact List.getElem_mem (l := s.data.toList) (by simpa using hlt))
        simpa using this
      go_wp2_with fail
      go_round
      case rel => exact ⟨k + 1, by omega, by go_num⟩
      case measure => simp [intOf]; omega
    · go_wp2_with fail
      go_ret
      exact ⟨rfl, rfl⟩

set_option maxHeartbeats 400000 in
theorem index_at114 (s : ByteArray) (c : UInt8) (p r : List UInt8) (h : s.data.toList = p ++ c :: r) (hn : c ∉ p) (w : World) (hs : s.size ≤ 1000) :
    Calls Tryz.prog 114 #[.string s, .string ⟨#[c]⟩] w fun e w' => e = .returned (.int .i64 p.length) ∧ w = w' := by
  obtain ⟨hl, hat, hbe⟩ := at_split s p r c h hn
  have HAT := Lib.hid hat
  have HBE := Lib.hid hbe
  clear hat hbe h hn
  obtain ⟨n, rfl⟩ : ∃ n, n = p.length := ⟨_, rfl⟩
  generalize p.length = n at *
  go_enter Tryz.func114, Tryz.ntmps114
  go_wp2_with fail
  go_loop [5] (fun i => ∃ k : Nat, k ≤ n ∧ i = .int .i64 k) (fun i => s.size + 1 - (intOf i).toNat)
  case atStart => exact ⟨0, Nat.zero_le _, rfl⟩
  case round =>
    obtain ⟨k, hk, rfl⟩ := hrel
    by_cases hlt : k < n
    · have b : ((s.extract k (k + 1)).toList == [c]) = false := by
        rw [one_cut s k (by omega)]
        simpa using HBE.out k hlt (by omega)
      have hk1 : (k : Int) + 1 ≤ s.size := by omega
      go_wp2_with fail
      go_round
      case rel => exact ⟨k + 1, by omega, by go_num⟩
      case measure => simp [intOf]; omega
    · obtain rfl : k = n := by omega
      have b : ((s.extract k (k + 1)).toList == [c]) = true := by
        rw [one_cut s k hl, HAT.out hl]
        simp
      go_wp2_with fail
      go_ret
      exact ⟨rfl, rfl⟩

set_option maxHeartbeats 400000 in
theorem index_none114 (s : ByteArray) (c : UInt8) (h : c ∉ s.data.toList) (w : World) (hs : s.size ≤ 1000) :
    Calls Tryz.prog 114 #[.string s, .string ⟨#[c]⟩] w fun e w' => e = .returned (.int .i64 (-1)) ∧ w = w' := by
  have H := Lib.hid h
  clear h
  go_enter Tryz.func114, Tryz.ntmps114
  go_wp2_with fail
  go_loop [5] (fun i => ∃ k : Nat, k ≤ s.size ∧ i = .int .i64 k) (fun i => s.size + 1 - (intOf i).toNat)
  case atStart => exact ⟨0, Nat.zero_le _, rfl⟩
  case round =>
    obtain ⟨k, hk, rfl⟩ := hrel
    by_cases hlt : k < s.size
    · have b : ((s.extract k (k + 1)).toList == [c]) = false := by
        rw [one_cut s k hlt]
        have : s[k] ≠ c := fun e => H.out (by rw [← e]; exact List.getElem_mem (l := s.data.toList) (by simpa using hlt))
        simpa using this
      go_wp2_with fail
      go_round
      case rel => exact ⟨k + 1, by omega, by go_num⟩
      case measure => simp [intOf]; omega
    · go_wp2_with fail
      go_ret
      exact ⟨rfl, rfl⟩

end Go.Proofs.YtcmeaogbfecjkaaGreatDoor
