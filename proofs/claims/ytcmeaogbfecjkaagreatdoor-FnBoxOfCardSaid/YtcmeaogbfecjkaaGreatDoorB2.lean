/- strconv's lower and readFloat at plain decimals of at most nine signs. -/
import Derived.Test.YtcmeaogbfecjkaaGreatDoorB1
import Derived.Test.YtcmeaogbfecjkaaGreatDoorProg
import Derived.WalkKit
import Derived.WalkSpells
import Derived.WalkLawsBesides
import Derived.Handy
namespace Go.Proofs.YtcmeaogbfecjkaaGreatDoor
open Go.RowKit

set_option maxHeartbeats 400000 in
theorem lower_dig (c : Int) (w : World) (h : 46 ≤ c) (h1 : c ≤ 57) :
    Calls Tryz.prog 143 #[.int .u8 c] w fun e w' => e = .returned (.int .u8 c) ∧ w = w' := by
  have hb : bits .or .u8 c 32 = c := by
    have : ∀ n : Fin 12, bits .or .u8 ((n : Int) + 46) 32 = (n : Int) + 46 := by decide +kernel
    have h2 := this ⟨(c - 46).toNat, by omega⟩
    have h3 : (((⟨(c - 46).toNat, by omega⟩ : Fin 12).val : Nat) : Int) + 46 = c := by dsimp only; omega
    rw [h3] at h2; exact h2
  go_enter Tryz.func143, Tryz.ntmps143
  go_wp2_with fail
  go_ret
  exact ⟨by simp, rfl⟩

set_option maxRecDepth 100000 in
set_option maxHeartbeats 3200000 in
theorem readFloat_000 (s : ByteArray) (fin : Rf) (w : World) (hs : 0 < s.size) (hs9 : s.size ≤ 9) (hc0 : 48 ≤ (s[0].toNat : Int)) (hc1 : (s[0].toNat : Int) ≤ 57)
    (hI : RfInv s.data.toList fin 0 rf0) (hdig : fin.dig = true) (hdot : fin.dot = false) (hm : ¬ fin.mant = 0) (ha : ¬ 2 < s.size) :
    Calls Tryz.prog 127 #[.string s] w fun e w' => e = .returned (.tuple #[.int .u64 fin.mant, .int .i64 (0), .bool false, .bool false, .bool false, .int .i64 s.size, .bool true]) ∧ w = w' := by
  have b1 : ((s[0].toNat : Int) == 43) = false := by rw [beq_eq_false_iff_ne]; omega
  have b2 : ((s[0].toNat : Int) == 45) = false := by rw [beq_eq_false_iff_ne]; omega
  have hne : ¬ s = ByteArray.empty := fun e => by subst e; simp at hs
  go_enter Tryz.func127, Tryz.ntmps127
  go_wp2_with fail
  go_step3
  go_wp2_with (go_at_call 143; refine (lower_dig _ _ (by omega) (by omega)).mono ?_; rintro e w' ⟨rfl, rfl⟩)
  go_step3
  go_wp2_with fail
  go_loop [2, 5, 7, 9, 13, 14, 15, 16, 17] (fun m t i u sd sg nd nm dp => ∃ (k xm xn : Nat) (xd : Int) (xs xg : Bool), RfInv s.data.toList fin k ⟨xm, xn, xd, xs, xg⟩ ∧ k ≤ s.size ∧ m = .int .u64 (xm : Int) ∧ t = .bool false ∧ i = .int .i64 k ∧ u = .bool false ∧ sd = .bool xs ∧ sg = .bool xg ∧ nd = .int .i64 xn ∧ nm = .int .i64 xn ∧ dp = .int .i64 xd) (fun _ _ i _ _ _ _ _ _ => s.size - (intOf i).toNat)
  case atStart => exact ⟨0, 0, 0, 0, false, false, hI, by omega, rfl, rfl, rfl, rfl, rfl, rfl, rfl, rfl, rfl⟩
  case round =>
    obtain ⟨k, xm, xn, xd, xs, xg, hi, hk, rfl, rfl, rfl, rfl, rfl, rfl, rfl, rfl, rfl⟩ := hrel
    by_cases hlt : k < s.size
    · obtain ⟨hi2, hcc⟩ := hi.next (drop_at s k hlt)
      have hm9 : xm < 1000000000 := hi.mant_lt (by omega)
      have hnd : xn ≤ k := hi.nd
      have hlo : -(k : Int) ≤ xd := hi.lo
      have hhi : xd ≤ k := hi.hi
      have HI : Hid (RfInv s.data.toList fin (k + 1) (rfStep ⟨xm, xn, xd, xs, xg⟩ s[k])) := hi2
      clear hi hi2 hI hc0 hc1  
      rcases hcc with ⟨h46, hxd⟩ | ⟨h48, h57⟩
      · obtain rfl : xs = false := hxd
        have g46 : (s[k].toNat : Int) = 46 := by omega
        have H46 : Hid (s[k].toNat = 46) := h46
        clear h46
        go_wp2_with fail
        go_round
        case rel => exact ⟨k + 1, _, _, _, _, _, by have h := HI.out; rw [rf_dot H46.out] at h; exact h, by omega, rfl, rfl, by go_num, rfl, rfl, rfl, rfl, rfl, rfl⟩
        case measure => simp [intOf]; omega
      · have g48 : 48 ≤ (s[k].toNat : Int) := by omega
        have g57 : (s[k].toNat : Int) ≤ 57 := by omega
        by_cases hz48 : s[k].toNat = 48
        · have g : (s[k].toNat : Int) = 48 := by omega
          have H48 : Hid (s[k].toNat = 48) := hz48
          clear hz48 h48 h57 g48 g57
          by_cases hn0 : xn = 0
          · have HN : Hid (xn = 0) := hn0
            go_wp2_with fail
            go_round
            case rel => exact ⟨k + 1, _, _, _, _, _, by have h := HI.out; rw [rf_zero H48.out HN.out] at h; exact h, by omega, rfl, rfl, by go_num, rfl, rfl, rfl, by go_num, by go_num, rfl⟩
            case measure => simp [intOf]; omega
          · have HD : Hid (rfStep ⟨xm, xn, xd, xs, xg⟩ s[k] = ⟨xm * 10 + (s[k].toNat - 48), xn + 1, xd, xs, true⟩) := rf_dig (by have := H48.out; omega) (fun h => hn0 h.2)
            have hn1 : 1 ≤ (xn : Int) := by omega
            clear hn0
            have gb : ((xn : Int) == 0) = false := by rw [beq_eq_false_iff_ne]; omega
            go_wp2_with fail
            go_round
            case rel => exact ⟨k + 1, _, _, _, _, _, by have h := HI.out; rw [HD.out] at h; exact h, by omega, by have := H48.out; go_num, rfl, by go_num, rfl, rfl, rfl, by go_num, by go_num, rfl⟩
            case measure => simp [intOf]; omega
        · have HD : Hid (rfStep ⟨xm, xn, xd, xs, xg⟩ s[k] = ⟨xm * 10 + (s[k].toNat - 48), xn + 1, xd, xs, true⟩) := rf_dig h48 (fun h => hz48 h.1)
          have gne : ¬ (s[k].toNat : Int) = 48 := by omega
          go_wp2_with fail
          go_round
          case rel => first | exact ⟨k + 1, _, _, _, _, _, by have h := HI.out; rw [HD.out] at h; exact h, by omega, by skip; go_num, rfl, by go_num, rfl, rfl, rfl, by go_num, by go_num, rfl⟩ | (refine ⟨trivial, ?_⟩; (repeat apply Exists.intro); exact ⟨⟨k + 1, _, _, _, _, _, by have h := HI.out; rw [HD.out] at h; exact h, by omega, by skip; go_num, rfl, by go_num, rfl, rfl, rfl, by go_num, by go_num, rfl⟩, rfl⟩)
          case measure => simp [intOf]; omega
    · obtain rfl : k = s.size := by omega
      have hx := hi.done (by simp)
      have hnd : xn ≤ s.size := hi.nd
      have hlo : -(s.size : Int) ≤ xd := hi.lo
      have hhi : xd ≤ s.size := hi.hi
      subst hx
      obtain rfl : xg = true := hdig
      obtain rfl : xs = false := hdot
      have hmz : ¬ (xm : Int) = 0 := fun h => hm (by show xm = 0; omega)
      clear hi hI hm
      go_wp2_with fail
      refine bodyPost_ret (v := .tuple #[.int .u64 xm, .int .i64 (0), .bool false, .bool false, .bool false, .int .i64 s.size, .bool true]) (by simp [results, Tryz.results127, go_sem]) rfl ⟨rfl, rfl⟩

set_option maxRecDepth 100000 in
set_option maxHeartbeats 3200000 in
theorem readFloat_001 (s : ByteArray) (fin : Rf) (w : World) (hs : 0 < s.size) (hs9 : s.size ≤ 9) (hc0 : 48 ≤ (s[0].toNat : Int)) (hc1 : (s[0].toNat : Int) ≤ 57)
    (hI : RfInv s.data.toList fin 0 rf0) (hdig : fin.dig = true) (hdot : fin.dot = true) (hm : ¬ fin.mant = 0) (ha : ¬ 2 < s.size) :
    Calls Tryz.prog 127 #[.string s] w fun e w' => e = .returned (.tuple #[.int .u64 fin.mant, .int .i64 (fin.dp - fin.nd), .bool false, .bool false, .bool false, .int .i64 s.size, .bool true]) ∧ w = w' := by
  have b1 : ((s[0].toNat : Int) == 43) = false := by rw [beq_eq_false_iff_ne]; omega
  have b2 : ((s[0].toNat : Int) == 45) = false := by rw [beq_eq_false_iff_ne]; omega
  have hne : ¬ s = ByteArray.empty := fun e => by subst e; simp at hs
  go_enter Tryz.func127, Tryz.ntmps127
  go_wp2_with fail
  go_step3
  go_wp2_with (go_at_call 143; refine (lower_dig _ _ (by omega) (by omega)).mono ?_; rintro e w' ⟨rfl, rfl⟩)
  go_step3
  go_wp2_with fail
  go_loop [2, 5, 7, 9, 13, 14, 15, 16, 17] (fun m t i u sd sg nd nm dp => ∃ (k xm xn : Nat) (xd : Int) (xs xg : Bool), RfInv s.data.toList fin k ⟨xm, xn, xd, xs, xg⟩ ∧ k ≤ s.size ∧ m = .int .u64 (xm : Int) ∧ t = .bool false ∧ i = .int .i64 k ∧ u = .bool false ∧ sd = .bool xs ∧ sg = .bool xg ∧ nd = .int .i64 xn ∧ nm = .int .i64 xn ∧ dp = .int .i64 xd) (fun _ _ i _ _ _ _ _ _ => s.size - (intOf i).toNat)
  case atStart => exact ⟨0, 0, 0, 0, false, false, hI, by omega, rfl, rfl, rfl, rfl, rfl, rfl, rfl, rfl, rfl⟩
  case round =>
    obtain ⟨k, xm, xn, xd, xs, xg, hi, hk, rfl, rfl, rfl, rfl, rfl, rfl, rfl, rfl, rfl⟩ := hrel
    by_cases hlt : k < s.size
    · obtain ⟨hi2, hcc⟩ := hi.next (drop_at s k hlt)
      have hm9 : xm < 1000000000 := hi.mant_lt (by omega)
      have hnd : xn ≤ k := hi.nd
      have hlo : -(k : Int) ≤ xd := hi.lo
      have hhi : xd ≤ k := hi.hi
      have HI : Hid (RfInv s.data.toList fin (k + 1) (rfStep ⟨xm, xn, xd, xs, xg⟩ s[k])) := hi2
      clear hi hi2 hI hc0 hc1  
      rcases hcc with ⟨h46, hxd⟩ | ⟨h48, h57⟩
      · obtain rfl : xs = false := hxd
        have g46 : (s[k].toNat : Int) = 46 := by omega
        have H46 : Hid (s[k].toNat = 46) := h46
        clear h46
        go_wp2_with fail
        go_round
        case rel => exact ⟨k + 1, _, _, _, _, _, by have h := HI.out; rw [rf_dot H46.out] at h; exact h, by omega, rfl, rfl, by go_num, rfl, rfl, rfl, rfl, rfl, rfl⟩
        case measure => simp [intOf]; omega
      · have g48 : 48 ≤ (s[k].toNat : Int) := by omega
        have g57 : (s[k].toNat : Int) ≤ 57 := by omega
        by_cases hz48 : s[k].toNat = 48
        · have g : (s[k].toNat : Int) = 48 := by omega
          have H48 : Hid (s[k].toNat = 48) := hz48
          clear hz48 h48 h57 g48 g57
          by_cases hn0 : xn = 0
          · have HN : Hid (xn = 0) := hn0
            go_wp2_with fail
            go_round
            case rel => exact ⟨k + 1, _, _, _, _, _, by have h := HI.out; rw [rf_zero H48.out HN.out] at h; exact h, by omega, rfl, rfl, by go_num, rfl, rfl, rfl, by go_num, by go_num, rfl⟩
            case measure => simp [intOf]; omega
          · have HD : Hid (rfStep ⟨xm, xn, xd, xs, xg⟩ s[k] = ⟨xm * 10 + (s[k].toNat - 48), xn + 1, xd, xs, true⟩) := rf_dig (by have := H48.out; omega) (fun h => hn0 h.2)
            have hn1 : 1 ≤ (xn : Int) := by omega
            clear hn0
            have gb : ((xn : Int) == 0) = false := by rw [beq_eq_false_iff_ne]; omega
            go_wp2_with fail
            go_round
            case rel => exact ⟨k + 1, _, _, _, _, _, by have h := HI.out; rw [HD.out] at h; exact h, by omega, by have := H48.out; go_num, rfl, by go_num, rfl, rfl, rfl, by go_num, by go_num, rfl⟩
            case measure => simp [intOf]; omega
        · have HD : Hid (rfStep ⟨xm, xn, xd, xs, xg⟩ s[k] = ⟨xm * 10 + (s[k].toNat - 48), xn + 1, xd, xs, true⟩) := rf_dig h48 (fun h => hz48 h.1)
          have gne : ¬ (s[k].toNat : Int) = 48 := by omega
          go_wp2_with fail
          go_round
          case rel => first | exact ⟨k + 1, _, _, _, _, _, by have h := HI.out; rw [HD.out] at h; exact h, by omega, by skip; go_num, rfl, by go_num, rfl, rfl, rfl, by go_num, by go_num, rfl⟩ | (refine ⟨trivial, ?_⟩; (repeat apply Exists.intro); exact ⟨⟨k + 1, _, _, _, _, _, by have h := HI.out; rw [HD.out] at h; exact h, by omega, by skip; go_num, rfl, by go_num, rfl, rfl, rfl, by go_num, by go_num, rfl⟩, rfl⟩)
          case measure => simp [intOf]; omega
    · obtain rfl : k = s.size := by omega
      have hx := hi.done (by simp)
      have hnd : xn ≤ s.size := hi.nd
      have hlo : -(s.size : Int) ≤ xd := hi.lo
      have hhi : xd ≤ s.size := hi.hi
      subst hx
      obtain rfl : xg = true := hdig
      obtain rfl : xs = true := hdot
      have hmz : ¬ (xm : Int) = 0 := fun h => hm (by show xm = 0; omega)
      clear hi hI hm
      go_wp2_with fail
      refine bodyPost_ret (v := .tuple #[.int .u64 xm, .int .i64 (xd - xn), .bool false, .bool false, .bool false, .int .i64 s.size, .bool true]) (by simp [results, Tryz.results127, go_sem]) rfl ⟨rfl, rfl⟩

set_option maxRecDepth 100000 in
set_option maxHeartbeats 3200000 in
theorem readFloat_010 (s : ByteArray) (fin : Rf) (w : World) (hs : 0 < s.size) (hs9 : s.size ≤ 9) (hc0 : 48 ≤ (s[0].toNat : Int)) (hc1 : (s[0].toNat : Int) ≤ 57)
    (hI : RfInv s.data.toList fin 0 rf0) (hdig : fin.dig = true) (hdot : fin.dot = false) (hm : ¬ fin.mant = 0) (ha : 2 < s.size) (hz : ¬ (s[0].toNat : Int) = 48) :
    Calls Tryz.prog 127 #[.string s] w fun e w' => e = .returned (.tuple #[.int .u64 fin.mant, .int .i64 (0), .bool false, .bool false, .bool false, .int .i64 s.size, .bool true]) ∧ w = w' := by
  have b1 : ((s[0].toNat : Int) == 43) = false := by rw [beq_eq_false_iff_ne]; omega
  have b2 : ((s[0].toNat : Int) == 45) = false := by rw [beq_eq_false_iff_ne]; omega
  have b3 : ((s[0].toNat : Int) == 48) = false := by rw [beq_eq_false_iff_ne]; omega
  have hne : ¬ s = ByteArray.empty := fun e => by subst e; simp at hs
  go_enter Tryz.func127, Tryz.ntmps127
  go_wp2_with fail
  go_step3
  go_wp2_with (go_at_call 143; refine (lower_dig _ _ (by omega) (by omega)).mono ?_; rintro e w' ⟨rfl, rfl⟩)
  go_step3
  go_wp2_with fail
  go_loop [2, 5, 7, 9, 13, 14, 15, 16, 17] (fun m t i u sd sg nd nm dp => ∃ (k xm xn : Nat) (xd : Int) (xs xg : Bool), RfInv s.data.toList fin k ⟨xm, xn, xd, xs, xg⟩ ∧ k ≤ s.size ∧ m = .int .u64 (xm : Int) ∧ t = .bool false ∧ i = .int .i64 k ∧ u = .bool false ∧ sd = .bool xs ∧ sg = .bool xg ∧ nd = .int .i64 xn ∧ nm = .int .i64 xn ∧ dp = .int .i64 xd) (fun _ _ i _ _ _ _ _ _ => s.size - (intOf i).toNat)
  case atStart => exact ⟨0, 0, 0, 0, false, false, hI, by omega, rfl, rfl, rfl, rfl, rfl, rfl, rfl, rfl, rfl⟩
  case round =>
    obtain ⟨k, xm, xn, xd, xs, xg, hi, hk, rfl, rfl, rfl, rfl, rfl, rfl, rfl, rfl, rfl⟩ := hrel
    by_cases hlt : k < s.size
    · obtain ⟨hi2, hcc⟩ := hi.next (drop_at s k hlt)
      have hm9 : xm < 1000000000 := hi.mant_lt (by omega)
      have hnd : xn ≤ k := hi.nd
      have hlo : -(k : Int) ≤ xd := hi.lo
      have hhi : xd ≤ k := hi.hi
      have HI : Hid (RfInv s.data.toList fin (k + 1) (rfStep ⟨xm, xn, xd, xs, xg⟩ s[k])) := hi2
      clear hi hi2 hI hc0 hc1  hz
      rcases hcc with ⟨h46, hxd⟩ | ⟨h48, h57⟩
      · obtain rfl : xs = false := hxd
        have g46 : (s[k].toNat : Int) = 46 := by omega
        have H46 : Hid (s[k].toNat = 46) := h46
        clear h46
        go_wp2_with fail
        go_round
        case rel => exact ⟨k + 1, _, _, _, _, _, by have h := HI.out; rw [rf_dot H46.out] at h; exact h, by omega, rfl, rfl, by go_num, rfl, rfl, rfl, rfl, rfl, rfl⟩
        case measure => simp [intOf]; omega
      · have g48 : 48 ≤ (s[k].toNat : Int) := by omega
        have g57 : (s[k].toNat : Int) ≤ 57 := by omega
        by_cases hz48 : s[k].toNat = 48
        · have g : (s[k].toNat : Int) = 48 := by omega
          have H48 : Hid (s[k].toNat = 48) := hz48
          clear hz48 h48 h57 g48 g57
          by_cases hn0 : xn = 0
          · have HN : Hid (xn = 0) := hn0
            go_wp2_with fail
            go_round
            case rel => exact ⟨k + 1, _, _, _, _, _, by have h := HI.out; rw [rf_zero H48.out HN.out] at h; exact h, by omega, rfl, rfl, by go_num, rfl, rfl, rfl, by go_num, by go_num, rfl⟩
            case measure => simp [intOf]; omega
          · have HD : Hid (rfStep ⟨xm, xn, xd, xs, xg⟩ s[k] = ⟨xm * 10 + (s[k].toNat - 48), xn + 1, xd, xs, true⟩) := rf_dig (by have := H48.out; omega) (fun h => hn0 h.2)
            have hn1 : 1 ≤ (xn : Int) := by omega
            clear hn0
            have gb : ((xn : Int) == 0) = false := by rw [beq_eq_false_iff_ne]; omega
            go_wp2_with fail
            go_round
            case rel => exact ⟨k + 1, _, _, _, _, _, by have h := HI.out; rw [HD.out] at h; exact h, by omega, by have := H48.out; go_num, rfl, by go_num, rfl, rfl, rfl, by go_num, by go_num, rfl⟩
            case measure => simp [intOf]; omega
        · have HD : Hid (rfStep ⟨xm, xn, xd, xs, xg⟩ s[k] = ⟨xm * 10 + (s[k].toNat - 48), xn + 1, xd, xs, true⟩) := rf_dig h48 (fun h => hz48 h.1)
          have gne : ¬ (s[k].toNat : Int) = 48 := by omega
          go_wp2_with fail
          go_round
          case rel => first | exact ⟨k + 1, _, _, _, _, _, by have h := HI.out; rw [HD.out] at h; exact h, by omega, by skip; go_num, rfl, by go_num, rfl, rfl, rfl, by go_num, by go_num, rfl⟩ | (refine ⟨trivial, ?_⟩; (repeat apply Exists.intro); exact ⟨⟨k + 1, _, _, _, _, _, by have h := HI.out; rw [HD.out] at h; exact h, by omega, by skip; go_num, rfl, by go_num, rfl, rfl, rfl, by go_num, by go_num, rfl⟩, rfl⟩)
          case measure => simp [intOf]; omega
    · obtain rfl : k = s.size := by omega
      have hx := hi.done (by simp)
      have hnd : xn ≤ s.size := hi.nd
      have hlo : -(s.size : Int) ≤ xd := hi.lo
      have hhi : xd ≤ s.size := hi.hi
      subst hx
      obtain rfl : xg = true := hdig
      obtain rfl : xs = false := hdot
      have hmz : ¬ (xm : Int) = 0 := fun h => hm (by show xm = 0; omega)
      clear hi hI hm
      go_wp2_with fail
      refine bodyPost_ret (v := .tuple #[.int .u64 xm, .int .i64 (0), .bool false, .bool false, .bool false, .int .i64 s.size, .bool true]) (by simp [results, Tryz.results127, go_sem]) rfl ⟨rfl, rfl⟩

set_option maxRecDepth 100000 in
set_option maxHeartbeats 3200000 in
theorem readFloat_011 (s : ByteArray) (fin : Rf) (w : World) (hs : 0 < s.size) (hs9 : s.size ≤ 9) (hc0 : 48 ≤ (s[0].toNat : Int)) (hc1 : (s[0].toNat : Int) ≤ 57)
    (hI : RfInv s.data.toList fin 0 rf0) (hdig : fin.dig = true) (hdot : fin.dot = true) (hm : ¬ fin.mant = 0) (ha : 2 < s.size) (hz : ¬ (s[0].toNat : Int) = 48) :
    Calls Tryz.prog 127 #[.string s] w fun e w' => e = .returned (.tuple #[.int .u64 fin.mant, .int .i64 (fin.dp - fin.nd), .bool false, .bool false, .bool false, .int .i64 s.size, .bool true]) ∧ w = w' := by
  have b1 : ((s[0].toNat : Int) == 43) = false := by rw [beq_eq_false_iff_ne]; omega
  have b2 : ((s[0].toNat : Int) == 45) = false := by rw [beq_eq_false_iff_ne]; omega
  have b3 : ((s[0].toNat : Int) == 48) = false := by rw [beq_eq_false_iff_ne]; omega
  have hne : ¬ s = ByteArray.empty := fun e => by subst e; simp at hs
  go_enter Tryz.func127, Tryz.ntmps127
  go_wp2_with fail
  go_step3
  go_wp2_with (go_at_call 143; refine (lower_dig _ _ (by omega) (by omega)).mono ?_; rintro e w' ⟨rfl, rfl⟩)
  go_step3
  go_wp2_with fail
  go_loop [2, 5, 7, 9, 13, 14, 15, 16, 17] (fun m t i u sd sg nd nm dp => ∃ (k xm xn : Nat) (xd : Int) (xs xg : Bool), RfInv s.data.toList fin k ⟨xm, xn, xd, xs, xg⟩ ∧ k ≤ s.size ∧ m = .int .u64 (xm : Int) ∧ t = .bool false ∧ i = .int .i64 k ∧ u = .bool false ∧ sd = .bool xs ∧ sg = .bool xg ∧ nd = .int .i64 xn ∧ nm = .int .i64 xn ∧ dp = .int .i64 xd) (fun _ _ i _ _ _ _ _ _ => s.size - (intOf i).toNat)
  case atStart => exact ⟨0, 0, 0, 0, false, false, hI, by omega, rfl, rfl, rfl, rfl, rfl, rfl, rfl, rfl, rfl⟩
  case round =>
    obtain ⟨k, xm, xn, xd, xs, xg, hi, hk, rfl, rfl, rfl, rfl, rfl, rfl, rfl, rfl, rfl⟩ := hrel
    by_cases hlt : k < s.size
    · obtain ⟨hi2, hcc⟩ := hi.next (drop_at s k hlt)
      have hm9 : xm < 1000000000 := hi.mant_lt (by omega)
      have hnd : xn ≤ k := hi.nd
      have hlo : -(k : Int) ≤ xd := hi.lo
      have hhi : xd ≤ k := hi.hi
      have HI : Hid (RfInv s.data.toList fin (k + 1) (rfStep ⟨xm, xn, xd, xs, xg⟩ s[k])) := hi2
      clear hi hi2 hI hc0 hc1  hz
      rcases hcc with ⟨h46, hxd⟩ | ⟨h48, h57⟩
      · obtain rfl : xs = false := hxd
        have g46 : (s[k].toNat : Int) = 46 := by omega
        have H46 : Hid (s[k].toNat = 46) := h46
        clear h46
        go_wp2_with fail
        go_round
        case rel => exact ⟨k + 1, _, _, _, _, _, by have h := HI.out; rw [rf_dot H46.out] at h; exact h, by omega, rfl, rfl, by go_num, rfl, rfl, rfl, rfl, rfl, rfl⟩
        case measure => simp [intOf]; omega
      · have g48 : 48 ≤ (s[k].toNat : Int) := by omega
        have g57 : (s[k].toNat : Int) ≤ 57 := by omega
        by_cases hz48 : s[k].toNat = 48
        · have g : (s[k].toNat : Int) = 48 := by omega
          have H48 : Hid (s[k].toNat = 48) := hz48
          clear hz48 h48 h57 g48 g57
          by_cases hn0 : xn = 0
          · have HN : Hid (xn = 0) := hn0
            go_wp2_with fail
            go_round
            case rel => exact ⟨k + 1, _, _, _, _, _, by have h := HI.out; rw [rf_zero H48.out HN.out] at h; exact h, by omega, rfl, rfl, by go_num, rfl, rfl, rfl, by go_num, by go_num, rfl⟩
            case measure => simp [intOf]; omega
          · have HD : Hid (rfStep ⟨xm, xn, xd, xs, xg⟩ s[k] = ⟨xm * 10 + (s[k].toNat - 48), xn + 1, xd, xs, true⟩) := rf_dig (by have := H48.out; omega) (fun h => hn0 h.2)
            have hn1 : 1 ≤ (xn : Int) := by omega
            clear hn0
            have gb : ((xn : Int) == 0) = false := by rw [beq_eq_false_iff_ne]; omega
            go_wp2_with fail
            go_round
            case rel => exact ⟨k + 1, _, _, _, _, _, by have h := HI.out; rw [HD.out] at h; exact h, by omega, by have := H48.out; go_num, rfl, by go_num, rfl, rfl, rfl, by go_num, by go_num, rfl⟩
            case measure => simp [intOf]; omega
        · have HD : Hid (rfStep ⟨xm, xn, xd, xs, xg⟩ s[k] = ⟨xm * 10 + (s[k].toNat - 48), xn + 1, xd, xs, true⟩) := rf_dig h48 (fun h => hz48 h.1)
          have gne : ¬ (s[k].toNat : Int) = 48 := by omega
          go_wp2_with fail
          go_round
          case rel => first | exact ⟨k + 1, _, _, _, _, _, by have h := HI.out; rw [HD.out] at h; exact h, by omega, by skip; go_num, rfl, by go_num, rfl, rfl, rfl, by go_num, by go_num, rfl⟩ | (refine ⟨trivial, ?_⟩; (repeat apply Exists.intro); exact ⟨⟨k + 1, _, _, _, _, _, by have h := HI.out; rw [HD.out] at h; exact h, by omega, by skip; go_num, rfl, by go_num, rfl, rfl, rfl, by go_num, by go_num, rfl⟩, rfl⟩)
          case measure => simp [intOf]; omega
    · obtain rfl : k = s.size := by omega
      have hx := hi.done (by simp)
      have hnd : xn ≤ s.size := hi.nd
      have hlo : -(s.size : Int) ≤ xd := hi.lo
      have hhi : xd ≤ s.size := hi.hi
      subst hx
      obtain rfl : xg = true := hdig
      obtain rfl : xs = true := hdot
      have hmz : ¬ (xm : Int) = 0 := fun h => hm (by show xm = 0; omega)
      clear hi hI hm
      go_wp2_with fail
      refine bodyPost_ret (v := .tuple #[.int .u64 xm, .int .i64 (xd - xn), .bool false, .bool false, .bool false, .int .i64 s.size, .bool true]) (by simp [results, Tryz.results127, go_sem]) rfl ⟨rfl, rfl⟩

set_option maxRecDepth 100000 in
set_option maxHeartbeats 3200000 in
theorem readFloat_020 (s : ByteArray) (fin : Rf) (w : World) (hs : 0 < s.size) (hs9 : s.size ≤ 9) (hc0 : 48 ≤ (s[0].toNat : Int)) (hc1 : (s[0].toNat : Int) ≤ 57)
    (hI : RfInv s.data.toList fin 0 rf0) (hdig : fin.dig = true) (hdot : fin.dot = false) (hm : ¬ fin.mant = 0) (ha : 2 < s.size) (hz : (s[0].toNat : Int) = 48) (hy0 : 46 ≤ (s[1].toNat : Int)) (hy1 : (s[1].toNat : Int) ≤ 57) :
    Calls Tryz.prog 127 #[.string s] w fun e w' => e = .returned (.tuple #[.int .u64 fin.mant, .int .i64 (0), .bool false, .bool false, .bool false, .int .i64 s.size, .bool true]) ∧ w = w' := by
  have b1 : ((s[0].toNat : Int) == 43) = false := by rw [beq_eq_false_iff_ne]; omega
  have b2 : ((s[0].toNat : Int) == 45) = false := by rw [beq_eq_false_iff_ne]; omega
  have b3 : ((s[1].toNat : Int) == 120) = false := by rw [beq_eq_false_iff_ne]; omega
  have hne : ¬ s = ByteArray.empty := fun e => by subst e; simp at hs
  go_enter Tryz.func127, Tryz.ntmps127
  go_wp2_with fail
  go_step3
  go_wp2_with (go_at_call 143; refine (lower_dig _ _ (by omega) (by omega)).mono ?_; rintro e w' ⟨rfl, rfl⟩)
  go_step3
  go_wp2_with fail
  go_loop [2, 5, 7, 9, 13, 14, 15, 16, 17] (fun m t i u sd sg nd nm dp => ∃ (k xm xn : Nat) (xd : Int) (xs xg : Bool), RfInv s.data.toList fin k ⟨xm, xn, xd, xs, xg⟩ ∧ k ≤ s.size ∧ m = .int .u64 (xm : Int) ∧ t = .bool false ∧ i = .int .i64 k ∧ u = .bool false ∧ sd = .bool xs ∧ sg = .bool xg ∧ nd = .int .i64 xn ∧ nm = .int .i64 xn ∧ dp = .int .i64 xd) (fun _ _ i _ _ _ _ _ _ => s.size - (intOf i).toNat)
  case atStart => exact ⟨0, 0, 0, 0, false, false, hI, by omega, rfl, rfl, rfl, rfl, rfl, rfl, rfl, rfl, rfl⟩
  case round =>
    obtain ⟨k, xm, xn, xd, xs, xg, hi, hk, rfl, rfl, rfl, rfl, rfl, rfl, rfl, rfl, rfl⟩ := hrel
    by_cases hlt : k < s.size
    · obtain ⟨hi2, hcc⟩ := hi.next (drop_at s k hlt)
      have hm9 : xm < 1000000000 := hi.mant_lt (by omega)
      have hnd : xn ≤ k := hi.nd
      have hlo : -(k : Int) ≤ xd := hi.lo
      have hhi : xd ≤ k := hi.hi
      have HI : Hid (RfInv s.data.toList fin (k + 1) (rfStep ⟨xm, xn, xd, xs, xg⟩ s[k])) := hi2
      clear hi hi2 hI hc0 hc1  hz hy0 hy1
      rcases hcc with ⟨h46, hxd⟩ | ⟨h48, h57⟩
      · obtain rfl : xs = false := hxd
        have g46 : (s[k].toNat : Int) = 46 := by omega
        have H46 : Hid (s[k].toNat = 46) := h46
        clear h46
        go_wp2_with fail
        go_round
        case rel => exact ⟨k + 1, _, _, _, _, _, by have h := HI.out; rw [rf_dot H46.out] at h; exact h, by omega, rfl, rfl, by go_num, rfl, rfl, rfl, rfl, rfl, rfl⟩
        case measure => simp [intOf]; omega
      · have g48 : 48 ≤ (s[k].toNat : Int) := by omega
        have g57 : (s[k].toNat : Int) ≤ 57 := by omega
        by_cases hz48 : s[k].toNat = 48
        · have g : (s[k].toNat : Int) = 48 := by omega
          have H48 : Hid (s[k].toNat = 48) := hz48
          clear hz48 h48 h57 g48 g57
          by_cases hn0 : xn = 0
          · have HN : Hid (xn = 0) := hn0
            go_wp2_with fail
            go_round
            case rel => exact ⟨k + 1, _, _, _, _, _, by have h := HI.out; rw [rf_zero H48.out HN.out] at h; exact h, by omega, rfl, rfl, by go_num, rfl, rfl, rfl, by go_num, by go_num, rfl⟩
            case measure => simp [intOf]; omega
          · have HD : Hid (rfStep ⟨xm, xn, xd, xs, xg⟩ s[k] = ⟨xm * 10 + (s[k].toNat - 48), xn + 1, xd, xs, true⟩) := rf_dig (by have := H48.out; omega) (fun h => hn0 h.2)
            have hn1 : 1 ≤ (xn : Int) := by omega
            clear hn0
            have gb : ((xn : Int) == 0) = false := by rw [beq_eq_false_iff_ne]; omega
            go_wp2_with fail
            go_round
            case rel => exact ⟨k + 1, _, _, _, _, _, by have h := HI.out; rw [HD.out] at h; exact h, by omega, by have := H48.out; go_num, rfl, by go_num, rfl, rfl, rfl, by go_num, by go_num, rfl⟩
            case measure => simp [intOf]; omega
        · have HD : Hid (rfStep ⟨xm, xn, xd, xs, xg⟩ s[k] = ⟨xm * 10 + (s[k].toNat - 48), xn + 1, xd, xs, true⟩) := rf_dig h48 (fun h => hz48 h.1)
          have gne : ¬ (s[k].toNat : Int) = 48 := by omega
          go_wp2_with fail
          go_round
          case rel => first | exact ⟨k + 1, _, _, _, _, _, by have h := HI.out; rw [HD.out] at h; exact h, by omega, by skip; go_num, rfl, by go_num, rfl, rfl, rfl, by go_num, by go_num, rfl⟩ | (refine ⟨trivial, ?_⟩; (repeat apply Exists.intro); exact ⟨⟨k + 1, _, _, _, _, _, by have h := HI.out; rw [HD.out] at h; exact h, by omega, by skip; go_num, rfl, by go_num, rfl, rfl, rfl, by go_num, by go_num, rfl⟩, rfl⟩)
          case measure => simp [intOf]; omega
    · obtain rfl : k = s.size := by omega
      have hx := hi.done (by simp)
      have hnd : xn ≤ s.size := hi.nd
      have hlo : -(s.size : Int) ≤ xd := hi.lo
      have hhi : xd ≤ s.size := hi.hi
      subst hx
      obtain rfl : xg = true := hdig
      obtain rfl : xs = false := hdot
      have hmz : ¬ (xm : Int) = 0 := fun h => hm (by show xm = 0; omega)
      clear hi hI hm
      go_wp2_with fail
      refine bodyPost_ret (v := .tuple #[.int .u64 xm, .int .i64 (0), .bool false, .bool false, .bool false, .int .i64 s.size, .bool true]) (by simp [results, Tryz.results127, go_sem]) rfl ⟨rfl, rfl⟩

set_option maxRecDepth 100000 in
set_option maxHeartbeats 3200000 in
theorem readFloat_021 (s : ByteArray) (fin : Rf) (w : World) (hs : 0 < s.size) (hs9 : s.size ≤ 9) (hc0 : 48 ≤ (s[0].toNat : Int)) (hc1 : (s[0].toNat : Int) ≤ 57)
    (hI : RfInv s.data.toList fin 0 rf0) (hdig : fin.dig = true) (hdot : fin.dot = true) (hm : ¬ fin.mant = 0) (ha : 2 < s.size) (hz : (s[0].toNat : Int) = 48) (hy0 : 46 ≤ (s[1].toNat : Int)) (hy1 : (s[1].toNat : Int) ≤ 57) :
    Calls Tryz.prog 127 #[.string s] w fun e w' => e = .returned (.tuple #[.int .u64 fin.mant, .int .i64 (fin.dp - fin.nd), .bool false, .bool false, .bool false, .int .i64 s.size, .bool true]) ∧ w = w' := by
  have b1 : ((s[0].toNat : Int) == 43) = false := by rw [beq_eq_false_iff_ne]; omega
  have b2 : ((s[0].toNat : Int) == 45) = false := by rw [beq_eq_false_iff_ne]; omega
  have b3 : ((s[1].toNat : Int) == 120) = false := by rw [beq_eq_false_iff_ne]; omega
  have hne : ¬ s = ByteArray.empty := fun e => by subst e; simp at hs
  go_enter Tryz.func127, Tryz.ntmps127
  go_wp2_with fail
  go_step3
  go_wp2_with (go_at_call 143; refine (lower_dig _ _ (by omega) (by omega)).mono ?_; rintro e w' ⟨rfl, rfl⟩)
  go_step3
  go_wp2_with fail
  go_loop [2, 5, 7, 9, 13, 14, 15, 16, 17] (fun m t i u sd sg nd nm dp => ∃ (k xm xn : Nat) (xd : Int) (xs xg : Bool), RfInv s.data.toList fin k ⟨xm, xn, xd, xs, xg⟩ ∧ k ≤ s.size ∧ m = .int .u64 (xm : Int) ∧ t = .bool false ∧ i = .int .i64 k ∧ u = .bool false ∧ sd = .bool xs ∧ sg = .bool xg ∧ nd = .int .i64 xn ∧ nm = .int .i64 xn ∧ dp = .int .i64 xd) (fun _ _ i _ _ _ _ _ _ => s.size - (intOf i).toNat)
  case atStart => exact ⟨0, 0, 0, 0, false, false, hI, by omega, rfl, rfl, rfl, rfl, rfl, rfl, rfl, rfl, rfl⟩
  case round =>
    obtain ⟨k, xm, xn, xd, xs, xg, hi, hk, rfl, rfl, rfl, rfl, rfl, rfl, rfl, rfl, rfl⟩ := hrel
    by_cases hlt : k < s.size
    · obtain ⟨hi2, hcc⟩ := hi.next (drop_at s k hlt)
      have hm9 : xm < 1000000000 := hi.mant_lt (by omega)
      have hnd : xn ≤ k := hi.nd
      have hlo : -(k : Int) ≤ xd := hi.lo
      have hhi : xd ≤ k := hi.hi
      have HI : Hid (RfInv s.data.toList fin (k + 1) (rfStep ⟨xm, xn, xd, xs, xg⟩ s[k])) := hi2
      clear hi hi2 hI hc0 hc1  hz hy0 hy1
      rcases hcc with ⟨h46, hxd⟩ | ⟨h48, h57⟩
      · obtain rfl : xs = false := hxd
        have g46 : (s[k].toNat : Int) = 46 := by omega
        have H46 : Hid (s[k].toNat = 46) := h46
        clear h46
        go_wp2_with fail
        go_round
        case rel => exact ⟨k + 1, _, _, _, _, _, by have h := HI.out; rw [rf_dot H46.out] at h; exact h, by omega, rfl, rfl, by go_num, rfl, rfl, rfl, rfl, rfl, rfl⟩
        case measure => simp [intOf]; omega
      · have g48 : 48 ≤ (s[k].toNat : Int) := by omega
        have g57 : (s[k].toNat : Int) ≤ 57 := by omega
        by_cases hz48 : s[k].toNat = 48
        · have g : (s[k].toNat : Int) = 48 := by omega
          have H48 : Hid (s[k].toNat = 48) := hz48
          clear hz48 h48 h57 g48 g57
          by_cases hn0 : xn = 0
          · have HN : Hid (xn = 0) := hn0
            go_wp2_with fail
            go_round
            case rel => exact ⟨k + 1, _, _, _, _, _, by have h := HI.out; rw [rf_zero H48.out HN.out] at h; exact h, by omega, rfl, rfl, by go_num, rfl, rfl, rfl, by go_num, by go_num, rfl⟩
            case measure => simp [intOf]; omega
          · have HD : Hid (rfStep ⟨xm, xn, xd, xs, xg⟩ s[k] = ⟨xm * 10 + (s[k].toNat - 48), xn + 1, xd, xs, true⟩) := rf_dig (by have := H48.out; omega) (fun h => hn0 h.2)
            have hn1 : 1 ≤ (xn : Int) := by omega
            clear hn0
            have gb : ((xn : Int) == 0) = false := by rw [beq_eq_false_iff_ne]; omega
            go_wp2_with fail
            go_round
            case rel => exact ⟨k + 1, _, _, _, _, _, by have h := HI.out; rw [HD.out] at h; exact h, by omega, by have := H48.out; go_num, rfl, by go_num, rfl, rfl, rfl, by go_num, by go_num, rfl⟩
            case measure => simp [intOf]; omega
        · have HD : Hid (rfStep ⟨xm, xn, xd, xs, xg⟩ s[k] = ⟨xm * 10 + (s[k].toNat - 48), xn + 1, xd, xs, true⟩) := rf_dig h48 (fun h => hz48 h.1)
          have gne : ¬ (s[k].toNat : Int) = 48 := by omega
          go_wp2_with fail
          go_round
          case rel => first | exact ⟨k + 1, _, _, _, _, _, by have h := HI.out; rw [HD.out] at h; exact h, by omega, by skip; go_num, rfl, by go_num, rfl, rfl, rfl, by go_num, by go_num, rfl⟩ | (refine ⟨trivial, ?_⟩; (repeat apply Exists.intro); exact ⟨⟨k + 1, _, _, _, _, _, by have h := HI.out; rw [HD.out] at h; exact h, by omega, by skip; go_num, rfl, by go_num, rfl, rfl, rfl, by go_num, by go_num, rfl⟩, rfl⟩)
          case measure => simp [intOf]; omega
    · obtain rfl : k = s.size := by omega
      have hx := hi.done (by simp)
      have hnd : xn ≤ s.size := hi.nd
      have hlo : -(s.size : Int) ≤ xd := hi.lo
      have hhi : xd ≤ s.size := hi.hi
      subst hx
      obtain rfl : xg = true := hdig
      obtain rfl : xs = true := hdot
      have hmz : ¬ (xm : Int) = 0 := fun h => hm (by show xm = 0; omega)
      clear hi hI hm
      go_wp2_with fail
      refine bodyPost_ret (v := .tuple #[.int .u64 xm, .int .i64 (xd - xn), .bool false, .bool false, .bool false, .int .i64 s.size, .bool true]) (by simp [results, Tryz.results127, go_sem]) rfl ⟨rfl, rfl⟩

set_option maxRecDepth 100000 in
set_option maxHeartbeats 3200000 in
theorem readFloat_100 (s : ByteArray) (fin : Rf) (w : World) (hs : 0 < s.size) (hs9 : s.size ≤ 9) (hsz2 : 1 < s.size) (hc : (s[0].toNat : Int) = 45) (hc0 : 48 ≤ (s[1].toNat : Int)) (hc1 : (s[1].toNat : Int) ≤ 57)
    (hI : RfInv s.data.toList fin 1 rf0) (hdig : fin.dig = true) (hdot : fin.dot = false) (hm : ¬ fin.mant = 0) (ha : ¬ 3 < s.size) :
    Calls Tryz.prog 127 #[.string s] w fun e w' => e = .returned (.tuple #[.int .u64 fin.mant, .int .i64 (0), .bool true, .bool false, .bool false, .int .i64 s.size, .bool true]) ∧ w = w' := by
  have b1 : ((s[0].toNat : Int) == 43) = false := by rw [beq_eq_false_iff_ne]; omega
  have b2 : ((s[0].toNat : Int) == 45) = true := by rw [beq_iff_eq]; omega
  have hne : ¬ s = ByteArray.empty := fun e => by subst e; simp at hs
  go_enter Tryz.func127, Tryz.ntmps127
  go_wp2_with fail
  go_step3
  go_wp2_with (go_at_call 143; refine (lower_dig _ _ (by omega) (by omega)).mono ?_; rintro e w' ⟨rfl, rfl⟩)
  go_step3
  go_wp2_with fail
  go_loop [2, 5, 7, 9, 13, 14, 15, 16, 17] (fun m t i u sd sg nd nm dp => ∃ (k xm xn : Nat) (xd : Int) (xs xg : Bool), RfInv s.data.toList fin k ⟨xm, xn, xd, xs, xg⟩ ∧ k ≤ s.size ∧ m = .int .u64 (xm : Int) ∧ t = .bool false ∧ i = .int .i64 k ∧ u = .bool false ∧ sd = .bool xs ∧ sg = .bool xg ∧ nd = .int .i64 xn ∧ nm = .int .i64 xn ∧ dp = .int .i64 xd) (fun _ _ i _ _ _ _ _ _ => s.size - (intOf i).toNat)
  case atStart => exact ⟨1, 0, 0, 0, false, false, hI, by omega, rfl, rfl, rfl, rfl, rfl, rfl, rfl, rfl, rfl⟩
  case round =>
    obtain ⟨k, xm, xn, xd, xs, xg, hi, hk, rfl, rfl, rfl, rfl, rfl, rfl, rfl, rfl, rfl⟩ := hrel
    by_cases hlt : k < s.size
    · obtain ⟨hi2, hcc⟩ := hi.next (drop_at s k hlt)
      have hm9 : xm < 1000000000 := hi.mant_lt (by omega)
      have hnd : xn ≤ k := hi.nd
      have hlo : -(k : Int) ≤ xd := hi.lo
      have hhi : xd ≤ k := hi.hi
      have HI : Hid (RfInv s.data.toList fin (k + 1) (rfStep ⟨xm, xn, xd, xs, xg⟩ s[k])) := hi2
      clear hi hi2 hI hc0 hc1 hc 
      rcases hcc with ⟨h46, hxd⟩ | ⟨h48, h57⟩
      · obtain rfl : xs = false := hxd
        have g46 : (s[k].toNat : Int) = 46 := by omega
        have H46 : Hid (s[k].toNat = 46) := h46
        clear h46
        go_wp2_with fail
        go_round
        case rel => exact ⟨k + 1, _, _, _, _, _, by have h := HI.out; rw [rf_dot H46.out] at h; exact h, by omega, rfl, rfl, by go_num, rfl, rfl, rfl, rfl, rfl, rfl⟩
        case measure => simp [intOf]; omega
      · have g48 : 48 ≤ (s[k].toNat : Int) := by omega
        have g57 : (s[k].toNat : Int) ≤ 57 := by omega
        by_cases hz48 : s[k].toNat = 48
        · have g : (s[k].toNat : Int) = 48 := by omega
          have H48 : Hid (s[k].toNat = 48) := hz48
          clear hz48 h48 h57 g48 g57
          by_cases hn0 : xn = 0
          · have HN : Hid (xn = 0) := hn0
            go_wp2_with fail
            go_round
            case rel => exact ⟨k + 1, _, _, _, _, _, by have h := HI.out; rw [rf_zero H48.out HN.out] at h; exact h, by omega, rfl, rfl, by go_num, rfl, rfl, rfl, by go_num, by go_num, rfl⟩
            case measure => simp [intOf]; omega
          · have HD : Hid (rfStep ⟨xm, xn, xd, xs, xg⟩ s[k] = ⟨xm * 10 + (s[k].toNat - 48), xn + 1, xd, xs, true⟩) := rf_dig (by have := H48.out; omega) (fun h => hn0 h.2)
            have hn1 : 1 ≤ (xn : Int) := by omega
            clear hn0
            have gb : ((xn : Int) == 0) = false := by rw [beq_eq_false_iff_ne]; omega
            go_wp2_with fail
            go_round
            case rel => exact ⟨k + 1, _, _, _, _, _, by have h := HI.out; rw [HD.out] at h; exact h, by omega, by have := H48.out; go_num, rfl, by go_num, rfl, rfl, rfl, by go_num, by go_num, rfl⟩
            case measure => simp [intOf]; omega
        · have HD : Hid (rfStep ⟨xm, xn, xd, xs, xg⟩ s[k] = ⟨xm * 10 + (s[k].toNat - 48), xn + 1, xd, xs, true⟩) := rf_dig h48 (fun h => hz48 h.1)
          have gne : ¬ (s[k].toNat : Int) = 48 := by omega
          go_wp2_with fail
          go_round
          case rel => first | exact ⟨k + 1, _, _, _, _, _, by have h := HI.out; rw [HD.out] at h; exact h, by omega, by skip; go_num, rfl, by go_num, rfl, rfl, rfl, by go_num, by go_num, rfl⟩ | (refine ⟨trivial, ?_⟩; (repeat apply Exists.intro); exact ⟨⟨k + 1, _, _, _, _, _, by have h := HI.out; rw [HD.out] at h; exact h, by omega, by skip; go_num, rfl, by go_num, rfl, rfl, rfl, by go_num, by go_num, rfl⟩, rfl⟩)
          case measure => simp [intOf]; omega
    · obtain rfl : k = s.size := by omega
      have hx := hi.done (by simp)
      have hnd : xn ≤ s.size := hi.nd
      have hlo : -(s.size : Int) ≤ xd := hi.lo
      have hhi : xd ≤ s.size := hi.hi
      subst hx
      obtain rfl : xg = true := hdig
      obtain rfl : xs = false := hdot
      have hmz : ¬ (xm : Int) = 0 := fun h => hm (by show xm = 0; omega)
      clear hi hI hm
      go_wp2_with fail
      refine bodyPost_ret (v := .tuple #[.int .u64 xm, .int .i64 (0), .bool true, .bool false, .bool false, .int .i64 s.size, .bool true]) (by simp [results, Tryz.results127, go_sem]) rfl ⟨rfl, rfl⟩

set_option maxRecDepth 100000 in
set_option maxHeartbeats 3200000 in
theorem readFloat_101 (s : ByteArray) (fin : Rf) (w : World) (hs : 0 < s.size) (hs9 : s.size ≤ 9) (hsz2 : 1 < s.size) (hc : (s[0].toNat : Int) = 45) (hc0 : 48 ≤ (s[1].toNat : Int)) (hc1 : (s[1].toNat : Int) ≤ 57)
    (hI : RfInv s.data.toList fin 1 rf0) (hdig : fin.dig = true) (hdot : fin.dot = true) (hm : ¬ fin.mant = 0) (ha : ¬ 3 < s.size) :
    Calls Tryz.prog 127 #[.string s] w fun e w' => e = .returned (.tuple #[.int .u64 fin.mant, .int .i64 (fin.dp - fin.nd), .bool true, .bool false, .bool false, .int .i64 s.size, .bool true]) ∧ w = w' := by
  have b1 : ((s[0].toNat : Int) == 43) = false := by rw [beq_eq_false_iff_ne]; omega
  have b2 : ((s[0].toNat : Int) == 45) = true := by rw [beq_iff_eq]; omega
  have hne : ¬ s = ByteArray.empty := fun e => by subst e; simp at hs
  go_enter Tryz.func127, Tryz.ntmps127
  go_wp2_with fail
  go_step3
  go_wp2_with (go_at_call 143; refine (lower_dig _ _ (by omega) (by omega)).mono ?_; rintro e w' ⟨rfl, rfl⟩)
  go_step3
  go_wp2_with fail
  go_loop [2, 5, 7, 9, 13, 14, 15, 16, 17] (fun m t i u sd sg nd nm dp => ∃ (k xm xn : Nat) (xd : Int) (xs xg : Bool), RfInv s.data.toList fin k ⟨xm, xn, xd, xs, xg⟩ ∧ k ≤ s.size ∧ m = .int .u64 (xm : Int) ∧ t = .bool false ∧ i = .int .i64 k ∧ u = .bool false ∧ sd = .bool xs ∧ sg = .bool xg ∧ nd = .int .i64 xn ∧ nm = .int .i64 xn ∧ dp = .int .i64 xd) (fun _ _ i _ _ _ _ _ _ => s.size - (intOf i).toNat)
  case atStart => exact ⟨1, 0, 0, 0, false, false, hI, by omega, rfl, rfl, rfl, rfl, rfl, rfl, rfl, rfl, rfl⟩
  case round =>
    obtain ⟨k, xm, xn, xd, xs, xg, hi, hk, rfl, rfl, rfl, rfl, rfl, rfl, rfl, rfl, rfl⟩ := hrel
    by_cases hlt : k < s.size
    · obtain ⟨hi2, hcc⟩ := hi.next (drop_at s k hlt)
      have hm9 : xm < 1000000000 := hi.mant_lt (by omega)
      have hnd : xn ≤ k := hi.nd
      have hlo : -(k : Int) ≤ xd := hi.lo
      have hhi : xd ≤ k := hi.hi
      have HI : Hid (RfInv s.data.toList fin (k + 1) (rfStep ⟨xm, xn, xd, xs, xg⟩ s[k])) := hi2
      clear hi hi2 hI hc0 hc1 hc 
      rcases hcc with ⟨h46, hxd⟩ | ⟨h48, h57⟩
      · obtain rfl : xs = false := hxd
        have g46 : (s[k].toNat : Int) = 46 := by omega
        have H46 : Hid (s[k].toNat = 46) := h46
        clear h46
        go_wp2_with fail
        go_round
        case rel => exact ⟨k + 1, _, _, _, _, _, by have h := HI.out; rw [rf_dot H46.out] at h; exact h, by omega, rfl, rfl, by go_num, rfl, rfl, rfl, rfl, rfl, rfl⟩
        case measure => simp [intOf]; omega
      · have g48 : 48 ≤ (s[k].toNat : Int) := by omega
        have g57 : (s[k].toNat : Int) ≤ 57 := by omega
        by_cases hz48 : s[k].toNat = 48
        · have g : (s[k].toNat : Int) = 48 := by omega
          have H48 : Hid (s[k].toNat = 48) := hz48
          clear hz48 h48 h57 g48 g57
          by_cases hn0 : xn = 0
          · have HN : Hid (xn = 0) := hn0
            go_wp2_with fail
            go_round
            case rel => exact ⟨k + 1, _, _, _, _, _, by have h := HI.out; rw [rf_zero H48.out HN.out] at h; exact h, by omega, rfl, rfl, by go_num, rfl, rfl, rfl, by go_num, by go_num, rfl⟩
            case measure => simp [intOf]; omega
          · have HD : Hid (rfStep ⟨xm, xn, xd, xs, xg⟩ s[k] = ⟨xm * 10 + (s[k].toNat - 48), xn + 1, xd, xs, true⟩) := rf_dig (by have := H48.out; omega) (fun h => hn0 h.2)
            have hn1 : 1 ≤ (xn : Int) := by omega
            clear hn0
            have gb : ((xn : Int) == 0) = false := by rw [beq_eq_false_iff_ne]; omega
            go_wp2_with fail
            go_round
            case rel => exact ⟨k + 1, _, _, _, _, _, by have h := HI.out; rw [HD.out] at h; exact h, by omega, by have := H48.out; go_num, rfl, by go_num, rfl, rfl, rfl, by go_num, by go_num, rfl⟩
            case measure => simp [intOf]; omega
        · have HD : Hid (rfStep ⟨xm, xn, xd, xs, xg⟩ s[k] = ⟨xm * 10 + (s[k].toNat - 48), xn + 1, xd, xs, true⟩) := rf_dig h48 (fun h => hz48 h.1)
          have gne : ¬ (s[k].toNat : Int) = 48 := by omega
          go_wp2_with fail
          go_round
          case rel => first | exact ⟨k + 1, _, _, _, _, _, by have h := HI.out; rw [HD.out] at h; exact h, by omega, by skip; go_num, rfl, by go_num, rfl, rfl, rfl, by go_num, by go_num, rfl⟩ | (refine ⟨trivial, ?_⟩; (repeat apply Exists.intro); exact ⟨⟨k + 1, _, _, _, _, _, by have h := HI.out; rw [HD.out] at h; exact h, by omega, by skip; go_num, rfl, by go_num, rfl, rfl, rfl, by go_num, by go_num, rfl⟩, rfl⟩)
          case measure => simp [intOf]; omega
    · obtain rfl : k = s.size := by omega
      have hx := hi.done (by simp)
      have hnd : xn ≤ s.size := hi.nd
      have hlo : -(s.size : Int) ≤ xd := hi.lo
      have hhi : xd ≤ s.size := hi.hi
      subst hx
      obtain rfl : xg = true := hdig
      obtain rfl : xs = true := hdot
      have hmz : ¬ (xm : Int) = 0 := fun h => hm (by show xm = 0; omega)
      clear hi hI hm
      go_wp2_with fail
      refine bodyPost_ret (v := .tuple #[.int .u64 xm, .int .i64 (xd - xn), .bool true, .bool false, .bool false, .int .i64 s.size, .bool true]) (by simp [results, Tryz.results127, go_sem]) rfl ⟨rfl, rfl⟩

set_option maxRecDepth 100000 in
set_option maxHeartbeats 3200000 in
theorem readFloat_110 (s : ByteArray) (fin : Rf) (w : World) (hs : 0 < s.size) (hs9 : s.size ≤ 9) (hsz2 : 1 < s.size) (hc : (s[0].toNat : Int) = 45) (hc0 : 48 ≤ (s[1].toNat : Int)) (hc1 : (s[1].toNat : Int) ≤ 57)
    (hI : RfInv s.data.toList fin 1 rf0) (hdig : fin.dig = true) (hdot : fin.dot = false) (hm : ¬ fin.mant = 0) (ha : 3 < s.size) (hz : ¬ (s[1].toNat : Int) = 48) :
    Calls Tryz.prog 127 #[.string s] w fun e w' => e = .returned (.tuple #[.int .u64 fin.mant, .int .i64 (0), .bool true, .bool false, .bool false, .int .i64 s.size, .bool true]) ∧ w = w' := by
  have b1 : ((s[0].toNat : Int) == 43) = false := by rw [beq_eq_false_iff_ne]; omega
  have b2 : ((s[0].toNat : Int) == 45) = true := by rw [beq_iff_eq]; omega
  have b3 : ((s[1].toNat : Int) == 48) = false := by rw [beq_eq_false_iff_ne]; omega
  have hne : ¬ s = ByteArray.empty := fun e => by subst e; simp at hs
  go_enter Tryz.func127, Tryz.ntmps127
  go_wp2_with fail
  go_step3
  go_wp2_with (go_at_call 143; refine (lower_dig _ _ (by omega) (by omega)).mono ?_; rintro e w' ⟨rfl, rfl⟩)
  go_step3
  go_wp2_with fail
  go_loop [2, 5, 7, 9, 13, 14, 15, 16, 17] (fun m t i u sd sg nd nm dp => ∃ (k xm xn : Nat) (xd : Int) (xs xg : Bool), RfInv s.data.toList fin k ⟨xm, xn, xd, xs, xg⟩ ∧ k ≤ s.size ∧ m = .int .u64 (xm : Int) ∧ t = .bool false ∧ i = .int .i64 k ∧ u = .bool false ∧ sd = .bool xs ∧ sg = .bool xg ∧ nd = .int .i64 xn ∧ nm = .int .i64 xn ∧ dp = .int .i64 xd) (fun _ _ i _ _ _ _ _ _ => s.size - (intOf i).toNat)
  case atStart => exact ⟨1, 0, 0, 0, false, false, hI, by omega, rfl, rfl, rfl, rfl, rfl, rfl, rfl, rfl, rfl⟩
  case round =>
    obtain ⟨k, xm, xn, xd, xs, xg, hi, hk, rfl, rfl, rfl, rfl, rfl, rfl, rfl, rfl, rfl⟩ := hrel
    by_cases hlt : k < s.size
    · obtain ⟨hi2, hcc⟩ := hi.next (drop_at s k hlt)
      have hm9 : xm < 1000000000 := hi.mant_lt (by omega)
      have hnd : xn ≤ k := hi.nd
      have hlo : -(k : Int) ≤ xd := hi.lo
      have hhi : xd ≤ k := hi.hi
      have HI : Hid (RfInv s.data.toList fin (k + 1) (rfStep ⟨xm, xn, xd, xs, xg⟩ s[k])) := hi2
      clear hi hi2 hI hc0 hc1 hc hz
      rcases hcc with ⟨h46, hxd⟩ | ⟨h48, h57⟩
      · obtain rfl : xs = false := hxd
        have g46 : (s[k].toNat : Int) = 46 := by omega
        have H46 : Hid (s[k].toNat = 46) := h46
        clear h46
        go_wp2_with fail
        go_round
        case rel => exact ⟨k + 1, _, _, _, _, _, by have h := HI.out; rw [rf_dot H46.out] at h; exact h, by omega, rfl, rfl, by go_num, rfl, rfl, rfl, rfl, rfl, rfl⟩
        case measure => simp [intOf]; omega
      · have g48 : 48 ≤ (s[k].toNat : Int) := by omega
        have g57 : (s[k].toNat : Int) ≤ 57 := by omega
        by_cases hz48 : s[k].toNat = 48
        · have g : (s[k].toNat : Int) = 48 := by omega
          have H48 : Hid (s[k].toNat = 48) := hz48
          clear hz48 h48 h57 g48 g57
          by_cases hn0 : xn = 0
          · have HN : Hid (xn = 0) := hn0
            go_wp2_with fail
            go_round
            case rel => exact ⟨k + 1, _, _, _, _, _, by have h := HI.out; rw [rf_zero H48.out HN.out] at h; exact h, by omega, rfl, rfl, by go_num, rfl, rfl, rfl, by go_num, by go_num, rfl⟩
            case measure => simp [intOf]; omega
          · have HD : Hid (rfStep ⟨xm, xn, xd, xs, xg⟩ s[k] = ⟨xm * 10 + (s[k].toNat - 48), xn + 1, xd, xs, true⟩) := rf_dig (by have := H48.out; omega) (fun h => hn0 h.2)
            have hn1 : 1 ≤ (xn : Int) := by omega
            clear hn0
            have gb : ((xn : Int) == 0) = false := by rw [beq_eq_false_iff_ne]; omega
            go_wp2_with fail
            go_round
            case rel => exact ⟨k + 1, _, _, _, _, _, by have h := HI.out; rw [HD.out] at h; exact h, by omega, by have := H48.out; go_num, rfl, by go_num, rfl, rfl, rfl, by go_num, by go_num, rfl⟩
            case measure => simp [intOf]; omega
        · have HD : Hid (rfStep ⟨xm, xn, xd, xs, xg⟩ s[k] = ⟨xm * 10 + (s[k].toNat - 48), xn + 1, xd, xs, true⟩) := rf_dig h48 (fun h => hz48 h.1)
          have gne : ¬ (s[k].toNat : Int) = 48 := by omega
          go_wp2_with fail
          go_round
          case rel => first | exact ⟨k + 1, _, _, _, _, _, by have h := HI.out; rw [HD.out] at h; exact h, by omega, by skip; go_num, rfl, by go_num, rfl, rfl, rfl, by go_num, by go_num, rfl⟩ | (refine ⟨trivial, ?_⟩; (repeat apply Exists.intro); exact ⟨⟨k + 1, _, _, _, _, _, by have h := HI.out; rw [HD.out] at h; exact h, by omega, by skip; go_num, rfl, by go_num, rfl, rfl, rfl, by go_num, by go_num, rfl⟩, rfl⟩)
          case measure => simp [intOf]; omega
    · obtain rfl : k = s.size := by omega
      have hx := hi.done (by simp)
      have hnd : xn ≤ s.size := hi.nd
      have hlo : -(s.size : Int) ≤ xd := hi.lo
      have hhi : xd ≤ s.size := hi.hi
      subst hx
      obtain rfl : xg = true := hdig
      obtain rfl : xs = false := hdot
      have hmz : ¬ (xm : Int) = 0 := fun h => hm (by show xm = 0; omega)
      clear hi hI hm
      go_wp2_with fail
      refine bodyPost_ret (v := .tuple #[.int .u64 xm, .int .i64 (0), .bool true, .bool false, .bool false, .int .i64 s.size, .bool true]) (by simp [results, Tryz.results127, go_sem]) rfl ⟨rfl, rfl⟩

set_option maxRecDepth 100000 in
set_option maxHeartbeats 3200000 in
theorem readFloat_111 (s : ByteArray) (fin : Rf) (w : World) (hs : 0 < s.size) (hs9 : s.size ≤ 9) (hsz2 : 1 < s.size) (hc : (s[0].toNat : Int) = 45) (hc0 : 48 ≤ (s[1].toNat : Int)) (hc1 : (s[1].toNat : Int) ≤ 57)
    (hI : RfInv s.data.toList fin 1 rf0) (hdig : fin.dig = true) (hdot : fin.dot = true) (hm : ¬ fin.mant = 0) (ha : 3 < s.size) (hz : ¬ (s[1].toNat : Int) = 48) :
    Calls Tryz.prog 127 #[.string s] w fun e w' => e = .returned (.tuple #[.int .u64 fin.mant, .int .i64 (fin.dp - fin.nd), .bool true, .bool false, .bool false, .int .i64 s.size, .bool true]) ∧ w = w' := by
  have b1 : ((s[0].toNat : Int) == 43) = false := by rw [beq_eq_false_iff_ne]; omega
  have b2 : ((s[0].toNat : Int) == 45) = true := by rw [beq_iff_eq]; omega
  have b3 : ((s[1].toNat : Int) == 48) = false := by rw [beq_eq_false_iff_ne]; omega
  have hne : ¬ s = ByteArray.empty := fun e => by subst e; simp at hs
  go_enter Tryz.func127, Tryz.ntmps127
  go_wp2_with fail
  go_step3
  go_wp2_with (go_at_call 143; refine (lower_dig _ _ (by omega) (by omega)).mono ?_; rintro e w' ⟨rfl, rfl⟩)
  go_step3
  go_wp2_with fail
  go_loop [2, 5, 7, 9, 13, 14, 15, 16, 17] (fun m t i u sd sg nd nm dp => ∃ (k xm xn : Nat) (xd : Int) (xs xg : Bool), RfInv s.data.toList fin k ⟨xm, xn, xd, xs, xg⟩ ∧ k ≤ s.size ∧ m = .int .u64 (xm : Int) ∧ t = .bool false ∧ i = .int .i64 k ∧ u = .bool false ∧ sd = .bool xs ∧ sg = .bool xg ∧ nd = .int .i64 xn ∧ nm = .int .i64 xn ∧ dp = .int .i64 xd) (fun _ _ i _ _ _ _ _ _ => s.size - (intOf i).toNat)
  case atStart => exact ⟨1, 0, 0, 0, false, false, hI, by omega, rfl, rfl, rfl, rfl, rfl, rfl, rfl, rfl, rfl⟩
  case round =>
    obtain ⟨k, xm, xn, xd, xs, xg, hi, hk, rfl, rfl, rfl, rfl, rfl, rfl, rfl, rfl, rfl⟩ := hrel
    by_cases hlt : k < s.size
    · obtain ⟨hi2, hcc⟩ := hi.next (drop_at s k hlt)
      have hm9 : xm < 1000000000 := hi.mant_lt (by omega)
      have hnd : xn ≤ k := hi.nd
      have hlo : -(k : Int) ≤ xd := hi.lo
      have hhi : xd ≤ k := hi.hi
      have HI : Hid (RfInv s.data.toList fin (k + 1) (rfStep ⟨xm, xn, xd, xs, xg⟩ s[k])) := hi2
      clear hi hi2 hI hc0 hc1 hc hz
      rcases hcc with ⟨h46, hxd⟩ | ⟨h48, h57⟩
      · obtain rfl : xs = false := hxd
        have g46 : (s[k].toNat : Int) = 46 := by omega
        have H46 : Hid (s[k].toNat = 46) := h46
        clear h46
        go_wp2_with fail
        go_round
        case rel => exact ⟨k + 1, _, _, _, _, _, by have h := HI.out; rw [rf_dot H46.out] at h; exact h, by omega, rfl, rfl, by go_num, rfl, rfl, rfl, rfl, rfl, rfl⟩
        case measure => simp [intOf]; omega
      · have g48 : 48 ≤ (s[k].toNat : Int) := by omega
        have g57 : (s[k].toNat : Int) ≤ 57 := by omega
        by_cases hz48 : s[k].toNat = 48
        · have g : (s[k].toNat : Int) = 48 := by omega
          have H48 : Hid (s[k].toNat = 48) := hz48
          clear hz48 h48 h57 g48 g57
          by_cases hn0 : xn = 0
          · have HN : Hid (xn = 0) := hn0
            go_wp2_with fail
            go_round
            case rel => exact ⟨k + 1, _, _, _, _, _, by have h := HI.out; rw [rf_zero H48.out HN.out] at h; exact h, by omega, rfl, rfl, by go_num, rfl, rfl, rfl, by go_num, by go_num, rfl⟩
            case measure => simp [intOf]; omega
          · have HD : Hid (rfStep ⟨xm, xn, xd, xs, xg⟩ s[k] = ⟨xm * 10 + (s[k].toNat - 48), xn + 1, xd, xs, true⟩) := rf_dig (by have := H48.out; omega) (fun h => hn0 h.2)
            have hn1 : 1 ≤ (xn : Int) := by omega
            clear hn0
            have gb : ((xn : Int) == 0) = false := by rw [beq_eq_false_iff_ne]; omega
            go_wp2_with fail
            go_round
            case rel => exact ⟨k + 1, _, _, _, _, _, by have h := HI.out; rw [HD.out] at h; exact h, by omega, by have := H48.out; go_num, rfl, by go_num, rfl, rfl, rfl, by go_num, by go_num, rfl⟩
            case measure => simp [intOf]; omega
        · have HD : Hid (rfStep ⟨xm, xn, xd, xs, xg⟩ s[k] = ⟨xm * 10 + (s[k].toNat - 48), xn + 1, xd, xs, true⟩) := rf_dig h48 (fun h => hz48 h.1)
          have gne : ¬ (s[k].toNat : Int) = 48 := by omega
          go_wp2_with fail
          go_round
          case rel => first | exact ⟨k + 1, _, _, _, _, _, by have h := HI.out; rw [HD.out] at h; exact h, by omega, by skip; go_num, rfl, by go_num, rfl, rfl, rfl, by go_num, by go_num, rfl⟩ | (refine ⟨trivial, ?_⟩; (repeat apply Exists.intro); exact ⟨⟨k + 1, _, _, _, _, _, by have h := HI.out; rw [HD.out] at h; exact h, by omega, by skip; go_num, rfl, by go_num, rfl, rfl, rfl, by go_num, by go_num, rfl⟩, rfl⟩)
          case measure => simp [intOf]; omega
    · obtain rfl : k = s.size := by omega
      have hx := hi.done (by simp)
      have hnd : xn ≤ s.size := hi.nd
      have hlo : -(s.size : Int) ≤ xd := hi.lo
      have hhi : xd ≤ s.size := hi.hi
      subst hx
      obtain rfl : xg = true := hdig
      obtain rfl : xs = true := hdot
      have hmz : ¬ (xm : Int) = 0 := fun h => hm (by show xm = 0; omega)
      clear hi hI hm
      go_wp2_with fail
      refine bodyPost_ret (v := .tuple #[.int .u64 xm, .int .i64 (xd - xn), .bool true, .bool false, .bool false, .int .i64 s.size, .bool true]) (by simp [results, Tryz.results127, go_sem]) rfl ⟨rfl, rfl⟩

set_option maxRecDepth 100000 in
set_option maxHeartbeats 3200000 in
theorem readFloat_120 (s : ByteArray) (fin : Rf) (w : World) (hs : 0 < s.size) (hs9 : s.size ≤ 9) (hsz2 : 1 < s.size) (hc : (s[0].toNat : Int) = 45) (hc0 : 48 ≤ (s[1].toNat : Int)) (hc1 : (s[1].toNat : Int) ≤ 57)
    (hI : RfInv s.data.toList fin 1 rf0) (hdig : fin.dig = true) (hdot : fin.dot = false) (hm : ¬ fin.mant = 0) (ha : 3 < s.size) (hz : (s[1].toNat : Int) = 48) (hy0 : 46 ≤ (s[2].toNat : Int)) (hy1 : (s[2].toNat : Int) ≤ 57) :
    Calls Tryz.prog 127 #[.string s] w fun e w' => e = .returned (.tuple #[.int .u64 fin.mant, .int .i64 (0), .bool true, .bool false, .bool false, .int .i64 s.size, .bool true]) ∧ w = w' := by
  have b1 : ((s[0].toNat : Int) == 43) = false := by rw [beq_eq_false_iff_ne]; omega
  have b2 : ((s[0].toNat : Int) == 45) = true := by rw [beq_iff_eq]; omega
  have b3 : ((s[2].toNat : Int) == 120) = false := by rw [beq_eq_false_iff_ne]; omega
  have hne : ¬ s = ByteArray.empty := fun e => by subst e; simp at hs
  go_enter Tryz.func127, Tryz.ntmps127
  go_wp2_with fail
  go_step3
  go_wp2_with (go_at_call 143; refine (lower_dig _ _ (by omega) (by omega)).mono ?_; rintro e w' ⟨rfl, rfl⟩)
  go_step3
  go_wp2_with fail
  go_loop [2, 5, 7, 9, 13, 14, 15, 16, 17] (fun m t i u sd sg nd nm dp => ∃ (k xm xn : Nat) (xd : Int) (xs xg : Bool), RfInv s.data.toList fin k ⟨xm, xn, xd, xs, xg⟩ ∧ k ≤ s.size ∧ m = .int .u64 (xm : Int) ∧ t = .bool false ∧ i = .int .i64 k ∧ u = .bool false ∧ sd = .bool xs ∧ sg = .bool xg ∧ nd = .int .i64 xn ∧ nm = .int .i64 xn ∧ dp = .int .i64 xd) (fun _ _ i _ _ _ _ _ _ => s.size - (intOf i).toNat)
  case atStart => exact ⟨1, 0, 0, 0, false, false, hI, by omega, rfl, rfl, rfl, rfl, rfl, rfl, rfl, rfl, rfl⟩
  case round =>
    obtain ⟨k, xm, xn, xd, xs, xg, hi, hk, rfl, rfl, rfl, rfl, rfl, rfl, rfl, rfl, rfl⟩ := hrel
    by_cases hlt : k < s.size
    · obtain ⟨hi2, hcc⟩ := hi.next (drop_at s k hlt)
      have hm9 : xm < 1000000000 := hi.mant_lt (by omega)
      have hnd : xn ≤ k := hi.nd
      have hlo : -(k : Int) ≤ xd := hi.lo
      have hhi : xd ≤ k := hi.hi
      have HI : Hid (RfInv s.data.toList fin (k + 1) (rfStep ⟨xm, xn, xd, xs, xg⟩ s[k])) := hi2
      clear hi hi2 hI hc0 hc1 hc hz hy0 hy1
      rcases hcc with ⟨h46, hxd⟩ | ⟨h48, h57⟩
      · obtain rfl : xs = false := hxd
        have g46 : (s[k].toNat : Int) = 46 := by omega
        have H46 : Hid (s[k].toNat = 46) := h46
        clear h46
        go_wp2_with fail
        go_round
        case rel => exact ⟨k + 1, _, _, _, _, _, by have h := HI.out; rw [rf_dot H46.out] at h; exact h, by omega, rfl, rfl, by go_num, rfl, rfl, rfl, rfl, rfl, rfl⟩
        case measure => simp [intOf]; omega
      · have g48 : 48 ≤ (s[k].toNat : Int) := by omega
        have g57 : (s[k].toNat : Int) ≤ 57 := by omega
        by_cases hz48 : s[k].toNat = 48
        · have g : (s[k].toNat : Int) = 48 := by omega
          have H48 : Hid (s[k].toNat = 48) := hz48
          clear hz48 h48 h57 g48 g57
          by_cases hn0 : xn = 0
          · have HN : Hid (xn = 0) := hn0
            go_wp2_with fail
            go_round
            case rel => exact ⟨k + 1, _, _, _, _, _, by have h := HI.out; rw [rf_zero H48.out HN.out] at h; exact h, by omega, rfl, rfl, by go_num, rfl, rfl, rfl, by go_num, by go_num, rfl⟩
            case measure => simp [intOf]; omega
          · have HD : Hid (rfStep ⟨xm, xn, xd, xs, xg⟩ s[k] = ⟨xm * 10 + (s[k].toNat - 48), xn + 1, xd, xs, true⟩) := rf_dig (by have := H48.out; omega) (fun h => hn0 h.2)
            have hn1 : 1 ≤ (xn : Int) := by omega
            clear hn0
            have gb : ((xn : Int) == 0) = false := by rw [beq_eq_false_iff_ne]; omega
            go_wp2_with fail
            go_round
            case rel => exact ⟨k + 1, _, _, _, _, _, by have h := HI.out; rw [HD.out] at h; exact h, by omega, by have := H48.out; go_num, rfl, by go_num, rfl, rfl, rfl, by go_num, by go_num, rfl⟩
            case measure => simp [intOf]; omega
        · have HD : Hid (rfStep ⟨xm, xn, xd, xs, xg⟩ s[k] = ⟨xm * 10 + (s[k].toNat - 48), xn + 1, xd, xs, true⟩) := rf_dig h48 (fun h => hz48 h.1)
          have gne : ¬ (s[k].toNat : Int) = 48 := by omega
          go_wp2_with fail
          go_round
          case rel => first | exact ⟨k + 1, _, _, _, _, _, by have h := HI.out; rw [HD.out] at h; exact h, by omega, by skip; go_num, rfl, by go_num, rfl, rfl, rfl, by go_num, by go_num, rfl⟩ | (refine ⟨trivial, ?_⟩; (repeat apply Exists.intro); exact ⟨⟨k + 1, _, _, _, _, _, by have h := HI.out; rw [HD.out] at h; exact h, by omega, by skip; go_num, rfl, by go_num, rfl, rfl, rfl, by go_num, by go_num, rfl⟩, rfl⟩)
          case measure => simp [intOf]; omega
    · obtain rfl : k = s.size := by omega
      have hx := hi.done (by simp)
      have hnd : xn ≤ s.size := hi.nd
      have hlo : -(s.size : Int) ≤ xd := hi.lo
      have hhi : xd ≤ s.size := hi.hi
      subst hx
      obtain rfl : xg = true := hdig
      obtain rfl : xs = false := hdot
      have hmz : ¬ (xm : Int) = 0 := fun h => hm (by show xm = 0; omega)
      clear hi hI hm
      go_wp2_with fail
      refine bodyPost_ret (v := .tuple #[.int .u64 xm, .int .i64 (0), .bool true, .bool false, .bool false, .int .i64 s.size, .bool true]) (by simp [results, Tryz.results127, go_sem]) rfl ⟨rfl, rfl⟩

set_option maxRecDepth 100000 in
set_option maxHeartbeats 3200000 in
theorem readFloat_121 (s : ByteArray) (fin : Rf) (w : World) (hs : 0 < s.size) (hs9 : s.size ≤ 9) (hsz2 : 1 < s.size) (hc : (s[0].toNat : Int) = 45) (hc0 : 48 ≤ (s[1].toNat : Int)) (hc1 : (s[1].toNat : Int) ≤ 57)
    (hI : RfInv s.data.toList fin 1 rf0) (hdig : fin.dig = true) (hdot : fin.dot = true) (hm : ¬ fin.mant = 0) (ha : 3 < s.size) (hz : (s[1].toNat : Int) = 48) (hy0 : 46 ≤ (s[2].toNat : Int)) (hy1 : (s[2].toNat : Int) ≤ 57) :
    Calls Tryz.prog 127 #[.string s] w fun e w' => e = .returned (.tuple #[.int .u64 fin.mant, .int .i64 (fin.dp - fin.nd), .bool true, .bool false, .bool false, .int .i64 s.size, .bool true]) ∧ w = w' := by
  have b1 : ((s[0].toNat : Int) == 43) = false := by rw [beq_eq_false_iff_ne]; omega
  have b2 : ((s[0].toNat : Int) == 45) = true := by rw [beq_iff_eq]; omega
  have b3 : ((s[2].toNat : Int) == 120) = false := by rw [beq_eq_false_iff_ne]; omega
  have hne : ¬ s = ByteArray.empty := fun e => by subst e; simp at hs
  go_enter Tryz.func127, Tryz.ntmps127
  go_wp2_with fail
  go_step3
  go_wp2_with (go_at_call 143; refine (lower_dig _ _ (by omega) (by omega)).mono ?_; rintro e w' ⟨rfl, rfl⟩)
  go_step3
  go_wp2_with fail
  go_loop [2, 5, 7, 9, 13, 14, 15, 16, 17] (fun m t i u sd sg nd nm dp => ∃ (k xm xn : Nat) (xd : Int) (xs xg : Bool), RfInv s.data.toList fin k ⟨xm, xn, xd, xs, xg⟩ ∧ k ≤ s.size ∧ m = .int .u64 (xm : Int) ∧ t = .bool false ∧ i = .int .i64 k ∧ u = .bool false ∧ sd = .bool xs ∧ sg = .bool xg ∧ nd = .int .i64 xn ∧ nm = .int .i64 xn ∧ dp = .int .i64 xd) (fun _ _ i _ _ _ _ _ _ => s.size - (intOf i).toNat)
  case atStart => exact ⟨1, 0, 0, 0, false, false, hI, by omega, rfl, rfl, rfl, rfl, rfl, rfl, rfl, rfl, rfl⟩
  case round =>
    obtain ⟨k, xm, xn, xd, xs, xg, hi, hk, rfl, rfl, rfl, rfl, rfl, rfl, rfl, rfl, rfl⟩ := hrel
    by_cases hlt : k < s.size
    · obtain ⟨hi2, hcc⟩ := hi.next (drop_at s k hlt)
      have hm9 : xm < 1000000000 := hi.mant_lt (by omega)
      have hnd : xn ≤ k := hi.nd
      have hlo : -(k : Int) ≤ xd := hi.lo
      have hhi : xd ≤ k := hi.hi
      have HI : Hid (RfInv s.data.toList fin (k + 1) (rfStep ⟨xm, xn, xd, xs, xg⟩ s[k])) := hi2
      clear hi hi2 hI hc0 hc1 hc hz hy0 hy1
      rcases hcc with ⟨h46, hxd⟩ | ⟨h48, h57⟩
      · obtain rfl : xs = false := hxd
        have g46 : (s[k].toNat : Int) = 46 := by omega
        have H46 : Hid (s[k].toNat = 46) := h46
        clear h46
        go_wp2_with fail
        go_round
        case rel => exact ⟨k + 1, _, _, _, _, _, by have h := HI.out; rw [rf_dot H46.out] at h; exact h, by omega, rfl, rfl, by go_num, rfl, rfl, rfl, rfl, rfl, rfl⟩
        case measure => simp [intOf]; omega
      · have g48 : 48 ≤ (s[k].toNat : Int) := by omega
        have g57 : (s[k].toNat : Int) ≤ 57 := by omega
        by_cases hz48 : s[k].toNat = 48
        · have g : (s[k].toNat : Int) = 48 := by omega
          have H48 : Hid (s[k].toNat = 48) := hz48
          clear hz48 h48 h57 g48 g57
          by_cases hn0 : xn = 0
          · have HN : Hid (xn = 0) := hn0
            go_wp2_with fail
            go_round
            case rel => exact ⟨k + 1, _, _, _, _, _, by have h := HI.out; rw [rf_zero H48.out HN.out] at h; exact h, by omega, rfl, rfl, by go_num, rfl, rfl, rfl, by go_num, by go_num, rfl⟩
            case measure => simp [intOf]; omega
          · have HD : Hid (rfStep ⟨xm, xn, xd, xs, xg⟩ s[k] = ⟨xm * 10 + (s[k].toNat - 48), xn + 1, xd, xs, true⟩) := rf_dig (by have := H48.out; omega) (fun h => hn0 h.2)
            have hn1 : 1 ≤ (xn : Int) := by omega
            clear hn0
            have gb : ((xn : Int) == 0) = false := by rw [beq_eq_false_iff_ne]; omega
            go_wp2_with fail
            go_round
            case rel => exact ⟨k + 1, _, _, _, _, _, by have h := HI.out; rw [HD.out] at h; exact h, by omega, by have := H48.out; go_num, rfl, by go_num, rfl, rfl, rfl, by go_num, by go_num, rfl⟩
            case measure => simp [intOf]; omega
        · have HD : Hid (rfStep ⟨xm, xn, xd, xs, xg⟩ s[k] = ⟨xm * 10 + (s[k].toNat - 48), xn + 1, xd, xs, true⟩) := rf_dig h48 (fun h => hz48 h.1)
          have gne : ¬ (s[k].toNat : Int) = 48 := by omega
          go_wp2_with fail
          go_round
          case rel => first | exact ⟨k + 1, _, _, _, _, _, by have h := HI.out; rw [HD.out] at h; exact h, by omega, by skip; go_num, rfl, by go_num, rfl, rfl, rfl, by go_num, by go_num, rfl⟩ | (refine ⟨trivial, ?_⟩; (repeat apply Exists.intro); exact ⟨⟨k + 1, _, _, _, _, _, by have h := HI.out; rw [HD.out] at h; exact h, by omega, by skip; go_num, rfl, by go_num, rfl, rfl, rfl, by go_num, by go_num, rfl⟩, rfl⟩)
          case measure => simp [intOf]; omega
    · obtain rfl : k = s.size := by omega
      have hx := hi.done (by simp)
      have hnd : xn ≤ s.size := hi.nd
      have hlo : -(s.size : Int) ≤ xd := hi.lo
      have hhi : xd ≤ s.size := hi.hi
      subst hx
      obtain rfl : xg = true := hdig
      obtain rfl : xs = true := hdot
      have hmz : ¬ (xm : Int) = 0 := fun h => hm (by show xm = 0; omega)
      clear hi hI hm
      go_wp2_with fail
      refine bodyPost_ret (v := .tuple #[.int .u64 xm, .int .i64 (xd - xn), .bool true, .bool false, .bool false, .int .i64 s.size, .bool true]) (by simp [results, Tryz.results127, go_sem]) rfl ⟨rfl, rfl⟩

end Go.Proofs.YtcmeaogbfecjkaaGreatDoor
