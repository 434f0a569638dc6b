/- strconv.ParseFloat at a number of quarters (from -400, or up to 4,000): that number; nothing is turned. -/
import Derived.Test.YtcmeaogbfecjkaaGreatDoorB3
import Derived.Test.YtcmeaogbfecjkaaGreatDoorF3
import Derived.Test.YtcmeaogbfecjkaaGreatDoorF5
namespace Go.Proofs.YtcmeaogbfecjkaaGreatDoor
open Go.RowKit

theorem list_head (l : List UInt8) (h : 0 < l.length) : l[0] = l.headD 0 := by
  cases l with
  | nil => simp at h
  | cons a t => rfl

abbrev SpecSays (s : ByteArray) : Prop := ∀ w : World, Calls Tryz.prog 126 #[.string s] w fun e w' => e = .returned (.tuple #[.float .f64 0, .int .i64 0, .bool false]) ∧ w = w'
abbrev ReadSays (s : ByteArray) (m : Nat) (x : Int) (neg : Bool) : Prop := ∀ w : World, Calls Tryz.prog 127 #[.string s] w fun e w' =>
  e = .returned (.tuple #[.int .u64 m, .int .i64 x, .bool neg, .bool false, .bool false, .int .i64 s.size, .bool true]) ∧ w = w'

set_option maxRecDepth 100000 in
set_option maxHeartbeats 800000 in
theorem atof_pos (s : ByteArray) (m : Nat) (x : Int) (r : Nat) (w : World) (hV : Vars w) (hm0 : m ≠ 0) (hm : m < 4503599627370496) (hx0 : -2 ≤ x) (hx1 : x ≤ 0)
    (hs : Hid (SpecSays s)) (hr : Hid (ReadSays s m x false)) (hat : Hid (atofB m x false = some r)) :
    Calls Tryz.prog 118 #[.string s] w fun e w' => e = .returned (.tuple #[.float .f64 r, .int .i64 s.size, .nilIface]) ∧ w = w' := by
  have h1 := hV.opt
  have hmz : ((m : Int) == 0) = false := by rw [beq_eq_false_iff_ne]; omega
  go_enter Tryz.func118, Tryz.ntmps118
  go_wp2_with (first
    | (go_at_call 126; refine (hs.out _).mono ?_; rintro e w' ⟨rfl, rfl⟩)
    | (go_at_call 127; refine (hr.out _).mono ?_; rintro e w' ⟨rfl, rfl⟩)
    | (go_at_call 135; go_in)
    | (go_at_call 137; refine (exact_any _ _ _ _ hm hat.out _ hV).mono ?_; rintro e w' ⟨rfl, rfl⟩))
  go_ret3
  exact ⟨rfl, rfl⟩
set_option maxRecDepth 100000 in
set_option maxHeartbeats 800000 in
theorem atof_neg (s : ByteArray) (m : Nat) (x : Int) (r : Nat) (w : World) (hV : Vars w) (hm0 : m ≠ 0) (hm : m < 4503599627370496) (hx0 : -2 ≤ x) (hx1 : x ≤ 0)
    (hs : Hid (SpecSays s)) (hr : Hid (ReadSays s m x true)) (hat : Hid (atofB m x true = some r)) :
    Calls Tryz.prog 118 #[.string s] w fun e w' => e = .returned (.tuple #[.float .f64 r, .int .i64 s.size, .nilIface]) ∧ w = w' := by
  have h1 := hV.opt
  have hmz : ((m : Int) == 0) = false := by rw [beq_eq_false_iff_ne]; omega
  go_enter Tryz.func118, Tryz.ntmps118
  go_wp2_with (first
    | (go_at_call 126; refine (hs.out _).mono ?_; rintro e w' ⟨rfl, rfl⟩)
    | (go_at_call 127; refine (hr.out _).mono ?_; rintro e w' ⟨rfl, rfl⟩)
    | (go_at_call 135; go_in)
    | (go_at_call 137; refine (exact_any _ _ _ _ hm hat.out _ hV).mono ?_; rintro e w' ⟨rfl, rfl⟩))
  go_ret3
  exact ⟨rfl, rfl⟩

abbrev AtofSays (s : ByteArray) (r : Nat) (w : World) : Prop := Calls Tryz.prog 118 #[.string s] w fun e w' => e = .returned (.tuple #[.float .f64 r, .int .i64 s.size, .nilIface]) ∧ w = w'

theorem parse_of (s : ByteArray) (r : Nat) (w : World) (h : Hid (AtofSays s r w)) :
    Calls Tryz.prog 60 #[.string s, .int .i64 64] w fun e w' => e = .returned (.tuple #[.float .f64 r, .nilIface]) ∧ w = w' := by
  go_enter Tryz.func60, Tryz.ntmps60
  go_wp2_with (first
    | (go_at_call 83; go_in)
    | (go_at_call 104; go_in)
    | (go_at_call 118; refine (h.out).mono ?_; rintro e w' ⟨rfl, rfl⟩))
  go_ret2
  exact ⟨rfl, rfl⟩

/-- The text of a plain decimal is read by readFloat as the fold says. -/
theorem read_bare_pos (s : ByteArray) (l : List UInt8) (hl : s.data.toList = l) (hb : bareOk l = true) (fin : Rf) (hf : l.foldl rfStep rf0 = fin) (hdig : fin.dig = true) (hm : fin.mant ≠ 0) :
    ReadSays s fin.mant (rfExp fin) false := by
  intro w
  unfold bareOk digB at hb
  simp only [Bool.and_eq_true, decide_eq_true_eq] at hb
  obtain ⟨⟨hlen, hd0, hd1⟩, hok⟩ := hb
  have hsz : s.size = l.length := by rw [← hl]; simp
  have hpos : 0 < s.size := by
    rw [hsz]
    cases l with
    | nil => simp at hd0
    | cons a t => simp
  have e0 : s[0] = l.headD 0 := by
    rw [idx_list s 0 hpos, list_head _ (by rw [hl]; omega), hl]
  have hc0 : 48 ≤ (s[0].toNat : Int) := by rw [e0]; omega
  have hc1 : (s[0].toNat : Int) ≤ 57 := by rw [e0]; omega
  have hI : RfInv s.data.toList fin 0 rf0 := ⟨by rw [List.drop_zero, hl]; exact hok, by rw [List.drop_zero, hl]; exact hf, by decide, by decide, by decide, by decide⟩
  have second : ∀ (h2 : 2 < s.size), 46 ≤ (s[1].toNat : Int) ∧ (s[1].toNat : Int) ≤ 57 := by
    intro h2
    obtain ⟨h3, h4⟩ := hI.next (drop_at s 0 hpos)
    obtain ⟨_, h5⟩ := h3.next (drop_at s 1 (by omega))
    rcases h5 with ⟨h5, _⟩ | ⟨h5, h6⟩
    · omega
    · omega
  have hE : rfExp fin = if fin.dot then fin.dp - fin.nd else 0 := by unfold rfExp; cases fin.dot <;> simp
  rw [hE]
  cases hdt : fin.dot with
  | false =>
    simp only [Bool.false_eq_true, if_false]
    by_cases ha : 2 < s.size
    · by_cases hz : (s[0].toNat : Int) = 48
      · exact readFloat_020 s fin w hpos (by omega) hc0 hc1 hI hdig hdt hm ha hz (second ha).1 (second ha).2
      · exact readFloat_010 s fin w hpos (by omega) hc0 hc1 hI hdig hdt hm ha hz
    · exact readFloat_000 s fin w hpos (by omega) hc0 hc1 hI hdig hdt hm ha
  | true =>
    simp only [if_true]
    by_cases ha : 2 < s.size
    · by_cases hz : (s[0].toNat : Int) = 48
      · exact readFloat_021 s fin w hpos (by omega) hc0 hc1 hI hdig hdt hm ha hz (second ha).1 (second ha).2
      · exact readFloat_011 s fin w hpos (by omega) hc0 hc1 hI hdig hdt hm ha hz
    · exact readFloat_001 s fin w hpos (by omega) hc0 hc1 hI hdig hdt hm ha

theorem read_bare_neg (s : ByteArray) (l : List UInt8) (hl : s.data.toList = 45 :: l) (hb : bareOk l = true) (fin : Rf) (hf : l.foldl rfStep rf0 = fin) (hdig : fin.dig = true) (hm : fin.mant ≠ 0) :
    ReadSays s fin.mant (rfExp fin) true := by
  intro w
  unfold bareOk digB at hb
  simp only [Bool.and_eq_true, decide_eq_true_eq] at hb
  obtain ⟨⟨hlen, hd0, hd1⟩, hok⟩ := hb
  have hsz : s.size = l.length + 1 := by
    have := congrArg List.length hl
    simpa using this
  have hpos : 1 < s.size := by
    rw [hsz]
    cases l with
    | nil => simp at hd0
    | cons a t => simp
  have e0 : s[0] = 45 := by
    rw [idx_list s 0 (by omega)]
    simp [hl]
  have e1 : s[1] = l.headD 0 := by
    rw [idx_list s 1 hpos]
    cases l with
    | nil => simp at hsz; omega
    | cons a t => simp [hl]
  have hc : (s[0].toNat : Int) = 45 := by rw [e0]; rfl
  have hc0 : 48 ≤ (s[1].toNat : Int) := by rw [e1]; omega
  have hc1 : (s[1].toNat : Int) ≤ 57 := by rw [e1]; omega
  have hd : s.data.toList.drop 1 = l := by rw [hl]; rfl
  have hI : RfInv s.data.toList fin 1 rf0 := ⟨by rw [hd]; exact hok, by rw [hd]; exact hf, by decide, by decide, by decide, by decide⟩
  have second : ∀ (h2 : 3 < s.size), 46 ≤ (s[2].toNat : Int) ∧ (s[2].toNat : Int) ≤ 57 := by
    intro h2
    obtain ⟨h3, h4⟩ := hI.next (drop_at s 1 hpos)
    obtain ⟨_, h5⟩ := h3.next (drop_at s 2 (by omega))
    rcases h5 with ⟨h5, _⟩ | ⟨h5, h6⟩
    · omega
    · omega
  have hE : rfExp fin = if fin.dot then fin.dp - fin.nd else 0 := by unfold rfExp; cases fin.dot <;> simp
  rw [hE]
  cases hdt : fin.dot with
  | false =>
    simp only [Bool.false_eq_true, if_false]
    by_cases ha : 3 < s.size
    · by_cases hz : (s[1].toNat : Int) = 48
      · exact readFloat_120 s fin w (by omega) (by omega) hpos hc hc0 hc1 hI hdig hdt hm ha hz (second ha).1 (second ha).2
      · exact readFloat_110 s fin w (by omega) (by omega) hpos hc hc0 hc1 hI hdig hdt hm ha hz
    · exact readFloat_100 s fin w (by omega) (by omega) hpos hc hc0 hc1 hI hdig hdt hm ha
  | true =>
    simp only [if_true]
    by_cases ha : 3 < s.size
    · by_cases hz : (s[1].toNat : Int) = 48
      · exact readFloat_121 s fin w (by omega) (by omega) hpos hc hc0 hc1 hI hdig hdt hm ha hz (second ha).1 (second ha).2
      · exact readFloat_111 s fin w (by omega) (by omega) hpos hc hc0 hc1 hI hdig hdt hm ha hz
    · exact readFloat_101 s fin w (by omega) (by omega) hpos hc hc0 hc1 hI hdig hdt hm ha

/-- strconv.ParseFloat reads a positive number of quarters. -/
theorem parse_pos (n : Nat) (s : ByteArray) (hs : s.data.toList = qtrL n) (w : World) (hV : Vars w) (h1 : 1 ≤ n) (h2 : n ≤ 4000) :
    Calls Tryz.prog 60 #[.string s, .int .i64 64] w fun e w' => e = .returned (.tuple #[.float .f64 (qf n), .nilIface]) ∧ w = w' := by
  have hk := okP_all n h1 (by omega)
  unfold okP at hk
  simp only [Bool.and_eq_true, decide_eq_true_eq, bne_iff_ne, beq_iff_eq] at hk
  obtain ⟨⟨⟨⟨⟨⟨⟨⟨⟨⟨⟨⟨⟨⟨⟨⟨⟨hb, hdig⟩, hm⟩, hlt⟩, hat⟩, hx1⟩, hx0⟩, _⟩, _⟩, _⟩, _⟩, _⟩, _⟩, _⟩, _⟩, _⟩, _⟩, _⟩ := hk
  rw [qtrL_qtrF n (by omega)] at hs
  have hread := read_bare_pos s _ hs hb _ rfl hdig hm
  have hbb := hb
  unfold bareOk digB at hbb
  simp only [Bool.and_eq_true, decide_eq_true_eq] at hbb
  obtain ⟨⟨hlen, hd0, hd1⟩, _⟩ := hbb
  have hsz : s.size = (qtrF n).length := by rw [← hs]; simp
  have hpos : 0 < s.size := by
    rw [hsz]
    cases h : qtrF n with
    | nil => rw [h] at hd0; simp at hd0
    | cons a t => simp
  have e0 : s[0] = (qtrF n).headD 0 := by
    rw [idx_list s 0 hpos, list_head _ (by rw [hs]; omega), hs]
  have hspec : SpecSays s := fun w => special_pos s w hpos (by rw [e0]; omega) (by rw [e0]; omega)
  exact parse_of s _ w (atof_pos s _ _ _ w hV hm hlt hx0 hx1 hspec hread hat)

/-- .. and a negative one. -/
theorem parse_neg (n : Nat) (s : ByteArray) (hs : s.data.toList = 45 :: qtrL n) (w : World) (hV : Vars w) (h1 : 1 ≤ n) (h2 : n ≤ 400) :
    Calls Tryz.prog 60 #[.string s, .int .i64 64] w fun e w' => e = .returned (.tuple #[.float .f64 (qf (-(n : Int))), .nilIface]) ∧ w = w' := by
  have hk := okN_all n h1 (by omega)
  unfold okN at hk
  simp only [Bool.and_eq_true, decide_eq_true_eq, bne_iff_ne, beq_iff_eq] at hk
  obtain ⟨⟨⟨⟨⟨⟨⟨⟨⟨⟨⟨⟨⟨⟨⟨⟨⟨hb, hdig⟩, hm⟩, hlt⟩, hat⟩, hx1⟩, hx0⟩, _⟩, _⟩, _⟩, _⟩, _⟩, _⟩, _⟩, _⟩, _⟩, _⟩, _⟩ := hk
  rw [qtrL_qtrF n (by omega)] at hs
  have hread := read_bare_neg s _ hs hb _ rfl hdig hm
  have hbb := hb
  unfold bareOk digB at hbb
  simp only [Bool.and_eq_true, decide_eq_true_eq] at hbb
  obtain ⟨⟨hlen, hd0, hd1⟩, _⟩ := hbb
  have hsz : s.size = (qtrF n).length + 1 := by
    have := congrArg List.length hs
    simpa using this
  have hpos : 1 < s.size := by
    rw [hsz]
    cases h : qtrF n with
    | nil => rw [h] at hd0; simp at hd0
    | cons a t => simp
  have e0 : s[0] = 45 := by
    rw [idx_list s 0 (by omega)]
    simp [hs]
  have e1 : s[1] = (qtrF n).headD 0 := by
    rw [idx_list s 1 hpos]
    cases h : qtrF n with
    | nil => rw [h] at hsz; simp at hsz; omega
    | cons a t => rw [h] at hs; simp [hs]
  have hspec : SpecSays s := fun w => special_neg s w hpos (by rw [e0]; rfl) (by rw [e1]; omega) (by rw [e1]; omega)
  exact parse_of s _ w (atof_neg s _ _ _ w hV hm hlt hx0 hx1 hspec hread hat)
#print axioms parse_neg
end Go.Proofs.YtcmeaogbfecjkaaGreatDoor
