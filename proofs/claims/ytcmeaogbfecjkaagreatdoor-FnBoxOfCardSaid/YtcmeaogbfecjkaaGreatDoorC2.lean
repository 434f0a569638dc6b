/- zzSplit2 (a part at its first colon), TrimSpace of plain texts. -/
import Derived.Test.YtcmeaogbfecjkaaGreatDoorC1
import Derived.Lib.IndexBytes
import Derived.Lib.ConvBytes
namespace Go.Proofs.YtcmeaogbfecjkaaGreatDoor
open Go.RowKit

theorem cut_front (s : ByteArray) (p r : List UInt8) (h : s.data.toList = p ++ r) : s.extract 0 p.length = ⟨p.toArray⟩ := by
  apply ByteArray.ext
  apply Array.toList_inj.1
  rw [Lib.extract_data, h]
  simp
theorem cut_back (s : ByteArray) (p r : List UInt8) (h : s.data.toList = p ++ r) : s.extract p.length s.size = ⟨r.toArray⟩ := by
  apply ByteArray.ext
  apply Array.toList_inj.1
  rw [Lib.extract_to_end, h]
  simp

set_option maxHeartbeats 800000 in
theorem split2 (s : ByteArray) (p r : List UInt8) (h : s.data.toList = p ++ 58 :: r) (hn : (58 : UInt8) ∉ p) (w : World) (hs : s.size ≤ 1000) :
    Calls Tryz.prog 34 #[.string s] w fun e w' => e = .returned (.slice (some ⟨w.heap.size, 0, none⟩) 2 2) ∧ (w.alloc (.cells #[bs p, bs r] 9)).drew = w' := by
  obtain ⟨hl, hat, hbe⟩ := at_split s p r 58 h hn
  have HAT := Lib.hid hat
  have HBE := Lib.hid hbe
  have H1 := Lib.hid (cut_front s p (58 :: r) h)
  have H2 := Lib.hid (cut_back s (p ++ [58]) r (by rw [h]; simp))
  simp only [List.length_append, List.length_singleton] at H2
  clear hat hbe h hn
  generalize p.length = n at *
  go_enter Tryz.func34, Tryz.ntmps34
  go_wp2_with fail
  go_loop [3] (fun i => ∃ k : Nat, k ≤ n ∧ i = .int .i64 k) (fun i => s.size + 1 - (intOf i).toNat)
  case atStart => exact ⟨0, Nat.zero_le _, rfl⟩
  case round =>
    obtain ⟨k, hk, rfl⟩ := hrel
    by_cases hlt : k < n
    · have b : ((s[k].toNat : Int) == 58) = false := by
        have := HBE.out k hlt (by omega)
        rw [beq_eq_false_iff_ne]
        intro e
        exact this (UInt8.toNat_inj.1 (by show s[k].toNat = 58; omega))
      go_wp2_with fail
      go_round
      case rel => exact ⟨k + 1, by omega, by go_num⟩
      case measure => simp [intOf]; omega
    · obtain rfl : k = n := by omega
      have b : ((s[k].toNat : Int) == 58) = true := by
        rw [HAT.out hl]; rfl
      have b1 : IntKind.i64.wrap ((k : Int) + 1) = k + 1 := IntWalk.i64_in _ (by omega)
      have b2 : (0 : Int) ≤ (k : Int) + 1 := by omega
      have b3 : ((k : Int) + 1).toNat = k + 1 := by omega
      go_wp2_with fail
      go_region
      go_wp2_with fail
      go_ret
      exact ⟨rfl, by rw [H1.out, H2.out]⟩

/-- What TrimSpace reads of its table. -/
structure Asc (w : World) : Prop where
  no : ∀ c : Nat, 33 ≤ c → c < 128 → w.cell? ⟨0, c, none⟩ = some (.int .u8 0)
  yes : w.cell? ⟨0, 32, none⟩ = some (.int .u8 1)

theorem Asc.mono {w w' : World} (h : Asc w) (hb : Below w.heap.size w w') : Asc w' := by
  have k := World.block_lt_of_cell? w _ h.yes
  exact ⟨fun c h1 h2 => (hb.cell (p := ⟨0, c, none⟩) k).trans (h.no c h1 h2), (hb.cell (p := ⟨0, 32, none⟩) k).trans h.yes⟩

theorem bytes_below (w : World) (s : ByteArray) : Below w.heap.size w (Lib.bytesWorld w 5 s) :=
  ⟨rfl, rfl, rfl, by rw [Lib.bytesWorld_size]; omega, fun k hk => Lib.bytesWorld_at_old w 5 s k hk⟩

/-- '[]byte(s)': a new row that holds the bytes; nothing else is turned. -/
theorem bytes_of (s : ByteArray) (w : World) : ∃ w1 cap, (convert 9 23 (.string s)).run Tryz.prog w = .ok (.slice (some ⟨w.heap.size, 0, none⟩) s.size cap) w1 ∧ Below w.heap.size w w1 ∧
    (∀ j (hj : j < s.size), w1.cell? ⟨w.heap.size, j, none⟩ = some (.int .u8 s[j].toNat)) ∧ s.size ≤ cap ∧ w1.heap.size = w.heap.size + 1 := by
  refine ⟨_, _, Lib.run_convert_string_bytes w 9 23 5 s Tryz.underlying9 Tryz.underlying23 Tryz.underlying5, bytes_below w s, fun j hj => ?_, grownCap_ge _ _ _ _, Lib.bytesWorld_size w 5 s⟩
  rw [Lib.bytesWorld_cell w 5 s j hj]
  have : s.data.toList.getD j 0 = s[j] := by
    rw [List.getD_eq_getElem?_getD, List.getElem?_eq_getElem (by simpa using hj)]
    rfl
  rw [this]

set_option maxRecDepth 100000 in
set_option maxHeartbeats 800000 in
theorem trim_plain (s : ByteArray) (n : Nat) (hn : s.size = n + 1) (w : World) (hA : Asc w) (hs1 : n ≤ 1000) (a0 : 33 ≤ s[0].toNat) (a1 : s[0].toNat < 128) (z0 : 33 ≤ s[n].toNat) (z1 : s[n].toNat < 128) :
    Calls Tryz.prog 35 #[.string s] w fun e w' => e = .returned (.string s) ∧ Below w.heap.size w w' := by
  have hne : ¬ s = ByteArray.empty := fun e => by subst e; simp at hn
  obtain ⟨w1, cap, hrun, hb, hcell, hcap, hsz⟩ := bytes_of s w
  have hA1 := hA.mono hb
  have hc0 := hA1.no _ a0 a1
  have hcz := hA1.no _ z0 z1
  have hb0 := hcell 0 (by omega)
  have HB := Lib.hid hb
  have hx : s.extract 0 (n + 1) = s := by
    rw [← hn]; exact ByteArray.extract_zero_size
  have b2 : (((n : Int) + 1).toNat) = n + 1 := by omega
  clear hb hcell hsz
  go_enter Tryz.func35, Tryz.ntmps35
  go_wp2_with fail
  refine wp_loop_rounds 1 ?_
  rw [rounds_succ]
  go_wp2_with fail
  refine wp_loop_rounds 1 ?_
  rw [rounds_succ]
  go_wp2_with fail
  go_ret
  exact ⟨rfl, HB.out⟩
set_option maxRecDepth 100000 in
set_option maxHeartbeats 1600000 in
theorem trim_sp (s T : ByteArray) (n : Nat) (hn : s.size = n + 1 + 1) (hT : T.size = n + 1) (hcut : s.extract 1 (n + 1 + 1) = T) (w : World) (hA : Asc w) (hs1 : n ≤ 1000) (h32 : s[0].toNat = 32) (a0 : 33 ≤ s[1].toNat) (a1 : s[1].toNat < 128) (z0 : 33 ≤ T[n].toNat) (z1 : T[n].toNat < 128) :
    Calls Tryz.prog 35 #[.string s] w fun e w' => e = .returned (.string T) ∧ Below w.heap.size w w' := by
  have hne : ¬ s = ByteArray.empty := fun e => by subst e; simp at hn
  obtain ⟨w1, cap, hrun, hb, hcell, hcap, hsz⟩ := bytes_of s w
  have hA1 := hA.mono hb
  have hc0 := hA1.yes
  have hc1 := hA1.no _ a0 a1
  have hcz := hA1.no _ z0 z1
  have hb0 := hcell 0 (by omega)
  rw [h32] at hb0
  have hb1 := hcell 1 (by omega)
  have HB := Lib.hid hb
  have hx : T.extract 0 (n + 1) = T := by
    rw [← hT]; exact ByteArray.extract_zero_size
  have b2 : (((n : Int) + 1).toNat) = n + 1 := by omega
  clear hb hcell hsz h32
  go_enter Tryz.func35, Tryz.ntmps35
  go_wp2_with fail
  refine wp_loop_rounds 2 ?_
  rw [rounds_succ]
  go_wp2_with fail
  rw [rounds_succ]
  go_wp2_with fail
  refine wp_loop_rounds 1 ?_
  rw [rounds_succ]
  go_wp2_with fail
  go_outline
  go_ret
  exact ⟨rfl, HB.out⟩

end Go.Proofs.YtcmeaogbfecjkaaGreatDoor
