/- The table of a zoom's parameters: made anew, five names, five functions. -/
import Derived.Test.YtcmeaogbfecjkaaGreatDoorA1
import Derived.Handy
import Derived.Lib.Hide
import Derived.WideMake
namespace Go.Proofs.YtcmeaogbfecjkaaGreatDoor
open Go.RowKit

abbrev kFactor : ByteArray := ⟨#[102, 97, 99, 116, 111, 114]⟩
abbrev kHmargin : ByteArray := ⟨#[104, 109, 97, 114, 103, 105, 110]⟩
abbrev kVmargin : ByteArray := ⟨#[118, 109, 97, 114, 103, 105, 110]⟩
abbrev kBgcolor : ByteArray := ⟨#[98, 103, 99, 111, 108, 111, 114]⟩
abbrev kBorder : ByteArray := ⟨#[98, 111, 114, 100, 101, 114]⟩
abbrev fnV (n : Nat) : Value := .func (.func n) #[] #[]
abbrev e0 : MapEntry := ⟨.string kFactor, fnV 53, 0⟩
abbrev e1 : MapEntry := ⟨.string kHmargin, fnV 54, 1⟩
abbrev e2 : MapEntry := ⟨.string kVmargin, fnV 55, 2⟩
abbrev e3 : MapEntry := ⟨.string kBgcolor, fnV 56, 3⟩
abbrev e4 : MapEntry := ⟨.string kBorder, fnV 57, 4⟩

theorem ins_run (w : World) (es : Array MapEntry) (clock : Nat) (key : ByteArray) (v : Value) (hn : Instr.findNow .string (.string key) es.toList 0 = some none) :
    (Instr.mapUpdate 92 (.map (some w.heap.size)) (.string key) v).run Tryz.prog (w.alloc (.map es clock)) = .ok () (w.alloc (.map (es.push ⟨.string key, v, clock⟩) (clock + 1))) := by
  have hb : (w.alloc (.map es clock)).heap[w.heap.size]? = some (.map es clock) := heap_alloc_new w _
  have hset : ({ w.alloc (.map es clock) with heap := (w.alloc (.map es clock)).heap.setIfInBounds w.heap.size (.map (es.push ⟨.string key, v, clock⟩) (clock + 1)) } : World) = w.alloc (.map (es.push ⟨.string key, v, clock⟩) (clock + 1)) := by
    show ({ w.alloc (.map es clock) with heap := (w.heap.push (.map es clock)).setIfInBounds w.heap.size _ } : World) = { w with heap := w.heap.push _ }
    have : (w.heap.push (.map es clock)).setIfInBounds w.heap.size (.map (es.push ⟨.string key, v, clock⟩) (clock + 1)) = w.heap.push (.map (es.push ⟨.string key, v, clock⟩) (clock + 1)) := by
      apply Array.toList_inj.1
      simp
    rw [this]
    rfl
  have hu : Tryz.prog.underlying 92 = some (.map 9 114) := by kernel_rfl
  have hck : ∀ w, (Instr.checkKey false 10000 9 (.string key)).run Tryz.prog w = .ok () w := fun w => by
    unfold Instr.checkKey
    simp [run_underlying Tryz.underlying9]
  have hfk : ∀ w, (Instr.findKey 9 (.string key) es.toList).run Tryz.prog w = .ok none w := fun w => by
    simp [Instr.findKey, run_underlying Tryz.underlying9, hn]
  simp [Instr.mapUpdate, run_underlying hu, MapKept.run_getObj_map hb, hck, hfk, MapKept.run_setObj_map _ hb]
  exact hset

set_option maxRecDepth 100000 in
set_option maxHeartbeats 800000 in
theorem zoomMap_made (w : World) : Calls Tryz.prog 38 #[] w fun e w' => e = .returned (.map (some w.heap.size)) ∧ w.alloc (.map #[e0, e1, e2, e3, e4] 5) = w' := by
  have hmm := @run_makeMap Tryz.prog
  have i0 : (Instr.mapUpdate 92 (.map (some w.heap.size)) (.string kFactor) (fnV 53)).run Tryz.prog (w.alloc (.map #[] 0)) = .ok () (w.alloc (.map #[e0] 1)) := ins_run w #[] 0 kFactor (fnV 53) (by kernel_rfl)
  have i1 : (Instr.mapUpdate 92 (.map (some w.heap.size)) (.string kHmargin) (fnV 54)).run Tryz.prog (w.alloc (.map #[e0] 1)) = .ok () (w.alloc (.map #[e0, e1] 2)) := ins_run w #[e0] 1 kHmargin (fnV 54) (by kernel_rfl)
  have i2 : (Instr.mapUpdate 92 (.map (some w.heap.size)) (.string kVmargin) (fnV 55)).run Tryz.prog (w.alloc (.map #[e0, e1] 2)) = .ok () (w.alloc (.map #[e0, e1, e2] 3)) := ins_run w #[e0, e1] 2 kVmargin (fnV 55) (by kernel_rfl)
  have i3 : (Instr.mapUpdate 92 (.map (some w.heap.size)) (.string kBgcolor) (fnV 56)).run Tryz.prog (w.alloc (.map #[e0, e1, e2] 3)) = .ok () (w.alloc (.map #[e0, e1, e2, e3] 4)) := ins_run w #[e0, e1, e2] 3 kBgcolor (fnV 56) (by kernel_rfl)
  have i4 : (Instr.mapUpdate 92 (.map (some w.heap.size)) (.string kBorder) (fnV 57)).run Tryz.prog (w.alloc (.map #[e0, e1, e2, e3] 4)) = .ok () (w.alloc (.map #[e0, e1, e2, e3, e4] 5)) := ins_run w #[e0, e1, e2, e3] 4 kBorder (fnV 57) (by kernel_rfl)
  go_enter Tryz.func38, Tryz.ntmps38
  go_wp2_with fail
  go_ret
  exact ⟨rfl, rfl⟩
set_option maxRecDepth 100000 in
set_option maxHeartbeats 800000 in
/-- strings.ToLower of a text without great letters: itself; nothing is turned. -/
theorem lower_any (s : ByteArray) (w : World) (hs : s.size ≤ 1000) (h : ∀ k (hk : k < s.size), s[k].toNat < 128 ∧ (s[k].toNat < 65 ∨ 90 < s[k].toNat)) :
    Calls Tryz.prog 52 #[.string s] w fun e w' => e = .returned (.string s) ∧ w = w' := by
  have H := Lib.hid h
  clear h
  go_enter Tryz.func52, Tryz.ntmps52
  go_wp2_with fail
  go_loop [3, 4, 5] (fun a b i => ∃ k : Nat, k ≤ s.size ∧ a = .bool true ∧ b = .bool false ∧ i = .int .i64 k) (fun _ _ i => s.size - (intOf i).toNat)
  case atStart => exact ⟨0, Nat.zero_le _, rfl, rfl, rfl⟩
  case round =>
    obtain ⟨k, hk, rfl, rfl, rfl⟩ := hrel
    by_cases hlt : k < s.size
    · obtain ⟨h1, h2⟩ := H.out k hlt
      have g1 : (s[k].toNat : Int) < 128 := by omega
      rcases h2 with h2 | h2
      · have g2 : (s[k].toNat : Int) < 65 := by omega
        go_wp2_with fail
        go_round
        case rel => exact ⟨k + 1, by omega, rfl, rfl, by go_num⟩
        case measure => simp [intOf]; omega
      · have g2 : 65 ≤ (s[k].toNat : Int) := by omega
        have g3 : decide ((s[k].toNat : Int) ≤ 90) = false := by rw [decide_eq_false_iff_not]; omega
        go_wp2_with fail
        go_round
        case rel => exact ⟨k + 1, by omega, rfl, rfl, by go_num⟩
        case measure => simp [intOf]; omega
    · go_wp2_with fail
      go_ret
      exact ⟨rfl, rfl⟩
end Go.Proofs.YtcmeaogbfecjkaaGreatDoor
