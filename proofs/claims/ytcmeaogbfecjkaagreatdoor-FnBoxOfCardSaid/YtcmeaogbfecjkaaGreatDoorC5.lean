/- handleParameter over a zoom's five names, in whatever order they are ranged over: a beginning of one name alone: that name's function is called; of none: an error. -/
import Derived.Test.YtcmeaogbfecjkaaGreatDoorC4
import Derived.Test.YtcmeaogbfecjkaaGreatDoorSh
import Derived.Laws.IdiomRangeMap
namespace Go.Proofs.YtcmeaogbfecjkaaGreatDoor
open Go.RowKit

abbrev es5 : Array MapEntry := #[e0, e1, e2, e3, e4]
/-- The name that has been met, or none. -/
def metV (b : Bool) (k : ByteArray) : Value := .string (if b then k else ⟨#[]⟩)
theorem metV_no (k : ByteArray) : metV false k = .string ⟨#[]⟩ := rfl
theorem metV_yes (k : ByteArray) : metV true k = .string k := rfl

theorem under91 : Tryz.prog.underlying 91 = some (.map 9 114) := by kernel_rfl

theorem look_run (w : World) (m : Nat) (key : ByteArray) (i : Nat) (v : Value) (es : Array MapEntry) (hb : w.heap[m]? = some (.map es 5)) (hn : Instr.findNow .string (.string key) es.toList 0 = some (some (i, v))) :
    (Instr.lookup 91 (.map (some m)) (.string key) false).run Tryz.prog w = .ok v w := by
  have hck : ∀ e w, (Instr.checkKey e 10000 9 (.string key)).run Tryz.prog w = .ok () w := fun e w => by
    unfold Instr.checkKey
    simp [run_underlying Tryz.underlying9]
  have hfk : ∀ w, (Instr.findKey 9 (.string key) es.toList).run Tryz.prog w = .ok (some (i, v)) w := fun w => by
    simp only [Instr.findKey, Sem.run_bind, run_underlying Tryz.underlying9, Result.andThen, hn]
    rfl
  simp [Instr.lookup, run_underlying under91, MapKept.run_getObj_map hb, hck, hfk]

theorem es5_old : ∀ x ∈ es5.toList, x.born < 5 := by
  intro x hx
  simp only [List.mem_cons, List.mem_nil_iff, or_false] at hx
  rcases hx with rfl | rfl | rfl | rfl | rfl <;> decide
theorem es5_nodup : (es5.toList.map (·.born)).Nodup := by decide

theorem low_key (k : ByteArray) (h : (k.data.toList.all fun b => b.toNat < 128 && (b.toNat < 65 || 90 < b.toNat)) = true) (i : Nat) (hi : i < k.size) : k[i].toNat < 128 ∧ (k[i].toNat < 65 ∨ 90 < k[i].toNat) := by
  have := List.all_eq_true.1 h k[i] (List.getElem_mem (l := k.data.toList) (by simpa using hi))
  simpa using this

/-- Below block B the world is as it was (whatever was asked of the tape). -/
structure Kp (B : Nat) (w w' : World) : Prop where
  os : w'.os = w.os
  output : w'.output = w.output
  size : w.heap.size ≤ w'.heap.size
  block : ∀ k, k < B → w'.heap[k]? = w.heap[k]?
theorem Kp.refl (B : Nat) (w : World) : Kp B w w := ⟨rfl, rfl, Nat.le_refl _, fun _ _ => rfl⟩
theorem Kp.trans {B : Nat} {a b c : World} (h : Kp B a b) (k : Kp B b c) : Kp B a c :=
  ⟨k.os.trans h.os, k.output.trans h.output, Nat.le_trans h.size k.size, fun i hi => (k.block i hi).trans (h.block i hi)⟩
theorem Kp.mono {B B' : Nat} {w w' : World} (h : Kp B w w') (hB : B' ≤ B) : Kp B' w w' := ⟨h.os, h.output, h.size, fun k hk => h.block k (Nat.lt_of_lt_of_le hk hB)⟩
theorem Kp.of {B : Nat} {w w' : World} (h : Below B w w') : Kp B w w' := ⟨h.os, h.output, h.size, h.block⟩
theorem Kp.alike {B : Nat} {w w' : World} (h : w'.Alike w) : Kp B w w' := ⟨h.2.1, h.2.2, by rw [h.1]; exact Nat.le_refl _, fun _ _ => by rw [h.1]⟩
theorem Kp.alloc {B : Nat} {a w : World} (h : Kp B a w) (hB : B ≤ w.heap.size) (o : Obj) : Kp B a (w.alloc o) := h.trans (Kp.of ((Below.refl B w).alloc hB o))
theorem Kp.cell {B : Nat} {w w' : World} (h : Kp B w w') {p : Addr} (hp : p.block < B) : w'.cell? p = w.cell? p := World.cell?_of_block (w := w) (h.block p.block hp)
theorem Kp.frozen {B : Nat} {w w' : World} (h : Kp B w w') {p : Addr} (hp : p.block < B) : w'.frozen? p = w.frozen? p := World.frozen?_of_block (w := w) (h.block p.block hp)

theorem seen_push (seen : Array Nat) (b y : Nat) : (seen.push b).contains y = (seen.contains y || y == b) := contains_push seen b y

theorem left_none {es : Array MapEntry} {seen : Array Nat} (h : (leftOf es seen).size = 0) (e : MapEntry) (he : e ∈ es.toList) : seen.contains e.born = true := by
  cases hc : seen.contains e.born with
  | true => rfl
  | false =>
    have hm : e ∈ leftOf es seen := Array.mem_filter.2 ⟨Array.mem_toList_iff.1 he, by rw [hc]; rfl⟩
    rw [Array.eq_empty_of_size_eq_zero h] at hm
    exact absurd hm (Array.not_mem_empty _)

set_option maxRecDepth 100000 in
set_option maxHeartbeats 3200000 in
theorem handle_0 (p q vs : ByteArray) (z : Value) (m : Nat) (W : World) (R : Value → World → Prop) (hm : W.heap[m]? = some (.map es5 5)) (hps : p.size ≤ 1000) (hpa : ∀ (j : Nat) (b : UInt8), p.data.toList[j]? = some b → b.toNat < 128) (hq : Lib.toLowerA p.data.toList = q.data.toList)
    (hp0 : Lib.hasPrefix kFactor.data.toList q.data.toList = true) (hp1 : Lib.hasPrefix kHmargin.data.toList q.data.toList = false) (hp2 : Lib.hasPrefix kVmargin.data.toList q.data.toList = false) (hp3 : Lib.hasPrefix kBgcolor.data.toList q.data.toList = false) (hp4 : Lib.hasPrefix kBorder.data.toList q.data.toList = false) (hf : Hid (∀ w1, Kp W.heap.size W w1 → Calls Tryz.prog 53 #[.string vs, z] w1 fun e w' => ∃ v, e = .returned v ∧ R v w')) :
    Calls Tryz.prog 37 #[.map (some m), .string p, .string vs, z] W fun e w' => ∃ v, e = .returned v ∧ R v w' := by
  have hlow := (Tryz.strings_ToLower_ascii p W (by omega) hpa)
  have hqe : (⟨(Lib.toLowerA p.data.toList).toArray⟩ : ByteArray) = q := by rw [hq]
  rw [hqe] at hlow
  have HL := Lib.hid hlow
  clear hlow hqe hq hpa
  go_enter Tryz.func37, Tryz.ntmps37
  go_wp2_with fail
  refine HL.out.mono ?_
  rintro e w1 ⟨rfl, hb1⟩
  have hm1 : w1.heap[m]? = some (.map es5 5) := by
    rw [hb1.block m (Array.getElem?_eq_some_iff.1 hm).1]; exact hm
  have HK1 := Lib.hid (Kp.of hb1)
  have HM := Lib.hid hm
  have hrg := run_range_map (P := Tryz.prog) w1 91 9 114 m es5 5 under91 hm1
  clear hb1 hm HL
  go_wp2_with fail
  have hsz0 : w1.heap.size = w1.heap.size := rfl
  obtain ⟨N, hN⟩ : ∃ N, N = w1.heap.size := ⟨_, rfl⟩
  rw [← hN]
  have HN := Lib.hid hN
  go_loopw [9] (fun pv wr => ∃ (wa : World) (seen : Array Nat), wa.Alike w1 ∧ wr = wa.alloc (.mapIter (some m) 5 seen 5) ∧ pv = metV (seen.contains 0) kFactor) (fun _ wr => (leftOf es5 (wr.iterSeen N)).size)
  case atStart => exact ⟨w1, #[], ⟨rfl, rfl, rfl⟩, rfl, by simp [metV]⟩
  case round =>
    obtain ⟨wa, seen, hal, rfl, rfl⟩ := hrel
    have hsz : wa.heap.size = N := by rw [hal.1, hN]
    have hba : wa.heap[m]? = some (.map es5 5) := by rw [hal.1]; exact hm1
    have law := run_next_map (P := Tryz.prog) wa 0 m 5 5 seen es5 5 hba es5_old (Nat.le_refl _)
    rw [hsz] at law
    have HAL := Lib.hid hal
    have HSZ := Lib.hid hsz
    have HBA := Lib.hid hba
    clear hN hsz hba hrg hal hsz0
    rcases law with ⟨h0, hrun⟩ | ⟨e, he, w2, hal2, hrun⟩
    · have hnx : ∀ ty, (Instr.next (.pointer (some ⟨N, 0, none⟩)) false ty).run Tryz.prog (wa.alloc (.mapIter (some m) 5 seen 5)) = _ := fun _ => hrun
      have HKa : Hid (Kp W.heap.size W (wa.alloc (.mapIter (some m) 5 seen 5))) := by
        have h1 := HK1.out
        have h2 : Kp W.heap.size w1 wa := Kp.alike HAL.out
        exact (h1.trans h2).alloc (by have := h1.size; have := h2.size; omega) _
      clear hrun
      have hpv : metV (seen.contains 0) kFactor = .string kFactor := by rw [left_none h0 e0 (by simp)]; rfl
      rw [hpv]
      clear hpv h0
      have hlk := look_run (wa.alloc (.mapIter (some m) 5 seen 5)) m kFactor 0 (fnV 53) es5 (by rw [heap_alloc_old _ _ (Array.getElem?_eq_some_iff.1 HBA.out).1]; exact HBA.out) (by kernel_rfl)
      go_wp2_with fail
      refine (hf.out _ HKa.out).mono ?_
      rintro e w' ⟨v, rfl, hr⟩
      have HR := Lib.hid hr
      clear hr
      go_wp2_with fail
      go_ret
      exact ⟨_, rfl, HR.out⟩
    · have hmem := (mem_left he).1
      have hnot := (mem_left he).2
      have HE := Lib.hid he
      have HAL2 := Lib.hid hal2
      have hsz2 : w2.heap.size = N := by rw [hal2.1, HSZ.out]
      have HSZ2 := Lib.hid hsz2
      have hb2 : w2.heap[m]? = some (.map es5 5) := by rw [hal2.1]; exact HBA.out
      have hen := run_entry_map (P := Tryz.prog) w2 m 5 seen es5 5 e hb2 hmem es5_nodup
      rw [hsz2] at hen
      have hmem' : e = e0 ∨ e = e1 ∨ e = e2 ∨ e = e3 ∨ e = e4 := by simpa using hmem
      clear hmem he hal2 hsz2 hb2
      rcases hmem' with rfl | rfl | rfl | rfl | rfl
      · have hnx : ∀ ty, (Instr.next (.pointer (some ⟨N, 0, none⟩)) false ty).run Tryz.prog (wa.alloc (.mapIter (some m) 5 seen 5)) = .ok (.tuple #[.bool true, .string kFactor, fnV 53]) (w2.alloc (.mapIter (some m) 5 (seen.push 0) 5)) := fun _ => hrun
        have hen' : (Instr.entry (.pointer (some ⟨N, 0, none⟩))).run Tryz.prog (w2.alloc (.mapIter (some m) 5 (seen.push 0) 5)) = .ok (.tuple #[.string kFactor, fnV 53]) (w2.alloc (.mapIter (some m) 5 (seen.push 0) 5)) := hen
        have hc : seen.contains 0 = false := hnot
        have hpi : Lib.hasPrefix [102, 97, 99, 116, 111, 114] q.data.toList = true := hp0
        clear hrun hen hnot
        have HC := Lib.hid hc
        clear hc
        have hpv : metV (seen.contains 0) kFactor = .string ⟨#[]⟩ := by rw [HC.out]; rfl
        rw [hpv]
        clear hpv
        go_wp2_with (first
          | (go_at_call 52; refine (lower_any kFactor _ (by decide) (low_key _ (by decide))).mono ?_; rintro e w' ⟨rfl, rfl⟩)
          | (go_at_call 44; refine (Tryz.strings_HasPrefix _ _ _).mono ?_; rintro e w' ⟨rfl, rfl⟩))
        go_roundw
        case rel =>
          refine ⟨w2, seen.push 0, ⟨HAL2.out.1.trans HAL.out.1, HAL2.out.2.1.trans HAL.out.2.1, HAL2.out.2.2.trans HAL.out.2.2⟩, rfl, ?_⟩
          rw [seen_push]
          rw [show ((0 : Nat) == 0) = true by decide, Bool.or_true]; rfl
        case measure =>
          have h1 := World.iterSeen_alloc w2 (some m) 5 (seen.push 0) 5
          have h2 := World.iterSeen_alloc wa (some m) 5 seen 5
          rw [HSZ2.out] at h1
          rw [HSZ.out] at h2
          rw [h1, h2]
          exact left_shrinks es5 seen e0 HE.out
      · have hnx : ∀ ty, (Instr.next (.pointer (some ⟨N, 0, none⟩)) false ty).run Tryz.prog (wa.alloc (.mapIter (some m) 5 seen 5)) = .ok (.tuple #[.bool true, .string kHmargin, fnV 54]) (w2.alloc (.mapIter (some m) 5 (seen.push 1) 5)) := fun _ => hrun
        have hen' : (Instr.entry (.pointer (some ⟨N, 0, none⟩))).run Tryz.prog (w2.alloc (.mapIter (some m) 5 (seen.push 1) 5)) = .ok (.tuple #[.string kHmargin, fnV 54]) (w2.alloc (.mapIter (some m) 5 (seen.push 1) 5)) := hen
        have hc : seen.contains 1 = false := hnot
        have hpi : Lib.hasPrefix [104, 109, 97, 114, 103, 105, 110] q.data.toList = false := hp1
        clear hrun hen hnot
        have HC := Lib.hid hc
        clear hc
        go_wp2_with (first
          | (go_at_call 52; refine (lower_any kHmargin _ (by decide) (low_key _ (by decide))).mono ?_; rintro e w' ⟨rfl, rfl⟩)
          | (go_at_call 44; refine (Tryz.strings_HasPrefix _ _ _).mono ?_; rintro e w' ⟨rfl, rfl⟩))
        go_roundw
        case rel =>
          refine ⟨w2, seen.push 1, ⟨HAL2.out.1.trans HAL.out.1, HAL2.out.2.1.trans HAL.out.2.1, HAL2.out.2.2.trans HAL.out.2.2⟩, rfl, ?_⟩
          rw [seen_push]
          rw [show ((0 : Nat) == 1) = false by decide, Bool.or_false]; simp
        case measure =>
          have h1 := World.iterSeen_alloc w2 (some m) 5 (seen.push 1) 5
          have h2 := World.iterSeen_alloc wa (some m) 5 seen 5
          rw [HSZ2.out] at h1
          rw [HSZ.out] at h2
          rw [h1, h2]
          exact left_shrinks es5 seen e1 HE.out
      · have hnx : ∀ ty, (Instr.next (.pointer (some ⟨N, 0, none⟩)) false ty).run Tryz.prog (wa.alloc (.mapIter (some m) 5 seen 5)) = .ok (.tuple #[.bool true, .string kVmargin, fnV 55]) (w2.alloc (.mapIter (some m) 5 (seen.push 2) 5)) := fun _ => hrun
        have hen' : (Instr.entry (.pointer (some ⟨N, 0, none⟩))).run Tryz.prog (w2.alloc (.mapIter (some m) 5 (seen.push 2) 5)) = .ok (.tuple #[.string kVmargin, fnV 55]) (w2.alloc (.mapIter (some m) 5 (seen.push 2) 5)) := hen
        have hc : seen.contains 2 = false := hnot
        have hpi : Lib.hasPrefix [118, 109, 97, 114, 103, 105, 110] q.data.toList = false := hp2
        clear hrun hen hnot
        have HC := Lib.hid hc
        clear hc
        go_wp2_with (first
          | (go_at_call 52; refine (lower_any kVmargin _ (by decide) (low_key _ (by decide))).mono ?_; rintro e w' ⟨rfl, rfl⟩)
          | (go_at_call 44; refine (Tryz.strings_HasPrefix _ _ _).mono ?_; rintro e w' ⟨rfl, rfl⟩))
        go_roundw
        case rel =>
          refine ⟨w2, seen.push 2, ⟨HAL2.out.1.trans HAL.out.1, HAL2.out.2.1.trans HAL.out.2.1, HAL2.out.2.2.trans HAL.out.2.2⟩, rfl, ?_⟩
          rw [seen_push]
          rw [show ((0 : Nat) == 2) = false by decide, Bool.or_false]; simp
        case measure =>
          have h1 := World.iterSeen_alloc w2 (some m) 5 (seen.push 2) 5
          have h2 := World.iterSeen_alloc wa (some m) 5 seen 5
          rw [HSZ2.out] at h1
          rw [HSZ.out] at h2
          rw [h1, h2]
          exact left_shrinks es5 seen e2 HE.out
      · have hnx : ∀ ty, (Instr.next (.pointer (some ⟨N, 0, none⟩)) false ty).run Tryz.prog (wa.alloc (.mapIter (some m) 5 seen 5)) = .ok (.tuple #[.bool true, .string kBgcolor, fnV 56]) (w2.alloc (.mapIter (some m) 5 (seen.push 3) 5)) := fun _ => hrun
        have hen' : (Instr.entry (.pointer (some ⟨N, 0, none⟩))).run Tryz.prog (w2.alloc (.mapIter (some m) 5 (seen.push 3) 5)) = .ok (.tuple #[.string kBgcolor, fnV 56]) (w2.alloc (.mapIter (some m) 5 (seen.push 3) 5)) := hen
        have hc : seen.contains 3 = false := hnot
        have hpi : Lib.hasPrefix [98, 103, 99, 111, 108, 111, 114] q.data.toList = false := hp3
        clear hrun hen hnot
        have HC := Lib.hid hc
        clear hc
        go_wp2_with (first
          | (go_at_call 52; refine (lower_any kBgcolor _ (by decide) (low_key _ (by decide))).mono ?_; rintro e w' ⟨rfl, rfl⟩)
          | (go_at_call 44; refine (Tryz.strings_HasPrefix _ _ _).mono ?_; rintro e w' ⟨rfl, rfl⟩))
        go_roundw
        case rel =>
          refine ⟨w2, seen.push 3, ⟨HAL2.out.1.trans HAL.out.1, HAL2.out.2.1.trans HAL.out.2.1, HAL2.out.2.2.trans HAL.out.2.2⟩, rfl, ?_⟩
          rw [seen_push]
          rw [show ((0 : Nat) == 3) = false by decide, Bool.or_false]; simp
        case measure =>
          have h1 := World.iterSeen_alloc w2 (some m) 5 (seen.push 3) 5
          have h2 := World.iterSeen_alloc wa (some m) 5 seen 5
          rw [HSZ2.out] at h1
          rw [HSZ.out] at h2
          rw [h1, h2]
          exact left_shrinks es5 seen e3 HE.out
      · have hnx : ∀ ty, (Instr.next (.pointer (some ⟨N, 0, none⟩)) false ty).run Tryz.prog (wa.alloc (.mapIter (some m) 5 seen 5)) = .ok (.tuple #[.bool true, .string kBorder, fnV 57]) (w2.alloc (.mapIter (some m) 5 (seen.push 4) 5)) := fun _ => hrun
        have hen' : (Instr.entry (.pointer (some ⟨N, 0, none⟩))).run Tryz.prog (w2.alloc (.mapIter (some m) 5 (seen.push 4) 5)) = .ok (.tuple #[.string kBorder, fnV 57]) (w2.alloc (.mapIter (some m) 5 (seen.push 4) 5)) := hen
        have hc : seen.contains 4 = false := hnot
        have hpi : Lib.hasPrefix [98, 111, 114, 100, 101, 114] q.data.toList = false := hp4
        clear hrun hen hnot
        have HC := Lib.hid hc
        clear hc
        go_wp2_with (first
          | (go_at_call 52; refine (lower_any kBorder _ (by decide) (low_key _ (by decide))).mono ?_; rintro e w' ⟨rfl, rfl⟩)
          | (go_at_call 44; refine (Tryz.strings_HasPrefix _ _ _).mono ?_; rintro e w' ⟨rfl, rfl⟩))
        go_roundw
        case rel =>
          refine ⟨w2, seen.push 4, ⟨HAL2.out.1.trans HAL.out.1, HAL2.out.2.1.trans HAL.out.2.1, HAL2.out.2.2.trans HAL.out.2.2⟩, rfl, ?_⟩
          rw [seen_push]
          rw [show ((0 : Nat) == 4) = false by decide, Bool.or_false]; simp
        case measure =>
          have h1 := World.iterSeen_alloc w2 (some m) 5 (seen.push 4) 5
          have h2 := World.iterSeen_alloc wa (some m) 5 seen 5
          rw [HSZ2.out] at h1
          rw [HSZ.out] at h2
          rw [h1, h2]
          exact left_shrinks es5 seen e4 HE.out

set_option maxRecDepth 100000 in
set_option maxHeartbeats 3200000 in
theorem handle_1 (p q vs : ByteArray) (z : Value) (m : Nat) (W : World) (R : Value → World → Prop) (hm : W.heap[m]? = some (.map es5 5)) (hps : p.size ≤ 1000) (hpa : ∀ (j : Nat) (b : UInt8), p.data.toList[j]? = some b → b.toNat < 128) (hq : Lib.toLowerA p.data.toList = q.data.toList)
    (hp0 : Lib.hasPrefix kFactor.data.toList q.data.toList = false) (hp1 : Lib.hasPrefix kHmargin.data.toList q.data.toList = true) (hp2 : Lib.hasPrefix kVmargin.data.toList q.data.toList = false) (hp3 : Lib.hasPrefix kBgcolor.data.toList q.data.toList = false) (hp4 : Lib.hasPrefix kBorder.data.toList q.data.toList = false) (hf : Hid (∀ w1, Kp W.heap.size W w1 → Calls Tryz.prog 54 #[.string vs, z] w1 fun e w' => ∃ v, e = .returned v ∧ R v w')) :
    Calls Tryz.prog 37 #[.map (some m), .string p, .string vs, z] W fun e w' => ∃ v, e = .returned v ∧ R v w' := by
  have hlow := (Tryz.strings_ToLower_ascii p W (by omega) hpa)
  have hqe : (⟨(Lib.toLowerA p.data.toList).toArray⟩ : ByteArray) = q := by rw [hq]
  rw [hqe] at hlow
  have HL := Lib.hid hlow
  clear hlow hqe hq hpa
  go_enter Tryz.func37, Tryz.ntmps37
  go_wp2_with fail
  refine HL.out.mono ?_
  rintro e w1 ⟨rfl, hb1⟩
  have hm1 : w1.heap[m]? = some (.map es5 5) := by
    rw [hb1.block m (Array.getElem?_eq_some_iff.1 hm).1]; exact hm
  have HK1 := Lib.hid (Kp.of hb1)
  have HM := Lib.hid hm
  have hrg := run_range_map (P := Tryz.prog) w1 91 9 114 m es5 5 under91 hm1
  clear hb1 hm HL
  go_wp2_with fail
  have hsz0 : w1.heap.size = w1.heap.size := rfl
  obtain ⟨N, hN⟩ : ∃ N, N = w1.heap.size := ⟨_, rfl⟩
  rw [← hN]
  have HN := Lib.hid hN
  go_loopw [9] (fun pv wr => ∃ (wa : World) (seen : Array Nat), wa.Alike w1 ∧ wr = wa.alloc (.mapIter (some m) 5 seen 5) ∧ pv = metV (seen.contains 1) kHmargin) (fun _ wr => (leftOf es5 (wr.iterSeen N)).size)
  case atStart => exact ⟨w1, #[], ⟨rfl, rfl, rfl⟩, rfl, by simp [metV]⟩
  case round =>
    obtain ⟨wa, seen, hal, rfl, rfl⟩ := hrel
    have hsz : wa.heap.size = N := by rw [hal.1, hN]
    have hba : wa.heap[m]? = some (.map es5 5) := by rw [hal.1]; exact hm1
    have law := run_next_map (P := Tryz.prog) wa 0 m 5 5 seen es5 5 hba es5_old (Nat.le_refl _)
    rw [hsz] at law
    have HAL := Lib.hid hal
    have HSZ := Lib.hid hsz
    have HBA := Lib.hid hba
    clear hN hsz hba hrg hal hsz0
    rcases law with ⟨h0, hrun⟩ | ⟨e, he, w2, hal2, hrun⟩
    · have hnx : ∀ ty, (Instr.next (.pointer (some ⟨N, 0, none⟩)) false ty).run Tryz.prog (wa.alloc (.mapIter (some m) 5 seen 5)) = _ := fun _ => hrun
      have HKa : Hid (Kp W.heap.size W (wa.alloc (.mapIter (some m) 5 seen 5))) := by
        have h1 := HK1.out
        have h2 : Kp W.heap.size w1 wa := Kp.alike HAL.out
        exact (h1.trans h2).alloc (by have := h1.size; have := h2.size; omega) _
      clear hrun
      have hpv : metV (seen.contains 1) kHmargin = .string kHmargin := by rw [left_none h0 e1 (by simp)]; rfl
      rw [hpv]
      clear hpv h0
      have hlk := look_run (wa.alloc (.mapIter (some m) 5 seen 5)) m kHmargin 1 (fnV 54) es5 (by rw [heap_alloc_old _ _ (Array.getElem?_eq_some_iff.1 HBA.out).1]; exact HBA.out) (by kernel_rfl)
      go_wp2_with fail
      refine (hf.out _ HKa.out).mono ?_
      rintro e w' ⟨v, rfl, hr⟩
      have HR := Lib.hid hr
      clear hr
      go_wp2_with fail
      go_ret
      exact ⟨_, rfl, HR.out⟩
    · have hmem := (mem_left he).1
      have hnot := (mem_left he).2
      have HE := Lib.hid he
      have HAL2 := Lib.hid hal2
      have hsz2 : w2.heap.size = N := by rw [hal2.1, HSZ.out]
      have HSZ2 := Lib.hid hsz2
      have hb2 : w2.heap[m]? = some (.map es5 5) := by rw [hal2.1]; exact HBA.out
      have hen := run_entry_map (P := Tryz.prog) w2 m 5 seen es5 5 e hb2 hmem es5_nodup
      rw [hsz2] at hen
      have hmem' : e = e0 ∨ e = e1 ∨ e = e2 ∨ e = e3 ∨ e = e4 := by simpa using hmem
      clear hmem he hal2 hsz2 hb2
      rcases hmem' with rfl | rfl | rfl | rfl | rfl
      · have hnx : ∀ ty, (Instr.next (.pointer (some ⟨N, 0, none⟩)) false ty).run Tryz.prog (wa.alloc (.mapIter (some m) 5 seen 5)) = .ok (.tuple #[.bool true, .string kFactor, fnV 53]) (w2.alloc (.mapIter (some m) 5 (seen.push 0) 5)) := fun _ => hrun
        have hen' : (Instr.entry (.pointer (some ⟨N, 0, none⟩))).run Tryz.prog (w2.alloc (.mapIter (some m) 5 (seen.push 0) 5)) = .ok (.tuple #[.string kFactor, fnV 53]) (w2.alloc (.mapIter (some m) 5 (seen.push 0) 5)) := hen
        have hc : seen.contains 0 = false := hnot
        have hpi : Lib.hasPrefix [102, 97, 99, 116, 111, 114] q.data.toList = false := hp0
        clear hrun hen hnot
        have HC := Lib.hid hc
        clear hc
        go_wp2_with (first
          | (go_at_call 52; refine (lower_any kFactor _ (by decide) (low_key _ (by decide))).mono ?_; rintro e w' ⟨rfl, rfl⟩)
          | (go_at_call 44; refine (Tryz.strings_HasPrefix _ _ _).mono ?_; rintro e w' ⟨rfl, rfl⟩))
        go_roundw
        case rel =>
          refine ⟨w2, seen.push 0, ⟨HAL2.out.1.trans HAL.out.1, HAL2.out.2.1.trans HAL.out.2.1, HAL2.out.2.2.trans HAL.out.2.2⟩, rfl, ?_⟩
          rw [seen_push]
          rw [show ((1 : Nat) == 0) = false by decide, Bool.or_false]; simp
        case measure =>
          have h1 := World.iterSeen_alloc w2 (some m) 5 (seen.push 0) 5
          have h2 := World.iterSeen_alloc wa (some m) 5 seen 5
          rw [HSZ2.out] at h1
          rw [HSZ.out] at h2
          rw [h1, h2]
          exact left_shrinks es5 seen e0 HE.out
      · have hnx : ∀ ty, (Instr.next (.pointer (some ⟨N, 0, none⟩)) false ty).run Tryz.prog (wa.alloc (.mapIter (some m) 5 seen 5)) = .ok (.tuple #[.bool true, .string kHmargin, fnV 54]) (w2.alloc (.mapIter (some m) 5 (seen.push 1) 5)) := fun _ => hrun
        have hen' : (Instr.entry (.pointer (some ⟨N, 0, none⟩))).run Tryz.prog (w2.alloc (.mapIter (some m) 5 (seen.push 1) 5)) = .ok (.tuple #[.string kHmargin, fnV 54]) (w2.alloc (.mapIter (some m) 5 (seen.push 1) 5)) := hen
        have hc : seen.contains 1 = false := hnot
        have hpi : Lib.hasPrefix [104, 109, 97, 114, 103, 105, 110] q.data.toList = true := hp1
        clear hrun hen hnot
        have HC := Lib.hid hc
        clear hc
        have hpv : metV (seen.contains 1) kHmargin = .string ⟨#[]⟩ := by rw [HC.out]; rfl
        rw [hpv]
        clear hpv
        go_wp2_with (first
          | (go_at_call 52; refine (lower_any kHmargin _ (by decide) (low_key _ (by decide))).mono ?_; rintro e w' ⟨rfl, rfl⟩)
          | (go_at_call 44; refine (Tryz.strings_HasPrefix _ _ _).mono ?_; rintro e w' ⟨rfl, rfl⟩))
        go_roundw
        case rel =>
          refine ⟨w2, seen.push 1, ⟨HAL2.out.1.trans HAL.out.1, HAL2.out.2.1.trans HAL.out.2.1, HAL2.out.2.2.trans HAL.out.2.2⟩, rfl, ?_⟩
          rw [seen_push]
          rw [show ((1 : Nat) == 1) = true by decide, Bool.or_true]; rfl
        case measure =>
          have h1 := World.iterSeen_alloc w2 (some m) 5 (seen.push 1) 5
          have h2 := World.iterSeen_alloc wa (some m) 5 seen 5
          rw [HSZ2.out] at h1
          rw [HSZ.out] at h2
          rw [h1, h2]
          exact left_shrinks es5 seen e1 HE.out
      · have hnx : ∀ ty, (Instr.next (.pointer (some ⟨N, 0, none⟩)) false ty).run Tryz.prog (wa.alloc (.mapIter (some m) 5 seen 5)) = .ok (.tuple #[.bool true, .string kVmargin, fnV 55]) (w2.alloc (.mapIter (some m) 5 (seen.push 2) 5)) := fun _ => hrun
        have hen' : (Instr.entry (.pointer (some ⟨N, 0, none⟩))).run Tryz.prog (w2.alloc (.mapIter (some m) 5 (seen.push 2) 5)) = .ok (.tuple #[.string kVmargin, fnV 55]) (w2.alloc (.mapIter (some m) 5 (seen.push 2) 5)) := hen
        have hc : seen.contains 2 = false := hnot
        have hpi : Lib.hasPrefix [118, 109, 97, 114, 103, 105, 110] q.data.toList = false := hp2
        clear hrun hen hnot
        have HC := Lib.hid hc
        clear hc
        go_wp2_with (first
          | (go_at_call 52; refine (lower_any kVmargin _ (by decide) (low_key _ (by decide))).mono ?_; rintro e w' ⟨rfl, rfl⟩)
          | (go_at_call 44; refine (Tryz.strings_HasPrefix _ _ _).mono ?_; rintro e w' ⟨rfl, rfl⟩))
        go_roundw
        case rel =>
          refine ⟨w2, seen.push 2, ⟨HAL2.out.1.trans HAL.out.1, HAL2.out.2.1.trans HAL.out.2.1, HAL2.out.2.2.trans HAL.out.2.2⟩, rfl, ?_⟩
          rw [seen_push]
          rw [show ((1 : Nat) == 2) = false by decide, Bool.or_false]; simp
        case measure =>
          have h1 := World.iterSeen_alloc w2 (some m) 5 (seen.push 2) 5
          have h2 := World.iterSeen_alloc wa (some m) 5 seen 5
          rw [HSZ2.out] at h1
          rw [HSZ.out] at h2
          rw [h1, h2]
          exact left_shrinks es5 seen e2 HE.out
      · have hnx : ∀ ty, (Instr.next (.pointer (some ⟨N, 0, none⟩)) false ty).run Tryz.prog (wa.alloc (.mapIter (some m) 5 seen 5)) = .ok (.tuple #[.bool true, .string kBgcolor, fnV 56]) (w2.alloc (.mapIter (some m) 5 (seen.push 3) 5)) := fun _ => hrun
        have hen' : (Instr.entry (.pointer (some ⟨N, 0, none⟩))).run Tryz.prog (w2.alloc (.mapIter (some m) 5 (seen.push 3) 5)) = .ok (.tuple #[.string kBgcolor, fnV 56]) (w2.alloc (.mapIter (some m) 5 (seen.push 3) 5)) := hen
        have hc : seen.contains 3 = false := hnot
        have hpi : Lib.hasPrefix [98, 103, 99, 111, 108, 111, 114] q.data.toList = false := hp3
        clear hrun hen hnot
        have HC := Lib.hid hc
        clear hc
        go_wp2_with (first
          | (go_at_call 52; refine (lower_any kBgcolor _ (by decide) (low_key _ (by decide))).mono ?_; rintro e w' ⟨rfl, rfl⟩)
          | (go_at_call 44; refine (Tryz.strings_HasPrefix _ _ _).mono ?_; rintro e w' ⟨rfl, rfl⟩))
        go_roundw
        case rel =>
          refine ⟨w2, seen.push 3, ⟨HAL2.out.1.trans HAL.out.1, HAL2.out.2.1.trans HAL.out.2.1, HAL2.out.2.2.trans HAL.out.2.2⟩, rfl, ?_⟩
          rw [seen_push]
          rw [show ((1 : Nat) == 3) = false by decide, Bool.or_false]; simp
        case measure =>
          have h1 := World.iterSeen_alloc w2 (some m) 5 (seen.push 3) 5
          have h2 := World.iterSeen_alloc wa (some m) 5 seen 5
          rw [HSZ2.out] at h1
          rw [HSZ.out] at h2
          rw [h1, h2]
          exact left_shrinks es5 seen e3 HE.out
      · have hnx : ∀ ty, (Instr.next (.pointer (some ⟨N, 0, none⟩)) false ty).run Tryz.prog (wa.alloc (.mapIter (some m) 5 seen 5)) = .ok (.tuple #[.bool true, .string kBorder, fnV 57]) (w2.alloc (.mapIter (some m) 5 (seen.push 4) 5)) := fun _ => hrun
        have hen' : (Instr.entry (.pointer (some ⟨N, 0, none⟩))).run Tryz.prog (w2.alloc (.mapIter (some m) 5 (seen.push 4) 5)) = .ok (.tuple #[.string kBorder, fnV 57]) (w2.alloc (.mapIter (some m) 5 (seen.push 4) 5)) := hen
        have hc : seen.contains 4 = false := hnot
        have hpi : Lib.hasPrefix [98, 111, 114, 100, 101, 114] q.data.toList = false := hp4
        clear hrun hen hnot
        have HC := Lib.hid hc
        clear hc
        go_wp2_with (first
          | (go_at_call 52; refine (lower_any kBorder _ (by decide) (low_key _ (by decide))).mono ?_; rintro e w' ⟨rfl, rfl⟩)
          | (go_at_call 44; refine (Tryz.strings_HasPrefix _ _ _).mono ?_; rintro e w' ⟨rfl, rfl⟩))
        go_roundw
        case rel =>
          refine ⟨w2, seen.push 4, ⟨HAL2.out.1.trans HAL.out.1, HAL2.out.2.1.trans HAL.out.2.1, HAL2.out.2.2.trans HAL.out.2.2⟩, rfl, ?_⟩
          rw [seen_push]
          rw [show ((1 : Nat) == 4) = false by decide, Bool.or_false]; simp
        case measure =>
          have h1 := World.iterSeen_alloc w2 (some m) 5 (seen.push 4) 5
          have h2 := World.iterSeen_alloc wa (some m) 5 seen 5
          rw [HSZ2.out] at h1
          rw [HSZ.out] at h2
          rw [h1, h2]
          exact left_shrinks es5 seen e4 HE.out

set_option maxRecDepth 100000 in
set_option maxHeartbeats 3200000 in
theorem handle_2 (p q vs : ByteArray) (z : Value) (m : Nat) (W : World) (R : Value → World → Prop) (hm : W.heap[m]? = some (.map es5 5)) (hps : p.size ≤ 1000) (hpa : ∀ (j : Nat) (b : UInt8), p.data.toList[j]? = some b → b.toNat < 128) (hq : Lib.toLowerA p.data.toList = q.data.toList)
    (hp0 : Lib.hasPrefix kFactor.data.toList q.data.toList = false) (hp1 : Lib.hasPrefix kHmargin.data.toList q.data.toList = false) (hp2 : Lib.hasPrefix kVmargin.data.toList q.data.toList = true) (hp3 : Lib.hasPrefix kBgcolor.data.toList q.data.toList = false) (hp4 : Lib.hasPrefix kBorder.data.toList q.data.toList = false) (hf : Hid (∀ w1, Kp W.heap.size W w1 → Calls Tryz.prog 55 #[.string vs, z] w1 fun e w' => ∃ v, e = .returned v ∧ R v w')) :
    Calls Tryz.prog 37 #[.map (some m), .string p, .string vs, z] W fun e w' => ∃ v, e = .returned v ∧ R v w' := by
  have hlow := (Tryz.strings_ToLower_ascii p W (by omega) hpa)
  have hqe : (⟨(Lib.toLowerA p.data.toList).toArray⟩ : ByteArray) = q := by rw [hq]
  rw [hqe] at hlow
  have HL := Lib.hid hlow
  clear hlow hqe hq hpa
  go_enter Tryz.func37, Tryz.ntmps37
  go_wp2_with fail
  refine HL.out.mono ?_
  rintro e w1 ⟨rfl, hb1⟩
  have hm1 : w1.heap[m]? = some (.map es5 5) := by
    rw [hb1.block m (Array.getElem?_eq_some_iff.1 hm).1]; exact hm
  have HK1 := Lib.hid (Kp.of hb1)
  have HM := Lib.hid hm
  have hrg := run_range_map (P := Tryz.prog) w1 91 9 114 m es5 5 under91 hm1
  clear hb1 hm HL
  go_wp2_with fail
  have hsz0 : w1.heap.size = w1.heap.size := rfl
  obtain ⟨N, hN⟩ : ∃ N, N = w1.heap.size := ⟨_, rfl⟩
  rw [← hN]
  have HN := Lib.hid hN
  go_loopw [9] (fun pv wr => ∃ (wa : World) (seen : Array Nat), wa.Alike w1 ∧ wr = wa.alloc (.mapIter (some m) 5 seen 5) ∧ pv = metV (seen.contains 2) kVmargin) (fun _ wr => (leftOf es5 (wr.iterSeen N)).size)
  case atStart => exact ⟨w1, #[], ⟨rfl, rfl, rfl⟩, rfl, by simp [metV]⟩
  case round =>
    obtain ⟨wa, seen, hal, rfl, rfl⟩ := hrel
    have hsz : wa.heap.size = N := by rw [hal.1, hN]
    have hba : wa.heap[m]? = some (.map es5 5) := by rw [hal.1]; exact hm1
    have law := run_next_map (P := Tryz.prog) wa 0 m 5 5 seen es5 5 hba es5_old (Nat.le_refl _)
    rw [hsz] at law
    have HAL := Lib.hid hal
    have HSZ := Lib.hid hsz
    have HBA := Lib.hid hba
    clear hN hsz hba hrg hal hsz0
    rcases law with ⟨h0, hrun⟩ | ⟨e, he, w2, hal2, hrun⟩
    · have hnx : ∀ ty, (Instr.next (.pointer (some ⟨N, 0, none⟩)) false ty).run Tryz.prog (wa.alloc (.mapIter (some m) 5 seen 5)) = _ := fun _ => hrun
      have HKa : Hid (Kp W.heap.size W (wa.alloc (.mapIter (some m) 5 seen 5))) := by
        have h1 := HK1.out
        have h2 : Kp W.heap.size w1 wa := Kp.alike HAL.out
        exact (h1.trans h2).alloc (by have := h1.size; have := h2.size; omega) _
      clear hrun
      have hpv : metV (seen.contains 2) kVmargin = .string kVmargin := by rw [left_none h0 e2 (by simp)]; rfl
      rw [hpv]
      clear hpv h0
      have hlk := look_run (wa.alloc (.mapIter (some m) 5 seen 5)) m kVmargin 2 (fnV 55) es5 (by rw [heap_alloc_old _ _ (Array.getElem?_eq_some_iff.1 HBA.out).1]; exact HBA.out) (by kernel_rfl)
      go_wp2_with fail
      refine (hf.out _ HKa.out).mono ?_
      rintro e w' ⟨v, rfl, hr⟩
      have HR := Lib.hid hr
      clear hr
      go_wp2_with fail
      go_ret
      exact ⟨_, rfl, HR.out⟩
    · have hmem := (mem_left he).1
      have hnot := (mem_left he).2
      have HE := Lib.hid he
      have HAL2 := Lib.hid hal2
      have hsz2 : w2.heap.size = N := by rw [hal2.1, HSZ.out]
      have HSZ2 := Lib.hid hsz2
      have hb2 : w2.heap[m]? = some (.map es5 5) := by rw [hal2.1]; exact HBA.out
      have hen := run_entry_map (P := Tryz.prog) w2 m 5 seen es5 5 e hb2 hmem es5_nodup
      rw [hsz2] at hen
      have hmem' : e = e0 ∨ e = e1 ∨ e = e2 ∨ e = e3 ∨ e = e4 := by simpa using hmem
      clear hmem he hal2 hsz2 hb2
      rcases hmem' with rfl | rfl | rfl | rfl | rfl
      · have hnx : ∀ ty, (Instr.next (.pointer (some ⟨N, 0, none⟩)) false ty).run Tryz.prog (wa.alloc (.mapIter (some m) 5 seen 5)) = .ok (.tuple #[.bool true, .string kFactor, fnV 53]) (w2.alloc (.mapIter (some m) 5 (seen.push 0) 5)) := fun _ => hrun
        have hen' : (Instr.entry (.pointer (some ⟨N, 0, none⟩))).run Tryz.prog (w2.alloc (.mapIter (some m) 5 (seen.push 0) 5)) = .ok (.tuple #[.string kFactor, fnV 53]) (w2.alloc (.mapIter (some m) 5 (seen.push 0) 5)) := hen
        have hc : seen.contains 0 = false := hnot
        have hpi : Lib.hasPrefix [102, 97, 99, 116, 111, 114] q.data.toList = false := hp0
        clear hrun hen hnot
        have HC := Lib.hid hc
        clear hc
        go_wp2_with (first
          | (go_at_call 52; refine (lower_any kFactor _ (by decide) (low_key _ (by decide))).mono ?_; rintro e w' ⟨rfl, rfl⟩)
          | (go_at_call 44; refine (Tryz.strings_HasPrefix _ _ _).mono ?_; rintro e w' ⟨rfl, rfl⟩))
        go_roundw
        case rel =>
          refine ⟨w2, seen.push 0, ⟨HAL2.out.1.trans HAL.out.1, HAL2.out.2.1.trans HAL.out.2.1, HAL2.out.2.2.trans HAL.out.2.2⟩, rfl, ?_⟩
          rw [seen_push]
          rw [show ((2 : Nat) == 0) = false by decide, Bool.or_false]; simp
        case measure =>
          have h1 := World.iterSeen_alloc w2 (some m) 5 (seen.push 0) 5
          have h2 := World.iterSeen_alloc wa (some m) 5 seen 5
          rw [HSZ2.out] at h1
          rw [HSZ.out] at h2
          rw [h1, h2]
          exact left_shrinks es5 seen e0 HE.out
      · have hnx : ∀ ty, (Instr.next (.pointer (some ⟨N, 0, none⟩)) false ty).run Tryz.prog (wa.alloc (.mapIter (some m) 5 seen 5)) = .ok (.tuple #[.bool true, .string kHmargin, fnV 54]) (w2.alloc (.mapIter (some m) 5 (seen.push 1) 5)) := fun _ => hrun
        have hen' : (Instr.entry (.pointer (some ⟨N, 0, none⟩))).run Tryz.prog (w2.alloc (.mapIter (some m) 5 (seen.push 1) 5)) = .ok (.tuple #[.string kHmargin, fnV 54]) (w2.alloc (.mapIter (some m) 5 (seen.push 1) 5)) := hen
        have hc : seen.contains 1 = false := hnot
        have hpi : Lib.hasPrefix [104, 109, 97, 114, 103, 105, 110] q.data.toList = false := hp1
        clear hrun hen hnot
        have HC := Lib.hid hc
        clear hc
        go_wp2_with (first
          | (go_at_call 52; refine (lower_any kHmargin _ (by decide) (low_key _ (by decide))).mono ?_; rintro e w' ⟨rfl, rfl⟩)
          | (go_at_call 44; refine (Tryz.strings_HasPrefix _ _ _).mono ?_; rintro e w' ⟨rfl, rfl⟩))
        go_roundw
        case rel =>
          refine ⟨w2, seen.push 1, ⟨HAL2.out.1.trans HAL.out.1, HAL2.out.2.1.trans HAL.out.2.1, HAL2.out.2.2.trans HAL.out.2.2⟩, rfl, ?_⟩
          rw [seen_push]
          rw [show ((2 : Nat) == 1) = false by decide, Bool.or_false]; simp
        case measure =>
          have h1 := World.iterSeen_alloc w2 (some m) 5 (seen.push 1) 5
          have h2 := World.iterSeen_alloc wa (some m) 5 seen 5
          rw [HSZ2.out] at h1
          rw [HSZ.out] at h2
          rw [h1, h2]
          exact left_shrinks es5 seen e1 HE.out
      · have hnx : ∀ ty, (Instr.next (.pointer (some ⟨N, 0, none⟩)) false ty).run Tryz.prog (wa.alloc (.mapIter (some m) 5 seen 5)) = .ok (.tuple #[.bool true, .string kVmargin, fnV 55]) (w2.alloc (.mapIter (some m) 5 (seen.push 2) 5)) := fun _ => hrun
        have hen' : (Instr.entry (.pointer (some ⟨N, 0, none⟩))).run Tryz.prog (w2.alloc (.mapIter (some m) 5 (seen.push 2) 5)) = .ok (.tuple #[.string kVmargin, fnV 55]) (w2.alloc (.mapIter (some m) 5 (seen.push 2) 5)) := hen
        have hc : seen.contains 2 = false := hnot
        have hpi : Lib.hasPrefix [118, 109, 97, 114, 103, 105, 110] q.data.toList = true := hp2
        clear hrun hen hnot
        have HC := Lib.hid hc
        clear hc
        have hpv : metV (seen.contains 2) kVmargin = .string ⟨#[]⟩ := by rw [HC.out]; rfl
        rw [hpv]
        clear hpv
        go_wp2_with (first
          | (go_at_call 52; refine (lower_any kVmargin _ (by decide) (low_key _ (by decide))).mono ?_; rintro e w' ⟨rfl, rfl⟩)
          | (go_at_call 44; refine (Tryz.strings_HasPrefix _ _ _).mono ?_; rintro e w' ⟨rfl, rfl⟩))
        go_roundw
        case rel =>
          refine ⟨w2, seen.push 2, ⟨HAL2.out.1.trans HAL.out.1, HAL2.out.2.1.trans HAL.out.2.1, HAL2.out.2.2.trans HAL.out.2.2⟩, rfl, ?_⟩
          rw [seen_push]
          rw [show ((2 : Nat) == 2) = true by decide, Bool.or_true]; rfl
        case measure =>
          have h1 := World.iterSeen_alloc w2 (some m) 5 (seen.push 2) 5
          have h2 := World.iterSeen_alloc wa (some m) 5 seen 5
          rw [HSZ2.out] at h1
          rw [HSZ.out] at h2
          rw [h1, h2]
          exact left_shrinks es5 seen e2 HE.out
      · have hnx : ∀ ty, (Instr.next (.pointer (some ⟨N, 0, none⟩)) false ty).run Tryz.prog (wa.alloc (.mapIter (some m) 5 seen 5)) = .ok (.tuple #[.bool true, .string kBgcolor, fnV 56]) (w2.alloc (.mapIter (some m) 5 (seen.push 3) 5)) := fun _ => hrun
        have hen' : (Instr.entry (.pointer (some ⟨N, 0, none⟩))).run Tryz.prog (w2.alloc (.mapIter (some m) 5 (seen.push 3) 5)) = .ok (.tuple #[.string kBgcolor, fnV 56]) (w2.alloc (.mapIter (some m) 5 (seen.push 3) 5)) := hen
        have hc : seen.contains 3 = false := hnot
        have hpi : Lib.hasPrefix [98, 103, 99, 111, 108, 111, 114] q.data.toList = false := hp3
        clear hrun hen hnot
        have HC := Lib.hid hc
        clear hc
        go_wp2_with (first
          | (go_at_call 52; refine (lower_any kBgcolor _ (by decide) (low_key _ (by decide))).mono ?_; rintro e w' ⟨rfl, rfl⟩)
          | (go_at_call 44; refine (Tryz.strings_HasPrefix _ _ _).mono ?_; rintro e w' ⟨rfl, rfl⟩))
        go_roundw
        case rel =>
          refine ⟨w2, seen.push 3, ⟨HAL2.out.1.trans HAL.out.1, HAL2.out.2.1.trans HAL.out.2.1, HAL2.out.2.2.trans HAL.out.2.2⟩, rfl, ?_⟩
          rw [seen_push]
          rw [show ((2 : Nat) == 3) = false by decide, Bool.or_false]; simp
        case measure =>
          have h1 := World.iterSeen_alloc w2 (some m) 5 (seen.push 3) 5
          have h2 := World.iterSeen_alloc wa (some m) 5 seen 5
          rw [HSZ2.out] at h1
          rw [HSZ.out] at h2
          rw [h1, h2]
          exact left_shrinks es5 seen e3 HE.out
      · have hnx : ∀ ty, (Instr.next (.pointer (some ⟨N, 0, none⟩)) false ty).run Tryz.prog (wa.alloc (.mapIter (some m) 5 seen 5)) = .ok (.tuple #[.bool true, .string kBorder, fnV 57]) (w2.alloc (.mapIter (some m) 5 (seen.push 4) 5)) := fun _ => hrun
        have hen' : (Instr.entry (.pointer (some ⟨N, 0, none⟩))).run Tryz.prog (w2.alloc (.mapIter (some m) 5 (seen.push 4) 5)) = .ok (.tuple #[.string kBorder, fnV 57]) (w2.alloc (.mapIter (some m) 5 (seen.push 4) 5)) := hen
        have hc : seen.contains 4 = false := hnot
        have hpi : Lib.hasPrefix [98, 111, 114, 100, 101, 114] q.data.toList = false := hp4
        clear hrun hen hnot
        have HC := Lib.hid hc
        clear hc
        go_wp2_with (first
          | (go_at_call 52; refine (lower_any kBorder _ (by decide) (low_key _ (by decide))).mono ?_; rintro e w' ⟨rfl, rfl⟩)
          | (go_at_call 44; refine (Tryz.strings_HasPrefix _ _ _).mono ?_; rintro e w' ⟨rfl, rfl⟩))
        go_roundw
        case rel =>
          refine ⟨w2, seen.push 4, ⟨HAL2.out.1.trans HAL.out.1, HAL2.out.2.1.trans HAL.out.2.1, HAL2.out.2.2.trans HAL.out.2.2⟩, rfl, ?_⟩
          rw [seen_push]
          rw [show ((2 : Nat) == 4) = false by decide, Bool.or_false]; simp
        case measure =>
          have h1 := World.iterSeen_alloc w2 (some m) 5 (seen.push 4) 5
          have h2 := World.iterSeen_alloc wa (some m) 5 seen 5
          rw [HSZ2.out] at h1
          rw [HSZ.out] at h2
          rw [h1, h2]
          exact left_shrinks es5 seen e4 HE.out

set_option maxRecDepth 100000 in
set_option maxHeartbeats 3200000 in
theorem handle_3 (p q vs : ByteArray) (z : Value) (m : Nat) (W : World) (R : Value → World → Prop) (hm : W.heap[m]? = some (.map es5 5)) (hps : p.size ≤ 1000) (hpa : ∀ (j : Nat) (b : UInt8), p.data.toList[j]? = some b → b.toNat < 128) (hq : Lib.toLowerA p.data.toList = q.data.toList)
    (hp0 : Lib.hasPrefix kFactor.data.toList q.data.toList = false) (hp1 : Lib.hasPrefix kHmargin.data.toList q.data.toList = false) (hp2 : Lib.hasPrefix kVmargin.data.toList q.data.toList = false) (hp3 : Lib.hasPrefix kBgcolor.data.toList q.data.toList = true) (hp4 : Lib.hasPrefix kBorder.data.toList q.data.toList = false) (hf : Hid (∀ w1, Kp W.heap.size W w1 → Calls Tryz.prog 56 #[.string vs, z] w1 fun e w' => ∃ v, e = .returned v ∧ R v w')) :
    Calls Tryz.prog 37 #[.map (some m), .string p, .string vs, z] W fun e w' => ∃ v, e = .returned v ∧ R v w' := by
  have hlow := (Tryz.strings_ToLower_ascii p W (by omega) hpa)
  have hqe : (⟨(Lib.toLowerA p.data.toList).toArray⟩ : ByteArray) = q := by rw [hq]
  rw [hqe] at hlow
  have HL := Lib.hid hlow
  clear hlow hqe hq hpa
  go_enter Tryz.func37, Tryz.ntmps37
  go_wp2_with fail
  refine HL.out.mono ?_
  rintro e w1 ⟨rfl, hb1⟩
  have hm1 : w1.heap[m]? = some (.map es5 5) := by
    rw [hb1.block m (Array.getElem?_eq_some_iff.1 hm).1]; exact hm
  have HK1 := Lib.hid (Kp.of hb1)
  have HM := Lib.hid hm
  have hrg := run_range_map (P := Tryz.prog) w1 91 9 114 m es5 5 under91 hm1
  clear hb1 hm HL
  go_wp2_with fail
  have hsz0 : w1.heap.size = w1.heap.size := rfl
  obtain ⟨N, hN⟩ : ∃ N, N = w1.heap.size := ⟨_, rfl⟩
  rw [← hN]
  have HN := Lib.hid hN
  go_loopw [9] (fun pv wr => ∃ (wa : World) (seen : Array Nat), wa.Alike w1 ∧ wr = wa.alloc (.mapIter (some m) 5 seen 5) ∧ pv = metV (seen.contains 3) kBgcolor) (fun _ wr => (leftOf es5 (wr.iterSeen N)).size)
  case atStart => exact ⟨w1, #[], ⟨rfl, rfl, rfl⟩, rfl, by simp [metV]⟩
  case round =>
    obtain ⟨wa, seen, hal, rfl, rfl⟩ := hrel
    have hsz : wa.heap.size = N := by rw [hal.1, hN]
    have hba : wa.heap[m]? = some (.map es5 5) := by rw [hal.1]; exact hm1
    have law := run_next_map (P := Tryz.prog) wa 0 m 5 5 seen es5 5 hba es5_old (Nat.le_refl _)
    rw [hsz] at law
    have HAL := Lib.hid hal
    have HSZ := Lib.hid hsz
    have HBA := Lib.hid hba
    clear hN hsz hba hrg hal hsz0
    rcases law with ⟨h0, hrun⟩ | ⟨e, he, w2, hal2, hrun⟩
    · have hnx : ∀ ty, (Instr.next (.pointer (some ⟨N, 0, none⟩)) false ty).run Tryz.prog (wa.alloc (.mapIter (some m) 5 seen 5)) = _ := fun _ => hrun
      have HKa : Hid (Kp W.heap.size W (wa.alloc (.mapIter (some m) 5 seen 5))) := by
        have h1 := HK1.out
        have h2 : Kp W.heap.size w1 wa := Kp.alike HAL.out
        exact (h1.trans h2).alloc (by have := h1.size; have := h2.size; omega) _
      clear hrun
      have hpv : metV (seen.contains 3) kBgcolor = .string kBgcolor := by rw [left_none h0 e3 (by simp)]; rfl
      rw [hpv]
      clear hpv h0
      have hlk := look_run (wa.alloc (.mapIter (some m) 5 seen 5)) m kBgcolor 3 (fnV 56) es5 (by rw [heap_alloc_old _ _ (Array.getElem?_eq_some_iff.1 HBA.out).1]; exact HBA.out) (by kernel_rfl)
      go_wp2_with fail
      refine (hf.out _ HKa.out).mono ?_
      rintro e w' ⟨v, rfl, hr⟩
      have HR := Lib.hid hr
      clear hr
      go_wp2_with fail
      go_ret
      exact ⟨_, rfl, HR.out⟩
    · have hmem := (mem_left he).1
      have hnot := (mem_left he).2
      have HE := Lib.hid he
      have HAL2 := Lib.hid hal2
      have hsz2 : w2.heap.size = N := by rw [hal2.1, HSZ.out]
      have HSZ2 := Lib.hid hsz2
      have hb2 : w2.heap[m]? = some (.map es5 5) := by rw [hal2.1]; exact HBA.out
      have hen := run_entry_map (P := Tryz.prog) w2 m 5 seen es5 5 e hb2 hmem es5_nodup
      rw [hsz2] at hen
      have hmem' : e = e0 ∨ e = e1 ∨ e = e2 ∨ e = e3 ∨ e = e4 := by simpa using hmem
      clear hmem he hal2 hsz2 hb2
      rcases hmem' with rfl | rfl | rfl | rfl | rfl
      · have hnx : ∀ ty, (Instr.next (.pointer (some ⟨N, 0, none⟩)) false ty).run Tryz.prog (wa.alloc (.mapIter (some m) 5 seen 5)) = .ok (.tuple #[.bool true, .string kFactor, fnV 53]) (w2.alloc (.mapIter (some m) 5 (seen.push 0) 5)) := fun _ => hrun
        have hen' : (Instr.entry (.pointer (some ⟨N, 0, none⟩))).run Tryz.prog (w2.alloc (.mapIter (some m) 5 (seen.push 0) 5)) = .ok (.tuple #[.string kFactor, fnV 53]) (w2.alloc (.mapIter (some m) 5 (seen.push 0) 5)) := hen
        have hc : seen.contains 0 = false := hnot
        have hpi : Lib.hasPrefix [102, 97, 99, 116, 111, 114] q.data.toList = false := hp0
        clear hrun hen hnot
        have HC := Lib.hid hc
        clear hc
        go_wp2_with (first
          | (go_at_call 52; refine (lower_any kFactor _ (by decide) (low_key _ (by decide))).mono ?_; rintro e w' ⟨rfl, rfl⟩)
          | (go_at_call 44; refine (Tryz.strings_HasPrefix _ _ _).mono ?_; rintro e w' ⟨rfl, rfl⟩))
        go_roundw
        case rel =>
          refine ⟨w2, seen.push 0, ⟨HAL2.out.1.trans HAL.out.1, HAL2.out.2.1.trans HAL.out.2.1, HAL2.out.2.2.trans HAL.out.2.2⟩, rfl, ?_⟩
          rw [seen_push]
          rw [show ((3 : Nat) == 0) = false by decide, Bool.or_false]; simp
        case measure =>
          have h1 := World.iterSeen_alloc w2 (some m) 5 (seen.push 0) 5
          have h2 := World.iterSeen_alloc wa (some m) 5 seen 5
          rw [HSZ2.out] at h1
          rw [HSZ.out] at h2
          rw [h1, h2]
          exact left_shrinks es5 seen e0 HE.out
      · have hnx : ∀ ty, (Instr.next (.pointer (some ⟨N, 0, none⟩)) false ty).run Tryz.prog (wa.alloc (.mapIter (some m) 5 seen 5)) = .ok (.tuple #[.bool true, .string kHmargin, fnV 54]) (w2.alloc (.mapIter (some m) 5 (seen.push 1) 5)) := fun _ => hrun
        have hen' : (Instr.entry (.pointer (some ⟨N, 0, none⟩))).run Tryz.prog (w2.alloc (.mapIter (some m) 5 (seen.push 1) 5)) = .ok (.tuple #[.string kHmargin, fnV 54]) (w2.alloc (.mapIter (some m) 5 (seen.push 1) 5)) := hen
        have hc : seen.contains 1 = false := hnot
        have hpi : Lib.hasPrefix [104, 109, 97, 114, 103, 105, 110] q.data.toList = false := hp1
        clear hrun hen hnot
        have HC := Lib.hid hc
        clear hc
        go_wp2_with (first
          | (go_at_call 52; refine (lower_any kHmargin _ (by decide) (low_key _ (by decide))).mono ?_; rintro e w' ⟨rfl, rfl⟩)
          | (go_at_call 44; refine (Tryz.strings_HasPrefix _ _ _).mono ?_; rintro e w' ⟨rfl, rfl⟩))
        go_roundw
        case rel =>
          refine ⟨w2, seen.push 1, ⟨HAL2.out.1.trans HAL.out.1, HAL2.out.2.1.trans HAL.out.2.1, HAL2.out.2.2.trans HAL.out.2.2⟩, rfl, ?_⟩
          rw [seen_push]
          rw [show ((3 : Nat) == 1) = false by decide, Bool.or_false]; simp
        case measure =>
          have h1 := World.iterSeen_alloc w2 (some m) 5 (seen.push 1) 5
          have h2 := World.iterSeen_alloc wa (some m) 5 seen 5
          rw [HSZ2.out] at h1
          rw [HSZ.out] at h2
          rw [h1, h2]
          exact left_shrinks es5 seen e1 HE.out
      · have hnx : ∀ ty, (Instr.next (.pointer (some ⟨N, 0, none⟩)) false ty).run Tryz.prog (wa.alloc (.mapIter (some m) 5 seen 5)) = .ok (.tuple #[.bool true, .string kVmargin, fnV 55]) (w2.alloc (.mapIter (some m) 5 (seen.push 2) 5)) := fun _ => hrun
        have hen' : (Instr.entry (.pointer (some ⟨N, 0, none⟩))).run Tryz.prog (w2.alloc (.mapIter (some m) 5 (seen.push 2) 5)) = .ok (.tuple #[.string kVmargin, fnV 55]) (w2.alloc (.mapIter (some m) 5 (seen.push 2) 5)) := hen
        have hc : seen.contains 2 = false := hnot
        have hpi : Lib.hasPrefix [118, 109, 97, 114, 103, 105, 110] q.data.toList = false := hp2
        clear hrun hen hnot
        have HC := Lib.hid hc
        clear hc
        go_wp2_with (first
          | (go_at_call 52; refine (lower_any kVmargin _ (by decide) (low_key _ (by decide))).mono ?_; rintro e w' ⟨rfl, rfl⟩)
          | (go_at_call 44; refine (Tryz.strings_HasPrefix _ _ _).mono ?_; rintro e w' ⟨rfl, rfl⟩))
        go_roundw
        case rel =>
          refine ⟨w2, seen.push 2, ⟨HAL2.out.1.trans HAL.out.1, HAL2.out.2.1.trans HAL.out.2.1, HAL2.out.2.2.trans HAL.out.2.2⟩, rfl, ?_⟩
          rw [seen_push]
          rw [show ((3 : Nat) == 2) = false by decide, Bool.or_false]; simp
        case measure =>
          have h1 := World.iterSeen_alloc w2 (some m) 5 (seen.push 2) 5
          have h2 := World.iterSeen_alloc wa (some m) 5 seen 5
          rw [HSZ2.out] at h1
          rw [HSZ.out] at h2
          rw [h1, h2]
          exact left_shrinks es5 seen e2 HE.out
      · have hnx : ∀ ty, (Instr.next (.pointer (some ⟨N, 0, none⟩)) false ty).run Tryz.prog (wa.alloc (.mapIter (some m) 5 seen 5)) = .ok (.tuple #[.bool true, .string kBgcolor, fnV 56]) (w2.alloc (.mapIter (some m) 5 (seen.push 3) 5)) := fun _ => hrun
        have hen' : (Instr.entry (.pointer (some ⟨N, 0, none⟩))).run Tryz.prog (w2.alloc (.mapIter (some m) 5 (seen.push 3) 5)) = .ok (.tuple #[.string kBgcolor, fnV 56]) (w2.alloc (.mapIter (some m) 5 (seen.push 3) 5)) := hen
        have hc : seen.contains 3 = false := hnot
        have hpi : Lib.hasPrefix [98, 103, 99, 111, 108, 111, 114] q.data.toList = true := hp3
        clear hrun hen hnot
        have HC := Lib.hid hc
        clear hc
        have hpv : metV (seen.contains 3) kBgcolor = .string ⟨#[]⟩ := by rw [HC.out]; rfl
        rw [hpv]
        clear hpv
        go_wp2_with (first
          | (go_at_call 52; refine (lower_any kBgcolor _ (by decide) (low_key _ (by decide))).mono ?_; rintro e w' ⟨rfl, rfl⟩)
          | (go_at_call 44; refine (Tryz.strings_HasPrefix _ _ _).mono ?_; rintro e w' ⟨rfl, rfl⟩))
        go_roundw
        case rel =>
          refine ⟨w2, seen.push 3, ⟨HAL2.out.1.trans HAL.out.1, HAL2.out.2.1.trans HAL.out.2.1, HAL2.out.2.2.trans HAL.out.2.2⟩, rfl, ?_⟩
          rw [seen_push]
          rw [show ((3 : Nat) == 3) = true by decide, Bool.or_true]; rfl
        case measure =>
          have h1 := World.iterSeen_alloc w2 (some m) 5 (seen.push 3) 5
          have h2 := World.iterSeen_alloc wa (some m) 5 seen 5
          rw [HSZ2.out] at h1
          rw [HSZ.out] at h2
          rw [h1, h2]
          exact left_shrinks es5 seen e3 HE.out
      · have hnx : ∀ ty, (Instr.next (.pointer (some ⟨N, 0, none⟩)) false ty).run Tryz.prog (wa.alloc (.mapIter (some m) 5 seen 5)) = .ok (.tuple #[.bool true, .string kBorder, fnV 57]) (w2.alloc (.mapIter (some m) 5 (seen.push 4) 5)) := fun _ => hrun
        have hen' : (Instr.entry (.pointer (some ⟨N, 0, none⟩))).run Tryz.prog (w2.alloc (.mapIter (some m) 5 (seen.push 4) 5)) = .ok (.tuple #[.string kBorder, fnV 57]) (w2.alloc (.mapIter (some m) 5 (seen.push 4) 5)) := hen
        have hc : seen.contains 4 = false := hnot
        have hpi : Lib.hasPrefix [98, 111, 114, 100, 101, 114] q.data.toList = false := hp4
        clear hrun hen hnot
        have HC := Lib.hid hc
        clear hc
        go_wp2_with (first
          | (go_at_call 52; refine (lower_any kBorder _ (by decide) (low_key _ (by decide))).mono ?_; rintro e w' ⟨rfl, rfl⟩)
          | (go_at_call 44; refine (Tryz.strings_HasPrefix _ _ _).mono ?_; rintro e w' ⟨rfl, rfl⟩))
        go_roundw
        case rel =>
          refine ⟨w2, seen.push 4, ⟨HAL2.out.1.trans HAL.out.1, HAL2.out.2.1.trans HAL.out.2.1, HAL2.out.2.2.trans HAL.out.2.2⟩, rfl, ?_⟩
          rw [seen_push]
          rw [show ((3 : Nat) == 4) = false by decide, Bool.or_false]; simp
        case measure =>
          have h1 := World.iterSeen_alloc w2 (some m) 5 (seen.push 4) 5
          have h2 := World.iterSeen_alloc wa (some m) 5 seen 5
          rw [HSZ2.out] at h1
          rw [HSZ.out] at h2
          rw [h1, h2]
          exact left_shrinks es5 seen e4 HE.out

set_option maxRecDepth 100000 in
set_option maxHeartbeats 3200000 in
theorem handle_4 (p q vs : ByteArray) (z : Value) (m : Nat) (W : World) (R : Value → World → Prop) (hm : W.heap[m]? = some (.map es5 5)) (hps : p.size ≤ 1000) (hpa : ∀ (j : Nat) (b : UInt8), p.data.toList[j]? = some b → b.toNat < 128) (hq : Lib.toLowerA p.data.toList = q.data.toList)
    (hp0 : Lib.hasPrefix kFactor.data.toList q.data.toList = false) (hp1 : Lib.hasPrefix kHmargin.data.toList q.data.toList = false) (hp2 : Lib.hasPrefix kVmargin.data.toList q.data.toList = false) (hp3 : Lib.hasPrefix kBgcolor.data.toList q.data.toList = false) (hp4 : Lib.hasPrefix kBorder.data.toList q.data.toList = true) (hf : Hid (∀ w1, Kp W.heap.size W w1 → Calls Tryz.prog 57 #[.string vs, z] w1 fun e w' => ∃ v, e = .returned v ∧ R v w')) :
    Calls Tryz.prog 37 #[.map (some m), .string p, .string vs, z] W fun e w' => ∃ v, e = .returned v ∧ R v w' := by
  have hlow := (Tryz.strings_ToLower_ascii p W (by omega) hpa)
  have hqe : (⟨(Lib.toLowerA p.data.toList).toArray⟩ : ByteArray) = q := by rw [hq]
  rw [hqe] at hlow
  have HL := Lib.hid hlow
  clear hlow hqe hq hpa
  go_enter Tryz.func37, Tryz.ntmps37
  go_wp2_with fail
  refine HL.out.mono ?_
  rintro e w1 ⟨rfl, hb1⟩
  have hm1 : w1.heap[m]? = some (.map es5 5) := by
    rw [hb1.block m (Array.getElem?_eq_some_iff.1 hm).1]; exact hm
  have HK1 := Lib.hid (Kp.of hb1)
  have HM := Lib.hid hm
  have hrg := run_range_map (P := Tryz.prog) w1 91 9 114 m es5 5 under91 hm1
  clear hb1 hm HL
  go_wp2_with fail
  have hsz0 : w1.heap.size = w1.heap.size := rfl
  obtain ⟨N, hN⟩ : ∃ N, N = w1.heap.size := ⟨_, rfl⟩
  rw [← hN]
  have HN := Lib.hid hN
  go_loopw [9] (fun pv wr => ∃ (wa : World) (seen : Array Nat), wa.Alike w1 ∧ wr = wa.alloc (.mapIter (some m) 5 seen 5) ∧ pv = metV (seen.contains 4) kBorder) (fun _ wr => (leftOf es5 (wr.iterSeen N)).size)
  case atStart => exact ⟨w1, #[], ⟨rfl, rfl, rfl⟩, rfl, by simp [metV]⟩
  case round =>
    obtain ⟨wa, seen, hal, rfl, rfl⟩ := hrel
    have hsz : wa.heap.size = N := by rw [hal.1, hN]
    have hba : wa.heap[m]? = some (.map es5 5) := by rw [hal.1]; exact hm1
    have law := run_next_map (P := Tryz.prog) wa 0 m 5 5 seen es5 5 hba es5_old (Nat.le_refl _)
    rw [hsz] at law
    have HAL := Lib.hid hal
    have HSZ := Lib.hid hsz
    have HBA := Lib.hid hba
    clear hN hsz hba hrg hal hsz0
    rcases law with ⟨h0, hrun⟩ | ⟨e, he, w2, hal2, hrun⟩
    · have hnx : ∀ ty, (Instr.next (.pointer (some ⟨N, 0, none⟩)) false ty).run Tryz.prog (wa.alloc (.mapIter (some m) 5 seen 5)) = _ := fun _ => hrun
      have HKa : Hid (Kp W.heap.size W (wa.alloc (.mapIter (some m) 5 seen 5))) := by
        have h1 := HK1.out
        have h2 : Kp W.heap.size w1 wa := Kp.alike HAL.out
        exact (h1.trans h2).alloc (by have := h1.size; have := h2.size; omega) _
      clear hrun
      have hpv : metV (seen.contains 4) kBorder = .string kBorder := by rw [left_none h0 e4 (by simp)]; rfl
      rw [hpv]
      clear hpv h0
      have hlk := look_run (wa.alloc (.mapIter (some m) 5 seen 5)) m kBorder 4 (fnV 57) es5 (by rw [heap_alloc_old _ _ (Array.getElem?_eq_some_iff.1 HBA.out).1]; exact HBA.out) (by kernel_rfl)
      go_wp2_with fail
      refine (hf.out _ HKa.out).mono ?_
      rintro e w' ⟨v, rfl, hr⟩
      have HR := Lib.hid hr
      clear hr
      go_wp2_with fail
      go_ret
      exact ⟨_, rfl, HR.out⟩
    · have hmem := (mem_left he).1
      have hnot := (mem_left he).2
      have HE := Lib.hid he
      have HAL2 := Lib.hid hal2
      have hsz2 : w2.heap.size = N := by rw [hal2.1, HSZ.out]
      have HSZ2 := Lib.hid hsz2
      have hb2 : w2.heap[m]? = some (.map es5 5) := by rw [hal2.1]; exact HBA.out
      have hen := run_entry_map (P := Tryz.prog) w2 m 5 seen es5 5 e hb2 hmem es5_nodup
      rw [hsz2] at hen
      have hmem' : e = e0 ∨ e = e1 ∨ e = e2 ∨ e = e3 ∨ e = e4 := by simpa using hmem
      clear hmem he hal2 hsz2 hb2
      rcases hmem' with rfl | rfl | rfl | rfl | rfl
      · have hnx : ∀ ty, (Instr.next (.pointer (some ⟨N, 0, none⟩)) false ty).run Tryz.prog (wa.alloc (.mapIter (some m) 5 seen 5)) = .ok (.tuple #[.bool true, .string kFactor, fnV 53]) (w2.alloc (.mapIter (some m) 5 (seen.push 0) 5)) := fun _ => hrun
        have hen' : (Instr.entry (.pointer (some ⟨N, 0, none⟩))).run Tryz.prog (w2.alloc (.mapIter (some m) 5 (seen.push 0) 5)) = .ok (.tuple #[.string kFactor, fnV 53]) (w2.alloc (.mapIter (some m) 5 (seen.push 0) 5)) := hen
        have hc : seen.contains 0 = false := hnot
        have hpi : Lib.hasPrefix [102, 97, 99, 116, 111, 114] q.data.toList = false := hp0
        clear hrun hen hnot
        have HC := Lib.hid hc
        clear hc
        go_wp2_with (first
          | (go_at_call 52; refine (lower_any kFactor _ (by decide) (low_key _ (by decide))).mono ?_; rintro e w' ⟨rfl, rfl⟩)
          | (go_at_call 44; refine (Tryz.strings_HasPrefix _ _ _).mono ?_; rintro e w' ⟨rfl, rfl⟩))
        go_roundw
        case rel =>
          refine ⟨w2, seen.push 0, ⟨HAL2.out.1.trans HAL.out.1, HAL2.out.2.1.trans HAL.out.2.1, HAL2.out.2.2.trans HAL.out.2.2⟩, rfl, ?_⟩
          rw [seen_push]
          rw [show ((4 : Nat) == 0) = false by decide, Bool.or_false]; simp
        case measure =>
          have h1 := World.iterSeen_alloc w2 (some m) 5 (seen.push 0) 5
          have h2 := World.iterSeen_alloc wa (some m) 5 seen 5
          rw [HSZ2.out] at h1
          rw [HSZ.out] at h2
          rw [h1, h2]
          exact left_shrinks es5 seen e0 HE.out
      · have hnx : ∀ ty, (Instr.next (.pointer (some ⟨N, 0, none⟩)) false ty).run Tryz.prog (wa.alloc (.mapIter (some m) 5 seen 5)) = .ok (.tuple #[.bool true, .string kHmargin, fnV 54]) (w2.alloc (.mapIter (some m) 5 (seen.push 1) 5)) := fun _ => hrun
        have hen' : (Instr.entry (.pointer (some ⟨N, 0, none⟩))).run Tryz.prog (w2.alloc (.mapIter (some m) 5 (seen.push 1) 5)) = .ok (.tuple #[.string kHmargin, fnV 54]) (w2.alloc (.mapIter (some m) 5 (seen.push 1) 5)) := hen
        have hc : seen.contains 1 = false := hnot
        have hpi : Lib.hasPrefix [104, 109, 97, 114, 103, 105, 110] q.data.toList = false := hp1
        clear hrun hen hnot
        have HC := Lib.hid hc
        clear hc
        go_wp2_with (first
          | (go_at_call 52; refine (lower_any kHmargin _ (by decide) (low_key _ (by decide))).mono ?_; rintro e w' ⟨rfl, rfl⟩)
          | (go_at_call 44; refine (Tryz.strings_HasPrefix _ _ _).mono ?_; rintro e w' ⟨rfl, rfl⟩))
        go_roundw
        case rel =>
          refine ⟨w2, seen.push 1, ⟨HAL2.out.1.trans HAL.out.1, HAL2.out.2.1.trans HAL.out.2.1, HAL2.out.2.2.trans HAL.out.2.2⟩, rfl, ?_⟩
          rw [seen_push]
          rw [show ((4 : Nat) == 1) = false by decide, Bool.or_false]; simp
        case measure =>
          have h1 := World.iterSeen_alloc w2 (some m) 5 (seen.push 1) 5
          have h2 := World.iterSeen_alloc wa (some m) 5 seen 5
          rw [HSZ2.out] at h1
          rw [HSZ.out] at h2
          rw [h1, h2]
          exact left_shrinks es5 seen e1 HE.out
      · have hnx : ∀ ty, (Instr.next (.pointer (some ⟨N, 0, none⟩)) false ty).run Tryz.prog (wa.alloc (.mapIter (some m) 5 seen 5)) = .ok (.tuple #[.bool true, .string kVmargin, fnV 55]) (w2.alloc (.mapIter (some m) 5 (seen.push 2) 5)) := fun _ => hrun
        have hen' : (Instr.entry (.pointer (some ⟨N, 0, none⟩))).run Tryz.prog (w2.alloc (.mapIter (some m) 5 (seen.push 2) 5)) = .ok (.tuple #[.string kVmargin, fnV 55]) (w2.alloc (.mapIter (some m) 5 (seen.push 2) 5)) := hen
        have hc : seen.contains 2 = false := hnot
        have hpi : Lib.hasPrefix [118, 109, 97, 114, 103, 105, 110] q.data.toList = false := hp2
        clear hrun hen hnot
        have HC := Lib.hid hc
        clear hc
        go_wp2_with (first
          | (go_at_call 52; refine (lower_any kVmargin _ (by decide) (low_key _ (by decide))).mono ?_; rintro e w' ⟨rfl, rfl⟩)
          | (go_at_call 44; refine (Tryz.strings_HasPrefix _ _ _).mono ?_; rintro e w' ⟨rfl, rfl⟩))
        go_roundw
        case rel =>
          refine ⟨w2, seen.push 2, ⟨HAL2.out.1.trans HAL.out.1, HAL2.out.2.1.trans HAL.out.2.1, HAL2.out.2.2.trans HAL.out.2.2⟩, rfl, ?_⟩
          rw [seen_push]
          rw [show ((4 : Nat) == 2) = false by decide, Bool.or_false]; simp
        case measure =>
          have h1 := World.iterSeen_alloc w2 (some m) 5 (seen.push 2) 5
          have h2 := World.iterSeen_alloc wa (some m) 5 seen 5
          rw [HSZ2.out] at h1
          rw [HSZ.out] at h2
          rw [h1, h2]
          exact left_shrinks es5 seen e2 HE.out
      · have hnx : ∀ ty, (Instr.next (.pointer (some ⟨N, 0, none⟩)) false ty).run Tryz.prog (wa.alloc (.mapIter (some m) 5 seen 5)) = .ok (.tuple #[.bool true, .string kBgcolor, fnV 56]) (w2.alloc (.mapIter (some m) 5 (seen.push 3) 5)) := fun _ => hrun
        have hen' : (Instr.entry (.pointer (some ⟨N, 0, none⟩))).run Tryz.prog (w2.alloc (.mapIter (some m) 5 (seen.push 3) 5)) = .ok (.tuple #[.string kBgcolor, fnV 56]) (w2.alloc (.mapIter (some m) 5 (seen.push 3) 5)) := hen
        have hc : seen.contains 3 = false := hnot
        have hpi : Lib.hasPrefix [98, 103, 99, 111, 108, 111, 114] q.data.toList = false := hp3
        clear hrun hen hnot
        have HC := Lib.hid hc
        clear hc
        go_wp2_with (first
          | (go_at_call 52; refine (lower_any kBgcolor _ (by decide) (low_key _ (by decide))).mono ?_; rintro e w' ⟨rfl, rfl⟩)
          | (go_at_call 44; refine (Tryz.strings_HasPrefix _ _ _).mono ?_; rintro e w' ⟨rfl, rfl⟩))
        go_roundw
        case rel =>
          refine ⟨w2, seen.push 3, ⟨HAL2.out.1.trans HAL.out.1, HAL2.out.2.1.trans HAL.out.2.1, HAL2.out.2.2.trans HAL.out.2.2⟩, rfl, ?_⟩
          rw [seen_push]
          rw [show ((4 : Nat) == 3) = false by decide, Bool.or_false]; simp
        case measure =>
          have h1 := World.iterSeen_alloc w2 (some m) 5 (seen.push 3) 5
          have h2 := World.iterSeen_alloc wa (some m) 5 seen 5
          rw [HSZ2.out] at h1
          rw [HSZ.out] at h2
          rw [h1, h2]
          exact left_shrinks es5 seen e3 HE.out
      · have hnx : ∀ ty, (Instr.next (.pointer (some ⟨N, 0, none⟩)) false ty).run Tryz.prog (wa.alloc (.mapIter (some m) 5 seen 5)) = .ok (.tuple #[.bool true, .string kBorder, fnV 57]) (w2.alloc (.mapIter (some m) 5 (seen.push 4) 5)) := fun _ => hrun
        have hen' : (Instr.entry (.pointer (some ⟨N, 0, none⟩))).run Tryz.prog (w2.alloc (.mapIter (some m) 5 (seen.push 4) 5)) = .ok (.tuple #[.string kBorder, fnV 57]) (w2.alloc (.mapIter (some m) 5 (seen.push 4) 5)) := hen
        have hc : seen.contains 4 = false := hnot
        have hpi : Lib.hasPrefix [98, 111, 114, 100, 101, 114] q.data.toList = true := hp4
        clear hrun hen hnot
        have HC := Lib.hid hc
        clear hc
        have hpv : metV (seen.contains 4) kBorder = .string ⟨#[]⟩ := by rw [HC.out]; rfl
        rw [hpv]
        clear hpv
        go_wp2_with (first
          | (go_at_call 52; refine (lower_any kBorder _ (by decide) (low_key _ (by decide))).mono ?_; rintro e w' ⟨rfl, rfl⟩)
          | (go_at_call 44; refine (Tryz.strings_HasPrefix _ _ _).mono ?_; rintro e w' ⟨rfl, rfl⟩))
        go_roundw
        case rel =>
          refine ⟨w2, seen.push 4, ⟨HAL2.out.1.trans HAL.out.1, HAL2.out.2.1.trans HAL.out.2.1, HAL2.out.2.2.trans HAL.out.2.2⟩, rfl, ?_⟩
          rw [seen_push]
          rw [show ((4 : Nat) == 4) = true by decide, Bool.or_true]; rfl
        case measure =>
          have h1 := World.iterSeen_alloc w2 (some m) 5 (seen.push 4) 5
          have h2 := World.iterSeen_alloc wa (some m) 5 seen 5
          rw [HSZ2.out] at h1
          rw [HSZ.out] at h2
          rw [h1, h2]
          exact left_shrinks es5 seen e4 HE.out

set_option maxRecDepth 100000 in
set_option maxHeartbeats 3200000 in
theorem handle_none (p q vs : ByteArray) (z : Value) (m : Nat) (W : World) (hm : W.heap[m]? = some (.map es5 5)) (hps : p.size ≤ 1000) (hpa : ∀ (j : Nat) (b : UInt8), p.data.toList[j]? = some b → b.toNat < 128) (hq : Lib.toLowerA p.data.toList = q.data.toList)
    (hp0 : Lib.hasPrefix kFactor.data.toList q.data.toList = false) (hp1 : Lib.hasPrefix kHmargin.data.toList q.data.toList = false) (hp2 : Lib.hasPrefix kVmargin.data.toList q.data.toList = false) (hp3 : Lib.hasPrefix kBgcolor.data.toList q.data.toList = false) (hp4 : Lib.hasPrefix kBorder.data.toList q.data.toList = false)  :
    Calls Tryz.prog 37 #[.map (some m), .string p, .string vs, z] W fun e w' => ∃ a, e = .returned (.iface 107 (.pointer (some a))) ∧ Kp W.heap.size W w' := by
  have hlow := (Tryz.strings_ToLower_ascii p W (by omega) hpa)
  have hqe : (⟨(Lib.toLowerA p.data.toList).toArray⟩ : ByteArray) = q := by rw [hq]
  rw [hqe] at hlow
  have HL := Lib.hid hlow
  clear hlow hqe hq hpa
  go_enter Tryz.func37, Tryz.ntmps37
  go_wp2_with fail
  refine HL.out.mono ?_
  rintro e w1 ⟨rfl, hb1⟩
  have hm1 : w1.heap[m]? = some (.map es5 5) := by
    rw [hb1.block m (Array.getElem?_eq_some_iff.1 hm).1]; exact hm
  have HK1 := Lib.hid (Kp.of hb1)
  have HM := Lib.hid hm
  have hrg := run_range_map (P := Tryz.prog) w1 91 9 114 m es5 5 under91 hm1
  clear hb1 hm HL
  go_wp2_with fail
  have hsz0 : w1.heap.size = w1.heap.size := rfl
  obtain ⟨N, hN⟩ : ∃ N, N = w1.heap.size := ⟨_, rfl⟩
  rw [← hN]
  have HN := Lib.hid hN
  go_loopw [9] (fun pv wr => ∃ (wa : World) (seen : Array Nat), wa.Alike w1 ∧ wr = wa.alloc (.mapIter (some m) 5 seen 5) ∧ pv = metV (seen.contains 7) (⟨#[]⟩ : ByteArray)) (fun _ wr => (leftOf es5 (wr.iterSeen N)).size)
  case atStart => exact ⟨w1, #[], ⟨rfl, rfl, rfl⟩, rfl, by simp [metV]⟩
  case round =>
    obtain ⟨wa, seen, hal, rfl, rfl⟩ := hrel
    have hsz : wa.heap.size = N := by rw [hal.1, hN]
    have hba : wa.heap[m]? = some (.map es5 5) := by rw [hal.1]; exact hm1
    have law := run_next_map (P := Tryz.prog) wa 0 m 5 5 seen es5 5 hba es5_old (Nat.le_refl _)
    rw [hsz] at law
    have HAL := Lib.hid hal
    have HSZ := Lib.hid hsz
    have HBA := Lib.hid hba
    clear hN hsz hba hrg hal hsz0
    rcases law with ⟨h0, hrun⟩ | ⟨e, he, w2, hal2, hrun⟩
    · have hnx : ∀ ty, (Instr.next (.pointer (some ⟨N, 0, none⟩)) false ty).run Tryz.prog (wa.alloc (.mapIter (some m) 5 seen 5)) = _ := fun _ => hrun
      have HKa : Hid (Kp W.heap.size W (wa.alloc (.mapIter (some m) 5 seen 5))) := by
        have h1 := HK1.out
        have h2 : Kp W.heap.size w1 wa := Kp.alike HAL.out
        exact (h1.trans h2).alloc (by have := h1.size; have := h2.size; omega) _
      clear hrun
      have hpv : metV (seen.contains 7) (⟨#[]⟩ : ByteArray) = .string ⟨#[]⟩ := by unfold metV; cases seen.contains 7 <;> rfl
      rw [hpv]
      clear hpv h0
      go_wp2_with (go_at_call 32; go_in)
      go_ret
      refine ⟨_, rfl, ?_⟩
      exact HKa.out.alloc (by have := HKa.out.size; omega) _
    · have hmem := (mem_left he).1
      have hnot := (mem_left he).2
      have HE := Lib.hid he
      have HAL2 := Lib.hid hal2
      have hsz2 : w2.heap.size = N := by rw [hal2.1, HSZ.out]
      have HSZ2 := Lib.hid hsz2
      have hb2 : w2.heap[m]? = some (.map es5 5) := by rw [hal2.1]; exact HBA.out
      have hen := run_entry_map (P := Tryz.prog) w2 m 5 seen es5 5 e hb2 hmem es5_nodup
      rw [hsz2] at hen
      have hmem' : e = e0 ∨ e = e1 ∨ e = e2 ∨ e = e3 ∨ e = e4 := by simpa using hmem
      clear hmem he hal2 hsz2 hb2
      rcases hmem' with rfl | rfl | rfl | rfl | rfl
      · have hnx : ∀ ty, (Instr.next (.pointer (some ⟨N, 0, none⟩)) false ty).run Tryz.prog (wa.alloc (.mapIter (some m) 5 seen 5)) = .ok (.tuple #[.bool true, .string kFactor, fnV 53]) (w2.alloc (.mapIter (some m) 5 (seen.push 0) 5)) := fun _ => hrun
        have hen' : (Instr.entry (.pointer (some ⟨N, 0, none⟩))).run Tryz.prog (w2.alloc (.mapIter (some m) 5 (seen.push 0) 5)) = .ok (.tuple #[.string kFactor, fnV 53]) (w2.alloc (.mapIter (some m) 5 (seen.push 0) 5)) := hen
        have hc : seen.contains 0 = false := hnot
        have hpi : Lib.hasPrefix [102, 97, 99, 116, 111, 114] q.data.toList = false := hp0
        clear hrun hen hnot
        have HC := Lib.hid hc
        clear hc
        go_wp2_with (first
          | (go_at_call 52; refine (lower_any kFactor _ (by decide) (low_key _ (by decide))).mono ?_; rintro e w' ⟨rfl, rfl⟩)
          | (go_at_call 44; refine (Tryz.strings_HasPrefix _ _ _).mono ?_; rintro e w' ⟨rfl, rfl⟩))
        go_roundw
        case rel =>
          refine ⟨w2, seen.push 0, ⟨HAL2.out.1.trans HAL.out.1, HAL2.out.2.1.trans HAL.out.2.1, HAL2.out.2.2.trans HAL.out.2.2⟩, rfl, ?_⟩
          rw [seen_push]
          rw [show ((7 : Nat) == 0) = false by decide, Bool.or_false]; simp
        case measure =>
          have h1 := World.iterSeen_alloc w2 (some m) 5 (seen.push 0) 5
          have h2 := World.iterSeen_alloc wa (some m) 5 seen 5
          rw [HSZ2.out] at h1
          rw [HSZ.out] at h2
          rw [h1, h2]
          exact left_shrinks es5 seen e0 HE.out
      · have hnx : ∀ ty, (Instr.next (.pointer (some ⟨N, 0, none⟩)) false ty).run Tryz.prog (wa.alloc (.mapIter (some m) 5 seen 5)) = .ok (.tuple #[.bool true, .string kHmargin, fnV 54]) (w2.alloc (.mapIter (some m) 5 (seen.push 1) 5)) := fun _ => hrun
        have hen' : (Instr.entry (.pointer (some ⟨N, 0, none⟩))).run Tryz.prog (w2.alloc (.mapIter (some m) 5 (seen.push 1) 5)) = .ok (.tuple #[.string kHmargin, fnV 54]) (w2.alloc (.mapIter (some m) 5 (seen.push 1) 5)) := hen
        have hc : seen.contains 1 = false := hnot
        have hpi : Lib.hasPrefix [104, 109, 97, 114, 103, 105, 110] q.data.toList = false := hp1
        clear hrun hen hnot
        have HC := Lib.hid hc
        clear hc
        go_wp2_with (first
          | (go_at_call 52; refine (lower_any kHmargin _ (by decide) (low_key _ (by decide))).mono ?_; rintro e w' ⟨rfl, rfl⟩)
          | (go_at_call 44; refine (Tryz.strings_HasPrefix _ _ _).mono ?_; rintro e w' ⟨rfl, rfl⟩))
        go_roundw
        case rel =>
          refine ⟨w2, seen.push 1, ⟨HAL2.out.1.trans HAL.out.1, HAL2.out.2.1.trans HAL.out.2.1, HAL2.out.2.2.trans HAL.out.2.2⟩, rfl, ?_⟩
          rw [seen_push]
          rw [show ((7 : Nat) == 1) = false by decide, Bool.or_false]; simp
        case measure =>
          have h1 := World.iterSeen_alloc w2 (some m) 5 (seen.push 1) 5
          have h2 := World.iterSeen_alloc wa (some m) 5 seen 5
          rw [HSZ2.out] at h1
          rw [HSZ.out] at h2
          rw [h1, h2]
          exact left_shrinks es5 seen e1 HE.out
      · have hnx : ∀ ty, (Instr.next (.pointer (some ⟨N, 0, none⟩)) false ty).run Tryz.prog (wa.alloc (.mapIter (some m) 5 seen 5)) = .ok (.tuple #[.bool true, .string kVmargin, fnV 55]) (w2.alloc (.mapIter (some m) 5 (seen.push 2) 5)) := fun _ => hrun
        have hen' : (Instr.entry (.pointer (some ⟨N, 0, none⟩))).run Tryz.prog (w2.alloc (.mapIter (some m) 5 (seen.push 2) 5)) = .ok (.tuple #[.string kVmargin, fnV 55]) (w2.alloc (.mapIter (some m) 5 (seen.push 2) 5)) := hen
        have hc : seen.contains 2 = false := hnot
        have hpi : Lib.hasPrefix [118, 109, 97, 114, 103, 105, 110] q.data.toList = false := hp2
        clear hrun hen hnot
        have HC := Lib.hid hc
        clear hc
        go_wp2_with (first
          | (go_at_call 52; refine (lower_any kVmargin _ (by decide) (low_key _ (by decide))).mono ?_; rintro e w' ⟨rfl, rfl⟩)
          | (go_at_call 44; refine (Tryz.strings_HasPrefix _ _ _).mono ?_; rintro e w' ⟨rfl, rfl⟩))
        go_roundw
        case rel =>
          refine ⟨w2, seen.push 2, ⟨HAL2.out.1.trans HAL.out.1, HAL2.out.2.1.trans HAL.out.2.1, HAL2.out.2.2.trans HAL.out.2.2⟩, rfl, ?_⟩
          rw [seen_push]
          rw [show ((7 : Nat) == 2) = false by decide, Bool.or_false]; simp
        case measure =>
          have h1 := World.iterSeen_alloc w2 (some m) 5 (seen.push 2) 5
          have h2 := World.iterSeen_alloc wa (some m) 5 seen 5
          rw [HSZ2.out] at h1
          rw [HSZ.out] at h2
          rw [h1, h2]
          exact left_shrinks es5 seen e2 HE.out
      · have hnx : ∀ ty, (Instr.next (.pointer (some ⟨N, 0, none⟩)) false ty).run Tryz.prog (wa.alloc (.mapIter (some m) 5 seen 5)) = .ok (.tuple #[.bool true, .string kBgcolor, fnV 56]) (w2.alloc (.mapIter (some m) 5 (seen.push 3) 5)) := fun _ => hrun
        have hen' : (Instr.entry (.pointer (some ⟨N, 0, none⟩))).run Tryz.prog (w2.alloc (.mapIter (some m) 5 (seen.push 3) 5)) = .ok (.tuple #[.string kBgcolor, fnV 56]) (w2.alloc (.mapIter (some m) 5 (seen.push 3) 5)) := hen
        have hc : seen.contains 3 = false := hnot
        have hpi : Lib.hasPrefix [98, 103, 99, 111, 108, 111, 114] q.data.toList = false := hp3
        clear hrun hen hnot
        have HC := Lib.hid hc
        clear hc
        go_wp2_with (first
          | (go_at_call 52; refine (lower_any kBgcolor _ (by decide) (low_key _ (by decide))).mono ?_; rintro e w' ⟨rfl, rfl⟩)
          | (go_at_call 44; refine (Tryz.strings_HasPrefix _ _ _).mono ?_; rintro e w' ⟨rfl, rfl⟩))
        go_roundw
        case rel =>
          refine ⟨w2, seen.push 3, ⟨HAL2.out.1.trans HAL.out.1, HAL2.out.2.1.trans HAL.out.2.1, HAL2.out.2.2.trans HAL.out.2.2⟩, rfl, ?_⟩
          rw [seen_push]
          rw [show ((7 : Nat) == 3) = false by decide, Bool.or_false]; simp
        case measure =>
          have h1 := World.iterSeen_alloc w2 (some m) 5 (seen.push 3) 5
          have h2 := World.iterSeen_alloc wa (some m) 5 seen 5
          rw [HSZ2.out] at h1
          rw [HSZ.out] at h2
          rw [h1, h2]
          exact left_shrinks es5 seen e3 HE.out
      · have hnx : ∀ ty, (Instr.next (.pointer (some ⟨N, 0, none⟩)) false ty).run Tryz.prog (wa.alloc (.mapIter (some m) 5 seen 5)) = .ok (.tuple #[.bool true, .string kBorder, fnV 57]) (w2.alloc (.mapIter (some m) 5 (seen.push 4) 5)) := fun _ => hrun
        have hen' : (Instr.entry (.pointer (some ⟨N, 0, none⟩))).run Tryz.prog (w2.alloc (.mapIter (some m) 5 (seen.push 4) 5)) = .ok (.tuple #[.string kBorder, fnV 57]) (w2.alloc (.mapIter (some m) 5 (seen.push 4) 5)) := hen
        have hc : seen.contains 4 = false := hnot
        have hpi : Lib.hasPrefix [98, 111, 114, 100, 101, 114] q.data.toList = false := hp4
        clear hrun hen hnot
        have HC := Lib.hid hc
        clear hc
        go_wp2_with (first
          | (go_at_call 52; refine (lower_any kBorder _ (by decide) (low_key _ (by decide))).mono ?_; rintro e w' ⟨rfl, rfl⟩)
          | (go_at_call 44; refine (Tryz.strings_HasPrefix _ _ _).mono ?_; rintro e w' ⟨rfl, rfl⟩))
        go_roundw
        case rel =>
          refine ⟨w2, seen.push 4, ⟨HAL2.out.1.trans HAL.out.1, HAL2.out.2.1.trans HAL.out.2.1, HAL2.out.2.2.trans HAL.out.2.2⟩, rfl, ?_⟩
          rw [seen_push]
          rw [show ((7 : Nat) == 4) = false by decide, Bool.or_false]; simp
        case measure =>
          have h1 := World.iterSeen_alloc w2 (some m) 5 (seen.push 4) 5
          have h2 := World.iterSeen_alloc wa (some m) 5 seen 5
          rw [HSZ2.out] at h1
          rw [HSZ.out] at h2
          rw [h1, h2]
          exact left_shrinks es5 seen e4 HE.out

end Go.Proofs.YtcmeaogbfecjkaaGreatDoor
