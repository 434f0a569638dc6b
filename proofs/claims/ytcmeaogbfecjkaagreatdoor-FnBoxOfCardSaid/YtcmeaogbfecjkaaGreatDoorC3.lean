/- zzSplit (at one byte), in each of the packages that have it: the parts of a text, in new memory. -/
import Derived.Test.YtcmeaogbfecjkaaGreatDoorC2
namespace Go.Proofs.YtcmeaogbfecjkaaGreatDoor
open Go.RowKit

def joinC (c : UInt8) : List (List UInt8) → List UInt8
  | [] => []
  | [p] => p
  | p :: q :: r => p ++ c :: joinC c (q :: r)

def strLen : Value → Nat
  | .string s => s.size
  | _ => 0

theorem join_last (c : UInt8) (ps : List (List UInt8)) (k : Nat) (hk : k < ps.length) (h : k + 1 = ps.length) : joinC c (ps.drop k) = ps[k] := by
  rw [List.drop_eq_getElem_cons (by omega), List.drop_eq_nil_of_le (by omega)]
  rfl
theorem join_more (c : UInt8) (ps : List (List UInt8)) (k : Nat) (hk : k < ps.length) (h : k + 1 < ps.length) : joinC c (ps.drop k) = ps[k] ++ c :: joinC c (ps.drop (k + 1)) := by
  rw [List.drop_eq_getElem_cons (by omega), List.drop_eq_getElem_cons (i := k + 1) (by omega)]
  rfl

theorem info9 : (Tryz.prog.info? 9).map (fun i => (i.zero, i.size, i.bytes)) = some (some (.string ⟨#[]⟩), 1, 16) := by kernel_rfl

set_option maxRecDepth 100000 in
set_option maxHeartbeats 1600000 in
theorem split33 (c : UInt8) (ps : List (List UInt8)) (hps : ps ≠ []) (hc : ∀ p ∈ ps, c ∉ p) (w : World) (hs : (joinC c ps).length ≤ 1000) (hm : ps.length ≤ 1000) :
    Calls Tryz.prog 33 #[bs (joinC c ps), .string ⟨#[c]⟩] w fun e w' => ∃ v, e = .returned v ∧ w'.ownsRow w.heap.size 9 1 v ps.length (ps.map bs) ∧ Below w.heap.size w w' := by
  obtain ⟨i0, hi, hz0, hz1, hz2⟩ := info_parts info9
  have HC := Lib.hid hc
  clear hc
  go_enter Tryz.func33, Tryz.ntmps33
  go_wp2_with fail
  go_loopw [0, 5] (fun sv out wr => ∃ k : Nat, k < ps.length ∧ (joinC c (ps.drop k)).length ≤ 1000 ∧ sv = bs (joinC c (ps.drop k)) ∧ wr.ownsRow w.heap.size 9 1 out k ((ps.take k).map bs) ∧ Below w.heap.size w wr) (fun sv _ _ => strLen sv)
  case atStart => exact ⟨0, List.length_pos_iff.2 hps, hs, rfl, World.ownsRow_nil _ _ _ _, Below.refl _ _⟩
  case round =>
    obtain ⟨k, hk, hlen, rfl, hown, hbel⟩ := hrel
    have hcp : c ∉ ps[k] := HC.out _ (List.getElem_mem hk)
    have hown2 : wr.ownsRow w.heap.size 9 1 u5 k ((ps.take k).map bs) := hown
    have hbz := hbel.size
    by_cases hlast : k + 1 = ps.length
    · have hj := join_last c ps k hk hlast
      have hnone : c ∉ (joinC c (ps.drop k)) := by rw [hj]; exact hcp
      have HJ := Lib.hid hj
      have HL := Lib.hid hlast
      have HN := Lib.hid hnone
      clear hj hlast hnone hcp
      generalize joinC c (ps.drop k) = S at *
      have HE : Hid ((ps.map bs).take k ++ [bs S] = ps.map bs) := by
        show _ = _
        rw [← List.map_take, HJ.out, ← List.map_singleton (f := bs), ← List.map_append, ← List.take_succ_eq_append_getElem hk, HL.out, List.take_length]
      go_wp2_with fail
      refine (index_none48 _ c HN.out _ (by show S.toArray.size ≤ 1000; simpa using hlen)).mono ?_
      rintro e w' ⟨rfl, rfl⟩
      clear HN HJ
      go_wp2_with (at_builtin; refine wpList_append_own _ rfl _ _ 22 rfl w.heap.size 9 i0 (.string ⟨#[]⟩) 1 16 Tryz.underlying22 hi hz0 hz1 hz2 rfl (by decide) _ _ _ rfl (hown2.alloc _) ⟨wr.heap.size, 0, none⟩ 1 1 [bs S] rfl rfl ?c1 ?c2 ?c3 ?c4 ?c5 ?_)
      case c1 => exact (cell_one_new _ _ _)
      case c2 => simp [Value.oneCell']
      case c3 => unfold maxLen; omega
      case c4 => omega
      case c5 => simp; omega
      intro v' w1 hown' hgrow _
      go_wp2_with fail
      go_ret
      refine ⟨_, rfl, ?_, ?_⟩
      · rw [HE.out] at hown'
        rw [← HL.out]; exact hown'
      · exact (hbel.alloc (by omega) _).grown hgrow (by simp; omega) (fun j hj => (hown2.lt j hj).1)
    · have hmore := join_more c ps k hk (by omega)
      have HK : Hid (k + 1 < ps.length) := by show _ < _; omega
      have HM := Lib.hid hmore
      have hn1 : c ∉ ps[k] := hcp
      have HP := Lib.hid hcp
      have HE : Hid ((ps.map bs).take k ++ [bs ps[k]] = (ps.take (k + 1)).map bs) := by
        show _ = _
        rw [← List.map_take, ← List.map_singleton (f := bs), ← List.map_append, ← List.take_succ_eq_append_getElem hk]
      have hF := (cut_front ⟨(joinC c (ps.drop k)).toArray⟩ ps[k] (c :: joinC c (ps.drop (k + 1))) (by rw [← hmore]))
      have hB := (cut_back ⟨(joinC c (ps.drop k)).toArray⟩ (ps[k] ++ [c]) (joinC c (ps.drop (k + 1))) (by rw [hmore]; simp))
      simp only [List.length_append, List.length_singleton] at hB
      rw [show (⟨(joinC c (ps.drop k)).toArray⟩ : ByteArray).size = (joinC c (ps.drop k)).length from rfl] at hB
      have hl2 : ps[k].length + 1 + (joinC c (ps.drop (k + 1))).length = (joinC c (ps.drop k)).length := by rw [hmore]; simp; omega
      have HL2 := Lib.hid hl2
      have hpl : ps[k].length + 1 ≤ (joinC c (ps.drop k)).length := by omega
      have hn2 : (joinC c (ps.drop (k + 1))).length ≤ 1000 := by omega
      clear hmore hn1 hlast hl2 hcp
      generalize hT : joinC c (ps.drop (k + 1)) = T at *
      have HT := Lib.hid hT
      clear hT
      generalize joinC c (ps.drop k) = S at *
      generalize ps[k] = p at *
      go_wp2_with fail
      refine (index_at48 _ c p T (by rw [HM.out]) HP.out _ (by show S.toArray.size ≤ 1000; simpa using hlen)).mono ?_
      rintro e w' ⟨rfl, rfl⟩
      clear HM HP
      go_wp2_with (at_builtin; refine wpList_append_own _ rfl _ _ 22 rfl w.heap.size 9 i0 (.string ⟨#[]⟩) 1 16 Tryz.underlying22 hi hz0 hz1 hz2 rfl (by decide) _ _ _ rfl (hown2.alloc _) ⟨wr.heap.size, 0, none⟩ 1 1 [bs p] rfl rfl ?c1 ?c2 ?c3 ?c4 ?c5 ?_)
      case c1 => exact (cell_one_new _ _ _)
      case c2 => simp [Value.oneCell']
      case c3 => unfold maxLen; omega
      case c4 => omega
      case c5 => simp; omega
      intro v' w1 hown' hgrow _
      rw [HE.out] at hown'
      have hbel' := (hbel.alloc (by omega) _).grown hgrow (by simp; omega) (fun j hj => (hown2.lt j hj).1)
      clear hown2 hown hgrow
      go_wp2_with fail
      go_roundw
      case rel => exact ⟨k + 1, HK.out, by rw [HT.out]; exact hn2, by rw [HT.out], by first | exact hown' | simpa using hown', hbel'⟩
      case measure =>
        have h1 := HL2.out
        show T.length < S.length
        omega
set_option maxRecDepth 100000 in
set_option maxHeartbeats 1600000 in
theorem split43 (c : UInt8) (ps : List (List UInt8)) (hps : ps ≠ []) (hc : ∀ p ∈ ps, c ∉ p) (w : World) (hs : (joinC c ps).length ≤ 1000) (hm : ps.length ≤ 1000) :
    Calls Tryz.prog 43 #[bs (joinC c ps), .string ⟨#[c]⟩] w fun e w' => ∃ v, e = .returned v ∧ w'.ownsRow w.heap.size 9 1 v ps.length (ps.map bs) ∧ Below w.heap.size w w' := by
  obtain ⟨i0, hi, hz0, hz1, hz2⟩ := info_parts info9
  have HC := Lib.hid hc
  clear hc
  go_enter Tryz.func43, Tryz.ntmps43
  go_wp2_with fail
  go_loopw [0, 5] (fun sv out wr => ∃ k : Nat, k < ps.length ∧ (joinC c (ps.drop k)).length ≤ 1000 ∧ sv = bs (joinC c (ps.drop k)) ∧ wr.ownsRow w.heap.size 9 1 out k ((ps.take k).map bs) ∧ Below w.heap.size w wr) (fun sv _ _ => strLen sv)
  case atStart => exact ⟨0, List.length_pos_iff.2 hps, hs, rfl, World.ownsRow_nil _ _ _ _, Below.refl _ _⟩
  case round =>
    obtain ⟨k, hk, hlen, rfl, hown, hbel⟩ := hrel
    have hcp : c ∉ ps[k] := HC.out _ (List.getElem_mem hk)
    have hown2 : wr.ownsRow w.heap.size 9 1 u5 k ((ps.take k).map bs) := hown
    have hbz := hbel.size
    by_cases hlast : k + 1 = ps.length
    · have hj := join_last c ps k hk hlast
      have hnone : c ∉ (joinC c (ps.drop k)) := by rw [hj]; exact hcp
      have HJ := Lib.hid hj
      have HL := Lib.hid hlast
      have HN := Lib.hid hnone
      clear hj hlast hnone hcp
      generalize joinC c (ps.drop k) = S at *
      have HE : Hid ((ps.map bs).take k ++ [bs S] = ps.map bs) := by
        show _ = _
        rw [← List.map_take, HJ.out, ← List.map_singleton (f := bs), ← List.map_append, ← List.take_succ_eq_append_getElem hk, HL.out, List.take_length]
      go_wp2_with fail
      refine (index_none63 _ c HN.out _ (by show S.toArray.size ≤ 1000; simpa using hlen)).mono ?_
      rintro e w' ⟨rfl, rfl⟩
      clear HN HJ
      go_wp2_with (at_builtin; refine wpList_append_own _ rfl _ _ 22 rfl w.heap.size 9 i0 (.string ⟨#[]⟩) 1 16 Tryz.underlying22 hi hz0 hz1 hz2 rfl (by decide) _ _ _ rfl (hown2.alloc _) ⟨wr.heap.size, 0, none⟩ 1 1 [bs S] rfl rfl ?c1 ?c2 ?c3 ?c4 ?c5 ?_)
      case c1 => exact (cell_one_new _ _ _)
      case c2 => simp [Value.oneCell']
      case c3 => unfold maxLen; omega
      case c4 => omega
      case c5 => simp; omega
      intro v' w1 hown' hgrow _
      go_wp2_with fail
      go_ret
      refine ⟨_, rfl, ?_, ?_⟩
      · rw [HE.out] at hown'
        rw [← HL.out]; exact hown'
      · exact (hbel.alloc (by omega) _).grown hgrow (by simp; omega) (fun j hj => (hown2.lt j hj).1)
    · have hmore := join_more c ps k hk (by omega)
      have HK : Hid (k + 1 < ps.length) := by show _ < _; omega
      have HM := Lib.hid hmore
      have hn1 : c ∉ ps[k] := hcp
      have HP := Lib.hid hcp
      have HE : Hid ((ps.map bs).take k ++ [bs ps[k]] = (ps.take (k + 1)).map bs) := by
        show _ = _
        rw [← List.map_take, ← List.map_singleton (f := bs), ← List.map_append, ← List.take_succ_eq_append_getElem hk]
      have hF := (cut_front ⟨(joinC c (ps.drop k)).toArray⟩ ps[k] (c :: joinC c (ps.drop (k + 1))) (by rw [← hmore]))
      have hB := (cut_back ⟨(joinC c (ps.drop k)).toArray⟩ (ps[k] ++ [c]) (joinC c (ps.drop (k + 1))) (by rw [hmore]; simp))
      simp only [List.length_append, List.length_singleton] at hB
      rw [show (⟨(joinC c (ps.drop k)).toArray⟩ : ByteArray).size = (joinC c (ps.drop k)).length from rfl] at hB
      have hl2 : ps[k].length + 1 + (joinC c (ps.drop (k + 1))).length = (joinC c (ps.drop k)).length := by rw [hmore]; simp; omega
      have HL2 := Lib.hid hl2
      have hpl : ps[k].length + 1 ≤ (joinC c (ps.drop k)).length := by omega
      have hn2 : (joinC c (ps.drop (k + 1))).length ≤ 1000 := by omega
      clear hmore hn1 hlast hl2 hcp
      generalize hT : joinC c (ps.drop (k + 1)) = T at *
      have HT := Lib.hid hT
      clear hT
      generalize joinC c (ps.drop k) = S at *
      generalize ps[k] = p at *
      go_wp2_with fail
      refine (index_at63 _ c p T (by rw [HM.out]) HP.out _ (by show S.toArray.size ≤ 1000; simpa using hlen)).mono ?_
      rintro e w' ⟨rfl, rfl⟩
      clear HM HP
      go_wp2_with (at_builtin; refine wpList_append_own _ rfl _ _ 22 rfl w.heap.size 9 i0 (.string ⟨#[]⟩) 1 16 Tryz.underlying22 hi hz0 hz1 hz2 rfl (by decide) _ _ _ rfl (hown2.alloc _) ⟨wr.heap.size, 0, none⟩ 1 1 [bs p] rfl rfl ?c1 ?c2 ?c3 ?c4 ?c5 ?_)
      case c1 => exact (cell_one_new _ _ _)
      case c2 => simp [Value.oneCell']
      case c3 => unfold maxLen; omega
      case c4 => omega
      case c5 => simp; omega
      intro v' w1 hown' hgrow _
      rw [HE.out] at hown'
      have hbel' := (hbel.alloc (by omega) _).grown hgrow (by simp; omega) (fun j hj => (hown2.lt j hj).1)
      clear hown2 hown hgrow
      go_wp2_with fail
      go_roundw
      case rel => exact ⟨k + 1, HK.out, by rw [HT.out]; exact hn2, by rw [HT.out], by first | exact hown' | simpa using hown', hbel'⟩
      case measure =>
        have h1 := HL2.out
        show T.length < S.length
        omega
set_option maxRecDepth 100000 in
set_option maxHeartbeats 1600000 in
theorem split101 (c : UInt8) (ps : List (List UInt8)) (hps : ps ≠ []) (hc : ∀ p ∈ ps, c ∉ p) (w : World) (hs : (joinC c ps).length ≤ 1000) (hm : ps.length ≤ 1000) :
    Calls Tryz.prog 101 #[bs (joinC c ps), .string ⟨#[c]⟩] w fun e w' => ∃ v, e = .returned v ∧ w'.ownsRow w.heap.size 9 1 v ps.length (ps.map bs) ∧ Below w.heap.size w w' := by
  obtain ⟨i0, hi, hz0, hz1, hz2⟩ := info_parts info9
  have HC := Lib.hid hc
  clear hc
  go_enter Tryz.func101, Tryz.ntmps101
  go_wp2_with fail
  go_loopw [0, 5] (fun sv out wr => ∃ k : Nat, k < ps.length ∧ (joinC c (ps.drop k)).length ≤ 1000 ∧ sv = bs (joinC c (ps.drop k)) ∧ wr.ownsRow w.heap.size 9 1 out k ((ps.take k).map bs) ∧ Below w.heap.size w wr) (fun sv _ _ => strLen sv)
  case atStart => exact ⟨0, List.length_pos_iff.2 hps, hs, rfl, World.ownsRow_nil _ _ _ _, Below.refl _ _⟩
  case round =>
    obtain ⟨k, hk, hlen, rfl, hown, hbel⟩ := hrel
    have hcp : c ∉ ps[k] := HC.out _ (List.getElem_mem hk)
    have hown2 : wr.ownsRow w.heap.size 9 1 u5 k ((ps.take k).map bs) := hown
    have hbz := hbel.size
    by_cases hlast : k + 1 = ps.length
    · have hj := join_last c ps k hk hlast
      have hnone : c ∉ (joinC c (ps.drop k)) := by rw [hj]; exact hcp
      have HJ := Lib.hid hj
      have HL := Lib.hid hlast
      have HN := Lib.hid hnone
      clear hj hlast hnone hcp
      generalize joinC c (ps.drop k) = S at *
      have HE : Hid ((ps.map bs).take k ++ [bs S] = ps.map bs) := by
        show _ = _
        rw [← List.map_take, HJ.out, ← List.map_singleton (f := bs), ← List.map_append, ← List.take_succ_eq_append_getElem hk, HL.out, List.take_length]
      go_wp2_with fail
      refine (index_none114 _ c HN.out _ (by show S.toArray.size ≤ 1000; simpa using hlen)).mono ?_
      rintro e w' ⟨rfl, rfl⟩
      clear HN HJ
      go_wp2_with (at_builtin; refine wpList_append_own _ rfl _ _ 22 rfl w.heap.size 9 i0 (.string ⟨#[]⟩) 1 16 Tryz.underlying22 hi hz0 hz1 hz2 rfl (by decide) _ _ _ rfl (hown2.alloc _) ⟨wr.heap.size, 0, none⟩ 1 1 [bs S] rfl rfl ?c1 ?c2 ?c3 ?c4 ?c5 ?_)
      case c1 => exact (cell_one_new _ _ _)
      case c2 => simp [Value.oneCell']
      case c3 => unfold maxLen; omega
      case c4 => omega
      case c5 => simp; omega
      intro v' w1 hown' hgrow _
      go_wp2_with fail
      go_ret
      refine ⟨_, rfl, ?_, ?_⟩
      · rw [HE.out] at hown'
        rw [← HL.out]; exact hown'
      · exact (hbel.alloc (by omega) _).grown hgrow (by simp; omega) (fun j hj => (hown2.lt j hj).1)
    · have hmore := join_more c ps k hk (by omega)
      have HK : Hid (k + 1 < ps.length) := by show _ < _; omega
      have HM := Lib.hid hmore
      have hn1 : c ∉ ps[k] := hcp
      have HP := Lib.hid hcp
      have HE : Hid ((ps.map bs).take k ++ [bs ps[k]] = (ps.take (k + 1)).map bs) := by
        show _ = _
        rw [← List.map_take, ← List.map_singleton (f := bs), ← List.map_append, ← List.take_succ_eq_append_getElem hk]
      have hF := (cut_front ⟨(joinC c (ps.drop k)).toArray⟩ ps[k] (c :: joinC c (ps.drop (k + 1))) (by rw [← hmore]))
      have hB := (cut_back ⟨(joinC c (ps.drop k)).toArray⟩ (ps[k] ++ [c]) (joinC c (ps.drop (k + 1))) (by rw [hmore]; simp))
      simp only [List.length_append, List.length_singleton] at hB
      rw [show (⟨(joinC c (ps.drop k)).toArray⟩ : ByteArray).size = (joinC c (ps.drop k)).length from rfl] at hB
      have hl2 : ps[k].length + 1 + (joinC c (ps.drop (k + 1))).length = (joinC c (ps.drop k)).length := by rw [hmore]; simp; omega
      have HL2 := Lib.hid hl2
      have hpl : ps[k].length + 1 ≤ (joinC c (ps.drop k)).length := by omega
      have hn2 : (joinC c (ps.drop (k + 1))).length ≤ 1000 := by omega
      clear hmore hn1 hlast hl2 hcp
      generalize hT : joinC c (ps.drop (k + 1)) = T at *
      have HT := Lib.hid hT
      clear hT
      generalize joinC c (ps.drop k) = S at *
      generalize ps[k] = p at *
      go_wp2_with fail
      refine (index_at114 _ c p T (by rw [HM.out]) HP.out _ (by show S.toArray.size ≤ 1000; simpa using hlen)).mono ?_
      rintro e w' ⟨rfl, rfl⟩
      clear HM HP
      go_wp2_with (at_builtin; refine wpList_append_own _ rfl _ _ 22 rfl w.heap.size 9 i0 (.string ⟨#[]⟩) 1 16 Tryz.underlying22 hi hz0 hz1 hz2 rfl (by decide) _ _ _ rfl (hown2.alloc _) ⟨wr.heap.size, 0, none⟩ 1 1 [bs p] rfl rfl ?c1 ?c2 ?c3 ?c4 ?c5 ?_)
      case c1 => exact (cell_one_new _ _ _)
      case c2 => simp [Value.oneCell']
      case c3 => unfold maxLen; omega
      case c4 => omega
      case c5 => simp; omega
      intro v' w1 hown' hgrow _
      rw [HE.out] at hown'
      have hbel' := (hbel.alloc (by omega) _).grown hgrow (by simp; omega) (fun j hj => (hown2.lt j hj).1)
      clear hown2 hown hgrow
      go_wp2_with fail
      go_roundw
      case rel => exact ⟨k + 1, HK.out, by rw [HT.out]; exact hn2, by rw [HT.out], by first | exact hown' | simpa using hown', hbel'⟩
      case measure =>
        have h1 := HL2.out
        show T.length < S.length
        omega
end Go.Proofs.YtcmeaogbfecjkaaGreatDoor
