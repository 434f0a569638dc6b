/- zzFields over parts with one blank between: the parts, in new memory. -/
import Derived.Test.YtcmeaogbfecjkaaGreatDoorP1
import Derived.Test.YtcmeaogbfecjkaaGreatDoorD1
import Derived.Lib.OthersKept
namespace Go.Proofs.YtcmeaogbfecjkaaGreatDoor
open Go.RowKit

/-- Where part j begins. -/
def offC : List (List UInt8) → Nat → Nat
  | _, 0 => 0
  | [], _ + 1 => 0
  | p :: ps, j + 1 => p.length + 1 + offC ps j

theorem part_split (c : UInt8) : ∀ (ps : List (List UInt8)) (j : Nat) (hj : j < ps.length), ∃ pre post, joinC c ps = pre ++ (ps[j] ++ post) ∧ pre.length = offC ps j ∧ (j + 1 < ps.length → ∃ q, post = c :: q) ∧ (j + 1 = ps.length → post = [])
  | [p], 0, _ => ⟨[], [], by simp [joinC], rfl, by simp, fun _ => rfl⟩
  | p :: q :: r, 0, _ => ⟨[], c :: joinC c (q :: r), by simp [joinC], rfl, fun _ => ⟨_, rfl⟩, by simp⟩
  | p :: q :: r, j + 1, hj => by
    obtain ⟨pre, post, h1, h2, h3, h4⟩ := part_split c (q :: r) j (by simpa using hj)
    refine ⟨p ++ c :: pre, post, ?_, ?_, fun h => h3 (by simpa using h), fun h => h4 (by simpa using h)⟩
    · show p ++ c :: joinC c (q :: r) = _
      rw [h1]; simp
    · show (p ++ c :: pre).length = p.length + 1 + offC (q :: r) j
      simp [h2]; omega

theorem offC_next : ∀ (ps : List (List UInt8)) (j : Nat) (hj : j + 1 < ps.length), offC ps (j + 1) = offC ps j + ps[j].length + 1
  | p :: q :: r, 0, _ => by simp [offC]
  | p :: q :: r, j + 1, hj => by
    have h := offC_next (q :: r) j (by simpa using hj)
    have e1 : offC (p :: q :: r) (j + 1 + 1) = p.length + 1 + offC (q :: r) (j + 1) := rfl
    have e2 : offC (p :: q :: r) (j + 1) = p.length + 1 + offC (q :: r) j := rfl
    have e3 : (p :: q :: r)[j + 1] = (q :: r)[j]'(by simp at hj ⊢; omega) := rfl
    rw [e1, e2, e3, h]
    omega

/-- What the loop of zzFields reads of the text, part by part. -/
structure FieldsOf (s : ByteArray) (ps : List (List UInt8)) : Prop where
  size : ∀ j (hj : j < ps.length), offC ps j + ps[j].length ≤ s.size ∧ (j + 1 = ps.length → offC ps j + ps[j].length = s.size)
  chr : ∀ j (hj : j < ps.length) m (hm : m < ps[j].length), s.data.toList[offC ps j + m]? = some ps[j][m]
  sep : ∀ j (hj : j + 1 < ps.length), s.data.toList[offC ps j + ps[j].length]? = some 32
  cut : ∀ j (hj : j < ps.length), s.extract (offC ps j) (offC ps j + ps[j].length) = ⟨ps[j].toArray⟩

theorem fields_of (ps : List (List UInt8)) : FieldsOf ⟨(joinC 32 ps).toArray⟩ ps := by
  refine ⟨?_, ?_, ?_, ?_⟩
  · intro j hj
    obtain ⟨pre, post, h1, h2, h3, h4⟩ := part_split 32 ps j hj
    rw [bs_size, h1, ← h2]
    refine ⟨by simp, fun h => ?_⟩
    rw [h4 h]; simp
  · intro j hj m hm
    obtain ⟨pre, post, h1, h2, h3, h4⟩ := part_split 32 ps j hj
    show (joinC 32 ps).toArray.toList[offC ps j + m]? = _
    rw [h1, ← h2]
    simp [List.getElem?_append_right, List.getElem?_append_left, hm]
  · intro j hj
    obtain ⟨pre, post, h1, h2, h3, h4⟩ := part_split 32 ps j (by omega)
    obtain ⟨q, rfl⟩ := h3 hj
    show (joinC 32 ps).toArray.toList[offC ps j + ps[j].length]? = _
    rw [h1, ← h2]
    simp
  · intro j hj
    obtain ⟨pre, post, h1, h2, h3, h4⟩ := part_split 32 ps j hj
    apply ByteArray.ext
    rw [h1, ← h2]
    simp

def posOf (k : Nat) (w : World) : Nat := match w.heap[k]? with | some (.stringIter _ p) => p | _ => 0

theorem iterAt_block (w : World) (k : Nat) (s : ByteArray) (p i : Nat) (h : i ≠ k) : (w.iterAt k s p).heap[i]? = w.heap[i]? := by
  simp [World.iterAt, Ne.symm h]
theorem iterAt_size (w : World) (k : Nat) (s : ByteArray) (p : Nat) : (w.iterAt k s p).heap.size = w.heap.size := by simp [World.iterAt]
theorem iterAt_kp {B k p : Nat} {a w : World} {s : ByteArray} (h : Kp B a w) (hk : B ≤ k) : Kp B a (w.iterAt k s p) :=
  ⟨h.os, h.output, by rw [iterAt_size]; exact h.size, fun i hi => (iterAt_block w k s p i (by omega)).trans (h.block i hi)⟩
theorem iterAt_owns {w : World} {base k p n : Nat} {e : TypeId} {v : Value} {s : ByteArray} {xs : List Value} (h : w.ownsRow base e 1 v n xs) (hk : k < base) : (w.iterAt k s p).ownsRow base e 1 v n xs := by
  obtain ⟨h1, h2⟩ := h
  refine ⟨h1, ?_⟩
  rcases h2 with h2 | ⟨g, cap, cur, a1, a2, a3, a4, a5, a6, a7⟩
  · exact .inl h2
  · exact .inr ⟨g, cap, cur, a1, a2, by rw [iterAt_block _ _ _ _ _ (by omega)]; exact a3, a4, a5, a6, a7⟩

set_option maxRecDepth 100000 in
set_option maxHeartbeats 3200000 in
theorem fields_any (ps : List (List UInt8)) (s : ByteArray) (hF : FieldsOf s ps) (hps : ps ≠ []) (hne : ∀ p ∈ ps, p ≠ []) (hvis : ∀ p ∈ ps, visB p = true) (hm : ps.length ≤ 10) (w : World) :
    Calls Tryz.prog 46 #[.string s] w fun e w' => ∃ v, e = .returned v ∧ w'.ownsRow (w.heap.size + 1) 9 1 v ps.length (ps.map bs) ∧ Grew w w' := by
  obtain ⟨i0, hi, hz0, hz1, hz2⟩ := info_parts info9
  have HF := Lib.hid hF
  have HN := Lib.hid hne
  have HVI := Lib.hid hvis
  have hn0 : 0 < ps.length := List.length_pos_iff.2 hps
  clear hF hne hvis
  go_enter Tryz.func46, Tryz.ntmps46
  go_wp2_with fail
  go_loopw [3, 4] (fun out st wr => ∃ j m : Nat, ∃ hj : j < ps.length, m ≤ ps[j].length ∧ st = .int .i64 (if m = 0 then -1 else (offC ps j : Int)) ∧ wr.heap[w.heap.size]? = some (.stringIter s (offC ps j + m)) ∧ wr.ownsRow (w.heap.size + 1) 9 1 out j ((ps.take j).map bs) ∧ Kp w.heap.size w wr ∧ w.heap.size + 1 ≤ wr.heap.size) (fun _ _ wr => s.size + 1 - posOf w.heap.size wr)
  case atStart =>
    refine ⟨0, 0, hn0, Nat.zero_le _, rfl, ?_, World.ownsRow_nil _ _ _ _, (iter_grew w s 0).kp, by simp [World.iter]⟩
    have h0 : offC ps 0 = 0 := by cases ps <;> rfl
    rw [h0]
    exact World.iter_heap w s 0
  case round =>
    obtain ⟨j, m, hj, hmm, rfl, hit, hown, hkp, hsz⟩ := hrel
    have hsize := (HF.out.size j hj).1
    have hpz : posOf w.heap.size wr = offC ps j + m := by unfold posOf; rw [hit]
    have HO := Lib.hid hown
    have HK := Lib.hid hkp
    have HS := Lib.hid hsz
    have HIT := Lib.hid hit
    have HPZ := Lib.hid hpz
    clear hown hkp hsz hpz
    by_cases hlt : m < ps[j].length
    · have hc := HF.out.chr j hj m hlt
      have hv := vis_at ps[j] (HVI.out ps[j] (List.getElem_mem hj)) m hlt
      have hpos : offC ps j + m < s.size := by omega
      have hch : s[offC ps j + m] = ps[j][m] := by
        have : s.data.toList[offC ps j + m]'(by simpa using hpos) = ps[j][m] := by
          rw [List.getElem?_eq_getElem (by simpa using hpos)] at hc
          exact Option.some.inj hc
        exact this
      have rn := fun ty => Lib.run_next_ascii_at (P := Tryz.prog) wr w.heap.size s (offC ps j + m) ty hit hpos (by rw [hch]; exact hv.2)
      rw [hch] at rn
      have HB := Lib.hid (fun w => blank_no (ps[j][m].toNat : Int) (by omega) (by omega) w)
      clear hc hit hch hv
      generalize ps[j][m].toNat = ch at *
      have Hmm := Lib.hid hmm
      have HLT := Lib.hid hlt
      have Hsize := Lib.hid hsize
      have HPOS := Lib.hid hpos
      clear hmm hlt hsize
      by_cases hm0 : m = 0
      · subst hm0
        simp only [if_true, Nat.add_zero] at *
        go_wp2_with fail
        refine (HB.out _).mono ?_
        rintro e w' ⟨rfl, rfl⟩
        go_wp2_with fail
        go_roundw
        case rel =>
          refine ⟨j, 1, hj, by have := HLT.out; omega, by simp, Lib.iterAt_heap _ _ _ _ _ HIT.out, iterAt_owns HO.out (by omega), iterAt_kp HK.out (Nat.le_refl _), by rw [iterAt_size]; exact HS.out⟩
        case measure =>
          have e1 : posOf w.heap.size (wr.iterAt w.heap.size s (offC ps j + 1)) = offC ps j + 1 := by unfold posOf; rw [Lib.iterAt_heap _ _ _ _ _ HIT.out]
          rw [e1, HPZ.out]
          have := HPOS.out
          omega
      · have hst : (if m = 0 then (-1 : Int) else (offC ps j : Int)) = (offC ps j : Int) := if_neg hm0
        rw [hst]
        go_wp2_with fail
        refine (HB.out _).mono ?_
        rintro e w' ⟨rfl, rfl⟩
        go_wp2_with fail
        go_roundw
        case rel =>
          refine ⟨j, m + 1, hj, by have := HLT.out; omega, by simp, Lib.iterAt_heap _ _ _ _ _ HIT.out, iterAt_owns HO.out (by omega), iterAt_kp HK.out (Nat.le_refl _), by rw [iterAt_size]; exact HS.out⟩
        case measure =>
          have e1 : posOf w.heap.size (wr.iterAt w.heap.size s (offC ps j + m + 1)) = offC ps j + m + 1 := by unfold posOf; rw [Lib.iterAt_heap _ _ _ _ _ HIT.out]
          rw [e1, HPZ.out]
          have := HPOS.out
          omega
    · have hme : m = ps[j].length := by omega
      have hpne : 0 < ps[j].length := List.length_pos_iff.2 (HN.out _ (List.getElem_mem hj))
      have hst : (if m = 0 then (-1 : Int) else (offC ps j : Int)) = (offC ps j : Int) := if_neg (by omega)
      rw [hst]
      have hcut := HF.out.cut j hj
      rw [← hme] at hcut hsize
      have HE : Hid ((ps.map bs).take j ++ [bs ps[j]] = (ps.take (j + 1)).map bs) := by
        show _ = _
        rw [← List.map_take, ← List.map_singleton (f := bs), ← List.map_append, ← List.take_succ_eq_append_getElem hj]
      by_cases hlast : j + 1 = ps.length
      · have hend := (HF.out.size j hj).2 hlast
        rw [← hme] at hend
        have HE2' : Hid (ps.map bs = (ps.take (j + 1)).map bs) := by
          show _ = _
          rw [hlast, List.take_length]
        have rn := fun ty => Lib.run_next_end_at (P := Tryz.prog) wr w.heap.size s (offC ps j + m) ty hit (by omega)
        have hcut2 : s.extract (offC ps j) s.size = ⟨ps[j].toArray⟩ := by rw [← hend]; exact hcut
        have hjn : j ≤ 10 := by omega
        have HL := Lib.hid hlast
        clear hit hcut hst hlast hmm hlt hme hend
        generalize offC ps j = o at *
        generalize ps[j] = p at *
        go_wp2_with (at_builtin; refine wpList_append_own _ rfl _ _ 22 rfl (w.heap.size + 1) 9 i0 (.string ⟨#[]⟩) 1 16 Tryz.underlying22 hi hz0 hz1 hz2 rfl (by decide) _ _ _ rfl (HO.out.alloc _) ⟨wr.heap.size, 0, none⟩ 1 1 [bs p] rfl rfl ?c1 ?c2 ?c3 ?c4 ?c5 ?_)
        case c1 => exact (cell_one_new _ _ _)
        case c2 => simp [Value.oneCell']
        case c3 => unfold maxLen; omega
        case c4 => omega
        case c5 => have := HS.out; simp; omega
        intro v' w1 hown' hgrow _
        have hk2 : Kp (w.heap.size + 1) wr w1 := Kp.of (((Below.refl (w.heap.size + 1) wr).alloc HS.out _).grown hgrow (by have := HS.out; simp; omega) (fun j hj => (HO.out.lt j hj).1))
        have HK2 := Lib.hid hk2
        rw [HE.out] at hown'
        have HOW := Lib.hid hown'
        clear hown' hgrow hk2
        go_wp2_with fail
        go_ret
        refine ⟨_, rfl, ?_, (HK.out.trans (HK2.out.mono (by omega))).grew⟩
        rw [← HL.out, HE2'.out]
        exact HOW.out
      · have hmore : j + 1 < ps.length := by omega
        have hc := HF.out.sep j hmore
        rw [← hme] at hc
        have hnext := offC_next ps j hmore
        rw [← hme] at hnext
        have hpos : offC ps j + m < s.size := by
          have h2 := (List.getElem?_eq_some_iff.1 hc).1
          simpa using h2
        have hch : s[offC ps j + m] = 32 := by
          have : s.data.toList[offC ps j + m]'(by simpa using hpos) = 32 := by
            rw [List.getElem?_eq_getElem (by simpa using hpos)] at hc
            exact Option.some.inj hc
          exact this
        have rn := fun ty => Lib.run_next_ascii_at (P := Tryz.prog) wr w.heap.size s (offC ps j + m) ty hit hpos (by rw [hch]; decide)
        rw [hch] at rn
        have HB := Lib.hid (fun w => blank_yes w)
        have HNX := Lib.hid hnext
        have HMO := Lib.hid hmore
        have hjn : j ≤ 10 := by omega
        have hq : offC ps j + m ≤ s.size := hsize
        have hoq : offC ps j ≤ offC ps j + m := Nat.le_add_right _ _
        have HPOS := Lib.hid hpos
        clear hit hc hch hst hlast hmm hlt hme hnext hmore hsize hpos
        generalize hqq : offC ps j + m = q at *
        have HQ := Lib.hid hqq
        clear hqq
        generalize offC ps j = o at *
        generalize ps[j] = p at *
        have HOI : Hid ((wr.iterAt w.heap.size s (q + 1)).ownsRow (w.heap.size + 1) 9 1 u3 j ((ps.take j).map bs)) := Lib.hid (iterAt_owns HO.out (by omega))
        have HSI : Hid (w.heap.size + 1 ≤ (wr.iterAt w.heap.size s (q + 1)).heap.size) := Lib.hid (by rw [iterAt_size]; exact HS.out)
        have HKI : Hid (Kp w.heap.size w (wr.iterAt w.heap.size s (q + 1))) := Lib.hid (iterAt_kp HK.out (Nat.le_refl _))
        have HII : Hid ((wr.iterAt w.heap.size s (q + 1)).heap[w.heap.size]? = some (.stringIter s (q + 1))) := Lib.hid (Lib.iterAt_heap _ _ _ _ _ HIT.out)
        generalize hwi : wr.iterAt w.heap.size s (q + 1) = wi at *
        have HWI := Lib.hid hwi
        clear hwi
        go_wp2_with fail
        refine (HB.out _).mono ?_
        rintro e w' ⟨rfl, rfl⟩
        go_wp2_with (at_builtin; refine wpList_append_own _ rfl _ _ 22 rfl (w.heap.size + 1) 9 i0 (.string ⟨#[]⟩) 1 16 Tryz.underlying22 hi hz0 hz1 hz2 rfl (by decide) _ _ _ rfl (HOI.out.alloc _) ⟨wi.heap.size, 0, none⟩ 1 1 [bs p] rfl rfl ?c1 ?c2 ?c3 ?c4 ?c5 ?_)
        case c1 => exact (cell_one_new _ _ _)
        case c2 => simp [Value.oneCell']
        case c3 => unfold maxLen; omega
        case c4 => omega
        case c5 => have := HSI.out; simp; omega
        intro v' w1 hown' hgrow _
        have hk2 : Kp (w.heap.size + 1) wi w1 := Kp.of (((Below.refl (w.heap.size + 1) wi).alloc HSI.out _).grown hgrow (by have := HSI.out; simp; omega) (fun j hj => (HOI.out.lt j hj).1))
        have HK2 := Lib.hid hk2
        rw [HE.out] at hown'
        have HOW := Lib.hid hown'
        clear hown' hgrow hk2
        go_wp2_with fail
        go_roundw
        case rel =>
          refine ⟨j + 1, 0, HMO.out, Nat.zero_le _, rfl, ?_, HOW.out, HKI.out.trans (HK2.out.mono (by omega)), by have := HK2.out.size; have := HSI.out; omega⟩
          rw [HK2.out.block _ (by omega), HII.out, HNX.out, ← HQ.out]
        case measure =>
          have e1 : posOf w.heap.size w1 = q + 1 := by unfold posOf; rw [HK2.out.block _ (by omega), HII.out]
          rw [e1, HPZ.out]
          have := HPOS.out
          omega
end Go.Proofs.YtcmeaogbfecjkaaGreatDoor
