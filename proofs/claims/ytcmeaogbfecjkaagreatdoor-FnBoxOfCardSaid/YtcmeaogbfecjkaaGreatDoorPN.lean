/- BoxOf of the law's texts. -/
import Derived.Test.YtcmeaogbfecjkaaGreatDoorPE
namespace Go.Proofs.YtcmeaogbfecjkaaGreatDoor
open Go.RowKit

/-- A text of numbers of quarters with a blank between. -/
structure ManyText (ps : List (List UInt8)) : Prop where
  ends : EndsV (joinC 32 ps)
  len : (joinC 32 ps).length ≤ 36
  start : ∃ n, ∃ h : (⟨(joinC 32 ps).toArray⟩ : ByteArray).size = n + 1, (⟨(joinC 32 ps).toArray⟩ : ByteArray)[0].toNat ≠ 91
  pre : Lib.hasPrefix (joinC 32 ps) [100, 105, 109] = false
  no44 : (44 : UInt8) ∉ joinC 32 ps
  no58 : (58 : UInt8) ∉ joinC 32 ps

theorem many_text (ps : List (List UInt8)) (hne : ps ≠ []) (hl : ps.length ≤ 4) (h : ∀ p ∈ ps, QtrText p) : ManyText ps := by
  have hlen := join_len 32 8 ps (fun p hp => (h p hp).len)
  obtain ⟨p, rest, rfl⟩ : ∃ p rest, ps = p :: rest := by
    cases ps with
    | nil => exact absurd rfl hne
    | cons p r => exact ⟨p, r, rfl⟩
  obtain ⟨a, r, ha, h1, h2⟩ := (h p (by simp)).first
  obtain ⟨q, hq⟩ := join_head 32 p rest
  have hj : joinC 32 (p :: rest) = a :: (r ++ q) := by rw [hq, ha]; rfl
  refine ⟨ends_join 32 _ hne (fun x hx => (h x hx).ends), by omega, ⟨(r ++ q).length, by rw [bs_size, hj]; simp, ?_⟩, ?_, join_no 32 44 (by decide) _ (fun x hx => (h x hx).no 44 (by decide)), join_no 32 58 (by decide) _ (fun x hx => (h x hx).no 58 (by decide))⟩
  · rw [bs_get]
    simp only [hj, List.getElem_cons_zero]
    omega
  · rw [hj]
    unfold Lib.hasPrefix
    have : (100 == a) = false := by
      have : (100 : UInt8) ≠ a := fun e => by rw [← e] at h2; exact absurd h2 (by decide)
      simpa using this
    simp [List.isPrefixOf, this]

theorem no_word (p : List UInt8) (h : QtrText p) : NoWord ⟨p.toArray⟩ := by
  obtain ⟨a, r, ha, h1, h2⟩ := h.first
  constructor
  · rw [Lib.toList_data]
    intro e
    have e' : p = [97, 98, 115] := e
    rw [ha] at e'
    injection e' with e1 _
    rw [e1] at h2
    exact absurd h2 (by decide)
  · rw [Lib.toList_data]
    intro e
    have e' : p = [114, 101, 108] := e
    rw [ha] at e'
    injection e' with e1 _
    rw [e1] at h2
    exact absurd h2 (by decide)

/-- What BoxOf gives of margins. -/
abbrev OfMargins (s : ByteArray) (u l r t b : Nat) : Prop := ∀ w, Vars w → Calls Tryz.prog 15 #[.string s, .int .i64 u] w fun e w' => e = .returned (toldV (.slice none 0 0) l r t b (.slice none 0 0) 0) ∧ Kp w.heap.size w w'

theorem of_margins (ps : List (List UInt8)) (hne : ps ≠ []) (h : ∀ p ∈ ps, QtrText p) (L m : Nat) (hL : (L = 1 ∧ m = 0) ∨ (L = 2 ∧ m = 1) ∨ (L = 4 ∧ m = 3)) (hlen : ps.length = L) (p0 pm : List UInt8) (h0 : ps[0]? = some p0) (hm : ps[m]? = some pm) (u l r t b : Nat)
    (hM : ∀ w g cap, Vars w → RowAt w g L (ps.map bs) → GivesBox 47 #[.slice (some ⟨g, 0, none⟩) L cap, bs (joinC 32 ps), .bool true, .int .i64 u] w (marginBox l r t b)) : OfMargins ⟨(joinC 32 ps).toArray⟩ u l r t b := by
  intro w hV
  have T := many_text ps hne (by omega) h
  obtain ⟨n, hsz, hs0⟩ := T.start
  have hnl : n ≤ 900 := by have := T.len; rw [bs_size] at hsz; omega
  have q0 := h p0 (List.mem_of_getElem? h0)
  have qm := h pm (List.mem_of_getElem? hm)
  have hsp := fun w => split43 44 [joinC 32 ps] (by simp) (by simpa using T.no44) w (by show (joinC 32 ps).length ≤ 1000; have := T.len; omega) (by simp)
  have hF := fun w => fields_any ps _ (fields_of ps) hne (fun p hp => (h p hp).ne) (fun p hp => (h p hp).vis) (by omega) w
  rw [hlen] at hF
  refine boxOf_margin _ _ l r t b w (fun w1 hk => ?_)
  have hp := parse_margin ⟨(joinC 32 ps).toArray⟩ n hsz hnl hs0 (fun w => trimE _ T.ends (by have := T.len; omega) w) T.pre hsp L m hL (ps.map bs) hF ⟨p0.toArray⟩ ⟨pm.toArray⟩
    (by rw [List.getElem?_map, h0]; rfl) (by rw [List.getElem?_map, hm]; rfl) (no_word _ q0) (no_word _ qm) u (marginBox l r t b) hM w1 (hV.kp hk)
  refine Calls.mono hp ?_
  rintro e w' ⟨Z, he, hz, ha, hg⟩
  exact ⟨Z, he, hz, ha, hg.kp⟩

theorem of_one (u k : Nat) (hu : u < 4) (h1 : 4 ≤ k) (h2 : k ≤ 4000) : OfMargins ⟨(qtrL k).toArray⟩ u (usz u k) (usz u k) (usz u k) (usz u k) := by
  refine of_margins [qtrL k] (by simp) (by simpa using qtr_text k h2) 1 0 (.inl ⟨rfl, rfl⟩) rfl (qtrL k) (qtrL k) rfl rfl u _ _ _ _ (fun w g cap hV hr => ?_)
  exact margin1 u k (box_num u k hu (by omega) h2) _ _ (num_text k h2) g cap w hV hr

theorem of_two (u k0 k1 : Nat) (hu : u < 4) (h0 : 4 ≤ k0 ∧ k0 ≤ 4000) (h1 : 4 ≤ k1 ∧ k1 ≤ 4000) : OfMargins ⟨(joinC 32 [qtrL k0, qtrL k1]).toArray⟩ u (usz u k1) (usz u k1) (usz u k0) (usz u k0) := by
  refine of_margins [qtrL k0, qtrL k1] (by simp) ?_ 2 1 (.inr (.inl ⟨rfl, rfl⟩)) rfl (qtrL k0) (qtrL k1) rfl rfl u _ _ _ _ (fun w g cap hV hr => ?_)
  · intro p hp
    simp only [List.mem_cons, List.mem_nil_iff, or_false] at hp
    rcases hp with rfl | rfl
    · exact qtr_text k0 h0.2
    · exact qtr_text k1 h1.2
  · exact margin2 u k0 k1 (box_num u k0 hu (by omega) h0.2) (box_num u k1 hu (by omega) h1.2) _ _ _ (num_text k0 h0.2) (num_text k1 h1.2) g cap w hV hr

theorem four_texts (k0 k1 k2 k3 : Nat) (h0 : k0 ≤ 4000) (h1 : k1 ≤ 4000) (h2 : k2 ≤ 4000) (h3 : k3 ≤ 4000) : ∀ p ∈ [qtrL k0, qtrL k1, qtrL k2, qtrL k3], QtrText p := by
  intro p hp
  simp only [List.mem_cons, List.mem_nil_iff, or_false] at hp
  rcases hp with rfl | rfl | rfl | rfl
  · exact qtr_text k0 h0
  · exact qtr_text k1 h1
  · exact qtr_text k2 h2
  · exact qtr_text k3 h3

theorem of_four (u k0 k1 k2 k3 : Nat) (hu : u < 4) (h0 : 4 ≤ k0 ∧ k0 ≤ 4000) (h1 : 4 ≤ k1 ∧ k1 ≤ 4000) (h2 : 4 ≤ k2 ∧ k2 ≤ 4000) (h3 : 4 ≤ k3 ∧ k3 ≤ 4000) :
    OfMargins ⟨(joinC 32 [qtrL k0, qtrL k1, qtrL k2, qtrL k3]).toArray⟩ u (usz u k3) (usz u k1) (usz u k0) (usz u k2) := by
  refine of_margins [qtrL k0, qtrL k1, qtrL k2, qtrL k3] (by simp) (four_texts k0 k1 k2 k3 h0.2 h1.2 h2.2 h3.2) 4 3 (.inr (.inr ⟨rfl, rfl⟩)) rfl (qtrL k0) (qtrL k3) rfl rfl u _ _ _ _ (fun w g cap hV hr => ?_)
  exact margin4 u k0 k1 k2 k3 (box_num u k0 hu (by omega) h0.2) (box_num u k1 hu (by omega) h1.2) (box_num u k2 hu (by omega) h2.2) (box_num u k3 hu (by omega) h3.2) _ _ _ _ _ (num_text k0 h0.2) (num_text k1 h1.2) (num_text k2 h2.2) (num_text k3 h3.2) g cap w hV hr

theorem of_rect (u k0 k1 k2 k3 : Nat) (hu : u < 4) (h0 : 4 ≤ k0 ∧ k0 ≤ 4000) (h1 : 4 ≤ k1 ∧ k1 ≤ 4000) (h2 : 4 ≤ k2 ∧ k2 ≤ 4000) (h3 : 4 ≤ k3 ∧ k3 ≤ 4000) (hx : k0 < k2) (hy : k1 < k3) (w : World) (hV : Vars w) :
    Calls Tryz.prog 15 #[bs ([91] ++ joinC 32 [qtrL k0, qtrL k1, qtrL k2, qtrL k3] ++ [93]), .int .i64 u] w fun e w' => ∃ q cap, e = .returned (toldV (.slice (some ⟨q, 0, none⟩) 1 cap) 0 0 0 0 (.slice none 0 0) 0) ∧
      w'.heap[q]? = some (.cells #[.float .f64 (usz u k0), .float .f64 (usz u k1), .float .f64 (usz u k2), .float .f64 (usz u k3)] 54 (0, 0)) ∧ Kp w.heap.size w w' := by
  have hq := four_texts k0 k1 k2 k3 h0.2 h1.2 h2.2 h3.2
  have T := many_text [qtrL k0, qtrL k1, qtrL k2, qtrL k3] (by simp) (by simp) hq
  have hl := T.len
  refine boxOf_rect _ _ _ _ _ _ w (fun w1 hk => ?_)
  have hsz : (⟨([91] ++ joinC 32 [qtrL k0, qtrL k1, qtrL k2, qtrL k3] ++ [93]).toArray⟩ : ByteArray).size = (joinC 32 [qtrL k0, qtrL k1, qtrL k2, qtrL k3]).length + 1 + 1 := by rw [bs_size]; simp only [List.length_append, List.length_cons, List.length_nil]; omega
  have hR := fun w h => rect_any u k0 k1 k2 k3 (box_num u k0 hu (by omega) h0.2) (box_num u k1 hu (by omega) h1.2) (box_num u k2 hu (by omega) h2.2) (box_num u k3 hu (by omega) h3.2) (qtrL k0) (qtrL k1) (qtrL k2) (qtrL k3) (num_text k0 h0.2) (num_text k1 h1.2) (num_text k2 h2.2) (num_text k3 h3.2)
    (fun p hp => (hq p hp).ne) (fun p hp => (hq p hp).vis) (not_below u k0 k2 hu (by omega) (by omega) h2.2) (not_below u k1 k3 hu (by omega) (by omega) h3.2) w h
  generalize joinC 32 [qtrL k0, qtrL k1, qtrL k2, qtrL k3] = j at *
  have hE : EndsV ([91] ++ j ++ [93]) := ⟨⟨91, j ++ [93], by simp, by decide, by decide⟩, ⟨93, [91] ++ j, rfl, by decide, by decide⟩⟩
  have hl9 : ([91] ++ j ++ [93]).length < 1000 := by rw [bs_size] at hsz; omega
  have hn9 : j.length ≤ 900 := by omega
  have h91 : (⟨([91] ++ j ++ [93]).toArray⟩ : ByteArray)[0].toNat = 91 := by rw [bs_get]; rfl
  have h93 : (⟨([91] ++ j ++ [93]).toArray⟩ : ByteArray)[j.length + 1].toNat = 93 := by
    rw [bs_get, List.getElem_append_right (by simp)]
    simp
  have hT : TrimOk ⟨([91] ++ j ++ [93]).toArray⟩ := fun w => trimE ([91] ++ j ++ [93]) hE hl9 w
  have hcut : (⟨([91] ++ j ++ [93]).toArray⟩ : ByteArray).extract 1 (j.length + 1) = ⟨j.toArray⟩ := by
    apply ByteArray.ext
    simp
  have hp0 := @parse_rect ⟨([91] ++ j ++ [93]).toArray⟩ ⟨j.toArray⟩ j.length hsz hn9 h91 h93
  have hp1 := hp0 hcut hT u _ _ _ _ hR
  have hp := hp1 w1 (hV.kp hk)
  refine Calls.mono hp ?_
  rintro e w' ⟨Z, he, hz, ha, hg⟩
  exact ⟨Z, he, hz, ha, hg.kp⟩

theorem of_dim (u k0 k1 a : Nat) (hu : u < 4) (ha : a < 9) (h0 : 4 ≤ k0 ∧ k0 ≤ 4000) (h1 : 4 ≤ k1 ∧ k1 ≤ 4000) (w : World) (hV : Vars w) :
    Calls Tryz.prog 15 #[bs (joinC 44 [joinC 58 [posL, shortL a], joinC 58 [32 :: dimL, joinC 32 [qtrL k0, qtrL k1]]]), .int .i64 u] w fun e w' => ∃ q cap, e = .returned (toldV (.slice none 0 0) 0 0 0 0 (.slice (some ⟨q, 0, none⟩) 1 cap) a) ∧
      w'.heap[q]? = some (.cells #[.float .f64 (usz u k0), .float .f64 (usz u k1)] 58 (0, 0)) ∧ Kp w.heap.size w w' := by
  have hq : ∀ p ∈ [qtrL k0, qtrL k1], QtrText p := by
    intro p hp
    simp only [List.mem_cons, List.mem_nil_iff, or_false] at hp
    rcases hp with rfl | rfl
    · exact qtr_text k0 h0.2
    · exact qtr_text k1 h1.2
  have T := many_text [qtrL k0, qtrL k1] (by simp) (by simp) hq
  have hl := join_len 32 8 [qtrL k0, qtrL k1] (fun p hp => (hq p hp).len)
  simp only [List.length_cons, List.length_nil] at hl
  have A := anchor_text a ha
  have hla := A.len
  refine boxOf_dim _ _ _ _ _ w (fun w1 hk => ?_)
  have hM := fun w g cap hV hr => pos_any u k0 k1 a (shortL a) (qtrL k0) (qtrL k1) A (box_num u k0 hu (by omega) h0.2) (box_num u k1 hu (by omega) h1.2) (num_text k0 h0.2) (num_text k1 h1.2) (fun p hp => (hq p hp).ne) (fun p hp => (hq p hp).vis) T.no58 (by omega) T.ends g cap w hV hr
  have T44 := T.no44
  have TE := T.ends
  generalize joinC 32 [qtrL k0, qtrL k1] = j at *
  have e1 : joinC 58 [posL, shortL a] = [112, 111, 115, 58] ++ shortL a := rfl
  have e2 : joinC 58 [32 :: dimL, j] = [32, 100, 105, 109, 58] ++ j := rfl
  have e3 : joinC 44 [joinC 58 [posL, shortL a], joinC 58 [32 :: dimL, j]] = [112, 111, 115, 58] ++ shortL a ++ 44 :: ([32, 100, 105, 109, 58] ++ j) := rfl
  have n1 : (44 : UInt8) ∉ joinC 58 [posL, shortL a] := by rw [e1]; simp only [List.mem_append, not_or]; exact ⟨by decide, A.no44⟩
  have n2 : (44 : UInt8) ∉ joinC 58 [32 :: dimL, j] := by rw [e2]; simp only [List.mem_append, not_or]; exact ⟨by decide, T44⟩
  have hlen : (joinC 44 [joinC 58 [posL, shortL a], joinC 58 [32 :: dimL, j]]).length = 4 + (shortL a).length + 6 + j.length := by rw [e3]; simp only [List.length_append, List.length_cons, List.length_nil]; omega
  have hE : EndsV (joinC 44 [joinC 58 [posL, shortL a], joinC 58 [32 :: dimL, j]]) := by
    obtain ⟨z, q, hz, hd⟩ := TE.last
    refine ⟨⟨112, _, by rw [e3]; rfl, by decide, by decide⟩, ⟨z, [112, 111, 115, 58] ++ shortL a ++ 44 :: ([32, 100, 105, 109, 58] ++ q), by rw [e3, hz]; simp, hd⟩⟩
  have hsp := fun w => split43 44 [joinC 58 [posL, shortL a], joinC 58 [32 :: dimL, j]] (by simp) (by simp only [List.mem_cons, List.mem_nil_iff, or_false, forall_eq_or_imp, forall_eq]; exact ⟨n1, n2⟩) w (by omega) (by simp)
  have hsz : (⟨(joinC 44 [joinC 58 [posL, shortL a], joinC 58 [32 :: dimL, j]]).toArray⟩ : ByteArray).size = (4 + (shortL a).length + 5 + j.length) + 1 := by rw [bs_size]; omega
  have hp := parse_dim ⟨(joinC 44 [joinC 58 [posL, shortL a], joinC 58 [32 :: dimL, j]]).toArray⟩ _ hsz (by omega) (by rw [bs_get]; simp only [e3]; simp) (fun w => trimE _ hE (by omega) w) _ hsp u _ _ _ hM w1 (hV.kp hk)
  refine Calls.mono hp ?_
  rintro e w' ⟨Z, he, hz, ha, hg⟩
  exact ⟨Z, he, hz, ha, hg.kp⟩
end Go.Proofs.YtcmeaogbfecjkaaGreatDoor
