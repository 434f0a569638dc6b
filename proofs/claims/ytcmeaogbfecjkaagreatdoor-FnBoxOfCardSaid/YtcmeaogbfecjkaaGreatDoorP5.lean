/- The texts of boxes: their ends, their parts, their lengths. -/
import Derived.Test.YtcmeaogbfecjkaaGreatDoorP2
namespace Go.Proofs.YtcmeaogbfecjkaaGreatDoor
open Go.RowKit

def seenC (c : UInt8) : Prop := 33 ≤ c.toNat ∧ c.toNat < 128
/-- The ends of a text are visible characters. -/
structure EndsV (l : List UInt8) : Prop where
  first : ∃ a r, l = a :: r ∧ seenC a
  last : ∃ z r, l = r ++ [z] ∧ seenC z

theorem ends_vis (l : List UInt8) (h0 : l ≠ []) (hv : visB l = true) : EndsV l := by
  have key : ∀ c ∈ l, seenC c := by
    intro c hc
    unfold visB at hv
    have := List.all_eq_true.1 hv c hc
    simpa [seenC] using this
  refine ⟨?_, ?_⟩
  · cases l with
    | nil => exact absurd rfl h0
    | cons a r => exact ⟨a, r, rfl, key a (by simp)⟩
  · exact ⟨l.getLast h0, l.dropLast, (List.dropLast_concat_getLast h0).symm, key _ (List.getLast_mem h0)⟩

theorem ends_join (c : UInt8) : ∀ (ps : List (List UInt8)), ps ≠ [] → (∀ p ∈ ps, EndsV p) → EndsV (joinC c ps)
  | [p], _, h => h p (by simp)
  | p :: q :: r, _, h => by
    have h1 := h p (by simp)
    have h2 := ends_join c (q :: r) (by simp) (fun x hx => h x (List.mem_cons_of_mem _ hx))
    obtain ⟨a, t, ha, hc⟩ := h1.first
    obtain ⟨z, u, hz, hd⟩ := h2.last
    show EndsV (p ++ c :: joinC c (q :: r))
    refine ⟨⟨a, t ++ c :: joinC c (q :: r), by rw [ha]; rfl, hc⟩, ⟨z, p ++ c :: u, by rw [hz]; simp, hd⟩⟩

theorem join_no (c d : UInt8) (hcd : d ≠ c) : ∀ (ps : List (List UInt8)), (∀ p ∈ ps, d ∉ p) → d ∉ joinC c ps
  | [], _ => by simp [joinC]
  | [p], h => h p (by simp)
  | p :: q :: r, h => by
    show d ∉ p ++ c :: joinC c (q :: r)
    have h1 := h p (by simp)
    have h2 := join_no c d hcd (q :: r) (fun x hx => h x (List.mem_cons_of_mem _ hx))
    simp only [List.mem_append, List.mem_cons, not_or]
    exact ⟨h1, hcd, h2⟩

theorem join_len (c : UInt8) (m : Nat) : ∀ (ps : List (List UInt8)), (∀ p ∈ ps, p.length ≤ m) → (joinC c ps).length ≤ (m + 1) * ps.length
  | [], _ => by simp [joinC]
  | [p], h => by have := h p (by simp); simp [joinC]; omega
  | p :: q :: r, h => by
    have h1 := h p (by simp)
    have h2 := join_len c m (q :: r) (fun x hx => h x (List.mem_cons_of_mem _ hx))
    show (p ++ c :: joinC c (q :: r)).length ≤ _
    simp only [List.length_append, List.length_cons] at h2 ⊢
    have : (m + 1) * (r.length + 1 + 1) = (m + 1) * (r.length + 1) + (m + 1) := Nat.mul_succ _ _
    omega

theorem join_head (c : UInt8) (p : List UInt8) (ps : List (List UInt8)) : ∃ r, joinC c (p :: ps) = p ++ r := by
  cases ps with
  | nil => exact ⟨[], by simp [joinC]⟩
  | cons q r => exact ⟨c :: joinC c (q :: r), rfl⟩

/-- zzTrimSpace leaves a text with visible ends. -/
theorem trimE (l : List UInt8) (h : EndsV l) (hl : l.length < 1000) (w : World) : Calls Tryz.prog 41 #[bs l] w fun e w' => e = .returned (bs l) ∧ Grew w w' := by
  obtain ⟨⟨a, r, ha, hc⟩, ⟨z, q, hz, hd⟩⟩ := h
  have hn : l.length = q.length + 1 := by rw [hz]; simp
  refine trimB ⟨l.toArray⟩ q.length hn (by omega) ?_ ?_ ?_ ?_ w
  · rw [bs_get]; simp only [ha, List.getElem_cons_zero]; exact hc.1
  · rw [bs_get]; simp only [ha, List.getElem_cons_zero]; exact hc.2
  · rw [bs_get]; simp only [hz]; rw [List.getElem_append_right (Nat.le_refl _)]; simpa using hd.1
  · rw [bs_get]; simp only [hz]; rw [List.getElem_append_right (Nat.le_refl _)]; simpa using hd.2

theorem trimE1 (l : List UInt8) (h : EndsV l) (hl : l.length < 1000) (w : World) : Calls Tryz.prog 41 #[bs (32 :: l)] w fun e w' => e = .returned (bs l) ∧ Grew w w' := by
  obtain ⟨⟨a, r, ha, hc⟩, ⟨z, q, hz, hd⟩⟩ := h
  have hn : l.length = q.length + 1 := by rw [hz]; simp
  have hcut : (⟨(32 :: l).toArray⟩ : ByteArray).extract 1 (⟨(32 :: l).toArray⟩ : ByteArray).size = ⟨l.toArray⟩ := cut_back ⟨(32 :: l).toArray⟩ [32] l rfl
  refine trimB1 ⟨(32 :: l).toArray⟩ ⟨l.toArray⟩ q.length (by rw [bs_size]; simp [hn]) hcut rfl ?_ ?_ hn (by omega) ?_ ?_ w
  · rw [bs_get]; simp only [ha, List.getElem_cons_succ, List.getElem_cons_zero]; exact hc.1
  · rw [bs_get]; simp only [ha, List.getElem_cons_succ, List.getElem_cons_zero]; exact hc.2
  · rw [bs_get]; simp only [hz]; rw [List.getElem_append_right (Nat.le_refl _)]; simpa using hd.1
  · rw [bs_get]; simp only [hz]; rw [List.getElem_append_right (Nat.le_refl _)]; simpa using hd.2

/-- A number of quarters as a text. -/
structure QtrText (p : List UInt8) : Prop where
  ne : p ≠ []
  vis : visB p = true
  digs : digsB p = true
  len : p.length ≤ 8
  first : ∃ a r, p = a :: r ∧ 48 ≤ a.toNat ∧ a.toNat ≤ 57
  last : ∃ z r, p = r ++ [z] ∧ 48 ≤ z.toNat ∧ z.toNat ≤ 57

theorem numL_ends (n : Nat) : (∃ a r, numL n = a :: r ∧ 48 ≤ a.toNat ∧ a.toNat ≤ 57) ∧ (∃ z r, numL n = r ++ [z] ∧ 48 ≤ z.toNat ∧ z.toNat ≤ 57) := by
  have dig : ∀ k < 10, 48 ≤ (UInt8.ofNat (48 + k)).toNat ∧ (UInt8.ofNat (48 + k)).toNat ≤ 57 := by decide
  induction n using Nat.strongRecOn with
  | ind n ih =>
    unfold numL
    split
    · exact ⟨⟨_, [], rfl, dig n ‹_›⟩, ⟨_, [], rfl, dig n ‹_›⟩⟩
    · obtain ⟨a, r, ha, hc⟩ := (ih (n / 10) (by omega)).1
      obtain ⟨z, q, hz, hd⟩ := (ih (n % 10) (by omega)).2
      refine ⟨⟨a, r ++ numL (n % 10), by rw [ha]; rfl, hc⟩, ⟨z, numL (n / 10) ++ q, by rw [hz]; simp, hd⟩⟩

theorem qtr_text (k : Nat) (h : k ≤ 4000) : QtrText (qtrL k) := by
  have hd := qtrL_digs k
  have hne : qtrL k ≠ [] := by
    have := numL_ne (k / 4)
    unfold qtrL
    simp [this]
  obtain ⟨⟨a, r, ha, hc⟩, ⟨z, q, hz, hq⟩⟩ := numL_ends (k / 4)
  refine ⟨hne, digs_vis _ hd, hd, qtrL_len k (by omega), ?_, ?_⟩
  · unfold qtrL; rw [ha]; exact ⟨a, _, rfl, hc⟩
  · unfold qtrL
    split
    · exact ⟨z, q, by rw [hz]; simp, hq⟩
    · exact ⟨53, numL (k / 4) ++ [46, 50], by simp, by decide⟩
    · exact ⟨53, numL (k / 4) ++ [46], by simp, by decide⟩
    · exact ⟨53, numL (k / 4) ++ [46, 55], by simp, by decide⟩

theorem QtrText.ends {p : List UInt8} (h : QtrText p) : EndsV p := ends_vis p h.ne h.vis
theorem QtrText.no {p : List UInt8} (h : QtrText p) (c : UInt8) (hc : c.toNat < 45 ∨ 57 < c.toNat) : c ∉ p := digs_no p h.digs c hc
end Go.Proofs.YtcmeaogbfecjkaaGreatDoor
