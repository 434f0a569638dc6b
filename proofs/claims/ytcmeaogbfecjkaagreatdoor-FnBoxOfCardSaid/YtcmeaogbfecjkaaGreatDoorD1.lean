/- Texts of visible characters, which TrimSpace leaves as they are; the names of a zoom's settings. -/
import Derived.Test.YtcmeaogbfecjkaaGreatDoorC9
namespace Go.Proofs.YtcmeaogbfecjkaaGreatDoor
open Go.RowKit

def visB (l : List UInt8) : Bool := l.all fun b => decide (33 ≤ b.toNat) && decide (b.toNat < 128)
/-- Digits, signs and points. -/
def digsB (l : List UInt8) : Bool := l.all fun b => decide (45 ≤ b.toNat) && decide (b.toNat ≤ 57)

theorem bs_size (l : List UInt8) : (⟨l.toArray⟩ : ByteArray).size = l.length := rfl
theorem bs_get (l : List UInt8) (i : Nat) (h : i < (⟨l.toArray⟩ : ByteArray).size) : (⟨l.toArray⟩ : ByteArray)[i] = l[i]'h := rfl

theorem vis_at (l : List UInt8) (h : visB l = true) (i : Nat) (hi : i < l.length) : 33 ≤ l[i].toNat ∧ l[i].toNat < 128 := by
  unfold visB at h
  have := List.all_eq_true.1 h l[i] (List.getElem_mem hi)
  simpa using this

theorem trim_list (l : List UInt8) (h0 : l ≠ []) (hl : l.length ≤ 1000) (hv : visB l = true) : TrimSays l l := by
  intro w hA
  obtain ⟨n, hn⟩ : ∃ n, l.length = n + 1 := ⟨l.length - 1, by have := List.length_pos_iff.2 h0; omega⟩
  have a := vis_at l hv 0 (by omega)
  have z := vis_at l hv n (by omega)
  exact trim_plain ⟨l.toArray⟩ n hn w hA (by omega) a.1 a.2 z.1 z.2

theorem trim_list_sp (l : List UInt8) (h0 : l ≠ []) (hl : l.length ≤ 1000) (hv : visB l = true) : TrimSays (32 :: l) l := by
  intro w hA
  obtain ⟨n, hn⟩ : ∃ n, l.length = n + 1 := ⟨l.length - 1, by have := List.length_pos_iff.2 h0; omega⟩
  have a := vis_at l hv 0 (by omega)
  have z := vis_at l hv n (by omega)
  have hcut : (⟨(32 :: l).toArray⟩ : ByteArray).extract 1 (n + 1 + 1) = ⟨l.toArray⟩ := by
    have := cut_back ⟨(32 :: l).toArray⟩ [32] l rfl
    rw [bs_size] at this
    simp only [List.length_cons, List.length_nil, hn] at this
    exact this
  exact trim_sp ⟨(32 :: l).toArray⟩ ⟨l.toArray⟩ n (by rw [bs_size]; simp [hn]) hn hcut w hA (by omega) rfl a.1 a.2 z.1 z.2

theorem digs_app (a b : List UInt8) : digsB (a ++ b) = (digsB a && digsB b) := by unfold digsB; simp
theorem numL_digs (n : Nat) : digsB (numL n) = true := by
  induction n using Nat.strongRecOn with
  | ind n ih =>
    unfold numL
    split
    · have : ∀ k < 10, digsB [UInt8.ofNat (48 + k)] = true := by decide
      exact this n ‹_›
    · rw [digs_app, ih _ (by omega), ih _ (by omega)]
      rfl
theorem qtrL_digs (n : Nat) : digsB (qtrL n) = true := by
  unfold qtrL
  rw [digs_app, numL_digs, Bool.true_and]
  split <;> decide
theorem qtrI_digs (n : Int) : digsB (qtrI n) = true := by
  unfold qtrI
  split
  · have := digs_app [45] (qtrL (-n).toNat)
    rw [qtrL_digs] at this
    exact this
  · exact qtrL_digs _
theorem numL_ne (n : Nat) : numL n ≠ [] := by
  induction n using Nat.strongRecOn with
  | ind n ih =>
    unfold numL
    split
    · simp
    · have := ih (n / 10) (by omega)
      simp [this]
theorem qtrI_ne (n : Int) : qtrI n ≠ [] := by
  unfold qtrI qtrL
  split <;> simp [numL_ne]
theorem qtrL_len (n : Nat) (h : n < 100000) : (qtrL n).length ≤ 8 := by
  unfold qtrL
  have := numL_len (n / 4) (by omega)
  simp only [List.length_append]
  split <;> simp <;> omega
theorem qtrI_len (n : Int) (h0 : -100000 < n) (h1 : n < 100000) : (qtrI n).length ≤ 9 := by
  unfold qtrI
  split
  · have := qtrL_len (-n).toNat (by omega)
    simp only [List.length_cons]
    omega
  · have := qtrL_len n.toNat (by omega)
    omega
theorem digs_vis (l : List UInt8) (h : digsB l = true) : visB l = true := by
  unfold digsB at h
  unfold visB
  rw [List.all_eq_true] at *
  intro b hb
  have := h b hb
  simp only [Bool.and_eq_true, decide_eq_true_eq] at *
  omega
theorem digs_no (l : List UInt8) (h : digsB l = true) (c : UInt8) (hc : c.toNat < 45 ∨ 57 < c.toNat) : c ∉ l := by
  intro hm
  unfold digsB at h
  rw [List.all_eq_true] at h
  have := h c hm
  simp only [Bool.and_eq_true, decide_eq_true_eq] at this
  omega

def keys5 : List (List UInt8) := [kFactor.data.toList, kHmargin.data.toList, kVmargin.data.toList, kBgcolor.data.toList, kBorder.data.toList]
/-- The text p, whatever its capitals, begins the j-th of a zoom's names and no other; at j = 5, none. -/
def nmOk (j : Nat) (p : List UInt8) : Bool :=
  !p.isEmpty && decide (p.length ≤ 20) && visB p && !p.contains 58 && !p.contains 44 && !p.contains 32 &&
    ((List.range 5).all fun i => Lib.hasPrefix (keys5.getD i []) (Lib.toLowerA p) == (i == j))

structure Nm (j : Nat) (p : List UInt8) : Prop where
  ne : p ≠ []
  len : p.length ≤ 20
  vis : visB p = true
  no58 : (58 : UInt8) ∉ p
  no44 : (44 : UInt8) ∉ p
  k0 : Lib.hasPrefix kFactor.data.toList (Lib.toLowerA p) = (0 == j)
  k1 : Lib.hasPrefix kHmargin.data.toList (Lib.toLowerA p) = (1 == j)
  k2 : Lib.hasPrefix kVmargin.data.toList (Lib.toLowerA p) = (2 == j)
  k3 : Lib.hasPrefix kBgcolor.data.toList (Lib.toLowerA p) = (3 == j)
  k4 : Lib.hasPrefix kBorder.data.toList (Lib.toLowerA p) = (4 == j)
theorem nm_of {j : Nat} {p : List UInt8} (h : nmOk j p = true) : Nm j p := by
  unfold nmOk at h
  simp only [Bool.and_eq_true, Bool.not_eq_true', List.isEmpty_eq_false_iff, decide_eq_true_eq, List.contains_eq_mem, decide_eq_false_iff_not, List.all_eq_true, List.mem_range, beq_iff_eq] at h
  obtain ⟨⟨⟨⟨⟨⟨h1, h2⟩, h3⟩, h4⟩, h5⟩, _⟩, h7⟩ := h
  exact ⟨h1, h2, h3, h4, h5, h7 0 (by omega), h7 1 (by omega), h7 2 (by omega), h7 3 (by omega), h7 4 (by omega)⟩
theorem Nm.ascii {j : Nat} {p : List UInt8} (h : Nm j p) : ∀ (i : Nat) (b : UInt8), (⟨p.toArray⟩ : ByteArray).data.toList[i]? = some b → b.toNat < 128 := by
  intro i b hb
  have hb' : p[i]? = some b := by simpa using hb
  obtain ⟨hi, rfl⟩ := List.getElem?_eq_some_iff.1 hb'
  exact (vis_at p h.vis i hi).2

/-- factor:n. -/
theorem handle_factor (p : List UInt8) (hp : Nm 0 p) (n : Nat) (h1 : 1 ≤ n) (h2 : n ≤ 400) (h4 : n ≠ 4) (w : World) (Z m : Nat) (hV : Vars w) (hm : w.heap[m]? = some (.map es5 5)) (F H V : Nat) (U : Int) (b : Bool) (c : Value) (hz : ZAt w Z F H V U b c) :
    Calls Tryz.prog 37 #[.map (some m), bs p, bs (qtrL n), .pointer (some ⟨Z, 0, none⟩)] w fun e w' => e = .returned .nilIface ∧ ZAt w' Z (qf n) H V U b c ∧ Kx Z w.heap.size w w' := by
  refine (handle_0 ⟨p.toArray⟩ ⟨(Lib.toLowerA p).toArray⟩ ⟨(qtrL n).toArray⟩ _ m w (fun v w' => v = .nilIface ∧ ZAt w' Z (qf n) H V U b c ∧ Kx Z w.heap.size w w') hm (by rw [bs_size]; have := hp.len; omega) hp.ascii (by simp)
    hp.k0 hp.k1 hp.k2 hp.k3 hp.k4 (Lib.hid ?_)).mono ?_
  · intro w1 hk
    refine (factor_any n ⟨(qtrL n).toArray⟩ (by simp) h1 h2 h4 w1 (hV.kp hk) Z F H V U b c (hz.kp hk)).mono ?_
    rintro e w' ⟨he, hz', hk'⟩
    exact ⟨_, he, rfl, hz', (Kx.of hk).trans (hk'.mono hk.size)⟩
  · rintro e w' ⟨v, he, rfl, h⟩
    exact ⟨he, h⟩
theorem handle_hm (p : List UInt8) (hp : Nm 1 p) (n : Int) (h0 : n ≠ 0) (h1 : -400 ≤ n) (h2 : n ≤ 400) (w : World) (Z m : Nat) (hV : Vars w) (hm : w.heap[m]? = some (.map es5 5)) (F : Nat) (u : Nat) (hu : u < 4) (b : Bool) (c : Value) (hz : ZAt w Z F 0 0 u b c) :
    Calls Tryz.prog 37 #[.map (some m), bs p, bs (qtrI n), .pointer (some ⟨Z, 0, none⟩)] w fun e w' => e = .returned .nilIface ∧ ZAt w' Z F (usz u n) 0 u b c ∧ Kx Z w.heap.size w w' := by
  refine (handle_1 ⟨p.toArray⟩ ⟨(Lib.toLowerA p).toArray⟩ ⟨(qtrI n).toArray⟩ _ m w (fun v w' => v = .nilIface ∧ ZAt w' Z F (usz u n) 0 u b c ∧ Kx Z w.heap.size w w') hm (by rw [bs_size]; have := hp.len; omega) hp.ascii (by simp)
    hp.k0 hp.k1 hp.k2 hp.k3 hp.k4 (Lib.hid ?_)).mono ?_
  · intro w1 hk
    refine (hmargin_any n ⟨(qtrI n).toArray⟩ (num_ok n h0 h1 h2 _ (by simp)) w1 (hV.kp hk) Z F u hu b c (hz.kp hk)).mono ?_
    rintro e w' ⟨he, hz', hk'⟩
    exact ⟨_, he, rfl, hz', (Kx.of hk).trans (hk'.mono hk.size)⟩
  · rintro e w' ⟨v, he, rfl, h⟩
    exact ⟨he, h⟩
theorem handle_vm (p : List UInt8) (hp : Nm 2 p) (n : Int) (h0 : n ≠ 0) (h1 : -400 ≤ n) (h2 : n ≤ 400) (w : World) (Z m : Nat) (hV : Vars w) (hm : w.heap[m]? = some (.map es5 5)) (F : Nat) (u : Nat) (hu : u < 4) (b : Bool) (c : Value) (hz : ZAt w Z F 0 0 u b c) :
    Calls Tryz.prog 37 #[.map (some m), bs p, bs (qtrI n), .pointer (some ⟨Z, 0, none⟩)] w fun e w' => e = .returned .nilIface ∧ ZAt w' Z F 0 (usz u n) u b c ∧ Kx Z w.heap.size w w' := by
  refine (handle_2 ⟨p.toArray⟩ ⟨(Lib.toLowerA p).toArray⟩ ⟨(qtrI n).toArray⟩ _ m w (fun v w' => v = .nilIface ∧ ZAt w' Z F 0 (usz u n) u b c ∧ Kx Z w.heap.size w w') hm (by rw [bs_size]; have := hp.len; omega) hp.ascii (by simp)
    hp.k0 hp.k1 hp.k2 hp.k3 hp.k4 (Lib.hid ?_)).mono ?_
  · intro w1 hk
    refine (vmargin_any n ⟨(qtrI n).toArray⟩ (num_ok n h0 h1 h2 _ (by simp)) w1 (hV.kp hk) Z F u hu b c (hz.kp hk)).mono ?_
    rintro e w' ⟨he, hz', hk'⟩
    exact ⟨_, he, rfl, hz', (Kx.of hk).trans (hk'.mono hk.size)⟩
  · rintro e w' ⟨v, he, rfl, h⟩
    exact ⟨he, h⟩
theorem handle_x (p : List UInt8) (hp : Nm 5 p) (val : List UInt8) (w : World) (z : Value) (m : Nat) (hm : w.heap[m]? = some (.map es5 5)) :
    Calls Tryz.prog 37 #[.map (some m), bs p, bs val, z] w fun e w' => ∃ a, e = .returned (.iface 107 (.pointer (some a))) ∧ Kp w.heap.size w w' :=
  handle_none ⟨p.toArray⟩ ⟨(Lib.toLowerA p).toArray⟩ ⟨val.toArray⟩ z m w hm (by rw [bs_size]; have := hp.len; omega) hp.ascii (by simp)
    hp.k0 hp.k1 hp.k2 hp.k3 hp.k4

/-- A zoom below block k, as it lies. -/
def ZIs (F H V : Nat) (U : Int) (b : Bool) (c : Value) (Z : Nat) (w : World) : Prop := ZAt w Z F H V U b c
theorem ZIs.stable (F H V : Nat) (U : Int) (b : Bool) (c : Value) : Stable (ZIs F H V U b c) := fun _ _ _ h hk => ZAt.kp h hk

/-- A part without blanks. -/
theorem item_of (G j : Nat) (A B : Nat → World → Prop) (p r : List UInt8) (hp : Nm j p) (hr : digsB r = true) (hr0 : r ≠ []) (hrl : r.length ≤ 20)
    (h : ∀ (w : World) (Z m : Nat), VarsZ G w → G ≤ Z → A Z w → w.heap[m]? = some (.map es5 5) → Calls Tryz.prog 37 #[.map (some m), bs p, bs r, .pointer (some ⟨Z, 0, none⟩)] w fun e w' =>
      e = .returned .nilIface ∧ B Z w' ∧ Kx Z w.heap.size w w') : Item G A B (p ++ 58 :: r) :=
  ⟨p, r, p, r, rfl, hp.no58, digs_no r hr 58 (by decide), by omega, by have := hp.len; simp; omega, trim_list p hp.ne (by have := hp.len; omega) hp.vis, trim_list r hr0 (by omega) (digs_vis r hr), hp.ne, hr0, h⟩
/-- A part ' name: value'. -/
theorem item_sp (G j : Nat) (A B : Nat → World → Prop) (p r : List UInt8) (hp : Nm j p) (hr : digsB r = true) (hr0 : r ≠ []) (hrl : r.length ≤ 20)
    (h : ∀ (w : World) (Z m : Nat), VarsZ G w → G ≤ Z → A Z w → w.heap[m]? = some (.map es5 5) → Calls Tryz.prog 37 #[.map (some m), bs p, bs r, .pointer (some ⟨Z, 0, none⟩)] w fun e w' =>
      e = .returned .nilIface ∧ B Z w' ∧ Kx Z w.heap.size w w') : Item G A B (32 :: p ++ 58 :: 32 :: r) :=
  ⟨32 :: p, 32 :: r, p, r, rfl, by have := hp.no58; simp [this], by have := digs_no r hr 58 (by decide); simp [this], by simp; omega, by have := hp.len; simp; omega, trim_list_sp p hp.ne (by have := hp.len; omega) hp.vis, trim_list_sp r hr0 (by omega) (digs_vis r hr), hp.ne, hr0, h⟩
end Go.Proofs.YtcmeaogbfecjkaaGreatDoor
