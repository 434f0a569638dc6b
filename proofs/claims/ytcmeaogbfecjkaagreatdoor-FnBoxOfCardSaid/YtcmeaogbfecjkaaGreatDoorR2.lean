/- The rows' plain steps: what is kept behind a call that writes new blocks alone; the named variables read as before. -/
import Derived.Test.YtcmeaogbfecjkaaGreatDoorR1
namespace Go.Proofs.YtcmeaogbfecjkaaGreatDoor
open Go.ChangeShapes Go.WideShapes Go.ChangeAt Go.RowKit

theorem kept_of_kp {W W' : World} (h : Kp W.heap.size W W') (may : MemPlace → Prop) : W.keptBut W' may := by
  refine ⟨h.os, h.output, fun i hi => ?_⟩
  rw [h.block i hi]
  cases hb : W.heap[i]? with
  | none => rfl
  | some o =>
    cases o with
    | cells c t fr => exact ⟨rfl, rfl, rfl, fun _ _ => rfl⟩
    | map es clock => exact .inr ⟨rfl, rfl⟩
    | _ => rfl

section
variable {H : Type} {enc : TypeId × Value → H} {P : Program} {w w' : World} {base : Nat} {sp sp' : Nat → Bool}

theorem mapM_same {α β : Type} {g h : α → Option β} : ∀ (l : List α), (∀ a ∈ l, g a = h a) → l.mapM g = l.mapM h
  | [], _ => rfl
  | a :: l, hh => by
    rw [List.mapM_cons, List.mapM_cons, hh a (List.mem_cons_self ..), mapM_same l fun b hb => hh b (List.mem_cons_of_mem _ hb)]

theorem float_flat {t : TypeId} {k : FloatKind} (ht : P.underlying t = some (.float k)) (fuel : Nat) (cs : List Value) :
    DataW.trod enc P w base sp true fuel t cs = DataW.trod enc P w' base sp' true fuel t cs := by
  cases fuel with
  | zero => rfl
  | succ n =>
    unfold DataW.trod
    rw [ht]
    rcases cs with _ | ⟨x, _ | ⟨y, r⟩⟩
    · rfl
    · cases x <;> rfl
    · cases x <;> rfl

theorem floats_flat {t : TypeId} {fs : Array Field} {k : FloatKind} (ht : P.underlying t = some (.struct fs)) (hf : ∀ f ∈ fs.toList, P.underlying f.type = some (.float k)) (fuel : Nat) (cs : List Value) :
    DataW.trod enc P w base sp true fuel t cs = DataW.trod enc P w' base sp' true fuel t cs := by
  cases fuel with
  | zero => rfl
  | succ n =>
    unfold DataW.trod
    rw [ht]
    simp only
    rw [mapM_same fs.toList (fun f hm => float_flat (w' := w') (sp' := sp') (hf f hm) n _)]

theorem iface_flat {t : TypeId} {ms : Array (String × TypeId)} (ht : P.underlying t = some (.interface ms)) (fuel : Nat) (cs : List Value) :
    DataW.trod enc P w base sp true fuel t cs = DataW.trod enc P w' base sp' true fuel t cs := by
  cases fuel with
  | zero => rfl
  | succ n =>
    unfold DataW.trod
    rw [ht]
    rcases cs with _ | ⟨x, _ | ⟨y, r⟩⟩
    · rfl
    · cases x <;> rfl
    · cases x <;> rfl

/-- A variable whose reading looks at its own cells alone. -/
def FlatVar (P : Program) (n : String) : Prop := ∀ g t, P.globalNamed n = some g → (P.globals[g]?).map (·.type) = some t →
  ∀ (H : Type) (enc : TypeId × Value → H) (w w' : World) (sp sp' : Nat → Bool) (fuel : Nat) (cs : List Value), DataW.trod enc P w 0 sp true fuel t cs = DataW.trod enc P w' 0 sp' true fuel t cs

theorem vars_kept (hk : Kp w.heap.size w w') : ∀ {ns : List String} {gs : List (DataW H)} {q : List MemPlace}, (∀ n ∈ ns, FlatVar P n) → DataW.TrodVars enc P w sp ns gs q → DataW.TrodVars enc P w' sp' ns gs q
  | [], [], _, _, h => h
  | [], _ :: _, _, _, h => h.elim
  | _ :: _, [], _, _, h => h.elim
  | n :: ns, d :: ds, ps, hf, h => by
    obtain ⟨g, t, cs, fuel, p, q, h1, h2, h3, h4, h5, h6⟩ := h
    refine ⟨g, t, cs, fuel, p, q, h1, h2, ?_, ?_, vars_kept hk (fun m hm => hf m (List.mem_cons_of_mem _ hm)) h5, h6⟩
    · unfold World.var? at h3 ⊢
      rw [h1] at h3 ⊢
      simp only [Option.bind_some] at h3 ⊢
      have hb : g < w.heap.size := by
        by_cases hb : g < w.heap.size
        · exact hb
        · rw [Array.getElem?_eq_none (by omega)] at h3
          simp at h3
      rw [hk.block g hb]
      exact h3
    · rw [← hf n (List.mem_cons_self ..) g t h1 h2 H enc w w' sp sp' fuel cs.toList]
      exact h4
end

theorem flat_color {n : String} (g : Nat) (hg : Tryz.prog.globalNamed n = some g) (ht : (Tryz.prog.globals[g]?).map (·.type) = some 97) : FlatVar Tryz.prog n := by
  intro g' t h1 h2 H enc w w' sp sp' fuel cs
  obtain rfl := Option.some.inj (hg.symm.trans h1)
  obtain rfl := Option.some.inj (ht.symm.trans h2)
  refine floats_flat (k := .f32) Tryz.underlying97 (fun f hf => ?_) fuel cs
  have h95 : Tryz.prog.underlying 95 = some (.float .f32) := by kernel_rfl
  simp only [List.mem_cons, List.mem_nil_iff, or_false] at hf
  rcases hf with rfl | rfl | rfl <;> exact h95
theorem flat_error {n : String} (g : Nat) (hg : Tryz.prog.globalNamed n = some g) (ht : (Tryz.prog.globals[g]?).map (·.type) = some 62) : FlatVar Tryz.prog n := by
  intro g' t h1 h2 H enc w w' sp sp' fuel cs
  obtain rfl := Option.some.inj (hg.symm.trans h1)
  obtain rfl := Option.some.inj (ht.symm.trans h2)
  exact iface_flat Tryz.underlying62 fuel cs

theorem flat9 : ∀ n ∈ Rows.fnShortenedSpec.vars, FlatVar Tryz.prog n := by
  intro n hn
  simp only [Rows.fnShortenedSpec, List.mem_cons, List.mem_nil_iff, or_false] at hn
  rcases hn with rfl | rfl | rfl | rfl | rfl | rfl | rfl | rfl | rfl
  · exact flat_color 5 (by kernel_rfl) (by kernel_rfl)
  · exact flat_color 6 (by kernel_rfl) (by kernel_rfl)
  · exact flat_color 7 (by kernel_rfl) (by kernel_rfl)
  · exact flat_color 8 (by kernel_rfl) (by kernel_rfl)
  · exact flat_color 9 (by kernel_rfl) (by kernel_rfl)
  · exact flat_color 10 (by kernel_rfl) (by kernel_rfl)
  · exact flat_color 11 (by kernel_rfl) (by kernel_rfl)
  · exact flat_color 12 (by kernel_rfl) (by kernel_rfl)
  · exact flat_error 13 (by kernel_rfl) (by kernel_rfl)

/-- Nine named variables: nine data. -/
theorem nine_of {H : Type} {enc : TypeId × Value → H} {W : World} {sp : Nat → Bool} {gs : List (DataW H)} {q : List MemPlace} (h : DataW.TrodVars enc Tryz.prog W sp Rows.fnShortenedSpec.vars gs q) : ∃ g1 g2 g3 g4 g5 g6 g7 g8 g9, gs = [g1, g2, g3, g4, g5, g6, g7, g8, g9] := by
  have hl : ∀ {ns : List String} {gs : List (DataW H)} {q : List MemPlace}, DataW.TrodVars enc Tryz.prog W sp ns gs q → gs.length = ns.length := by
    intro ns
    induction ns with
    | nil => intro gs q h; cases gs with
      | nil => rfl
      | cons _ _ => exact h.elim
    | cons n ns ih => intro gs q h; cases gs with
      | nil => exact h.elim
      | cons d ds =>
        obtain ⟨_, _, _, _, _, _, _, _, _, _, h5, _⟩ := h
        simp [ih h5]
  have h9 : gs.length = 9 := hl h
  match gs, h9 with
  | [g1, g2, g3, g4, g5, g6, g7, g8, g9], _ => exact ⟨g1, g2, g3, g4, g5, g6, g7, g8, g9, rfl⟩
end Go.Proofs.YtcmeaogbfecjkaaGreatDoor
