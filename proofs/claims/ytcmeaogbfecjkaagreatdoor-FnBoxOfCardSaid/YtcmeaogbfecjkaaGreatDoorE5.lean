/- laws.FnBoxOf: the row. -/
import Derived.Test.YtcmeaogbfecjkaaGreatDoorR6
import Derived.Test.YtcmeaogbfecjkaaGreatDoorR7
import Derived.Test.YtcmeaogbfecjkaaGreatDoorPO
import Derived.Laws.IdiomArrays
namespace Go.Proofs.YtcmeaogbfecjkaaGreatDoor
open Go.ChangeShapes Go.WideShapes Go.ChangeAt Go.RowKit

theorem cells3 : Tryz.prog.cellsOf 3 = 1 := by kernel_rfl
theorem cells42 : Tryz.prog.cellsOf 42 = 4 := by kernel_rfl

set_option maxRecDepth 100000 in
set_option maxHeartbeats 1600000 in
theorem box_lifted (os : Os) (started : os.Started) (H : Type) (enc : TypeId × Value → H) :
    ReturnsInHanded {} Tryz.checked os 5 .any (fun w args => (Rows.fnBoxOfSpec.pre enc Tryz.prog Tryz.f5 [] false w args ∧ laidMetH Tryz.prog laidB w) ∧ sizedMet enc Tryz.prog Tryz.f5 (OpenSpec.ofChange Rows.fnBoxOfSpec) false w args)
      (Rows.fnBoxOfSpec.post enc Tryz.prog Tryz.f5 false true false false) := by
  refine returnsInHanded_of_change_and (C := Tryz.checked) (X := fun w _ => laidMetH Tryz.prog laidB w) (fun _ _ _ hh h => h.of_heap hh) own started (by kernel_rfl) Tryz.func5
    (ChangeSpec.witness_shaped (enc := enc) (C := Tryz.checked) (os := os) (X := fun w _ => laidMetH Tryz.prog laidB w) false (World.laidAll Tryz.prog os laidB) #[.int .i64 0, .agg #[.int .i64 0, .int .i64 0, .int .i64 0, .int .i64 0], .int .i64 0, .int .i64 0] 8 (World.laidAll_os _ _ _)
      (laidB_shaped os) (by kernel_rfl) (by kernel_rfl) (by kernel_rfl)
      (laidB_met os _)) ?_
  intro W base args ds gs before hval0 hW _ _ hL _
  have hval : ∀ (j : Nat) t v, Tryz.f5.params[j]? = some t → args[j]? = some v → Value.okWide Tryz.prog W .any base t v := hval0
  have hW' := hW
  obtain ⟨p, q, hA0, hV0, rfl, hfz, hnd⟩ := hW
  have hA : DataW.TrodAll enc Tryz.prog W 0 (fun _ => true) true Tryz.f5.params.toList args.toList ds p := hA0
  have hV : DataW.TrodVars enc Tryz.prog W (fun _ => true) Rows.fnBoxOfSpec.vars gs q := hV0
  obtain ⟨rfl, rfl⟩ := trodVars_none hV
  rw [Tryz.params5] at hA hval
  obtain ⟨v0, vs0, d0, ds0, p0, q0, hargs, rfl, rfl, h0, r0⟩ := trodAll_cons hA
  obtain ⟨v1, vs1, d1, ds1, p1, q1, rfl, rfl, rfl, h1, r1⟩ := trodAll_cons r0
  obtain ⟨v2, vs2, d2, ds2, p2, q2, rfl, rfl, rfl, h2, r2⟩ := trodAll_cons r1
  obtain ⟨v3, vs3, d3, ds3, p3, q3, rfl, rfl, rfl, h3, r3⟩ := trodAll_cons r2
  obtain ⟨rfl, rfl, rfl⟩ := trodAll_nil r3
  obtain rfl : args = #[v0, v1, v2, v3] := by cases args; simp_all
  obtain ⟨a0, rfl, rfl, rfl, w0⟩ := open_int Tryz.underlying3 (hval 0 3 v0 rfl rfl) h0
  obtain ⟨a2, rfl, rfl, rfl, w2⟩ := open_int Tryz.underlying3 (hval 2 3 v2 rfl rfl) h2
  obtain ⟨a3, rfl, rfl, rfl, w3⟩ := open_int Tryz.underlying3 (hval 3 3 v3 rfl rfl) h3
  obtain ⟨cs, rfl, hsz, _⟩ : ∃ cs, v1 = .agg cs ∧ cs.size = Tryz.prog.cellsOf 42 ∧ Row.okWide Tryz.prog W .any base 42 cs := by
    have := hval 1 42 v1 rfl rfl
    simpa [Value.okWide, Tryz.underlying42] using this
  rw [cells42] at hsz
  obtain ⟨l⟩ := cs
  obtain ⟨c0, c1, c2, c3, rfl⟩ := list4 l hsz
  obtain ⟨fuel, hf⟩ := h1
  obtain ⟨y0, y1, y2, y3, m, hx, hy0, hy1, hy2, hy3⟩ := trod_array4 Tryz.underlying42 cells3 hf
  obtain ⟨x0, e0, rfl, z0⟩ := DataW.trod_int Tryz.underlying3 hy0
  obtain ⟨x1, e1, rfl, z1⟩ := DataW.trod_int Tryz.underlying3 hy1
  obtain ⟨x2, e2, rfl, z2⟩ := DataW.trod_int Tryz.underlying3 hy2
  obtain ⟨x3, e3, rfl, z3⟩ := DataW.trod_int Tryz.underlying3 hy3
  simp at e0 e1 e2 e3
  subst e0 e1 e2 e3
  simp only [Prod.mk.injEq] at hx
  obtain ⟨rfl, rfl⟩ := hx
  have rdA : ∀ (W' : World) (sp : Nat → Bool), DataW.Trod enc Tryz.prog W' 0 sp true 42 (.agg #[.int .i64 x0, .int .i64 x1, .int .i64 x2, .int .i64 x3]) (DataW.agg [.lit (.int .i64 x0), .lit (.int .i64 x1), .lit (.int .i64 x2), .lit (.int .i64 x3)]) [] := fun W' sp => ⟨2, by simp [DataW.trod, Value.cells, Tryz.underlying42, Tryz.underlying3, cells42, cells3, z0, z1, z2, z3, show List.range 4 = [0, 1, 2, 3] from rfl]⟩
  refine (boxLaw_any W (varsB_of hL) a0 x0 x1 x2 x3 a2 a3).mono fun e W' ⟨he, hk⟩ => ?_
  subst he
  refine ⟨_, rfl, _, _, _, [], [], [], hW', ?_, ?_, ?_, kept_of_kp hk _, fun h => by cases h⟩
  · exact trodAll_cons_mk (shut_bool Tryz.underlying4 _) trodAll_mk0
  · exact trodAll_cons_mk (shut_int Tryz.underlying3 w0) (trodAll_cons_mk (rdA W' _) (trodAll_cons_mk (shut_int Tryz.underlying3 w2) (trodAll_cons_mk (shut_int Tryz.underlying3 w3) trodAll_mk0)))
  · rfl

theorem fnBoxOf_holds : Rows.FnBoxOfSaid :=
  OpenClaim.holds_of_wide 5 Tryz.f5 rfl rfl rfl rfl rfl rfl rfl ⟨rfl, rfl, rfl, rfl, rfl⟩ rfl rfl rfl rfl rfl (by kernel_rfl) Tryz.func5 joined5
    (of_decide_eq_true (by kernel_rfl)) (by unfold Func.isWrapper; first | (rw [if_pos (by decide +kernel)]; kernel_rfl) | (rw [if_neg (by decide +kernel)]; exact ⟨rfl, rfl⟩))
    (fun os started H enc _ => box_lifted os started H enc)
end Go.Proofs.YtcmeaogbfecjkaaGreatDoor
