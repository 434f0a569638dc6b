/- What the rows' listed variables hold gives the walks their cells. -/
import Derived.Test.YtcmeaogbfecjkaaGreatDoorRows
import Derived.Test.YtcmeaogbfecjkaaGreatDoorC7
import Derived.Lib.LaidU8
import Derived.ProofKit
import Derived.OpenShut
import Derived.LaidMore
import Derived.Lay
import Derived.Stop.Joined
namespace Go.Proofs.YtcmeaogbfecjkaaGreatDoor
open Go.ChangeShapes Go.WideShapes Go.ChangeAt Go.RowKit

theorem own : ownKnob Tryz.prog.godebug = none := by kernel_rfl

theorem trod_float {H : Type} {enc : TypeId × Value → H} {P : Program} {w : World} {base : Nat} {sp : Nat → Bool} {held : Bool} {fuel : Nat} {t : TypeId} {cs : List Value} {x : DataW H × List MemPlace} {k : FloatKind} (ht : P.underlying t = some (.float k))
    (h : DataW.trod enc P w base sp held fuel t cs = some x) : ∃ n, cs = [.float k n] ∧ x = (.lit (.float k n), []) := by
  cases fuel with
  | zero => simp [DataW.trod] at h
  | succ n =>
    unfold DataW.trod at h
    rw [ht] at h
    split at h <;> simp_all

theorem trod_iface_some {H : Type} {enc : TypeId × Value → H} {P : Program} {w : World} {base : Nat} {sp : Nat → Bool} {held : Bool} {fuel : Nat} {t : TypeId} {cs : List Value} {x : DataW H × List MemPlace} {ms : Array (String × TypeId)} (ht : P.underlying t = some (.interface ms))
    (h : DataW.trod enc P w base sp held fuel t cs = some x) : cs ≠ [] := by
  intro hcs
  subst hcs
  cases fuel with
  | zero => simp [DataW.trod] at h
  | succ n =>
    unfold DataW.trod at h
    rw [ht] at h
    simp at h

theorem spot_none {w : World} {a : Addr} {v : Value} (h : w.cell? a = some v) : a.spot = none := by
  unfold World.cell? at h
  split at h
  · cases hs : a.spot with
    | none => rfl
    | some x => rw [hs] at h; simp at h
  · cases h

/-- A listed variable, at its number and its type. -/
theorem var_at {W : World} {n : String} {d : DataW Unit} (g : Nat) (t : TypeId) (hg : Tryz.prog.globalNamed n = some g) (ht : (Tryz.prog.globals[g]?).map (·.type) = some t) (h : Lib.VarReads Tryz.prog W n d) :
    ∃ (cs : Array Value) (fuel : Nat) (p : List MemPlace), (∀ i, W.cell? ⟨g, i, none⟩ = cs[i]?) ∧ DataW.trod (fun _ => ()) Tryz.prog W 0 (fun _ => true) false fuel t cs.toList = some (d, p) := by
  obtain ⟨g', t', cs, fuel, p, h1, h2, h3, h4⟩ := h
  obtain rfl := Option.some.inj (hg.symm.trans h1)
  obtain rfl := Option.some.inj (ht.symm.trans h2)
  exact ⟨cs, fuel, p, fun i => World.var?_cell h1 h3 i, h4⟩

theorem opt_of {W : World} (h : Lib.VarReads Tryz.prog W "internal/strconv.optimize" Rows.laid_internal_strconv_optimize) : W.cell? ⟨18, 0, none⟩ = some (.bool true) := by
  obtain ⟨cs, fuel, p, hc, hr⟩ := var_at 18 4 (by kernel_rfl) (by kernel_rfl) h
  obtain ⟨b, e1, e2⟩ := DataW.trod_bool Tryz.underlying4 hr
  have e3 : b = true := by
    have := (Prod.mk.inj e2).1
    simpa [Rows.laid_internal_strconv_optimize] using this.symm
  subst e3
  rw [hc 0, Array.eq_one_of_toList e1]
  rfl

theorem info_of {W : World} (h : Lib.VarReads Tryz.prog W "internal/strconv.float64info" Rows.laid_internal_strconv_float64info) : W.cell? ⟨19, 0, none⟩ = some (.int .u64 52) := by
  obtain ⟨cs, fuel, p, hc, hr⟩ := var_at 19 207 (by kernel_rfl) (by kernel_rfl) h
  obtain ⟨xs, n, rfl, hx, hl, hxl, hel⟩ := DataW.trod_struct Tryz.underlying207 hr
  have h0 : DataW.trod (fun _ => ()) Tryz.prog W 0 (fun _ => true) false n 98 ((cs.toList.drop 0).take (Tryz.prog.cellsOf 98)) = xs[0]? := hel 0 _ rfl
  have c98 : Tryz.prog.cellsOf 98 = 1 := by kernel_rfl
  have u98 : Tryz.prog.underlying 98 = some (.int .u64) := by kernel_rfl
  rw [c98, List.getElem?_eq_getElem (by rw [hxl]; decide)] at h0
  obtain ⟨z, e1, e2, _⟩ := DataW.trod_int u98 h0
  have e3 : (xs.map (·.1))[0]? = some (.lit (.int .u64 52)) := by
    have := (Prod.mk.inj hx).1
    unfold Rows.laid_internal_strconv_float64info at this
    rw [← DataW.agg.inj this]
    rfl
  rw [List.getElem?_map, List.getElem?_eq_getElem (by rw [hxl]; decide), e2] at e3
  have hz : z = 52 := by simpa using e3
  subst hz
  rw [hc 0]
  have : cs.toList[0]? = some (.int .u64 52) := by
    have h0 : ((cs.toList.drop 0).take 1)[0]? = some (.int .u64 52) := by rw [e1]; rfl
    simpa using h0
  simpa using this

theorem asc_of {W : World} (h : Lib.VarReads Tryz.prog W "strings.asciiSpace" Rows.laid_strings_asciiSpace) : Asc W := by
  obtain ⟨cs, fuel, p, hc, hr⟩ := var_at 0 113 (by kernel_rfl) (by kernel_rfl) h
  obtain ⟨xs, m, _, ex, _, hl, hel⟩ := DataW.trod_array Tryz.underlying113 hr
  have c5 : Tryz.prog.cellsOf 5 = 1 := by kernel_rfl
  have key : ∀ (r : Nat), r < 128 → ∀ z0 : Int, (match Rows.laid_strings_asciiSpace with | .agg l => l[r]? | _ => none) = some (DataW.lit (.int .u8 z0) : DataW Unit) → W.cell? ⟨0, r, none⟩ = some (.int .u8 z0) := by
    intro r hr z0 hz0
    have hE := hel r (by omega)
    rw [c5, Nat.mul_one, List.getElem?_eq_getElem (by omega)] at hE
    obtain ⟨z, e1, e2, _⟩ := DataW.trod_int Tryz.underlying5 hE
    have e3 := (Prod.mk.inj ex).1
    rw [e3] at hz0
    simp only [List.getElem?_map, List.getElem?_eq_getElem (show r < xs.length by omega), e2, Option.map_some, Option.some.injEq, DataW.lit.injEq, Lit.int.injEq, true_and] at hz0
    subst hz0
    rw [hc r]
    have : cs.toList[r]? = some (.int .u8 z) := by
      have h0 : ((cs.toList.drop r).take 1)[0]? = some (.int .u8 z) := by rw [e1]; rfl
      simpa using h0
    simpa using this
  have all : ((List.range 128).all fun c => decide (c < 33) || (match (match (Rows.laid_strings_asciiSpace : DataW Unit) with | .agg l => l[c]? | _ => none) with | some (.lit (.int .u8 z)) => z == 0 | _ => false)) = true := by kernel_rfl
  refine ⟨fun c h1 h2 => ?_, key 32 (by omega) 1 (by kernel_rfl)⟩
  have hh := List.all_eq_true.1 all c (List.mem_range.2 h2)
  simp only [Bool.or_eq_true, decide_eq_true_eq] at hh
  rcases hh with hh | hh
  · omega
  · split at hh
    · rename_i z hz
      have : z = 0 := by simpa using hh
      subst this
      exact key c h2 0 hz
    · cases hh

theorem err_of {W : World} (h : Lib.VarReads Tryz.prog W "encoding/hex.ErrLength" Rows.laid_encoding_hex_ErrLength) : ∃ ev, W.cell? ⟨20, 0, none⟩ = some ev := by
  obtain ⟨cs, fuel, p, hc, hr⟩ := var_at 20 62 (by kernel_rfl) (by kernel_rfl) h
  cases hz : cs[0]? with
  | some v => exact ⟨v, (hc 0).trans hz⟩
  | none =>
    have hs : cs.size = 0 := by
      have := Array.getElem?_eq_none_iff.1 hz
      omega
    have h0 : cs.toList = [] := List.eq_nil_of_length_eq_zero hs
    rw [h0] at hr
    exact (trod_iface_some Tryz.underlying62 hr rfl).elim

theorem pow_of {W : World} (h : Lib.VarReads Tryz.prog W "internal/strconv.float64pow10" Rows.laid_internal_strconv_float64pow10) :
    ∃ b o : Nat, W.cell? ⟨23, 0, none⟩ = some (.slice (some ⟨b, o, none⟩) 23 23) ∧ b < W.heap.size ∧
    W.cell? ⟨b, o + 1, none⟩ = some (.float .f64 4621819117588971520) ∧ W.cell? ⟨b, o + 2, none⟩ = some (.float .f64 4636737291354636288) := by
  obtain ⟨cs, fuel, p, hc, hr⟩ := var_at 23 246 (by kernel_rfl) (by kernel_rfl) h
  have h23 : (match (Rows.laid_internal_strconv_float64pow10 : DataW Unit) with | .slice l r => (l.length, r.length, l[1]?.isSome, l[2]?.isSome) | _ => (0, 0, false, false)) = (23, 0, true, true) := by kernel_rfl
  have g0 : (match (Rows.laid_internal_strconv_float64pow10 : DataW Unit) with | .slice l _ => l[0]? | _ => none) = some (.lit (.float .f64 4607182418800017408)) := by kernel_rfl
  have g1 : (match (Rows.laid_internal_strconv_float64pow10 : DataW Unit) with | .slice l _ => l[1]? | _ => none) = some (.lit (.float .f64 4621819117588971520)) := by kernel_rfl
  have g2 : (match (Rows.laid_internal_strconv_float64pow10 : DataW Unit) with | .slice l _ => l[2]? | _ => none) = some (.lit (.float .f64 4636737291354636288)) := by kernel_rfl
  have c24 : Tryz.prog.cellsOf 24 = 1 := by kernel_rfl
  rcases DataW.trod_slice Tryz.underlying246 hr with ⟨_, e⟩ | ⟨a, len, cap, elems, rest, n, rfl, ecs, ex, _, hlc, _, hel, hat, hsp, _⟩
  · have := (Prod.mk.inj e).1
    rw [this] at h23
    cases h23
  · have e3 := (Prod.mk.inj ex).1
    rw [e3] at h23 g0 g1 g2
    simp only [List.length_map, Prod.mk.injEq] at h23
    obtain ⟨hl, hrest, _⟩ := h23
    have hcap := (hsp rfl).1
    have hl23 : len = 23 := by omega
    have hc23 : cap = 23 := by omega
    subst hl23 hc23
    have elt : ∀ (i : Nat) (bits : Nat), i < 23 → (elems.map (·.1))[i]? = some (DataW.lit (.float .f64 bits) : DataW Unit) → W.cell? (a.add i) = some (.float .f64 bits) := by
      intro i bits hi he
      have hE := hat i hi
      rw [c24, Nat.mul_one, List.getElem?_eq_getElem (by omega)] at hE
      obtain ⟨ys, hy1, hy2⟩ := Option.bind_eq_some_iff.1 hE
      obtain ⟨z, e1, e2⟩ := trod_float Tryz.underlying24 hy2
      rw [List.getElem?_map, List.getElem?_eq_getElem (by omega), e2] at he
      have hz : z = bits := by simpa using he
      subst hz
      subst e1
      exact cell_of_cells?_one hy1
    have a1 := elt 1 _ (by omega) g1
    have a2 := elt 2 _ (by omega) g2
    have a0 := elt 0 _ (by omega) g0
    have hsp0 : a.spot = none := spot_none (a := a.add 0) a0
    obtain ⟨ab, ao, asp⟩ := a
    have hsp1 : asp = none := hsp0
    subst hsp1
    refine ⟨ab, ao, ?_, World.block_lt_of_cell? W _ a1, a1, a2⟩
    rw [hc 0, Array.eq_one_of_toList ecs]
    rfl
end Go.Proofs.YtcmeaogbfecjkaaGreatDoor
