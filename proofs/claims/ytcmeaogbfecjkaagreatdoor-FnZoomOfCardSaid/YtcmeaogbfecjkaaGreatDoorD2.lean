/- laws.FnShortened: what ZoomOf says of a name's beginning. -/
import Derived.Test.YtcmeaogbfecjkaaGreatDoorD1
namespace Go.Proofs.YtcmeaogbfecjkaaGreatDoor
open Go.RowKit

/-- What ZoomOf answers for 'name:n' in points, by the name. -/
def zname (j : Nat) (q : Nat) : Value := .agg #[.float .f64 (if j = 0 then q else 0), .float .f64 (if j = 1 then q else 0), .float .f64 (if j = 2 then q else 0), .bool false, .slice none 0 0]

theorem ne_zero_bits (n : Int) (h0 : n ≠ 0) (h1 : -400 ≤ n) (h2 : n ≤ 400) : (FloatKind.f64.format.order (qf n) 0 != some .eq) = true := by
  have := (num_ok n h0 h1 h2 ⟨(qtrI n).toArray⟩ rfl).ne0
  show (!(Ieee.double.order (qf n) 0 == some .eq)) = true
  rw [this]; rfl
theorem zero_bits : (FloatKind.f64.format.order 0 0 != some .eq) = false := by decide +kernel

set_option maxHeartbeats 800000 in
theorem short_ok (G j : Nat) (hj : j < 3) (p : List UInt8) (hp : Nm j p) (n : Nat) (h1 : 5 ≤ n) (h2 : n ≤ 400) (w : World) (hV : VarsZ G w) :
    Calls Tryz.prog 6 #[bs (p ++ 58 :: qtrI n), .int .i64 0] w fun e w' => e = .returned (.tuple #[zname j (qf n), .bool true]) ∧ Kp w.heap.size w w' := by
  have hq : qtrI (n : Int) = qtrL n := by unfold qtrI; rw [if_neg (by omega), Int.toNat_natCast]
  have hd := qtrI_digs (n : Int)
  have hne := qtrI_ne (n : Int)
  have hlen := qtrI_len (n : Int) (by omega) (by omega)
  have hG := hV.sz
  have h44 : (44 : UInt8) ∉ p ++ 58 :: qtrI (n : Int) := by
    have h1 := hp.no44
    have h2 := digs_no _ hd 44 (by decide)
    simp [h1, h2]
  have hnz := ne_zero_bits n (by omega) (by omega) (by omega)
  have hpl := hp.len
  have hjoin : joinC 44 [p ++ 58 :: qtrI (n : Int)] = p ++ 58 :: qtrI (n : Int) := rfl
  have key : ∀ (F H V : Nat), (j = 0 ∧ F = qf n ∧ H = 0 ∧ V = 0) ∨ (j = 1 ∧ F = 0 ∧ H = qf n ∧ V = 0) ∨ (j = 2 ∧ F = 0 ∧ H = 0 ∧ V = qf n) →
      Calls Tryz.prog 6 #[bs (p ++ 58 :: qtrI n), .int .i64 0] w fun e w' => e = .returned (.tuple #[.agg #[.float .f64 F, .float .f64 H, .float .f64 V, .bool false, .slice none 0 0], .bool true]) ∧ Kp w.heap.size w w' := by
    intro F H V hc
    refine zoomOf_ok ⟨(p ++ 58 :: qtrI (n : Int)).toArray⟩ 0 (fun Z w' => ZAt w' Z F H V 0 false (.pointer none)) ?_ w F H V false (fun Z w h => h) ?_
    · intro Z w1 w2 hz hk
      unfold ZAt at *
      rw [hk Z (Nat.le_refl _) (Array.getElem?_eq_some_iff.1 hz).1]
      exact hz
    · intro w1 hk1
      have hV1 : VarsZ G w1 := hV.kp (hk1.mono hG)
      have hitem : Item G (ZIs 0 0 0 0 false (.pointer none)) (ZIs F H V 0 false (.pointer none)) (p ++ 58 :: qtrI (n : Int)) := by
        refine item_of G j _ _ p (qtrI (n : Int)) hp hd hne (by omega) ?_
        intro w Z m hV hGZ hz hm
        rcases hc with ⟨rfl, rfl, rfl, rfl⟩ | ⟨rfl, rfl, rfl, rfl⟩ | ⟨rfl, rfl, rfl, rfl⟩
        · rw [hq]
          exact handle_factor p hp n (by omega) h2 (by omega) w Z m hV.v hm 0 0 0 0 false _ hz
        · exact handle_hm p hp n (by omega) (by omega) (by omega) w Z m hV.v hm 0 0 (by omega) false _ hz
        · exact handle_vm p hp n (by omega) (by omega) (by omega) w Z m hV.v hm 0 0 (by omega) false _ hz
      have := parseZoom_any G [p ++ 58 :: qtrI (n : Int)] (by simp) (by simpa using h44) (by rw [hjoin]; simp; omega) (by simp) (by rw [hjoin]; simp) 0
        (fun i => if i = 0 then ZIs 0 0 0 0 false (.pointer none) else ZIs F H V 0 false (.pointer none)) (fun w Z h => h)
        (fun i => by by_cases h : i = 0 <;> simp only [h, if_true, if_false] <;> exact ZIs.stable _ _ _ _ _ _)
        (fun i hi => by
          have : i = 0 := by simpa using hi
          subst this
          exact hitem)
        (fun Z w h => ⟨F, H, V, false, .pointer none, h, by
          rcases hc with ⟨rfl, rfl, rfl, rfl⟩ | ⟨rfl, rfl, rfl, rfl⟩ | ⟨rfl, rfl, rfl, rfl⟩
          · exact .inr ⟨hnz, zero_bits, zero_bits⟩
          · exact .inl zero_bits
          · exact .inl zero_bits⟩) w1 hV1
      refine this.mono ?_
      rintro e w' ⟨Z, he, hz, hP, hK, _⟩
      exact ⟨Z, he, hz, hP, hK⟩
  unfold zname
  rcases (by omega : j = 0 ∨ j = 1 ∨ j = 2) with rfl | rfl | rfl
  · exact key (qf n) 0 0 (by simp)
  · exact key 0 (qf n) 0 (by simp)
  · exact key 0 0 (qf n) (by simp)

theorem short_bad (G : Nat) (p : List UInt8) (hp : Nm 5 p) (n : Nat) (h2 : n ≤ 400) (w : World) (hV : VarsZ G w) :
    Calls Tryz.prog 6 #[bs (p ++ 58 :: qtrI n), .int .i64 0] w fun e w' => e = .returned (.tuple #[.agg #[.float .f64 0, .float .f64 0, .float .f64 0, .bool false, .slice none 0 0], .bool false]) ∧ Kp w.heap.size w w' := by
  have hd := qtrI_digs (n : Int)
  have hne := qtrI_ne (n : Int)
  have hlen := qtrI_len (n : Int) (by omega) (by omega)
  have hpl := hp.len
  have h44 : (44 : UInt8) ∉ p ++ 58 :: qtrI (n : Int) := by
    have h1 := hp.no44
    have h2 := digs_no _ hd 44 (by decide)
    simp [h1, h2]
  refine zoomOf_bad ⟨(p ++ 58 :: qtrI (n : Int)).toArray⟩ 0 w fun w1 hk1 => ?_
  exact parseZoom_bad G p (qtrI (n : Int)) p (qtrI (n : Int)) h44 (by simp; omega) hp.no58 (digs_no _ hd 58 (by decide)) (trim_list p hp.ne (by omega) hp.vis) (trim_list _ hne (by omega) (digs_vis _ hd)) hp.ne hne 0
    (fun w z m hm => handle_x p hp _ w z m hm) w1 (hV.kp (hk1.mono hV.sz))

def upL (l : List UInt8) : List UInt8 := l.map fun b => b - 32
/-- The three names, by number. -/
def nameL (j : Nat) : List UInt8 := [[102, 97, 99, 116, 111, 114], [104, 109, 97, 114, 103, 105, 110], [118, 109, 97, 114, 103, 105, 110]].getD j []
theorem names_ok : ((List.range 3).all fun j => nmOk j (nameL j) && (List.range (nameL j).length).all fun k => nmOk j ((nameL j).take (k + 1)) && nmOk j (upL ((nameL j).take (k + 1))) && nmOk 5 (120 :: (nameL j).take (k + 1)) && nmOk 5 (120 :: upL ((nameL j).take (k + 1)))) = true := by decide +kernel

theorem names_at (j k : Nat) (hj : j < 3) (h0 : 1 ≤ k) (h1 : k ≤ (nameL j).length) : Nm j (nameL j) ∧ Nm j ((nameL j).take k) ∧ Nm j (upL ((nameL j).take k)) ∧ Nm 5 (120 :: (nameL j).take k) ∧ Nm 5 (120 :: upL ((nameL j).take k)) := by
  have h := List.all_eq_true.1 names_ok j (List.mem_range.2 hj)
  obtain ⟨k, rfl⟩ : ∃ m, k = m + 1 := ⟨k - 1, by omega⟩
  rw [Bool.and_eq_true] at h
  have h2 := List.all_eq_true.1 h.2 k (List.mem_range.2 (by omega))
  simp only [Bool.and_eq_true] at h2
  exact ⟨nm_of h.1, nm_of h2.1.1.1, nm_of h2.1.1.2, nm_of h2.1.2, nm_of h2.2⟩
end Go.Proofs.YtcmeaogbfecjkaaGreatDoor
