/- laws.FnShortened answers true, whatever the input. -/
import Derived.Test.YtcmeaogbfecjkaaGreatDoorD3
namespace Go.Proofs.YtcmeaogbfecjkaaGreatDoor
open Go.RowKit

theorem names_row (j : Nat) (hj : j < 3) (w : World) : (w.alloc names3).cell? ⟨w.heap.size, j, none⟩ = some (.string ⟨(nameL j).toArray⟩) := by
  rcases (by omega : j = 0 ∨ j = 1 ∨ j = 2) with rfl | rfl | rfl <;> simp <;> rfl

theorem name_low (j : Nat) (hj : j < 3) : (nameL j).all (fun b => decide (97 ≤ b.toNat)) = true ∧ (nameL j).length ≤ 7 := by
  rcases (by omega : j = 0 ∨ j = 1 ∨ j = 2) with rfl | rfl | rfl <;> decide

theorem self_eq (n : Nat) (h1 : 1 ≤ n) (h2 : n ≤ 400) : (FloatKind.f64.format.order (qf n) (qf n) == some .eq) = true := by
  have h := okF_all n h1 h2
  unfold okF at h
  simp only [Bool.and_eq_true] at h
  exact h.2
theorem self_zero : (FloatKind.f64.format.order 0 0 == some .eq) = true := by decide +kernel

theorem shortened_in (G : Nat) (w : World) (hV : VarsZ G w) (j : Nat) (hj : j < 3) (L : Int) (hL1 : 1 ≤ L) (hL2 : L ≤ (nameL j).length) (n : Nat) (h1 : 5 ≤ n) (h2 : n ≤ 400) (cap : Bool) :
    Calls Tryz.prog 3 #[.int .i64 j, .int .i64 L, .int .i64 n, .bool cap] w fun e w' => e = .returned (.bool true) ∧ Kp w.heap.size w w' := by
  obtain ⟨na, nb, nc, nd, ne⟩ := names_at j L.toNat hj (by omega) (by omega)
  have hlow := name_low j hj
  have hpl : ((nameL j).take L.toNat).length ≤ 7 := by simp; omega
  have hup : (upL ((nameL j).take L.toNat)).length ≤ 7 := by unfold upL; simp; omega
  refine shortened_plain j hj ⟨(nameL j).toArray⟩ (if cap then ⟨(upL ((nameL j).take L.toNat)).toArray⟩ else ⟨((nameL j).take L.toNat).toArray⟩) (names_row j hj) L n h1 h2 hL1 (by rw [bs_size]; exact hL2) (by rw [bs_size]; exact hlow.2)
    ((nameL j).take L.toNat) ?_ ?_ hpl cap rfl ?_ G w hV (if j = 0 then qf n else 0) (if j = 1 then qf n else 0) (if j = 2 then qf n else 0) ?_ ?_ ?_ ?_
  · have := cut_front ⟨(nameL j).toArray⟩ ((nameL j).take L.toNat) ((nameL j).drop L.toNat) (by simp)
    rw [List.length_take, Nat.min_eq_left (by omega)] at this
    exact this
  · intro k hk
    have := List.all_eq_true.1 hlow.1 ((nameL j).take L.toNat)[k] (List.mem_of_mem_take (List.getElem_mem hk))
    simpa using this
  · cases cap
    · exact hpl
    · exact hup
  · split
    · exact self_eq n (by omega) h2
    · exact self_zero
  · split
    · exact self_eq n (by omega) h2
    · exact self_zero
  · split
    · exact self_eq n (by omega) h2
    · exact self_zero
  · have hz : ∀ l m : List UInt8, (⟨l.toArray⟩ ++ ⟨#[58]⟩ ++ ⟨m.toArray⟩ : ByteArray) = ⟨(l ++ 58 :: m).toArray⟩ := fun l m => by
      have := bs_append l [58]
      have h2 := bs_append (l ++ [58]) m
      rw [show (⟨#[58]⟩ : ByteArray) = ⟨([58] : List UInt8).toArray⟩ from rfl, this, h2]
      simp
    have hx : ∀ l : List UInt8, (⟨#[120]⟩ ++ ⟨l.toArray⟩ : ByteArray) = ⟨(120 :: l).toArray⟩ := fun l => bs_append [120] l
    refine ⟨?_, ?_, ?_⟩
    · intro w hw
      rw [hz]
      exact short_ok G j hj _ na n h1 h2 w hw
    · intro w hw
      cases cap
      · simp only [Bool.false_eq_true, if_false, hz]
        exact short_ok G j hj _ nb n h1 h2 w hw
      · simp only [if_true, hz]
        exact short_ok G j hj _ nc n h1 h2 w hw
    · intro w hw
      cases cap
      · simp only [Bool.false_eq_true, if_false, hx, hz]
        exact short_bad G _ nd n h2 w hw
      · simp only [if_true, hx, hz]
        exact short_bad G _ ne n h2 w hw

set_option maxRecDepth 100000 in
set_option maxHeartbeats 800000 in
theorem shortened_out (i L n : Int) (cap : Bool) (w : World) (h : i < 0 ∨ 2 < i) :
    Calls Tryz.prog 3 #[.int .i64 i, .int .i64 L, .int .i64 n, .bool cap] w fun e w' => e = .returned (.bool true) ∧ Kp w.heap.size w w' := by
  go_enter Tryz.func3, Tryz.ntmps3
  rcases h with h | h
  · go_wp2_with fail
    go_ret
    exact ⟨rfl, (Kp.refl _ w).alloc (Nat.le_refl _) _⟩
  · go_wp2_with fail
    go_ret
    exact ⟨rfl, (Kp.refl _ w).alloc (Nat.le_refl _) _⟩

set_option maxRecDepth 100000 in
set_option maxHeartbeats 800000 in
theorem shortened_bad (j : Nat) (hj : j < 3) (full : ByteArray) (hfull : ∀ w : World, (w.alloc names3).cell? ⟨w.heap.size, j, none⟩ = some (.string full)) (L n : Int) (cap : Bool) (w : World) (h : L < 1 ∨ (full.size : Int) < L ∨ n < 5 ∨ 400 < n) (_hfs : full.size ≤ 7) :
    Calls Tryz.prog 3 #[.int .i64 j, .int .i64 L, .int .i64 n, .bool cap] w fun e w' => e = .returned (.bool true) ∧ Kp w.heap.size w w' := by
  have hfull0 := hfull w
  clear hfull
  by_cases a1 : L < 1
  · clear h
    go_enter Tryz.func3, Tryz.ntmps3
    go_wp2_with fail
    go_ret
    exact ⟨rfl, (Kp.refl _ w).alloc (Nat.le_refl _) _⟩
  · by_cases a2 : (full.size : Int) < L
    · clear h
      go_enter Tryz.func3, Tryz.ntmps3
      go_wp2_with fail
      go_ret
      exact ⟨rfl, (Kp.refl _ w).alloc (Nat.le_refl _) _⟩
    · by_cases a3 : n < 5
      · clear h
        go_enter Tryz.func3, Tryz.ntmps3
        go_wp2_with fail
        go_ret
        exact ⟨rfl, (Kp.refl _ w).alloc (Nat.le_refl _) _⟩
      · have a4 : 400 < n := by omega
        clear h
        go_enter Tryz.func3, Tryz.ntmps3
        go_wp2_with fail
        go_ret
        exact ⟨rfl, (Kp.refl _ w).alloc (Nat.le_refl _) _⟩

/-- WHATEVER THE INPUT. -/
theorem shortened_any (G : Nat) (w : World) (hV : VarsZ G w) (i L n : Int) (cap : Bool) :
    Calls Tryz.prog 3 #[.int .i64 i, .int .i64 L, .int .i64 n, .bool cap] w fun e w' => e = .returned (.bool true) ∧ Kp w.heap.size w w' := by
  by_cases hi : i < 0 ∨ 2 < i
  · exact shortened_out i L n cap w hi
  · obtain ⟨j, rfl⟩ := Int.eq_ofNat_of_zero_le (show 0 ≤ i by omega)
    have hj : j < 3 := by omega
    by_cases h : L < 1 ∨ ((nameL j).length : Int) < L ∨ n < 5 ∨ 400 < n
    · exact shortened_bad j hj ⟨(nameL j).toArray⟩ (names_row j hj) L n cap w (by rw [bs_size]; exact h) (by rw [bs_size]; exact (name_low j hj).2)
    · obtain ⟨k, rfl⟩ := Int.eq_ofNat_of_zero_le (show 0 ≤ n by omega)
      exact shortened_in G w hV j hj L (by omega) (by omega) k (by omega) (by omega) cap
end Go.Proofs.YtcmeaogbfecjkaaGreatDoor
