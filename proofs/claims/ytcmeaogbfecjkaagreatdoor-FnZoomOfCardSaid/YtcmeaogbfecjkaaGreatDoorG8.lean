/- laws.joined: settings as a text, of one to three settings, with blanks and without. -/
import Derived.Test.YtcmeaogbfecjkaaGreatDoorG7
namespace Go.Proofs.YtcmeaogbfecjkaaGreatDoor
open Go.RowKit

set_option maxRecDepth 100000 in
set_option maxHeartbeats 1600000 in
theorem joined_1f (s0 v0 : ByteArray) (g cap : Nat) (w : World) (a0 : w.cell? ⟨g, 0, none⟩ = some (.string s0)) (b0 : w.cell? ⟨g, 1, none⟩ = some (.string v0)) (hs0 : s0.size ≤ 20) (hv0 : v0.size ≤ 20) :
    Calls Tryz.prog 10 #[.slice (some ⟨g, 0, none⟩) 1 cap, .bool false] w fun e w' => e = .returned (.string (⟨#[]⟩ ++ (s0 ++ ⟨#[58]⟩) ++ v0)) ∧ Grew w w' := by
  have lt := World.block_lt_of_cell? w _ a0
  have lt0 : g < w.heap.size := lt
  clear lt
  have lt1 : ∀ o, g < (w.alloc o).heap.size := fun o => by simp; omega
  have lt2 : ∀ o o2, g < ((w.alloc o).alloc o2).heap.size := fun o o2 => by simp; omega
  have a10 : ∀ o, (w.alloc o).cell? ⟨g, 0, none⟩ = some (.string s0) := fun o => (World.cell?_alloc_lt w o _ lt0).trans a0
  have a20 : ∀ o o2, ((w.alloc o).alloc o2).cell? ⟨g, 0, none⟩ = some (.string s0) := fun o o2 => (World.cell?_alloc_lt _ o2 _ (lt1 o)).trans (a10 o)
  have b10 : ∀ o, (w.alloc o).cell? ⟨g, 1, none⟩ = some (.string v0) := fun o => (World.cell?_alloc_lt w o _ lt0).trans b0
  have b20 : ∀ o o2, ((w.alloc o).alloc o2).cell? ⟨g, 1, none⟩ = some (.string v0) := fun o o2 => (World.cell?_alloc_lt _ o2 _ (lt1 o)).trans (b10 o)
  clear lt0 lt1 lt2
  go_enter Tryz.func10, Tryz.ntmps10
  go_wp2_with fail
  refine wp_loop_rounds 2 ?_
  rw [rounds_succ]
  go_wp2_with fail
  rw [rounds_succ]
  go_wp2_with fail
  go_ret
  exact ⟨by simp, (Grew.refl w).alloc _⟩

set_option maxRecDepth 100000 in
set_option maxHeartbeats 1600000 in
theorem joined_1t (s0 v0 : ByteArray) (g cap : Nat) (w : World) (a0 : w.cell? ⟨g, 0, none⟩ = some (.string s0)) (b0 : w.cell? ⟨g, 1, none⟩ = some (.string v0)) (hs0 : s0.size ≤ 20) (hv0 : v0.size ≤ 20) :
    Calls Tryz.prog 10 #[.slice (some ⟨g, 0, none⟩) 1 cap, .bool true] w fun e w' => e = .returned (.string (⟨#[]⟩ ++ (s0 ++ ⟨#[58]⟩) ++ ⟨#[32]⟩ ++ v0)) ∧ Grew w w' := by
  have lt := World.block_lt_of_cell? w _ a0
  have lt0 : g < w.heap.size := lt
  clear lt
  have lt1 : ∀ o, g < (w.alloc o).heap.size := fun o => by simp; omega
  have lt2 : ∀ o o2, g < ((w.alloc o).alloc o2).heap.size := fun o o2 => by simp; omega
  have a10 : ∀ o, (w.alloc o).cell? ⟨g, 0, none⟩ = some (.string s0) := fun o => (World.cell?_alloc_lt w o _ lt0).trans a0
  have a20 : ∀ o o2, ((w.alloc o).alloc o2).cell? ⟨g, 0, none⟩ = some (.string s0) := fun o o2 => (World.cell?_alloc_lt _ o2 _ (lt1 o)).trans (a10 o)
  have b10 : ∀ o, (w.alloc o).cell? ⟨g, 1, none⟩ = some (.string v0) := fun o => (World.cell?_alloc_lt w o _ lt0).trans b0
  have b20 : ∀ o o2, ((w.alloc o).alloc o2).cell? ⟨g, 1, none⟩ = some (.string v0) := fun o o2 => (World.cell?_alloc_lt _ o2 _ (lt1 o)).trans (b10 o)
  clear lt0 lt1 lt2
  go_enter Tryz.func10, Tryz.ntmps10
  go_wp2_with fail
  refine wp_loop_rounds 2 ?_
  rw [rounds_succ]
  go_wp2_with fail
  rw [rounds_succ]
  go_wp2_with fail
  go_ret
  exact ⟨by simp, (Grew.refl w).alloc _⟩

set_option maxRecDepth 100000 in
set_option maxHeartbeats 1600000 in
theorem joined_2f (s0 v0 s1 v1 : ByteArray) (g cap : Nat) (w : World) (a0 : w.cell? ⟨g, 0, none⟩ = some (.string s0)) (b0 : w.cell? ⟨g, 1, none⟩ = some (.string v0)) (hs0 : s0.size ≤ 20) (hv0 : v0.size ≤ 20) (a1 : w.cell? ⟨g, 2, none⟩ = some (.string s1)) (b1 : w.cell? ⟨g, 3, none⟩ = some (.string v1)) (hs1 : s1.size ≤ 20) (hv1 : v1.size ≤ 20) :
    Calls Tryz.prog 10 #[.slice (some ⟨g, 0, none⟩) 2 cap, .bool false] w fun e w' => e = .returned (.string (⟨#[]⟩ ++ (s0 ++ ⟨#[58]⟩) ++ v0 ++ ⟨#[44]⟩ ++ (s1 ++ ⟨#[58]⟩) ++ v1)) ∧ Grew w w' := by
  have lt := World.block_lt_of_cell? w _ a0
  have lt0 : g < w.heap.size := lt
  clear lt
  have lt1 : ∀ o, g < (w.alloc o).heap.size := fun o => by simp; omega
  have lt2 : ∀ o o2, g < ((w.alloc o).alloc o2).heap.size := fun o o2 => by simp; omega
  have a10 : ∀ o, (w.alloc o).cell? ⟨g, 0, none⟩ = some (.string s0) := fun o => (World.cell?_alloc_lt w o _ lt0).trans a0
  have a20 : ∀ o o2, ((w.alloc o).alloc o2).cell? ⟨g, 0, none⟩ = some (.string s0) := fun o o2 => (World.cell?_alloc_lt _ o2 _ (lt1 o)).trans (a10 o)
  have b10 : ∀ o, (w.alloc o).cell? ⟨g, 1, none⟩ = some (.string v0) := fun o => (World.cell?_alloc_lt w o _ lt0).trans b0
  have b20 : ∀ o o2, ((w.alloc o).alloc o2).cell? ⟨g, 1, none⟩ = some (.string v0) := fun o o2 => (World.cell?_alloc_lt _ o2 _ (lt1 o)).trans (b10 o)
  have a11 : ∀ o, (w.alloc o).cell? ⟨g, 2, none⟩ = some (.string s1) := fun o => (World.cell?_alloc_lt w o _ lt0).trans a1
  have a21 : ∀ o o2, ((w.alloc o).alloc o2).cell? ⟨g, 2, none⟩ = some (.string s1) := fun o o2 => (World.cell?_alloc_lt _ o2 _ (lt1 o)).trans (a11 o)
  have b11 : ∀ o, (w.alloc o).cell? ⟨g, 3, none⟩ = some (.string v1) := fun o => (World.cell?_alloc_lt w o _ lt0).trans b1
  have b21 : ∀ o o2, ((w.alloc o).alloc o2).cell? ⟨g, 3, none⟩ = some (.string v1) := fun o o2 => (World.cell?_alloc_lt _ o2 _ (lt1 o)).trans (b11 o)
  clear lt0 lt1 lt2
  go_enter Tryz.func10, Tryz.ntmps10
  go_wp2_with fail
  refine wp_loop_rounds 3 ?_
  rw [rounds_succ]
  go_wp2_with fail
  rw [rounds_succ]
  go_wp2_with fail
  rw [rounds_succ]
  go_wp2_with fail
  go_ret
  exact ⟨by simp, ((Grew.refl w).alloc _).alloc _⟩

set_option maxRecDepth 100000 in
set_option maxHeartbeats 1600000 in
theorem joined_2t (s0 v0 s1 v1 : ByteArray) (g cap : Nat) (w : World) (a0 : w.cell? ⟨g, 0, none⟩ = some (.string s0)) (b0 : w.cell? ⟨g, 1, none⟩ = some (.string v0)) (hs0 : s0.size ≤ 20) (hv0 : v0.size ≤ 20) (a1 : w.cell? ⟨g, 2, none⟩ = some (.string s1)) (b1 : w.cell? ⟨g, 3, none⟩ = some (.string v1)) (hs1 : s1.size ≤ 20) (hv1 : v1.size ≤ 20) :
    Calls Tryz.prog 10 #[.slice (some ⟨g, 0, none⟩) 2 cap, .bool true] w fun e w' => e = .returned (.string (⟨#[]⟩ ++ (s0 ++ ⟨#[58]⟩) ++ ⟨#[32]⟩ ++ v0 ++ ⟨#[44]⟩ ++ ⟨#[32]⟩ ++ (s1 ++ ⟨#[58]⟩) ++ ⟨#[32]⟩ ++ v1)) ∧ Grew w w' := by
  have lt := World.block_lt_of_cell? w _ a0
  have lt0 : g < w.heap.size := lt
  clear lt
  have lt1 : ∀ o, g < (w.alloc o).heap.size := fun o => by simp; omega
  have lt2 : ∀ o o2, g < ((w.alloc o).alloc o2).heap.size := fun o o2 => by simp; omega
  have a10 : ∀ o, (w.alloc o).cell? ⟨g, 0, none⟩ = some (.string s0) := fun o => (World.cell?_alloc_lt w o _ lt0).trans a0
  have a20 : ∀ o o2, ((w.alloc o).alloc o2).cell? ⟨g, 0, none⟩ = some (.string s0) := fun o o2 => (World.cell?_alloc_lt _ o2 _ (lt1 o)).trans (a10 o)
  have b10 : ∀ o, (w.alloc o).cell? ⟨g, 1, none⟩ = some (.string v0) := fun o => (World.cell?_alloc_lt w o _ lt0).trans b0
  have b20 : ∀ o o2, ((w.alloc o).alloc o2).cell? ⟨g, 1, none⟩ = some (.string v0) := fun o o2 => (World.cell?_alloc_lt _ o2 _ (lt1 o)).trans (b10 o)
  have a11 : ∀ o, (w.alloc o).cell? ⟨g, 2, none⟩ = some (.string s1) := fun o => (World.cell?_alloc_lt w o _ lt0).trans a1
  have a21 : ∀ o o2, ((w.alloc o).alloc o2).cell? ⟨g, 2, none⟩ = some (.string s1) := fun o o2 => (World.cell?_alloc_lt _ o2 _ (lt1 o)).trans (a11 o)
  have b11 : ∀ o, (w.alloc o).cell? ⟨g, 3, none⟩ = some (.string v1) := fun o => (World.cell?_alloc_lt w o _ lt0).trans b1
  have b21 : ∀ o o2, ((w.alloc o).alloc o2).cell? ⟨g, 3, none⟩ = some (.string v1) := fun o o2 => (World.cell?_alloc_lt _ o2 _ (lt1 o)).trans (b11 o)
  clear lt0 lt1 lt2
  go_enter Tryz.func10, Tryz.ntmps10
  go_wp2_with fail
  refine wp_loop_rounds 3 ?_
  rw [rounds_succ]
  go_wp2_with fail
  rw [rounds_succ]
  go_wp2_with fail
  rw [rounds_succ]
  go_wp2_with fail
  go_ret
  exact ⟨by simp, ((Grew.refl w).alloc _).alloc _⟩

set_option maxRecDepth 100000 in
set_option maxHeartbeats 1600000 in
theorem joined_3f (s0 v0 s1 v1 s2 v2 : ByteArray) (g cap : Nat) (w : World) (a0 : w.cell? ⟨g, 0, none⟩ = some (.string s0)) (b0 : w.cell? ⟨g, 1, none⟩ = some (.string v0)) (hs0 : s0.size ≤ 20) (hv0 : v0.size ≤ 20) (a1 : w.cell? ⟨g, 2, none⟩ = some (.string s1)) (b1 : w.cell? ⟨g, 3, none⟩ = some (.string v1)) (hs1 : s1.size ≤ 20) (hv1 : v1.size ≤ 20) (a2 : w.cell? ⟨g, 4, none⟩ = some (.string s2)) (b2 : w.cell? ⟨g, 5, none⟩ = some (.string v2)) (hs2 : s2.size ≤ 20) (hv2 : v2.size ≤ 20) :
    Calls Tryz.prog 10 #[.slice (some ⟨g, 0, none⟩) 3 cap, .bool false] w fun e w' => e = .returned (.string (⟨#[]⟩ ++ (s0 ++ ⟨#[58]⟩) ++ v0 ++ ⟨#[44]⟩ ++ (s1 ++ ⟨#[58]⟩) ++ v1 ++ ⟨#[44]⟩ ++ (s2 ++ ⟨#[58]⟩) ++ v2)) ∧ Grew w w' := by
  have lt := World.block_lt_of_cell? w _ a0
  have lt0 : g < w.heap.size := lt
  clear lt
  have lt1 : ∀ o, g < (w.alloc o).heap.size := fun o => by simp; omega
  have lt2 : ∀ o o2, g < ((w.alloc o).alloc o2).heap.size := fun o o2 => by simp; omega
  have a10 : ∀ o, (w.alloc o).cell? ⟨g, 0, none⟩ = some (.string s0) := fun o => (World.cell?_alloc_lt w o _ lt0).trans a0
  have a20 : ∀ o o2, ((w.alloc o).alloc o2).cell? ⟨g, 0, none⟩ = some (.string s0) := fun o o2 => (World.cell?_alloc_lt _ o2 _ (lt1 o)).trans (a10 o)
  have b10 : ∀ o, (w.alloc o).cell? ⟨g, 1, none⟩ = some (.string v0) := fun o => (World.cell?_alloc_lt w o _ lt0).trans b0
  have b20 : ∀ o o2, ((w.alloc o).alloc o2).cell? ⟨g, 1, none⟩ = some (.string v0) := fun o o2 => (World.cell?_alloc_lt _ o2 _ (lt1 o)).trans (b10 o)
  have a11 : ∀ o, (w.alloc o).cell? ⟨g, 2, none⟩ = some (.string s1) := fun o => (World.cell?_alloc_lt w o _ lt0).trans a1
  have a21 : ∀ o o2, ((w.alloc o).alloc o2).cell? ⟨g, 2, none⟩ = some (.string s1) := fun o o2 => (World.cell?_alloc_lt _ o2 _ (lt1 o)).trans (a11 o)
  have b11 : ∀ o, (w.alloc o).cell? ⟨g, 3, none⟩ = some (.string v1) := fun o => (World.cell?_alloc_lt w o _ lt0).trans b1
  have b21 : ∀ o o2, ((w.alloc o).alloc o2).cell? ⟨g, 3, none⟩ = some (.string v1) := fun o o2 => (World.cell?_alloc_lt _ o2 _ (lt1 o)).trans (b11 o)
  have a12 : ∀ o, (w.alloc o).cell? ⟨g, 4, none⟩ = some (.string s2) := fun o => (World.cell?_alloc_lt w o _ lt0).trans a2
  have a22 : ∀ o o2, ((w.alloc o).alloc o2).cell? ⟨g, 4, none⟩ = some (.string s2) := fun o o2 => (World.cell?_alloc_lt _ o2 _ (lt1 o)).trans (a12 o)
  have b12 : ∀ o, (w.alloc o).cell? ⟨g, 5, none⟩ = some (.string v2) := fun o => (World.cell?_alloc_lt w o _ lt0).trans b2
  have b22 : ∀ o o2, ((w.alloc o).alloc o2).cell? ⟨g, 5, none⟩ = some (.string v2) := fun o o2 => (World.cell?_alloc_lt _ o2 _ (lt1 o)).trans (b12 o)
  clear lt0 lt1 lt2
  go_enter Tryz.func10, Tryz.ntmps10
  go_wp2_with fail
  refine wp_loop_rounds 4 ?_
  rw [rounds_succ]
  go_wp2_with fail
  rw [rounds_succ]
  go_wp2_with fail
  rw [rounds_succ]
  go_wp2_with fail
  rw [rounds_succ]
  go_wp2_with fail
  go_ret
  exact ⟨by simp, (((Grew.refl w).alloc _).alloc _).alloc _⟩

set_option maxRecDepth 100000 in
set_option maxHeartbeats 1600000 in
theorem joined_3t (s0 v0 s1 v1 s2 v2 : ByteArray) (g cap : Nat) (w : World) (a0 : w.cell? ⟨g, 0, none⟩ = some (.string s0)) (b0 : w.cell? ⟨g, 1, none⟩ = some (.string v0)) (hs0 : s0.size ≤ 20) (hv0 : v0.size ≤ 20) (a1 : w.cell? ⟨g, 2, none⟩ = some (.string s1)) (b1 : w.cell? ⟨g, 3, none⟩ = some (.string v1)) (hs1 : s1.size ≤ 20) (hv1 : v1.size ≤ 20) (a2 : w.cell? ⟨g, 4, none⟩ = some (.string s2)) (b2 : w.cell? ⟨g, 5, none⟩ = some (.string v2)) (hs2 : s2.size ≤ 20) (hv2 : v2.size ≤ 20) :
    Calls Tryz.prog 10 #[.slice (some ⟨g, 0, none⟩) 3 cap, .bool true] w fun e w' => e = .returned (.string (⟨#[]⟩ ++ (s0 ++ ⟨#[58]⟩) ++ ⟨#[32]⟩ ++ v0 ++ ⟨#[44]⟩ ++ ⟨#[32]⟩ ++ (s1 ++ ⟨#[58]⟩) ++ ⟨#[32]⟩ ++ v1 ++ ⟨#[44]⟩ ++ ⟨#[32]⟩ ++ (s2 ++ ⟨#[58]⟩) ++ ⟨#[32]⟩ ++ v2)) ∧ Grew w w' := by
  have lt := World.block_lt_of_cell? w _ a0
  have lt0 : g < w.heap.size := lt
  clear lt
  have lt1 : ∀ o, g < (w.alloc o).heap.size := fun o => by simp; omega
  have lt2 : ∀ o o2, g < ((w.alloc o).alloc o2).heap.size := fun o o2 => by simp; omega
  have a10 : ∀ o, (w.alloc o).cell? ⟨g, 0, none⟩ = some (.string s0) := fun o => (World.cell?_alloc_lt w o _ lt0).trans a0
  have a20 : ∀ o o2, ((w.alloc o).alloc o2).cell? ⟨g, 0, none⟩ = some (.string s0) := fun o o2 => (World.cell?_alloc_lt _ o2 _ (lt1 o)).trans (a10 o)
  have b10 : ∀ o, (w.alloc o).cell? ⟨g, 1, none⟩ = some (.string v0) := fun o => (World.cell?_alloc_lt w o _ lt0).trans b0
  have b20 : ∀ o o2, ((w.alloc o).alloc o2).cell? ⟨g, 1, none⟩ = some (.string v0) := fun o o2 => (World.cell?_alloc_lt _ o2 _ (lt1 o)).trans (b10 o)
  have a11 : ∀ o, (w.alloc o).cell? ⟨g, 2, none⟩ = some (.string s1) := fun o => (World.cell?_alloc_lt w o _ lt0).trans a1
  have a21 : ∀ o o2, ((w.alloc o).alloc o2).cell? ⟨g, 2, none⟩ = some (.string s1) := fun o o2 => (World.cell?_alloc_lt _ o2 _ (lt1 o)).trans (a11 o)
  have b11 : ∀ o, (w.alloc o).cell? ⟨g, 3, none⟩ = some (.string v1) := fun o => (World.cell?_alloc_lt w o _ lt0).trans b1
  have b21 : ∀ o o2, ((w.alloc o).alloc o2).cell? ⟨g, 3, none⟩ = some (.string v1) := fun o o2 => (World.cell?_alloc_lt _ o2 _ (lt1 o)).trans (b11 o)
  have a12 : ∀ o, (w.alloc o).cell? ⟨g, 4, none⟩ = some (.string s2) := fun o => (World.cell?_alloc_lt w o _ lt0).trans a2
  have a22 : ∀ o o2, ((w.alloc o).alloc o2).cell? ⟨g, 4, none⟩ = some (.string s2) := fun o o2 => (World.cell?_alloc_lt _ o2 _ (lt1 o)).trans (a12 o)
  have b12 : ∀ o, (w.alloc o).cell? ⟨g, 5, none⟩ = some (.string v2) := fun o => (World.cell?_alloc_lt w o _ lt0).trans b2
  have b22 : ∀ o o2, ((w.alloc o).alloc o2).cell? ⟨g, 5, none⟩ = some (.string v2) := fun o o2 => (World.cell?_alloc_lt _ o2 _ (lt1 o)).trans (b12 o)
  clear lt0 lt1 lt2
  go_enter Tryz.func10, Tryz.ntmps10
  go_wp2_with fail
  refine wp_loop_rounds 4 ?_
  rw [rounds_succ]
  go_wp2_with fail
  rw [rounds_succ]
  go_wp2_with fail
  rw [rounds_succ]
  go_wp2_with fail
  rw [rounds_succ]
  go_wp2_with fail
  go_ret
  exact ⟨by simp, (((Grew.refl w).alloc _).alloc _).alloc _⟩

end Go.Proofs.YtcmeaogbfecjkaaGreatDoor
