/-
  THE WALK OF utf8.FullRune.
-/
import Derived.Test.Qxb6003900aDoorWalkA
import Derived.Lib.LaidU8
import Derived.RegionTactic
import Derived.Deep.RegionWith
import Derived.BigRegion
namespace Go.Proofs.Qxb6003900aDoor
open Go.RowKit Go.Lib

set_option maxRecDepth 100000 in
theorem and7 : ∀ X : Fin 256, bits .and .u8 ((X.val : Nat) : Int) 7 = ((X.val % 8 : Nat) : Int) := by decide

set_option maxHeartbeats 4000000 in
set_option maxRecDepth 100000 in
theorem full_yes0 (b o n c x f : Nat) (w : World) (h0 : 1 ≤ n) (hx : x < 256) (hf : f < 256) (hc0 : w.cell? ⟨b, o, none⟩ = some (.int .u8 (x : Int))) (ht : w.cell? ⟨0, x, none⟩ = some (.int .u8 (f : Int))) (hs : f % 8 ≤ n) (hbig : n ≤ 1048576) :
    Calls Tryd.prog 10 #[.slice (some ⟨b, o, none⟩) n c] w fun e w' => e = .returned (.bool true) ∧ w' = w := by
  obtain ⟨z, hz⟩ : ∃ z, z = f % 8 := ⟨_, rfl⟩
  have q7 : bits .and .u8 (f : Int) 7 = (z : Int) := by rw [hz]; exact and7 ⟨f, hf⟩
  have h0z : (0 : Int) < (n : Int) := by omega
  have hn0 : ((n : Int) == 0) = false := by rw [beq_eq_false_iff_ne]; omega
  have hsz : (z : Int) ≤ (n : Int) := by omega
  have hxz : (x : Int) < 256 := by omega
  clear hz hs
  go_enter Tryd.func10, Tryd.ntmps10
  go_wp2
  go_ret
  exact ⟨rfl, rfl⟩

set_option maxHeartbeats 4000000 in
set_option maxRecDepth 100000 in
theorem slow1 (b o c x f l h : Nat) (w : World) (hx : x < 256) (hf : f < 256) (hc0 : w.cell? ⟨b, o, none⟩ = some (.int .u8 (x : Int))) (ht : w.cell? ⟨0, x, none⟩ = some (.int .u8 (f : Int))) (hs : 1 < f % 8) (hi : f / 16 ≤ 4)
    (hl : w.cell? ⟨1, 2 * (f / 16), none⟩ = some (.int .u8 (l : Int))) (hh : w.cell? ⟨1, 2 * (f / 16) + 1, none⟩ = some (.int .u8 (h : Int))) :
    Calls Tryd.prog 10 #[.slice (some ⟨b, o, none⟩) 1 c] w fun e w' => e = .returned (.bool false) ∧ Below w.heap.size w w' := by
  obtain ⟨z, hz⟩ : ∃ z, z = f % 8 := ⟨_, rfl⟩
  have q7 : bits .and .u8 (f : Int) 7 = (z : Int) := by rw [hz]; exact and7 ⟨f, hf⟩
  have hsz : ¬ (z : Int) ≤ 1 := by omega
  have hz8 : (z : Int) ≤ 7 := by omega
  have hxz : (x : Int) < 256 := by omega
  obtain ⟨k, hk⟩ : ∃ k, k = f / 16 := ⟨_, rfl⟩
  rw [← hk, Nat.mul_comm] at hl hh
  have q16 : (f : Int) / 16 = (k : Int) := by omega
  have hk16 : (k : Int) < 16 := by omega
  clear hz hs hk hi
  go_enter Tryd.func10, Tryd.ntmps10
  go_wp2
  go_quiet (fail)
  go_wp2
  go_ret
  exact ⟨rfl, below_drewN ((Below.refl _ _).alloc (Nat.le_refl _) _) _⟩

set_option maxHeartbeats 4000000 in
set_option maxRecDepth 100000 in
theorem slow2_lo (b o c x f l h : Nat) (w : World) (hx : x < 256) (hf : f < 256) (hc0 : w.cell? ⟨b, o, none⟩ = some (.int .u8 (x : Int))) (ht : w.cell? ⟨0, x, none⟩ = some (.int .u8 (f : Int))) (hs : 2 < f % 8) (hi : f / 16 ≤ 4)
    (hl : w.cell? ⟨1, 2 * (f / 16), none⟩ = some (.int .u8 (l : Int))) (hh : w.cell? ⟨1, 2 * (f / 16) + 1, none⟩ = some (.int .u8 (h : Int))) (y : Nat) (hy : w.cell? ⟨b, o + 1, none⟩ = some (.int .u8 (y : Int))) (hyl : y < l) :
    Calls Tryd.prog 10 #[.slice (some ⟨b, o, none⟩) 2 c] w fun e w' => e = .returned (.bool true) ∧ Below w.heap.size w w' := by
  obtain ⟨z, hz⟩ : ∃ z, z = f % 8 := ⟨_, rfl⟩
  have q7 : bits .and .u8 (f : Int) 7 = (z : Int) := by rw [hz]; exact and7 ⟨f, hf⟩
  have hsz : ¬ (z : Int) ≤ 2 := by omega
  have hz8 : (z : Int) ≤ 7 := by omega
  have hxz : (x : Int) < 256 := by omega
  obtain ⟨k, hk⟩ : ∃ k, k = f / 16 := ⟨_, rfl⟩
  rw [← hk, Nat.mul_comm] at hl hh
  have q16 : (f : Int) / 16 = (k : Int) := by omega
  have hk16 : (k : Int) < 16 := by omega
  clear hz hs hk hi
  have hbl : b < w.heap.size := World.block_lt_of_cell? _ _ hy
  have hy2 : ∀ ob, (w.alloc ob).cell? ⟨b, o + 1, none⟩ = some (.int .u8 (y : Int)) := fun ob => (((Below.refl w.heap.size w).alloc (Nat.le_refl _) ob).cell (p := ⟨b, o + 1, none⟩) hbl).trans hy
  clear hbl
  have e1 : (y : Int) < (l : Int) := by omega
  go_enter Tryd.func10, Tryd.ntmps10
  go_wp2
  go_quiet (fail)
  go_wp2
  go_ret
  exact ⟨rfl, below_drewN ((Below.refl _ _).alloc (Nat.le_refl _) _) _⟩

set_option maxHeartbeats 4000000 in
set_option maxRecDepth 100000 in
theorem slow2_hi (b o c x f l h : Nat) (w : World) (hx : x < 256) (hf : f < 256) (hc0 : w.cell? ⟨b, o, none⟩ = some (.int .u8 (x : Int))) (ht : w.cell? ⟨0, x, none⟩ = some (.int .u8 (f : Int))) (hs : 2 < f % 8) (hi : f / 16 ≤ 4)
    (hl : w.cell? ⟨1, 2 * (f / 16), none⟩ = some (.int .u8 (l : Int))) (hh : w.cell? ⟨1, 2 * (f / 16) + 1, none⟩ = some (.int .u8 (h : Int))) (y : Nat) (hy : w.cell? ⟨b, o + 1, none⟩ = some (.int .u8 (y : Int))) (hyl : ¬ y < l) (hyh : h < y) :
    Calls Tryd.prog 10 #[.slice (some ⟨b, o, none⟩) 2 c] w fun e w' => e = .returned (.bool true) ∧ Below w.heap.size w w' := by
  obtain ⟨z, hz⟩ : ∃ z, z = f % 8 := ⟨_, rfl⟩
  have q7 : bits .and .u8 (f : Int) 7 = (z : Int) := by rw [hz]; exact and7 ⟨f, hf⟩
  have hsz : ¬ (z : Int) ≤ 2 := by omega
  have hz8 : (z : Int) ≤ 7 := by omega
  have hxz : (x : Int) < 256 := by omega
  obtain ⟨k, hk⟩ : ∃ k, k = f / 16 := ⟨_, rfl⟩
  rw [← hk, Nat.mul_comm] at hl hh
  have q16 : (f : Int) / 16 = (k : Int) := by omega
  have hk16 : (k : Int) < 16 := by omega
  clear hz hs hk hi
  have hbl : b < w.heap.size := World.block_lt_of_cell? _ _ hy
  have hy2 : ∀ ob, (w.alloc ob).cell? ⟨b, o + 1, none⟩ = some (.int .u8 (y : Int)) := fun ob => (((Below.refl w.heap.size w).alloc (Nat.le_refl _) ob).cell (p := ⟨b, o + 1, none⟩) hbl).trans hy
  clear hbl
  have e1 : ¬ (y : Int) < (l : Int) := by omega
  have e2 : (h : Int) < (y : Int) := by omega
  go_enter Tryd.func10, Tryd.ntmps10
  go_wp2
  go_quiet (fail)
  go_wp2
  go_ret
  exact ⟨rfl, below_drewN ((Below.refl _ _).alloc (Nat.le_refl _) _) _⟩

set_option maxHeartbeats 4000000 in
set_option maxRecDepth 100000 in
theorem slow3_lo (b o c x f l h : Nat) (w : World) (hx : x < 256) (hf : f < 256) (hc0 : w.cell? ⟨b, o, none⟩ = some (.int .u8 (x : Int))) (ht : w.cell? ⟨0, x, none⟩ = some (.int .u8 (f : Int))) (hs : 3 < f % 8) (hi : f / 16 ≤ 4)
    (hl : w.cell? ⟨1, 2 * (f / 16), none⟩ = some (.int .u8 (l : Int))) (hh : w.cell? ⟨1, 2 * (f / 16) + 1, none⟩ = some (.int .u8 (h : Int))) (y : Nat) (hy : w.cell? ⟨b, o + 1, none⟩ = some (.int .u8 (y : Int))) (v : Nat) (hv : w.cell? ⟨b, o + 2, none⟩ = some (.int .u8 (v : Int))) (hyl : y < l) :
    Calls Tryd.prog 10 #[.slice (some ⟨b, o, none⟩) 3 c] w fun e w' => e = .returned (.bool true) ∧ Below w.heap.size w w' := by
  obtain ⟨z, hz⟩ : ∃ z, z = f % 8 := ⟨_, rfl⟩
  have q7 : bits .and .u8 (f : Int) 7 = (z : Int) := by rw [hz]; exact and7 ⟨f, hf⟩
  have hsz : ¬ (z : Int) ≤ 3 := by omega
  have hz8 : (z : Int) ≤ 7 := by omega
  have hxz : (x : Int) < 256 := by omega
  obtain ⟨k, hk⟩ : ∃ k, k = f / 16 := ⟨_, rfl⟩
  rw [← hk, Nat.mul_comm] at hl hh
  have q16 : (f : Int) / 16 = (k : Int) := by omega
  have hk16 : (k : Int) < 16 := by omega
  clear hz hs hk hi
  have hbl : b < w.heap.size := World.block_lt_of_cell? _ _ hy
  have hy2 : ∀ ob, (w.alloc ob).cell? ⟨b, o + 1, none⟩ = some (.int .u8 (y : Int)) := fun ob => (((Below.refl w.heap.size w).alloc (Nat.le_refl _) ob).cell (p := ⟨b, o + 1, none⟩) hbl).trans hy
  have hv2' : ∀ ob, (w.alloc ob).cell? ⟨b, o + 2, none⟩ = some (.int .u8 (v : Int)) := fun ob => (((Below.refl w.heap.size w).alloc (Nat.le_refl _) ob).cell (p := ⟨b, o + 2, none⟩) hbl).trans hv
  clear hbl
  have e1 : (y : Int) < (l : Int) := by omega
  go_enter Tryd.func10, Tryd.ntmps10
  go_wp2
  go_quiet (fail)
  go_wp2
  go_ret
  exact ⟨rfl, below_drewN ((Below.refl _ _).alloc (Nat.le_refl _) _) _⟩

set_option maxHeartbeats 4000000 in
set_option maxRecDepth 100000 in
theorem slow3_hi (b o c x f l h : Nat) (w : World) (hx : x < 256) (hf : f < 256) (hc0 : w.cell? ⟨b, o, none⟩ = some (.int .u8 (x : Int))) (ht : w.cell? ⟨0, x, none⟩ = some (.int .u8 (f : Int))) (hs : 3 < f % 8) (hi : f / 16 ≤ 4)
    (hl : w.cell? ⟨1, 2 * (f / 16), none⟩ = some (.int .u8 (l : Int))) (hh : w.cell? ⟨1, 2 * (f / 16) + 1, none⟩ = some (.int .u8 (h : Int))) (y : Nat) (hy : w.cell? ⟨b, o + 1, none⟩ = some (.int .u8 (y : Int))) (v : Nat) (hv : w.cell? ⟨b, o + 2, none⟩ = some (.int .u8 (v : Int))) (hyl : ¬ y < l) (hyh : h < y) :
    Calls Tryd.prog 10 #[.slice (some ⟨b, o, none⟩) 3 c] w fun e w' => e = .returned (.bool true) ∧ Below w.heap.size w w' := by
  obtain ⟨z, hz⟩ : ∃ z, z = f % 8 := ⟨_, rfl⟩
  have q7 : bits .and .u8 (f : Int) 7 = (z : Int) := by rw [hz]; exact and7 ⟨f, hf⟩
  have hsz : ¬ (z : Int) ≤ 3 := by omega
  have hz8 : (z : Int) ≤ 7 := by omega
  have hxz : (x : Int) < 256 := by omega
  obtain ⟨k, hk⟩ : ∃ k, k = f / 16 := ⟨_, rfl⟩
  rw [← hk, Nat.mul_comm] at hl hh
  have q16 : (f : Int) / 16 = (k : Int) := by omega
  have hk16 : (k : Int) < 16 := by omega
  clear hz hs hk hi
  have hbl : b < w.heap.size := World.block_lt_of_cell? _ _ hy
  have hy2 : ∀ ob, (w.alloc ob).cell? ⟨b, o + 1, none⟩ = some (.int .u8 (y : Int)) := fun ob => (((Below.refl w.heap.size w).alloc (Nat.le_refl _) ob).cell (p := ⟨b, o + 1, none⟩) hbl).trans hy
  have hv2' : ∀ ob, (w.alloc ob).cell? ⟨b, o + 2, none⟩ = some (.int .u8 (v : Int)) := fun ob => (((Below.refl w.heap.size w).alloc (Nat.le_refl _) ob).cell (p := ⟨b, o + 2, none⟩) hbl).trans hv
  clear hbl
  have e1 : ¬ (y : Int) < (l : Int) := by omega
  have e2 : (h : Int) < (y : Int) := by omega
  go_enter Tryd.func10, Tryd.ntmps10
  go_wp2
  go_quiet (fail)
  go_wp2
  go_ret
  exact ⟨rfl, below_drewN ((Below.refl _ _).alloc (Nat.le_refl _) _) _⟩

set_option maxHeartbeats 4000000 in
set_option maxRecDepth 100000 in
theorem slow2_no (b o c x f l h : Nat) (w : World) (hx : x < 256) (hf : f < 256) (hc0 : w.cell? ⟨b, o, none⟩ = some (.int .u8 (x : Int))) (ht : w.cell? ⟨0, x, none⟩ = some (.int .u8 (f : Int))) (hs : 2 < f % 8) (hi : f / 16 ≤ 4)
    (hl : w.cell? ⟨1, 2 * (f / 16), none⟩ = some (.int .u8 (l : Int))) (hh : w.cell? ⟨1, 2 * (f / 16) + 1, none⟩ = some (.int .u8 (h : Int))) (y : Nat) (hy : w.cell? ⟨b, o + 1, none⟩ = some (.int .u8 (y : Int))) (hyl : ¬ y < l) (hyh : ¬ h < y) :
    Calls Tryd.prog 10 #[.slice (some ⟨b, o, none⟩) 2 c] w fun e w' => e = .returned (.bool false) ∧ Below w.heap.size w w' := by
  obtain ⟨z, hz⟩ : ∃ z, z = f % 8 := ⟨_, rfl⟩
  have q7 : bits .and .u8 (f : Int) 7 = (z : Int) := by rw [hz]; exact and7 ⟨f, hf⟩
  have hsz : ¬ (z : Int) ≤ 2 := by omega
  have hz8 : (z : Int) ≤ 7 := by omega
  have hxz : (x : Int) < 256 := by omega
  obtain ⟨k, hk⟩ : ∃ k, k = f / 16 := ⟨_, rfl⟩
  rw [← hk, Nat.mul_comm] at hl hh
  have q16 : (f : Int) / 16 = (k : Int) := by omega
  have hk16 : (k : Int) < 16 := by omega
  clear hz hs hk hi
  have hbl : b < w.heap.size := World.block_lt_of_cell? _ _ hy
  have hy2 : ∀ ob, (w.alloc ob).cell? ⟨b, o + 1, none⟩ = some (.int .u8 (y : Int)) := fun ob => (((Below.refl w.heap.size w).alloc (Nat.le_refl _) ob).cell (p := ⟨b, o + 1, none⟩) hbl).trans hy
  clear hbl
  have e1 : ¬ (y : Int) < (l : Int) := by omega
  have e2 : ¬ (h : Int) < (y : Int) := by omega
  go_enter Tryd.func10, Tryd.ntmps10
  go_wp2
  go_quiet (fail)
  go_wp2
  go_ret
  exact ⟨rfl, below_drewN ((Below.refl _ _).alloc (Nat.le_refl _) _) _⟩

set_option maxHeartbeats 4000000 in
set_option maxRecDepth 100000 in
theorem slow3_b2lo (b o c x f l h : Nat) (w : World) (hx : x < 256) (hf : f < 256) (hc0 : w.cell? ⟨b, o, none⟩ = some (.int .u8 (x : Int))) (ht : w.cell? ⟨0, x, none⟩ = some (.int .u8 (f : Int))) (hs : 3 < f % 8) (hi : f / 16 ≤ 4)
    (hl : w.cell? ⟨1, 2 * (f / 16), none⟩ = some (.int .u8 (l : Int))) (hh : w.cell? ⟨1, 2 * (f / 16) + 1, none⟩ = some (.int .u8 (h : Int))) (y : Nat) (hy : w.cell? ⟨b, o + 1, none⟩ = some (.int .u8 (y : Int))) (v : Nat) (hv : w.cell? ⟨b, o + 2, none⟩ = some (.int .u8 (v : Int))) (hyl : ¬ y < l) (hyh : ¬ h < y) (hv1 : v < 128) :
    Calls Tryd.prog 10 #[.slice (some ⟨b, o, none⟩) 3 c] w fun e w' => e = .returned (.bool true) ∧ Below w.heap.size w w' := by
  obtain ⟨z, hz⟩ : ∃ z, z = f % 8 := ⟨_, rfl⟩
  have q7 : bits .and .u8 (f : Int) 7 = (z : Int) := by rw [hz]; exact and7 ⟨f, hf⟩
  have hsz : ¬ (z : Int) ≤ 3 := by omega
  have hz8 : (z : Int) ≤ 7 := by omega
  have hxz : (x : Int) < 256 := by omega
  obtain ⟨k, hk⟩ : ∃ k, k = f / 16 := ⟨_, rfl⟩
  rw [← hk, Nat.mul_comm] at hl hh
  have q16 : (f : Int) / 16 = (k : Int) := by omega
  have hk16 : (k : Int) < 16 := by omega
  clear hz hs hk hi
  have hbl : b < w.heap.size := World.block_lt_of_cell? _ _ hy
  have hy2 : ∀ ob, (w.alloc ob).cell? ⟨b, o + 1, none⟩ = some (.int .u8 (y : Int)) := fun ob => (((Below.refl w.heap.size w).alloc (Nat.le_refl _) ob).cell (p := ⟨b, o + 1, none⟩) hbl).trans hy
  have hv2' : ∀ ob, (w.alloc ob).cell? ⟨b, o + 2, none⟩ = some (.int .u8 (v : Int)) := fun ob => (((Below.refl w.heap.size w).alloc (Nat.le_refl _) ob).cell (p := ⟨b, o + 2, none⟩) hbl).trans hv
  clear hbl
  have e1 : ¬ (y : Int) < (l : Int) := by omega
  have e2 : ¬ (h : Int) < (y : Int) := by omega
  have e3 : (v : Int) < 128 := by omega
  go_enter Tryd.func10, Tryd.ntmps10
  go_wp2
  go_quiet (fail)
  go_wp2
  go_ret
  exact ⟨rfl, below_drewN ((Below.refl _ _).alloc (Nat.le_refl _) _) _⟩

set_option maxHeartbeats 4000000 in
set_option maxRecDepth 100000 in
theorem slow3_b2hi (b o c x f l h : Nat) (w : World) (hx : x < 256) (hf : f < 256) (hc0 : w.cell? ⟨b, o, none⟩ = some (.int .u8 (x : Int))) (ht : w.cell? ⟨0, x, none⟩ = some (.int .u8 (f : Int))) (hs : 3 < f % 8) (hi : f / 16 ≤ 4)
    (hl : w.cell? ⟨1, 2 * (f / 16), none⟩ = some (.int .u8 (l : Int))) (hh : w.cell? ⟨1, 2 * (f / 16) + 1, none⟩ = some (.int .u8 (h : Int))) (y : Nat) (hy : w.cell? ⟨b, o + 1, none⟩ = some (.int .u8 (y : Int))) (v : Nat) (hv : w.cell? ⟨b, o + 2, none⟩ = some (.int .u8 (v : Int))) (hyl : ¬ y < l) (hyh : ¬ h < y) (hv2 : 191 < v) :
    Calls Tryd.prog 10 #[.slice (some ⟨b, o, none⟩) 3 c] w fun e w' => e = .returned (.bool true) ∧ Below w.heap.size w w' := by
  obtain ⟨z, hz⟩ : ∃ z, z = f % 8 := ⟨_, rfl⟩
  have q7 : bits .and .u8 (f : Int) 7 = (z : Int) := by rw [hz]; exact and7 ⟨f, hf⟩
  have hsz : ¬ (z : Int) ≤ 3 := by omega
  have hz8 : (z : Int) ≤ 7 := by omega
  have hxz : (x : Int) < 256 := by omega
  obtain ⟨k, hk⟩ : ∃ k, k = f / 16 := ⟨_, rfl⟩
  rw [← hk, Nat.mul_comm] at hl hh
  have q16 : (f : Int) / 16 = (k : Int) := by omega
  have hk16 : (k : Int) < 16 := by omega
  clear hz hs hk hi
  have hbl : b < w.heap.size := World.block_lt_of_cell? _ _ hy
  have hy2 : ∀ ob, (w.alloc ob).cell? ⟨b, o + 1, none⟩ = some (.int .u8 (y : Int)) := fun ob => (((Below.refl w.heap.size w).alloc (Nat.le_refl _) ob).cell (p := ⟨b, o + 1, none⟩) hbl).trans hy
  have hv2' : ∀ ob, (w.alloc ob).cell? ⟨b, o + 2, none⟩ = some (.int .u8 (v : Int)) := fun ob => (((Below.refl w.heap.size w).alloc (Nat.le_refl _) ob).cell (p := ⟨b, o + 2, none⟩) hbl).trans hv
  clear hbl
  have e1 : ¬ (y : Int) < (l : Int) := by omega
  have e2 : ¬ (h : Int) < (y : Int) := by omega
  have e3 : ¬ (v : Int) < 128 := by omega
  have e4 : (191 : Int) < (v : Int) := by omega
  go_enter Tryd.func10, Tryd.ntmps10
  go_wp2
  go_quiet (fail)
  go_wp2
  go_ret
  exact ⟨rfl, below_drewN ((Below.refl _ _).alloc (Nat.le_refl _) _) _⟩

set_option maxHeartbeats 4000000 in
set_option maxRecDepth 100000 in
theorem slow3_no (b o c x f l h : Nat) (w : World) (hx : x < 256) (hf : f < 256) (hc0 : w.cell? ⟨b, o, none⟩ = some (.int .u8 (x : Int))) (ht : w.cell? ⟨0, x, none⟩ = some (.int .u8 (f : Int))) (hs : 3 < f % 8) (hi : f / 16 ≤ 4)
    (hl : w.cell? ⟨1, 2 * (f / 16), none⟩ = some (.int .u8 (l : Int))) (hh : w.cell? ⟨1, 2 * (f / 16) + 1, none⟩ = some (.int .u8 (h : Int))) (y : Nat) (hy : w.cell? ⟨b, o + 1, none⟩ = some (.int .u8 (y : Int))) (v : Nat) (hv : w.cell? ⟨b, o + 2, none⟩ = some (.int .u8 (v : Int))) (hyl : ¬ y < l) (hyh : ¬ h < y) (hv1 : ¬ v < 128) (hv2 : ¬ 191 < v) :
    Calls Tryd.prog 10 #[.slice (some ⟨b, o, none⟩) 3 c] w fun e w' => e = .returned (.bool false) ∧ Below w.heap.size w w' := by
  obtain ⟨z, hz⟩ : ∃ z, z = f % 8 := ⟨_, rfl⟩
  have q7 : bits .and .u8 (f : Int) 7 = (z : Int) := by rw [hz]; exact and7 ⟨f, hf⟩
  have hsz : ¬ (z : Int) ≤ 3 := by omega
  have hz8 : (z : Int) ≤ 7 := by omega
  have hxz : (x : Int) < 256 := by omega
  obtain ⟨k, hk⟩ : ∃ k, k = f / 16 := ⟨_, rfl⟩
  rw [← hk, Nat.mul_comm] at hl hh
  have q16 : (f : Int) / 16 = (k : Int) := by omega
  have hk16 : (k : Int) < 16 := by omega
  clear hz hs hk hi
  have hbl : b < w.heap.size := World.block_lt_of_cell? _ _ hy
  have hy2 : ∀ ob, (w.alloc ob).cell? ⟨b, o + 1, none⟩ = some (.int .u8 (y : Int)) := fun ob => (((Below.refl w.heap.size w).alloc (Nat.le_refl _) ob).cell (p := ⟨b, o + 1, none⟩) hbl).trans hy
  have hv2' : ∀ ob, (w.alloc ob).cell? ⟨b, o + 2, none⟩ = some (.int .u8 (v : Int)) := fun ob => (((Below.refl w.heap.size w).alloc (Nat.le_refl _) ob).cell (p := ⟨b, o + 2, none⟩) hbl).trans hv
  clear hbl
  have e1 : ¬ (y : Int) < (l : Int) := by omega
  have e2 : ¬ (h : Int) < (y : Int) := by omega
  have e3 : ¬ (v : Int) < 128 := by omega
  have e4 : ¬ (191 : Int) < (v : Int) := by omega
  go_enter Tryd.func10, Tryd.ntmps10
  go_wp2
  go_quiet (fail)
  go_wp2
  go_ret
  exact ⟨rfl, below_drewN ((Below.refl _ _).alloc (Nat.le_refl _) _) _⟩

theorem full_any (b o c : Nat) (bs : List UInt8) (w : World) (h1 : 1 ≤ bs.length) (h3 : bs.length ≤ 3) (hT : Lib.Utf8Tabs 0 1 w) (hc : ∀ i, i < bs.length → w.cell? ⟨b, o + i, none⟩ = some (.int .u8 (bs.getD i 0).toNat)) (ok : Bool) (hok : ok = true ↔ full bs) :
    Calls Tryd.prog 10 #[.slice (some ⟨b, o, none⟩) bs.length c] w fun e w' => e = .returned (.bool ok) ∧ Below w.heap.size w w' := by
  have hxl : (bs.getD 0 0).toNat < 256 := (bs.getD 0 0).toNat_lt
  obtain ⟨hf, hf4, hf5⟩ := first_lt _ hxl
  have ht := hT.1 _ hxl
  have c0 : w.cell? ⟨b, o, none⟩ = some (.int .u8 ((bs.getD 0 0).toNat : Int)) := by simpa using hc 0 (by omega)
  have mk : ∀ (r : Bool), (r = true ↔ full bs) → ok = r := fun r hr => by
    cases ok <;> cases r
    · rfl
    · exact hok.2 (hr.1 rfl)
    · exact (hr.2 (hok.1 rfl)).symm
    · rfl
  by_cases hs : firstT (bs.getD 0 0).toNat % 8 ≤ bs.length
  · rw [mk true ⟨fun _ => .inl hs, fun _ => rfl⟩]
    refine (full_yes0 b o bs.length c _ _ w h1 hxl hf c0 ht hs (by omega)).mono ?_
    rintro e w' ⟨rfl, rfl⟩
    exact ⟨rfl, Below.refl _ _⟩
  · have hi := hf4 (by omega)
    obtain ⟨tl, th⟩ := hT.2 (firstT (bs.getD 0 0).toNat / 16) (by omega)
    have c1 : 2 ≤ bs.length → w.cell? ⟨b, o + 1, none⟩ = some (.int .u8 ((bs.getD 1 0).toNat : Int)) := fun h => hc 1 (by omega)
    have c2 : 3 ≤ bs.length → w.cell? ⟨b, o + 2, none⟩ = some (.int .u8 ((bs.getD 2 0).toNat : Int)) := fun h => hc 2 (by omega)
    unfold full at mk
    rcases (by omega : bs.length = 1 ∨ bs.length = 2 ∨ bs.length = 3) with hn | hn | hn
    · rw [hn] at hs mk ⊢
      rw [mk false ⟨(fun h => by cases h), fun h => by omega⟩]
      exact slow1 b o c _ _ _ _ w hxl hf c0 ht (by omega) hi tl th
    · have c1' := c1 (by omega)
      rw [hn] at hs mk ⊢
      by_cases e1 : (bs.getD 1 0).toNat < accLo (firstT (bs.getD 0 0).toNat / 16)
      · rw [mk true ⟨fun _ => .inr (.inl ⟨by omega, .inl e1⟩), fun _ => rfl⟩]
        exact slow2_lo b o c _ _ _ _ w hxl hf c0 ht (by omega) hi tl th _ c1' e1
      · by_cases e2 : accHi (firstT (bs.getD 0 0).toNat / 16) < (bs.getD 1 0).toNat
        · rw [mk true ⟨fun _ => .inr (.inl ⟨by omega, .inr e2⟩), fun _ => rfl⟩]
          exact slow2_hi b o c _ _ _ _ w hxl hf c0 ht (by omega) hi tl th _ c1' e1 e2
        · rw [mk false ⟨(fun h => by cases h), fun h => by omega⟩]
          exact slow2_no b o c _ _ _ _ w hxl hf c0 ht (by omega) hi tl th _ c1' e1 e2
    · have c1' := c1 (by omega)
      have c2' := c2 (by omega)
      rw [hn] at hs mk ⊢
      by_cases e1 : (bs.getD 1 0).toNat < accLo (firstT (bs.getD 0 0).toNat / 16)
      · rw [mk true ⟨fun _ => .inr (.inl ⟨by omega, .inl e1⟩), fun _ => rfl⟩]
        exact slow3_lo b o c _ _ _ _ w hxl hf c0 ht (by omega) hi tl th _ c1' _ c2' e1
      · by_cases e2 : accHi (firstT (bs.getD 0 0).toNat / 16) < (bs.getD 1 0).toNat
        · rw [mk true ⟨fun _ => .inr (.inl ⟨by omega, .inr e2⟩), fun _ => rfl⟩]
          exact slow3_hi b o c _ _ _ _ w hxl hf c0 ht (by omega) hi tl th _ c1' _ c2' e1 e2
        · by_cases e3 : (bs.getD 2 0).toNat < 128
          · rw [mk true ⟨fun _ => .inr (.inr ⟨by omega, .inl e3⟩), fun _ => rfl⟩]
            exact slow3_b2lo b o c _ _ _ _ w hxl hf c0 ht (by omega) hi tl th _ c1' _ c2' e1 e2 e3
          · by_cases e4 : 191 < (bs.getD 2 0).toNat
            · rw [mk true ⟨fun _ => .inr (.inr ⟨by omega, .inr e4⟩), fun _ => rfl⟩]
              exact slow3_b2hi b o c _ _ _ _ w hxl hf c0 ht (by omega) hi tl th _ c1' _ c2' e1 e2 e4
            · rw [mk false ⟨(fun h => by cases h), fun h => by omega⟩]
              exact slow3_no b o c _ _ _ _ w hxl hf c0 ht (by omega) hi tl th _ c1' _ c2' e1 e2 e3 e4

theorem tabs_heap {w w' : World} {N : Nat} (h : Lib.Utf8Tabs 0 1 w) (hB : Below N w w') (hN : 2 ≤ N) : Lib.Utf8Tabs 0 1 w' :=
  ⟨fun c hc => by rw [hB.cell (p := ⟨0, c, none⟩) (by show 0 < N; omega)]; exact h.1 c hc,
   fun i hi => ⟨by rw [hB.cell (p := ⟨1, 2 * i, none⟩) (by show 1 < N; omega)]; exact (h.2 i hi).1, by rw [hB.cell (p := ⟨1, 2 * i + 1, none⟩) (by show 1 < N; omega)]; exact (h.2 i hi).2⟩⟩

/-- FullRune of the first k bytes. -/
theorem full_take (b o c n k : Nat) (bs : List UInt8) (w : World) (hb : bs.length = n) (h1 : 1 ≤ k) (h3 : k ≤ 3) (hk : k ≤ n) (hT : Lib.Utf8Tabs 0 1 w) (hc : ∀ i, i < n → w.cell? ⟨b, o + i, none⟩ = some (.int .u8 (bs.getD i 0).toNat)) (ok : Bool) (hok : ok = true ↔ full (bs.take k)) :
    Calls Tryd.prog 10 #[.slice (some ⟨b, o, none⟩) k c] w fun e w' => e = .returned (.bool ok) ∧ Below w.heap.size w w' := by
  have el : (bs.take k).length = k := by simp; omega
  have h := full_any b o c (bs.take k) w (by omega) (by omega) hT (fun i hi => by rw [getD_take bs k i (by omega)]; exact hc i (by omega)) ok hok
  rw [el] at h
  exact h

end Go.Proofs.Qxb6003900aDoor
