/-
  THE WALKS OF zzclb1Clone AND zzclb1Equal.
-/
import Derived.Test.Qxb6606271aDoorWalkA
import Derived.Deep.OwnRows
namespace Go.Proofs.Qxb6606271aDoor
open Go.RowKit
open Pl

theorem Tryd.info5 : (Tryd.prog.info? 5).map (fun i => (i.zero, i.size, i.bytes)) = some (some (.int .u8 0), 1, 1) := by kernel_rfl
theorem eq22 (w : World) (a : Option Addr) (n c n' c' : Nat) : (binOp .eql 22 (.slice a n c) (.slice none n' c')).run Tryd.prog w = .ok (.bool a.isNone) w := Lib.run_eql_slice_nil w _ _ a n c n' c' Tryd.underlying22

set_option maxHeartbeats 400000 in
theorem clone_nil (w : World) : Calls Tryd.prog 7 #[.slice none 0 0] w fun e w' => e = .returned (.slice none 0 0) ∧ w' = w := by
  have q22 := eq22
  go_enter Tryd.func7, Tryd.ntmps7
  go_wp2
  go_ret
  exact ⟨rfl, rfl⟩

/-- The clone behind k rounds. -/
def Cl (w wr : World) (n : Nat) (bs : List UInt8) (k : Nat) : Prop :=
  Below w.heap.size w wr ∧ wr.heap.size = w.heap.size + 1 ∧ (∀ i, i < n → wr.cell? ⟨w.heap.size, i, none⟩ = some (.int .u8 (if i < k then bs.getD i 0 else 0).toNat)) ∧ ∀ i, wr.frozen? ⟨w.heap.size, i, none⟩ = false

theorem Cl.start (w : World) (n : Nat) (bs : List UInt8) : Cl w (w.alloc (.cells (madeCells #[.int .u8 0] n) 5)) n bs 0 := by
  refine ⟨(Below.refl _ _).alloc (Nat.le_refl _) _, by simp, fun i hi => ?_, fun i => ?_⟩
  · rw [if_neg (by omega), World.cell?_alloc_at _ _ _ _ rfl, ← Array.getElem?_toList, toList_madeCells_one]
    simp [hi]
  · exact World.frozen?_alloc_at _ _ _ _ rfl
theorem Cl.next {w wr : World} {n : Nat} {bs : List UInt8} {k : Nat} (h : Cl w wr n bs k) (hk : k < n) (x : UInt8) (hx : x = bs.getD k 0) : Cl w (wr.setCell ⟨w.heap.size, k, none⟩ (.int .u8 x.toNat)) n bs (k + 1) := by
  obtain ⟨hb, hs, hc, hf⟩ := h
  refine ⟨hb.setCell (Nat.le_refl _) _, by rw [← hs]; simp [World.setCell], fun i hi => ?_, fun i => by rw [World.frozen?_setCell]; exact hf i⟩
  by_cases e : i = k
  · subst e
    rw [World.cell?_setCell_same _ _ _ (hc i hk), if_pos (by omega), hx]
  · rw [World.cell?_setCell_other _ _ _ _ (by intro h; injection h with _ h2 _; exact e h2.symm), hc i hi]
    congr 3
    by_cases h2 : i < k
    · rw [if_pos h2, if_pos (by omega)]
    · rw [if_neg h2, if_neg (by omega)]

set_option maxHeartbeats 1000000 in
theorem clone_some (a : Addr) (n c : Nat) (bs : List UInt8) (w : World) (hb : bs.length = n) (hnc : n ≤ c) (hbig : n ≤ 1048576) (h1 : BA w (some a) n bs) :
    Calls Tryd.prog 7 #[.slice (some a) n c] w fun e w' => e = .returned (.slice (some ⟨w.heap.size, 0, none⟩) n n) ∧ Below w.heap.size w w' ∧ BA w' (some ⟨w.heap.size, 0, none⟩) n bs := by
  have H1 := aside (h1)
  clear h1
  have q22 := eq22
  have hmk := fun w => run_make_row' (P := Tryd.prog) 22 5 (.int .u8 0) 1 Tryd.underlying22 Tryd.info5 rfl .i64 .i64 n (by omega) (by omega) w
  go_enter Tryd.func7, Tryd.ntmps7
  go_wp2
  go_loopg [4] n (fun g s4 wr => ∃ k : Nat, k ≤ n ∧ k + g = n ∧ s4 = .int .i64 k ∧ Aside (Cl w wr n bs k))
  case atStart => exact ⟨0, Nat.zero_le _, by omega, rfl, aside (Cl.start w n bs)⟩
  case round =>
    clear hmk q22
    obtain ⟨k, hkn, hkg, rfl, I⟩ := hrel
    by_cases hlt : k < n
    · have hltz : (k : Int) < (n : Int) := by omega
      obtain ⟨blk, o, hae, hc⟩ := H1.out (by omega)
      obtain rfl := Option.some.inj hae
      have hct := hc k hlt
      have hbl : blk < w.heap.size := World.block_lt_of_cell? _ _ hct
      have hct' : wr.cell? ⟨blk, o + k, none⟩ = _ := (I.out.1.cell (p := ⟨blk, o + k, none⟩) hbl).trans hct
      have hco := I.out.2.2.1 k hlt
      have hfr := I.out.2.2.2 k
      generalize (if k < k then bs.getD k 0 else 0) = y at hco
      obtain ⟨x, hx⟩ : ∃ x, x = bs.getD k 0 := ⟨_, rfl⟩
      rw [← hx] at hct'
      have HX := aside (hx)
      clear hx hc hct
      go_wp2
      go_roundg (gk - 1)
      case measure => omega
      case rel =>
        exact ⟨k + 1, by omega, by omega, by go_num, aside (I.out.next hlt x HX.out)⟩
    · have hltz : ¬ (k : Int) < (n : Int) := by omega
      go_wp2
      go_ret
      obtain rfl : k = n := by omega
      refine ⟨rfl, I.out.1, fun _ => ⟨_, _, rfl, fun i hi => ?_⟩⟩
      rw [Nat.zero_add, I.out.2.2.1 i hi, if_pos hi]

/-! ### zzclb1Equal, of two slices that hold the same bytes -/
set_option maxHeartbeats 1000000 in
theorem equal_yes (p q : Option Addr) (n c d : Nat) (bs : List UInt8) (w : World) (hb : bs.length = n) (hbig : n ≤ 1048576) (h1 : BA w p n bs) (h2 : BA w q n bs) :
    Calls Tryd.prog 12 #[.slice p n c, .slice q n d] w fun e w' => e = .returned (.bool true) ∧ ∃ m, w' = w.drewN m := by
  have H1 := aside (h1)
  have H2 := aside (h2)
  clear h1 h2
  go_enter Tryd.func12, Tryd.ntmps12
  go_wp2
  go_loopg [5] n (fun g s5 wr => ∃ k : Nat, k ≤ n ∧ k + g = n ∧ s5 = .int .i64 k ∧ ∃ m, wr = w.drewN m)
  case atStart => exact ⟨0, Nat.zero_le _, by omega, rfl, 0, rfl⟩
  case round =>
    obtain ⟨k, hkn, hkg, rfl, m, rfl⟩ := hrel
    by_cases hlt : k < n
    · have hltz : (k : Int) < (n : Int) := by omega
      obtain ⟨blk, o, rfl, hc⟩ := H1.out (by omega)
      obtain ⟨blk', o', rfl, hc'⟩ := H2.out (by omega)
      have hct := hc k hlt
      have hct' := hc' k hlt
      clear hc hc'
      generalize bs.getD k 0 = x at hct hct'
      go_wp2
      go_quiet (fail)
      go_wp2
      go_roundg (gk - 1)
      case measure => omega
      case rel => exact ⟨k + 1, by omega, by omega, by go_num, _, rfl⟩
    · have hltz : ¬ (k : Int) < (n : Int) := by omega
      go_wp2
      go_ret
      exact ⟨rfl, m, rfl⟩

end Go.Proofs.Qxb6606271aDoor
