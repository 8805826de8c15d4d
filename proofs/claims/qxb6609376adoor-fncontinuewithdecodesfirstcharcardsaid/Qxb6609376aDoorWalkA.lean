/-
  THE WALKS OF zzBytes, cloneBytes, sameBytes.
-/
import Derived.Test.Qxb6609376aDoorProg
import Derived.WalkKit
import Derived.WalkSpells
import Derived.Deep.LoopGhost
import Derived.Deep.QuietTactic
import Derived.BigQuiet
import Derived.Deep.OwnRows
import Derived.Lib.SlBuf
namespace Go.Proofs.Qxb6609376aDoor
open Go.RowKit

/-- A slice of bytes as it lies, below block B: where there is a byte: an address of no spot, with its cells; where there is none: whatever the address. -/
def BA (w : World) (B : Nat) (p : Option Addr) (n : Nat) (bs : List UInt8) : Prop := 0 < n → ∃ b o, p = some ⟨b, o, none⟩ ∧ b < B ∧ ∀ i, i < n → w.cell? ⟨b, o + i, none⟩ = some (.int .u8 (bs.getD i 0).toNat)
theorem aside {q : Prop} (h : q) : Aside q := h
theorem BA.below {w w' : World} {B : Nat} {p : Option Addr} {n : Nat} {bs : List UInt8} (h : BA w B p n bs) (hB : Below B w w') : BA w' B p n bs := fun h0 => by
  obtain ⟨b, o, rfl, hb, hc⟩ := h h0
  exact ⟨b, o, rfl, hb, fun i hi => by rw [hB.cell (p := ⟨b, o + i, none⟩) hb]; exact hc i hi⟩
theorem BA.mono {w : World} {B B' : Nat} {p : Option Addr} {n : Nat} {bs : List UInt8} (h : BA w B p n bs) (hB : B ≤ B') : BA w B' p n bs := fun h0 => by
  obtain ⟨b, o, rfl, hb, hc⟩ := h h0
  exact ⟨b, o, rfl, by omega, hc⟩
theorem BA.drewN {w : World} {B : Nat} {p : Option Addr} {n : Nat} {bs : List UInt8} (h : BA w B p n bs) (m : Nat) : BA (w.drewN m) B p n bs := fun h0 => by
  obtain ⟨b, o, rfl, hb, hc⟩ := h h0
  exact ⟨b, o, rfl, hb, fun i hi => by rw [World.cell?_drewN]; exact hc i hi⟩
theorem below_drewN {B : Nat} {a w : World} (h : Below B a w) (m : Nat) : Below B a (w.drewN m) := ⟨h.os, h.tape, h.output, h.size, h.block⟩

set_option maxHeartbeats 400000 in
theorem zzBytes_no (x y : Int) (p : Option Addr) (n c : Nat) (w : World) (h : 1048576 < n) : Calls Tryd.prog 5 #[.int .i64 x, .int .i64 y, .slice p n c] w fun e w' => e = .returned (.bool false) ∧ w' = w := by
  have h1 : (1048576 : Int) < (n : Int) := by omega
  go_enter Tryd.func5, Tryd.ntmps5
  go_wp2
  go_ret
  exact ⟨rfl, rfl⟩
set_option maxHeartbeats 400000 in
theorem zzBytes_yes (x y : Int) (p : Option Addr) (n c : Nat) (w : World) (h : n ≤ 1048576) : Calls Tryd.prog 5 #[.int .i64 x, .int .i64 y, .slice p n c] w fun e w' => e = .returned (.bool true) ∧ w' = w := by
  have h1 : ¬ (1048576 : Int) < (n : Int) := by omega
  have h2 : (n : Int) ≤ 1048576 := by omega
  go_enter Tryd.func5, Tryd.ntmps5
  go_wp2
  go_ret
  exact ⟨rfl, rfl⟩

theorem Tryd.info5 : (Tryd.prog.info? 5).map (fun i => (i.zero, i.size, i.bytes)) = some (some (.int .u8 0), 1, 1) := by kernel_rfl
theorem Tryd.size5 : (Tryd.prog.info? 5).map (·.size) = some 1 := by kernel_rfl
theorem eq22 (w : World) (a : Option Addr) (n c n' c' : Nat) : (binOp .eql 22 (.slice a n c) (.slice none n' c')).run Tryd.prog w = .ok (.bool a.isNone) w := Lib.run_eql_slice_nil w _ _ a n c n' c' Tryd.underlying22

theorem below_setCells {B b : Nat} (hb : B ≤ b) {a : World} : ∀ (vs : List Value) (o : Nat) (w : World), Below B a w → Below B a (w.setCells b o vs)
  | [], _, _, h => h
  | v :: r, o, _, h => below_setCells hb r (o + 1) _ (h.setCell (p := ⟨b, o, none⟩) hb v)

set_option maxHeartbeats 400000 in
theorem clone_nil (w : World) : Calls Tryd.prog 6 #[.slice none 0 0] w fun e w' => e = .returned (.slice none 0 0) ∧ w' = w := by
  have q22 := eq22
  go_enter Tryd.func6, Tryd.ntmps6
  go_wp2
  go_ret
  exact ⟨rfl, rfl⟩

set_option maxHeartbeats 1000000 in
theorem clone_some (a : Addr) (n c : Nat) (bs : List UInt8) (w : World) (hb : bs.length = n) (hnc : n ≤ c) (hbig : n ≤ 1048576) (h1 : BA w w.heap.size (some a) n bs) :
    Calls Tryd.prog 6 #[.slice (some a) n c] w fun e w' => e = .returned (.slice (some ⟨w.heap.size, 0, none⟩) n n) ∧ Below w.heap.size w w' ∧ w'.heap.size = w.heap.size + 1 ∧ BA w' (w.heap.size + 1) (some ⟨w.heap.size, 0, none⟩) n bs := by
  have q22 := eq22
  have hmk := fun w => run_make_row' (P := Tryd.prog) 22 5 (.int .u8 0) 1 Tryd.underlying22 Tryd.info5 rfl .i64 .i64 n (by omega) (by omega) w
  have hcell : ∀ i, i < n → (w.alloc (.cells (madeCells #[.int .u8 0] n) 5)).cell? ⟨w.heap.size, i, none⟩ = some (.int .u8 0) := fun i hi => by
    rw [World.cell?_alloc_at _ _ _ _ rfl, ← Array.getElem?_toList, toList_madeCells_one]
    simp [hi]
  have hW1 : Below w.heap.size w (w.alloc (.cells (madeCells #[.int .u8 0] n) 5)) := (Below.refl _ _).alloc (Nat.le_refl _) _
  have hsz : ∀ (vs : List Value) (b o : Nat) (w : World), (w.setCells b o vs).heap.size = w.heap.size := fun vs => by
    induction vs with
    | nil => intros; rfl
    | cons v r ih => intro b o w; rw [World.setCells, ih]; simp [World.setCell]
  obtain ⟨cs, hcs⟩ : ∃ cs : List Value, cs = bs.map (fun x => Value.int .u8 x.toNat) := ⟨_, rfl⟩
  have hcl : cs.length = n := by rw [hcs]; simpa using hb
  have hcg : ∀ i, i < n → cs[i]? = some (.int .u8 (bs.getD i 0).toNat) := fun i hi => by
    rw [hcs]; simp [List.getD_eq_getElem?_getD, List.getElem?_eq_getElem (show i < bs.length by omega)]
  have hrun : (Builtin.copy_ #[22, 22] 3 #[.slice (some ⟨w.heap.size, 0, none⟩) n n, .slice (some a) n c]).run Tryd.prog (w.alloc (.cells (madeCells #[.int .u8 0] n) 5)) = .ok (goInt cs.length) ((w.alloc (.cells (madeCells #[.int .u8 0] n) 5)).setCells w.heap.size 0 cs) := by
    by_cases hn0 : n = 0
    · subst hn0
      have e0 : cs = [] := List.eq_nil_of_length_eq_zero hcl
      rw [e0]
      exact run_copy_none _ 22 22 3 5 _ _ _ _ _ _ Tryd.underlying22 Tryd.size5 rfl
    · obtain ⟨b, o, hae, hbl, hc⟩ := h1 (by omega)
      obtain rfl := Option.some.inj hae
      refine run_copy_cells _ 22 22 3 5 w.heap.size 0 n n _ n c cs Tryd.underlying22 Tryd.size5 (by rw [hcl]; exact (Nat.min_self n).symm) (fun j v hj => ?_) (fun j hj => ?_) (fun j hj => ?_) (fun v hv => ?_)
      · have hjn : j < n := by
          have := (List.getElem?_eq_some_iff.1 hj).1
          omega
        rw [hcg j hjn] at hj
        rw [← Option.some.inj hj, Addr.add_lit, hW1.cell (p := ⟨b, o + j, none⟩) hbl]
        exact hc j hjn
      · rw [Nat.zero_add, hcell j (by omega)]; rfl
      · rw [Nat.zero_add]; exact World.frozen?_alloc_at _ _ _ _ rfl
      · rw [hcs] at hv
        obtain ⟨x, _, rfl⟩ := List.mem_map.1 hv
        rfl
  have HRUN := aside hrun
  have HCG := aside hcg
  have HCELL := aside hcell
  have HSZ := aside hsz
  have HCS := aside hcs
  clear h1 hrun hcg hcell hsz hcs
  go_enter Tryd.func6, Tryd.ntmps6
  go_wp2_with (refine Lib.wpList_copy_run _ rfl _ _ 22 22 rfl _ _ rfl rfl HRUN.out ?_)
  go_ret
  refine ⟨rfl, below_setCells (Nat.le_refl _) _ _ _ hW1, by rw [HSZ.out]; simp, fun _ => ⟨_, _, rfl, by omega, fun i hi => ?_⟩⟩
  have h := World.cell?_setCells_in w.heap.size cs 0 (w.alloc (.cells (madeCells #[.int .u8 0] n) 5)) (fun j hj => by rw [Nat.zero_add, HCELL.out j (by omega)]; rfl) i (by omega)
  rw [h]
  have h2 := HCG.out i hi
  rw [List.getElem?_eq_getElem (by omega)] at h2
  exact h2

/-- The clone, nil or not. -/
theorem clone_any (a : Option Addr) (n c : Nat) (bs : List UInt8) (w : World) (hb : bs.length = n) (hnc : n ≤ c) (hbig : n ≤ 1048576) (hnil : a = none → n = 0 ∧ c = 0) (h1 : BA w w.heap.size a n bs) :
    Calls Tryd.prog 6 #[.slice a n c] w fun e w' => ∃ p1, e = .returned (.slice p1 n n) ∧ Below w.heap.size w w' ∧ BA w' w'.heap.size p1 n bs := by
  cases a with
  | none =>
    obtain ⟨rfl, rfl⟩ := hnil rfl
    refine (clone_nil w).mono ?_
    rintro e w' ⟨rfl, rfl⟩
    exact ⟨none, rfl, Below.refl _ _, h1⟩
  | some a =>
    refine (clone_some a n c bs w hb hnc hbig h1).mono ?_
    rintro e w' ⟨rfl, hB, hs, hba⟩
    exact ⟨_, rfl, hB, by rw [hs]; exact hba⟩

set_option maxHeartbeats 1000000 in
theorem same_yes (p : Option Addr) (B n c d : Nat) (bs : List UInt8) (w : World) (hb : bs.length = n) (hbig : n ≤ 1048576) (h1 : BA w B p n bs) :
    Calls Tryd.prog 10 #[.slice p n c, .slice p n d] w fun e w' => e = .returned (.bool true) ∧ ∃ m, w' = w.drewN m := by
  have H1 := aside h1
  clear h1
  go_enter Tryd.func10, Tryd.ntmps10
  go_wp2
  go_loopg [5] n (fun g s5 wr => ∃ k : Nat, k ≤ n ∧ k + g = n ∧ s5 = .int .i64 k ∧ ∃ m, wr = w.drewN m)
  case atStart => exact ⟨0, Nat.zero_le _, by omega, rfl, 0, rfl⟩
  case round =>
    obtain ⟨k, hkn, hkg, rfl, m, rfl⟩ := hrel
    by_cases hlt : k < n
    · have hltz : (k : Int) < (n : Int) := by omega
      obtain ⟨blk, o, rfl, _, hc⟩ := H1.out (by omega)
      have hct := hc k hlt
      clear hc
      generalize bs.getD k 0 = x at hct
      go_wp2
      go_quiet (fail)
      go_wp2
      go_roundg (gk - 1)
      case measure => omega
      case rel => exact ⟨k + 1, by omega, by omega, by go_num, _, rfl⟩
    · have hltz : ¬ (k : Int) < (n : Int) := by omega
      go_wp2
      go_ret
      exact ⟨rfl, m, rfl⟩

end Go.Proofs.Qxb6609376aDoor
