/-
  THE WALKS OF THE SCANNER: ZZnewScanner, decode, continueWith, ZZcontinueWith, ZZscannerFields.
-/
import Derived.Test.Qxb6609376aDoorShelf
import Derived.RegionTactic
import Derived.Deep.RegionWith
import Derived.BigRegion
namespace Go.Proofs.Qxb6609376aDoor
open Go.RowKit Go.Lib

set_option maxHeartbeats 1000000 in
set_option maxRecDepth 100000 in
theorem newScanner_any (l c : Int) (w : World) :
    Calls Tryd.prog 7 #[.int .i64 l, .int .i64 c] w fun e w' => e = .returned (.pointer (some ⟨w.heap.size, 0, none⟩)) ∧ w' = w.alloc (.cells #[.slice none 0 0, .int .i64 0, .int .i32 0, .int .i64 0, .int .i64 l, .int .i64 c] 40) := by
  go_enter Tryd.func7, Tryd.ntmps7
  go_wp2
  go_ret
  exact ⟨rfl, rfl⟩

set_option maxHeartbeats 1000000 in
set_option maxRecDepth 100000 in
theorem decode_nil (B : Nat) (p : Option Addr) (c : Nat) (r0 w0 : Int) (w : World) (z0 : w.cell? ⟨B, 0, none⟩ = some (.slice p 0 c)) (z1 : w.cell? ⟨B, 1, none⟩ = some (.int .i64 0)) (z2 : w.cell? ⟨B, 2, none⟩ = some (.int .i32 r0)) (z3 : w.cell? ⟨B, 3, none⟩ = some (.int .i64 w0))
    (zf : ∀ j, w.frozen? ⟨B, j, none⟩ = false) :
    Calls Tryd.prog 19 #[.pointer (some ⟨B, 0, none⟩)] w fun e w' => e = .returned (.tuple #[]) ∧ ∃ m, w' = ((w.setCell ⟨B, 2, none⟩ (.int .i32 (-1))).setCell ⟨B, 3, none⟩ (.int .i64 0)).drewN m := by
  go_enter Tryd.func19, Tryd.ntmps19
  go_wp2
  go_quiet (fail)
  go_wp2
  go_end0
  exact ⟨rfl, _, rfl⟩

set_option maxHeartbeats 1000000 in
set_option maxRecDepth 100000 in
theorem decode_ascii (B b o n c : Nat) (x : UInt8) (r0 w0 : Int) (w : World) (hn : 1 ≤ n) (hx : x.toNat < 128) (z0 : w.cell? ⟨B, 0, none⟩ = some (.slice (some ⟨b, o, none⟩) n c)) (z1 : w.cell? ⟨B, 1, none⟩ = some (.int .i64 0)) (z2 : w.cell? ⟨B, 2, none⟩ = some (.int .i32 r0)) (z3 : w.cell? ⟨B, 3, none⟩ = some (.int .i64 w0))
    (zf : ∀ j, w.frozen? ⟨B, j, none⟩ = false) (hc : w.cell? ⟨b, o, none⟩ = some (.int .u8 x.toNat)) :
    Calls Tryd.prog 19 #[.pointer (some ⟨B, 0, none⟩)] w fun e w' => e = .returned (.tuple #[]) ∧ ∃ m, w' = ((w.setCell ⟨B, 2, none⟩ (.int .i32 x.toNat)).setCell ⟨B, 3, none⟩ (.int .i64 1)).drewN m := by
  have hz : (0 : Int) < (n : Int) := by omega
  have hxz : (x.toNat : Int) < 128 := by omega
  go_enter Tryd.func19, Tryd.ntmps19
  go_wp2
  go_quiet (fail)
  go_wp2
  go_quiet (fail)
  go_wp2
  go_region
  all_goals
    go_wp2
    go_end0
    exact ⟨rfl, _, rfl⟩

theorem tabs_heap {w w' : World} {N : Nat} (h : Lib.Utf8Tabs 0 1 w) (hB : Below N w w') (hN : 2 ≤ N) : Lib.Utf8Tabs 0 1 w' :=
  ⟨fun c hc => by rw [hB.cell (p := ⟨0, c, none⟩) (by show 0 < N; omega)]; exact h.1 c hc,
   fun i hi => ⟨by rw [hB.cell (p := ⟨1, 2 * i, none⟩) (by show 1 < N; omega)]; exact (h.2 i hi).1, by rw [hB.cell (p := ⟨1, 2 * i + 1, none⟩) (by show 1 < N; omega)]; exact (h.2 i hi).2⟩⟩

theorem cell_of_heap {W w : World} (h : W.heap = w.heap) (a : Addr) : W.cell? a = w.cell? a := by unfold World.cell?; rw [h]
theorem tabs_of_heap {W w : World} (h : Lib.Utf8Tabs 0 1 w) (hW : W.heap = w.heap) : Lib.Utf8Tabs 0 1 W :=
  ⟨fun c hc => by rw [cell_of_heap hW]; exact h.1 c hc, fun i hi => ⟨by rw [cell_of_heap hW]; exact (h.2 i hi).1, by rw [cell_of_heap hW]; exact (h.2 i hi).2⟩⟩

set_option maxHeartbeats 4000000 in
set_option maxRecDepth 100000 in
theorem decode_slow (B b o c : Nat) (bs : List UInt8) (r0 w0 : Int) (w : World) (hn : bs.length ≠ 0) (hnc : bs.length ≤ c) (hx : 128 ≤ (bs.getD 0 0).toNat) (z0 : w.cell? ⟨B, 0, none⟩ = some (.slice (some ⟨b, o, none⟩) bs.length c)) (z1 : w.cell? ⟨B, 1, none⟩ = some (.int .i64 0)) (z2 : w.cell? ⟨B, 2, none⟩ = some (.int .i32 r0)) (z3 : w.cell? ⟨B, 3, none⟩ = some (.int .i64 w0))
    (zf : ∀ j, w.frozen? ⟨B, j, none⟩ = false) (hc : ∀ i, i < bs.length → w.cell? ⟨b, o + i, none⟩ = some (.int .u8 (bs.getD i 0).toNat)) (hT : Lib.Utf8Tabs 0 1 w) :
    Calls Tryd.prog 19 #[.pointer (some ⟨B, 0, none⟩)] w fun e w' => e = .returned (.tuple #[]) ∧ ∃ w1, Below w.heap.size w w1 ∧ w' = ((w1.setCell ⟨B, 2, none⟩ (.int .i32 (dec bs).1)).setCell ⟨B, 3, none⟩ (.int .i64 (dec bs).2)) := by
  have hB : B < w.heap.size := World.block_lt_of_cell? _ _ z0
  have HC := aside hc
  have HT := aside hT
  have hc0 : w.cell? ⟨b, o, none⟩ = some (.int .u8 (bs.getD 0 0).toNat) := by simpa using hc 0 (by omega)
  have HDR := aside (fun (W : World) (hW : W.heap = w.heap) => decodeRune_any b o c bs W hn (tabs_of_heap HT.out hW) (fun i hi => by rw [cell_of_heap hW]; exact HC.out i hi))
  have HN := aside hn
  clear hc hT
  generalize (bs.getD 0 0).toNat = x at hx hc0
  generalize (dec bs).1 = R at HDR ⊢
  generalize (dec bs).2 = K at HDR ⊢
  generalize hgn : bs.length = n at z0 HDR hnc hn ⊢
  clear hgn
  have hz : (0 : Int) < (n : Int) := by omega
  have hxz : (128 : Int) ≤ (x : Int) := by omega
  have hc0' : ¬ c = 0 := by omega
  go_enter Tryd.func19, Tryd.ntmps19
  go_wp2
  go_quiet (fail)
  go_wp2
  go_quiet (fail)
  go_wp2
  go_region_with (go_at_call 21; refine (HDR.out _ ?_).mono ?_; exact rfl; rintro e w1 ⟨rfl, hb1⟩; have y2 : w1.cell? ⟨B, 2, none⟩ = some (.int .i32 r0) := (hb1.cell (p := ⟨B, 2, none⟩) hB).trans z2; have y3 : w1.cell? ⟨B, 3, none⟩ = some (.int .i64 w0) := (hb1.cell (p := ⟨B, 3, none⟩) hB).trans z3; have yf : ∀ j, w1.frozen? ⟨B, j, none⟩ = false := fun j => (hb1.frozen (p := ⟨B, j, none⟩) hB).trans (zf j); replace hb1 := aside hb1)
  all_goals
    go_wp2
    go_end0
    exact ⟨rfl, w1, (below_drewN (Below.refl _ _) _).trans hb1.out, rfl⟩

/-- THE SCANNER at block B: its text, its offset 0, its character and width, its position. -/
def Sc (w : World) (B : Nat) (p : Option Addr) (n : Nat) (r k l c : Int) : Prop :=
  w.cell? ⟨B, 0, none⟩ = some (.slice p n n) ∧ w.cell? ⟨B, 1, none⟩ = some (.int .i64 0) ∧ w.cell? ⟨B, 2, none⟩ = some (.int .i32 r) ∧ w.cell? ⟨B, 3, none⟩ = some (.int .i64 k) ∧
  w.cell? ⟨B, 4, none⟩ = some (.int .i64 l) ∧ w.cell? ⟨B, 5, none⟩ = some (.int .i64 c) ∧ ∀ j, w.frozen? ⟨B, j, none⟩ = false
theorem Sc.below {w w' : World} {B : Nat} {p : Option Addr} {n : Nat} {r k l c : Int} (h : Sc w B p n r k l c) {N : Nat} (hB : Below N w w') (hN : B < N) : Sc w' B p n r k l c := by
  obtain ⟨z0, z1, z2, z3, z4, z5, zf⟩ := h
  exact ⟨(hB.cell (p := ⟨B, 0, none⟩) hN).trans z0, (hB.cell (p := ⟨B, 1, none⟩) hN).trans z1, (hB.cell (p := ⟨B, 2, none⟩) hN).trans z2, (hB.cell (p := ⟨B, 3, none⟩) hN).trans z3, (hB.cell (p := ⟨B, 4, none⟩) hN).trans z4, (hB.cell (p := ⟨B, 5, none⟩) hN).trans z5, fun j => (hB.frozen (p := ⟨B, j, none⟩) hN).trans (zf j)⟩
theorem ne_off {B i j : Nat} (h : i ≠ j) : (⟨B, i, none⟩ : Addr) ≠ ⟨B, j, none⟩ := fun e => by injection e with _ h2 _; exact h h2
theorem Sc.set23 {w : World} {B : Nat} {p : Option Addr} {n : Nat} {r k l c : Int} (h : Sc w B p n r k l c) (r' k' : Int) : Sc ((w.setCell ⟨B, 2, none⟩ (.int .i32 r')).setCell ⟨B, 3, none⟩ (.int .i64 k')) B p n r' k' l c := by
  obtain ⟨z0, z1, z2, z3, z4, z5, zf⟩ := h
  refine ⟨?_, ?_, ?_, ?_, ?_, ?_, fun j => by rw [World.frozen?_setCell, World.frozen?_setCell]; exact zf j⟩
  · rw [World.cell?_setCell_other _ _ _ _ (ne_off (by omega)), World.cell?_setCell_other _ _ _ _ (ne_off (by omega))]; exact z0
  · rw [World.cell?_setCell_other _ _ _ _ (ne_off (by omega)), World.cell?_setCell_other _ _ _ _ (ne_off (by omega))]; exact z1
  · rw [World.cell?_setCell_other _ _ _ _ (ne_off (by omega)), World.cell?_setCell_same _ _ _ z2]
  · rw [World.cell?_setCell_same _ _ _ ((World.cell?_setCell_other _ _ _ _ (ne_off (by omega))).trans z3)]
  · rw [World.cell?_setCell_other _ _ _ _ (ne_off (by omega)), World.cell?_setCell_other _ _ _ _ (ne_off (by omega))]; exact z4
  · rw [World.cell?_setCell_other _ _ _ _ (ne_off (by omega)), World.cell?_setCell_other _ _ _ _ (ne_off (by omega))]; exact z5
theorem Sc.drewN {w : World} {B : Nat} {p : Option Addr} {n : Nat} {r k l c : Int} (h : Sc w B p n r k l c) (m : Nat) : Sc (w.drewN m) B p n r k l c := h

theorem decode_any (B : Nat) (p : Option Addr) (n : Nat) (bs : List UInt8) (r0 w0 l c : Int) (w : World) (hsc : Sc w B p n r0 w0 l c) (hb : bs.length = n) (hbig : n ≤ 1048576) (hba : BA w B p n bs) (hT : Lib.Utf8Tabs 0 1 w) :
    Calls Tryd.prog 19 #[.pointer (some ⟨B, 0, none⟩)] w fun e w' => e = .returned (.tuple #[]) ∧ Sc w' B p n (dec bs).1 (dec bs).2 l c ∧ Below B w w' := by
  have hsc' := hsc
  obtain ⟨z0, z1, z2, z3, z4, z5, zf⟩ := hsc
  have hBs : B < w.heap.size := World.block_lt_of_cell? _ _ z0
  have bel : ∀ {w1 : World}, Below w.heap.size w w1 → ∀ u v, Below B w ((w1.setCell ⟨B, 2, none⟩ u).setCell ⟨B, 3, none⟩ v) := fun h u v => ((h.mono (Nat.le_of_lt hBs)).setCell (p := ⟨B, 2, none⟩) (Nat.le_refl _) u).setCell (p := ⟨B, 3, none⟩) (Nat.le_refl _) v
  by_cases hn : n = 0
  · subst hn
    have hd : dec bs = (-1, 0) := by unfold dec; rw [if_pos hb]
    refine (decode_nil B p 0 r0 w0 w z0 z1 z2 z3 zf).mono ?_
    rintro e w' ⟨rfl, m, rfl⟩
    rw [hd]
    exact ⟨rfl, (hsc'.set23 _ _).drewN m, below_drewN (bel (Below.refl _ _) _ _) m⟩
  · obtain ⟨b, o, rfl, hbB, hc⟩ := hba (by omega)
    by_cases hx : (bs.getD 0 0).toNat < 128
    · have hd : dec bs = (((bs.getD 0 0).toNat : Int), 1) := by
        unfold dec
        rw [if_neg (by omega)]
        unfold decodeN
        rw [if_pos hx]
        rfl
      refine (decode_ascii B b o n n (bs.getD 0 0) r0 w0 w (by omega) hx z0 z1 z2 z3 zf (by simpa using hc 0 (by omega))).mono ?_
      rintro e w' ⟨rfl, m, rfl⟩
      rw [hd]
      exact ⟨rfl, (hsc'.set23 _ _).drewN m, below_drewN (bel (Below.refl _ _) _ _) m⟩
    · subst hb
      refine (decode_slow B b o bs.length bs r0 w0 w hn (Nat.le_refl _) (by omega) z0 z1 z2 z3 zf hc hT).mono ?_
      rintro e w' ⟨rfl, w1, hb1, rfl⟩
      exact ⟨rfl, (hsc'.below hb1 hBs).set23 _ _, bel hb1 _ _⟩

set_option maxHeartbeats 1000000 in
set_option maxRecDepth 100000 in
theorem continueWith_any (B : Nat) (p : Option Addr) (n : Nat) (bs : List UInt8) (l c : Int) (w : World) (hsc : Sc w B none 0 0 0 l c) (hb : bs.length = n) (hbig : n ≤ 1048576) (hba : BA w B p n bs) (hT : Lib.Utf8Tabs 0 1 w) (h2 : 2 ≤ B) :
    Calls Tryd.prog 8 #[.pointer (some ⟨B, 0, none⟩), .slice p n n] w fun e w' => e = .returned (.tuple #[]) ∧ Sc w' B p n (dec bs).1 (dec bs).2 l c ∧ Below B w w' := by
  obtain ⟨z0, z1, z2, z3, z4, z5, zf⟩ := hsc
  have hB1 : Below B w ((w.setCell ⟨B, 0, none⟩ (.slice p n n)).setCell ⟨B, 1, none⟩ (.int .i64 0)) := ((Below.refl B w).setCell (p := ⟨B, 0, none⟩) (Nat.le_refl _) _).setCell (p := ⟨B, 1, none⟩) (Nat.le_refl _) _
  have hs1 : Sc ((w.setCell ⟨B, 0, none⟩ (.slice p n n)).setCell ⟨B, 1, none⟩ (.int .i64 0)) B p n 0 0 l c := by
    refine ⟨?_, ?_, ?_, ?_, ?_, ?_, fun j => by rw [World.frozen?_setCell, World.frozen?_setCell]; exact zf j⟩
    · rw [World.cell?_setCell_other _ _ _ _ (ne_off (by omega)), World.cell?_setCell_same _ _ _ z0]
    · rw [World.cell?_setCell_same _ _ _ ((World.cell?_setCell_other _ _ _ _ (ne_off (by omega))).trans z1)]
    · rw [World.cell?_setCell_other _ _ _ _ (ne_off (by omega)), World.cell?_setCell_other _ _ _ _ (ne_off (by omega))]; exact z2
    · rw [World.cell?_setCell_other _ _ _ _ (ne_off (by omega)), World.cell?_setCell_other _ _ _ _ (ne_off (by omega))]; exact z3
    · rw [World.cell?_setCell_other _ _ _ _ (ne_off (by omega)), World.cell?_setCell_other _ _ _ _ (ne_off (by omega))]; exact z4
    · rw [World.cell?_setCell_other _ _ _ _ (ne_off (by omega)), World.cell?_setCell_other _ _ _ _ (ne_off (by omega))]; exact z5
  have CD := aside (decode_any B p n bs 0 0 l c _ hs1 hb hbig (hba.below hB1) (tabs_heap hT hB1 h2))
  clear hs1 hba hT
  have HB1 := aside hB1
  clear hB1
  have inner : Calls Tryd.prog 17 #[.pointer (some ⟨B, 0, none⟩), .slice p n n] w fun e w' => e = .returned (.tuple #[]) ∧ Sc w' B p n (dec bs).1 (dec bs).2 l c ∧ Below B w w' := by
    go_enter Tryd.func17, Tryd.ntmps17
    go_wp2_with fail
    refine CD.out.mono ?_
    rintro e w' ⟨rfl, hS, hB⟩
    have HS := aside hS
    have HB := aside hB
    clear hS hB
    go_wp2
    go_end0
    exact ⟨rfl, HS.out, HB1.out.trans HB.out⟩
  have IN := aside inner
  clear inner CD HB1
  go_enter Tryd.func8, Tryd.ntmps8
  go_wp2_with fail
  refine IN.out.mono ?_
  rintro e w' ⟨rfl, hS, hB⟩
  have HS := aside hS
  have HB := aside hB
  clear hS hB
  go_wp2
  go_end0
  exact ⟨rfl, HS.out, HB.out⟩

set_option maxHeartbeats 1000000 in
set_option maxRecDepth 100000 in
theorem fields_any (B : Nat) (p : Option Addr) (n : Nat) (r k l c : Int) (w : World) (hsc : Sc w B p n r k l c) :
    Calls Tryd.prog 9 #[.pointer (some ⟨B, 0, none⟩)] w fun e w' => e = .returned (.tuple #[.slice p n n, .int .i64 0, .int .i32 r, .int .i64 k, .int .i64 l, .int .i64 c]) ∧ ∃ m, w' = w.drewN m := by
  obtain ⟨z0, z1, z2, z3, z4, z5, zf⟩ := hsc
  go_enter Tryd.func9, Tryd.ntmps9
  go_wp2
  go_quiet (fail)
  go_wp2
  refine bodyPost_ret (v := .tuple #[.slice p n n, .int .i64 0, .int .i32 r, .int .i64 k, .int .i64 l, .int .i64 c]) (by simp [results, Tryd.results9, go_sem]) rfl ⟨rfl, _, rfl⟩

end Go.Proofs.Qxb6609376aDoor
