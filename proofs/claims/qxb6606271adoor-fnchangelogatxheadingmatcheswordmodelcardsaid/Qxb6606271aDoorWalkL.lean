/-
  THE WALKS OF ZZatxHeading AND OF THE LAW.
-/
import Derived.Test.Qxb6606271aDoorWalkB
import Derived.Test.Qxb6606271aDoorWalkH
namespace Go.Proofs.Qxb6606271aDoor
open Go.RowKit
open Pl

/-- What ZZatxHeading answers. -/
def ZAns (w' : World) (bs : List UInt8) (e : Ending) : Prop :=
  (isHead bs = false ∧ e = .returned (.tuple #[.int .i64 0, .int .u8 0, .bool false, .slice none 0 0, .int .i64 0, .int .i64 0, .int .i64 0, .bool false])) ∨
  (isHead bs = true ∧ ∃ p' c', e = .returned (.tuple #[.int .i64 (lvl bs), .int .u8 0, .bool false, .slice p' (body (rest bs)).length c', .int .i64 0, .int .i64 0, .int .i64 0, .bool true]) ∧ BA w' p' (body (rest bs)).length (body (rest bs)))

theorem BA.drewN {w : World} {p : Option Addr} {n : Nat} {bs : List UInt8} (h : BA w p n bs) (m : Nat) : BA (w.drewN m) p n bs := fun h0 => by
  obtain ⟨b, o, rfl, hc⟩ := h h0
  exact ⟨b, o, rfl, fun i hi => by rw [World.cell?_drewN]; exact hc i hi⟩

theorem below_drewN {B : Nat} {a w : World} (h : Below B a w) (m : Nat) : Below B a (w.drewN m) := ⟨h.os, h.tape, h.output, h.size, h.block⟩

set_option maxHeartbeats 2000000 in
set_option maxRecDepth 100000 in
theorem zz_any (p : Option Addr) (n : Nat) (bs : List UInt8) (w : World) (hb : bs.length = n) (hbig : n ≤ 1048576) (h1 : BA w p n bs) :
    Calls Tryd.prog 10 #[.slice p n n] w fun e w' => ZAns w' bs e ∧ Below w.heap.size w w' := by
  have CH := aside (heading_any p n bs w hb hbig h1)
  clear h1
  go_enter Tryd.func10, Tryd.ntmps10
  go_wp2_with fail
  refine CH.out.mono ?_
  rintro e w1 ⟨hA, hB⟩
  rcases hA with ⟨hno, rfl⟩ | ⟨hyes, p', c', rfl, hba⟩
  · have hno := aside hno
    have hB := aside hB
    go_wp2
    go_quiet (fail)
    go_wp2
    refine bodyPost_ret (v := .tuple #[.int .i64 0, .int .u8 0, .bool false, .slice none 0 0, .int .i64 0, .int .i64 0, .int .i64 0, .bool false]) (by simp [results, Tryd.results10, go_sem]) rfl ⟨Or.inl ⟨hno.out, rfl⟩, ?_⟩
    exact below_drewN (hB.out.alloc (hB.out.size) _) _
  · have HY := aside hyes
    have HB := aside hB
    have HBA := aside hba
    clear hyes hB hba
    generalize hgl : lvl bs = L
    have HL := aside hgl
    generalize hgb : body (rest bs) = F at HBA
    have HF := aside hgb
    clear hgl hgb
    go_wp2
    go_quiet (fail)
    go_wp2
    refine bodyPost_ret (v := .tuple #[.int .i64 L, .int .u8 0, .bool false, .slice p' F.length c', .int .i64 0, .int .i64 0, .int .i64 0, .bool true]) (by simp [results, Tryd.results10, go_sem]) rfl ⟨Or.inr ⟨HY.out, p', c', by rw [HL.out, HF.out], ?_⟩, below_drewN (HB.out.alloc (HB.out.size) _) _⟩
    rw [HF.out]
    exact (HBA.out.below ((Below.refl _ _).alloc (Nat.le_refl _) _)).drewN _

theorem fin_len (t : List UInt8) : (fin t).length ≤ t.length := by
  unfold fin
  split
  · exact Nat.le_trans (Lib.trimRightS_len_le _ _) (Lib.trimRightS_len_le _ _)
  · exact Nat.le_refl _
theorem tb_len (t : List UInt8) : (tb t).length ≤ t.length := by
  unfold tb
  exact Nat.le_trans (List.dropWhile_suffix _).length_le (Lib.trimRightS_len_le _ _)
theorem body_len (t : List UInt8) : (body t).length ≤ t.length := by
  unfold body
  exact Nat.le_trans (fin_len _) (tb_len _)

/-- The clone, nil or not. -/
theorem clone_any (a : Option Addr) (n c : Nat) (bs : List UInt8) (w : World) (hb : bs.length = n) (hnc : n ≤ c) (hbig : n ≤ 1048576) (hnil : a = none → n = 0 ∧ c = 0) (h1 : BA w a n bs) :
    Calls Tryd.prog 7 #[.slice a n c] w fun e w' => ∃ p1, e = .returned (.slice p1 n n) ∧ Below w.heap.size w w' ∧ BA w' p1 n bs := by
  cases a with
  | none =>
    obtain ⟨rfl, rfl⟩ := hnil rfl
    refine (clone_nil w).mono ?_
    rintro e w' ⟨rfl, rfl⟩
    exact ⟨none, rfl, Below.refl _ _, h1⟩
  | some a =>
    refine (clone_some a n c bs w hb hnc hbig h1).mono ?_
    rintro e w' ⟨rfl, hB, hba⟩
    exact ⟨_, rfl, hB, hba⟩

set_option maxHeartbeats 2000000 in
set_option maxRecDepth 100000 in
theorem law_any (a : Option Addr) (n c : Nat) (bs : List UInt8) (w : World) (hb : bs.length = n) (hnc : n ≤ c) (hm : c ≤ maxLen) (hnil : a = none → n = 0 ∧ c = 0) (h1 : BA w a n bs) :
    Calls Tryd.prog 4 #[.slice a n c] w fun e w' => e = .returned (.bool true) ∧ Below w.heap.size w w' := by
  unfold maxLen at hm
  by_cases hbig : n ≤ 1048576
  · have CC := aside (clone_any a n c bs w hb hnc hbig hnil h1)
    have hbz : ¬ (1048576 : Int) < (n : Int) := by omega
    clear h1 hnil
    go_enter Tryd.func4, Tryd.ntmps4
    go_wp2_with fail
    refine (zzBytes_yes a n c _ hbig).mono ?_
    rintro e w' ⟨rfl, hw⟩
    rw [hw]
    go_wp2_with fail
    refine CC.out.mono ?_
    rintro e w1 ⟨p1, rfl, hB1, hba1⟩
    have HB1 := aside hB1
    have HBA1 := aside hba1
    clear hB1 hba1 CC hw
    go_wp2_with fail
    refine (zz_any p1 n bs w1 hb hbig HBA1.out).mono ?_
    rintro e w2 ⟨hZ, hB2⟩
    have HB2 := aside (HB1.out.trans (hB2.mono HB1.out.size))
    have HM := aside (model_any p1 n n bs w2 hb (Nat.le_refl _) hbig (HBA1.out.below hB2))
    clear hB2
    rcases hZ with ⟨hno, rfl⟩ | ⟨hyes, p', c', rfl, hba⟩
    · have HN := aside hno
      clear hno
      go_wp2_with fail
      refine HM.out.mono ?_
      rintro e w3 ⟨hMA, m, hw3⟩
      rcases hMA with ⟨_, rfl⟩ | ⟨hy, _⟩
      · rw [hw3]
        go_wp2
        go_ret
        exact ⟨rfl, below_drewN HB2.out m⟩
      · rw [HN.out] at hy
        cases hy
    · have HY := aside hyes
      have HBA := aside hba
      clear hyes hba
      go_wp2_with fail
      refine HM.out.mono ?_
      rintro e w3 ⟨hMA, m, hw3⟩
      rcases hMA with ⟨hy, _⟩ | ⟨_, p4, c4, rfl, hba4⟩
      · rw [HY.out] at hy
        cases hy
      · rw [hw3]
        have HBA4 := aside hba4
        clear hba4
        have hFl : (body (rest bs)).length ≤ 1048576 := by
          have h1 := body_len (rest bs)
          have h2 : (rest bs).length ≤ bs.length := by unfold rest; rw [List.length_drop]; omega
          omega
        generalize lvl bs = L
        generalize body (rest bs) = F at HBA HBA4 hFl ⊢
        go_wp2_with fail
        refine (equal_yes p' p4 F.length c' c4 F _ rfl hFl (HBA.out.drewN m) (HBA4.out.drewN m)).mono ?_
        rintro e w5 ⟨rfl, q, hw5⟩
        rw [hw5]
        go_wp2
        go_ret
        exact ⟨rfl, below_drewN HB2.out _⟩
  · have hbz : (1048576 : Int) < (n : Int) := by omega
    go_enter Tryd.func4, Tryd.ntmps4
    go_wp2_with (go_at_call 9; refine (zzBytes_no a n c _ (by omega) (by unfold maxLen; omega)).mono ?_; rintro e w' ⟨rfl, hw⟩; rw [hw])
    go_ret
    exact ⟨rfl, Below.refl _ _⟩

end Go.Proofs.Qxb6606271aDoor
