/-
  THE WALK OF THE LAW.
-/
import Derived.Test.Qxb6609376aDoorWalkB
namespace Go.Proofs.Qxb6609376aDoor
open Go.RowKit Go.Lib

set_option maxHeartbeats 2000000 in
set_option maxRecDepth 100000 in
theorem law_any (l co : Int) (a : Option Addr) (n c : Nat) (bs : List UInt8) (w : World) (hb : bs.length = n) (hnc : n ≤ c) (hnil : a = none → n = 0 ∧ c = 0) (h1 : BA w w.heap.size a n bs) (hT : Lib.Utf8Tabs 0 1 w) :
    Calls Tryd.prog 3 #[.int .i64 l, .int .i64 co, .slice a n c] w fun e w' => e = .returned (.bool true) ∧ Below w.heap.size w w' := by
  have h2 : 2 ≤ w.heap.size := World.block_lt_of_cell? _ _ (hT.2 0 (by omega)).1
  by_cases hbig : n ≤ 1048576
  · have CC := aside (clone_any a n c bs w hb hnc hbig hnil h1)
    have HT := aside hT
    have hbz : ¬ (1048576 : Int) < (n : Int) := by omega
    clear h1 hnil hT
    go_enter Tryd.func3, Tryd.ntmps3
    go_wp2_with fail
    refine (zzBytes_yes l co a n c _ hbig).mono ?_
    rintro e w' ⟨rfl, hw⟩
    rw [hw]
    go_wp2_with fail
    refine CC.out.mono ?_
    rintro e w1 ⟨p1, rfl, hB1, hba1⟩
    have HB1 := aside hB1
    have HBA1 := aside hba1
    have hsz1 := hB1.size
    clear hB1 hba1 CC hw
    go_wp2_with fail
    refine (newScanner_any l co w1).mono ?_
    rintro e w2 ⟨rfl, hw2⟩
    have hB2 : Below w1.heap.size w1 w2 := by rw [hw2]; exact (Below.refl _ _).alloc (Nat.le_refl _) _
    have hS2 : Sc w2 w1.heap.size none 0 0 0 l co := by
      rw [hw2]
      refine ⟨?_, ?_, ?_, ?_, ?_, ?_, fun j => World.frozen?_alloc_at _ _ _ _ rfl⟩
      all_goals (rw [World.cell?_alloc_at _ _ _ _ rfl]; rfl)
    have HB2 := aside (HB1.out.trans (hB2.mono hsz1))
    have CW := aside (continueWith_any w1.heap.size p1 n bs l co w2 hS2 hb hbig (HBA1.out.below hB2) (tabs_heap HT.out HB2.out h2) (by omega))
    have HBA2 := aside (HBA1.out.below hB2)
    clear hw2 hB2 hS2
    go_wp2_with fail
    refine CW.out.mono ?_
    rintro e w3 ⟨rfl, hS3, hB3⟩
    have HB3 := aside (HB2.out.trans (hB3.mono hsz1))
    have HBA3 := aside (HBA2.out.below hB3)
    have HS3 := aside hS3
    clear hS3 hB3 CW
    go_wp2_with fail
    refine (fields_any _ _ _ _ _ _ _ w3 HS3.out).mono ?_
    rintro e w4 ⟨rfl, m, hw4⟩
    rw [hw4]
    clear hw4
    go_wp2_with fail
    refine (same_yes p1 w1.heap.size n n n bs _ hb hbig (HBA3.out.drewN m)).mono ?_
    rintro e w5 ⟨rfl, q, hw5⟩
    rw [hw5]
    clear hw5
    by_cases hn0 : n = 0
    · have hd : dec bs = (-1, 0) := by unfold dec; rw [if_pos (by omega)]
      rw [hd]
      have hnz : ((n : Int) == 0) = true := by simp [hn0]
      clear hn0 hd
      go_wp2
      go_ret
      exact ⟨rfl, below_drewN HB3.out _⟩
    · have hnz : ((n : Int) == 0) = false := by rw [beq_eq_false_iff_ne]; omega
      obtain ⟨b, o, rfl, hbB, hc⟩ := HBA3.out (by omega)
      subst hb
      have CD := aside (fun (W : World) (hW : W.heap = w3.heap) => decodeAt_any b o bs.length bs W hn0 hbig (fun i hi => by rw [cell_of_heap hW]; exact hc i hi))
      clear hc
      generalize (dec bs).1 = R at CD ⊢
      generalize (dec bs).2 = K at CD ⊢
      go_wp2_with fail
      refine (CD.out (w3.drewN (m + q)) rfl).mono ?_
      rintro e w6 ⟨rfl, hw6⟩
      rw [hw6]
      go_wp2
      go_ret
      exact ⟨rfl, below_drewN HB3.out _⟩
  · have hbz : (1048576 : Int) < (n : Int) := by omega
    go_enter Tryd.func3, Tryd.ntmps3
    go_wp2_with (go_at_call 5; refine (zzBytes_no l co a n c _ (by omega)).mono ?_; rintro e w' ⟨rfl, hw⟩; rw [hw])
    go_ret
    exact ⟨rfl, Below.refl _ _⟩

end Go.Proofs.Qxb6609376aDoor
