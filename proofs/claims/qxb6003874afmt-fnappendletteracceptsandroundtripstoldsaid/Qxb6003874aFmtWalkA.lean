/-
  THE WALKS OF zzBytes, zzCopyBytes, zzEqual, zzEqualString.
-/
import Derived.Test.Qxb6003874aFmtBase
import Derived.Lib.SlBuf
namespace Go.Proofs.Qxb6003874aFmt
open Go.RowKit

set_option maxHeartbeats 1000000 in
theorem zzBytes_yes (p : Option Addr) (n c : Nat) (s t u : ByteArray) (w : World) (h : n + s.size + t.size + u.size ≤ 1048576) :
    Calls Tryf.prog 10 #[.slice p n c, .string s, .string t, .string u] w fun e w' => e = .returned (.bool true) ∧ w' = w := by
  have z1 : ¬ (1048576 : Int) < (n : Int) := by omega
  have y1 : (n : Int) ≤ 1048576 := by omega
  have z2 : ¬ (1048576 : Int) < (s.size : Int) := by omega
  have z3 : ¬ (1048576 : Int) < (n : Int) + (s.size : Int) := by omega
  have z4 : ¬ (1048576 : Int) < (t.size : Int) := by omega
  have z5 : ¬ (1048576 : Int) < (n : Int) + (s.size : Int) + (t.size : Int) := by omega
  have z6 : ¬ (1048576 : Int) < (u.size : Int) := by omega
  have z7 : ¬ (1048576 : Int) < (n : Int) + (s.size : Int) + (t.size : Int) + (u.size : Int) := by omega
  go_enter Tryf.func10, Tryf.ntmps10
  go_wp2
  go_ret
  exact ⟨rfl, rfl⟩
set_option maxHeartbeats 1000000 in
theorem zzBytes_no (p : Option Addr) (n c : Nat) (s t u : ByteArray) (w : World) (h : ¬ n + s.size + t.size + u.size ≤ 1048576) :
    Calls Tryf.prog 10 #[.slice p n c, .string s, .string t, .string u] w fun e w' => e = .returned (.bool false) ∧ w' = w := by
  by_cases h1 : n ≤ 1048576
  · have z1 : ¬ (1048576 : Int) < (n : Int) := by omega
    have y1 : (n : Int) ≤ 1048576 := by omega
    by_cases h2 : s.size ≤ 1048576
    · have z2 : ¬ (1048576 : Int) < (s.size : Int) := by omega
      have y2 : (s.size : Int) ≤ 1048576 := by omega
      by_cases h3 : n + s.size ≤ 1048576
      · have z3 : ¬ (1048576 : Int) < (n : Int) + (s.size : Int) := by omega
        by_cases h4 : t.size ≤ 1048576
        · have z4 : ¬ (1048576 : Int) < (t.size : Int) := by omega
          by_cases h5 : n + s.size + t.size ≤ 1048576
          · have z5 : ¬ (1048576 : Int) < (n : Int) + (s.size : Int) + (t.size : Int) := by omega
            by_cases h6 : u.size ≤ 1048576
            · have z6 : ¬ (1048576 : Int) < (u.size : Int) := by omega
              have z7 : (1048576 : Int) < (n : Int) + (s.size : Int) + (t.size : Int) + (u.size : Int) := by omega
              go_enter Tryf.func10, Tryf.ntmps10
              go_wp2
              go_ret
              exact ⟨rfl, rfl⟩
            · have z6 : (1048576 : Int) < (u.size : Int) := by omega
              go_enter Tryf.func10, Tryf.ntmps10
              go_wp2
              go_ret
              exact ⟨rfl, rfl⟩
          · have z5 : (1048576 : Int) < (n : Int) + (s.size : Int) + (t.size : Int) := by omega
            go_enter Tryf.func10, Tryf.ntmps10
            go_wp2
            go_ret
            exact ⟨rfl, rfl⟩
        · have z4 : (1048576 : Int) < (t.size : Int) := by omega
          go_enter Tryf.func10, Tryf.ntmps10
          go_wp2
          go_ret
          exact ⟨rfl, rfl⟩
      · have z3 : (1048576 : Int) < (n : Int) + (s.size : Int) := by omega
        go_enter Tryf.func10, Tryf.ntmps10
        go_wp2
        go_ret
        exact ⟨rfl, rfl⟩
    · have z2 : (1048576 : Int) < (s.size : Int) := by omega
      go_enter Tryf.func10, Tryf.ntmps10
      go_wp2
      go_ret
      exact ⟨rfl, rfl⟩
  · have z1 : (1048576 : Int) < (n : Int) := by omega
    go_enter Tryf.func10, Tryf.ntmps10
    go_wp2
    go_ret
    exact ⟨rfl, rfl⟩

theorem eq23 (w : World) (a : Option Addr) (n c n' c' : Nat) : (binOp .eql 23 (.slice a n c) (.slice none n' c')).run Tryf.prog w = .ok (.bool a.isNone) w := Lib.run_eql_slice_nil w _ _ a n c n' c' Tryf.underlying23

set_option maxHeartbeats 400000 in
theorem clone_nil (w : World) : Calls Tryf.prog 11 #[.slice none 0 0] w fun e w' => e = .returned (.slice none 0 0) ∧ w' = w := by
  have q23 := eq23
  go_enter Tryf.func11, Tryf.ntmps11
  go_wp2
  go_ret
  exact ⟨rfl, rfl⟩

/-- The clone behind k rounds. -/
def Cl (w wr : World) (n : Nat) (bs : List UInt8) (k : Nat) : Prop :=
  Below w.heap.size w wr ∧ wr.heap.size = w.heap.size + 1 ∧ (∀ i, i < n → wr.cell? ⟨w.heap.size, i, none⟩ = some (.int .u8 (if i < k then bs.getD i 0 else 0).toNat)) ∧ ∀ i, wr.frozen? ⟨w.heap.size, i, none⟩ = false

theorem Cl.start (w : World) (n : Nat) (bs : List UInt8) : Cl w (w.alloc (.cells (madeCells #[.int .u8 0] n) 5)) n bs 0 := by
  refine ⟨(Below.refl _ _).alloc (Nat.le_refl _) _, by simp, fun i hi => ?_, fun i => ?_⟩
  · rw [if_neg (by omega), World.cell?_alloc_at _ _ _ _ rfl, ← Array.getElem?_toList, toList_madeCells_one]
    simp [hi]
  · exact World.frozen?_alloc_at _ _ _ _ rfl
theorem Cl.next {w wr : World} {n : Nat} {bs : List UInt8} {k : Nat} (h : Cl w wr n bs k) (hk : k < n) (x : UInt8) (hx : x = bs.getD k 0) : Cl w (wr.setCell ⟨w.heap.size, k, none⟩ (.int .u8 x.toNat)) n bs (k + 1) := by
  obtain ⟨hb, hs, hc, hf⟩ := h
  refine ⟨hb.setCell (Nat.le_refl _) _, by rw [← hs]; simp [World.setCell], fun i hi => ?_, fun i => by rw [World.frozen?_setCell]; exact hf i⟩
  by_cases e : i = k
  · subst e
    rw [World.cell?_setCell_same _ _ _ (hc i hk), if_pos (by omega), hx]
  · rw [World.cell?_setCell_other _ _ _ _ (by intro h; injection h with _ h2 _; exact e h2.symm), hc i hi]
    congr 3
    by_cases h2 : i < k
    · rw [if_pos h2, if_pos (by omega)]
    · rw [if_neg h2, if_neg (by omega)]

set_option maxHeartbeats 1000000 in
theorem clone_some (a : Addr) (n c : Nat) (bs : List UInt8) (w : World) (hbig : n ≤ 1048576) (h1 : BA w w.heap.size (some a) n bs) :
    Calls Tryf.prog 11 #[.slice (some a) n c] w fun e w' => e = .returned (.slice (some ⟨w.heap.size, 0, none⟩) n n) ∧ Below w.heap.size w w' ∧ w'.heap.size = w.heap.size + 1 ∧ BA w' (w.heap.size + 1) (some ⟨w.heap.size, 0, none⟩) n bs := by
  have H1 := aside (h1)
  clear h1
  have q23 := eq23
  have hmk := fun w => run_make_row' (P := Tryf.prog) 23 5 (.int .u8 0) 1 Tryf.underlying23 Tryf.info5 rfl .i64 .i64 n (by omega) (by omega) w
  go_enter Tryf.func11, Tryf.ntmps11
  go_wp2
  go_loopg [4] n (fun g s4 wr => ∃ k : Nat, k ≤ n ∧ k + g = n ∧ s4 = .int .i64 k ∧ Aside (Cl w wr n bs k))
  case atStart => exact ⟨0, Nat.zero_le _, by omega, rfl, aside (Cl.start w n bs)⟩
  case round =>
    clear hmk q23
    obtain ⟨k, hkn, hkg, rfl, I⟩ := hrel
    by_cases hlt : k < n
    · have hltz : (k : Int) < (n : Int) := by omega
      obtain ⟨blk, o, hae, hbl, hc⟩ := H1.out (by omega)
      obtain rfl := Option.some.inj hae
      have hct := hc k hlt
      have hct' : wr.cell? ⟨blk, o + k, none⟩ = _ := (I.out.1.cell (p := ⟨blk, o + k, none⟩) hbl).trans hct
      have hco := I.out.2.2.1 k hlt
      have hfr := I.out.2.2.2 k
      generalize (if k < k then bs.getD k 0 else 0) = y at hco
      obtain ⟨x, hx⟩ : ∃ x, x = bs.getD k 0 := ⟨_, rfl⟩
      rw [← hx] at hct'
      have HX := aside (hx)
      clear hx hc hct
      go_wp2
      go_roundg (gk - 1)
      case measure => omega
      case rel =>
        exact ⟨k + 1, by omega, by omega, by go_num, aside (I.out.next hlt x HX.out)⟩
    · have hltz : ¬ (k : Int) < (n : Int) := by omega
      go_wp2
      go_ret
      obtain rfl : k = n := by omega
      refine ⟨rfl, I.out.1, I.out.2.1, fun _ => ⟨_, _, rfl, by omega, fun i hi => ?_⟩⟩
      rw [Nat.zero_add, I.out.2.2.1 i hi, if_pos hi]

/-- The clone, nil or not. -/
theorem clone_any (a : Option Addr) (n c : Nat) (bs : List UInt8) (w : World) (hbig : n ≤ 1048576) (hnil : a = none → n = 0 ∧ c = 0) (h1 : BA w w.heap.size a n bs) :
    Calls Tryf.prog 11 #[.slice a n c] w fun e w' => ∃ p1, e = .returned (.slice p1 n n) ∧ (p1 = none → n = 0) ∧ Below w.heap.size w w' ∧ BA w' w'.heap.size p1 n bs := by
  cases a with
  | none =>
    obtain ⟨rfl, rfl⟩ := hnil rfl
    refine (clone_nil w).mono ?_
    rintro e w' ⟨rfl, rfl⟩
    exact ⟨none, rfl, fun _ => rfl, Below.refl _ _, h1⟩
  | some a =>
    refine (clone_some a n c bs w hbig h1).mono ?_
    rintro e w' ⟨rfl, hB, hs, hba⟩
    exact ⟨_, rfl, (fun h => by cases h), hB, by rw [hs]; exact hba⟩

set_option maxHeartbeats 1000000 in
theorem equal_yes (p q : Option Addr) (B C n c d : Nat) (bs : List UInt8) (w : World) (hbig : n ≤ 16777216) (h1 : BA w B p n bs) (h2 : BA w C q n bs) :
    Calls Tryf.prog 14 #[.slice p n c, .slice q n d] w fun e w' => e = .returned (.bool true) ∧ ∃ m, w' = w.drewN m := by
  have H1 := aside h1
  have H2 := aside h2
  clear h1 h2
  go_enter Tryf.func14, Tryf.ntmps14
  go_wp2
  go_loopg [5] n (fun g s5 wr => ∃ k : Nat, k ≤ n ∧ k + g = n ∧ s5 = .int .i64 k ∧ ∃ m, wr = w.drewN m)
  case atStart => exact ⟨0, Nat.zero_le _, by omega, rfl, 0, rfl⟩
  case round =>
    obtain ⟨k, hkn, hkg, rfl, m, rfl⟩ := hrel
    by_cases hlt : k < n
    · have hltz : (k : Int) < (n : Int) := by omega
      obtain ⟨blk, o, rfl, _, hc⟩ := H1.out (by omega)
      obtain ⟨blk2, o2, rfl, _, hc2⟩ := H2.out (by omega)
      have hct := hc k hlt
      have hct2 := hc2 k hlt
      clear hc hc2
      generalize bs.getD k 0 = x at hct hct2
      go_wp2
      go_quiet (fail)
      go_wp2
      go_roundg (gk - 1)
      case measure => omega
      case rel => exact ⟨k + 1, by omega, by omega, by go_num, _, rfl⟩
    · have hltz : ¬ (k : Int) < (n : Int) := by omega
      go_wp2
      go_ret
      exact ⟨rfl, m, rfl⟩

theorem s_get (s : ByteArray) (k : Nat) (h : k < s.size) : s[k]'h = s.data.toList.getD k 0 := by
  rw [List.getD_eq_getElem?_getD, Array.getElem?_toList, Array.getElem?_eq_getElem (show k < s.data.size from h)]
  rfl
set_option maxHeartbeats 1000000 in
theorem equalString_yes (p : Option Addr) (B n c : Nat) (s : ByteArray) (w : World) (hs : s.size = n) (hbig : n ≤ 16777216) (h1 : BA w B p n s.data.toList) :
    Calls Tryf.prog 16 #[.slice p n c, .string s] w fun e w' => e = .returned (.bool true) ∧ ∃ m, w' = w.drewN m := by
  have H1 := aside h1
  clear h1
  have hsz : (s.size : Int) = (n : Int) := by omega
  go_enter Tryf.func16, Tryf.ntmps16
  go_wp2
  go_loopg [5] n (fun g s5 wr => ∃ k : Nat, k ≤ n ∧ k + g = n ∧ s5 = .int .i64 k ∧ ∃ m, wr = w.drewN m)
  case atStart => exact ⟨0, Nat.zero_le _, by omega, rfl, 0, rfl⟩
  case round =>
    obtain ⟨k, hkn, hkg, rfl, m, rfl⟩ := hrel
    by_cases hlt : k < n
    · have hltz : (k : Int) < (n : Int) := by omega
      obtain ⟨blk, o, rfl, _, hc⟩ := H1.out (by omega)
      have hct := hc k hlt
      clear hc
      have hsg := s_get s k
      generalize s.data.toList.getD k 0 = x at hct hsg
      go_wp2
      go_quiet (fail)
      go_wp2
      go_roundg (gk - 1)
      case measure => omega
      case rel => exact ⟨k + 1, by omega, by omega, by go_num, _, rfl⟩
    · have hltz : ¬ (k : Int) < (n : Int) := by omega
      go_wp2
      go_ret
      exact ⟨rfl, m, rfl⟩

end Go.Proofs.Qxb6003874aFmt
