/-
  THE WALKS OF zzBytes, zzLead, zzWalkAt, zzStartsWellFormed.
-/
import Derived.Test.Qxb6003900aDoorProg
import Derived.Test.Qxb6003900aDoorPlain
import Derived.WalkKit
import Derived.WalkSpells
import Derived.Deep.LoopGhost
import Derived.Deep.QuietTactic
import Derived.BigQuiet
import Derived.Deep.OwnRows
import Derived.Lib.SlBuf
namespace Go.Proofs.Qxb6003900aDoor
open Go.RowKit

theorem aside {q : Prop} (h : q) : Aside q := h
/-- A slice of bytes as it lies, below block B: where there is a byte: an address of no spot, with its cells; where there is none: whatever the address. -/
def BA (w : World) (B : Nat) (p : Option Addr) (n : Nat) (bs : List UInt8) : Prop := 0 < n → ∃ b o, p = some ⟨b, o, none⟩ ∧ b < B ∧ ∀ i, i < n → w.cell? ⟨b, o + i, none⟩ = some (.int .u8 (bs.getD i 0).toNat)
theorem BA.below {w w' : World} {B : Nat} {p : Option Addr} {n : Nat} {bs : List UInt8} (h : BA w B p n bs) (hB : Below B w w') : BA w' B p n bs := fun h0 => by
  obtain ⟨b, o, rfl, hb, hc⟩ := h h0
  exact ⟨b, o, rfl, hb, fun i hi => by rw [hB.cell (p := ⟨b, o + i, none⟩) hb]; exact hc i hi⟩
theorem BA.mono {w : World} {B B' : Nat} {p : Option Addr} {n : Nat} {bs : List UInt8} (h : BA w B p n bs) (hB : B ≤ B') : BA w B' p n bs := fun h0 => by
  obtain ⟨b, o, rfl, hb, hc⟩ := h h0
  exact ⟨b, o, rfl, by omega, hc⟩
theorem below_drewN {B : Nat} {a w : World} (h : Below B a w) (m : Nat) : Below B a (w.drewN m) := ⟨h.os, h.tape, h.output, h.size, h.block⟩

set_option maxHeartbeats 400000 in
theorem zzBytes_no (p : Option Addr) (n c : Nat) (w : World) (h : 1048576 < n) : Calls Tryd.prog 4 #[.slice p n c] w fun e w' => e = .returned (.bool false) ∧ w' = w := by
  have h1 : (1048576 : Int) < (n : Int) := by omega
  go_enter Tryd.func4, Tryd.ntmps4
  go_wp2
  go_ret
  exact ⟨rfl, rfl⟩
set_option maxHeartbeats 400000 in
theorem zzBytes_yes (p : Option Addr) (n c : Nat) (w : World) (h : n ≤ 1048576) : Calls Tryd.prog 4 #[.slice p n c] w fun e w' => e = .returned (.bool true) ∧ w' = w := by
  have h1 : ¬ (1048576 : Int) < (n : Int) := by omega
  have h2 : (n : Int) ≤ 1048576 := by omega
  go_enter Tryd.func4, Tryd.ntmps4
  go_wp2
  go_ret
  exact ⟨rfl, rfl⟩

set_option maxHeartbeats 4000000 in
set_option maxRecDepth 100000 in
theorem lead_any (x : Nat) (hx : x < 256) (w : World) : Calls Tryd.prog 8 #[.int .u8 x] w fun e w' => e = .returned (.tuple #[.int .i64 (need x), .int .u8 (lo x), .int .u8 (hi x)]) ∧ w' = w := by
  have val : ∀ (k : Int) (l h : Nat), need x = k → lo x = l → hi x = h → (Value.tuple #[.int .i64 (need x), .int .u8 (lo x), .int .u8 (hi x)] = .tuple #[.int .i64 k, .int .u8 l, .int .u8 h]) := fun k l h e1 e2 e3 => by rw [e1, e2, e3]
  by_cases c : x < 128
  case pos =>
    have z1 : (x : Int) < 128 := by omega
    have V := aside (val 0 128 191 (by unfold need; (repeat' split) <;> omega) (by unfold lo; (repeat' split) <;> omega) (by unfold hi; (repeat' split) <;> omega))
    clear c
    clear val
    go_enter Tryd.func8, Tryd.ntmps8
    go_wp2
    exact bodyPost_ret (v := .tuple #[.int .i64 0, .int .u8 128, .int .u8 191]) (by simp [results, Tryd.results8]) rfl ⟨by rw [V.out]; rfl, rfl⟩
  have z2 : ¬ (x : Int) < 128 := by omega
  have d0 := c
  clear c
  by_cases c : 194 ≤ x ∧ x ≤ 223
  case pos =>
    have z3 : (194 : Int) ≤ (x : Int) := by omega
    have z4 : (x : Int) ≤ 223 := by omega
    have V := aside (val 1 128 191 (by unfold need; (repeat' split) <;> omega) (by unfold lo; (repeat' split) <;> omega) (by unfold hi; (repeat' split) <;> omega))
    clear c
    clear val
    go_enter Tryd.func8, Tryd.ntmps8
    go_wp2
    exact bodyPost_ret (v := .tuple #[.int .i64 1, .int .u8 128, .int .u8 191]) (by simp [results, Tryd.results8]) rfl ⟨by rw [V.out]; rfl, rfl⟩
  have d1 := c
  clear c
  by_cases cl : x < 194
  case pos =>
    have z5 : ¬ (194 : Int) ≤ (x : Int) := by omega
    have z6 : ((x : Int) == 224) = false := by rw [beq_eq_false_iff_ne]; omega
    have z7 : ((x : Int) == 237) = false := by rw [beq_eq_false_iff_ne]; omega
    have z8 : ¬ (225 : Int) ≤ (x : Int) := by omega
    have z9 : ((x : Int) == 240) = false := by rw [beq_eq_false_iff_ne]; omega
    have z10 : ((x : Int) == 244) = false := by rw [beq_eq_false_iff_ne]; omega
    have z11 : ¬ (241 : Int) ≤ (x : Int) := by omega
    have V := aside (val (-1) 128 191 (by unfold need; (repeat' split) <;> omega) (by unfold lo; (repeat' split) <;> omega) (by unfold hi; (repeat' split) <;> omega))
    clear d0 d1 cl
    clear val
    go_enter Tryd.func8, Tryd.ntmps8
    go_wp2
    exact bodyPost_ret (v := .tuple #[.int .i64 (-1), .int .u8 128, .int .u8 191]) (by simp [results, Tryd.results8]) rfl ⟨by rw [V.out]; rfl, rfl⟩
  have z12 : (194 : Int) ≤ (x : Int) := by omega
  have z13 : ¬ (x : Int) ≤ 223 := by omega
  by_cases c : x = 224
  case pos =>
    have z14 : ((x : Int) == 224) = true := by rw [beq_iff_eq]; omega
    have V := aside (val 2 160 191 (by unfold need; (repeat' split) <;> omega) (by unfold lo; (repeat' split) <;> omega) (by unfold hi; (repeat' split) <;> omega))
    clear c
    clear val
    go_enter Tryd.func8, Tryd.ntmps8
    go_wp2
    exact bodyPost_ret (v := .tuple #[.int .i64 2, .int .u8 160, .int .u8 191]) (by simp [results, Tryd.results8]) rfl ⟨by rw [V.out]; rfl, rfl⟩
  have z15 : ((x : Int) == 224) = false := by rw [beq_eq_false_iff_ne]; omega
  have d2 := c
  clear c
  by_cases c : x = 237
  case pos =>
    have z16 : ((x : Int) == 237) = true := by rw [beq_iff_eq]; omega
    have V := aside (val 2 128 159 (by unfold need; (repeat' split) <;> omega) (by unfold lo; (repeat' split) <;> omega) (by unfold hi; (repeat' split) <;> omega))
    clear c
    clear val
    go_enter Tryd.func8, Tryd.ntmps8
    go_wp2
    exact bodyPost_ret (v := .tuple #[.int .i64 2, .int .u8 128, .int .u8 159]) (by simp [results, Tryd.results8]) rfl ⟨by rw [V.out]; rfl, rfl⟩
  have z17 : ((x : Int) == 237) = false := by rw [beq_eq_false_iff_ne]; omega
  have d3 := c
  clear c
  by_cases c : x ≤ 239
  case pos =>
    have z18 : (225 : Int) ≤ (x : Int) := by omega
    have z19 : (x : Int) ≤ 239 := by omega
    have V := aside (val 2 128 191 (by unfold need; (repeat' split) <;> omega) (by unfold lo; (repeat' split) <;> omega) (by unfold hi; (repeat' split) <;> omega))
    clear c
    clear val
    go_enter Tryd.func8, Tryd.ntmps8
    go_wp2
    exact bodyPost_ret (v := .tuple #[.int .i64 2, .int .u8 128, .int .u8 191]) (by simp [results, Tryd.results8]) rfl ⟨by rw [V.out]; rfl, rfl⟩
  have z20 : ¬ (x : Int) ≤ 239 := by omega
  have d4 := c
  clear c
  by_cases c : x = 240
  case pos =>
    have z21 : ((x : Int) == 240) = true := by rw [beq_iff_eq]; omega
    have V := aside (val 3 144 191 (by unfold need; (repeat' split) <;> omega) (by unfold lo; (repeat' split) <;> omega) (by unfold hi; (repeat' split) <;> omega))
    clear c
    clear val
    go_enter Tryd.func8, Tryd.ntmps8
    go_wp2
    exact bodyPost_ret (v := .tuple #[.int .i64 3, .int .u8 144, .int .u8 191]) (by simp [results, Tryd.results8]) rfl ⟨by rw [V.out]; rfl, rfl⟩
  have z22 : ((x : Int) == 240) = false := by rw [beq_eq_false_iff_ne]; omega
  have d5 := c
  clear c
  by_cases c : x = 244
  case pos =>
    have z23 : ((x : Int) == 244) = true := by rw [beq_iff_eq]; omega
    have V := aside (val 3 128 143 (by unfold need; (repeat' split) <;> omega) (by unfold lo; (repeat' split) <;> omega) (by unfold hi; (repeat' split) <;> omega))
    clear c
    clear val
    go_enter Tryd.func8, Tryd.ntmps8
    go_wp2
    exact bodyPost_ret (v := .tuple #[.int .i64 3, .int .u8 128, .int .u8 143]) (by simp [results, Tryd.results8]) rfl ⟨by rw [V.out]; rfl, rfl⟩
  have z24 : ((x : Int) == 244) = false := by rw [beq_eq_false_iff_ne]; omega
  have d6 := c
  clear c
  by_cases c : x ≤ 243
  case pos =>
    have z25 : (241 : Int) ≤ (x : Int) := by omega
    have z26 : (x : Int) ≤ 243 := by omega
    have V := aside (val 3 128 191 (by unfold need; (repeat' split) <;> omega) (by unfold lo; (repeat' split) <;> omega) (by unfold hi; (repeat' split) <;> omega))
    clear c
    clear val
    go_enter Tryd.func8, Tryd.ntmps8
    go_wp2
    exact bodyPost_ret (v := .tuple #[.int .i64 3, .int .u8 128, .int .u8 191]) (by simp [results, Tryd.results8]) rfl ⟨by rw [V.out]; rfl, rfl⟩
  have z27 : ¬ (x : Int) ≤ 243 := by omega
  have d7 := c
  clear c
  have V := aside (val (-1) 128 191 (by unfold need; (repeat' split) <;> omega) (by unfold lo; (repeat' split) <;> omega) (by unfold hi; (repeat' split) <;> omega))
  clear d0 d1 d2 d3 d4 d5 d6 d7
  clear val
  go_enter Tryd.func8, Tryd.ntmps8
  go_wp2
  exact bodyPost_ret (v := .tuple #[.int .i64 (-1), .int .u8 128, .int .u8 191]) (by simp [results, Tryd.results8]) rfl ⟨by rw [V.out]; rfl, rfl⟩

/-- What zzWalkAt says at place 0. -/
def WSaid (bs : List UInt8) (e : Ending) : Prop := ∃ (m : Nat) (ok : Bool), e = .returned (.tuple #[.int .i64 (m : Int), .bool ok]) ∧ Wk bs m ok
/-- What zzStartsWellFormed says. -/
def BSaid (bs : List UInt8) (e : Ending) : Prop := ∃ (m : Nat) (ok : Bool), e = .returned (.bool ok) ∧ Wk bs m ok
set_option maxHeartbeats 4000000 in
set_option maxRecDepth 100000 in
theorem walk_any (p : Option Addr) (B n c : Nat) (bs : List UInt8) (w : World) (hb : bs.length = n) (h0 : 1 ≤ n) (hbig : n ≤ 1048576) (h1 : BA w B p n bs) :
    Calls Tryd.prog 6 #[.slice p n c, .int .i64 0] w fun e w' => WSaid bs e ∧ w' = w := by
  obtain ⟨b, o, rfl, hB, hc⟩ := h1 (by omega)
  have HC := aside hc
  obtain ⟨x, hx⟩ : ∃ x, x = (bs.getD 0 0).toNat := ⟨_, rfl⟩
  have c0 : w.cell? ⟨b, o, none⟩ = some (.int .u8 (x : Int)) := by rw [hx]; simpa using hc 0 (by omega)
  have hxl : x < 256 := by rw [hx]; exact (bs.getD 0 0).toNat_lt
  have HX := aside hx
  have HBL := aside hb
  have CL := aside (fun w => lead_any x hxl w)
  have hnl := need_le x
  clear hc hx hb
  have h0z : (0 : Int) < (n : Int) := by omega
  generalize hk : need x = K at CL hnl
  generalize hl : lo x = l at CL
  generalize hh : hi x = h at CL
  have HKn := aside hk
  have HLo := aside hl
  have HHi := aside hh
  clear hk hl hh
  go_enter Tryd.func6, Tryd.ntmps6
  go_wp2_with fail
  refine (CL.out _).mono ?_
  rintro e w' ⟨rfl, hw⟩
  rw [hw]
  clear hw CL c0
  by_cases hK : K < 0
  · have HK1 := aside (show K = -1 by omega)
    go_wp2
    refine bodyPost_ret (v := .tuple #[.int .i64 1, .bool false]) (by simp [results, Tryd.results6]) rfl ⟨⟨1, false, rfl, .inl ⟨?_, rfl, rfl⟩⟩, rfl⟩
    rw [← HX.out, HKn.out, HK1.out]
  · obtain ⟨k, hk⟩ : ∃ k : Nat, K = k := ⟨K.toNat, by omega⟩
    subst hk
    have hk3 : k ≤ 3 := by omega
    have hK' : ¬ (k : Int) < 0 := by omega
    clear hnl hK
    go_wp2
    go_loopg [7, 8, 9, 10] k (fun g s7 s8 s9 s10 wr => ∃ (j l' h' : Nat), j ≤ k ∧ j + g = k ∧ s7 = .int .u8 l' ∧ s8 = .int .u8 h' ∧ s9 = .int .i64 ((j : Int) + 1) ∧ s10 = .int .i64 (j : Int) ∧ wr = w ∧ Aside ((j = 0 ∧ l' = l ∧ h' = h) ∨ (1 ≤ j ∧ l' = 128 ∧ h' = 191)) ∧ Aside (∀ q, 1 ≤ q → q ≤ j → okAt bs q))
    case atStart => exact ⟨0, l, h, by omega, by omega, rfl, rfl, by go_num, by go_num, rfl, aside (.inl ⟨rfl, rfl, rfl⟩), aside (fun q h1 h2 => by omega)⟩
    case round =>
      obtain ⟨j, l', h', hjk, hgj, rfl, rfl, rfl, rfl, rfl, J0, J⟩ := hrel
      have OK := aside (show okAt bs (j + 1) ↔ j + 1 < n ∧ l' ≤ (bs.getD (j + 1) 0).toNat ∧ (bs.getD (j + 1) 0).toNat ≤ h' by
        unfold okAt
        rw [HBL.out]
        rcases J0.out with ⟨rfl, rfl, rfl⟩ | ⟨h1, rfl, rfl⟩
        · rw [if_pos rfl, ← HX.out, HLo.out, HHi.out]
        · rw [if_neg (by omega)])
      have NEED := aside (show need (bs.getD 0 0).toNat = (k : Int) by rw [← HX.out]; exact HKn.out)
      by_cases hjl : j < k
      · have hjz : (j : Int) < (k : Int) := by omega
        have BAD := aside (show ¬ okAt bs (j + 1) → Wk bs (j + 1) false from fun hn => .inr (.inr ⟨k, NEED.out, by omega, by omega, rfl, fun q h1 h2 => J.out q h1 (by omega), hn⟩))
        by_cases hn1 : j + 1 < n
        · have hn1z : ¬ (n : Int) ≤ (j : Int) + 1 := by omega
          have hn1y : (j : Int) + 1 < (n : Int) := by omega
          have cj := HC.out (j + 1) hn1
          generalize hy : (bs.getD (j + 1) 0).toNat = y at cj OK
          clear hy
          by_cases y1 : y < l'
          · have y1z : (y : Int) < (l' : Int) := by omega
            have BD := aside (BAD.out (fun h => by have := OK.out.1 h; omega))
            clear y1
            go_wp2
            exact bodyPost_ret (v := .tuple #[.int .i64 ((j : Int) + 1), .bool false]) (by simp [results, Tryd.results6]) rfl ⟨⟨j + 1, false, rfl, BD.out⟩, rfl⟩
          have y1z : ¬ (y : Int) < (l' : Int) := by omega
          by_cases y2 : h' < y
          · have y2z : (h' : Int) < (y : Int) := by omega
            have BD := aside (BAD.out (fun h => by have := OK.out.1 h; omega))
            clear y1 y2
            go_wp2
            exact bodyPost_ret (v := .tuple #[.int .i64 ((j : Int) + 1), .bool false]) (by simp [results, Tryd.results6]) rfl ⟨⟨j + 1, false, rfl, BD.out⟩, rfl⟩
          have y2z : ¬ (h' : Int) < (y : Int) := by omega
          have J' := aside (show ∀ q, 1 ≤ q → q ≤ j + 1 → okAt bs q from fun q h1 h2 => by
            by_cases e : q = j + 1
            · subst e; exact OK.out.2 ⟨by omega, by omega, by omega⟩
            · exact J.out q h1 (by omega))
          clear y1 y2
          go_wp2
          go_roundg (gk - 1)
          case measure => omega
          case rel => exact ⟨j + 1, 128, 191, by omega, by omega, rfl, rfl, by go_num, by go_num, rfl, aside (.inr ⟨by omega, rfl, rfl⟩), J'⟩
        · have hn1z : (n : Int) ≤ (j : Int) + 1 := by omega
          have BD := aside (BAD.out (fun h => by have := OK.out.1 h; omega))
          go_wp2
          exact bodyPost_ret (v := .tuple #[.int .i64 ((j : Int) + 1), .bool false]) (by simp [results, Tryd.results6]) rfl ⟨⟨j + 1, false, rfl, BD.out⟩, rfl⟩
      · have hjz : ¬ (j : Int) < (k : Int) := by omega
        have GD := aside (show Wk bs (j + 1) true from .inr (.inl ⟨k, NEED.out, by omega, rfl, fun q h1 h2 => J.out q h1 (by omega)⟩))
        go_wp2
        exact bodyPost_ret (v := .tuple #[.int .i64 ((j : Int) + 1), .bool true]) (by simp [results, Tryd.results6]) rfl ⟨⟨j + 1, true, rfl, GD.out⟩, rfl⟩

set_option maxHeartbeats 1000000 in
theorem starts_any (p : Option Addr) (B n c : Nat) (bs : List UInt8) (w : World) (hb : bs.length = n) (h0 : 1 ≤ n) (hbig : n ≤ 1048576) (h1 : BA w B p n bs) :
    Calls Tryd.prog 5 #[.slice p n c] w fun e w' => BSaid bs e ∧ w' = w := by
  have C := aside (walk_any p B n c bs w hb h0 hbig h1)
  clear hb h0 hbig h1
  go_enter Tryd.func5, Tryd.ntmps5
  go_wp2_with fail
  refine C.out.mono ?_
  rintro e w' ⟨⟨m, ok, rfl, hW⟩, hw⟩
  have HW := aside hW
  rw [hw]
  clear hw hW
  go_wp2
  exact bodyPost_ret (v := .bool ok) (by simp [results, Tryd.results5]) rfl ⟨⟨m, ok, rfl, HW.out⟩, rfl⟩

end Go.Proofs.Qxb6003900aDoor
