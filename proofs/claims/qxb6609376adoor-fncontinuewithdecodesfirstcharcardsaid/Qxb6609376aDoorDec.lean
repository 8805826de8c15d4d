/-
  THE WALK OF THE LAW's OWN DECODER: decodeAt(b, 0): what the model's own decode gives ('Lib.decodeN': Derived/Lib/DecodeN.lean), a class of lead bytes at a time.
-/
import Derived.Test.Qxb6609376aDoorProg
import Derived.WalkKit
import Derived.WalkSpells
import Derived.Laws.BitsLemmas
import Derived.Shelf.Unicode.DecodeSlow
namespace Go.Proofs.Qxb6609376aDoor
open Go.RowKit Go.Lib
set_option linter.unusedVariables false

set_option maxHeartbeats 2000000 in
set_option maxRecDepth 100000 in
theorem dec_C2 (b o n c b0 b1 b2 b3 : Nat) (w : World) (hn : 1 ≤ n) (hm : n ≤ 1048576) (hb : 194 ≤ b0 ∧ b0 < 224) (l1 : b1 < 256) (l2 : b2 < 256) (l3 : b3 < 256) (hs0 : w.cell? ⟨b, o, none⟩ = some (.int .u8 (b0 : Nat)))
    (hq1 : 1 < n → w.cell? ⟨b, o + 1, none⟩ = some (.int .u8 b1)) (hq2 : 2 < n → w.cell? ⟨b, o + 2, none⟩ = some (.int .u8 b2)) (hq3 : 3 < n → w.cell? ⟨b, o + 3, none⟩ = some (.int .u8 b3)) :
    Calls Tryd.prog 11 #[.slice (some ⟨b, o, none⟩) n c, .int .i64 0] w fun e w' => e = .returned (.tuple #[.int .i32 (slowN n b0 b1 b2 b3 2 128 191).1, .int .i64 (slowN n b0 b1 b2 b3 2 128 191).2]) ∧ w' = w := by
  have hz0 : (0 : Int) < (n : Int) := by omega
  obtain ⟨hb1, hb2⟩ := hb
  have hz1 : (194 : Int) ≤ (b0 : Int) := by omega
  have hz2 : (b0 : Int) < 224 := by omega
  by_cases hl : n < 2
  · have hlz : (n : Int) < 2 := by omega
    clear hq1 hq2 hq3
    go_enter Tryd.func11, Tryd.ntmps11
    go_wp2
    all_goals (go_ret2; refine ⟨?_, rfl⟩; utf8_leaf)
  · have hl1 : (1 : Int) < (n : Int) := by omega
    have hc1 := hq1 (by omega)
    have hlz : ¬ (n : Int) < 2 := by omega
    clear hq1 hq2 hq3
    go_enter Tryd.func11, Tryd.ntmps11
    go_wp2
    all_goals (go_ret2; refine ⟨?_, rfl⟩; utf8_leaf)

set_option maxHeartbeats 2000000 in
set_option maxRecDepth 100000 in
theorem dec_E0 (b o n c b0 b1 b2 b3 : Nat) (w : World) (hn : 1 ≤ n) (hm : n ≤ 1048576) (hb : 224 ≤ b0 ∧ b0 < 225) (l1 : b1 < 256) (l2 : b2 < 256) (l3 : b3 < 256) (hs0 : w.cell? ⟨b, o, none⟩ = some (.int .u8 (b0 : Nat)))
    (hq1 : 1 < n → w.cell? ⟨b, o + 1, none⟩ = some (.int .u8 b1)) (hq2 : 2 < n → w.cell? ⟨b, o + 2, none⟩ = some (.int .u8 b2)) (hq3 : 3 < n → w.cell? ⟨b, o + 3, none⟩ = some (.int .u8 b3)) :
    Calls Tryd.prog 11 #[.slice (some ⟨b, o, none⟩) n c, .int .i64 0] w fun e w' => e = .returned (.tuple #[.int .i32 (slowN n b0 b1 b2 b3 3 160 191).1, .int .i64 (slowN n b0 b1 b2 b3 3 160 191).2]) ∧ w' = w := by
  have hz0 : (0 : Int) < (n : Int) := by omega
  obtain ⟨hb1, hb2⟩ := hb
  have hz1 : (224 : Int) ≤ (b0 : Int) := by omega
  have hz2 : (b0 : Int) < 225 := by omega
  by_cases hl : n < 3
  · have hlz : (n : Int) < 3 := by omega
    clear hq1 hq2 hq3
    go_enter Tryd.func11, Tryd.ntmps11
    go_wp2
    all_goals (go_ret2; refine ⟨?_, rfl⟩; utf8_leaf)
  · have hl1 : (1 : Int) < (n : Int) := by omega
    have hc1 := hq1 (by omega)
    have hl2 : (2 : Int) < (n : Int) := by omega
    have hc2 := hq2 (by omega)
    have hlz : ¬ (n : Int) < 3 := by omega
    clear hq1 hq2 hq3
    go_enter Tryd.func11, Tryd.ntmps11
    go_wp2
    all_goals (go_ret2; refine ⟨?_, rfl⟩; utf8_leaf)

set_option maxHeartbeats 2000000 in
set_option maxRecDepth 100000 in
theorem dec_E1 (b o n c b0 b1 b2 b3 : Nat) (w : World) (hn : 1 ≤ n) (hm : n ≤ 1048576) (hb : 225 ≤ b0 ∧ b0 < 237) (l1 : b1 < 256) (l2 : b2 < 256) (l3 : b3 < 256) (hs0 : w.cell? ⟨b, o, none⟩ = some (.int .u8 (b0 : Nat)))
    (hq1 : 1 < n → w.cell? ⟨b, o + 1, none⟩ = some (.int .u8 b1)) (hq2 : 2 < n → w.cell? ⟨b, o + 2, none⟩ = some (.int .u8 b2)) (hq3 : 3 < n → w.cell? ⟨b, o + 3, none⟩ = some (.int .u8 b3)) :
    Calls Tryd.prog 11 #[.slice (some ⟨b, o, none⟩) n c, .int .i64 0] w fun e w' => e = .returned (.tuple #[.int .i32 (slowN n b0 b1 b2 b3 3 128 191).1, .int .i64 (slowN n b0 b1 b2 b3 3 128 191).2]) ∧ w' = w := by
  have hz0 : (0 : Int) < (n : Int) := by omega
  obtain ⟨hb1, hb2⟩ := hb
  have hz1 : (225 : Int) ≤ (b0 : Int) := by omega
  have hz2 : (b0 : Int) < 237 := by omega
  by_cases hl : n < 3
  · have hlz : (n : Int) < 3 := by omega
    clear hq1 hq2 hq3
    go_enter Tryd.func11, Tryd.ntmps11
    go_wp2
    all_goals (go_ret2; refine ⟨?_, rfl⟩; utf8_leaf)
  · have hl1 : (1 : Int) < (n : Int) := by omega
    have hc1 := hq1 (by omega)
    have hl2 : (2 : Int) < (n : Int) := by omega
    have hc2 := hq2 (by omega)
    have hlz : ¬ (n : Int) < 3 := by omega
    clear hq1 hq2 hq3
    go_enter Tryd.func11, Tryd.ntmps11
    go_wp2
    all_goals (go_ret2; refine ⟨?_, rfl⟩; utf8_leaf)

set_option maxHeartbeats 2000000 in
set_option maxRecDepth 100000 in
theorem dec_EE (b o n c b0 b1 b2 b3 : Nat) (w : World) (hn : 1 ≤ n) (hm : n ≤ 1048576) (hb : 238 ≤ b0 ∧ b0 < 239) (l1 : b1 < 256) (l2 : b2 < 256) (l3 : b3 < 256) (hs0 : w.cell? ⟨b, o, none⟩ = some (.int .u8 (b0 : Nat)))
    (hq1 : 1 < n → w.cell? ⟨b, o + 1, none⟩ = some (.int .u8 b1)) (hq2 : 2 < n → w.cell? ⟨b, o + 2, none⟩ = some (.int .u8 b2)) (hq3 : 3 < n → w.cell? ⟨b, o + 3, none⟩ = some (.int .u8 b3)) :
    Calls Tryd.prog 11 #[.slice (some ⟨b, o, none⟩) n c, .int .i64 0] w fun e w' => e = .returned (.tuple #[.int .i32 (slowN n b0 b1 b2 b3 3 128 191).1, .int .i64 (slowN n b0 b1 b2 b3 3 128 191).2]) ∧ w' = w := by
  have hz0 : (0 : Int) < (n : Int) := by omega
  obtain ⟨hb1, hb2⟩ := hb
  have hz1 : (238 : Int) ≤ (b0 : Int) := by omega
  have hz2 : (b0 : Int) < 239 := by omega
  by_cases hl : n < 3
  · have hlz : (n : Int) < 3 := by omega
    clear hq1 hq2 hq3
    go_enter Tryd.func11, Tryd.ntmps11
    go_wp2
    all_goals (go_ret2; refine ⟨?_, rfl⟩; utf8_leaf)
  · have hl1 : (1 : Int) < (n : Int) := by omega
    have hc1 := hq1 (by omega)
    have hl2 : (2 : Int) < (n : Int) := by omega
    have hc2 := hq2 (by omega)
    have hlz : ¬ (n : Int) < 3 := by omega
    clear hq1 hq2 hq3
    go_enter Tryd.func11, Tryd.ntmps11
    go_wp2
    all_goals (go_ret2; refine ⟨?_, rfl⟩; utf8_leaf)

set_option maxHeartbeats 2000000 in
set_option maxRecDepth 100000 in
theorem dec_EF (b o n c b0 b1 b2 b3 : Nat) (w : World) (hn : 1 ≤ n) (hm : n ≤ 1048576) (hb : 239 ≤ b0 ∧ b0 < 240) (l1 : b1 < 256) (l2 : b2 < 256) (l3 : b3 < 256) (hs0 : w.cell? ⟨b, o, none⟩ = some (.int .u8 (b0 : Nat)))
    (hq1 : 1 < n → w.cell? ⟨b, o + 1, none⟩ = some (.int .u8 b1)) (hq2 : 2 < n → w.cell? ⟨b, o + 2, none⟩ = some (.int .u8 b2)) (hq3 : 3 < n → w.cell? ⟨b, o + 3, none⟩ = some (.int .u8 b3)) :
    Calls Tryd.prog 11 #[.slice (some ⟨b, o, none⟩) n c, .int .i64 0] w fun e w' => e = .returned (.tuple #[.int .i32 (slowN n b0 b1 b2 b3 3 128 191).1, .int .i64 (slowN n b0 b1 b2 b3 3 128 191).2]) ∧ w' = w := by
  have hz0 : (0 : Int) < (n : Int) := by omega
  obtain ⟨hb1, hb2⟩ := hb
  have hz1 : (239 : Int) ≤ (b0 : Int) := by omega
  have hz2 : (b0 : Int) < 240 := by omega
  by_cases hl : n < 3
  · have hlz : (n : Int) < 3 := by omega
    clear hq1 hq2 hq3
    go_enter Tryd.func11, Tryd.ntmps11
    go_wp2
    all_goals (go_ret2; refine ⟨?_, rfl⟩; utf8_leaf)
  · have hl1 : (1 : Int) < (n : Int) := by omega
    have hc1 := hq1 (by omega)
    have hl2 : (2 : Int) < (n : Int) := by omega
    have hc2 := hq2 (by omega)
    have hlz : ¬ (n : Int) < 3 := by omega
    clear hq1 hq2 hq3
    go_enter Tryd.func11, Tryd.ntmps11
    go_wp2
    all_goals (go_ret2; refine ⟨?_, rfl⟩; utf8_leaf)

set_option maxHeartbeats 2000000 in
set_option maxRecDepth 100000 in
theorem dec_ED (b o n c b0 b1 b2 b3 : Nat) (w : World) (hn : 1 ≤ n) (hm : n ≤ 1048576) (hb : 237 ≤ b0 ∧ b0 < 238) (l1 : b1 < 256) (l2 : b2 < 256) (l3 : b3 < 256) (hs0 : w.cell? ⟨b, o, none⟩ = some (.int .u8 (b0 : Nat)))
    (hq1 : 1 < n → w.cell? ⟨b, o + 1, none⟩ = some (.int .u8 b1)) (hq2 : 2 < n → w.cell? ⟨b, o + 2, none⟩ = some (.int .u8 b2)) (hq3 : 3 < n → w.cell? ⟨b, o + 3, none⟩ = some (.int .u8 b3)) :
    Calls Tryd.prog 11 #[.slice (some ⟨b, o, none⟩) n c, .int .i64 0] w fun e w' => e = .returned (.tuple #[.int .i32 (slowN n b0 b1 b2 b3 3 128 159).1, .int .i64 (slowN n b0 b1 b2 b3 3 128 159).2]) ∧ w' = w := by
  have hz0 : (0 : Int) < (n : Int) := by omega
  obtain ⟨hb1, hb2⟩ := hb
  have hz1 : (237 : Int) ≤ (b0 : Int) := by omega
  have hz2 : (b0 : Int) < 238 := by omega
  by_cases hl : n < 3
  · have hlz : (n : Int) < 3 := by omega
    clear hq1 hq2 hq3
    go_enter Tryd.func11, Tryd.ntmps11
    go_wp2
    all_goals (go_ret2; refine ⟨?_, rfl⟩; utf8_leaf)
  · have hl1 : (1 : Int) < (n : Int) := by omega
    have hc1 := hq1 (by omega)
    have hl2 : (2 : Int) < (n : Int) := by omega
    have hc2 := hq2 (by omega)
    have hlz : ¬ (n : Int) < 3 := by omega
    clear hq1 hq2 hq3
    go_enter Tryd.func11, Tryd.ntmps11
    go_wp2
    all_goals (go_ret2; refine ⟨?_, rfl⟩; utf8_leaf)

set_option maxHeartbeats 2000000 in
set_option maxRecDepth 100000 in
theorem dec_F0 (b o n c b0 b1 b2 b3 : Nat) (w : World) (hn : 1 ≤ n) (hm : n ≤ 1048576) (hb : 240 ≤ b0 ∧ b0 < 241) (l1 : b1 < 256) (l2 : b2 < 256) (l3 : b3 < 256) (hs0 : w.cell? ⟨b, o, none⟩ = some (.int .u8 (b0 : Nat)))
    (hq1 : 1 < n → w.cell? ⟨b, o + 1, none⟩ = some (.int .u8 b1)) (hq2 : 2 < n → w.cell? ⟨b, o + 2, none⟩ = some (.int .u8 b2)) (hq3 : 3 < n → w.cell? ⟨b, o + 3, none⟩ = some (.int .u8 b3)) :
    Calls Tryd.prog 11 #[.slice (some ⟨b, o, none⟩) n c, .int .i64 0] w fun e w' => e = .returned (.tuple #[.int .i32 (slowN n b0 b1 b2 b3 4 144 191).1, .int .i64 (slowN n b0 b1 b2 b3 4 144 191).2]) ∧ w' = w := by
  have hz0 : (0 : Int) < (n : Int) := by omega
  obtain ⟨hb1, hb2⟩ := hb
  have hz1 : (240 : Int) ≤ (b0 : Int) := by omega
  have hz2 : (b0 : Int) < 241 := by omega
  by_cases hl : n < 4
  · have hlz : (n : Int) < 4 := by omega
    clear hq1 hq2 hq3
    go_enter Tryd.func11, Tryd.ntmps11
    go_wp2
    all_goals (go_ret2; refine ⟨?_, rfl⟩; utf8_leaf)
  · have hl1 : (1 : Int) < (n : Int) := by omega
    have hc1 := hq1 (by omega)
    have hl2 : (2 : Int) < (n : Int) := by omega
    have hc2 := hq2 (by omega)
    have hl3 : (3 : Int) < (n : Int) := by omega
    have hc3 := hq3 (by omega)
    have hlz : ¬ (n : Int) < 4 := by omega
    clear hq1 hq2 hq3
    go_enter Tryd.func11, Tryd.ntmps11
    go_wp2
    all_goals (go_ret2; refine ⟨?_, rfl⟩; utf8_leaf)

set_option maxHeartbeats 2000000 in
set_option maxRecDepth 100000 in
theorem dec_F1 (b o n c b0 b1 b2 b3 : Nat) (w : World) (hn : 1 ≤ n) (hm : n ≤ 1048576) (hb : 241 ≤ b0 ∧ b0 < 244) (l1 : b1 < 256) (l2 : b2 < 256) (l3 : b3 < 256) (hs0 : w.cell? ⟨b, o, none⟩ = some (.int .u8 (b0 : Nat)))
    (hq1 : 1 < n → w.cell? ⟨b, o + 1, none⟩ = some (.int .u8 b1)) (hq2 : 2 < n → w.cell? ⟨b, o + 2, none⟩ = some (.int .u8 b2)) (hq3 : 3 < n → w.cell? ⟨b, o + 3, none⟩ = some (.int .u8 b3)) :
    Calls Tryd.prog 11 #[.slice (some ⟨b, o, none⟩) n c, .int .i64 0] w fun e w' => e = .returned (.tuple #[.int .i32 (slowN n b0 b1 b2 b3 4 128 191).1, .int .i64 (slowN n b0 b1 b2 b3 4 128 191).2]) ∧ w' = w := by
  have hz0 : (0 : Int) < (n : Int) := by omega
  obtain ⟨hb1, hb2⟩ := hb
  have hz1 : (241 : Int) ≤ (b0 : Int) := by omega
  have hz2 : (b0 : Int) < 244 := by omega
  by_cases hl : n < 4
  · have hlz : (n : Int) < 4 := by omega
    clear hq1 hq2 hq3
    go_enter Tryd.func11, Tryd.ntmps11
    go_wp2
    all_goals (go_ret2; refine ⟨?_, rfl⟩; utf8_leaf)
  · have hl1 : (1 : Int) < (n : Int) := by omega
    have hc1 := hq1 (by omega)
    have hl2 : (2 : Int) < (n : Int) := by omega
    have hc2 := hq2 (by omega)
    have hl3 : (3 : Int) < (n : Int) := by omega
    have hc3 := hq3 (by omega)
    have hlz : ¬ (n : Int) < 4 := by omega
    clear hq1 hq2 hq3
    go_enter Tryd.func11, Tryd.ntmps11
    go_wp2
    all_goals (go_ret2; refine ⟨?_, rfl⟩; utf8_leaf)

set_option maxHeartbeats 2000000 in
set_option maxRecDepth 100000 in
theorem dec_F4 (b o n c b0 b1 b2 b3 : Nat) (w : World) (hn : 1 ≤ n) (hm : n ≤ 1048576) (hb : 244 ≤ b0 ∧ b0 < 245) (l1 : b1 < 256) (l2 : b2 < 256) (l3 : b3 < 256) (hs0 : w.cell? ⟨b, o, none⟩ = some (.int .u8 (b0 : Nat)))
    (hq1 : 1 < n → w.cell? ⟨b, o + 1, none⟩ = some (.int .u8 b1)) (hq2 : 2 < n → w.cell? ⟨b, o + 2, none⟩ = some (.int .u8 b2)) (hq3 : 3 < n → w.cell? ⟨b, o + 3, none⟩ = some (.int .u8 b3)) :
    Calls Tryd.prog 11 #[.slice (some ⟨b, o, none⟩) n c, .int .i64 0] w fun e w' => e = .returned (.tuple #[.int .i32 (slowN n b0 b1 b2 b3 4 128 143).1, .int .i64 (slowN n b0 b1 b2 b3 4 128 143).2]) ∧ w' = w := by
  have hz0 : (0 : Int) < (n : Int) := by omega
  obtain ⟨hb1, hb2⟩ := hb
  have hz1 : (244 : Int) ≤ (b0 : Int) := by omega
  have hz2 : (b0 : Int) < 245 := by omega
  by_cases hl : n < 4
  · have hlz : (n : Int) < 4 := by omega
    clear hq1 hq2 hq3
    go_enter Tryd.func11, Tryd.ntmps11
    go_wp2
    all_goals (go_ret2; refine ⟨?_, rfl⟩; utf8_leaf)
  · have hl1 : (1 : Int) < (n : Int) := by omega
    have hc1 := hq1 (by omega)
    have hl2 : (2 : Int) < (n : Int) := by omega
    have hc2 := hq2 (by omega)
    have hl3 : (3 : Int) < (n : Int) := by omega
    have hc3 := hq3 (by omega)
    have hlz : ¬ (n : Int) < 4 := by omega
    clear hq1 hq2 hq3
    go_enter Tryd.func11, Tryd.ntmps11
    go_wp2
    all_goals (go_ret2; refine ⟨?_, rfl⟩; utf8_leaf)

set_option maxHeartbeats 2000000 in
theorem dec_ascii (b o n c b0 : Nat) (w : World) (hn : 1 ≤ n) (hb : b0 < 128) (hs0 : w.cell? ⟨b, o, none⟩ = some (.int .u8 b0)) :
    Calls Tryd.prog 11 #[.slice (some ⟨b, o, none⟩) n c, .int .i64 0] w fun e w' => e = .returned (.tuple #[.int .i32 b0, .int .i64 1]) ∧ w' = w := by
  have hz0 : (0 : Int) < (n : Int) := by omega
  have hz1 : (b0 : Int) < 128 := by omega
  go_enter Tryd.func11, Tryd.ntmps11
  go_wp2
  go_ret2
  exact ⟨rfl, rfl⟩
set_option maxHeartbeats 2000000 in
set_option maxRecDepth 100000 in
theorem dec_low (b o n c b0 : Nat) (w : World) (hn : 1 ≤ n) (hb : 128 ≤ b0 ∧ b0 < 194) (hs0 : w.cell? ⟨b, o, none⟩ = some (.int .u8 b0)) :
    Calls Tryd.prog 11 #[.slice (some ⟨b, o, none⟩) n c, .int .i64 0] w fun e w' => e = .returned (.tuple #[.int .i32 65533, .int .i64 1]) ∧ w' = w := by
  have hz0 : (0 : Int) < (n : Int) := by omega
  have hz1 : (b0 : Int) < 194 := by omega
  have hz2 : (128 : Int) ≤ (b0 : Int) := by omega
  go_enter Tryd.func11, Tryd.ntmps11
  go_wp2
  go_ret2
  exact ⟨rfl, rfl⟩
set_option maxHeartbeats 2000000 in
set_option maxRecDepth 100000 in
theorem dec_high (b o n c b0 : Nat) (w : World) (hn : 1 ≤ n) (hb : 245 ≤ b0) (hs0 : w.cell? ⟨b, o, none⟩ = some (.int .u8 b0)) :
    Calls Tryd.prog 11 #[.slice (some ⟨b, o, none⟩) n c, .int .i64 0] w fun e w' => e = .returned (.tuple #[.int .i32 65533, .int .i64 1]) ∧ w' = w := by
  have hz0 : (0 : Int) < (n : Int) := by omega
  have hz2 : (245 : Int) ≤ (b0 : Int) := by omega
  go_enter Tryd.func11, Tryd.ntmps11
  go_wp2
  go_ret2
  exact ⟨rfl, rfl⟩

end Go.Proofs.Qxb6609376aDoor
