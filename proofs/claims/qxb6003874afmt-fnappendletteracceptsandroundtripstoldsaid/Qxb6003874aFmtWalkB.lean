/-
  THE WALK OF zzBytes, of the letter's law.
-/
import Derived.Test.Qxb6003874aFmtWalkA
namespace Go.Proofs.Qxb6003874aFmt
open Go.RowKit

set_option maxHeartbeats 1000000 in
theorem zzBytesL_yes (p : Option Addr) (n c : Nat) (i s t u : ByteArray) (x y z : Int) (w : World) (h : n + i.size + s.size + t.size + u.size ≤ 1048576) :
    Calls Tryf.prog 17 #[.slice p n c, .string i, .int .i64 x, .string s, .int .i32 y, .string t, .string u, .int .i64 z] w fun e w' => e = .returned (.bool true) ∧ w' = w := by
  have a0 : ¬ (1048576 : Int) < (n : Int) := by omega
  have a1 : ¬ (1048576 : Int) < (i.size : Int) := by omega
  have b1 : ¬ (1048576 : Int) < (n : Int) + (i.size : Int) := by omega
  have a2 : ¬ (1048576 : Int) < (s.size : Int) := by omega
  have b2 : ¬ (1048576 : Int) < (n : Int) + (i.size : Int) + (s.size : Int) := by omega
  have a3 : ¬ (1048576 : Int) < (t.size : Int) := by omega
  have b3 : ¬ (1048576 : Int) < (n : Int) + (i.size : Int) + (s.size : Int) + (t.size : Int) := by omega
  have a4 : ¬ (1048576 : Int) < (u.size : Int) := by omega
  have b4 : ¬ (1048576 : Int) < (n : Int) + (i.size : Int) + (s.size : Int) + (t.size : Int) + (u.size : Int) := by omega
  go_enter Tryf.func17, Tryf.ntmps17
  go_wp2
  go_ret
  exact ⟨rfl, rfl⟩
set_option maxHeartbeats 1000000 in
theorem zzBytesL_no (p : Option Addr) (n c : Nat) (i s t u : ByteArray) (x y z : Int) (w : World) (h : ¬ n + i.size + s.size + t.size + u.size ≤ 1048576) :
    Calls Tryf.prog 17 #[.slice p n c, .string i, .int .i64 x, .string s, .int .i32 y, .string t, .string u, .int .i64 z] w fun e w' => e = .returned (.bool false) ∧ w' = w := by
  by_cases h0 : n ≤ 1048576
  case neg =>
    have z : (1048576 : Int) < (n : Int) := by omega
    go_enter Tryf.func17, Tryf.ntmps17
    go_wp2
    go_ret
    exact ⟨rfl, rfl⟩
  have a0 : ¬ (1048576 : Int) < (n : Int) := by omega
  by_cases h1 : i.size ≤ 1048576
  case neg =>
    have z : (1048576 : Int) < (i.size : Int) := by omega
    go_enter Tryf.func17, Tryf.ntmps17
    go_wp2
    go_ret
    exact ⟨rfl, rfl⟩
  have a1 : ¬ (1048576 : Int) < (i.size : Int) := by omega
  by_cases g1 : n + i.size ≤ 1048576
  case neg =>
    have z : (1048576 : Int) < (n : Int) + (i.size : Int) := by omega
    go_enter Tryf.func17, Tryf.ntmps17
    go_wp2
    go_ret
    exact ⟨rfl, rfl⟩
  have b1 : ¬ (1048576 : Int) < (n : Int) + (i.size : Int) := by omega
  by_cases h2 : s.size ≤ 1048576
  case neg =>
    have z : (1048576 : Int) < (s.size : Int) := by omega
    go_enter Tryf.func17, Tryf.ntmps17
    go_wp2
    go_ret
    exact ⟨rfl, rfl⟩
  have a2 : ¬ (1048576 : Int) < (s.size : Int) := by omega
  by_cases g2 : n + i.size + s.size ≤ 1048576
  case neg =>
    have z : (1048576 : Int) < (n : Int) + (i.size : Int) + (s.size : Int) := by omega
    go_enter Tryf.func17, Tryf.ntmps17
    go_wp2
    go_ret
    exact ⟨rfl, rfl⟩
  have b2 : ¬ (1048576 : Int) < (n : Int) + (i.size : Int) + (s.size : Int) := by omega
  by_cases h3 : t.size ≤ 1048576
  case neg =>
    have z : (1048576 : Int) < (t.size : Int) := by omega
    go_enter Tryf.func17, Tryf.ntmps17
    go_wp2
    go_ret
    exact ⟨rfl, rfl⟩
  have a3 : ¬ (1048576 : Int) < (t.size : Int) := by omega
  by_cases g3 : n + i.size + s.size + t.size ≤ 1048576
  case neg =>
    have z : (1048576 : Int) < (n : Int) + (i.size : Int) + (s.size : Int) + (t.size : Int) := by omega
    go_enter Tryf.func17, Tryf.ntmps17
    go_wp2
    go_ret
    exact ⟨rfl, rfl⟩
  have b3 : ¬ (1048576 : Int) < (n : Int) + (i.size : Int) + (s.size : Int) + (t.size : Int) := by omega
  by_cases h4 : u.size ≤ 1048576
  case neg =>
    have z : (1048576 : Int) < (u.size : Int) := by omega
    go_enter Tryf.func17, Tryf.ntmps17
    go_wp2
    go_ret
    exact ⟨rfl, rfl⟩
  have a4 : ¬ (1048576 : Int) < (u.size : Int) := by omega
  have z : (1048576 : Int) < (n : Int) + (i.size : Int) + (s.size : Int) + (t.size : Int) + (u.size : Int) := by omega
  go_enter Tryf.func17, Tryf.ntmps17
  go_wp2
  go_ret
  exact ⟨rfl, rfl⟩

end Go.Proofs.Qxb6003874aFmt
