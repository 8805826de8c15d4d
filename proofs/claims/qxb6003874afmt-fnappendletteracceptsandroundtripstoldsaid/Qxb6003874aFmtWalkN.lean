/-
  THE WALKS OF plainjson.Nest (fmt.Errorf at one number, over the calling stop), zzExpectByte, zzReadInt.
-/
import Derived.Test.Qxb6003874aFmtStop
import Derived.Test.Qxb6003874aFmtBase
import Derived.Test.Qxb6003874aFmtNum
namespace Go.Proofs
open Go.Extern.Stop Go.Stop Go.Extern
@[go_sem] theorem Tryf.fmt1 : FmtStop.printed? ⟨#[97, 114, 114, 97, 121, 115, 32, 97, 110, 100, 32, 111, 98, 106, 101, 99, 116, 115, 32, 110, 101, 115, 116, 101, 100, 32, 109, 111, 114, 101, 32, 116, 104, 97, 110, 32, 37, 100, 32, 100, 101, 101, 112]⟩ 1 = some [(0, 100, false)] := by kernel_rfl
@[go_sem] theorem Tryf.fmt1r (w : World) : (FmtDoors.printed ⟨#[97, 114, 114, 97, 121, 115, 32, 97, 110, 100, 32, 111, 98, 106, 101, 99, 116, 115, 32, 110, 101, 115, 116, 101, 100, 32, 109, 111, 114, 101, 32, 116, 104, 97, 110, 32, 37, 100, 32, 100, 101, 101, 112]⟩ 1).run Tryf.prog w = .ok [(0, 100, false)] w := by kernel_rfl
def Tryf.shape3 : List UInt8 := [5, 3, 0, 0, 0, 0, 0, 0, 0, 105, 110, 116]
@[go_sem] theorem Tryf.act3_100w (name : String) (x : Value) (w : World) : (FmtCalls.act name true 100 false (.iface 3 x)).run Tryf.prog w = .ok (.closed true) w := by kernel_rfl
@[go_sem] theorem Tryf.op3_100w (name : String) (x : Int) (w : World) : (FmtStop.operand name true 100 false (.iface 3 (.int .i64 x))).run Tryf.prog w = .ok (Tryf.shape3, Go.Extern.Stop.digits 8 (x % 2 ^ 64).toNat) w := by kernel_rfl
end Go.Proofs
namespace Go.Proofs.Qxb6003874aFmt
open Go.RowKit Go.Lib Go.Extern.Stop Go.Stop Go.Extern

def readingD : List (List UInt8) := [[97, 114, 114, 97, 121, 115, 32, 97, 110, 100, 32, 111, 98, 106, 101, 99, 116, 115, 32, 110, 101, 115, 116, 101, 100, 32, 109, 111, 114, 101, 32, 116, 104, 97, 110, 32, 37, 100, 32, 100, 101, 101, 112], Tryf.shape3, Go.Extern.Stop.digits 8 ((1000 : Int) % 2 ^ 64).toNat]

set_option maxHeartbeats 800000 in
theorem errorf_d (F : Interp) (blk : Nat) (w : World) (hF : F.answers w.tape) (hc0 : w.cell? ⟨blk, 0, none⟩ = some (.iface 3 (.int .i64 1000))) :
    Calls Tryf.prog 23 #[.string ⟨#[97, 114, 114, 97, 121, 115, 32, 97, 110, 100, 32, 111, 98, 106, 101, 99, 116, 115, 32, 110, 101, 115, 116, 101, 100, 32, 109, 111, 114, 101, 32, 116, 104, 97, 110, 32, 37, 100, 32, 100, 101, 101, 112]⟩, .slice (some ⟨blk, 0, none⟩) 1 1] w fun e w' =>
      e = .returned (.iface 70 (.pointer (some ⟨w.heap.size, 0, none⟩))) ∧ w' = (w.alloc (.cells #[.string (FmtStop.textOf (F "fmt.errorf" readingD 0))] 72)).drew := by
  have hF' := answers_open hF
  go_enter Tryf.func23, Tryf.ntmps23
  go_wp2
  apply rows_value Tryf.nextTurns
  case hr =>
    go_simp
    exact ⟨rfl, rfl⟩
  case h =>
    go_wp2
    go_ret
    exact ⟨rfl, rfl⟩

set_option maxHeartbeats 1000000 in
set_option maxRecDepth 100000 in
theorem nest_no (d : Int) (w : World) (h : d ≠ 1000) : Calls Tryf.prog 9 #[.int .i64 d] w fun e w' => e = .returned (.tuple #[.int .i64 (wrap64 (d + 1)), .nilIface]) ∧ w' = w := by
  have h1 : (d == 1000) = false := by rw [beq_eq_false_iff_ne]; exact h
  clear h
  go_enter Tryf.func9, Tryf.ntmps9
  go_wp2
  exact bodyPost_ret (v := .tuple #[.int .i64 (wrap64 (d + 1)), .nilIface]) (by simp [results, Tryf.results9, go_sem]) rfl ⟨rfl, rfl⟩

set_option maxHeartbeats 1000000 in
set_option maxRecDepth 100000 in
theorem nest_yes (F : Interp) (w : World) (hF : F.answers w.tape) : Calls Tryf.prog 9 #[.int .i64 1000] w fun e w' => ∃ g, e = .returned (.tuple #[.int .i64 0, .iface 70 (.pointer (some ⟨g, 0, none⟩))]) ∧ Below w.heap.size w w' := by
  have HF := aside hF
  clear hF
  go_enter Tryf.func9, Tryf.ntmps9
  go_wp2_with fail
  have hB : Below w.heap.size w (w.alloc (.cells #[.iface 3 (.int .i64 1000)] 20)) := (Below.refl _ _).alloc (Nat.le_refl _) _
  refine (errorf_d F w.heap.size _ ?_ ?_).mono ?_
  · rw [hB.tape]; exact HF.out
  · rw [World.cell?_alloc_at _ _ _ _ rfl]; rfl
  rintro e w2 ⟨rfl, hw⟩
  have HB2 := aside (show Below w.heap.size w w2 by rw [hw]; exact below_drewN (hB.trans (((Below.refl _ _).alloc (Nat.le_refl _) _).mono hB.size)) 1)
  clear hw hB
  go_wp2
  exact bodyPost_ret (v := .tuple #[.int .i64 0, .iface 70 (.pointer (some ⟨w.heap.size + 1, 0, none⟩))]) (by simp [results, Tryf.results9, go_sem]) rfl ⟨w.heap.size + 1, rfl, HB2.out⟩

set_option maxHeartbeats 1000000 in
set_option maxRecDepth 100000 in
theorem expect_yes (b o n c i : Nat) (x : UInt8) (w : World) (hi : i < n) (hn : n ≤ 16777216) (hc : w.cell? ⟨b, o + i, none⟩ = some (.int .u8 x.toNat)) :
    Calls Tryf.prog 19 #[.slice (some ⟨b, o, none⟩) n c, .int .i64 i, .int .u8 x.toNat] w fun e w' => e = .returned (.tuple #[.int .i64 ((i : Int) + 1), .bool true]) ∧ w' = w := by
  have h0 : decide ((i : Int) < 0) = false := by rw [decide_eq_false_iff_not]; omega
  have h1 : decide (n ≤ i) = false := by rw [decide_eq_false_iff_not]; omega
  have hz : (i : Int) < (n : Int) := by omega
  go_enter Tryf.func19, Tryf.ntmps19
  go_wp2
  exact bodyPost_ret (v := .tuple #[.int .i64 ((i : Int) + 1), .bool true]) (by simp [results, Tryf.results19, go_sem]) rfl ⟨rfl, rfl⟩

end Go.Proofs.Qxb6003874aFmt
