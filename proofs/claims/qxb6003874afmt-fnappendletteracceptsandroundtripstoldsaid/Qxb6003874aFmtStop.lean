/-
  fmt.Errorf BY ITS CONTRACT, over the calling stop, at its format of a string and an error of errors.New's make: the closed facts of this dump (each by the kernel), then the walk.
-/
import Derived.Test.Qxb6003874aFmtProg
import Derived.Stop.CallBack
import Derived.Stop.IfaceNil
import Derived.WalkKit
import Derived.WalkSpells
import GoSem.ClaimData
namespace Go.Proofs
open Go.Extern.Stop Go.Stop Go.Extern

@[go_sem] theorem Tryf.call29 (args : Array Value) (w : World) : (callFunc 29 args).run Tryf.prog w = (FmtCalls.errorf #[9, 61] #[27] args).run Tryf.prog w :=
  run_callFunc_next Tryf.func29 (by kernel_rfl) (by kernel_rfl) (by kernel_rfl) args w
@[go_sem] theorem Tryf.guard (name : String) (w : World) : (FmtStop.guard name).run Tryf.prog w = .ok () w := by kernel_rfl
theorem Tryf.nextTurns : Extern.next FmtCalls.turnsRow = some (FmtCalls.begun #[] #[]) := by kernel_rfl
@[go_sem] theorem Tryf.fmt0 : FmtStop.printed? ⟨#[37, 115, 58, 32, 37, 119]⟩ 2 = some [(0, 115, false), (1, 119, false)] := by kernel_rfl
@[go_sem] theorem Tryf.fmt0r (w : World) : (FmtDoors.printed ⟨#[37, 115, 58, 32, 37, 119]⟩ 2).run Tryf.prog w = .ok [(0, 115, false), (1, 119, false)] w := by kernel_rfl
def Tryf.shape9 : List UInt8 := [12, 6, 0, 0, 0, 0, 0, 0, 0, 115, 116, 114, 105, 110, 103]
@[go_sem] theorem Tryf.act9_115w (name : String) (x : Value) (w : World) : (FmtCalls.act name true 115 false (.iface 9 x)).run Tryf.prog w = .ok (.closed true) w := by kernel_rfl
@[go_sem] theorem Tryf.op9_115w (name : String) (x : ByteArray) (w : World) : (FmtStop.operand name true 115 false (.iface 9 (.string x))).run Tryf.prog w = .ok (Tryf.shape9, FmtStop.pack x.data.toList) w := by kernel_rfl
@[go_sem] theorem Tryf.str9 (w : World) : (typeStr 9).run Tryf.prog w = .ok "string" w := by kernel_rfl
@[go_sem] theorem Tryf.ptr70 (w : World) : (FmtStop.ptrTo "errors.errorString").run Tryf.prog w = .ok 70 w := by kernel_rfl
@[go_sem] theorem Tryf.elem70 (w : World) : (elemOf 70).run Tryf.prog w = .ok 72 w := by kernel_rfl
@[go_sem] theorem Tryf.isError70 (w : World) : (FmtDoors.textMethod 70 "Error").run Tryf.prog w = .ok true w := by kernel_rfl
def Tryf.plain70 : List UInt8 := [14, 19, 0, 0, 0, 0, 0, 0, 0, 42, 101, 114, 114, 111, 114, 115, 46, 101, 114, 114, 111, 114, 83, 116, 114, 105, 110, 103]
theorem Tryf.plain70_eq : 14 :: FmtStop.pack Tryf.t70.str.toUTF8.data.toList = Tryf.plain70 := by kernel_rfl
theorem Tryf.opPlain70_119w (name : String) (a : Addr) (s : ByteArray) (w : World) (hc : w.cell? a = some (.string s)) :
    (FmtStop.operand name true 119 false (.iface 70 (.pointer (some a)))).run Tryf.prog w = .ok (Tryf.plain70, s.data.toList) w := by
  have h1 : (typeStr 70).run Tryf.prog w = .ok Tryf.t70.str w := by kernel_rfl
  have d2 : Tryf.t70.desc = .pointer 72 := rfl
  have d3 : Tryf.t72.desc = .named "errors.errorString" 71 := rfl
  rw [← Tryf.plain70_eq]
  simp [FmtStop.operand, h1, d2, d3, run_load, hc]
@[go_sem] theorem Tryf.actPlain70_119w (name : String) (x : Value) (w : World) : (FmtCalls.act name true 119 false (.iface 70 x)).run Tryf.prog w = .ok (.closed true) w := by kernel_rfl
@[go_sem] theorem Tryf.ptr63 (w : World) : (FmtStop.ptrTo "fmt.wrapError").run Tryf.prog w = .ok 63 w := by kernel_rfl
@[go_sem] theorem Tryf.elem63 (w : World) : (elemOf 63).run Tryf.prog w = .ok 109 w := by kernel_rfl
@[go_sem] theorem Tryf.isError63 (w : World) : (FmtDoors.textMethod 63 "Error").run Tryf.prog w = .ok true w := by kernel_rfl

end Go.Proofs
namespace Go.Proofs.Qxb6003874aFmt
open Go.RowKit Go.Extern.Stop Go.Stop Go.Extern

def readingW (s t : ByteArray) : List (List UInt8) := [[37, 115, 58, 32, 37, 119], Tryf.shape9, FmtStop.pack s.data.toList, Tryf.plain70, t.data.toList]

set_option maxHeartbeats 800000 in
theorem errorf_w (F : Interp) (s t : ByteArray) (a : Addr) (blk : Nat) (w : World) (hF : F.answers w.tape)
    (hc0 : w.cell? ⟨blk, 0, none⟩ = some (.iface 9 (.string s))) (hc1 : w.cell? ⟨blk, 1, none⟩ = some (.iface 70 (.pointer (some a)))) (hs : w.cell? a = some (.string t)) :
    Calls Tryf.prog 23 #[.string ⟨#[37, 115, 58, 32, 37, 119]⟩, .slice (some ⟨blk, 0, none⟩) 2 2] w fun e w' =>
      e = .returned (.iface 63 (.pointer (some ⟨w.heap.size, 0, none⟩))) ∧ w' = (w.alloc (.cells #[.string (FmtStop.textOf (F "fmt.errorf" (readingW s t) 0)), .iface 70 (.pointer (some a))] 109)).drew := by
  have hF' := answers_open hF
  have hop := Tryf.opPlain70_119w "fmt.errorf" a t w hs
  go_enter Tryf.func23, Tryf.ntmps23
  go_wp2
  apply rows_value Tryf.nextTurns
  case hr =>
    go_simp
    exact ⟨rfl, rfl⟩
  case h =>
    go_wp2
    go_ret
    exact ⟨rfl, rfl⟩

end Go.Proofs.Qxb6003874aFmt
