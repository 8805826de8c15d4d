/-
  utf8.ValidString, off the shelf (Derived/Shelf/Unicode/ValidAny.lean), laid at this dump: the plain text of the shelf's laying.
-/
import Derived.Test.Qxb6003874aFmtBase
import Derived.Shelf.Unicode.ValidAny
import Derived.Lib.LaidU8T
namespace Go.Proofs
open Go.Shelf
set_option maxRecDepth 100000
def Tryf.laysVS_ren : Go.Shelf.Ren := ⟨fun | 196 => 34 | 259 => 36 | n => n, fun | 9 => 9 | 4 => 4 | 3 => 3 | 5 => 5 | 12 => 12 | 119 => 74 | 0 => 0 | 46 => 25 | 139 => 77 | 138 => 76 | 53 => 22 | n => n, fun | 3 => 0 | 4 => 1 | n => n⟩
theorem Tryf.laysVS : Go.Proofs.Lays.n196 Tryf.prog Tryf.laysVS_ren := {
  mixed := by kernel_rfl
  f196 := Tryf.func34.trans (congrArg some (by kernel_rfl))
  f259 := Tryf.func36.trans (congrArg some (by kernel_rfl))
  t0 := Tryf.underlying0
  a0 := Tryf.isAgg0
  z0 := Tryf.sizeOf0
  v0 := Tryf.zeroValue0
  t3 := Tryf.underlying3
  a3 := Tryf.isAgg3
  z3 := Tryf.sizeOf3
  v3 := Tryf.zeroValue3
  t4 := Tryf.underlying4
  a4 := Tryf.isAgg4
  z4 := Tryf.sizeOf4
  v4 := Tryf.zeroValue4
  t5 := Tryf.underlying5
  a5 := Tryf.isAgg5
  z5 := Tryf.sizeOf5
  v5 := Tryf.zeroValue5
  t9 := Tryf.underlying9
  a9 := Tryf.isAgg9
  z9 := Tryf.sizeOf9
  v9 := Tryf.zeroValue9
  t12 := Tryf.underlying12
  a12 := Tryf.isAgg12
  z12 := Tryf.sizeOf12
  v12 := Tryf.zeroValue12
  t46 := Tryf.underlying25
  a46 := Tryf.isAgg25
  z46 := Tryf.sizeOf25
  v46 := Tryf.zeroValue25
  t53 := Tryf.underlying22
  a53 := Tryf.isAgg22
  z53 := Tryf.sizeOf22
  v53 := Tryf.zeroValue22
  t119 := Tryf.underlying74
  a119 := Tryf.isAgg74
  z119 := Tryf.sizeOf74
  t138 := Tryf.underlying76
  a138 := Tryf.isAgg76
  z138 := Tryf.sizeOf76
  v138 := Tryf.zeroValue76
  t139 := Tryf.underlying77
  a139 := Tryf.isAgg77
  z139 := Tryf.sizeOf77
  v139 := Tryf.zeroValue77
  g3 := by kernel_rfl
  g4 := by kernel_rfl }

end Go.Proofs
namespace Go.Proofs.Qxb6003874aFmt
open Go.RowKit

theorem tabs_heap {w w' : World} {N : Nat} (h : Lib.Utf8Tabs 0 1 w) (hB : Below N w w') (hN : 2 ≤ N) : Lib.Utf8Tabs 0 1 w' :=
  ⟨fun c hc => by rw [hB.cell (p := ⟨0, c, none⟩) (by show 0 < N; omega)]; exact h.1 c hc,
   fun i hi => ⟨by rw [hB.cell (p := ⟨1, 2 * i, none⟩) (by show 1 < N; omega)]; exact (h.2 i hi).1, by rw [hB.cell (p := ⟨1, 2 * i + 1, none⟩) (by show 1 < N; omega)]; exact (h.2 i hi).2⟩⟩

theorem validString_any (s : ByteArray) (w : World) (hs : s.size ≤ 16777216) (hT : Lib.Utf8Tabs 0 1 w) :
    Calls Tryf.prog 34 #[.string s] w fun e w' => e = .returned (.bool (Lib.validD s.data.toList)) ∧ Below w.heap.size w w' :=
  Any.utf8_ValidString Tryf.laysVS s w (by omega) hT

end Go.Proofs.Qxb6003874aFmt
