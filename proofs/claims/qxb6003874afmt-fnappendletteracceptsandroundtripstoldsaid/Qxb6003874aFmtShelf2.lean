/-
  strconv.AppendInt at base 10, off the shelf (Derived/Shelf/Strconv/AppendIntPublic10.lean), laid at this dump: the plain text of the shelf's laying; in this seat's words.
-/
import Derived.Test.Qxb6003874aFmtBase
import Derived.Shelf.Strconv.AppendIntPublic10
namespace Go.Proofs
open Go.Shelf
set_option maxRecDepth 100000
def Tryf.laysAI_ren : Go.Shelf.Ren := ⟨fun | 176 => 32 | 249 => 35 | 288 => 37 | 283 => 38 | 284 => 39 | 285 => 40 | 286 => 41 | 129 => 43 | 317 => 42 | 318 => 44 | 319 => 45 | 320 => 46 | 337 => 47 | 338 => 48 | n => n, fun | 37 => 23 | 2 => 2 | 3 => 3 | 53 => 22 | 4 => 4 | 9 => 9 | 171 => 79 | 0 => 0 | 173 => 82 | 212 => 86 | 51 => 87 | 5 => 5 | 20 => 20 | 213 => 88 | 46 => 25 | 232 => 91 | 233 => 92 | n => n, fun | 17 => 2 | 18 => 3 | 19 => 4 | n => n⟩
theorem Tryf.laysAI : Go.Proofs.LaysM.n176 Tryf.prog Tryf.laysAI_ren := {
  mixed := by kernel_rfl
  f129 := Tryf.func43.trans (congrArg some (by kernel_rfl))
  f176 := Tryf.func32.trans (congrArg some (by kernel_rfl))
  f249 := Tryf.func35.trans (congrArg some (by kernel_rfl))
  f283 := Tryf.func38.trans (congrArg some (by kernel_rfl))
  f284 := Tryf.func39.trans (congrArg some (by kernel_rfl))
  f285 := Tryf.func40.trans (congrArg some (by kernel_rfl))
  f286 := Tryf.func41.trans (congrArg some (by kernel_rfl))
  f288 := Tryf.func37.trans (congrArg some (by kernel_rfl))
  f317 := Tryf.func42.trans (congrArg some (by kernel_rfl))
  f318 := Tryf.func44.trans (congrArg some (by kernel_rfl))
  f319 := Tryf.func45.trans (congrArg some (by kernel_rfl))
  f320 := Tryf.func46.trans (congrArg some (by kernel_rfl))
  f337 := Tryf.func47.trans (congrArg some (by kernel_rfl))
  f338 := Tryf.func48.trans (congrArg some (by kernel_rfl))
  t0 := Tryf.underlying0
  a0 := Tryf.isAgg0
  z0 := Tryf.sizeOf0
  v0 := Tryf.zeroValue0
  t2 := Tryf.underlying2
  a2 := Tryf.isAgg2
  z2 := Tryf.sizeOf2
  v2 := Tryf.zeroValue2
  t3 := Tryf.underlying3
  a3 := Tryf.isAgg3
  z3 := Tryf.sizeOf3
  v3 := Tryf.zeroValue3
  t4 := Tryf.underlying4
  a4 := Tryf.isAgg4
  z4 := Tryf.sizeOf4
  v4 := Tryf.zeroValue4
  t5 := Tryf.underlying5
  a5 := Tryf.isAgg5
  z5 := Tryf.sizeOf5
  v5 := Tryf.zeroValue5
  t9 := Tryf.underlying9
  a9 := Tryf.isAgg9
  z9 := Tryf.sizeOf9
  v9 := Tryf.zeroValue9
  t20 := Tryf.underlying20
  a20 := Tryf.isAgg20
  z20 := Tryf.sizeOf20
  v20 := Tryf.zeroValue20
  t37 := Tryf.underlying23
  a37 := Tryf.isAgg23
  z37 := Tryf.sizeOf23
  v37 := Tryf.zeroValue23
  t46 := Tryf.underlying25
  a46 := Tryf.isAgg25
  z46 := Tryf.sizeOf25
  v46 := Tryf.zeroValue25
  t51 := Tryf.underlying87
  a51 := Tryf.isAgg87
  z51 := Tryf.sizeOf87
  v51 := Tryf.zeroValue87
  t53 := Tryf.underlying22
  a53 := Tryf.isAgg22
  z53 := Tryf.sizeOf22
  v53 := Tryf.zeroValue22
  t171 := Tryf.underlying79
  a171 := Tryf.isAgg79
  z171 := Tryf.sizeOf79
  v171 := Tryf.zeroValue79
  t173 := Tryf.underlying82
  a173 := Tryf.isAgg82
  z173 := Tryf.sizeOf82
  v173 := Tryf.zeroValue82
  t212 := Tryf.underlying86
  a212 := Tryf.isAgg86
  z212 := Tryf.sizeOf86
  v212 := Tryf.zeroValue86
  t213 := Tryf.underlying88
  a213 := Tryf.isAgg88
  z213 := Tryf.sizeOf88
  t232 := Tryf.underlying91
  a232 := Tryf.isAgg91
  z232 := Tryf.sizeOf91
  v232 := Tryf.zeroValue91
  t233 := Tryf.underlying92
  a233 := Tryf.isAgg92
  z233 := Tryf.sizeOf92
  v233 := Tryf.zeroValue92
  g17 := by kernel_rfl
  g18 := by kernel_rfl
  g19 := by kernel_rfl
  i0 := by kernel_rfl
  i2 := by kernel_rfl
  i3 := by kernel_rfl
  i4 := by kernel_rfl
  i5 := by kernel_rfl
  i9 := by kernel_rfl
  i20 := by kernel_rfl
  i37 := by kernel_rfl
  i46 := by kernel_rfl
  i51 := by kernel_rfl
  i53 := by kernel_rfl
  i171 := by kernel_rfl
  i173 := by kernel_rfl
  i212 := by kernel_rfl
  i232 := by kernel_rfl
  i233 := by kernel_rfl
  m17 := by kernel_rfl
  m18 := by kernel_rfl
  m19 := by kernel_rfl }

end Go.Proofs
namespace Go.Proofs.Qxb6003874aFmt
open Go.RowKit

/-- The table of the powers of ten, as its variable holds it: in w, and wherever nothing below B has turned. -/
def Pows (B : Nat) (w : World) : Prop := ∀ name, Tryf.prog.globalNamed name = some 2 → Lib.TabBelow Tryf.prog B w name .u64 Lib.pow10Tab
theorem Pows.on {B : Nat} {w w' : World} (h : Pows B w) (hb : Below B w w') : Pows B w' := fun name hn => (h name hn).on hb

theorem appendInt_any (B : Nat) (v : Value) (xs : List UInt8) (i : Int) (w : World) (h0 : -9223372036854775808 ≤ i) (h1 : i ≤ 9223372036854775807) (hown : Own w B v xs) (hB : B ≤ w.heap.size) (hxl : xs.length ≤ 16777216) (hP : Pows B w) :
    Calls Tryf.prog 32 #[v, .int .i64 i, .int .i64 10] w fun e w' => ∃ v', e = .returned v' ∧ Own w' B v' (xs ++ Lib.itoa i) ∧ Below B w w' := by
  refine (Any.strconv_AppendInt_10 Tryf.laysAI B xs.length i h0 h1 v (bc xs) w hown hB (by omega) (hP _ (by kernel_rfl))).mono ?_
  rintro e w' ⟨v', rfl, h2, h3, _⟩
  refine ⟨v', rfl, ?_, h3⟩
  unfold Own
  rw [List.length_append, bc_append]
  exact h2

end Go.Proofs.Qxb6003874aFmt
