/-
  bytes.TrimRight AT AN ASCII cutset, off the shelf (Derived/Shelf/Bytes/SlTrim.lean), laid at this dump: the plain text of the shelf's laying.
-/
import Derived.Test.Qxb6606271aDoorWalkA
import Derived.Shelf.Bytes.SlTrim
namespace Go.Proofs
open Go.Shelf
set_option maxRecDepth 100000
def Tryd.laysTR_ren : Go.Shelf.Ren := ⟨fun | 7 => 24 | 10 => 30 | 11 => 31 | 13 => 32 | 15 => 33 | 16 => 42 | 19 => 43 | 18 => 44 | 21 => 50 | 17 => 36 | 20 => 45 | n => n, fun | 22 => 22 | 9 => 9 | 3 => 3 | 4 => 4 | 5 => 5 | 28 => 50 | 27 => 49 | 0 => 0 | 31 => 53 | 21 => 21 | 33 => 54 | 36 => 72 | 37 => 58 | 40 => 75 | 39 => 74 | n => n, fun | 0 => 4 | 1 => 5 | n => n⟩
theorem Tryd.laysTR : Go.Proofs.SlLaysV.n7 Tryd.prog Tryd.laysTR_ren := {
  mixed := by kernel_rfl
  f7 := Tryd.func24.trans (congrArg some (by kernel_rfl))
  f10 := Tryd.func30.trans (congrArg some (by kernel_rfl))
  f11 := Tryd.func31.trans (congrArg some (by kernel_rfl))
  f13 := Tryd.func32.trans (congrArg some (by kernel_rfl))
  f15 := Tryd.func33.trans (congrArg some (by kernel_rfl))
  f16 := Tryd.func42.trans (congrArg some (by kernel_rfl))
  f17 := Tryd.func36.trans (congrArg some (by kernel_rfl))
  f18 := Tryd.func44.trans (congrArg some (by kernel_rfl))
  f19 := Tryd.func43.trans (congrArg some (by kernel_rfl))
  f20 := Tryd.func45.trans (congrArg some (by kernel_rfl))
  f21 := Tryd.func50.trans (congrArg some (by kernel_rfl))
  t0 := Tryd.underlying0
  a0 := Tryd.isAgg0
  z0 := Tryd.sizeOf0
  v0 := Tryd.zeroValue0
  t3 := Tryd.underlying3
  a3 := Tryd.isAgg3
  z3 := Tryd.sizeOf3
  v3 := Tryd.zeroValue3
  t4 := Tryd.underlying4
  a4 := Tryd.isAgg4
  z4 := Tryd.sizeOf4
  v4 := Tryd.zeroValue4
  t5 := Tryd.underlying5
  a5 := Tryd.isAgg5
  z5 := Tryd.sizeOf5
  v5 := Tryd.zeroValue5
  t9 := Tryd.underlying9
  a9 := Tryd.isAgg9
  z9 := Tryd.sizeOf9
  v9 := Tryd.zeroValue9
  t21 := Tryd.underlying21
  a21 := Tryd.isAgg21
  z21 := Tryd.sizeOf21
  v21 := Tryd.zeroValue21
  t22 := Tryd.underlying22
  a22 := Tryd.isAgg22
  z22 := Tryd.sizeOf22
  v22 := Tryd.zeroValue22
  t27 := Tryd.underlying49
  a27 := Tryd.isAgg49
  z27 := Tryd.sizeOf49
  t28 := Tryd.underlying50
  a28 := Tryd.isAgg50
  z28 := Tryd.sizeOf50
  v28 := Tryd.zeroValue50
  t31 := Tryd.underlying53
  a31 := Tryd.isAgg53
  z31 := Tryd.sizeOf53
  v31 := Tryd.zeroValue53
  t33 := Tryd.underlying54
  a33 := Tryd.isAgg54
  z33 := Tryd.sizeOf54
  v33 := Tryd.zeroValue54
  t36 := Tryd.underlying72
  a36 := Tryd.isAgg72
  z36 := Tryd.sizeOf72
  t37 := Tryd.underlying58
  a37 := Tryd.isAgg58
  z37 := Tryd.sizeOf58
  v37 := Tryd.zeroValue58
  t39 := Tryd.underlying74
  a39 := Tryd.isAgg74
  z39 := Tryd.sizeOf74
  v39 := Tryd.zeroValue74
  t40 := Tryd.underlying75
  a40 := Tryd.isAgg75
  z40 := Tryd.sizeOf75
  v40 := Tryd.zeroValue75 }

end Go.Proofs
namespace Go.Proofs.Qxb6606271aDoor
open Go.RowKit Go.Shelf

theorem h27 : (Tryd.prog.info? (Tryd.laysTR_ren.t 27)).map (fun i => (i.zero, i.size)) = some (some (.agg (Array.replicate 256 (.bool false))), 256) := by kernel_rfl

theorem ascii_of (l : List UInt8) (h : l.all (fun b => decide (b.toNat < 128)) = true) : ∀ (j : Nat) b, l[j]? = some b → b.toNat < 128 := fun j b hj => by
  have := List.all_eq_true.1 h b (List.mem_of_getElem? hj)
  simpa using this

theorem trim_hash (p : Option Addr) (n c : Nat) (bs : List UInt8) (w : World) (hb : bs.length = n) (hnc : n ≤ c) (hbig : c ≤ 1048576) (h1 : BA w p n bs) :
    Calls Tryd.prog 24 #[.slice p n c, .string ⟨#[35]⟩] w fun e w' => e = .returned (.slice p (Lib.trimRightS bs [35]).length c) ∧ Below w.heap.size w w' :=
  Any.bytes_TrimRight_ascii Tryd.laysTR (zero_of_info h27).1 (zero_of_info h27).2 p n c bs ⟨#[35]⟩ w hb hnc (by omega) h1 (by decide) (ascii_of _ (by decide))
theorem trim_blank (p : Option Addr) (n c : Nat) (bs : List UInt8) (w : World) (hb : bs.length = n) (hnc : n ≤ c) (hbig : c ≤ 1048576) (h1 : BA w p n bs) :
    Calls Tryd.prog 24 #[.slice p n c, .string ⟨#[32, 9]⟩] w fun e w' => e = .returned (.slice p (Lib.trimRightS bs [32, 9]).length c) ∧ Below w.heap.size w w' :=
  Any.bytes_TrimRight_ascii Tryd.laysTR (zero_of_info h27).1 (zero_of_info h27).2 p n c bs ⟨#[32, 9]⟩ w hb hnc (by omega) h1 (by decide) (ascii_of _ (by decide))

end Go.Proofs.Qxb6606271aDoor
