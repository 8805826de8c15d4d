/-
  utf8.DecodeRune, off the shelf (Derived/Shelf/Spec/DecodeRune.lean), laid at this dump: the plain text of the shelf's laying; decodeAt at every first byte; the two are one function.
-/
import Derived.Test.Qxb6609376aDoorWalkA
import Derived.Test.Qxb6609376aDoorDec
import Derived.Shelf.Spec.DecodeRune
import Derived.Lib.LaidU8T
namespace Go.Proofs
open Go.Shelf
set_option maxRecDepth 100000
def Tryd.laysDR_ren : Go.Shelf.Ren := ⟨fun | 32 => 21 | 49 => 22 | n => n, fun | 30 => 22 | 21 => 21 | 3 => 3 | 0 => 0 | 5 => 5 | 4 => 4 | 33 => 31 | 66 => 45 | 25 => 42 | 69 => 48 | 68 => 47 | n => n, fun | 2 => 0 | 3 => 1 | n => n⟩
theorem Tryd.laysDR : Go.Proofs.Lays7.n32 Tryd.prog Tryd.laysDR_ren := {
  mixed := by kernel_rfl
  f32 := Tryd.func21.trans (congrArg some (by kernel_rfl))
  f49 := Tryd.func22.trans (congrArg some (by kernel_rfl))
  t0 := Tryd.underlying0
  a0 := Tryd.isAgg0
  z0 := Tryd.sizeOf0
  v0 := Tryd.zeroValue0
  i0 := by kernel_rfl
  t3 := Tryd.underlying3
  a3 := Tryd.isAgg3
  z3 := Tryd.sizeOf3
  v3 := Tryd.zeroValue3
  i3 := by kernel_rfl
  t4 := Tryd.underlying4
  a4 := Tryd.isAgg4
  z4 := Tryd.sizeOf4
  v4 := Tryd.zeroValue4
  i4 := by kernel_rfl
  t5 := Tryd.underlying5
  a5 := Tryd.isAgg5
  z5 := Tryd.sizeOf5
  v5 := Tryd.zeroValue5
  i5 := by kernel_rfl
  t21 := Tryd.underlying21
  a21 := Tryd.isAgg21
  z21 := Tryd.sizeOf21
  v21 := Tryd.zeroValue21
  i21 := by kernel_rfl
  t25 := Tryd.underlying42
  a25 := Tryd.isAgg42
  z25 := Tryd.sizeOf42
  v25 := Tryd.zeroValue42
  i25 := by kernel_rfl
  t30 := Tryd.underlying22
  a30 := Tryd.isAgg22
  z30 := Tryd.sizeOf22
  v30 := Tryd.zeroValue22
  i30 := by kernel_rfl
  t33 := Tryd.underlying31
  a33 := Tryd.isAgg31
  z33 := Tryd.sizeOf31
  v33 := Tryd.zeroValue31
  i33 := by kernel_rfl
  t66 := Tryd.underlying45
  a66 := Tryd.isAgg45
  z66 := Tryd.sizeOf45
  t68 := Tryd.underlying47
  a68 := Tryd.isAgg47
  z68 := Tryd.sizeOf47
  v68 := Tryd.zeroValue47
  i68 := by kernel_rfl
  t69 := Tryd.underlying48
  a69 := Tryd.isAgg48
  z69 := Tryd.sizeOf48
  v69 := Tryd.zeroValue48
  i69 := by kernel_rfl
  g2 := by kernel_rfl
  g3 := by kernel_rfl }

end Go.Proofs
namespace Go.Proofs.Qxb6609376aDoor
open Go.RowKit Go.Shelf Go.Lib

/-- The rune and the width at the head of some bytes, by the model's own decode; at no byte: -1 and 0. -/
def dec (bs : List UInt8) : Int × Int :=
  if bs.length = 0 then (-1, 0) else (((decodeN bs.length (bs.getD 0 0).toNat (bs.getD 1 0).toNat (bs.getD 2 0).toNat (bs.getD 3 0).toNat).1 : Nat), ((decodeN bs.length (bs.getD 0 0).toNat (bs.getD 1 0).toNat (bs.getD 2 0).toNat (bs.getD 3 0).toNat).2 : Nat))

theorem get_list (bs : List UInt8) (j : Nat) : (ByteArray.mk bs.toArray).get! j = bs.getD j 0 := by
  show bs.toArray[j]! = bs.getD j 0
  rw [List.getD_eq_getElem?_getD]
  simp [getElem!_def]
  cases bs[j]? <;> rfl

theorem decodeGo_list (bs : List UInt8) (h : bs.length ≠ 0) : (((Lib.decodeGo ⟨bs.toArray⟩).1 : Int), ((Lib.decodeGo ⟨bs.toArray⟩).2 : Int)) = dec bs := by
  have hs : (ByteArray.mk bs.toArray).size = bs.length := by show bs.toArray.size = _; simp
  unfold Lib.decodeGo dec
  rw [hs, if_neg h, if_neg h, Lib.decode_at, hs, Nat.sub_zero, Nat.zero_add, Nat.zero_add, Nat.zero_add, get_list, get_list, get_list, get_list]

theorem decodeRune_any (b o cap : Nat) (bs : List UInt8) (w : World) (h0 : bs.length ≠ 0) (hT : Lib.Utf8Tabs 0 1 w) (hc : ∀ i, i < bs.length → w.cell? ⟨b, o + i, none⟩ = some (.int .u8 (bs.getD i 0).toNat)) :
    Calls Tryd.prog 21 #[.slice (some ⟨b, o, none⟩) bs.length cap] w fun e w' => e = .returned (.tuple #[.int .i32 (dec bs).1, .int .i64 (dec bs).2]) ∧ Below w.heap.size w w' := by
  have hs : (ByteArray.mk bs.toArray).size = bs.length := by show bs.toArray.size = _; simp
  have h := Any7.utf8_DecodeRune Tryd.laysDR ⟨bs.toArray⟩ b o cap w hT (fun j hj => by rw [get_list]; exact hc j (by omega))
  rw [hs] at h
  rw [← decodeGo_list bs h0]
  exact h

/-! ### decodeAt at every first byte -/
theorem decodeAt_any (b o c : Nat) (bs : List UInt8) (w : World) (h0 : bs.length ≠ 0) (hm : bs.length ≤ 1048576) (hc : ∀ i, i < bs.length → w.cell? ⟨b, o + i, none⟩ = some (.int .u8 (bs.getD i 0).toNat)) :
    Calls Tryd.prog 11 #[.slice (some ⟨b, o, none⟩) bs.length c, .int .i64 0] w fun e w' => e = .returned (.tuple #[.int .i32 (dec bs).1, .int .i64 (dec bs).2]) ∧ w' = w := by
  have hs0 : w.cell? ⟨b, o, none⟩ = some (.int .u8 (bs.getD 0 0).toNat) := by simpa using hc 0 (by omega)
  have hq1 : 1 < bs.length → w.cell? ⟨b, o + 1, none⟩ = some (.int .u8 (bs.getD 1 0).toNat) := fun h => hc 1 h
  have hq2 : 2 < bs.length → w.cell? ⟨b, o + 2, none⟩ = some (.int .u8 (bs.getD 2 0).toNat) := fun h => hc 2 h
  have hq3 : 3 < bs.length → w.cell? ⟨b, o + 3, none⟩ = some (.int .u8 (bs.getD 3 0).toNat) := fun h => hc 3 h
  have l0 := (bs.getD 0 0).toNat_lt
  have l1 := (bs.getD 1 0).toNat_lt
  have l2 := (bs.getD 2 0).toNat_lt
  have l3 := (bs.getD 3 0).toNat_lt
  unfold dec
  rw [if_neg h0]
  generalize (bs.getD 0 0).toNat = b0 at *
  generalize (bs.getD 1 0).toNat = b1 at *
  generalize (bs.getD 2 0).toNat = b2 at *
  generalize (bs.getD 3 0).toNat = b3 at *
  generalize bs.length = n at *
  clear hc
  have hn : 1 ≤ n := by omega
  by_cases c1 : b0 < 128
  · rw [show decodeN n b0 b1 b2 b3 = (b0, 1) by unfold decodeN; rw [if_pos c1]]
    exact dec_ascii b o n c b0 w hn c1 hs0
  by_cases c2 : b0 < 194
  · rw [Lib.bad_eq n b0 b1 b2 b3 (by omega) (by unfold firstT; rw [if_neg c1, if_pos c2])]
    exact dec_low b o n c b0 w hn ⟨by omega, c2⟩ hs0
  by_cases c3 : b0 < 224
  · rw [← slow_C2 n b0 b1 b2 b3 hn l1 l2 l3 ⟨by omega, c3⟩]
    exact dec_C2 b o n c b0 b1 b2 b3 w hn hm ⟨by omega, c3⟩ l1 l2 l3 hs0 hq1 hq2 hq3
  by_cases c4 : b0 = 224
  · rw [← slow_E0 n b0 b1 b2 b3 hn l1 l2 l3 c4]
    exact dec_E0 b o n c b0 b1 b2 b3 w hn hm ⟨by omega, by omega⟩ l1 l2 l3 hs0 hq1 hq2 hq3
  by_cases c5 : b0 < 237
  · rw [← slow_E1 n b0 b1 b2 b3 hn l1 l2 l3 (Or.inl ⟨by omega, c5⟩)]
    exact dec_E1 b o n c b0 b1 b2 b3 w hn hm ⟨by omega, c5⟩ l1 l2 l3 hs0 hq1 hq2 hq3
  by_cases c6 : b0 = 237
  · rw [← slow_ED n b0 b1 b2 b3 hn l1 l2 l3 c6]
    exact dec_ED b o n c b0 b1 b2 b3 w hn hm ⟨by omega, by omega⟩ l1 l2 l3 hs0 hq1 hq2 hq3
  by_cases c7 : b0 = 238
  · rw [← slow_E1 n b0 b1 b2 b3 hn l1 l2 l3 (Or.inr ⟨by omega, by omega⟩)]
    exact dec_EE b o n c b0 b1 b2 b3 w hn hm ⟨by omega, by omega⟩ l1 l2 l3 hs0 hq1 hq2 hq3
  by_cases c8 : b0 = 239
  · rw [← slow_E1 n b0 b1 b2 b3 hn l1 l2 l3 (Or.inr ⟨by omega, by omega⟩)]
    exact dec_EF b o n c b0 b1 b2 b3 w hn hm ⟨by omega, by omega⟩ l1 l2 l3 hs0 hq1 hq2 hq3
  by_cases c9 : b0 = 240
  · rw [← slow_F0 n b0 b1 b2 b3 hn l1 l2 l3 c9]
    exact dec_F0 b o n c b0 b1 b2 b3 w hn hm ⟨by omega, by omega⟩ l1 l2 l3 hs0 hq1 hq2 hq3
  by_cases c10 : b0 < 244
  · rw [← slow_F1 n b0 b1 b2 b3 hn l1 l2 l3 ⟨by omega, c10⟩]
    exact dec_F1 b o n c b0 b1 b2 b3 w hn hm ⟨by omega, c10⟩ l1 l2 l3 hs0 hq1 hq2 hq3
  by_cases c11 : b0 = 244
  · rw [← slow_F4 n b0 b1 b2 b3 hn l1 l2 l3 c11]
    exact dec_F4 b o n c b0 b1 b2 b3 w hn hm ⟨by omega, by omega⟩ l1 l2 l3 hs0 hq1 hq2 hq3
  · rw [Lib.bad_eq n b0 b1 b2 b3 (by omega) (by unfold firstT; rw [if_neg c1, if_neg c2, if_neg c3, if_neg c4, if_neg c5, if_neg c6, if_neg (by omega), if_neg c9, if_neg c10, if_neg c11])]
    exact dec_high b o n c b0 w hn (by omega) hs0

end Go.Proofs.Qxb6609376aDoor
