/-
  THE WALK OF THE LAW FnAppendLetterAcceptsAndRoundTrips.
-/
import Derived.Test.Qxb6003874aFmtWalkB
import Derived.Test.Qxb6003874aFmtWalkG
import Derived.Test.Qxb6003874aFmtWalkI
import Derived.Test.Qxb6003874aFmtWalkV
import Derived.Test.Qxb6003874aFmtWalkR
namespace Go.Proofs.Qxb6003874aFmt
open Go.RowKit Go.Lib Go.Extern.Stop Go.Stop Go.Extern

theorem readInt_any (b o n c J : Nat) (bs pre rest : List UInt8) (x z : Int) (w : World) (hz : z = (pre.length : Int)) (hJ : J = pre.length + (itoa x).length) (hbs : bs = pre ++ (itoa x ++ 44 :: rest)) (hn : bs.length = n) (hbig : n ≤ 16777216) (h0 : -9223372036854775808 ≤ x) (h1 : x ≤ 9223372036854775807)
    (hba : BA w w.heap.size (some ⟨b, o, none⟩) n bs) :
    Calls Tryf.prog 20 #[.slice (some ⟨b, o, none⟩) n c, .int .i64 z] w fun e w' => e = .returned (.tuple #[.int .i64 x, .int .i64 (J : Int), .bool true]) ∧ w' = w := by
  subst hz hJ
  have hlen : 0 < n := by rw [← hn, hbs]; simp; omega
  obtain ⟨b', o', he, _, hc⟩ := hba hlen
  obtain ⟨rfl, rfl⟩ : b' = b ∧ o' = o := by
    have := Option.some.inj he
    injection this with h1 h2 _
    exact ⟨h1.symm, h2.symm⟩
  unfold itoa at hbs ⊢
  by_cases hx : x < 0
  · rw [if_pos hx] at hbs ⊢
    have h := readInt_neg b' o' n c bs pre rest x.natAbs w (by rw [hbs]; simp) hn hbig (by omega) (by omega) hc
    have e1 : (-(x.natAbs : Int)) = x := by omega
    have e2 : pre.length + 1 + (decDigits x.natAbs).length = pre.length + (45 :: decDigits x.natAbs).length := by simp; omega
    rw [e1, e2] at h
    exact h
  · rw [if_neg hx] at hbs ⊢
    have h := readInt_pos b' o' n c bs pre rest x.toNat w hbs hn hbig (by omega) hc
    have e1 : ((x.toNat : Nat) : Int) = x := by omega
    rw [e1] at h
    exact h
theorem readS_any (p : Option Addr) (n c J : Nat) (bs pre l rest : List UInt8) (z : Int) (w : World) (hz : z = (pre.length : Int)) (hJ : J = pre.length + 2 + (encS l).length) (hbs : bs = pre ++ 34 :: (encS l ++ 34 :: rest)) (hn : bs.length = n) (hbig : n ≤ 16777216) (hl : l.length ≤ 1048576) (h1 : BA w w.heap.size p n bs) :
    Calls Tryf.prog 15 #[.slice p n c, .int .i64 z] w fun e w' => ∃ q c', e = .returned (.tuple #[.slice q l.length c', .int .i64 (J : Int), .bool true]) ∧ BA w' w'.heap.size q l.length l ∧ Below w.heap.size w w' := by
  subst hz hJ
  refine (readString_any p n c bs pre l rest w hbs hn hbig hl h1).mono ?_
  rintro e w' ⟨v, rfl, hown, hB⟩
  obtain ⟨q, c', rfl, _, _, _, hba⟩ := hown.shape
  exact ⟨q, c', rfl, hba, hB⟩
theorem expect_any (b o n c i : Nat) (x : UInt8) (bs pre rest : List UInt8) (z cz : Int) (w : World) (hz : z = (i : Int)) (hcz : cz = (x.toNat : Int)) (hi : i = pre.length) (hbs : bs = pre ++ x :: rest) (hn : bs.length = n) (hbig : n ≤ 16777216) (hba : BA w w.heap.size (some ⟨b, o, none⟩) n bs) :
    Calls Tryf.prog 19 #[.slice (some ⟨b, o, none⟩) n c, .int .i64 z, .int .u8 cz] w fun e w' => e = .returned (.tuple #[.int .i64 ((i : Int) + 1), .bool true]) ∧ w' = w := by
  subst hz hcz
  have hlen : i < n := by rw [← hn, hbs, hi]; simp
  obtain ⟨b', o', he, _, hc⟩ := hba (by omega)
  obtain ⟨rfl, rfl⟩ : b' = b ∧ o' = o := by
    have := Option.some.inj he
    injection this with h1 h2 _
    exact ⟨h1.symm, h2.symm⟩
  refine expect_yes b' o' n c i x w hlen hbig ?_
  rw [hc i hlen, hbs, hi]
  simp

set_option maxHeartbeats 4000000 in
set_option maxRecDepth 100000 in
theorem law4_deep (F : Interp) (a : Option Addr) (n c : Nat) (xs : List UInt8) (i s t u : ByteArray) (x y : Int) (w : World) (hxl : xs.length = n) (hnil : a = none → n = 0 ∧ c = 0) (h1 : BA w w.heap.size a n xs) (hT : Lib.Utf8Tabs 0 1 w) (hP : Pows w.heap.size w)
    (hx0 : -9223372036854775808 ≤ x) (hx1 : x ≤ 9223372036854775807) (hy0 : -2147483648 ≤ y) (hy1 : y ≤ 2147483647) (hsz : n + i.size + s.size + t.size + u.size ≤ 1048576) (hF : F.answers w.tape)
     :
    Calls Tryf.prog 6 #[.slice a n c, .string i, .int .i64 x, .string s, .int .i32 y, .string t, .string u, .int .i64 1000] w fun e w' => e = .returned (.bool true) ∧ Below w.heap.size w w' := by
  have h2 : 2 ≤ w.heap.size := World.block_lt_of_cell? _ _ (hT.2 0 (by omega)).1
  have CC := aside (clone_any a n c xs w (by omega) hnil h1)
  have HT := aside hT
  have HPW := aside hP
  have HXL := aside hxl
  have HX0 := aside hx0
  have HX1 := aside hx1
  have HY0 := aside hy0
  have HY1 := aside hy1
  have HSZ := aside hsz
  have hbz : ¬ (1048576 : Int) < (n : Int) + (i.size : Int) + (s.size : Int) + (t.size : Int) + (u.size : Int) := by omega
  have hn20 : n ≤ 1048576 := by omega
  have si : (i.size : Int) ≤ 1048576 := by omega
  have ss : (s.size : Int) ≤ 1048576 := by omega
  have st : (t.size : Int) ≤ 1048576 := by omega
  have su : (u.size : Int) ≤ 1048576 := by omega
  have CVi := aside (fun w => valid_any i w (by omega))
  have CVs := aside (fun w => valid_any s w (by omega))
  have CVt := aside (fun w => valid_any t w (by omega))
  have CVu := aside (fun w => valid_any u w (by omega))
  have HF := aside hF
  clear h1 hnil hT hP hxl hx0 hx1 hy0 hy1 hsz hF
  go_enter Tryf.func6, Tryf.ntmps6
  go_wp2_with fail
  refine (zzBytesL_yes a n c i s t u x y 1000 w HSZ.out).mono ?_
  rintro e w' ⟨rfl, hw⟩
  rw [hw]
  clear hw
  go_wp2_with fail
  refine CC.out.mono ?_
  rintro e w1 ⟨p1, rfl, hp1, hB1, hba1⟩
  have HB1 := aside hB1
  have HBA1 := aside hba1
  have HP1 := aside hp1
  have hsz1 := hB1.size
  clear hB1 hba1 CC hp1
  go_wp2_with fail
  refine (clone_any p1 n n xs w1 hn20 (fun h => ⟨HP1.out h, HP1.out h⟩) HBA1.out).mono ?_
  rintro e w2 ⟨p2, rfl, hp2, hB2, hba2⟩
  have HB2 := aside (HB1.out.trans (hB2.mono hsz1))
  have HBA12 := aside ((HBA1.out.below hB2).mono hB2.size)
  have HBA2 := aside hba2
  have hsz2 := hB2.size
  have PW2 := aside (show Pows w2.heap.size w2 from fun name hn w' hb => HPW.out name hn w' (HB2.out.trans (hb.mono (by omega))))
  clear hba2 hp2 hB2 HBA1
  go_wp2_with fail
  refine (zzLetter_deep F p1 n xs i s t u x y w2 HXL.out HBA12.out (by rw [HB2.out.tape]; exact HF.out) (by omega)).mono ?_
  rintro e w3 ⟨q, m, c3, g, zs, rfl, hml, hmc, hm8, hba3, hB3⟩
  have hsz3 := hB3.size
  have HB3 := aside (HB2.out.trans (hB3.mono (by omega)))
  have HBA23 := aside (HBA2.out.below hB3)
  have hnm : n ≤ m := by
    have h := HXL.out
    rw [List.length_append] at hml
    omega
  have HTK := aside (show BA w3 w3.heap.size q n xs by
    have h := hba3.take (k := n) hnm
    have e : (xs ++ zs).take n = xs := by rw [← HXL.out]; simp
    rw [e] at h
    exact h)
  clear hba3 hB3 HBA2 HBA12 hml
  have hnmz : ¬ (m : Int) < (n : Int) := by omega
  have hnc : (n : Int) ≤ (c3 : Int) := by omega
  go_wp2_with fail
  refine (equal_yes _ p2 _ _ n _ _ xs w3 (by omega) HTK.out HBA23.out).mono ?_
  rintro e w' ⟨rfl, m2, hw⟩
  rw [hw]
  clear hw
  go_wp2
  go_ret
  exact ⟨rfl, below_drewN HB3.out m2⟩

set_option maxHeartbeats 4000000 in
set_option maxRecDepth 100000 in
theorem law4_no0 (F : Interp) (a : Option Addr) (n c : Nat) (xs : List UInt8) (i s t u : ByteArray) (x y d : Int) (w : World) (hxl : xs.length = n) (hnil : a = none → n = 0 ∧ c = 0) (h1 : BA w w.heap.size a n xs) (hT : Lib.Utf8Tabs 0 1 w) (hP : Pows w.heap.size w)
    (hx0 : -9223372036854775808 ≤ x) (hx1 : x ≤ 9223372036854775807) (hy0 : -2147483648 ≤ y) (hy1 : y ≤ 2147483647) (hsz : n + i.size + s.size + t.size + u.size ≤ 1048576) (hF : F.answers w.tape)
    (hd0 : d ≠ 1000) (hvi : validD i.data.toList = false) :
    Calls Tryf.prog 6 #[.slice a n c, .string i, .int .i64 x, .string s, .int .i32 y, .string t, .string u, .int .i64 d] w fun e w' => e = .returned (.bool true) ∧ Below w.heap.size w w' := by
  have h2 : 2 ≤ w.heap.size := World.block_lt_of_cell? _ _ (hT.2 0 (by omega)).1
  have CC := aside (clone_any a n c xs w (by omega) hnil h1)
  have HT := aside hT
  have HPW := aside hP
  have HXL := aside hxl
  have HX0 := aside hx0
  have HX1 := aside hx1
  have HY0 := aside hy0
  have HY1 := aside hy1
  have HSZ := aside hsz
  have hbz : ¬ (1048576 : Int) < (n : Int) + (i.size : Int) + (s.size : Int) + (t.size : Int) + (u.size : Int) := by omega
  have hn20 : n ≤ 1048576 := by omega
  have si : (i.size : Int) ≤ 1048576 := by omega
  have ss : (s.size : Int) ≤ 1048576 := by omega
  have st : (t.size : Int) ≤ 1048576 := by omega
  have su : (u.size : Int) ≤ 1048576 := by omega
  have CVi := aside (fun w => valid_any i w (by omega))
  have CVs := aside (fun w => valid_any s w (by omega))
  have CVt := aside (fun w => valid_any t w (by omega))
  have CVu := aside (fun w => valid_any u w (by omega))
  have HF := aside hF
  rw [hvi] at CVi
  have HBAD := aside (show ¬ (validD i.data.toList = true ∧ validD s.data.toList = true ∧ validD t.data.toList = true ∧ validD u.data.toList = true) from fun h => by rw [hvi] at h; simp at h)
  have hd1 : (d == 1000) = false := by rw [beq_eq_false_iff_ne]; exact hd0
  have hd2 : (d != 1000) = true := by rw [bne, hd1]; rfl
  have HD0 := aside hd0
  clear hd0 hvi
  clear h1 hnil hT hP hxl hx0 hx1 hy0 hy1 hsz hF
  go_enter Tryf.func6, Tryf.ntmps6
  go_wp2_with fail
  refine (zzBytesL_yes a n c i s t u x y d w HSZ.out).mono ?_
  rintro e w' ⟨rfl, hw⟩
  rw [hw]
  clear hw
  go_wp2_with fail
  refine CC.out.mono ?_
  rintro e w1 ⟨p1, rfl, hp1, hB1, hba1⟩
  have HB1 := aside hB1
  have HBA1 := aside hba1
  have HP1 := aside hp1
  have hsz1 := hB1.size
  clear hB1 hba1 CC hp1
  go_wp2_with fail
  refine (clone_any p1 n n xs w1 hn20 (fun h => ⟨HP1.out h, HP1.out h⟩) HBA1.out).mono ?_
  rintro e w2 ⟨p2, rfl, hp2, hB2, hba2⟩
  have HB2 := aside (HB1.out.trans (hB2.mono hsz1))
  have HBA12 := aside ((HBA1.out.below hB2).mono hB2.size)
  have HBA2 := aside hba2
  have hsz2 := hB2.size
  have PW2 := aside (show Pows w2.heap.size w2 from fun name hn w' hb => HPW.out name hn w' (HB2.out.trans (hb.mono (by omega))))
  clear hba2 hp2 hB2 HBA1
  go_wp2_with fail
  refine (zzLetter_no F p1 n xs i s t u x y d w2 HXL.out HP1.out HBA12.out (tabs_heap HT.out HB2.out h2) PW2.out HX0.out HX1.out HY0.out HY1.out HD0.out HSZ.out (by rw [HB2.out.tape]; exact HF.out) HBAD.out).mono ?_
  rintro e w3 ⟨q, m, c3, g, zs, rfl, hml, hmc, hm8, hba3, hB3⟩
  have hsz3 := hB3.size
  have HB3 := aside (HB2.out.trans (hB3.mono (by omega)))
  have HBA23 := aside (HBA2.out.below hB3)
  have hnm : n ≤ m := by
    have h := HXL.out
    rw [List.length_append] at hml
    omega
  have HTK := aside (show BA w3 w3.heap.size q n xs by
    have h := hba3.take (k := n) hnm
    have e : (xs ++ zs).take n = xs := by rw [← HXL.out]; simp
    rw [e] at h
    exact h)
  clear hba3 hB3 HBA2 HBA12 hml
  have hnmz : ¬ (m : Int) < (n : Int) := by omega
  have hnc : (n : Int) ≤ (c3 : Int) := by omega
  go_wp2_with fail
  refine (CVi.out w3).mono ?_
  rintro e w' ⟨rfl, hw⟩
  rw [hw]
  clear hw
  go_wp2_with fail
  refine (equal_yes _ p2 _ _ n _ _ xs w3 (by omega) HTK.out HBA23.out).mono ?_
  rintro e w' ⟨rfl, m2, hw⟩
  rw [hw]
  clear hw
  go_wp2
  go_ret
  exact ⟨rfl, below_drewN HB3.out m2⟩

set_option maxHeartbeats 4000000 in
set_option maxRecDepth 100000 in
theorem law4_no1 (F : Interp) (a : Option Addr) (n c : Nat) (xs : List UInt8) (i s t u : ByteArray) (x y d : Int) (w : World) (hxl : xs.length = n) (hnil : a = none → n = 0 ∧ c = 0) (h1 : BA w w.heap.size a n xs) (hT : Lib.Utf8Tabs 0 1 w) (hP : Pows w.heap.size w)
    (hx0 : -9223372036854775808 ≤ x) (hx1 : x ≤ 9223372036854775807) (hy0 : -2147483648 ≤ y) (hy1 : y ≤ 2147483647) (hsz : n + i.size + s.size + t.size + u.size ≤ 1048576) (hF : F.answers w.tape)
    (hd0 : d ≠ 1000) (hvi : validD i.data.toList = true) (hvs : validD s.data.toList = false) :
    Calls Tryf.prog 6 #[.slice a n c, .string i, .int .i64 x, .string s, .int .i32 y, .string t, .string u, .int .i64 d] w fun e w' => e = .returned (.bool true) ∧ Below w.heap.size w w' := by
  have h2 : 2 ≤ w.heap.size := World.block_lt_of_cell? _ _ (hT.2 0 (by omega)).1
  have CC := aside (clone_any a n c xs w (by omega) hnil h1)
  have HT := aside hT
  have HPW := aside hP
  have HXL := aside hxl
  have HX0 := aside hx0
  have HX1 := aside hx1
  have HY0 := aside hy0
  have HY1 := aside hy1
  have HSZ := aside hsz
  have hbz : ¬ (1048576 : Int) < (n : Int) + (i.size : Int) + (s.size : Int) + (t.size : Int) + (u.size : Int) := by omega
  have hn20 : n ≤ 1048576 := by omega
  have si : (i.size : Int) ≤ 1048576 := by omega
  have ss : (s.size : Int) ≤ 1048576 := by omega
  have st : (t.size : Int) ≤ 1048576 := by omega
  have su : (u.size : Int) ≤ 1048576 := by omega
  have CVi := aside (fun w => valid_any i w (by omega))
  have CVs := aside (fun w => valid_any s w (by omega))
  have CVt := aside (fun w => valid_any t w (by omega))
  have CVu := aside (fun w => valid_any u w (by omega))
  have HF := aside hF
  rw [hvi] at CVi
  rw [hvs] at CVs
  have HBAD := aside (show ¬ (validD i.data.toList = true ∧ validD s.data.toList = true ∧ validD t.data.toList = true ∧ validD u.data.toList = true) from fun h => by rw [hvs] at h; simp at h)
  have hd1 : (d == 1000) = false := by rw [beq_eq_false_iff_ne]; exact hd0
  have hd2 : (d != 1000) = true := by rw [bne, hd1]; rfl
  have HD0 := aside hd0
  clear hd0 hvi hvs
  clear h1 hnil hT hP hxl hx0 hx1 hy0 hy1 hsz hF
  go_enter Tryf.func6, Tryf.ntmps6
  go_wp2_with fail
  refine (zzBytesL_yes a n c i s t u x y d w HSZ.out).mono ?_
  rintro e w' ⟨rfl, hw⟩
  rw [hw]
  clear hw
  go_wp2_with fail
  refine CC.out.mono ?_
  rintro e w1 ⟨p1, rfl, hp1, hB1, hba1⟩
  have HB1 := aside hB1
  have HBA1 := aside hba1
  have HP1 := aside hp1
  have hsz1 := hB1.size
  clear hB1 hba1 CC hp1
  go_wp2_with fail
  refine (clone_any p1 n n xs w1 hn20 (fun h => ⟨HP1.out h, HP1.out h⟩) HBA1.out).mono ?_
  rintro e w2 ⟨p2, rfl, hp2, hB2, hba2⟩
  have HB2 := aside (HB1.out.trans (hB2.mono hsz1))
  have HBA12 := aside ((HBA1.out.below hB2).mono hB2.size)
  have HBA2 := aside hba2
  have hsz2 := hB2.size
  have PW2 := aside (show Pows w2.heap.size w2 from fun name hn w' hb => HPW.out name hn w' (HB2.out.trans (hb.mono (by omega))))
  clear hba2 hp2 hB2 HBA1
  go_wp2_with fail
  refine (zzLetter_no F p1 n xs i s t u x y d w2 HXL.out HP1.out HBA12.out (tabs_heap HT.out HB2.out h2) PW2.out HX0.out HX1.out HY0.out HY1.out HD0.out HSZ.out (by rw [HB2.out.tape]; exact HF.out) HBAD.out).mono ?_
  rintro e w3 ⟨q, m, c3, g, zs, rfl, hml, hmc, hm8, hba3, hB3⟩
  have hsz3 := hB3.size
  have HB3 := aside (HB2.out.trans (hB3.mono (by omega)))
  have HBA23 := aside (HBA2.out.below hB3)
  have hnm : n ≤ m := by
    have h := HXL.out
    rw [List.length_append] at hml
    omega
  have HTK := aside (show BA w3 w3.heap.size q n xs by
    have h := hba3.take (k := n) hnm
    have e : (xs ++ zs).take n = xs := by rw [← HXL.out]; simp
    rw [e] at h
    exact h)
  clear hba3 hB3 HBA2 HBA12 hml
  have hnmz : ¬ (m : Int) < (n : Int) := by omega
  have hnc : (n : Int) ≤ (c3 : Int) := by omega
  go_wp2_with fail
  refine (CVi.out w3).mono ?_
  rintro e w' ⟨rfl, hw⟩
  rw [hw]
  clear hw
  go_wp2_with fail
  refine (CVs.out w3).mono ?_
  rintro e w' ⟨rfl, hw⟩
  rw [hw]
  clear hw
  go_wp2_with fail
  refine (equal_yes _ p2 _ _ n _ _ xs w3 (by omega) HTK.out HBA23.out).mono ?_
  rintro e w' ⟨rfl, m2, hw⟩
  rw [hw]
  clear hw
  go_wp2
  go_ret
  exact ⟨rfl, below_drewN HB3.out m2⟩

set_option maxHeartbeats 4000000 in
set_option maxRecDepth 100000 in
theorem law4_no2 (F : Interp) (a : Option Addr) (n c : Nat) (xs : List UInt8) (i s t u : ByteArray) (x y d : Int) (w : World) (hxl : xs.length = n) (hnil : a = none → n = 0 ∧ c = 0) (h1 : BA w w.heap.size a n xs) (hT : Lib.Utf8Tabs 0 1 w) (hP : Pows w.heap.size w)
    (hx0 : -9223372036854775808 ≤ x) (hx1 : x ≤ 9223372036854775807) (hy0 : -2147483648 ≤ y) (hy1 : y ≤ 2147483647) (hsz : n + i.size + s.size + t.size + u.size ≤ 1048576) (hF : F.answers w.tape)
    (hd0 : d ≠ 1000) (hvi : validD i.data.toList = true) (hvs : validD s.data.toList = true) (hvt : validD t.data.toList = false) :
    Calls Tryf.prog 6 #[.slice a n c, .string i, .int .i64 x, .string s, .int .i32 y, .string t, .string u, .int .i64 d] w fun e w' => e = .returned (.bool true) ∧ Below w.heap.size w w' := by
  have h2 : 2 ≤ w.heap.size := World.block_lt_of_cell? _ _ (hT.2 0 (by omega)).1
  have CC := aside (clone_any a n c xs w (by omega) hnil h1)
  have HT := aside hT
  have HPW := aside hP
  have HXL := aside hxl
  have HX0 := aside hx0
  have HX1 := aside hx1
  have HY0 := aside hy0
  have HY1 := aside hy1
  have HSZ := aside hsz
  have hbz : ¬ (1048576 : Int) < (n : Int) + (i.size : Int) + (s.size : Int) + (t.size : Int) + (u.size : Int) := by omega
  have hn20 : n ≤ 1048576 := by omega
  have si : (i.size : Int) ≤ 1048576 := by omega
  have ss : (s.size : Int) ≤ 1048576 := by omega
  have st : (t.size : Int) ≤ 1048576 := by omega
  have su : (u.size : Int) ≤ 1048576 := by omega
  have CVi := aside (fun w => valid_any i w (by omega))
  have CVs := aside (fun w => valid_any s w (by omega))
  have CVt := aside (fun w => valid_any t w (by omega))
  have CVu := aside (fun w => valid_any u w (by omega))
  have HF := aside hF
  rw [hvi] at CVi
  rw [hvs] at CVs
  rw [hvt] at CVt
  have HBAD := aside (show ¬ (validD i.data.toList = true ∧ validD s.data.toList = true ∧ validD t.data.toList = true ∧ validD u.data.toList = true) from fun h => by rw [hvt] at h; simp at h)
  have hd1 : (d == 1000) = false := by rw [beq_eq_false_iff_ne]; exact hd0
  have hd2 : (d != 1000) = true := by rw [bne, hd1]; rfl
  have HD0 := aside hd0
  clear hd0 hvi hvs hvt
  clear h1 hnil hT hP hxl hx0 hx1 hy0 hy1 hsz hF
  go_enter Tryf.func6, Tryf.ntmps6
  go_wp2_with fail
  refine (zzBytesL_yes a n c i s t u x y d w HSZ.out).mono ?_
  rintro e w' ⟨rfl, hw⟩
  rw [hw]
  clear hw
  go_wp2_with fail
  refine CC.out.mono ?_
  rintro e w1 ⟨p1, rfl, hp1, hB1, hba1⟩
  have HB1 := aside hB1
  have HBA1 := aside hba1
  have HP1 := aside hp1
  have hsz1 := hB1.size
  clear hB1 hba1 CC hp1
  go_wp2_with fail
  refine (clone_any p1 n n xs w1 hn20 (fun h => ⟨HP1.out h, HP1.out h⟩) HBA1.out).mono ?_
  rintro e w2 ⟨p2, rfl, hp2, hB2, hba2⟩
  have HB2 := aside (HB1.out.trans (hB2.mono hsz1))
  have HBA12 := aside ((HBA1.out.below hB2).mono hB2.size)
  have HBA2 := aside hba2
  have hsz2 := hB2.size
  have PW2 := aside (show Pows w2.heap.size w2 from fun name hn w' hb => HPW.out name hn w' (HB2.out.trans (hb.mono (by omega))))
  clear hba2 hp2 hB2 HBA1
  go_wp2_with fail
  refine (zzLetter_no F p1 n xs i s t u x y d w2 HXL.out HP1.out HBA12.out (tabs_heap HT.out HB2.out h2) PW2.out HX0.out HX1.out HY0.out HY1.out HD0.out HSZ.out (by rw [HB2.out.tape]; exact HF.out) HBAD.out).mono ?_
  rintro e w3 ⟨q, m, c3, g, zs, rfl, hml, hmc, hm8, hba3, hB3⟩
  have hsz3 := hB3.size
  have HB3 := aside (HB2.out.trans (hB3.mono (by omega)))
  have HBA23 := aside (HBA2.out.below hB3)
  have hnm : n ≤ m := by
    have h := HXL.out
    rw [List.length_append] at hml
    omega
  have HTK := aside (show BA w3 w3.heap.size q n xs by
    have h := hba3.take (k := n) hnm
    have e : (xs ++ zs).take n = xs := by rw [← HXL.out]; simp
    rw [e] at h
    exact h)
  clear hba3 hB3 HBA2 HBA12 hml
  have hnmz : ¬ (m : Int) < (n : Int) := by omega
  have hnc : (n : Int) ≤ (c3 : Int) := by omega
  go_wp2_with fail
  refine (CVi.out w3).mono ?_
  rintro e w' ⟨rfl, hw⟩
  rw [hw]
  clear hw
  go_wp2_with fail
  refine (CVs.out w3).mono ?_
  rintro e w' ⟨rfl, hw⟩
  rw [hw]
  clear hw
  go_wp2_with fail
  refine (CVt.out w3).mono ?_
  rintro e w' ⟨rfl, hw⟩
  rw [hw]
  clear hw
  go_wp2_with fail
  refine (equal_yes _ p2 _ _ n _ _ xs w3 (by omega) HTK.out HBA23.out).mono ?_
  rintro e w' ⟨rfl, m2, hw⟩
  rw [hw]
  clear hw
  go_wp2
  go_ret
  exact ⟨rfl, below_drewN HB3.out m2⟩

set_option maxHeartbeats 4000000 in
set_option maxRecDepth 100000 in
theorem law4_no3 (F : Interp) (a : Option Addr) (n c : Nat) (xs : List UInt8) (i s t u : ByteArray) (x y d : Int) (w : World) (hxl : xs.length = n) (hnil : a = none → n = 0 ∧ c = 0) (h1 : BA w w.heap.size a n xs) (hT : Lib.Utf8Tabs 0 1 w) (hP : Pows w.heap.size w)
    (hx0 : -9223372036854775808 ≤ x) (hx1 : x ≤ 9223372036854775807) (hy0 : -2147483648 ≤ y) (hy1 : y ≤ 2147483647) (hsz : n + i.size + s.size + t.size + u.size ≤ 1048576) (hF : F.answers w.tape)
    (hd0 : d ≠ 1000) (hvi : validD i.data.toList = true) (hvs : validD s.data.toList = true) (hvt : validD t.data.toList = true) (hvu : validD u.data.toList = false) :
    Calls Tryf.prog 6 #[.slice a n c, .string i, .int .i64 x, .string s, .int .i32 y, .string t, .string u, .int .i64 d] w fun e w' => e = .returned (.bool true) ∧ Below w.heap.size w w' := by
  have h2 : 2 ≤ w.heap.size := World.block_lt_of_cell? _ _ (hT.2 0 (by omega)).1
  have CC := aside (clone_any a n c xs w (by omega) hnil h1)
  have HT := aside hT
  have HPW := aside hP
  have HXL := aside hxl
  have HX0 := aside hx0
  have HX1 := aside hx1
  have HY0 := aside hy0
  have HY1 := aside hy1
  have HSZ := aside hsz
  have hbz : ¬ (1048576 : Int) < (n : Int) + (i.size : Int) + (s.size : Int) + (t.size : Int) + (u.size : Int) := by omega
  have hn20 : n ≤ 1048576 := by omega
  have si : (i.size : Int) ≤ 1048576 := by omega
  have ss : (s.size : Int) ≤ 1048576 := by omega
  have st : (t.size : Int) ≤ 1048576 := by omega
  have su : (u.size : Int) ≤ 1048576 := by omega
  have CVi := aside (fun w => valid_any i w (by omega))
  have CVs := aside (fun w => valid_any s w (by omega))
  have CVt := aside (fun w => valid_any t w (by omega))
  have CVu := aside (fun w => valid_any u w (by omega))
  have HF := aside hF
  rw [hvi] at CVi
  rw [hvs] at CVs
  rw [hvt] at CVt
  rw [hvu] at CVu
  have HBAD := aside (show ¬ (validD i.data.toList = true ∧ validD s.data.toList = true ∧ validD t.data.toList = true ∧ validD u.data.toList = true) from fun h => by rw [hvu] at h; simp at h)
  have hd1 : (d == 1000) = false := by rw [beq_eq_false_iff_ne]; exact hd0
  have hd2 : (d != 1000) = true := by rw [bne, hd1]; rfl
  have HD0 := aside hd0
  clear hd0 hvi hvs hvt hvu
  clear h1 hnil hT hP hxl hx0 hx1 hy0 hy1 hsz hF
  go_enter Tryf.func6, Tryf.ntmps6
  go_wp2_with fail
  refine (zzBytesL_yes a n c i s t u x y d w HSZ.out).mono ?_
  rintro e w' ⟨rfl, hw⟩
  rw [hw]
  clear hw
  go_wp2_with fail
  refine CC.out.mono ?_
  rintro e w1 ⟨p1, rfl, hp1, hB1, hba1⟩
  have HB1 := aside hB1
  have HBA1 := aside hba1
  have HP1 := aside hp1
  have hsz1 := hB1.size
  clear hB1 hba1 CC hp1
  go_wp2_with fail
  refine (clone_any p1 n n xs w1 hn20 (fun h => ⟨HP1.out h, HP1.out h⟩) HBA1.out).mono ?_
  rintro e w2 ⟨p2, rfl, hp2, hB2, hba2⟩
  have HB2 := aside (HB1.out.trans (hB2.mono hsz1))
  have HBA12 := aside ((HBA1.out.below hB2).mono hB2.size)
  have HBA2 := aside hba2
  have hsz2 := hB2.size
  have PW2 := aside (show Pows w2.heap.size w2 from fun name hn w' hb => HPW.out name hn w' (HB2.out.trans (hb.mono (by omega))))
  clear hba2 hp2 hB2 HBA1
  go_wp2_with fail
  refine (zzLetter_no F p1 n xs i s t u x y d w2 HXL.out HP1.out HBA12.out (tabs_heap HT.out HB2.out h2) PW2.out HX0.out HX1.out HY0.out HY1.out HD0.out HSZ.out (by rw [HB2.out.tape]; exact HF.out) HBAD.out).mono ?_
  rintro e w3 ⟨q, m, c3, g, zs, rfl, hml, hmc, hm8, hba3, hB3⟩
  have hsz3 := hB3.size
  have HB3 := aside (HB2.out.trans (hB3.mono (by omega)))
  have HBA23 := aside (HBA2.out.below hB3)
  have hnm : n ≤ m := by
    have h := HXL.out
    rw [List.length_append] at hml
    omega
  have HTK := aside (show BA w3 w3.heap.size q n xs by
    have h := hba3.take (k := n) hnm
    have e : (xs ++ zs).take n = xs := by rw [← HXL.out]; simp
    rw [e] at h
    exact h)
  clear hba3 hB3 HBA2 HBA12 hml
  have hnmz : ¬ (m : Int) < (n : Int) := by omega
  have hnc : (n : Int) ≤ (c3 : Int) := by omega
  go_wp2_with fail
  refine (CVi.out w3).mono ?_
  rintro e w' ⟨rfl, hw⟩
  rw [hw]
  clear hw
  go_wp2_with fail
  refine (CVs.out w3).mono ?_
  rintro e w' ⟨rfl, hw⟩
  rw [hw]
  clear hw
  go_wp2_with fail
  refine (CVt.out w3).mono ?_
  rintro e w' ⟨rfl, hw⟩
  rw [hw]
  clear hw
  go_wp2_with fail
  refine (CVu.out w3).mono ?_
  rintro e w' ⟨rfl, hw⟩
  rw [hw]
  clear hw
  go_wp2_with fail
  refine (equal_yes _ p2 _ _ n _ _ xs w3 (by omega) HTK.out HBA23.out).mono ?_
  rintro e w' ⟨rfl, m2, hw⟩
  rw [hw]
  clear hw
  go_wp2
  go_ret
  exact ⟨rfl, below_drewN HB3.out m2⟩

set_option maxHeartbeats 4000000 in
set_option maxRecDepth 100000 in
theorem law4_ok (a : Option Addr) (n c : Nat) (xs : List UInt8) (i s t u : ByteArray) (x y d : Int) (w : World) (hxl : xs.length = n) (hnil : a = none → n = 0 ∧ c = 0) (h1 : BA w w.heap.size a n xs) (hT : Lib.Utf8Tabs 0 1 w) (hP : Pows w.heap.size w)
    (hx0 : -9223372036854775808 ≤ x) (hx1 : x ≤ 9223372036854775807) (hy0 : -2147483648 ≤ y) (hy1 : y ≤ 2147483647) (hsz : n + i.size + s.size + t.size + u.size ≤ 1048576) (hd0 : d ≠ 1000)
    (hvi : validD i.data.toList = true) (hvs : validD s.data.toList = true) (hvt : validD t.data.toList = true) (hvu : validD u.data.toList = true) :
    Calls Tryf.prog 6 #[.slice a n c, .string i, .int .i64 x, .string s, .int .i32 y, .string t, .string u, .int .i64 d] w fun e w' => e = .returned (.bool true) ∧ Below w.heap.size w w' := by
  have h2 : 2 ≤ w.heap.size := World.block_lt_of_cell? _ _ (hT.2 0 (by omega)).1
  have CC := aside (clone_any a n c xs w (by omega) hnil h1)
  have HT := aside hT
  have HPW := aside hP
  have HXL := aside hxl
  have HX0 := aside hx0
  have HX1 := aside hx1
  have HY0 := aside hy0
  have HY1 := aside hy1
  have HSZ := aside hsz
  have hbz : ¬ (1048576 : Int) < (n : Int) + (i.size : Int) + (s.size : Int) + (t.size : Int) + (u.size : Int) := by omega
  have hn20 : n ≤ 1048576 := by omega
  have si : (i.size : Int) ≤ 1048576 := by omega
  have ss : (s.size : Int) ≤ 1048576 := by omega
  have st : (t.size : Int) ≤ 1048576 := by omega
  have su : (u.size : Int) ≤ 1048576 := by omega
  have CVi := aside (fun w => valid_any i w (by omega))
  have CVs := aside (fun w => valid_any s w (by omega))
  have CVt := aside (fun w => valid_any t w (by omega))
  have CVu := aside (fun w => valid_any u w (by omega))
  rw [hvi] at CVi
  have HVi := aside hvi
  rw [hvs] at CVs
  have HVs := aside hvs
  rw [hvt] at CVt
  have HVt := aside hvt
  rw [hvu] at CVu
  have HVu := aside hvu
  have hd1 : (d == 1000) = false := by rw [beq_eq_false_iff_ne]; exact hd0
  have hd2 : (d != 1000) = true := by rw [bne, hd1]; rfl
  have HD0 := aside hd0
  obtain ⟨I, hI⟩ : ∃ I, I = i.data.toList := ⟨_, rfl⟩
  obtain ⟨S, hS⟩ : ∃ S, S = s.data.toList := ⟨_, rfl⟩
  obtain ⟨Tt, hTt⟩ : ∃ Tt, Tt = t.data.toList := ⟨_, rfl⟩
  obtain ⟨U, hU⟩ : ∃ U, U = u.data.toList := ⟨_, rfl⟩
  have LI := aside (show I.length = i.size by rw [hI, Array.length_toList]; rfl)
  have LS := aside (show S.length = s.size by rw [hS, Array.length_toList]; rfl)
  have LT := aside (show Tt.length = t.size by rw [hTt, Array.length_toList]; rfl)
  have LU := aside (show U.length = u.size by rw [hU, Array.length_toList]; rfl)
  obtain ⟨X, hX⟩ : ∃ X, X = (y9 xs I x S y Tt U) := ⟨_, rfl⟩
  have HX := aside (show y9 xs i.data.toList x s.data.toList y t.data.toList u.data.toList = X by rw [hX, hI, hS, hTt, hU])
  have li := LI.out
  have ls := LS.out
  have lt := LT.out
  have lu := LU.out
  have ti := T_len I
  have ts := T_len S
  have tt := T_len Tt
  have tu := T_len U
  have ix := itoa_len x hx0 hx1
  have iy := itoa_len y (by omega) (by omega)
  have e0 : (y0 xs).length = n + 10 := by rw [y0, List.length_append, hxl, hd_len]
  have e1 : (y1 xs I).length = (y0 xs).length + (T I).length := by rw [y1, List.length_append]
  have e2 : (y2 xs I).length = (y1 xs I).length + 1 := by rw [y2, List.length_append]; rfl
  have e3 : (y3 xs I x).length = (y2 xs I).length + (itoa x).length := by rw [y3, List.length_append]
  have e4 : (y4 xs I x S).length = (y3 xs I x).length + (T S).length := by rw [y4, List.length_append]
  have e5 : (y5 xs I x S).length = (y4 xs I x S).length + 1 := by rw [y5, List.length_append]; rfl
  have e6 : (y6 xs I x S y).length = (y5 xs I x S).length + (itoa y).length := by rw [y6, List.length_append]
  have e7 : (y7 xs I x S y Tt).length = (y6 xs I x S y).length + (T Tt).length := by rw [y7, List.length_append]
  have e8 : (y8 xs I x S y Tt U).length = (y7 xs I x S y Tt).length + (T U).length := by rw [y8, List.length_append]
  have e9 : (y9 xs I x S y Tt U).length = (y8 xs I x S y Tt U).length + 1 := by rw [y9, List.length_append]; rfl
  have tl : ∀ l, (T l).length = 3 + (encS l).length := fun l => by unfold T; simp; omega
  obtain ⟨L1, g1⟩ : ∃ L, L = (y1 xs I).length := ⟨_, rfl⟩
  obtain ⟨L3, g3⟩ : ∃ L, L = (y3 xs I x).length := ⟨_, rfl⟩
  obtain ⟨L4, g4⟩ : ∃ L, L = (y4 xs I x S).length := ⟨_, rfl⟩
  obtain ⟨L6, g6⟩ : ∃ L, L = (y6 xs I x S y).length := ⟨_, rfl⟩
  obtain ⟨L7, g7⟩ : ∃ L, L = (y7 xs I x S y Tt).length := ⟨_, rfl⟩
  obtain ⟨L8, g8⟩ : ∃ L, L = (y8 xs I x S y Tt U).length := ⟨_, rfl⟩
  obtain ⟨N, hN⟩ : ∃ N, X.length = N := ⟨_, rfl⟩
  have hN9 : N = (y9 xs I x S y Tt U).length := by rw [← hN, hX]
  have emk : encS [35, 108, 101, 116, 116, 101, 114] = [35, 108, 101, 116, 116, 101, 114] := by decide
  have Dmk := aside (show X = (xs ++ [91]) ++ 34 :: (encS [35, 108, 101, 116, 116, 101, 114] ++ 34 :: (T I ++ [44] ++ itoa x ++ T S ++ [44] ++ itoa y ++ T Tt ++ T U ++ [93])) by rw [emk, hX]; simp [y9, y8, y7, y6, y5, y4, y3, y2, y1, y0, T, hd])
  have DI := aside (show X = ((y0 xs) ++ [44]) ++ 34 :: (encS I ++ 34 :: ([44] ++ itoa x ++ T S ++ [44] ++ itoa y ++ T Tt ++ T U ++ [93])) by rw [hX]; simp [y9, y8, y7, y6, y5, y4, y3, y2, y1, y0, T, hd])
  have DS := aside (show X = ((y3 xs I x) ++ [44]) ++ 34 :: (encS S ++ 34 :: ([44] ++ itoa y ++ T Tt ++ T U ++ [93])) by rw [hX]; simp [y9, y8, y7, y6, y5, y4, y3, y2, y1, y0, T, hd])
  have DTt := aside (show X = ((y6 xs I x S y) ++ [44]) ++ 34 :: (encS Tt ++ 34 :: (T U ++ [93])) by rw [hX]; simp [y9, y8, y7, y6, y5, y4, y3, y2, y1, y0, T, hd])
  have DU := aside (show X = ((y7 xs I x S y Tt) ++ [44]) ++ 34 :: (encS U ++ 34 :: ([93])) by rw [hX]; simp [y9, y8, y7, y6, y5, y4, y3, y2, y1, y0, T, hd])
  have Dx := aside (show X = (y2 xs I) ++ (itoa x ++ 44 :: (34 :: (encS S ++ [34]) ++ [44] ++ itoa y ++ T Tt ++ T U ++ [93])) by rw [hX]; simp [y9, y8, y7, y6, y5, y4, y3, y2, y1, y0, T, hd])
  have Dy := aside (show X = (y5 xs I x S) ++ (itoa y ++ 44 :: (34 :: (encS Tt ++ [34]) ++ T U ++ [93])) by rw [hX]; simp [y9, y8, y7, y6, y5, y4, y3, y2, y1, y0, T, hd])
  have En := aside (show X = xs ++ 91 :: ([34, 35, 108, 101, 116, 116, 101, 114, 34] ++ T I ++ [44] ++ itoa x ++ T S ++ [44] ++ itoa y ++ T Tt ++ T U ++ [93]) by rw [hX]; simp [y9, y8, y7, y6, y5, y4, y3, y2, y1, y0, T, hd])
  have E0 := aside (show X = (y0 xs) ++ 44 :: (34 :: (encS I ++ [34]) ++ [44] ++ itoa x ++ T S ++ [44] ++ itoa y ++ T Tt ++ T U ++ [93]) by rw [hX]; simp [y9, y8, y7, y6, y5, y4, y3, y2, y1, y0, T, hd])
  have E1 := aside (show X = (y1 xs I) ++ 44 :: (itoa x ++ T S ++ [44] ++ itoa y ++ T Tt ++ T U ++ [93]) by rw [hX]; simp [y9, y8, y7, y6, y5, y4, y3, y2, y1, y0, T, hd])
  have E3 := aside (show X = (y3 xs I x) ++ 44 :: (34 :: (encS S ++ [34]) ++ [44] ++ itoa y ++ T Tt ++ T U ++ [93]) by rw [hX]; simp [y9, y8, y7, y6, y5, y4, y3, y2, y1, y0, T, hd])
  have E4 := aside (show X = (y4 xs I x S) ++ 44 :: (itoa y ++ T Tt ++ T U ++ [93]) by rw [hX]; simp [y9, y8, y7, y6, y5, y4, y3, y2, y1, y0, T, hd])
  have E6 := aside (show X = (y6 xs I x S y) ++ 44 :: (34 :: (encS Tt ++ [34]) ++ T U ++ [93]) by rw [hX]; simp [y9, y8, y7, y6, y5, y4, y3, y2, y1, y0, T, hd])
  have E7 := aside (show X = (y7 xs I x S y Tt) ++ 44 :: (34 :: (encS U ++ [34]) ++ [93]) by rw [hX]; simp [y9, y8, y7, y6, y5, y4, y3, y2, y1, y0, T, hd])
  have E8 := aside (show X = (y8 xs I x S y Tt U) ++ 93 :: ([]) by rw [hX]; simp [y9, y8, y7, y6, y5, y4, y3, y2, y1, y0, T, hd])
  have HTK := aside (show X.take n = xs by rw [hX, ← hxl]; simp [y9, y8, y7, y6, y5, y4, y3, y2, y1, y0, T, hd])
  have q1 := tl I
  have q2 := tl S
  have q3 := tl Tt
  have q4 := tl U
  have Z1 := aside (show n + 1 = (xs ++ [91]).length by rw [List.length_append, hxl]; rfl)
  have J1 := aside (show n + 10 = (xs ++ [91]).length + 2 + (encS [35, 108, 101, 116, 116, 101, 114]).length by rw [List.length_append, hxl, emk]; simp)
  have Q0 := aside (show n + 10 = (y0 xs).length by omega)
  have Z2 := aside (show n + 10 + 1 = ((y0 xs) ++ [44]).length by rw [List.length_append, e0]; rfl)
  have J2 := aside (show L1 = ((y0 xs) ++ [44]).length + 2 + (encS I).length by rw [List.length_append, List.length_singleton]; omega)
  have Z3 := aside (show L1 + 1 = (y2 xs I).length by omega)
  have J3 := aside (show L3 = (y2 xs I).length + (itoa x).length by omega)
  have Z4 := aside (show L3 + 1 = ((y3 xs I x) ++ [44]).length by rw [List.length_append, List.length_singleton]; omega)
  have J4 := aside (show L4 = ((y3 xs I x) ++ [44]).length + 2 + (encS S).length by rw [List.length_append, List.length_singleton]; omega)
  have Z5 := aside (show L4 + 1 = (y5 xs I x S).length by omega)
  have J5 := aside (show L6 = (y5 xs I x S).length + (itoa y).length by omega)
  have Z6 := aside (show L6 + 1 = ((y6 xs I x S y) ++ [44]).length by rw [List.length_append, List.length_singleton]; omega)
  have J6 := aside (show L7 = ((y6 xs I x S y) ++ [44]).length + 2 + (encS Tt).length by rw [List.length_append, List.length_singleton]; omega)
  have Z7 := aside (show L7 + 1 = ((y7 xs I x S y Tt) ++ [44]).length by rw [List.length_append, List.length_singleton]; omega)
  have J7 := aside (show L8 = ((y7 xs I x S y Tt) ++ [44]).length + 2 + (encS U).length by rw [List.length_append, List.length_singleton]; omega)
  have Z8 := aside (show L8 + 1 = N by omega)
  have G1 := aside g1
  have G3 := aside g3
  have G4 := aside g4
  have G6 := aside g6
  have G7 := aside g7
  have G8 := aside g8
  have hN2 : N ≤ 8388608 := by omega
  have hnN : n ≤ N := by omega
  have HN := aside hN
  have HHI := aside hI
  have HHS := aside hS
  have HHT := aside hTt
  have HHU := aside hU
  have HYA := aside (show -9223372036854775808 ≤ y by omega)
  have HYB := aside (show y ≤ 9223372036854775807 by omega)
  have hwy : wrap64 y = y := by simp [wrap64]; omega
  clear hI hS hTt hU hX hN hN9 li ls lt lu ti ts tt tu ix iy e0 e1 e2 e3 e4 e5 e6 e7 e8 e9 tl g1 g3 g4 g6 g7 g8 emk q1 q2 q3 q4 hvi hvs hvt hvu hd0
  clear h1 hnil hT hP hxl hx0 hx1 hy0 hy1 hsz
  go_enter Tryf.func6, Tryf.ntmps6
  go_wp2_with fail
  refine (zzBytesL_yes a n c i s t u x y d w HSZ.out).mono ?_
  rintro e w' ⟨rfl, hw⟩
  rw [hw]
  clear hw
  go_wp2_with fail
  refine CC.out.mono ?_
  rintro e w1 ⟨p1, rfl, hp1, hB1, hba1⟩
  have HB1 := aside hB1
  have HBA1 := aside hba1
  have HP1 := aside hp1
  have hsz1 := hB1.size
  clear hB1 hba1 CC hp1
  go_wp2_with fail
  refine (clone_any p1 n n xs w1 hn20 (fun h => ⟨HP1.out h, HP1.out h⟩) HBA1.out).mono ?_
  rintro e w2 ⟨p2, rfl, hp2, hB2, hba2⟩
  have HB2 := aside (HB1.out.trans (hB2.mono hsz1))
  have HBA12 := aside ((HBA1.out.below hB2).mono hB2.size)
  have HBA2 := aside hba2
  have hsz2 := hB2.size
  have PW2 := aside (show Pows w2.heap.size w2 from fun name hn w' hb => HPW.out name hn w' (HB2.out.trans (hb.mono (by omega))))
  clear hba2 hp2 hB2 HBA1
  go_wp2_with fail
  refine (zzLetter_ok p1 n xs i s t u x y d w2 HXL.out HP1.out HBA12.out (tabs_heap HT.out HB2.out h2) PW2.out HX0.out HX1.out HY0.out HY1.out HD0.out HSZ.out HVi.out HVs.out HVt.out HVu.out).mono ?_
  rintro e w3 ⟨v3, rfl, hown3, hB3⟩
  have hsz3 := hB3.size
  have HB3 := aside (HB2.out.trans (hB3.mono (by omega)))
  have HBA23 := aside (HBA2.out.below hB3)
  rw [HX.out] at hown3
  obtain ⟨q, c3, hv3, hc3, _, _, hba3⟩ := hown3.shape
  rw [HN.out] at hv3 hc3 hba3
  subst hv3
  obtain ⟨b, o, hq, _, _⟩ := hba3 (by have := Z8.out; omega)
  subst hq
  have HTK3 := aside (show BA w3 w3.heap.size (some ⟨b, o, none⟩) n xs by
    have h := hba3.take (k := n) hnN
    rw [HTK.out] at h
    exact h)
  have A3 := aside hba3
  clear hba3 hB3 hown3 HBA2 HBA12 HTK
  have hnmz : ¬ (N : Int) < (n : Int) := by omega
  have hnc : (n : Int) ≤ (c3 : Int) := by omega
  have hN16 : N ≤ 16777216 := by omega
  go_wp2_with fail
  refine (CVi.out w3).mono ?_
  rintro e w' ⟨rfl, hw⟩
  rw [hw]
  clear hw
  go_wp2_with fail
  refine (CVs.out w3).mono ?_
  rintro e w' ⟨rfl, hw⟩
  rw [hw]
  clear hw
  go_wp2_with fail
  refine (CVt.out w3).mono ?_
  rintro e w' ⟨rfl, hw⟩
  rw [hw]
  clear hw
  go_wp2_with fail
  refine (CVu.out w3).mono ?_
  rintro e w' ⟨rfl, hw⟩
  rw [hw]
  clear hw
  go_wp2_with fail
  refine (equal_yes _ p2 _ _ n _ _ xs w3 (by omega) HTK3.out HBA23.out).mono ?_
  rintro e w4 ⟨rfl, m2, hw⟩
  have HB4 := aside (show Below w.heap.size w w4 by rw [hw]; exact below_drewN HB3.out m2)
  have A4 := aside (show BA w4 w4.heap.size (some ⟨b, o, none⟩) N X by rw [hw]; exact A3.out.drewN m2)
  have hsz4 : w.heap.size ≤ w4.heap.size := HB4.out.size
  clear hw A3 HTK3 HBA23 HB3
  go_wp2_with fail
  refine (expect_any b o N c3 n 91 X xs _ (n : Int) 91 w4 (by omega) rfl HXL.out.symm En.out HN.out hN16 A4.out).mono ?_
  rintro e w' ⟨rfl, hw⟩
  rw [hw]
  clear hw
  go_wp2_with fail
  refine (readS_any _ N c3 (n + 10) X (xs ++ [91]) [35, 108, 101, 116, 116, 101, 114] _ ((n : Int) + 1) w4 (by have := Z1.out; omega) J1.out Dmk.out HN.out hN16 (by decide) A4.out).mono ?_
  rintro e w5 ⟨q5, c5, rfl, hba, hB⟩
  have HB5 := aside (HB4.out.trans (hB.mono hsz4))
  have A5 := aside ((A4.out.below hB).mono hB.size)
  have hsz5 : w.heap.size ≤ w5.heap.size := HB5.out.size
  have HD5 := aside hba
  clear hba hB A4 HB4
  go_wp2_with fail
  refine (equalString_yes q5 _ 7 c5 ⟨#[35, 108, 101, 116, 116, 101, 114]⟩ w5 rfl (by omega) HD5.out).mono ?_
  rintro e w6 ⟨rfl, m2, hw⟩
  have HB6 := aside (show Below w.heap.size w w6 by rw [hw]; exact below_drewN HB5.out m2)
  have A6 := aside (show BA w6 w6.heap.size (some ⟨b, o, none⟩) N X by rw [hw]; exact A5.out.drewN m2)
  have hsz6 : w.heap.size ≤ w6.heap.size := HB6.out.size
  clear hw A5 HB5 HD5
  go_wp2_with fail
  refine (expect_any b o N c3 (n + 10) 44 X (y0 xs) _ ((n : Int) + 10) 44 w6 (by omega) rfl Q0.out E0.out HN.out hN16 A6.out).mono ?_
  rintro e w' ⟨rfl, hw⟩
  rw [hw]
  clear hw
  go_wp2_with fail
  refine (readS_any _ N c3 L1 X ((y0 xs) ++ [44]) I _ ((n : Int) + 10 + 1) w6 (by have := Z2.out; omega) J2.out DI.out HN.out hN16 (by rw [LI.out]; omega) A6.out).mono ?_
  rintro e w7 ⟨q7, c7, rfl, hba, hB⟩
  have HB7 := aside (HB6.out.trans (hB.mono hsz6))
  have A7 := aside ((A6.out.below hB).mono hB.size)
  have hsz7 : w.heap.size ≤ w7.heap.size := HB7.out.size
  rw [LI.out] at hba ⊢
  have HD7 := aside hba
  clear hba hB A6 HB6
  go_wp2_with fail
  refine (equalString_yes q7 _ i.size c7 i w7 rfl (by omega) (by have h := HD7.out; rw [HHI.out] at h; exact h)).mono ?_
  rintro e w8 ⟨rfl, m2, hw⟩
  have HB8 := aside (show Below w.heap.size w w8 by rw [hw]; exact below_drewN HB7.out m2)
  have A8 := aside (show BA w8 w8.heap.size (some ⟨b, o, none⟩) N X by rw [hw]; exact A7.out.drewN m2)
  have hsz8 : w.heap.size ≤ w8.heap.size := HB8.out.size
  clear hw A7 HB7 HD7
  go_wp2_with fail
  refine (expect_any b o N c3 L1 44 X (y1 xs I) _ (L1 : Int) 44 w8 (by omega) rfl G1.out E1.out HN.out hN16 A8.out).mono ?_
  rintro e w' ⟨rfl, hw⟩
  rw [hw]
  clear hw
  go_wp2_with fail
  refine (readInt_any b o N c3 L3 X (y2 xs I) _ x ((L1 : Int) + 1) w8 (by have := Z3.out; omega) J3.out Dx.out HN.out hN16 HX0.out HX1.out A8.out).mono ?_
  rintro e w' ⟨rfl, hw⟩
  rw [hw]
  clear hw
  go_wp2_with fail
  refine (expect_any b o N c3 L3 44 X (y3 xs I x) _ (L3 : Int) 44 w8 (by omega) rfl G3.out E3.out HN.out hN16 A8.out).mono ?_
  rintro e w' ⟨rfl, hw⟩
  rw [hw]
  clear hw
  go_wp2_with fail
  refine (readS_any _ N c3 L4 X ((y3 xs I x) ++ [44]) S _ ((L3 : Int) + 1) w8 (by have := Z4.out; omega) J4.out DS.out HN.out hN16 (by rw [LS.out]; omega) A8.out).mono ?_
  rintro e w9 ⟨q9, c9, rfl, hba, hB⟩
  have HB9 := aside (HB8.out.trans (hB.mono hsz8))
  have A9 := aside ((A8.out.below hB).mono hB.size)
  have hsz9 : w.heap.size ≤ w9.heap.size := HB9.out.size
  rw [LS.out] at hba ⊢
  have HD9 := aside hba
  clear hba hB A8 HB8
  go_wp2_with fail
  refine (equalString_yes q9 _ s.size c9 s w9 rfl (by omega) (by have h := HD9.out; rw [HHS.out] at h; exact h)).mono ?_
  rintro e w10 ⟨rfl, m2, hw⟩
  have HB10 := aside (show Below w.heap.size w w10 by rw [hw]; exact below_drewN HB9.out m2)
  have A10 := aside (show BA w10 w10.heap.size (some ⟨b, o, none⟩) N X by rw [hw]; exact A9.out.drewN m2)
  have hsz10 : w.heap.size ≤ w10.heap.size := HB10.out.size
  clear hw A9 HB9 HD9
  go_wp2_with fail
  refine (expect_any b o N c3 L4 44 X (y4 xs I x S) _ (L4 : Int) 44 w10 (by omega) rfl G4.out E4.out HN.out hN16 A10.out).mono ?_
  rintro e w' ⟨rfl, hw⟩
  rw [hw]
  clear hw
  go_wp2_with fail
  refine (readInt_any b o N c3 L6 X (y5 xs I x S) _ y ((L4 : Int) + 1) w10 (by have := Z5.out; omega) J5.out Dy.out HN.out hN16 HYA.out HYB.out A10.out).mono ?_
  rintro e w' ⟨rfl, hw⟩
  rw [hw]
  clear hw
  go_wp2_with fail
  refine (expect_any b o N c3 L6 44 X (y6 xs I x S y) _ (L6 : Int) 44 w10 (by omega) rfl G6.out E6.out HN.out hN16 A10.out).mono ?_
  rintro e w' ⟨rfl, hw⟩
  rw [hw]
  clear hw
  go_wp2_with fail
  refine (readS_any _ N c3 L7 X ((y6 xs I x S y) ++ [44]) Tt _ ((L6 : Int) + 1) w10 (by have := Z6.out; omega) J6.out DTt.out HN.out hN16 (by rw [LT.out]; omega) A10.out).mono ?_
  rintro e w11 ⟨q11, c11, rfl, hba, hB⟩
  have HB11 := aside (HB10.out.trans (hB.mono hsz10))
  have A11 := aside ((A10.out.below hB).mono hB.size)
  have hsz11 : w.heap.size ≤ w11.heap.size := HB11.out.size
  rw [LT.out] at hba ⊢
  have HD11 := aside hba
  clear hba hB A10 HB10
  go_wp2_with fail
  refine (equalString_yes q11 _ t.size c11 t w11 rfl (by omega) (by have h := HD11.out; rw [HHT.out] at h; exact h)).mono ?_
  rintro e w12 ⟨rfl, m2, hw⟩
  have HB12 := aside (show Below w.heap.size w w12 by rw [hw]; exact below_drewN HB11.out m2)
  have A12 := aside (show BA w12 w12.heap.size (some ⟨b, o, none⟩) N X by rw [hw]; exact A11.out.drewN m2)
  have hsz12 : w.heap.size ≤ w12.heap.size := HB12.out.size
  clear hw A11 HB11 HD11
  go_wp2_with fail
  refine (expect_any b o N c3 L7 44 X (y7 xs I x S y Tt) _ (L7 : Int) 44 w12 (by omega) rfl G7.out E7.out HN.out hN16 A12.out).mono ?_
  rintro e w' ⟨rfl, hw⟩
  rw [hw]
  clear hw
  go_wp2_with fail
  refine (readS_any _ N c3 L8 X ((y7 xs I x S y Tt) ++ [44]) U _ ((L7 : Int) + 1) w12 (by have := Z7.out; omega) J7.out DU.out HN.out hN16 (by rw [LU.out]; omega) A12.out).mono ?_
  rintro e w13 ⟨q13, c13, rfl, hba, hB⟩
  have HB13 := aside (HB12.out.trans (hB.mono hsz12))
  have A13 := aside ((A12.out.below hB).mono hB.size)
  have hsz13 : w.heap.size ≤ w13.heap.size := HB13.out.size
  rw [LU.out] at hba ⊢
  have HD13 := aside hba
  clear hba hB A12 HB12
  go_wp2_with fail
  refine (equalString_yes q13 _ u.size c13 u w13 rfl (by omega) (by have h := HD13.out; rw [HHU.out] at h; exact h)).mono ?_
  rintro e w14 ⟨rfl, m2, hw⟩
  have HB14 := aside (show Below w.heap.size w w14 by rw [hw]; exact below_drewN HB13.out m2)
  have A14 := aside (show BA w14 w14.heap.size (some ⟨b, o, none⟩) N X by rw [hw]; exact A13.out.drewN m2)
  have hsz14 : w.heap.size ≤ w14.heap.size := HB14.out.size
  clear hw A13 HB13 HD13
  go_wp2_with fail
  refine (expect_any b o N c3 L8 93 X (y8 xs I x S y Tt U) _ (L8 : Int) 93 w14 (by omega) rfl G8.out E8.out HN.out hN16 A14.out).mono ?_
  rintro e w' ⟨rfl, hw⟩
  rw [hw]
  clear hw
  have hfin : (((L8 : Int) + 1) == (N : Int)) = true := by have := Z8.out; rw [beq_iff_eq]; omega
  go_wp2
  go_ret
  exact ⟨rfl, HB14.out⟩

set_option maxHeartbeats 4000000 in
set_option maxRecDepth 100000 in
theorem law4_any (F : Interp) (a : Option Addr) (n c : Nat) (xs : List UInt8) (i s t u : ByteArray) (x y d : Int) (w : World) (hxl : xs.length = n) (hnil : a = none → n = 0 ∧ c = 0) (h1 : BA w w.heap.size a n xs) (hT : Lib.Utf8Tabs 0 1 w) (hP : Pows w.heap.size w)
    (hx0 : -9223372036854775808 ≤ x) (hx1 : x ≤ 9223372036854775807) (hy0 : -2147483648 ≤ y) (hy1 : y ≤ 2147483647)  (hF : F.answers w.tape) :
    Calls Tryf.prog 6 #[.slice a n c, .string i, .int .i64 x, .string s, .int .i32 y, .string t, .string u, .int .i64 d] w fun e w' => e = .returned (.bool true) ∧ Below w.heap.size w w' := by
  by_cases hsz : n + i.size + s.size + t.size + u.size ≤ 1048576
  · by_cases hd : d = 1000
    · subst hd
      exact law4_deep F a n c xs i s t u x y w hxl hnil h1 hT hP hx0 hx1 hy0 hy1 hsz hF
    · cases hi : validD i.data.toList with
      | false => exact law4_no0 F a n c xs i s t u x y d w hxl hnil h1 hT hP hx0 hx1 hy0 hy1 hsz hF hd hi
      | true =>
        cases hs : validD s.data.toList with
        | false => exact law4_no1 F a n c xs i s t u x y d w hxl hnil h1 hT hP hx0 hx1 hy0 hy1 hsz hF hd hi hs
        | true =>
          cases ht : validD t.data.toList with
          | false => exact law4_no2 F a n c xs i s t u x y d w hxl hnil h1 hT hP hx0 hx1 hy0 hy1 hsz hF hd hi hs ht
          | true =>
            cases hu : validD u.data.toList with
            | false => exact law4_no3 F a n c xs i s t u x y d w hxl hnil h1 hT hP hx0 hx1 hy0 hy1 hsz hF hd hi hs ht hu
            | true => exact law4_ok a n c xs i s t u x y d w hxl hnil h1 hT hP hx0 hx1 hy0 hy1 hsz hd hi hs ht hu
  · clear hnil h1 hT hF hxl hP hx0 hx1 hy0 hy1
    have C := aside (fun w => zzBytesL_no a n c i s t u x y d w hsz)
    go_enter Tryf.func6, Tryf.ntmps6
    go_wp2_with (go_at_call 17; refine (C.out _).mono ?_; rintro e w' ⟨rfl, hw⟩; rw [hw])
    go_ret
    exact ⟨rfl, Below.refl _ _⟩

end Go.Proofs.Qxb6003874aFmt
