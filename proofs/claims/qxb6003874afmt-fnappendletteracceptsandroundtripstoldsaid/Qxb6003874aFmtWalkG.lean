/-
  THE WALKS OF appendLetter AND ZZAppendLetter.
-/
import Derived.Test.Qxb6003874aFmtWalkC
import Derived.Test.Qxb6003874aFmtWalkN
import Derived.Test.Qxb6003874aFmtWalkT
import Derived.Test.Qxb6003874aFmtShelf2
namespace Go.Proofs.Qxb6003874aFmt
open Go.RowKit Go.Lib Go.Extern.Stop Go.Stop Go.Extern

/-- A comma and a text, as appendText writes them. -/
def T (l : List UInt8) : List UInt8 := 44 :: 34 :: (encS l ++ [34])
theorem T_len (l : List UInt8) : (T l).length ≤ 6 * l.length + 3 := by
  have := encS_len l
  unfold T
  simp
  omega
/-- The marker. -/
def hd : List UInt8 := [91, 34, 35, 108, 101, 116, 116, 101, 114, 34]
theorem hd_len : hd.length = 10 := rfl
/-- The letter as it is written, stage by stage. -/
def y0 (xs : List UInt8) : List UInt8 := xs ++ hd
def y1 (xs i : List UInt8) : List UInt8 := y0 xs ++ T i
def y2 (xs i : List UInt8) : List UInt8 := y1 xs i ++ [44]
def y3 (xs i : List UInt8) (x : Int) : List UInt8 := y2 xs i ++ itoa x
def y4 (xs i : List UInt8) (x : Int) (s : List UInt8) : List UInt8 := y3 xs i x ++ T s
def y5 (xs i : List UInt8) (x : Int) (s : List UInt8) : List UInt8 := y4 xs i x s ++ [44]
def y6 (xs i : List UInt8) (x : Int) (s : List UInt8) (y : Int) : List UInt8 := y5 xs i x s ++ itoa y
def y7 (xs i : List UInt8) (x : Int) (s : List UInt8) (y : Int) (t : List UInt8) : List UInt8 := y6 xs i x s y ++ T t
def y8 (xs i : List UInt8) (x : Int) (s : List UInt8) (y : Int) (t u : List UInt8) : List UInt8 := y7 xs i x s y t ++ T u
def y9 (xs i : List UInt8) (x : Int) (s : List UInt8) (y : Int) (t u : List UInt8) : List UInt8 := y8 xs i x s y t u ++ [93]

/-- The letter in its box. -/
def Box (w : World) (G : Nat) (i : ByteArray) (x : Int) (s : ByteArray) (y : Int) (t u : ByteArray) : Prop :=
  w.cell? ⟨G, 0, none⟩ = some (.string i) ∧ w.cell? ⟨G, 1, none⟩ = some (.int .i64 x) ∧ w.cell? ⟨G, 2, none⟩ = some (.string s) ∧ w.cell? ⟨G, 3, none⟩ = some (.int .i32 y) ∧ w.cell? ⟨G, 4, none⟩ = some (.string t) ∧ w.cell? ⟨G, 5, none⟩ = some (.string u)
theorem Box.below {w w' : World} {G : Nat} {i : ByteArray} {x : Int} {s : ByteArray} {y : Int} {t u : ByteArray} (h : Box w G i x s y t u) {N : Nat} (hB : Below N w w') (hG : G < N) : Box w' G i x s y t u := by
  obtain ⟨z0, z1, z2, z3, z4, z5⟩ := h
  exact ⟨(hB.cell (p := ⟨G, 0, none⟩) hG).trans z0, (hB.cell (p := ⟨G, 1, none⟩) hG).trans z1, (hB.cell (p := ⟨G, 2, none⟩) hG).trans z2, (hB.cell (p := ⟨G, 3, none⟩) hG).trans z3, (hB.cell (p := ⟨G, 4, none⟩) hG).trans z4, (hB.cell (p := ⟨G, 5, none⟩) hG).trans z5⟩

set_option maxHeartbeats 2000000 in
set_option maxRecDepth 100000 in
theorem letter_ok (p : Option Addr) (n : Nat) (xs : List UInt8) (i s t u : ByteArray) (x y d : Int) (w : World) (hxl : xs.length = n) (hnil : p = none → n = 0) (hba : BA w w.heap.size p n xs) (hT : Lib.Utf8Tabs 0 1 w) (hP : Pows w.heap.size w)
    (hx0 : -9223372036854775808 ≤ x) (hx1 : x ≤ 9223372036854775807) (hy0 : -2147483648 ≤ y) (hy1 : y ≤ 2147483647) (hd0 : d ≠ 1000) (hsz : n + i.size + s.size + t.size + u.size ≤ 1048576)
    (hvi : validD i.data.toList = true) (hvs : validD s.data.toList = true) (hvt : validD t.data.toList = true) (hvu : validD u.data.toList = true) :
    Calls Tryf.prog 26 #[.slice p n n, .agg #[.string i, .int .i64 x, .string s, .int .i32 y, .string t, .string u], .int .i64 d] w fun e w' => ∃ v', e = .returned (.tuple #[v', .nilIface]) ∧ Own w' w.heap.size v' (y9 xs i.data.toList x s.data.toList y t.data.toList u.data.toList) ∧ Below w.heap.size w w' := by
  have HVi := aside hvi
  have HVs := aside hvs
  have HVt := aside hvt
  have HVu := aside hvu
  clear hvi hvs hvt hvu
  have h2 : 2 ≤ w.heap.size := World.block_lt_of_cell? _ _ (hT.2 0 (by omega)).1
  have li := show i.data.toList.length = i.size by rw [Array.length_toList]; rfl
  have ls := show s.data.toList.length = s.size by rw [Array.length_toList]; rfl
  have lt := show t.data.toList.length = t.size by rw [Array.length_toList]; rfl
  have lu := show u.data.toList.length = u.size by rw [Array.length_toList]; rfl
  have ti := T_len i.data.toList
  have ts := T_len s.data.toList
  have tt := T_len t.data.toList
  have tu := T_len u.data.toList
  have ix := itoa_len x hx0 hx1
  have iy := itoa_len y (by omega) (by omega)
  have e0 : (y0 xs).length = n + 10 := by rw [y0, List.length_append, hxl, hd_len]
  have e1 : (y1 xs i.data.toList).length = (y0 xs).length + (T i.data.toList).length := by rw [y1, List.length_append]
  have e2 : (y2 xs i.data.toList).length = (y1 xs i.data.toList).length + 1 := by rw [y2, List.length_append]; rfl
  have e3 : (y3 xs i.data.toList x).length = (y2 xs i.data.toList).length + (itoa x).length := by rw [y3, List.length_append]
  have e4 : (y4 xs i.data.toList x s.data.toList).length = (y3 xs i.data.toList x).length + (T s.data.toList).length := by rw [y4, List.length_append]
  have e5 : (y5 xs i.data.toList x s.data.toList).length = (y4 xs i.data.toList x s.data.toList).length + 1 := by rw [y5, List.length_append]; rfl
  have e6 : (y6 xs i.data.toList x s.data.toList y).length = (y5 xs i.data.toList x s.data.toList).length + (itoa y).length := by rw [y6, List.length_append]
  have e7 : (y7 xs i.data.toList x s.data.toList y t.data.toList).length = (y6 xs i.data.toList x s.data.toList y).length + (T t.data.toList).length := by rw [y7, List.length_append]
  have e8 : (y8 xs i.data.toList x s.data.toList y t.data.toList u.data.toList).length = (y7 xs i.data.toList x s.data.toList y t.data.toList).length + (T u.data.toList).length := by rw [y8, List.length_append]
  have B0 := aside (show (y0 xs).length + 1 ≤ 8388608 by omega)
  have B1 := aside (show (y1 xs i.data.toList).length + 1 ≤ 8388608 by omega)
  have B2 := aside (show (y2 xs i.data.toList).length + 1 ≤ 8388608 by omega)
  have B3 := aside (show (y3 xs i.data.toList x).length + 1 ≤ 8388608 by omega)
  have B4 := aside (show (y4 xs i.data.toList x s.data.toList).length + 1 ≤ 8388608 by omega)
  have B5 := aside (show (y5 xs i.data.toList x s.data.toList).length + 1 ≤ 8388608 by omega)
  have B6 := aside (show (y6 xs i.data.toList x s.data.toList y).length + 1 ≤ 8388608 by omega)
  have B7 := aside (show (y7 xs i.data.toList x s.data.toList y t.data.toList).length + 1 ≤ 8388608 by omega)
  have B8 := aside (show (y8 xs i.data.toList x s.data.toList y t.data.toList u.data.toList).length + 1 ≤ 8388608 by omega)
  have HW := aside (show wrap64 y = y by simp [wrap64]; omega)
  have hwy := HW.out
  have HI := aside hx0
  have HI1 := aside hx1
  have HYA := aside (show -9223372036854775808 ≤ y by omega)
  have HYB := aside (show y ≤ 9223372036854775807 by omega)
  have SI := aside (show i.size ≤ 1048576 by omega)
  have SS := aside (show s.size ≤ 1048576 by omega)
  have ST := aside (show t.size ≤ 1048576 by omega)
  have SU := aside (show u.size ≤ 1048576 by omega)
  have hn10 : n + 10 ≤ 16777216 := by omega
  obtain ⟨w0, hw0⟩ : ∃ w0, w0 = w.alloc (.cells #[.string i, .int .i64 x, .string s, .int .i32 y, .string t, .string u] 57) := ⟨_, rfl⟩
  have HB0 := aside (show Below w.heap.size w w0 by rw [hw0]; exact (Below.refl _ _).alloc (Nat.le_refl _) _)
  have hs0 : w0.heap.size = w.heap.size + 1 := by rw [hw0]; simp
  have BX0 := aside (show Box w0 w.heap.size i x s y t u by rw [hw0]; refine ⟨?_, ?_, ?_, ?_, ?_, ?_⟩ <;> (rw [World.cell?_alloc_at _ _ _ _ rfl]; rfl))
  have HBA0 := aside (show BA w0 w0.heap.size p n xs from (hba.below HB0.out).mono (by omega))
  have HP := aside hnil
  have HXL := aside hxl
  have HT0 := aside (tabs_heap hT HB0.out h2)
  have PW := aside (show Pows w0.heap.size w0 from fun name hn w' hb => hP name hn w' (HB0.out.trans (hb.mono (by omega))))
  have HW0 := aside hw0
  obtain ⟨B, hB⟩ : ∃ B, B = w0.heap.size := ⟨_, rfl⟩
  rw [← hB] at PW hs0
  have HBB := aside hB
  have h2B : 2 ≤ B := by omega
  have hGB : w.heap.size < B := by omega
  have hlb : w.heap.size ≤ B := by omega
  clear hba hT hP hnil hxl hsz li ls lt lu ti ts tt tu ix iy e0 e1 e2 e3 e4 e5 e6 e7 e8 hx0 hx1 hy0 hy1 hw0 h2 hB hs0
  go_enter Tryf.func26, Tryf.ntmps26
  go_wp2_with fail
  refine (nest_no d _ hd0).mono ?_
  rintro e w' ⟨rfl, hw⟩
  rw [hw, ← HW0.out]
  clear hw
  go_upto_region 5 with (at_builtin; refine app_full_str _ rfl _ _ rfl p n xs rfl HXL.out HP.out HBA0.out _ rfl (by decide) hn10 ?_; intro v1 w1 h1 hB1; rw [← HBB.out] at h1 hB1; have OWN1 := aside (show Own w1 B v1 (y0 xs) from h1); have HB1 := aside hB1; have BX1 := aside (BX0.out.below hB1 hGB); have hBw1 : B ≤ w1.heap.size := Nat.le_trans (Nat.le_of_eq HBB.out) hB1.size; clear h1 hB1)
  obtain ⟨z0, z1, z2, z3, z4, z5⟩ := BX1.out
  go_wp2_with fail
  refine (appendText_ok B v1 (y0 xs) i _ w1 SI.out (Src.own OWN1.out hBw1) B0.out h2B (tabs_heap HT0.out HB1.out h2B) HVi.out).mono ?_
  rintro e w2 ⟨v2, rfl, h3, hB3⟩
  have OWN2 := aside (show Own w2 B v2 (y1 xs i.data.toList) from h3)
  have HB2 := aside (HB1.out.trans hB3)
  have BX2 := aside (BX1.out.below hB3 hGB)
  have hBw2 : B ≤ w2.heap.size := Nat.le_trans hBw1 hB3.size
  clear h3 hB3 OWN1 BX1 z0 z1 z2 z3 z4 z5
  have hb2 : (y1 xs i.data.toList).length + 1 ≤ 16777216 := Nat.le_trans B1.out (by omega)
  go_upto_region 9 with (at_builtin; refine app_lit _ rfl _ _ rfl B _ _ rfl OWN2.out [44] 1 rfl rfl _ rfl hb2 hBw2 ?_; intro v3 w3 h3 hB3; have OWN3 := aside (show Own w3 B v3 (y2 xs i.data.toList) from h3); have HB3 := aside (HB2.out.trans hB3); have BX3 := aside (BX2.out.below hB3 hGB); have hBw3 : B ≤ w3.heap.size := Nat.le_trans hBw2 hB3.size; clear h3 hB3)
  clear OWN2 BX2 hb2
  obtain ⟨z0, z1, z2, z3, z4, z5⟩ := BX3.out
  go_wp2_with fail
  refine (appendInt_any B v3 (y2 xs i.data.toList) x w3 HI.out HI1.out OWN3.out hBw3 (Nat.le_trans (Nat.le_succ _) (Nat.le_trans B2.out (by omega))) (PW.out.on HB3.out)).mono ?_
  rintro e w4 ⟨v4, rfl, h3, hB3⟩
  have OWN4 := aside (show Own w4 B v4 (y3 xs i.data.toList x) from h3)
  have HB4 := aside (HB3.out.trans hB3)
  have BX4 := aside (BX3.out.below hB3 hGB)
  have hBw4 : B ≤ w4.heap.size := Nat.le_trans hBw3 hB3.size
  clear h3 hB3 OWN3 BX3 z0 z1 z2 z3 z4 z5
  obtain ⟨z0, z1, z2, z3, z4, z5⟩ := BX4.out
  go_wp2_with fail
  refine (appendText_ok B v4 (y3 xs i.data.toList x) s _ w4 SS.out (Src.own OWN4.out hBw4) B3.out h2B (tabs_heap HT0.out HB4.out h2B) HVs.out).mono ?_
  rintro e w5 ⟨v5, rfl, h3, hB3⟩
  have OWN5 := aside (show Own w5 B v5 (y4 xs i.data.toList x s.data.toList) from h3)
  have HB5 := aside (HB4.out.trans hB3)
  have BX5 := aside (BX4.out.below hB3 hGB)
  have hBw5 : B ≤ w5.heap.size := Nat.le_trans hBw4 hB3.size
  clear h3 hB3 OWN4 BX4 z0 z1 z2 z3 z4 z5
  have hb5 : (y4 xs i.data.toList x s.data.toList).length + 1 ≤ 16777216 := Nat.le_trans B4.out (by omega)
  go_upto_region 14 with (at_builtin; refine app_lit _ rfl _ _ rfl B _ _ rfl OWN5.out [44] 1 rfl rfl _ rfl hb5 hBw5 ?_; intro v6 w6 h3 hB3; have OWN6 := aside (show Own w6 B v6 (y5 xs i.data.toList x s.data.toList) from h3); have HB6 := aside (HB5.out.trans hB3); have BX6 := aside (BX5.out.below hB3 hGB); have hBw6 : B ≤ w6.heap.size := Nat.le_trans hBw5 hB3.size; clear h3 hB3)
  clear OWN5 BX5 hb5
  obtain ⟨z0, z1, z2, z3, z4, z5⟩ := BX6.out
  go_wp2_with fail
  refine (appendInt_any B v6 (y5 xs i.data.toList x s.data.toList) y w6 HYA.out HYB.out OWN6.out hBw6 (Nat.le_trans (Nat.le_succ _) (Nat.le_trans B5.out (by omega))) (PW.out.on HB6.out)).mono ?_
  rintro e w7 ⟨v7, rfl, h3, hB3⟩
  have OWN7 := aside (show Own w7 B v7 (y6 xs i.data.toList x s.data.toList y) from h3)
  have HB7 := aside (HB6.out.trans hB3)
  have BX7 := aside (BX6.out.below hB3 hGB)
  have hBw7 : B ≤ w7.heap.size := Nat.le_trans hBw6 hB3.size
  clear h3 hB3 OWN6 BX6 z0 z1 z2 z3 z4 z5
  obtain ⟨z0, z1, z2, z3, z4, z5⟩ := BX7.out
  go_wp2_with fail
  refine (appendText_ok B v7 (y6 xs i.data.toList x s.data.toList y) t _ w7 ST.out (Src.own OWN7.out hBw7) B6.out h2B (tabs_heap HT0.out HB7.out h2B) HVt.out).mono ?_
  rintro e w8 ⟨v8, rfl, h3, hB3⟩
  have OWN8 := aside (show Own w8 B v8 (y7 xs i.data.toList x s.data.toList y t.data.toList) from h3)
  have HB8 := aside (HB7.out.trans hB3)
  have BX8 := aside (BX7.out.below hB3 hGB)
  have hBw8 : B ≤ w8.heap.size := Nat.le_trans hBw7 hB3.size
  clear h3 hB3 OWN7 BX7 z0 z1 z2 z3 z4 z5
  obtain ⟨z0, z1, z2, z3, z4, z5⟩ := BX8.out
  go_wp2_with fail
  refine (appendText_ok B v8 (y7 xs i.data.toList x s.data.toList y t.data.toList) u _ w8 SU.out (Src.own OWN8.out hBw8) B7.out h2B (tabs_heap HT0.out HB8.out h2B) HVu.out).mono ?_
  rintro e w9 ⟨v9, rfl, h3, hB3⟩
  have OWN9 := aside (show Own w9 B v9 (y8 xs i.data.toList x s.data.toList y t.data.toList u.data.toList) from h3)
  have HB9 := aside (HB8.out.trans hB3)
  have BX9 := aside (BX8.out.below hB3 hGB)
  have hBw9 : B ≤ w9.heap.size := Nat.le_trans hBw8 hB3.size
  clear h3 hB3 OWN8 BX8 z0 z1 z2 z3 z4 z5
  have hb9 : (y8 xs i.data.toList x s.data.toList y t.data.toList u.data.toList).length + 1 ≤ 16777216 := Nat.le_trans B8.out (by omega)
  go_wp2_with (at_builtin; refine app_lit _ rfl _ _ rfl B _ _ rfl OWN9.out [93] 1 rfl rfl _ rfl hb9 hBw9 ?_; intro v10 w10 h3 hB3; have OWN10 := aside (show Own w10 B v10 (y9 xs i.data.toList x s.data.toList y t.data.toList u.data.toList) from h3); have HB10 := aside (HB9.out.trans hB3); clear h3 hB3)
  exact bodyPost_ret (v := .tuple #[v10, .nilIface]) (by simp [results, Tryf.results26]) rfl ⟨v10, rfl, OWN10.out.down hlb, HB0.out.trans (HB10.out.mono hlb)⟩

set_option maxHeartbeats 2000000 in
set_option maxRecDepth 100000 in
theorem letter_no0 (F : Interp) (p : Option Addr) (n : Nat) (xs : List UInt8) (i s t u : ByteArray) (x y d : Int) (w : World) (hxl : xs.length = n) (hnil : p = none → n = 0) (hba : BA w w.heap.size p n xs) (hT : Lib.Utf8Tabs 0 1 w) (hP : Pows w.heap.size w)
    (hx0 : -9223372036854775808 ≤ x) (hx1 : x ≤ 9223372036854775807) (hy0 : -2147483648 ≤ y) (hy1 : y ≤ 2147483647) (hd0 : d ≠ 1000) (hsz : n + i.size + s.size + t.size + u.size ≤ 1048576) (hF : F.answers w.tape)
    (hvi : validD i.data.toList = false) :
    Calls Tryf.prog 26 #[.slice p n n, .agg #[.string i, .int .i64 x, .string s, .int .i32 y, .string t, .string u], .int .i64 d] w fun e w' => ∃ v' g zs, e = .returned (.tuple #[v', .iface 63 (.pointer (some ⟨g, 0, none⟩))]) ∧ (xs ++ zs).length ≤ 8388608 ∧ Own w' w.heap.size v' (xs ++ zs) ∧ Below w.heap.size w w' := by
  have HF := aside hF
  have HVi := aside hvi
  clear hF hvi
  have h2 : 2 ≤ w.heap.size := World.block_lt_of_cell? _ _ (hT.2 0 (by omega)).1
  have li := show i.data.toList.length = i.size by rw [Array.length_toList]; rfl
  have ls := show s.data.toList.length = s.size by rw [Array.length_toList]; rfl
  have lt := show t.data.toList.length = t.size by rw [Array.length_toList]; rfl
  have lu := show u.data.toList.length = u.size by rw [Array.length_toList]; rfl
  have ti := T_len i.data.toList
  have ts := T_len s.data.toList
  have tt := T_len t.data.toList
  have tu := T_len u.data.toList
  have ix := itoa_len x hx0 hx1
  have iy := itoa_len y (by omega) (by omega)
  have e0 : (y0 xs).length = n + 10 := by rw [y0, List.length_append, hxl, hd_len]
  have e1 : (y1 xs i.data.toList).length = (y0 xs).length + (T i.data.toList).length := by rw [y1, List.length_append]
  have e2 : (y2 xs i.data.toList).length = (y1 xs i.data.toList).length + 1 := by rw [y2, List.length_append]; rfl
  have e3 : (y3 xs i.data.toList x).length = (y2 xs i.data.toList).length + (itoa x).length := by rw [y3, List.length_append]
  have e4 : (y4 xs i.data.toList x s.data.toList).length = (y3 xs i.data.toList x).length + (T s.data.toList).length := by rw [y4, List.length_append]
  have e5 : (y5 xs i.data.toList x s.data.toList).length = (y4 xs i.data.toList x s.data.toList).length + 1 := by rw [y5, List.length_append]; rfl
  have e6 : (y6 xs i.data.toList x s.data.toList y).length = (y5 xs i.data.toList x s.data.toList).length + (itoa y).length := by rw [y6, List.length_append]
  have e7 : (y7 xs i.data.toList x s.data.toList y t.data.toList).length = (y6 xs i.data.toList x s.data.toList y).length + (T t.data.toList).length := by rw [y7, List.length_append]
  have e8 : (y8 xs i.data.toList x s.data.toList y t.data.toList u.data.toList).length = (y7 xs i.data.toList x s.data.toList y t.data.toList).length + (T u.data.toList).length := by rw [y8, List.length_append]
  have B0 := aside (show (y0 xs).length + 1 ≤ 8388608 by omega)
  have B1 := aside (show (y1 xs i.data.toList).length + 1 ≤ 8388608 by omega)
  have B2 := aside (show (y2 xs i.data.toList).length + 1 ≤ 8388608 by omega)
  have B3 := aside (show (y3 xs i.data.toList x).length + 1 ≤ 8388608 by omega)
  have B4 := aside (show (y4 xs i.data.toList x s.data.toList).length + 1 ≤ 8388608 by omega)
  have B5 := aside (show (y5 xs i.data.toList x s.data.toList).length + 1 ≤ 8388608 by omega)
  have B6 := aside (show (y6 xs i.data.toList x s.data.toList y).length + 1 ≤ 8388608 by omega)
  have B7 := aside (show (y7 xs i.data.toList x s.data.toList y t.data.toList).length + 1 ≤ 8388608 by omega)
  have B8 := aside (show (y8 xs i.data.toList x s.data.toList y t.data.toList u.data.toList).length + 1 ≤ 8388608 by omega)
  have HW := aside (show wrap64 y = y by simp [wrap64]; omega)
  have hwy := HW.out
  have HI := aside hx0
  have HI1 := aside hx1
  have HYA := aside (show -9223372036854775808 ≤ y by omega)
  have HYB := aside (show y ≤ 9223372036854775807 by omega)
  have SI := aside (show i.size ≤ 1048576 by omega)
  have SS := aside (show s.size ≤ 1048576 by omega)
  have ST := aside (show t.size ≤ 1048576 by omega)
  have SU := aside (show u.size ≤ 1048576 by omega)
  have hn10 : n + 10 ≤ 16777216 := by omega
  obtain ⟨w0, hw0⟩ : ∃ w0, w0 = w.alloc (.cells #[.string i, .int .i64 x, .string s, .int .i32 y, .string t, .string u] 57) := ⟨_, rfl⟩
  have HB0 := aside (show Below w.heap.size w w0 by rw [hw0]; exact (Below.refl _ _).alloc (Nat.le_refl _) _)
  have hs0 : w0.heap.size = w.heap.size + 1 := by rw [hw0]; simp
  have BX0 := aside (show Box w0 w.heap.size i x s y t u by rw [hw0]; refine ⟨?_, ?_, ?_, ?_, ?_, ?_⟩ <;> (rw [World.cell?_alloc_at _ _ _ _ rfl]; rfl))
  have HBA0 := aside (show BA w0 w0.heap.size p n xs from (hba.below HB0.out).mono (by omega))
  have HP := aside hnil
  have HXL := aside hxl
  have HT0 := aside (tabs_heap hT HB0.out h2)
  have PW := aside (show Pows w0.heap.size w0 from fun name hn w' hb => hP name hn w' (HB0.out.trans (hb.mono (by omega))))
  have HW0 := aside hw0
  obtain ⟨B, hB⟩ : ∃ B, B = w0.heap.size := ⟨_, rfl⟩
  rw [← hB] at PW hs0
  have HBB := aside hB
  have h2B : 2 ≤ B := by omega
  have hGB : w.heap.size < B := by omega
  have hlb : w.heap.size ≤ B := by omega
  clear hba hT hP hnil hxl hsz li ls lt lu ti ts tt tu ix iy e0 e1 e2 e3 e4 e5 e6 e7 e8 hx0 hx1 hy0 hy1 hw0 h2 hB hs0
  go_enter Tryf.func26, Tryf.ntmps26
  go_wp2_with fail
  refine (nest_no d _ hd0).mono ?_
  rintro e w' ⟨rfl, hw⟩
  rw [hw, ← HW0.out]
  clear hw
  go_upto_region 5 with (at_builtin; refine app_full_str _ rfl _ _ rfl p n xs rfl HXL.out HP.out HBA0.out _ rfl (by decide) hn10 ?_; intro v1 w1 h1 hB1; rw [← HBB.out] at h1 hB1; have OWN1 := aside (show Own w1 B v1 (y0 xs) from h1); have HB1 := aside hB1; have BX1 := aside (BX0.out.below hB1 hGB); have hBw1 : B ≤ w1.heap.size := Nat.le_trans (Nat.le_of_eq HBB.out) hB1.size; clear h1 hB1)
  obtain ⟨z0, z1, z2, z3, z4, z5⟩ := BX1.out
  go_wp2_with fail
  refine (appendText_no F B v1 (y0 xs) i _ w1 (by rw [HB1.out.tape, HB0.out.tape]; exact HF.out) SI.out (Src.own OWN1.out hBw1) B0.out h2B (tabs_heap HT0.out HB1.out h2B) HVi.out).mono ?_
  rintro e w2 ⟨v2, g, rfl, h3, hB3⟩
  have OWN2 := aside (h3.down hlb)
  have HB2 := aside (HB0.out.trans ((HB1.out.trans hB3).mono hlb))
  clear h3 hB3 z0 z1 z2 z3 z4 z5
  go_wp2
  refine bodyPost_ret (v := .tuple #[v2, .iface 63 (.pointer (some ⟨g, 0, none⟩))]) (by simp [results, Tryf.results26]) rfl ⟨v2, g, (hd ++ [44]), rfl, ?_, ?_, HB2.out⟩
  all_goals have e : xs ++ (hd ++ [44]) = (y0 xs) ++ [44] := by simp [y0]
  · rw [e, List.length_append]
    exact B0.out
  · rw [e]
    exact OWN2.out

set_option maxHeartbeats 2000000 in
set_option maxRecDepth 100000 in
theorem letter_no1 (F : Interp) (p : Option Addr) (n : Nat) (xs : List UInt8) (i s t u : ByteArray) (x y d : Int) (w : World) (hxl : xs.length = n) (hnil : p = none → n = 0) (hba : BA w w.heap.size p n xs) (hT : Lib.Utf8Tabs 0 1 w) (hP : Pows w.heap.size w)
    (hx0 : -9223372036854775808 ≤ x) (hx1 : x ≤ 9223372036854775807) (hy0 : -2147483648 ≤ y) (hy1 : y ≤ 2147483647) (hd0 : d ≠ 1000) (hsz : n + i.size + s.size + t.size + u.size ≤ 1048576) (hF : F.answers w.tape)
    (hvi : validD i.data.toList = true) (hvs : validD s.data.toList = false) :
    Calls Tryf.prog 26 #[.slice p n n, .agg #[.string i, .int .i64 x, .string s, .int .i32 y, .string t, .string u], .int .i64 d] w fun e w' => ∃ v' g zs, e = .returned (.tuple #[v', .iface 63 (.pointer (some ⟨g, 0, none⟩))]) ∧ (xs ++ zs).length ≤ 8388608 ∧ Own w' w.heap.size v' (xs ++ zs) ∧ Below w.heap.size w w' := by
  have HF := aside hF
  have HVi := aside hvi
  have HVs := aside hvs
  clear hF hvi hvs
  have h2 : 2 ≤ w.heap.size := World.block_lt_of_cell? _ _ (hT.2 0 (by omega)).1
  have li := show i.data.toList.length = i.size by rw [Array.length_toList]; rfl
  have ls := show s.data.toList.length = s.size by rw [Array.length_toList]; rfl
  have lt := show t.data.toList.length = t.size by rw [Array.length_toList]; rfl
  have lu := show u.data.toList.length = u.size by rw [Array.length_toList]; rfl
  have ti := T_len i.data.toList
  have ts := T_len s.data.toList
  have tt := T_len t.data.toList
  have tu := T_len u.data.toList
  have ix := itoa_len x hx0 hx1
  have iy := itoa_len y (by omega) (by omega)
  have e0 : (y0 xs).length = n + 10 := by rw [y0, List.length_append, hxl, hd_len]
  have e1 : (y1 xs i.data.toList).length = (y0 xs).length + (T i.data.toList).length := by rw [y1, List.length_append]
  have e2 : (y2 xs i.data.toList).length = (y1 xs i.data.toList).length + 1 := by rw [y2, List.length_append]; rfl
  have e3 : (y3 xs i.data.toList x).length = (y2 xs i.data.toList).length + (itoa x).length := by rw [y3, List.length_append]
  have e4 : (y4 xs i.data.toList x s.data.toList).length = (y3 xs i.data.toList x).length + (T s.data.toList).length := by rw [y4, List.length_append]
  have e5 : (y5 xs i.data.toList x s.data.toList).length = (y4 xs i.data.toList x s.data.toList).length + 1 := by rw [y5, List.length_append]; rfl
  have e6 : (y6 xs i.data.toList x s.data.toList y).length = (y5 xs i.data.toList x s.data.toList).length + (itoa y).length := by rw [y6, List.length_append]
  have e7 : (y7 xs i.data.toList x s.data.toList y t.data.toList).length = (y6 xs i.data.toList x s.data.toList y).length + (T t.data.toList).length := by rw [y7, List.length_append]
  have e8 : (y8 xs i.data.toList x s.data.toList y t.data.toList u.data.toList).length = (y7 xs i.data.toList x s.data.toList y t.data.toList).length + (T u.data.toList).length := by rw [y8, List.length_append]
  have B0 := aside (show (y0 xs).length + 1 ≤ 8388608 by omega)
  have B1 := aside (show (y1 xs i.data.toList).length + 1 ≤ 8388608 by omega)
  have B2 := aside (show (y2 xs i.data.toList).length + 1 ≤ 8388608 by omega)
  have B3 := aside (show (y3 xs i.data.toList x).length + 1 ≤ 8388608 by omega)
  have B4 := aside (show (y4 xs i.data.toList x s.data.toList).length + 1 ≤ 8388608 by omega)
  have B5 := aside (show (y5 xs i.data.toList x s.data.toList).length + 1 ≤ 8388608 by omega)
  have B6 := aside (show (y6 xs i.data.toList x s.data.toList y).length + 1 ≤ 8388608 by omega)
  have B7 := aside (show (y7 xs i.data.toList x s.data.toList y t.data.toList).length + 1 ≤ 8388608 by omega)
  have B8 := aside (show (y8 xs i.data.toList x s.data.toList y t.data.toList u.data.toList).length + 1 ≤ 8388608 by omega)
  have HW := aside (show wrap64 y = y by simp [wrap64]; omega)
  have hwy := HW.out
  have HI := aside hx0
  have HI1 := aside hx1
  have HYA := aside (show -9223372036854775808 ≤ y by omega)
  have HYB := aside (show y ≤ 9223372036854775807 by omega)
  have SI := aside (show i.size ≤ 1048576 by omega)
  have SS := aside (show s.size ≤ 1048576 by omega)
  have ST := aside (show t.size ≤ 1048576 by omega)
  have SU := aside (show u.size ≤ 1048576 by omega)
  have hn10 : n + 10 ≤ 16777216 := by omega
  obtain ⟨w0, hw0⟩ : ∃ w0, w0 = w.alloc (.cells #[.string i, .int .i64 x, .string s, .int .i32 y, .string t, .string u] 57) := ⟨_, rfl⟩
  have HB0 := aside (show Below w.heap.size w w0 by rw [hw0]; exact (Below.refl _ _).alloc (Nat.le_refl _) _)
  have hs0 : w0.heap.size = w.heap.size + 1 := by rw [hw0]; simp
  have BX0 := aside (show Box w0 w.heap.size i x s y t u by rw [hw0]; refine ⟨?_, ?_, ?_, ?_, ?_, ?_⟩ <;> (rw [World.cell?_alloc_at _ _ _ _ rfl]; rfl))
  have HBA0 := aside (show BA w0 w0.heap.size p n xs from (hba.below HB0.out).mono (by omega))
  have HP := aside hnil
  have HXL := aside hxl
  have HT0 := aside (tabs_heap hT HB0.out h2)
  have PW := aside (show Pows w0.heap.size w0 from fun name hn w' hb => hP name hn w' (HB0.out.trans (hb.mono (by omega))))
  have HW0 := aside hw0
  obtain ⟨B, hB⟩ : ∃ B, B = w0.heap.size := ⟨_, rfl⟩
  rw [← hB] at PW hs0
  have HBB := aside hB
  have h2B : 2 ≤ B := by omega
  have hGB : w.heap.size < B := by omega
  have hlb : w.heap.size ≤ B := by omega
  clear hba hT hP hnil hxl hsz li ls lt lu ti ts tt tu ix iy e0 e1 e2 e3 e4 e5 e6 e7 e8 hx0 hx1 hy0 hy1 hw0 h2 hB hs0
  go_enter Tryf.func26, Tryf.ntmps26
  go_wp2_with fail
  refine (nest_no d _ hd0).mono ?_
  rintro e w' ⟨rfl, hw⟩
  rw [hw, ← HW0.out]
  clear hw
  go_upto_region 5 with (at_builtin; refine app_full_str _ rfl _ _ rfl p n xs rfl HXL.out HP.out HBA0.out _ rfl (by decide) hn10 ?_; intro v1 w1 h1 hB1; rw [← HBB.out] at h1 hB1; have OWN1 := aside (show Own w1 B v1 (y0 xs) from h1); have HB1 := aside hB1; have BX1 := aside (BX0.out.below hB1 hGB); have hBw1 : B ≤ w1.heap.size := Nat.le_trans (Nat.le_of_eq HBB.out) hB1.size; clear h1 hB1)
  obtain ⟨z0, z1, z2, z3, z4, z5⟩ := BX1.out
  go_wp2_with fail
  refine (appendText_ok B v1 (y0 xs) i _ w1 SI.out (Src.own OWN1.out hBw1) B0.out h2B (tabs_heap HT0.out HB1.out h2B) HVi.out).mono ?_
  rintro e w2 ⟨v2, rfl, h3, hB3⟩
  have OWN2 := aside (show Own w2 B v2 (y1 xs i.data.toList) from h3)
  have HB2 := aside (HB1.out.trans hB3)
  have BX2 := aside (BX1.out.below hB3 hGB)
  have hBw2 : B ≤ w2.heap.size := Nat.le_trans hBw1 hB3.size
  clear h3 hB3 OWN1 BX1 z0 z1 z2 z3 z4 z5
  have hb2 : (y1 xs i.data.toList).length + 1 ≤ 16777216 := Nat.le_trans B1.out (by omega)
  go_upto_region 9 with (at_builtin; refine app_lit _ rfl _ _ rfl B _ _ rfl OWN2.out [44] 1 rfl rfl _ rfl hb2 hBw2 ?_; intro v3 w3 h3 hB3; have OWN3 := aside (show Own w3 B v3 (y2 xs i.data.toList) from h3); have HB3 := aside (HB2.out.trans hB3); have BX3 := aside (BX2.out.below hB3 hGB); have hBw3 : B ≤ w3.heap.size := Nat.le_trans hBw2 hB3.size; clear h3 hB3)
  clear OWN2 BX2 hb2
  obtain ⟨z0, z1, z2, z3, z4, z5⟩ := BX3.out
  go_wp2_with fail
  refine (appendInt_any B v3 (y2 xs i.data.toList) x w3 HI.out HI1.out OWN3.out hBw3 (Nat.le_trans (Nat.le_succ _) (Nat.le_trans B2.out (by omega))) (PW.out.on HB3.out)).mono ?_
  rintro e w4 ⟨v4, rfl, h3, hB3⟩
  have OWN4 := aside (show Own w4 B v4 (y3 xs i.data.toList x) from h3)
  have HB4 := aside (HB3.out.trans hB3)
  have BX4 := aside (BX3.out.below hB3 hGB)
  have hBw4 : B ≤ w4.heap.size := Nat.le_trans hBw3 hB3.size
  clear h3 hB3 OWN3 BX3 z0 z1 z2 z3 z4 z5
  obtain ⟨z0, z1, z2, z3, z4, z5⟩ := BX4.out
  go_wp2_with fail
  refine (appendText_no F B v4 (y3 xs i.data.toList x) s _ w4 (by rw [HB4.out.tape, HB0.out.tape]; exact HF.out) SS.out (Src.own OWN4.out hBw4) B3.out h2B (tabs_heap HT0.out HB4.out h2B) HVs.out).mono ?_
  rintro e w5 ⟨v5, g, rfl, h3, hB3⟩
  have OWN5 := aside (h3.down hlb)
  have HB5 := aside (HB0.out.trans ((HB4.out.trans hB3).mono hlb))
  clear h3 hB3 z0 z1 z2 z3 z4 z5
  go_wp2
  refine bodyPost_ret (v := .tuple #[v5, .iface 63 (.pointer (some ⟨g, 0, none⟩))]) (by simp [results, Tryf.results26]) rfl ⟨v5, g, (hd ++ T i.data.toList ++ [44] ++ itoa x ++ [44]), rfl, ?_, ?_, HB5.out⟩
  all_goals have e : xs ++ (hd ++ T i.data.toList ++ [44] ++ itoa x ++ [44]) = (y3 xs i.data.toList x) ++ [44] := by simp [y0, y1, y2, y3]
  · rw [e, List.length_append]
    exact B3.out
  · rw [e]
    exact OWN5.out

set_option maxHeartbeats 2000000 in
set_option maxRecDepth 100000 in
theorem letter_no2 (F : Interp) (p : Option Addr) (n : Nat) (xs : List UInt8) (i s t u : ByteArray) (x y d : Int) (w : World) (hxl : xs.length = n) (hnil : p = none → n = 0) (hba : BA w w.heap.size p n xs) (hT : Lib.Utf8Tabs 0 1 w) (hP : Pows w.heap.size w)
    (hx0 : -9223372036854775808 ≤ x) (hx1 : x ≤ 9223372036854775807) (hy0 : -2147483648 ≤ y) (hy1 : y ≤ 2147483647) (hd0 : d ≠ 1000) (hsz : n + i.size + s.size + t.size + u.size ≤ 1048576) (hF : F.answers w.tape)
    (hvi : validD i.data.toList = true) (hvs : validD s.data.toList = true) (hvt : validD t.data.toList = false) :
    Calls Tryf.prog 26 #[.slice p n n, .agg #[.string i, .int .i64 x, .string s, .int .i32 y, .string t, .string u], .int .i64 d] w fun e w' => ∃ v' g zs, e = .returned (.tuple #[v', .iface 63 (.pointer (some ⟨g, 0, none⟩))]) ∧ (xs ++ zs).length ≤ 8388608 ∧ Own w' w.heap.size v' (xs ++ zs) ∧ Below w.heap.size w w' := by
  have HF := aside hF
  have HVi := aside hvi
  have HVs := aside hvs
  have HVt := aside hvt
  clear hF hvi hvs hvt
  have h2 : 2 ≤ w.heap.size := World.block_lt_of_cell? _ _ (hT.2 0 (by omega)).1
  have li := show i.data.toList.length = i.size by rw [Array.length_toList]; rfl
  have ls := show s.data.toList.length = s.size by rw [Array.length_toList]; rfl
  have lt := show t.data.toList.length = t.size by rw [Array.length_toList]; rfl
  have lu := show u.data.toList.length = u.size by rw [Array.length_toList]; rfl
  have ti := T_len i.data.toList
  have ts := T_len s.data.toList
  have tt := T_len t.data.toList
  have tu := T_len u.data.toList
  have ix := itoa_len x hx0 hx1
  have iy := itoa_len y (by omega) (by omega)
  have e0 : (y0 xs).length = n + 10 := by rw [y0, List.length_append, hxl, hd_len]
  have e1 : (y1 xs i.data.toList).length = (y0 xs).length + (T i.data.toList).length := by rw [y1, List.length_append]
  have e2 : (y2 xs i.data.toList).length = (y1 xs i.data.toList).length + 1 := by rw [y2, List.length_append]; rfl
  have e3 : (y3 xs i.data.toList x).length = (y2 xs i.data.toList).length + (itoa x).length := by rw [y3, List.length_append]
  have e4 : (y4 xs i.data.toList x s.data.toList).length = (y3 xs i.data.toList x).length + (T s.data.toList).length := by rw [y4, List.length_append]
  have e5 : (y5 xs i.data.toList x s.data.toList).length = (y4 xs i.data.toList x s.data.toList).length + 1 := by rw [y5, List.length_append]; rfl
  have e6 : (y6 xs i.data.toList x s.data.toList y).length = (y5 xs i.data.toList x s.data.toList).length + (itoa y).length := by rw [y6, List.length_append]
  have e7 : (y7 xs i.data.toList x s.data.toList y t.data.toList).length = (y6 xs i.data.toList x s.data.toList y).length + (T t.data.toList).length := by rw [y7, List.length_append]
  have e8 : (y8 xs i.data.toList x s.data.toList y t.data.toList u.data.toList).length = (y7 xs i.data.toList x s.data.toList y t.data.toList).length + (T u.data.toList).length := by rw [y8, List.length_append]
  have B0 := aside (show (y0 xs).length + 1 ≤ 8388608 by omega)
  have B1 := aside (show (y1 xs i.data.toList).length + 1 ≤ 8388608 by omega)
  have B2 := aside (show (y2 xs i.data.toList).length + 1 ≤ 8388608 by omega)
  have B3 := aside (show (y3 xs i.data.toList x).length + 1 ≤ 8388608 by omega)
  have B4 := aside (show (y4 xs i.data.toList x s.data.toList).length + 1 ≤ 8388608 by omega)
  have B5 := aside (show (y5 xs i.data.toList x s.data.toList).length + 1 ≤ 8388608 by omega)
  have B6 := aside (show (y6 xs i.data.toList x s.data.toList y).length + 1 ≤ 8388608 by omega)
  have B7 := aside (show (y7 xs i.data.toList x s.data.toList y t.data.toList).length + 1 ≤ 8388608 by omega)
  have B8 := aside (show (y8 xs i.data.toList x s.data.toList y t.data.toList u.data.toList).length + 1 ≤ 8388608 by omega)
  have HW := aside (show wrap64 y = y by simp [wrap64]; omega)
  have hwy := HW.out
  have HI := aside hx0
  have HI1 := aside hx1
  have HYA := aside (show -9223372036854775808 ≤ y by omega)
  have HYB := aside (show y ≤ 9223372036854775807 by omega)
  have SI := aside (show i.size ≤ 1048576 by omega)
  have SS := aside (show s.size ≤ 1048576 by omega)
  have ST := aside (show t.size ≤ 1048576 by omega)
  have SU := aside (show u.size ≤ 1048576 by omega)
  have hn10 : n + 10 ≤ 16777216 := by omega
  obtain ⟨w0, hw0⟩ : ∃ w0, w0 = w.alloc (.cells #[.string i, .int .i64 x, .string s, .int .i32 y, .string t, .string u] 57) := ⟨_, rfl⟩
  have HB0 := aside (show Below w.heap.size w w0 by rw [hw0]; exact (Below.refl _ _).alloc (Nat.le_refl _) _)
  have hs0 : w0.heap.size = w.heap.size + 1 := by rw [hw0]; simp
  have BX0 := aside (show Box w0 w.heap.size i x s y t u by rw [hw0]; refine ⟨?_, ?_, ?_, ?_, ?_, ?_⟩ <;> (rw [World.cell?_alloc_at _ _ _ _ rfl]; rfl))
  have HBA0 := aside (show BA w0 w0.heap.size p n xs from (hba.below HB0.out).mono (by omega))
  have HP := aside hnil
  have HXL := aside hxl
  have HT0 := aside (tabs_heap hT HB0.out h2)
  have PW := aside (show Pows w0.heap.size w0 from fun name hn w' hb => hP name hn w' (HB0.out.trans (hb.mono (by omega))))
  have HW0 := aside hw0
  obtain ⟨B, hB⟩ : ∃ B, B = w0.heap.size := ⟨_, rfl⟩
  rw [← hB] at PW hs0
  have HBB := aside hB
  have h2B : 2 ≤ B := by omega
  have hGB : w.heap.size < B := by omega
  have hlb : w.heap.size ≤ B := by omega
  clear hba hT hP hnil hxl hsz li ls lt lu ti ts tt tu ix iy e0 e1 e2 e3 e4 e5 e6 e7 e8 hx0 hx1 hy0 hy1 hw0 h2 hB hs0
  go_enter Tryf.func26, Tryf.ntmps26
  go_wp2_with fail
  refine (nest_no d _ hd0).mono ?_
  rintro e w' ⟨rfl, hw⟩
  rw [hw, ← HW0.out]
  clear hw
  go_upto_region 5 with (at_builtin; refine app_full_str _ rfl _ _ rfl p n xs rfl HXL.out HP.out HBA0.out _ rfl (by decide) hn10 ?_; intro v1 w1 h1 hB1; rw [← HBB.out] at h1 hB1; have OWN1 := aside (show Own w1 B v1 (y0 xs) from h1); have HB1 := aside hB1; have BX1 := aside (BX0.out.below hB1 hGB); have hBw1 : B ≤ w1.heap.size := Nat.le_trans (Nat.le_of_eq HBB.out) hB1.size; clear h1 hB1)
  obtain ⟨z0, z1, z2, z3, z4, z5⟩ := BX1.out
  go_wp2_with fail
  refine (appendText_ok B v1 (y0 xs) i _ w1 SI.out (Src.own OWN1.out hBw1) B0.out h2B (tabs_heap HT0.out HB1.out h2B) HVi.out).mono ?_
  rintro e w2 ⟨v2, rfl, h3, hB3⟩
  have OWN2 := aside (show Own w2 B v2 (y1 xs i.data.toList) from h3)
  have HB2 := aside (HB1.out.trans hB3)
  have BX2 := aside (BX1.out.below hB3 hGB)
  have hBw2 : B ≤ w2.heap.size := Nat.le_trans hBw1 hB3.size
  clear h3 hB3 OWN1 BX1 z0 z1 z2 z3 z4 z5
  have hb2 : (y1 xs i.data.toList).length + 1 ≤ 16777216 := Nat.le_trans B1.out (by omega)
  go_upto_region 9 with (at_builtin; refine app_lit _ rfl _ _ rfl B _ _ rfl OWN2.out [44] 1 rfl rfl _ rfl hb2 hBw2 ?_; intro v3 w3 h3 hB3; have OWN3 := aside (show Own w3 B v3 (y2 xs i.data.toList) from h3); have HB3 := aside (HB2.out.trans hB3); have BX3 := aside (BX2.out.below hB3 hGB); have hBw3 : B ≤ w3.heap.size := Nat.le_trans hBw2 hB3.size; clear h3 hB3)
  clear OWN2 BX2 hb2
  obtain ⟨z0, z1, z2, z3, z4, z5⟩ := BX3.out
  go_wp2_with fail
  refine (appendInt_any B v3 (y2 xs i.data.toList) x w3 HI.out HI1.out OWN3.out hBw3 (Nat.le_trans (Nat.le_succ _) (Nat.le_trans B2.out (by omega))) (PW.out.on HB3.out)).mono ?_
  rintro e w4 ⟨v4, rfl, h3, hB3⟩
  have OWN4 := aside (show Own w4 B v4 (y3 xs i.data.toList x) from h3)
  have HB4 := aside (HB3.out.trans hB3)
  have BX4 := aside (BX3.out.below hB3 hGB)
  have hBw4 : B ≤ w4.heap.size := Nat.le_trans hBw3 hB3.size
  clear h3 hB3 OWN3 BX3 z0 z1 z2 z3 z4 z5
  obtain ⟨z0, z1, z2, z3, z4, z5⟩ := BX4.out
  go_wp2_with fail
  refine (appendText_ok B v4 (y3 xs i.data.toList x) s _ w4 SS.out (Src.own OWN4.out hBw4) B3.out h2B (tabs_heap HT0.out HB4.out h2B) HVs.out).mono ?_
  rintro e w5 ⟨v5, rfl, h3, hB3⟩
  have OWN5 := aside (show Own w5 B v5 (y4 xs i.data.toList x s.data.toList) from h3)
  have HB5 := aside (HB4.out.trans hB3)
  have BX5 := aside (BX4.out.below hB3 hGB)
  have hBw5 : B ≤ w5.heap.size := Nat.le_trans hBw4 hB3.size
  clear h3 hB3 OWN4 BX4 z0 z1 z2 z3 z4 z5
  have hb5 : (y4 xs i.data.toList x s.data.toList).length + 1 ≤ 16777216 := Nat.le_trans B4.out (by omega)
  go_upto_region 14 with (at_builtin; refine app_lit _ rfl _ _ rfl B _ _ rfl OWN5.out [44] 1 rfl rfl _ rfl hb5 hBw5 ?_; intro v6 w6 h3 hB3; have OWN6 := aside (show Own w6 B v6 (y5 xs i.data.toList x s.data.toList) from h3); have HB6 := aside (HB5.out.trans hB3); have BX6 := aside (BX5.out.below hB3 hGB); have hBw6 : B ≤ w6.heap.size := Nat.le_trans hBw5 hB3.size; clear h3 hB3)
  clear OWN5 BX5 hb5
  obtain ⟨z0, z1, z2, z3, z4, z5⟩ := BX6.out
  go_wp2_with fail
  refine (appendInt_any B v6 (y5 xs i.data.toList x s.data.toList) y w6 HYA.out HYB.out OWN6.out hBw6 (Nat.le_trans (Nat.le_succ _) (Nat.le_trans B5.out (by omega))) (PW.out.on HB6.out)).mono ?_
  rintro e w7 ⟨v7, rfl, h3, hB3⟩
  have OWN7 := aside (show Own w7 B v7 (y6 xs i.data.toList x s.data.toList y) from h3)
  have HB7 := aside (HB6.out.trans hB3)
  have BX7 := aside (BX6.out.below hB3 hGB)
  have hBw7 : B ≤ w7.heap.size := Nat.le_trans hBw6 hB3.size
  clear h3 hB3 OWN6 BX6 z0 z1 z2 z3 z4 z5
  obtain ⟨z0, z1, z2, z3, z4, z5⟩ := BX7.out
  go_wp2_with fail
  refine (appendText_no F B v7 (y6 xs i.data.toList x s.data.toList y) t _ w7 (by rw [HB7.out.tape, HB0.out.tape]; exact HF.out) ST.out (Src.own OWN7.out hBw7) B6.out h2B (tabs_heap HT0.out HB7.out h2B) HVt.out).mono ?_
  rintro e w8 ⟨v8, g, rfl, h3, hB3⟩
  have OWN8 := aside (h3.down hlb)
  have HB8 := aside (HB0.out.trans ((HB7.out.trans hB3).mono hlb))
  clear h3 hB3 z0 z1 z2 z3 z4 z5
  go_wp2
  refine bodyPost_ret (v := .tuple #[v8, .iface 63 (.pointer (some ⟨g, 0, none⟩))]) (by simp [results, Tryf.results26]) rfl ⟨v8, g, (hd ++ T i.data.toList ++ [44] ++ itoa x ++ T s.data.toList ++ [44] ++ itoa y ++ [44]), rfl, ?_, ?_, HB8.out⟩
  all_goals have e : xs ++ (hd ++ T i.data.toList ++ [44] ++ itoa x ++ T s.data.toList ++ [44] ++ itoa y ++ [44]) = (y6 xs i.data.toList x s.data.toList y) ++ [44] := by simp [y0, y1, y2, y3, y4, y5, y6]
  · rw [e, List.length_append]
    exact B6.out
  · rw [e]
    exact OWN8.out

set_option maxHeartbeats 2000000 in
set_option maxRecDepth 100000 in
theorem letter_no3 (F : Interp) (p : Option Addr) (n : Nat) (xs : List UInt8) (i s t u : ByteArray) (x y d : Int) (w : World) (hxl : xs.length = n) (hnil : p = none → n = 0) (hba : BA w w.heap.size p n xs) (hT : Lib.Utf8Tabs 0 1 w) (hP : Pows w.heap.size w)
    (hx0 : -9223372036854775808 ≤ x) (hx1 : x ≤ 9223372036854775807) (hy0 : -2147483648 ≤ y) (hy1 : y ≤ 2147483647) (hd0 : d ≠ 1000) (hsz : n + i.size + s.size + t.size + u.size ≤ 1048576) (hF : F.answers w.tape)
    (hvi : validD i.data.toList = true) (hvs : validD s.data.toList = true) (hvt : validD t.data.toList = true) (hvu : validD u.data.toList = false) :
    Calls Tryf.prog 26 #[.slice p n n, .agg #[.string i, .int .i64 x, .string s, .int .i32 y, .string t, .string u], .int .i64 d] w fun e w' => ∃ v' g zs, e = .returned (.tuple #[v', .iface 63 (.pointer (some ⟨g, 0, none⟩))]) ∧ (xs ++ zs).length ≤ 8388608 ∧ Own w' w.heap.size v' (xs ++ zs) ∧ Below w.heap.size w w' := by
  have HF := aside hF
  have HVi := aside hvi
  have HVs := aside hvs
  have HVt := aside hvt
  have HVu := aside hvu
  clear hF hvi hvs hvt hvu
  have h2 : 2 ≤ w.heap.size := World.block_lt_of_cell? _ _ (hT.2 0 (by omega)).1
  have li := show i.data.toList.length = i.size by rw [Array.length_toList]; rfl
  have ls := show s.data.toList.length = s.size by rw [Array.length_toList]; rfl
  have lt := show t.data.toList.length = t.size by rw [Array.length_toList]; rfl
  have lu := show u.data.toList.length = u.size by rw [Array.length_toList]; rfl
  have ti := T_len i.data.toList
  have ts := T_len s.data.toList
  have tt := T_len t.data.toList
  have tu := T_len u.data.toList
  have ix := itoa_len x hx0 hx1
  have iy := itoa_len y (by omega) (by omega)
  have e0 : (y0 xs).length = n + 10 := by rw [y0, List.length_append, hxl, hd_len]
  have e1 : (y1 xs i.data.toList).length = (y0 xs).length + (T i.data.toList).length := by rw [y1, List.length_append]
  have e2 : (y2 xs i.data.toList).length = (y1 xs i.data.toList).length + 1 := by rw [y2, List.length_append]; rfl
  have e3 : (y3 xs i.data.toList x).length = (y2 xs i.data.toList).length + (itoa x).length := by rw [y3, List.length_append]
  have e4 : (y4 xs i.data.toList x s.data.toList).length = (y3 xs i.data.toList x).length + (T s.data.toList).length := by rw [y4, List.length_append]
  have e5 : (y5 xs i.data.toList x s.data.toList).length = (y4 xs i.data.toList x s.data.toList).length + 1 := by rw [y5, List.length_append]; rfl
  have e6 : (y6 xs i.data.toList x s.data.toList y).length = (y5 xs i.data.toList x s.data.toList).length + (itoa y).length := by rw [y6, List.length_append]
  have e7 : (y7 xs i.data.toList x s.data.toList y t.data.toList).length = (y6 xs i.data.toList x s.data.toList y).length + (T t.data.toList).length := by rw [y7, List.length_append]
  have e8 : (y8 xs i.data.toList x s.data.toList y t.data.toList u.data.toList).length = (y7 xs i.data.toList x s.data.toList y t.data.toList).length + (T u.data.toList).length := by rw [y8, List.length_append]
  have B0 := aside (show (y0 xs).length + 1 ≤ 8388608 by omega)
  have B1 := aside (show (y1 xs i.data.toList).length + 1 ≤ 8388608 by omega)
  have B2 := aside (show (y2 xs i.data.toList).length + 1 ≤ 8388608 by omega)
  have B3 := aside (show (y3 xs i.data.toList x).length + 1 ≤ 8388608 by omega)
  have B4 := aside (show (y4 xs i.data.toList x s.data.toList).length + 1 ≤ 8388608 by omega)
  have B5 := aside (show (y5 xs i.data.toList x s.data.toList).length + 1 ≤ 8388608 by omega)
  have B6 := aside (show (y6 xs i.data.toList x s.data.toList y).length + 1 ≤ 8388608 by omega)
  have B7 := aside (show (y7 xs i.data.toList x s.data.toList y t.data.toList).length + 1 ≤ 8388608 by omega)
  have B8 := aside (show (y8 xs i.data.toList x s.data.toList y t.data.toList u.data.toList).length + 1 ≤ 8388608 by omega)
  have HW := aside (show wrap64 y = y by simp [wrap64]; omega)
  have hwy := HW.out
  have HI := aside hx0
  have HI1 := aside hx1
  have HYA := aside (show -9223372036854775808 ≤ y by omega)
  have HYB := aside (show y ≤ 9223372036854775807 by omega)
  have SI := aside (show i.size ≤ 1048576 by omega)
  have SS := aside (show s.size ≤ 1048576 by omega)
  have ST := aside (show t.size ≤ 1048576 by omega)
  have SU := aside (show u.size ≤ 1048576 by omega)
  have hn10 : n + 10 ≤ 16777216 := by omega
  obtain ⟨w0, hw0⟩ : ∃ w0, w0 = w.alloc (.cells #[.string i, .int .i64 x, .string s, .int .i32 y, .string t, .string u] 57) := ⟨_, rfl⟩
  have HB0 := aside (show Below w.heap.size w w0 by rw [hw0]; exact (Below.refl _ _).alloc (Nat.le_refl _) _)
  have hs0 : w0.heap.size = w.heap.size + 1 := by rw [hw0]; simp
  have BX0 := aside (show Box w0 w.heap.size i x s y t u by rw [hw0]; refine ⟨?_, ?_, ?_, ?_, ?_, ?_⟩ <;> (rw [World.cell?_alloc_at _ _ _ _ rfl]; rfl))
  have HBA0 := aside (show BA w0 w0.heap.size p n xs from (hba.below HB0.out).mono (by omega))
  have HP := aside hnil
  have HXL := aside hxl
  have HT0 := aside (tabs_heap hT HB0.out h2)
  have PW := aside (show Pows w0.heap.size w0 from fun name hn w' hb => hP name hn w' (HB0.out.trans (hb.mono (by omega))))
  have HW0 := aside hw0
  obtain ⟨B, hB⟩ : ∃ B, B = w0.heap.size := ⟨_, rfl⟩
  rw [← hB] at PW hs0
  have HBB := aside hB
  have h2B : 2 ≤ B := by omega
  have hGB : w.heap.size < B := by omega
  have hlb : w.heap.size ≤ B := by omega
  clear hba hT hP hnil hxl hsz li ls lt lu ti ts tt tu ix iy e0 e1 e2 e3 e4 e5 e6 e7 e8 hx0 hx1 hy0 hy1 hw0 h2 hB hs0
  go_enter Tryf.func26, Tryf.ntmps26
  go_wp2_with fail
  refine (nest_no d _ hd0).mono ?_
  rintro e w' ⟨rfl, hw⟩
  rw [hw, ← HW0.out]
  clear hw
  go_upto_region 5 with (at_builtin; refine app_full_str _ rfl _ _ rfl p n xs rfl HXL.out HP.out HBA0.out _ rfl (by decide) hn10 ?_; intro v1 w1 h1 hB1; rw [← HBB.out] at h1 hB1; have OWN1 := aside (show Own w1 B v1 (y0 xs) from h1); have HB1 := aside hB1; have BX1 := aside (BX0.out.below hB1 hGB); have hBw1 : B ≤ w1.heap.size := Nat.le_trans (Nat.le_of_eq HBB.out) hB1.size; clear h1 hB1)
  obtain ⟨z0, z1, z2, z3, z4, z5⟩ := BX1.out
  go_wp2_with fail
  refine (appendText_ok B v1 (y0 xs) i _ w1 SI.out (Src.own OWN1.out hBw1) B0.out h2B (tabs_heap HT0.out HB1.out h2B) HVi.out).mono ?_
  rintro e w2 ⟨v2, rfl, h3, hB3⟩
  have OWN2 := aside (show Own w2 B v2 (y1 xs i.data.toList) from h3)
  have HB2 := aside (HB1.out.trans hB3)
  have BX2 := aside (BX1.out.below hB3 hGB)
  have hBw2 : B ≤ w2.heap.size := Nat.le_trans hBw1 hB3.size
  clear h3 hB3 OWN1 BX1 z0 z1 z2 z3 z4 z5
  have hb2 : (y1 xs i.data.toList).length + 1 ≤ 16777216 := Nat.le_trans B1.out (by omega)
  go_upto_region 9 with (at_builtin; refine app_lit _ rfl _ _ rfl B _ _ rfl OWN2.out [44] 1 rfl rfl _ rfl hb2 hBw2 ?_; intro v3 w3 h3 hB3; have OWN3 := aside (show Own w3 B v3 (y2 xs i.data.toList) from h3); have HB3 := aside (HB2.out.trans hB3); have BX3 := aside (BX2.out.below hB3 hGB); have hBw3 : B ≤ w3.heap.size := Nat.le_trans hBw2 hB3.size; clear h3 hB3)
  clear OWN2 BX2 hb2
  obtain ⟨z0, z1, z2, z3, z4, z5⟩ := BX3.out
  go_wp2_with fail
  refine (appendInt_any B v3 (y2 xs i.data.toList) x w3 HI.out HI1.out OWN3.out hBw3 (Nat.le_trans (Nat.le_succ _) (Nat.le_trans B2.out (by omega))) (PW.out.on HB3.out)).mono ?_
  rintro e w4 ⟨v4, rfl, h3, hB3⟩
  have OWN4 := aside (show Own w4 B v4 (y3 xs i.data.toList x) from h3)
  have HB4 := aside (HB3.out.trans hB3)
  have BX4 := aside (BX3.out.below hB3 hGB)
  have hBw4 : B ≤ w4.heap.size := Nat.le_trans hBw3 hB3.size
  clear h3 hB3 OWN3 BX3 z0 z1 z2 z3 z4 z5
  obtain ⟨z0, z1, z2, z3, z4, z5⟩ := BX4.out
  go_wp2_with fail
  refine (appendText_ok B v4 (y3 xs i.data.toList x) s _ w4 SS.out (Src.own OWN4.out hBw4) B3.out h2B (tabs_heap HT0.out HB4.out h2B) HVs.out).mono ?_
  rintro e w5 ⟨v5, rfl, h3, hB3⟩
  have OWN5 := aside (show Own w5 B v5 (y4 xs i.data.toList x s.data.toList) from h3)
  have HB5 := aside (HB4.out.trans hB3)
  have BX5 := aside (BX4.out.below hB3 hGB)
  have hBw5 : B ≤ w5.heap.size := Nat.le_trans hBw4 hB3.size
  clear h3 hB3 OWN4 BX4 z0 z1 z2 z3 z4 z5
  have hb5 : (y4 xs i.data.toList x s.data.toList).length + 1 ≤ 16777216 := Nat.le_trans B4.out (by omega)
  go_upto_region 14 with (at_builtin; refine app_lit _ rfl _ _ rfl B _ _ rfl OWN5.out [44] 1 rfl rfl _ rfl hb5 hBw5 ?_; intro v6 w6 h3 hB3; have OWN6 := aside (show Own w6 B v6 (y5 xs i.data.toList x s.data.toList) from h3); have HB6 := aside (HB5.out.trans hB3); have BX6 := aside (BX5.out.below hB3 hGB); have hBw6 : B ≤ w6.heap.size := Nat.le_trans hBw5 hB3.size; clear h3 hB3)
  clear OWN5 BX5 hb5
  obtain ⟨z0, z1, z2, z3, z4, z5⟩ := BX6.out
  go_wp2_with fail
  refine (appendInt_any B v6 (y5 xs i.data.toList x s.data.toList) y w6 HYA.out HYB.out OWN6.out hBw6 (Nat.le_trans (Nat.le_succ _) (Nat.le_trans B5.out (by omega))) (PW.out.on HB6.out)).mono ?_
  rintro e w7 ⟨v7, rfl, h3, hB3⟩
  have OWN7 := aside (show Own w7 B v7 (y6 xs i.data.toList x s.data.toList y) from h3)
  have HB7 := aside (HB6.out.trans hB3)
  have BX7 := aside (BX6.out.below hB3 hGB)
  have hBw7 : B ≤ w7.heap.size := Nat.le_trans hBw6 hB3.size
  clear h3 hB3 OWN6 BX6 z0 z1 z2 z3 z4 z5
  obtain ⟨z0, z1, z2, z3, z4, z5⟩ := BX7.out
  go_wp2_with fail
  refine (appendText_ok B v7 (y6 xs i.data.toList x s.data.toList y) t _ w7 ST.out (Src.own OWN7.out hBw7) B6.out h2B (tabs_heap HT0.out HB7.out h2B) HVt.out).mono ?_
  rintro e w8 ⟨v8, rfl, h3, hB3⟩
  have OWN8 := aside (show Own w8 B v8 (y7 xs i.data.toList x s.data.toList y t.data.toList) from h3)
  have HB8 := aside (HB7.out.trans hB3)
  have BX8 := aside (BX7.out.below hB3 hGB)
  have hBw8 : B ≤ w8.heap.size := Nat.le_trans hBw7 hB3.size
  clear h3 hB3 OWN7 BX7 z0 z1 z2 z3 z4 z5
  obtain ⟨z0, z1, z2, z3, z4, z5⟩ := BX8.out
  go_wp2_with fail
  refine (appendText_no F B v8 (y7 xs i.data.toList x s.data.toList y t.data.toList) u _ w8 (by rw [HB8.out.tape, HB0.out.tape]; exact HF.out) SU.out (Src.own OWN8.out hBw8) B7.out h2B (tabs_heap HT0.out HB8.out h2B) HVu.out).mono ?_
  rintro e w9 ⟨v9, g, rfl, h3, hB3⟩
  have OWN9 := aside (h3.down hlb)
  have HB9 := aside (HB0.out.trans ((HB8.out.trans hB3).mono hlb))
  clear h3 hB3 z0 z1 z2 z3 z4 z5
  go_wp2
  refine bodyPost_ret (v := .tuple #[v9, .iface 63 (.pointer (some ⟨g, 0, none⟩))]) (by simp [results, Tryf.results26]) rfl ⟨v9, g, (hd ++ T i.data.toList ++ [44] ++ itoa x ++ T s.data.toList ++ [44] ++ itoa y ++ T t.data.toList ++ [44]), rfl, ?_, ?_, HB9.out⟩
  all_goals have e : xs ++ (hd ++ T i.data.toList ++ [44] ++ itoa x ++ T s.data.toList ++ [44] ++ itoa y ++ T t.data.toList ++ [44]) = (y7 xs i.data.toList x s.data.toList y t.data.toList) ++ [44] := by simp [y0, y1, y2, y3, y4, y5, y6, y7]
  · rw [e, List.length_append]
    exact B7.out
  · rw [e]
    exact OWN9.out

set_option maxHeartbeats 2000000 in
set_option maxRecDepth 100000 in
theorem letter_no (F : Interp) (p : Option Addr) (n : Nat) (xs : List UInt8) (i s t u : ByteArray) (x y d : Int) (w : World) (hxl : xs.length = n) (hnil : p = none → n = 0) (hba : BA w w.heap.size p n xs) (hT : Lib.Utf8Tabs 0 1 w) (hP : Pows w.heap.size w)
    (hx0 : -9223372036854775808 ≤ x) (hx1 : x ≤ 9223372036854775807) (hy0 : -2147483648 ≤ y) (hy1 : y ≤ 2147483647) (hd0 : d ≠ 1000) (hsz : n + i.size + s.size + t.size + u.size ≤ 1048576) (hF : F.answers w.tape)
    (hv : ¬ (validD i.data.toList = true ∧ validD s.data.toList = true ∧ validD t.data.toList = true ∧ validD u.data.toList = true)) :
    Calls Tryf.prog 26 #[.slice p n n, .agg #[.string i, .int .i64 x, .string s, .int .i32 y, .string t, .string u], .int .i64 d] w fun e w' => ∃ q m c g zs, e = .returned (.tuple #[.slice q m c, .iface 63 (.pointer (some ⟨g, 0, none⟩))]) ∧ (xs ++ zs).length = m ∧ m ≤ c ∧ m ≤ 8388608 ∧ BA w' w'.heap.size q m (xs ++ zs) ∧ Below w.heap.size w w' := by
  have close : ∀ (e : Ending) (w' : World), (∃ v' g zs, e = .returned (.tuple #[v', .iface 63 (.pointer (some ⟨g, 0, none⟩))]) ∧ (xs ++ zs).length ≤ 8388608 ∧ Own w' w.heap.size v' (xs ++ zs) ∧ Below w.heap.size w w') → ∃ q m c g zs, e = .returned (.tuple #[.slice q m c, .iface 63 (.pointer (some ⟨g, 0, none⟩))]) ∧ (xs ++ zs).length = m ∧ m ≤ c ∧ m ≤ 8388608 ∧ BA w' w'.heap.size q m (xs ++ zs) ∧ Below w.heap.size w w' := by
    rintro e w' ⟨v', g, zs, rfl, hl, hown, hB⟩
    obtain ⟨q, c, rfl, hc, _, _, hba⟩ := hown.shape
    exact ⟨q, _, c, g, zs, rfl, rfl, hc, hl, hba, hB⟩
  cases hi : validD i.data.toList with
  | false => exact (letter_no0 F p n xs i s t u x y d w hxl hnil hba hT hP hx0 hx1 hy0 hy1 hd0 hsz hF hi).mono close
  | true =>
    cases hs : validD s.data.toList with
    | false => exact (letter_no1 F p n xs i s t u x y d w hxl hnil hba hT hP hx0 hx1 hy0 hy1 hd0 hsz hF hi hs).mono close
    | true =>
      cases ht : validD t.data.toList with
      | false => exact (letter_no2 F p n xs i s t u x y d w hxl hnil hba hT hP hx0 hx1 hy0 hy1 hd0 hsz hF hi hs ht).mono close
      | true =>
        cases hu : validD u.data.toList with
        | false => exact (letter_no3 F p n xs i s t u x y d w hxl hnil hba hT hP hx0 hx1 hy0 hy1 hd0 hsz hF hi hs ht hu).mono close
        | true => exact absurd ⟨hi, hs, ht, hu⟩ hv

set_option maxHeartbeats 2000000 in
set_option maxRecDepth 100000 in
theorem letter_deep (F : Interp) (p : Option Addr) (n : Nat) (xs : List UInt8) (i s t u : ByteArray) (x y : Int) (w : World) (hxl : xs.length = n) (hba : BA w w.heap.size p n xs) (hF : F.answers w.tape) (hn : n ≤ 8388608) :
    Calls Tryf.prog 26 #[.slice p n n, .agg #[.string i, .int .i64 x, .string s, .int .i32 y, .string t, .string u], .int .i64 1000] w fun e w' => ∃ q m c g zs, e = .returned (.tuple #[.slice q m c, .iface 70 (.pointer (some ⟨g, 0, none⟩))]) ∧ (xs ++ zs).length = m ∧ m ≤ c ∧ m ≤ 8388608 ∧ BA w' w'.heap.size q m (xs ++ zs) ∧ Below w.heap.size w w' := by
  have HF := aside hF
  have HBA := aside hba
  have HXL := aside hxl
  obtain ⟨w0, hw0⟩ : ∃ w0, w0 = w.alloc (.cells #[.string i, .int .i64 x, .string s, .int .i32 y, .string t, .string u] 57) := ⟨_, rfl⟩
  have HB0 := aside (show Below w.heap.size w w0 by rw [hw0]; exact (Below.refl _ _).alloc (Nat.le_refl _) _)
  have HW0 := aside hw0
  clear hF hba hxl hw0
  go_enter Tryf.func26, Tryf.ntmps26
  go_wp2_with fail
  rw [← HW0.out]
  refine (nest_yes F w0 (by rw [HB0.out.tape]; exact HF.out)).mono ?_
  rintro e w2 ⟨g, rfl, hB2⟩
  have HB2 := aside (HB0.out.trans (hB2.mono HB0.out.size))
  clear hB2
  go_wp2
  refine bodyPost_ret (v := .tuple #[.slice p n n, .iface 70 (.pointer (some ⟨g, 0, none⟩))]) (by simp [results, Tryf.results26]) rfl ⟨p, n, n, g, [], rfl, ?_, Nat.le_refl _, hn, ?_, HB2.out⟩
  · rw [List.append_nil]; exact HXL.out
  · rw [List.append_nil]; exact (HBA.out.below HB2.out).mono HB2.out.size

set_option maxHeartbeats 2000000 in
set_option maxRecDepth 100000 in
theorem zzLetter_ok (p : Option Addr) (n : Nat) (xs : List UInt8) (i s t u : ByteArray) (x y d : Int) (w : World) (hxl : xs.length = n) (hnil : p = none → n = 0) (hba : BA w w.heap.size p n xs) (hT : Lib.Utf8Tabs 0 1 w) (hP : Pows w.heap.size w)
    (hx0 : -9223372036854775808 ≤ x) (hx1 : x ≤ 9223372036854775807) (hy0 : -2147483648 ≤ y) (hy1 : y ≤ 2147483647) (hd0 : d ≠ 1000) (hsz : n + i.size + s.size + t.size + u.size ≤ 1048576)
    (hvi : validD i.data.toList = true) (hvs : validD s.data.toList = true) (hvt : validD t.data.toList = true) (hvu : validD u.data.toList = true) :
    Calls Tryf.prog 18 #[.slice p n n, .string i, .int .i64 x, .string s, .int .i32 y, .string t, .string u, .int .i64 d] w fun e w' => ∃ v', e = .returned (.tuple #[v', .nilIface]) ∧ Own w' w.heap.size v' (y9 xs i.data.toList x s.data.toList y t.data.toList u.data.toList) ∧ Below w.heap.size w w' := by
  have C := aside (letter_ok p n xs i s t u x y d w hxl hnil hba hT hP hx0 hx1 hy0 hy1 hd0 hsz hvi hvs hvt hvu)
  clear hxl hnil hba hT hP hx0 hx1 hy0 hy1 hd0 hsz hvi hvs hvt hvu
  go_enter Tryf.func18, Tryf.ntmps18
  go_wp2_with fail
  refine C.out.mono ?_
  rintro e w2 ⟨v', rfl, hr⟩
  have HR := aside hr
  clear hr
  go_wp2
  exact bodyPost_ret (v := .tuple #[v', .nilIface]) (by simp [results, Tryf.results18]) rfl ⟨v', rfl, HR.out⟩

set_option maxHeartbeats 2000000 in
set_option maxRecDepth 100000 in
theorem zzLetter_no (F : Interp) (p : Option Addr) (n : Nat) (xs : List UInt8) (i s t u : ByteArray) (x y d : Int) (w : World) (hxl : xs.length = n) (hnil : p = none → n = 0) (hba : BA w w.heap.size p n xs) (hT : Lib.Utf8Tabs 0 1 w) (hP : Pows w.heap.size w)
    (hx0 : -9223372036854775808 ≤ x) (hx1 : x ≤ 9223372036854775807) (hy0 : -2147483648 ≤ y) (hy1 : y ≤ 2147483647) (hd0 : d ≠ 1000) (hsz : n + i.size + s.size + t.size + u.size ≤ 1048576) (hF : F.answers w.tape)
    (hv : ¬ (validD i.data.toList = true ∧ validD s.data.toList = true ∧ validD t.data.toList = true ∧ validD u.data.toList = true)) :
    Calls Tryf.prog 18 #[.slice p n n, .string i, .int .i64 x, .string s, .int .i32 y, .string t, .string u, .int .i64 d] w fun e w' => ∃ q m c g zs, e = .returned (.tuple #[.slice q m c, .iface 63 (.pointer (some ⟨g, 0, none⟩))]) ∧ (xs ++ zs).length = m ∧ m ≤ c ∧ m ≤ 8388608 ∧ BA w' w'.heap.size q m (xs ++ zs) ∧ Below w.heap.size w w' := by
  have C := aside (letter_no F p n xs i s t u x y d w hxl hnil hba hT hP hx0 hx1 hy0 hy1 hd0 hsz hF hv)
  clear hxl hnil hba hT hP hx0 hx1 hy0 hy1 hd0 hsz hF hv
  go_enter Tryf.func18, Tryf.ntmps18
  go_wp2_with fail
  refine C.out.mono ?_
  rintro e w2 ⟨q, m, c, g, zs, rfl, hr⟩
  have HR := aside hr
  clear hr
  go_wp2
  exact bodyPost_ret (v := .tuple #[.slice q m c, .iface 63 (.pointer (some ⟨g, 0, none⟩))]) (by simp [results, Tryf.results18]) rfl ⟨q, m, c, g, zs, rfl, HR.out⟩

set_option maxHeartbeats 2000000 in
set_option maxRecDepth 100000 in
theorem zzLetter_deep (F : Interp) (p : Option Addr) (n : Nat) (xs : List UInt8) (i s t u : ByteArray) (x y : Int) (w : World) (hxl : xs.length = n) (hba : BA w w.heap.size p n xs) (hF : F.answers w.tape) (hn : n ≤ 8388608) :
    Calls Tryf.prog 18 #[.slice p n n, .string i, .int .i64 x, .string s, .int .i32 y, .string t, .string u, .int .i64 1000] w fun e w' => ∃ q m c g zs, e = .returned (.tuple #[.slice q m c, .iface 70 (.pointer (some ⟨g, 0, none⟩))]) ∧ (xs ++ zs).length = m ∧ m ≤ c ∧ m ≤ 8388608 ∧ BA w' w'.heap.size q m (xs ++ zs) ∧ Below w.heap.size w w' := by
  have C := aside (letter_deep F p n xs i s t u x y w hxl hba hF hn)
  clear hxl hba hF hn
  go_enter Tryf.func18, Tryf.ntmps18
  go_wp2_with fail
  refine C.out.mono ?_
  rintro e w2 ⟨q, m, c, g, zs, rfl, hr⟩
  have HR := aside hr
  clear hr
  go_wp2
  exact bodyPost_ret (v := .tuple #[.slice q m c, .iface 70 (.pointer (some ⟨g, 0, none⟩))]) (by simp [results, Tryf.results18]) rfl ⟨q, m, c, g, zs, rfl, HR.out⟩

end Go.Proofs.Qxb6003874aFmt
