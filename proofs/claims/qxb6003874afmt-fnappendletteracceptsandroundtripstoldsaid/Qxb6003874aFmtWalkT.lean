/-
  THE WALK OF appendText AND ZZAppendText.
-/
import Derived.Test.Qxb6003874aFmtWalkS
import Derived.Test.Qxb6003874aFmtStop
namespace Go.Proofs.Qxb6003874aFmt
open Go.RowKit Go.Lib Go.Extern.Stop Go.Stop Go.Extern

/-- What may be appended to: a row of the call's own, or a slice that is full. -/
def Src (w : World) (B : Nat) (v : Value) (xs : List UInt8) : Prop :=
  B ≤ w.heap.size ∧ (Own w B v xs ∨ ∃ p n, v = .slice p n n ∧ xs.length = n ∧ (p = none → n = 0) ∧ BA w w.heap.size p n xs)
theorem Src.own {w : World} {B : Nat} {v : Value} {xs : List UInt8} (h : Own w B v xs) (hB : B ≤ w.heap.size) : Src w B v xs := ⟨hB, .inl h⟩

/-- append(v, 'x') onto such a slice. -/
theorem app_src (w : World) {ops : Array Oper} {rest : List Oper} {o : Oper} {a : Act} {Q : Exit → Act → World → Prop} (hgd : o.guard = none) (s x : Operand)
    (ho : o.op = .call { callee := .builtin .append, args := #[s, x], argTypes := #[23, 23] }) (B : Nat) (v : Value) (xs : List UInt8) (hs : a.eval s = v) (hsrc : Src w B v xs)
    (news : List UInt8) (m : Nat) (hm : news.length = m) (hm0 : 0 < m) (hx : a.eval x = .slice (some ⟨w.heap.size, 0, none⟩) m m) (cs : Array Value) (hcs : cs.toList = bc news)
    (hbound : xs.length + m ≤ 16777216)
    (h : ∀ v' w', Own w' B v' (xs ++ news) → Below B w w' → wpList Tryf.prog ops Q rest (a.put o.dst v') w') : wpList Tryf.prog ops Q (o :: rest) a (w.alloc (.cells cs 5)) := by
  obtain ⟨hB, hown | ⟨p, n, hv, hn, hnil, hba⟩⟩ := hsrc
  · exact app_lit w hgd s x ho B v xs hs hown news m hm hx cs hcs hbound hB h
  · have hb : Below w.heap.size w (w.alloc (.cells cs 5)) := (Below.refl _ _).alloc (Nat.le_refl _) _
    have hle := Nat.le_trans hB hb.size
    refine app_full _ hgd s x ho w.heap.size p n xs (hs.trans hv) hn hnil (hba.below hb) _ m m news hx hm hm0 (fun j hj => cells_new w cs news hcs j (by omega)) (by omega) (fun v' w' h1 h2 => ?_)
    exact h v' w' (h1.down hle) ((hb.mono hB).trans (h2.mono hle))

set_option maxHeartbeats 1000000 in
set_option maxRecDepth 100000 in
theorem appendText_ok (B : Nat) (v : Value) (xs : List UInt8) (s what : ByteArray) (w : World) (hs : s.size ≤ 1048576) (hsrc : Src w B v xs) (hxl : xs.length + 1 ≤ 8388608) (h2 : 2 ≤ B) (hT : Lib.Utf8Tabs 0 1 w) (hv : validD s.data.toList = true) :
    Calls Tryf.prog 24 #[v, .string s, .string what] w fun e w' => ∃ v', e = .returned (.tuple #[v', .nilIface]) ∧ Own w' B v' (xs ++ 44 :: 34 :: (encS s.data.toList ++ [34])) ∧ Below B w w' := by
  have SRC := aside hsrc
  have HT := aside hT
  have HV := aside hv
  have hb : xs.length + 1 ≤ 16777216 := by omega
  have hBw := hsrc.1
  clear hsrc hT hv
  go_enter Tryf.func24, Tryf.ntmps24
  go_wp2_with (at_builtin; refine app_src _ rfl _ _ rfl B _ _ rfl SRC.out [44] 1 rfl (by omega) rfl _ rfl hb ?_; intro v1 w1 h1 hB1; have OWN1 := aside h1; have HB1 := aside hB1; have hBw1 := Nat.le_trans hBw hB1.size; clear h1 hB1)
  refine (appendString_ok B v1 (xs ++ [44]) s w1 hs OWN1.out (by rw [List.length_append]; exact hxl) hBw1 (tabs_heap HT.out HB1.out h2) HV.out).mono ?_
  rintro e w2 ⟨v2, rfl, h3, hB2⟩
  have OWN2 := aside h3
  have HB2 := aside (HB1.out.trans hB2)
  clear h3 hB2
  go_wp2
  refine bodyPost_ret (v := .tuple #[v2, .nilIface]) (by simp [results, Tryf.results24, go_sem]) rfl ⟨v2, rfl, ?_, HB2.out⟩
  have e : xs ++ 44 :: 34 :: (encS s.data.toList ++ [34]) = xs ++ [44] ++ 34 :: (encS s.data.toList ++ [34]) := by simp
  rw [e]
  exact OWN2.out

set_option maxHeartbeats 1000000 in
set_option maxRecDepth 100000 in
theorem appendText_no (F : Interp) (B : Nat) (v : Value) (xs : List UInt8) (s what : ByteArray) (w : World) (hF : F.answers w.tape) (hs : s.size ≤ 1048576) (hsrc : Src w B v xs) (hxl : xs.length + 1 ≤ 8388608) (h2 : 2 ≤ B) (hT : Lib.Utf8Tabs 0 1 w) (hv : validD s.data.toList = false) :
    Calls Tryf.prog 24 #[v, .string s, .string what] w fun e w' => ∃ v' g, e = .returned (.tuple #[v', .iface 63 (.pointer (some ⟨g, 0, none⟩))]) ∧ Own w' B v' (xs ++ [44]) ∧ Below B w w' := by
  have SRC := aside hsrc
  have HT := aside hT
  have HV := aside hv
  have HF := aside hF
  have hb : xs.length + 1 ≤ 16777216 := by omega
  have hBw := hsrc.1
  clear hsrc hT hv hF
  go_enter Tryf.func24, Tryf.ntmps24
  go_wp2_with (at_builtin; refine app_src _ rfl _ _ rfl B _ _ rfl SRC.out [44] 1 rfl (by omega) rfl _ rfl hb ?_; intro v1 w1 h1 hB1; have OWN1 := aside h1; have HB1 := aside hB1; have hBw1 := Nat.le_trans hBw hB1.size; clear h1 hB1)
  refine (appendString_no v1 s w1 hs (tabs_heap HT.out HB1.out h2) HV.out).mono ?_
  rintro e w2 ⟨g, t, rfl, hg, hB2⟩
  have HG := aside hg
  have HBw2 := aside hB2
  have OWN2 := aside (OWN1.out.kept hB2)
  have HB2 := aside (HB1.out.trans (hB2.mono hBw1))
  have hBw2 := Nat.le_trans hBw1 hB2.size
  clear hg hB2 OWN1
  go_wp2_with fail
  have hgl : g < w2.heap.size := World.block_lt_of_cell? _ _ HG.out
  have hB3 : Below w2.heap.size w2 (w2.alloc (.cells #[.iface 9 (.string what), .iface 70 (.pointer (some ⟨g, 0, none⟩))] 20)) := (Below.refl _ _).alloc (Nat.le_refl _) _
  refine (errorf_w F what t ⟨g, 0, none⟩ w2.heap.size _ ?_ ?_ ?_ ?_).mono ?_
  · rw [hB3.tape, HB2.out.tape]; exact HF.out
  · rw [World.cell?_alloc_at _ _ _ _ rfl]; rfl
  · rw [World.cell?_alloc_at _ _ _ _ rfl]; rfl
  · rw [hB3.cell (p := ⟨g, 0, none⟩) hgl]; exact HG.out
  rintro e w4 ⟨rfl, hw4⟩
  have hB4 : Below w2.heap.size w2 w4 := by
    rw [hw4]
    exact below_drewN (hB3.trans (((Below.refl _ _).alloc (Nat.le_refl _) _).mono hB3.size)) 1
  have OWN4 := aside (OWN2.out.kept hB4)
  have HB4 := aside (HB2.out.trans (hB4.mono hBw2))
  clear hw4 hB3 hB4 OWN2
  go_wp2
  exact bodyPost_ret (v := .tuple #[v1, .iface 63 (.pointer (some ⟨w2.heap.size + 1, 0, none⟩))]) (by simp [results, Tryf.results24, go_sem]) rfl ⟨v1, w2.heap.size + 1, rfl, OWN4.out, HB4.out⟩

set_option maxHeartbeats 1000000 in
set_option maxRecDepth 100000 in
theorem zzAppendText_ok (B : Nat) (v : Value) (xs : List UInt8) (s what : ByteArray) (w : World) (hs : s.size ≤ 1048576) (hsrc : Src w B v xs) (hxl : xs.length + 1 ≤ 8388608) (h2 : 2 ≤ B) (hT : Lib.Utf8Tabs 0 1 w) (hv : validD s.data.toList = true) :
    Calls Tryf.prog 12 #[v, .string s, .string what] w fun e w' => ∃ v', e = .returned (.tuple #[v', .nilIface]) ∧ Own w' B v' (xs ++ 44 :: 34 :: (encS s.data.toList ++ [34])) ∧ Below B w w' := by
  have C := aside (appendText_ok B v xs s what w hs hsrc hxl h2 hT hv)
  clear hsrc hT hv
  go_enter Tryf.func12, Tryf.ntmps12
  go_wp2_with fail
  refine C.out.mono ?_
  rintro e w2 ⟨v2, rfl, h3, hB2⟩
  have OWN2 := aside h3
  have HB2 := aside hB2
  clear h3 hB2
  go_wp2
  exact bodyPost_ret (v := .tuple #[v2, .nilIface]) (by simp [results, Tryf.results12, go_sem]) rfl ⟨v2, rfl, OWN2.out, HB2.out⟩

set_option maxHeartbeats 1000000 in
set_option maxRecDepth 100000 in
theorem zzAppendText_no (F : Interp) (B : Nat) (v : Value) (xs : List UInt8) (s what : ByteArray) (w : World) (hF : F.answers w.tape) (hs : s.size ≤ 1048576) (hsrc : Src w B v xs) (hxl : xs.length + 1 ≤ 8388608) (h2 : 2 ≤ B) (hT : Lib.Utf8Tabs 0 1 w) (hv : validD s.data.toList = false) :
    Calls Tryf.prog 12 #[v, .string s, .string what] w fun e w' => ∃ v' g, e = .returned (.tuple #[v', .iface 63 (.pointer (some ⟨g, 0, none⟩))]) ∧ Own w' B v' (xs ++ [44]) ∧ Below B w w' := by
  have C := aside (appendText_no F B v xs s what w hF hs hsrc hxl h2 hT hv)
  clear hsrc hT hv hF
  go_enter Tryf.func12, Tryf.ntmps12
  go_wp2_with fail
  refine C.out.mono ?_
  rintro e w2 ⟨v2, g, rfl, h3, hB2⟩
  have OWN2 := aside h3
  have HB2 := aside hB2
  clear h3 hB2
  go_wp2
  exact bodyPost_ret (v := .tuple #[v2, .iface 63 (.pointer (some ⟨g, 0, none⟩))]) (by simp [results, Tryf.results12, go_sem]) rfl ⟨v2, g, rfl, OWN2.out, HB2.out⟩

end Go.Proofs.Qxb6003874aFmt
