/-
  THE WALK OF jsonview.AppendString: it appends the quoted text, or refuses.
-/
import Derived.Test.Qxb6003874aFmtShelf
import Derived.Test.Qxb6003874aFmtEnc
import Derived.Test.Qxb6003874aFmtWalkA
import Derived.Deep.RegionLaw
import Derived.Deep.AppendLies
namespace Go.Proofs.Qxb6003874aFmt
open Go.RowKit Go.Lib

theorem cells_new (w : World) (cs : Array Value) (news : List UInt8) (hcs : cs.toList = bc news) (j : Nat) (hj : j < news.length) : (w.alloc (.cells cs 5)).cell? ((⟨w.heap.size, 0, none⟩ : Addr).add j) = some (.int .u8 (news.getD j 0).toNat) := by
  rw [Addr.add_lit, Nat.zero_add, World.cell?_alloc_at _ _ _ _ rfl, ← Array.getElem?_toList, hcs]
  simp [bc, List.getD_eq_getElem?_getD, hj]

/-- append(v, 'x', 'y'): the slice was built in the same statement. -/
theorem app_lit (w : World) {ops : Array Oper} {rest : List Oper} {o : Oper} {a : Act} {Q : Exit → Act → World → Prop} (hgd : o.guard = none) (s x : Operand)
    (ho : o.op = .call { callee := .builtin .append, args := #[s, x], argTypes := #[23, 23] }) (B : Nat) (v : Value) (xs : List UInt8) (hs : a.eval s = v) (hown : Own w B v xs)
    (news : List UInt8) (m : Nat) (hm : news.length = m) (hx : a.eval x = .slice (some ⟨w.heap.size, 0, none⟩) m m) (cs : Array Value) (hcs : cs.toList = bc news)
    (hbound : xs.length + m ≤ 16777216) (hB : B ≤ w.heap.size)
    (h : ∀ v' w', Own w' B v' (xs ++ news) → Below B w w' → wpList Tryf.prog ops Q rest (a.put o.dst v') w') : wpList Tryf.prog ops Q (o :: rest) a (w.alloc (.cells cs 5)) := by
  have hb : Below w.heap.size w (w.alloc (.cells cs 5)) := (Below.refl _ _).alloc (Nat.le_refl _) _
  refine app_sl _ hgd s x ho B v xs hs (hown.kept hb) _ m m news hx hm (fun j hj => cells_new w cs news hcs j (by omega)) hbound (Nat.le_trans hB hb.size) (fun v' w' h1 h2 => ?_)
  exact h v' w' h1 ((hb.mono hB).trans h2)

/-- The same inside a region that draws. -/
theorem step_lit (w : World) {ops : Array Oper} {o : Oper} {a : Act} {K : Act → World → Prop} {Q : Exit → Act → World → Prop} {E : Prop} (hgd : o.guard = none) (s x : Operand)
    (ho : o.op = .call { callee := .builtin .append, args := #[s, x], argTypes := #[23, 23] }) (B : Nat) (v : Value) (xs : List UInt8) (hs : a.eval s = v) (hown : Own w B v xs)
    (news : List UInt8) (m : Nat) (hm : news.length = m) (hm0 : 0 < m) (hx : a.eval x = .slice (some ⟨w.heap.size, 0, none⟩) m m) (cs : Array Value) (hcs : cs.toList = bc news)
    (hbound : xs.length + m ≤ 16777216) (hB : B ≤ w.heap.size)
    (h : ∀ v' w', Own w' B v' (xs ++ news) → Below B w w' → K (a.put o.dst v') w') : if Region.wanted o (yielded ops a.tmps) = true then Oper.wp Tryf.prog o a (w.alloc (.cells cs 5)) K Q else E := by
  obtain ⟨i, hi, hz⟩ := Option.map_eq_some_iff.1 Tryf.info5
  simp only [Prod.mk.injEq] at hz
  have hb : Below w.heap.size w (w.alloc (.cells cs 5)) := (Below.refl _ _).alloc (Nat.le_refl _) _
  have hown' := hown.kept hb
  refine step_append_lies (P := Tryf.prog) (w.alloc (.cells cs 5)) hgd s x 23 ho B 5 i (.int .u8 0) 1 1 Tryf.underlying23 hi hz.1 hz.2.1 hz.2.2 rfl (by decide) v xs.length (bc xs) hs hown' _ m m (bc news) hx (by rw [bc_length, hm, Nat.mul_one]) (fun j u hj => by
      obtain ⟨h1, rfl⟩ := bc_get hj
      exact cells_new w cs news hcs j h1) (bc_one _) hm0 (by unfold maxLen; omega) (by omega) (Nat.le_trans hB hb.size) _ rfl (fun g cap w' h1 h2 _ _ => ?_)
  refine h _ w' ?_ ((hb.mono hB).trans (Below.grown (Below.refl _ _) h2 (Nat.le_trans hB hb.size) (fun k hk => (hown'.block k hk).1)))
  unfold Own
  rw [List.length_append, hm, bc_append]
  exact h1

set_option maxRecDepth 100000 in
theorem and15 : ∀ X : Fin 256, bits .and .u8 ((X.val : Nat) : Int) 15 = ((X.val % 16 : Nat) : Int) := by decide
theorem dig_get (r : Nat) (h : r < ({ data := #[48, 49, 50, 51, 52, 53, 54, 55, 56, 57, 97, 98, 99, 100, 101, 102] } : ByteArray).size) : ({ data := #[48, 49, 50, 51, 52, 53, 54, 55, 56, 57, 97, 98, 99, 100, 101, 102] } : ByteArray)[r]'h = hexd r := by
  have key : ∀ k : Fin 16, ({ data := #[48, 49, 50, 51, 52, 53, 54, 55, 56, 57, 97, 98, 99, 100, 101, 102] } : ByteArray)[k.val]'k.isLt = hexd k.val := by decide
  exact key ⟨r, h⟩
theorem ext_list (s : ByteArray) (d i : Nat) : (s.extract d i).data.toList = (s.data.toList.drop d).take (i - d) := by
  rw [ByteArray.data_extract, Array.toList_extract, List.extract_eq_take_drop]

set_option maxHeartbeats 4000000 in
set_option maxRecDepth 100000 in
theorem appendString_ok (B : Nat) (v : Value) (xs : List UInt8) (s : ByteArray) (w : World) (hs : s.size ≤ 1048576) (hown : Own w B v xs) (hxl : xs.length ≤ 8388608) (hB : B ≤ w.heap.size) (hT : Lib.Utf8Tabs 0 1 w) (hv : validD s.data.toList = true) :
    Calls Tryf.prog 31 #[v, .string s] w fun e w' => ∃ v', e = .returned (.tuple #[v', .nilIface]) ∧ Own w' B v' (xs ++ 34 :: (encS s.data.toList ++ [34])) ∧ Below B w w' := by
  have CV := aside (validString_any s w (by omega) hT)
  rw [hv] at CV
  clear hT hv
  have OWN := aside hown
  clear hown
  obtain ⟨L, hL⟩ : ∃ L, L = s.data.toList := ⟨_, rfl⟩
  have hLn : L.length = s.size := by rw [hL, Array.length_toList]; rfl
  have hget : ∀ k (h : k < s.size), s[k]'h = L.getD k 0 := fun k h => by rw [hL]; exact s_get s k h
  rw [← hL]
  have HG := aside hget
  have HL := aside hLn
  have HLs := aside hL
  clear hget hL hLn
  go_enter Tryf.func31, Tryf.ntmps31
  go_wp2_with fail
  refine CV.out.mono ?_
  rintro e w1 ⟨rfl, hB1⟩
  have hsz1 := hB1.size
  have HB1 := aside (hB1.mono hB)
  have OWN1 := aside (OWN.out.kept hB1)
  clear hB1 CV OWN
  have hb1 : xs.length + 1 ≤ 16777216 := by omega
  have hBw1 : B ≤ w1.heap.size := by omega
  go_wp2_with (at_builtin; refine app_lit _ rfl _ _ rfl B _ _ rfl OWN1.out [34] 1 rfl rfl _ rfl hb1 hBw1 ?_; intro v2 w2 hown2 hB2; have OWN2 := aside hown2; have HB2 := aside (HB1.out.trans hB2); have hBw2 := Nat.le_trans hBw1 hB2.size; clear hown2 hB2)
  clear OWN1 HB1 hBw1 hb1
  go_loopg [0, 6, 7] s.size (fun g s0 s6 s7 wr => ∃ (i d : Nat), i ≤ s.size ∧ d ≤ i ∧ g = s.size - i ∧ s6 = .int .i64 d ∧ s7 = .int .i64 i ∧ Aside (Own wr B s0 (xs ++ [34] ++ encS (L.take d))) ∧ Aside (Below B w wr) ∧ B ≤ wr.heap.size ∧ Aside (∀ j, d ≤ j → j < i → plainB (L.getD j 0)))
  case atStart => exact ⟨0, 0, by omega, by omega, by omega, rfl, rfl, aside (by rw [List.take_zero, encS_nil, List.append_nil]; exact OWN2.out), HB2, hBw2, aside (fun j h1 h2 => by omega)⟩
  case round =>
    obtain ⟨i, d, hin, hdi, hgi, rfl, rfl, I, HBr, hBr, P⟩ := hrel
    clear OWN2 HB2 hBw2
    have LEN := aside (show (xs ++ [34] ++ encS (L.take d)).length ≤ 14680065 by
      have h1 := encS_len (L.take d)
      have h2 := HL.out
      simp at h1 ⊢
      omega)
    by_cases hlt : i < s.size
    · have hltz : (i : Int) < (s.size : Int) := by omega
      have hdiz : (d : Int) ≤ (i : Int) := by omega
      have hiz : (i : Int) ≤ (s.size : Int) := by omega
      obtain ⟨x, hx⟩ : ∃ x, x = L.getD i 0 := ⟨_, rfl⟩
      have HX := aside hx
      have hsx : ∀ h : i < s.size, s[i]'h = x := fun h => by rw [HG.out i hlt, hx]
      clear hx
      by_cases hp : plainB x
      · obtain ⟨p1, p2, p3⟩ := hp
        have P' := aside (show ∀ j, d ≤ j → j < i + 1 → plainB (L.getD j 0) from fun j h1 h2 => by
          by_cases e : j = i
          · subst e; rw [← HX.out]; exact ⟨p1, p2, p3⟩
          · exact P.out j h1 (by omega))
        have z1 : (32 : Int) ≤ (x.toNat : Int) := by omega
        have z2 : ((x.toNat : Int) == 34) = false := by rw [beq_eq_false_iff_ne]; omega
        have z3 : ((x.toNat : Int) == 92) = false := by rw [beq_eq_false_iff_ne]; omega
        have z4 : ((x.toNat : Int) != 34) = true := by rw [bne, z2]; rfl
        have z5 : ((x.toNat : Int) != 92) = true := by rw [bne, z3]; rfl
        clear p1 p2 p3
        go_wp2
        go_roundg (gk - 1)
        case measure => omega
        case rel => exact ⟨i + 1, d, by omega, by omega, by omega, rfl, by go_num, I, HBr, hBr, P'⟩
      · have HE := aside (show xs ++ [34] ++ encS (L.take d) ++ (s.extract d i).data.toList = xs ++ [34] ++ encS (L.take i) by
          rw [ext_list, ← HLs.out, List.append_assoc (xs ++ [34]), encS_upto L d i hdi P.out])
        have hb2 : (xs ++ [34] ++ encS (L.take d)).length + (s.extract d i).size ≤ 16777216 := by
          have h1 := LEN.out
          have h2 : (s.extract d i).size ≤ s.size := by rw [ByteArray.size_extract]; omega
          omega
        have hb3 : ∀ m, m ≤ 6 → (xs ++ [34] ++ encS (L.take i)).length + m ≤ 16777216 := fun m hm => by
          have h1 := encS_len (L.take i)
          have h2 := HL.out
          simp at h1 ⊢
          omega
        have HB3L := aside hb3
        have PL := aside (show ∀ j, i + 1 ≤ j → j < i + 1 → plainB (L.getD j 0) from fun j h1 h2 => by omega)
        have NXT := aside (show ∀ (v4 : Value) (w4 : World) (news : List UInt8), esc x = news → Own w4 B v4 (xs ++ [34] ++ encS (L.take i) ++ news) → Own w4 B v4 (xs ++ [34] ++ encS (L.take (i + 1))) from fun v4 w4 news h1 h2 => by
          rw [encS_next L i (by rw [HL.out]; exact hlt), ← HX.out, h1, ← List.append_assoc (xs ++ [34])]
          exact h2)
        have hnp : ¬ (32 ≤ x.toNat ∧ x.toNat ≠ 34 ∧ x.toNat ≠ 92) := hp
        clear hb3 hp P
        by_cases c34 : x.toNat = 34 ∨ x.toNat = 92
        · rcases c34 with c | c
          · obtain rfl : x = 34 := UInt8.toNat_inj.1 c
            clear c hnp
            go_upto_block 2 with (at_builtin; refine app_str _ rfl _ _ rfl B _ _ rfl I.out _ rfl hb2 hBr ?_; intro v3 w3 hown3 hB3; have OWN3 := aside (show Own w3 B v3 (xs ++ [34] ++ encS (L.take i)) by rw [← HE.out]; exact hown3); have HB3 := aside (HBr.out.trans hB3); have hBw3 := Nat.le_trans hBr hB3.size; clear hown3 hB3)
            have hb4 := HB3L.out 2 (by omega)
            go_wp2_with (at_builtin; refine app_lit _ rfl _ _ rfl B _ _ rfl OWN3.out [92, 34] 2 rfl rfl _ rfl hb4 hBw3 ?_; intro v4 w4 h4 hB4; have OWN4 := aside (NXT.out v4 w4 [92, 34] rfl h4); have HB4 := aside (HB3.out.trans hB4); have hBw4 := Nat.le_trans hBw3 hB4.size; clear h4 hB4)
            go_roundg (gk - 1)
            case measure => omega
            case rel => exact ⟨i + 1, i + 1, by omega, by omega, by omega, by go_num, by go_num, OWN4, HB4, hBw4, PL⟩
          · obtain rfl : x = 92 := UInt8.toNat_inj.1 c
            clear c hnp
            go_upto_block 2 with (at_builtin; refine app_str _ rfl _ _ rfl B _ _ rfl I.out _ rfl hb2 hBr ?_; intro v3 w3 hown3 hB3; have OWN3 := aside (show Own w3 B v3 (xs ++ [34] ++ encS (L.take i)) by rw [← HE.out]; exact hown3); have HB3 := aside (HBr.out.trans hB3); have hBw3 := Nat.le_trans hBr hB3.size; clear hown3 hB3)
            have hb4 := HB3L.out 2 (by omega)
            go_wp2_with (at_builtin; refine app_lit _ rfl _ _ rfl B _ _ rfl OWN3.out [92, 92] 2 rfl rfl _ rfl hb4 hBw3 ?_; intro v4 w4 h4 hB4; have OWN4 := aside (NXT.out v4 w4 [92, 92] rfl h4); have HB4 := aside (HB3.out.trans hB4); have hBw4 := Nat.le_trans hBw3 hB4.size; clear h4 hB4)
            go_roundg (gk - 1)
            case measure => omega
            case rel => exact ⟨i + 1, i + 1, by omega, by omega, by omega, by go_num, by go_num, OWN4, HB4, hBw4, PL⟩
        · have z1 : ¬ (32 : Int) ≤ (x.toNat : Int) := by omega
          go_upto_block 2 with (at_builtin; refine app_str _ rfl _ _ rfl B _ _ rfl I.out _ rfl hb2 hBr ?_; intro v3 w3 hown3 hB3; have OWN3 := aside (show Own w3 B v3 (xs ++ [34] ++ encS (L.take i)) by rw [← HE.out]; exact hown3); have HB3 := aside (HBr.out.trans hB3); have hBw3 := Nat.le_trans hBr hB3.size; clear hown3 hB3)
          have n34 : ((x.toNat : Int) == 34) = false := by rw [beq_eq_false_iff_ne]; omega
          have n92 : ((x.toNat : Int) == 92) = false := by rw [beq_eq_false_iff_ne]; omega
          by_cases c8 : x.toNat = 8
          · obtain rfl : x = 8 := UInt8.toNat_inj.1 c8
            clear c8 c34 hnp z1 hsx
            have hb4 := HB3L.out 2 (by omega)
            go_wp2_with (at_builtin; refine app_str _ rfl _ _ rfl B _ _ rfl OWN3.out _ rfl hb4 hBw3 ?_; intro v4 w4 h4 hB4; have OWN4 := aside (NXT.out v4 w4 [92, 98] rfl h4); have HB4 := aside (HB3.out.trans hB4); have hBw4 := Nat.le_trans hBw3 hB4.size; clear h4 hB4)
            go_roundg (gk - 1)
            case measure => omega
            case rel => exact ⟨i + 1, i + 1, by omega, by omega, by omega, by go_num, by go_num, OWN4, HB4, hBw4, PL⟩
          have n8 : ((x.toNat : Int) == 8) = false := by rw [beq_eq_false_iff_ne]; omega
          by_cases c12 : x.toNat = 12
          · obtain rfl : x = 12 := UInt8.toNat_inj.1 c12
            clear c12 c34 hnp z1 hsx
            have hb4 := HB3L.out 2 (by omega)
            go_wp2_with (at_builtin; refine app_str _ rfl _ _ rfl B _ _ rfl OWN3.out _ rfl hb4 hBw3 ?_; intro v4 w4 h4 hB4; have OWN4 := aside (NXT.out v4 w4 [92, 102] rfl h4); have HB4 := aside (HB3.out.trans hB4); have hBw4 := Nat.le_trans hBw3 hB4.size; clear h4 hB4)
            go_roundg (gk - 1)
            case measure => omega
            case rel => exact ⟨i + 1, i + 1, by omega, by omega, by omega, by go_num, by go_num, OWN4, HB4, hBw4, PL⟩
          have n12 : ((x.toNat : Int) == 12) = false := by rw [beq_eq_false_iff_ne]; omega
          by_cases c10 : x.toNat = 10
          · obtain rfl : x = 10 := UInt8.toNat_inj.1 c10
            clear c10 c34 hnp z1 hsx
            have hb4 := HB3L.out 2 (by omega)
            go_wp2_with (at_builtin; refine app_str _ rfl _ _ rfl B _ _ rfl OWN3.out _ rfl hb4 hBw3 ?_; intro v4 w4 h4 hB4; have OWN4 := aside (NXT.out v4 w4 [92, 110] rfl h4); have HB4 := aside (HB3.out.trans hB4); have hBw4 := Nat.le_trans hBw3 hB4.size; clear h4 hB4)
            go_roundg (gk - 1)
            case measure => omega
            case rel => exact ⟨i + 1, i + 1, by omega, by omega, by omega, by go_num, by go_num, OWN4, HB4, hBw4, PL⟩
          have n10 : ((x.toNat : Int) == 10) = false := by rw [beq_eq_false_iff_ne]; omega
          by_cases c13 : x.toNat = 13
          · obtain rfl : x = 13 := UInt8.toNat_inj.1 c13
            clear c13 c34 hnp z1 hsx
            have hb4 := HB3L.out 2 (by omega)
            go_wp2_with (at_builtin; refine app_str _ rfl _ _ rfl B _ _ rfl OWN3.out _ rfl hb4 hBw3 ?_; intro v4 w4 h4 hB4; have OWN4 := aside (NXT.out v4 w4 [92, 114] rfl h4); have HB4 := aside (HB3.out.trans hB4); have hBw4 := Nat.le_trans hBw3 hB4.size; clear h4 hB4)
            go_roundg (gk - 1)
            case measure => omega
            case rel => exact ⟨i + 1, i + 1, by omega, by omega, by omega, by go_num, by go_num, OWN4, HB4, hBw4, PL⟩
          have n13 : ((x.toNat : Int) == 13) = false := by rw [beq_eq_false_iff_ne]; omega
          by_cases c9 : x.toNat = 9
          · obtain rfl : x = 9 := UInt8.toNat_inj.1 c9
            clear c9 c34 hnp z1 hsx
            have hb4 := HB3L.out 2 (by omega)
            go_wp2_with (at_builtin; refine app_str _ rfl _ _ rfl B _ _ rfl OWN3.out _ rfl hb4 hBw3 ?_; intro v4 w4 h4 hB4; have OWN4 := aside (NXT.out v4 w4 [92, 116] rfl h4); have HB4 := aside (HB3.out.trans hB4); have hBw4 := Nat.le_trans hBw3 hB4.size; clear h4 hB4)
            go_roundg (gk - 1)
            case measure => omega
            case rel => exact ⟨i + 1, i + 1, by omega, by omega, by omega, by go_num, by go_num, OWN4, HB4, hBw4, PL⟩
          have n9 : ((x.toNat : Int) == 9) = false := by rw [beq_eq_false_iff_ne]; omega
          have HESC := aside (show esc x = [92, 117, 48, 48] ++ [hexd (x.toNat / 16), hexd (x.toNat % 16)] by
            unfold esc
            rw [if_neg (by omega), if_neg (by omega), if_neg (by omega), if_neg (by omega), if_neg (by omega), if_neg (by omega), if_pos (by omega)]
            rfl)
          have hb4 := HB3L.out 4 (by omega)
          go_upto_region 13 with (at_builtin; refine app_str _ rfl _ _ rfl B _ _ rfl OWN3.out _ rfl hb4 hBw3 ?_; intro v4 w4 h4 hB4; have OWN4 := aside h4; have HB4 := aside (HB3.out.trans hB4); have hBw4 := Nat.le_trans hBw3 hB4.size; clear h4 hB4)
          obtain ⟨r1, hr1⟩ : ∃ r1, r1 = x.toNat / 16 := ⟨_, rfl⟩
          obtain ⟨r2, hr2⟩ : ∃ r2, r2 = x.toNat % 16 := ⟨_, rfl⟩
          rw [← hr1, ← hr2] at HESC
          have q1 : (x.toNat : Int) / 16 = (r1 : Int) := by omega
          have q2 : bits .and .u8 (x.toNat : Int) 15 = (r2 : Int) := by rw [hr2]; exact and15 ⟨x.toNat, x.toNat_lt⟩
          have l1 : (r1 : Int) < 16 := by have := x.toNat_lt; omega
          have l2 : (r2 : Int) < 16 := by omega
          have hdig := dig_get
          clear hr1 hr2
          have hb6 : (xs ++ [34] ++ encS (L.take i) ++ [92, 117, 48, 48]).length + 2 ≤ 16777216 := by
            have := HB3L.out 6 (by omega)
            rw [List.length_append]
            simp at this ⊢
            omega
          go_region_law (refine step_lit w4.drew rfl (.tmp 45) (.tmp 52) rfl B v4 _ (by simp [Act.eval]) OWN4.out [hexd r1, hexd r2] 2 rfl (by omega) (by simp [Act.eval]) _ rfl hb6 hBw4 ?_; intro v5 w5 h5 hB5; have OWN5 := aside (NXT.out v5 w5 _ HESC.out (by rw [← List.append_assoc]; exact h5)); have HB5 := aside (HB4.out.trans ((below_drewN (Below.refl B w4) 1).trans hB5)); have hBw5 := Nat.le_trans hBw4 hB5.size; clear h5 hB5)
          all_goals
            go_wp2
            go_roundg (gk - 1)
            case measure => omega
            case rel => exact ⟨i + 1, i + 1, by omega, by omega, by omega, by go_num, by go_num, OWN5, HB5, hBw5, PL⟩
    · have hltz : ¬ (i : Int) < (s.size : Int) := by omega
      have hdz : (d : Int) ≤ (s.size : Int) := by omega
      have HE := aside (show xs ++ [34] ++ encS (L.take d) ++ (s.extract d s.size).data.toList = xs ++ [34] ++ encS L by
        have hi : i = s.size := by omega
        rw [ext_list, ← HLs.out, List.append_assoc (xs ++ [34]), encS_upto L d s.size (by omega) (by rw [← hi]; exact P.out), List.take_of_length_le (by rw [HL.out]; omega)])
      have hb2 : (xs ++ [34] ++ encS (L.take d)).length + (s.extract d s.size).size ≤ 16777216 := by
        have h1 := LEN.out
        have h2 : (s.extract d s.size).size ≤ s.size := by rw [ByteArray.size_extract]; omega
        omega
      have hb3 : (xs ++ [34] ++ encS L).length + 1 ≤ 16777216 := by
        have h1 := encS_len L
        have h2 := HL.out
        simp at h1 ⊢
        omega
      go_upto_region 29 with (at_builtin; refine app_str _ rfl _ _ rfl B _ _ rfl I.out _ rfl hb2 hBr ?_; intro v3 w3 hown3 hB3; have OWN3 := aside (show Own w3 B v3 (xs ++ [34] ++ encS L) by rw [← HE.out]; exact hown3); have HB3 := aside (HBr.out.trans hB3); have hBw3 := Nat.le_trans hBr hB3.size; clear hown3 hB3)
      go_wp2_with (at_builtin; refine app_lit _ rfl _ _ rfl B _ _ rfl OWN3.out [34] 1 rfl rfl _ rfl hb3 hBw3 ?_; intro v4 w4 h4 hB4; have OWN4 := aside h4; have HB4 := aside (HB3.out.trans hB4); clear h4 hB4)
      refine bodyPost_ret (v := .tuple #[v4, .nilIface]) (by simp [results, Tryf.results31, go_sem]) rfl ⟨v4, rfl, ?_, HB4.out⟩
      have e : xs ++ 34 :: (encS L ++ [34]) = xs ++ [34] ++ encS L ++ [34] := by simp
      rw [e]
      exact OWN4.out

set_option maxHeartbeats 1000000 in
set_option maxRecDepth 100000 in
theorem errorsNew_any (t : ByteArray) (w : World) :
    Calls Tryf.prog 30 #[.string t] w fun e w' => e = .returned (.iface 70 (.pointer (some ⟨w.heap.size, 0, none⟩))) ∧ w' = w.alloc (.cells #[.string t] 72) := by
  go_enter Tryf.func30, Tryf.ntmps30
  go_wp2
  go_ret
  exact ⟨rfl, rfl⟩

set_option maxHeartbeats 1000000 in
set_option maxRecDepth 100000 in
theorem appendString_no (v : Value) (s : ByteArray) (w : World) (hs : s.size ≤ 1048576) (hT : Lib.Utf8Tabs 0 1 w) (hv : validD s.data.toList = false) :
    Calls Tryf.prog 31 #[v, .string s] w fun e w' => ∃ g t, e = .returned (.tuple #[v, .iface 70 (.pointer (some ⟨g, 0, none⟩))]) ∧ w'.cell? ⟨g, 0, none⟩ = some (.string t) ∧ Below w.heap.size w w' := by
  have CV := aside (validString_any s w (by omega) hT)
  rw [hv] at CV
  clear hT hv
  go_enter Tryf.func31, Tryf.ntmps31
  go_wp2_with fail
  refine CV.out.mono ?_
  rintro e w1 ⟨rfl, hB1⟩
  have HB1 := aside hB1
  clear hB1 CV
  go_wp2_with fail
  refine (errorsNew_any _ w1).mono ?_
  rintro e w2 ⟨rfl, hw2⟩
  have HB2 := aside (show Below w1.heap.size w1 w2 by rw [hw2]; exact (Below.refl _ _).alloc (Nat.le_refl _) _)
  have HC2 := aside (show w2.cell? ⟨w1.heap.size, 0, none⟩ = some (.string { data := #[116, 101, 120, 116, 32, 105, 115, 32, 110, 111, 116, 32, 85, 84, 70, 45, 56] }) by rw [hw2, World.cell?_alloc_at _ _ _ _ rfl]; rfl)
  clear hw2
  go_wp2
  refine bodyPost_ret (v := .tuple #[v, .iface 70 (.pointer (some ⟨w1.heap.size, 0, none⟩))]) (by simp [results, Tryf.results31, go_sem]) rfl ⟨_, _, rfl, HC2.out, HB1.out.trans (HB2.out.mono HB1.out.size)⟩

end Go.Proofs.Qxb6003874aFmt
