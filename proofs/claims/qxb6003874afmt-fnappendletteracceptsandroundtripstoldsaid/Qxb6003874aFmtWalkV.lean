/-
  THE WALK OF zzValidUTF8: it answers 'validD', as utf8.ValidString does.
-/
import Derived.Test.Qxb6003874aFmtWalkA
import Derived.Lib.ValidLaws
namespace Go.Proofs.Qxb6003874aFmt
open Go.RowKit Go.Lib

/-- The lead byte x: how many bytes follow it, and the bounds of the first of them. -/
def Lead (x : UInt8) (k lo hi : Nat) : Prop := 1 ≤ k ∧ k ≤ 3 ∧ firstT x.toNat % 8 = k + 1 ∧ accLo (firstT x.toNat / 16) = lo ∧ accHi (firstT x.toNat / 16) = hi

theorem val_good (l : List UInt8) (hne : l ≠ []) (h0 : 128 ≤ (l.getD 0 0).toNat) (k lo hi : Nat) (hl : Lead (l.getD 0 0) k lo hi) (h1 : k < l.length) (h2 : lo ≤ (l.getD 1 0).toNat) (h3 : (l.getD 1 0).toNat ≤ hi)
    (h4 : ∀ q, 2 ≤ q → q ≤ k → 128 ≤ (l.getD q 0).toNat ∧ (l.getD q 0).toNat ≤ 191) : validD l = validD (l.drop (k + 1)) := by
  obtain ⟨k1, k3, e1, e2, e3⟩ := hl
  rw [validD_lead l hne h0, e1, e2, e3]
  have q2 := h4 2 (by omega)
  have q3 := h4 3 (by omega)
  unfold checkN
  rcases (by omega : k = 1 ∨ k = 2 ∨ k = 3) with rfl | rfl | rfl
  · rw [if_pos rfl, if_neg (by omega)]
  · rw [if_neg (by omega), if_pos rfl, if_neg (by omega)]
  · rw [if_neg (by omega), if_neg (by omega), if_pos rfl, if_neg (by omega)]
theorem val_bad (l : List UInt8) (hne : l ≠ []) (h0 : 128 ≤ (l.getD 0 0).toNat) (k lo hi : Nat) (hl : Lead (l.getD 0 0) k lo hi) (h : l.length ≤ k ∨ (l.getD 1 0).toNat < lo ∨ hi < (l.getD 1 0).toNat ∨ ∃ q, 2 ≤ q ∧ q ≤ k ∧ ((l.getD q 0).toNat < 128 ∨ 191 < (l.getD q 0).toNat)) : validD l = false := by
  obtain ⟨k1, k3, e1, e2, e3⟩ := hl
  rw [validD_lead l hne h0, e1, e2, e3]
  have key : l.length ≤ k ∨ (l.getD 1 0).toNat < lo ∨ hi < (l.getD 1 0).toNat ∨ (2 ≤ k ∧ ((l.getD 2 0).toNat < 128 ∨ 191 < (l.getD 2 0).toNat)) ∨ (3 ≤ k ∧ ((l.getD 3 0).toNat < 128 ∨ 191 < (l.getD 3 0).toNat)) := by
    rcases h with h | h | h | ⟨q, q1, q2, h⟩
    · exact .inl h
    · exact .inr (.inl h)
    · exact .inr (.inr (.inl h))
    · rcases (by omega : q = 2 ∨ q = 3) with rfl | rfl
      · exact .inr (.inr (.inr (.inl ⟨q2, h⟩)))
      · exact .inr (.inr (.inr (.inr ⟨q2, h⟩)))
  clear h
  unfold checkN
  rcases (by omega : k = 1 ∨ k = 2 ∨ k = 3) with rfl | rfl | rfl
  · rw [if_pos rfl, if_pos (by omega)]
  · rw [if_neg (by omega), if_pos rfl, if_pos (by omega)]
  · rw [if_neg (by omega), if_neg (by omega), if_pos rfl, if_pos (by omega)]
theorem val_none (l : List UInt8) (hne : l ≠ []) (h0 : 128 ≤ (l.getD 0 0).toNat) (h : (l.getD 0 0).toNat < 194 ∨ 245 ≤ (l.getD 0 0).toNat) : validD l = false := by
  rw [validD_lead l hne h0]
  have e : firstT (l.getD 0 0).toNat = 241 := by
    unfold firstT
    repeat' split
    all_goals first | rfl | (exfalso; omega)
  rw [e]
  rfl
theorem lead_of (x : UInt8) (k lo hi : Nat) (h : (194 ≤ x.toNat ∧ x.toNat ≤ 223 ∧ k = 1 ∧ lo = 128 ∧ hi = 191) ∨ (x.toNat = 224 ∧ k = 2 ∧ lo = 160 ∧ hi = 191) ∨ (((225 ≤ x.toNat ∧ x.toNat ≤ 236) ∨ x.toNat = 238 ∨ x.toNat = 239) ∧ k = 2 ∧ lo = 128 ∧ hi = 191) ∨
    (x.toNat = 237 ∧ k = 2 ∧ lo = 128 ∧ hi = 159) ∨ (x.toNat = 240 ∧ k = 3 ∧ lo = 144 ∧ hi = 191) ∨ (241 ≤ x.toNat ∧ x.toNat ≤ 243 ∧ k = 3 ∧ lo = 128 ∧ hi = 191) ∨ (x.toNat = 244 ∧ k = 3 ∧ lo = 128 ∧ hi = 143)) : Lead x k lo hi := by
  unfold Lead firstT
  generalize x.toNat = v at *
  repeat' split
  all_goals first | (exfalso; omega) | (refine ⟨by omega, by omega, by omega, ?_, ?_⟩ <;> simp only [accLo, accHi] <;> simp <;> omega)

theorem drop_getD (l : List UInt8) (i j : Nat) : (l.drop i).getD j 0 = l.getD (i + j) 0 := by
  simp [List.getD_eq_getElem?_getD]

set_option maxHeartbeats 4000000 in
set_option maxRecDepth 100000 in
theorem valid_any (s : ByteArray) (w : World) (hs : s.size ≤ 16777216) :
    Calls Tryf.prog 13 #[.string s] w fun e w' => e = .returned (.bool (validD s.data.toList)) ∧ w' = w := by
  obtain ⟨L, hL⟩ : ∃ L, L = s.data.toList := ⟨_, rfl⟩
  have hLn : L.length = s.size := by rw [hL, Array.length_toList]; rfl
  have hget : ∀ k (h : k < s.size), s[k]'h = L.getD k 0 := fun k h => by rw [hL]; exact s_get s k h
  rw [← hL]
  have HG := aside hget
  have HL := aside hLn
  clear hget hL hLn
  obtain ⟨A, hA⟩ : ∃ A, A = validD L := ⟨_, rfl⟩
  rw [← hA]
  have HA := aside hA
  clear hA
  go_enter Tryf.func13, Tryf.ntmps13
  go_wp2
  go_loopg [3] s.size (fun g s3 wr => ∃ i : Nat, i ≤ s.size ∧ g = s.size - i ∧ s3 = .int .i64 i ∧ wr = w ∧ Aside (validD (L.drop i) = A))
  case atStart => exact ⟨0, Nat.zero_le _, by omega, rfl, rfl, aside (by rw [List.drop_zero]; exact HA.out.symm)⟩
  case round =>
    obtain ⟨i, hin, hgi, rfl, rfl, I⟩ := hrel
    by_cases hlt : i < s.size
    · have hltz : (i : Int) < (s.size : Int) := by omega
      have D := aside (drop_getD L i)
      have DL := aside (show (L.drop i).length = s.size - i by rw [List.length_drop, HL.out])
      have DN := aside (show L.drop i ≠ [] from fun h => by have := DL.out; rw [h] at this; simp at this; omega)
      obtain ⟨x, hx⟩ : ∃ x, x = L.getD i 0 := ⟨_, rfl⟩
      have D0 := aside (show (L.drop i).getD 0 0 = x by rw [D.out, hx]; rfl)
      have hsx : ∀ h : i < s.size, s[i]'h = x := fun h => by rw [HG.out i hlt, hx]
      clear hx
      have hxb := x.toNat_lt
      by_cases c0 : x.toNat < 128
      · have z0 : (x.toNat : Int) < 128 := by omega
        have HN := aside (show validD (L.drop (i + 1)) = A by
          have e : L.drop i = x :: L.drop (i + 1) := by
            rw [List.drop_eq_getElem_cons (by rw [HL.out]; exact hlt)]
            congr 1
            have := D0.out
            rw [D.out, List.getD_eq_getElem?_getD, Nat.add_zero, List.getElem?_eq_getElem (by rw [HL.out]; exact hlt)] at this
            exact this
          rw [← I.out, e, validD_cons _ _ c0])
        go_wp2
        go_roundg (gk - 1)
        case measure => omega
        case rel => exact ⟨i + 1, by omega, by omega, by go_num, rfl, HN⟩
      · have z0 : ¬ (x.toNat : Int) < 128 := by omega
        have C0 := aside (show 128 ≤ ((L.drop i).getD 0 0).toNat by rw [D0.out]; omega)
        by_cases cb : x.toNat < 194 ∨ 245 ≤ x.toNat
        · have HAF := aside (show A = false by rw [← I.out]; exact val_none _ DN.out C0.out (by rw [D0.out]; exact cb))
          rcases cb with cb | cb
          · have y0 : ¬ (194 : Int) ≤ (x.toNat : Int) := by omega
            have y1 : ¬ (225 : Int) ≤ (x.toNat : Int) := by omega
            have y2 : ¬ (241 : Int) ≤ (x.toNat : Int) := by omega
            have n0 : ((x.toNat : Int) == 224) = false := by rw [beq_eq_false_iff_ne]; omega
            have n1 : ((x.toNat : Int) == 238) = false := by rw [beq_eq_false_iff_ne]; omega
            have n2 : ((x.toNat : Int) == 239) = false := by rw [beq_eq_false_iff_ne]; omega
            have n3 : ((x.toNat : Int) == 237) = false := by rw [beq_eq_false_iff_ne]; omega
            have n4 : ((x.toNat : Int) == 240) = false := by rw [beq_eq_false_iff_ne]; omega
            have n5 : ((x.toNat : Int) == 244) = false := by rw [beq_eq_false_iff_ne]; omega
            clear c0 cb
            go_wp2
            go_ret
            exact ⟨by rw [HAF.out]; rfl, rfl⟩
          · have y0 : ¬ (x.toNat : Int) ≤ 223 := by omega
            have y1 : ¬ (x.toNat : Int) ≤ 236 := by omega
            have y2 : ¬ (x.toNat : Int) ≤ 243 := by omega
            have n0 : ((x.toNat : Int) == 224) = false := by rw [beq_eq_false_iff_ne]; omega
            have n1 : ((x.toNat : Int) == 238) = false := by rw [beq_eq_false_iff_ne]; omega
            have n2 : ((x.toNat : Int) == 239) = false := by rw [beq_eq_false_iff_ne]; omega
            have n3 : ((x.toNat : Int) == 237) = false := by rw [beq_eq_false_iff_ne]; omega
            have n4 : ((x.toNat : Int) == 240) = false := by rw [beq_eq_false_iff_ne]; omega
            have n5 : ((x.toNat : Int) == 244) = false := by rw [beq_eq_false_iff_ne]; omega
            clear c0 cb
            go_wp2
            go_ret
            exact ⟨by rw [HAF.out]; rfl, rfl⟩
        · go_upto_block 2 with fail
          go_cut [5, 6, 7] (fun s5 s6 s7 wc => ∃ k lo hi : Nat, s5 = .int .i64 k ∧ s6 = .int .u8 lo ∧ s7 = .int .u8 hi ∧ wc = wr ∧ Aside (Lead x k lo hi))
          case first =>
            have y0 : (194 : Int) ≤ (x.toNat : Int) := by omega
            by_cases c1 : x.toNat ≤ 223
            · have y1 : (x.toNat : Int) ≤ 223 := by omega
              have HLE := aside (lead_of x 1 128 191 (by omega))
              clear c0 cb
              go_wp2
              go_meet
              case rel => exact ⟨1, 128, 191, rfl, rfl, rfl, rfl, HLE⟩
            have y1 : ¬ (x.toNat : Int) ≤ 223 := by omega
            by_cases c2 : x.toNat = 224
            · have n0 : ((x.toNat : Int) == 224) = true := by rw [beq_iff_eq]; omega
              have HLE := aside (lead_of x 2 160 191 (by omega))
              clear c0 cb c2
              go_wp2
              go_meet
              case rel => exact ⟨2, 160, 191, rfl, rfl, rfl, rfl, HLE⟩
            have n0 : ((x.toNat : Int) == 224) = false := by rw [beq_eq_false_iff_ne]; omega
            have y2 : (225 : Int) ≤ (x.toNat : Int) := by omega
            by_cases c3 : x.toNat ≤ 236
            · have y3 : (x.toNat : Int) ≤ 236 := by omega
              have HLE := aside (lead_of x 2 128 191 (by omega))
              clear c0 cb c1 c2 c3
              go_wp2
              go_meet
              case rel => exact ⟨2, 128, 191, rfl, rfl, rfl, rfl, HLE⟩
            have y3 : ¬ (x.toNat : Int) ≤ 236 := by omega
            by_cases c4 : x.toNat = 238
            · have n1 : ((x.toNat : Int) == 238) = true := by rw [beq_iff_eq]; omega
              have HLE := aside (lead_of x 2 128 191 (by omega))
              clear c0 cb c1 c2 c3 c4
              go_wp2
              go_meet
              case rel => exact ⟨2, 128, 191, rfl, rfl, rfl, rfl, HLE⟩
            have n1 : ((x.toNat : Int) == 238) = false := by rw [beq_eq_false_iff_ne]; omega
            by_cases c5 : x.toNat = 239
            · have n2 : ((x.toNat : Int) == 239) = true := by rw [beq_iff_eq]; omega
              have HLE := aside (lead_of x 2 128 191 (by omega))
              clear c0 cb c1 c2 c3 c4 c5
              go_wp2
              go_meet
              case rel => exact ⟨2, 128, 191, rfl, rfl, rfl, rfl, HLE⟩
            have n2 : ((x.toNat : Int) == 239) = false := by rw [beq_eq_false_iff_ne]; omega
            by_cases c6 : x.toNat = 237
            · have n3 : ((x.toNat : Int) == 237) = true := by rw [beq_iff_eq]; omega
              have HLE := aside (lead_of x 2 128 159 (by omega))
              clear c0 cb c1 c2 c3 c4 c5 c6
              go_wp2
              go_meet
              case rel => exact ⟨2, 128, 159, rfl, rfl, rfl, rfl, HLE⟩
            have n3 : ((x.toNat : Int) == 237) = false := by rw [beq_eq_false_iff_ne]; omega
            by_cases c7 : x.toNat = 240
            · have n4 : ((x.toNat : Int) == 240) = true := by rw [beq_iff_eq]; omega
              have HLE := aside (lead_of x 3 144 191 (by omega))
              clear c0 cb c1 c2 c3 c4 c5 c6 c7
              go_wp2
              go_meet
              case rel => exact ⟨3, 144, 191, rfl, rfl, rfl, rfl, HLE⟩
            have n4 : ((x.toNat : Int) == 240) = false := by rw [beq_eq_false_iff_ne]; omega
            have y4 : (241 : Int) ≤ (x.toNat : Int) := by omega
            by_cases c8 : x.toNat ≤ 243
            · have y5 : (x.toNat : Int) ≤ 243 := by omega
              have HLE := aside (lead_of x 3 128 191 (by omega))
              clear c0 cb c1 c2 c3 c4 c5 c6 c7 c8
              go_wp2
              go_meet
              case rel => exact ⟨3, 128, 191, rfl, rfl, rfl, rfl, HLE⟩
            have y5 : ¬ (x.toNat : Int) ≤ 243 := by omega
            have n5 : ((x.toNat : Int) == 244) = true := by rw [beq_iff_eq]; omega
            have HLE := aside (lead_of x 3 128 143 (by omega))
            clear c0 cb c1 c2 c3 c4 c5 c6 c7 c8
            go_wp2
            go_meet
            case rel => exact ⟨3, 128, 143, rfl, rfl, rfl, rfl, HLE⟩
          case rest =>
            obtain ⟨k, lo, hi, rfl, rfl, rfl, rfl, HLE⟩ := hcut
            have hk1 : 1 ≤ k := HLE.out.1
            have hk3 : k ≤ 3 := HLE.out.2.1
            have HLD := aside (show Lead ((L.drop i).getD 0 0) k lo hi by rw [D0.out]; exact HLE.out)
            have BAD := aside (val_bad _ DN.out C0.out k lo hi HLD.out)
            have GOOD := aside (val_good _ DN.out C0.out k lo hi HLD.out)
            clear hsx hxb c0 z0 cb HLE HLD C0
            by_cases hsh : s.size - i ≤ k
            · have hshz : (s.size : Int) - (i : Int) ≤ (k : Int) := by omega
              have HAF := aside (show A = false by rw [← I.out]; exact BAD.out (.inl (by rw [DL.out]; exact hsh)))
              go_wp2
              go_ret
              exact ⟨by rw [HAF.out]; rfl, rfl⟩
            have hshz : ¬ (s.size : Int) - (i : Int) ≤ (k : Int) := by omega
            have hi1 : i + 1 < s.size := by omega
            have hi1z : (i : Int) + 1 < (s.size : Int) := by omega
            obtain ⟨y, hy⟩ : ∃ y, y = L.getD (i + 1) 0 := ⟨_, rfl⟩
            have D1 := aside (show (L.drop i).getD 1 0 = y by rw [D.out, hy])
            have hsy : ∀ h : i + 1 < s.size, s[i + 1]'h = y := fun h => by rw [HG.out (i + 1) hi1, hy]
            clear hy
            by_cases e1 : y.toNat < lo
            · have e1z : (y.toNat : Int) < (lo : Int) := by omega
              have HAF := aside (show A = false by rw [← I.out]; exact BAD.out (.inr (.inl (by rw [D1.out]; exact e1))))
              go_wp2
              go_ret
              exact ⟨by rw [HAF.out]; rfl, rfl⟩
            have e1z : ¬ (y.toNat : Int) < (lo : Int) := by omega
            by_cases e2 : hi < y.toNat
            · have e2z : (hi : Int) < (y.toNat : Int) := by omega
              have HAF := aside (show A = false by rw [← I.out]; exact BAD.out (.inr (.inr (.inl (by rw [D1.out]; exact e2)))))
              go_wp2
              go_ret
              exact ⟨by rw [HAF.out]; rfl, rfl⟩
            have e2z : ¬ (hi : Int) < (y.toNat : Int) := by omega
            have E1 := aside e1
            have E2 := aside e2
            clear e1 e2
            go_wp2
            clear e1z e2z hsy
            go_loopg [8] 3 (fun g s8 wr' => ∃ j : Nat, 2 ≤ j ∧ j ≤ k + 2 ∧ j ≤ 4 ∧ g + j = 5 ∧ s8 = .int .i64 j ∧ wr' = wc ∧ Aside (j ≤ k + 1 ∨ j = 2) ∧ Aside (∀ q, 2 ≤ q → q < j → 128 ≤ ((L.drop i).getD q 0).toNat ∧ ((L.drop i).getD q 0).toNat ≤ 191))
            case atStart => exact ⟨2, by omega, by omega, by omega, by omega, rfl, rfl, aside (.inr rfl), aside (fun q h1 h2 => by omega)⟩
            case round =>
              obtain ⟨j, hj2, hjk, hj4, hgj, rfl, rfl, J0, J⟩ := hrel
              by_cases hjl : j ≤ k
              · have hjz : (j : Int) ≤ (k : Int) := by omega
                have hij : i + j < s.size := by omega
                have hijz : (i : Int) + (j : Int) < (s.size : Int) := by omega
                obtain ⟨z, hz⟩ : ∃ z, z = L.getD (i + j) 0 := ⟨_, rfl⟩
                have DZ := aside (show (L.drop i).getD j 0 = z by rw [D.out, hz])
                have hsz : ∀ h : i + j < s.size, s[i + j]'h = z := fun h => by rw [HG.out (i + j) hij, hz]
                clear hz
                by_cases e1 : z.toNat < 128
                · have e1z : (z.toNat : Int) < 128 := by omega
                  have HAF := aside (show A = false by rw [← I.out]; exact BAD.out (.inr (.inr (.inr ⟨j, hj2, hjl, by rw [DZ.out]; exact .inl e1⟩))))
                  clear e1
                  go_wp2
                  go_ret
                  exact ⟨by rw [HAF.out]; rfl, rfl⟩
                have e1z : ¬ (z.toNat : Int) < 128 := by omega
                by_cases e2 : 191 < z.toNat
                · have e2z : (191 : Int) < (z.toNat : Int) := by omega
                  have HAF := aside (show A = false by rw [← I.out]; exact BAD.out (.inr (.inr (.inr ⟨j, hj2, hjl, by rw [DZ.out]; exact .inr e2⟩))))
                  clear e1 e2
                  go_wp2
                  go_ret
                  exact ⟨by rw [HAF.out]; rfl, rfl⟩
                have e2z : ¬ (191 : Int) < (z.toNat : Int) := by omega
                have J' := aside (show ∀ q, 2 ≤ q → q < j + 1 → 128 ≤ ((L.drop i).getD q 0).toNat ∧ ((L.drop i).getD q 0).toNat ≤ 191 from fun q h1 h2 => by
                  by_cases e : q = j
                  · subst e; rw [DZ.out]; omega
                  · exact J.out q h1 (by omega))
                clear e1 e2
                go_wp2
                go_roundg (gk - 1)
                case measure => omega
                case rel => exact ⟨j + 1, by omega, by omega, by omega, by omega, by go_num, rfl, aside (.inl (by omega)), J'⟩
              · have hjz : ¬ (j : Int) ≤ (k : Int) := by omega
                have HN := aside (show validD (L.drop (i + k + 1)) = A by
                  have h := GOOD.out (by rw [DL.out]; omega) (by have := E1.out; rw [D1.out]; omega) (by have := E2.out; rw [D1.out]; omega) (fun q h1 h2 => J.out q h1 (by omega))
                  rw [List.drop_drop] at h
                  rw [← I.out, h, Nat.add_assoc])
                go_wp2
                go_roundg (s.size - (i + k + 1))
                case measure => omega
                case rel => exact ⟨i + k + 1, by omega, by omega, by go_num, rfl, HN⟩
    · have hltz : ¬ (i : Int) < (s.size : Int) := by omega
      have HAT := aside (show A = true by rw [← I.out, List.drop_eq_nil_of_le (by have := HL.out; omega)]; rfl)
      go_wp2
      go_ret
      exact ⟨by rw [HAT.out]; rfl, rfl⟩

end Go.Proofs.Qxb6003874aFmt
