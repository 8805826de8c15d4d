/-
  THE WALK OF THE WORD MODEL: zzclb1AtxModel.
-/
import Derived.Test.Qxb6606271aDoorWalkA
import Derived.Test.Qxb6606271aDoorPlain2
import Derived.Deep.DeepCutAuto
import Derived.Deep.CutBlock
namespace Go.Proofs.Qxb6606271aDoor
open Go.RowKit
open Pl

theorem run_le (c : UInt8) (l : List UInt8) : run c l ≤ l.length := by
  unfold run
  exact (List.takeWhile_prefix _).length_le
theorem run_get (c : UInt8) (l : List UInt8) (j : Nat) (h : j < run c l) : l.getD j 0 = c := by
  induction l generalizing j with
  | nil => simp [run] at h
  | cons a l ih =>
    unfold run at h
    by_cases ha : a = c
    · rw [List.takeWhile_cons_of_pos (by simpa using ha), List.length_cons] at h
      cases j with
      | zero => simpa using ha
      | succ j => simpa using ih j (by unfold run; omega)
    · rw [List.takeWhile_cons_of_neg (by simpa using ha)] at h
      simp at h

/-- What the model answers. -/
def ModelAns (w : World) (bs : List UInt8) (e : Ending) : Prop :=
  (isHead bs = false ∧ e = .returned (.tuple #[.bool false, .int .i64 0, .slice none 0 0])) ∨
  (isHead bs = true ∧ ∃ p' c', e = .returned (.tuple #[.bool true, .int .i64 (lvl bs), .slice p' (body (rest bs)).length c']) ∧ BA w p' (body (rest bs)).length (body (rest bs)))

theorem ans_yes {w : World} {bs : List UInt8} {p' : Option Addr} {m c' H : Nat} (hy : isHead bs = true) (hl : lvl bs = H) (hn : (body (rest bs)).length = m) (hba : BA w p' m (body (rest bs))) : ModelAns w bs (.returned (.tuple #[.bool true, .int .i64 H, .slice p' m c'])) := by
  subst hl hn
  exact Or.inr ⟨hy, p', c', rfl, hba⟩

theorem isHead_of (bs : List UInt8) (K H : Nat) (hi : ind bs = K) (hl : lvl bs = H) : isHead bs = (decide (1 ≤ H) && decide (H ≤ 6) && (decide (bs.length ≤ K + H) || bl (bs.getD (K + H) 0))) := by
  unfold isHead rest
  rw [hi, hl]
  have e1 : (bs.drop (K + H)).isEmpty = decide (bs.length ≤ K + H) := by
    rw [Bool.eq_iff_iff, List.isEmpty_iff, List.drop_eq_nil_iff, decide_eq_true_iff]
  have e2 : (bs.drop (K + H)).headD 0 = bs.getD (K + H) 0 := by
    rw [List.headD_eq_head?_getD, List.head?_drop, List.getD_eq_getElem?_getD]
  rw [e1, e2]

theorem BA.mid {w : World} {blk o n : Nat} {bs : List UInt8} (hc : ∀ i, i < n → w.cell? ⟨blk, o + i, none⟩ = some (.int .u8 (bs.getD i 0).toNat)) (a lo hi : Nat) (ha : a ≤ lo) (_h1 : lo ≤ hi) (h2 : hi ≤ n) : BA w (some ⟨blk, o + lo, none⟩) (hi - lo) (((bs.drop a).drop (lo - a)).take (hi - lo)) := fun _ => by
  refine ⟨blk, o + lo, rfl, fun i hi' => ?_⟩
  rw [Nat.add_assoc, hc (lo + i) (by omega)]
  simp [List.getD_eq_getElem?_getD, hi', show a + (lo - a) + i = lo + i by omega]

set_option maxHeartbeats 4000000 in
set_option maxRecDepth 100000 in
theorem model_any (p : Option Addr) (n c : Nat) (bs : List UInt8) (w : World) (hb : bs.length = n) (hnc : n ≤ c) (hbig : c ≤ 1048576) (h1 : BA w p n bs) :
    Calls Tryd.prog 11 #[.slice p n c] w fun e w' => ModelAns w bs e ∧ ∃ m, w' = w.drewN m := by
  have H1 := aside h1
  clear h1
  have hKn := run_le 32 bs
  have HKs := aside (fun (k : Nat) (hk : k ≤ bs.length) (h1 : ∀ j, j < k → bs.getD j 0 = 32) (h2 : k < bs.length → bs.getD k 0 ≠ 32) => run_spec 32 bs k hk h1 h2)
  have HKg := aside (run_get 32 bs)
  rw [hb] at hKn
  obtain ⟨K, hK⟩ : ∃ K, K = run 32 bs := ⟨_, rfl⟩
  rw [← hK] at hKn HKs HKg
  have HK := aside hK
  clear hK
  by_cases hK3 : K ≤ 3
  · have hK3z : ¬ (3 : Int) < (K : Int) := by omega
    have hHn := run_le 35 (bs.drop K)
    rw [List.length_drop, hb] at hHn
    have HHs := aside (fun (k : Nat) (hk : k ≤ (bs.drop K).length) (h1 : ∀ j, j < k → (bs.drop K).getD j 0 = 35) (h2 : k < (bs.drop K).length → (bs.drop K).getD k 0 ≠ 35) => run_spec 35 (bs.drop K) k hk h1 h2)
    have HI : Aside (ind bs = K) := by
      have h := HK.out
      unfold Aside
      unfold ind
      omega
    have HL0 : Aside (lvl bs = run 35 (bs.drop K)) := by
      have h := HI.out
      unfold Aside
      unfold lvl
      rw [h]
    obtain ⟨H, hH⟩ : ∃ H, H = run 35 (bs.drop K) := ⟨_, rfl⟩
    rw [← hH] at hHn HHs HL0
    have HL : Aside (lvl bs = H) := HL0
    clear hH HL0
    have hda : ∀ j, (bs.drop K).getD j 0 = bs.getD (K + j) 0 := fun j => by simp [List.getD_eq_getElem?_getD]
    have HD := aside hda
    clear hda
    go_enter Tryd.func11, Tryd.ntmps11
    go_upto_block 0 with fail
    go_cut [5] (fun s5 wc => s5 = .int .i64 K ∧ wc = w)
    case first =>
      go_wp2
      go_loopg [5] n (fun g s5 wr => ∃ k : Nat, k ≤ n ∧ k + g = n ∧ s5 = .int .i64 k ∧ wr = w ∧ Aside (∀ j, j < k → bs.getD j 0 = 32))
      case atStart =>
        exact ⟨0, Nat.zero_le _, by omega, rfl, rfl, aside (fun j hj => by omega)⟩
      case round =>
        obtain ⟨k, hkn, hkg, rfl, rfl, I⟩ := hrel
        by_cases hlt : k < n
        · have hltz : (k : Int) < (n : Int) := by omega
          obtain ⟨blk, o, rfl, hc⟩ := H1.out (by omega)
          have hct := hc k hlt
          obtain ⟨x, hx⟩ : ∃ x, x = bs.getD k 0 := ⟨_, rfl⟩
          rw [← hx] at hct
          have HX := aside hx.symm
          clear hx hc
          by_cases h35 : x = 32
          · subst h35
            go_wp2
            go_roundg (gk - 1)
            case measure => omega
            case rel =>
              exact ⟨k + 1, by omega, by omega, by go_num, rfl, aside (fun j hj => by
                by_cases e : j = k
                · subst e; exact HX.out
                · exact I.out j (by omega))⟩
          · have hne' : ((x.toNat : Int) == 32) = false := ne_byte 32 h35
            have N35 := aside h35
            clear h35
            go_wp2
            go_meet
            case rel =>
              have : K = k := HKs.out k (by omega) I.out (fun _ => by rw [HX.out]; exact N35.out)
              exact ⟨by rw [this], rfl⟩
        · have hltz : ¬ (k : Int) < (n : Int) := by omega
          go_wp2
          go_meet
          case rel =>
            have : K = k := HKs.out k (by omega) I.out (fun h => by omega)
            exact ⟨by rw [this], rfl⟩
    case rest =>
      obtain ⟨rfl, rfl⟩ := hcut
      go_upto_block 2 with fail
      go_cut [6] (fun s6 wc' => s6 = .int .i64 H ∧ wc' = wc)
      case first =>
        go_wp2
        go_loopg [6] n (fun g s6 wr => ∃ k : Nat, K + k ≤ n ∧ k + g = n ∧ s6 = .int .i64 k ∧ wr = wc ∧ Aside (∀ j, j < k → (bs.drop K).getD j 0 = 35))
        case atStart =>
          exact ⟨0, by omega, by omega, rfl, rfl, aside (fun j hj => by omega)⟩
        case round =>
          obtain ⟨k, hkn, hkg, rfl, rfl, I⟩ := hrel
          by_cases hlt : K + k < n
          · have hltz : (K : Int) + (k : Int) < (n : Int) := by omega
            obtain ⟨blk, o, rfl, hc⟩ := H1.out (by omega)
            have hct := hc (K + k) hlt
            obtain ⟨x, hx⟩ : ∃ x, x = bs.getD (K + k) 0 := ⟨_, rfl⟩
            rw [← hx] at hct
            have HX : Aside ((bs.drop K).getD k 0 = x) := by rw [HD.out k, ← hx]; rfl
            clear hx hc
            have htn : ((K : Int) + (k : Int)).toNat = K + k := by omega
            by_cases h35 : x = 35
            · subst h35
              go_wp2
              go_roundg (gk - 1)
              case measure => omega
              case rel =>
                exact ⟨k + 1, by omega, by omega, by go_num, rfl, aside (fun j hj => by
                  by_cases e : j = k
                  · subst e; exact HX.out
                  · exact I.out j (by omega))⟩
            · have hne' : ((x.toNat : Int) == 35) = false := ne_byte 35 h35
              have N35 := aside h35
              clear h35
              go_wp2
              go_meet
              case rel =>
                have : H = k := HHs.out k (by simp; omega) I.out (fun _ => by rw [HX.out]; exact N35.out)
                exact ⟨by rw [this], rfl⟩
          · have hltz : ¬ (K : Int) + (k : Int) < (n : Int) := by omega
            go_wp2
            go_meet
            case rel =>
              have : H = k := HHs.out k (by simp; omega) I.out (fun h => by simp at h; omega)
              exact ⟨by rw [this], rfl⟩
      case rest =>
        obtain ⟨rfl, hwc⟩ := hcut
        subst hwc
        clear HKs HHs HKg
        by_cases hH : 1 ≤ H ∧ H ≤ 6
        · obtain ⟨hH1, hH6⟩ := hH
          have hz1 : ¬ (H : Int) < 1 := by omega
          have hz6 : ¬ (6 : Int) < (H : Int) := by omega
          obtain ⟨blk, o, rfl, hc⟩ := H1.out (by omega)
          have HC := aside hc
          clear hc H1
          have hkh : ((K : Int) + (H : Int)).toNat = K + H := by omega
          have hcont : Aside (isHead bs = true) ∨ (K + H < n ∧ bl (bs.getD (K + H) 0) = false) := by
            have h := isHead_of bs K H HI.out HL.out
            by_cases hA : K + H < n
            · cases hx : bl (bs.getD (K + H) 0) with
              | true => left; unfold Aside; rw [h, hx]; simp; omega
              | false => exact Or.inr ⟨hA, rfl⟩
            · left; unfold Aside; rw [h, show decide (bs.length ≤ K + H) = true by simp; omega]; simp; omega
          rcases hcont with hyes | ⟨hA, hx⟩
          · have hAn : K + H ≤ n := by omega
            go_upto_region 12 with fail
            go_cut [67] (fun s67 wc' => s67 = .bool false ∧ wc' = wc)
            case first =>
              by_cases hA : K + H < n
              · have hAz : (K : Int) + (H : Int) < (n : Int) := by omega
                have hct := HC.out (K + H) hA
                have hx : bl (bs.getD (K + H) 0) = true := by
                  have h := isHead_of bs K H HI.out HL.out
                  rw [hyes.out, show decide (bs.length ≤ K + H) = false by simp; omega] at h
                  simp at h
                  simpa [List.getD_eq_getElem?_getD] using h.2
                generalize bs.getD (K + H) 0 = x at hct hx
                have HX := aside hx
                clear hx
                go_wp2_with (go_at_call 16; refine (blank_yes x _ HX.out).mono ?_; rintro e w' ⟨rfl, hw⟩; rw [hw])
                go_meet
                case rel => exact ⟨rfl, rfl⟩
              · have hAz : ¬ (K : Int) + (H : Int) < (n : Int) := by omega
                go_wp2
                go_meet
                case rel => exact ⟨rfl, rfl⟩
            case rest =>
              obtain ⟨rfl, hwc⟩ := hcut
              subst hwc
              have HR : Aside (rest bs = bs.drop (K + H)) := by
                unfold Aside rest
                rw [HI.out, HL.out]
              have HTl : Aside ((bs.drop (K + H)).length = n - (K + H)) := by
                unfold Aside
                rw [List.length_drop, hb]
              have HTg : Aside (∀ j, K + H ≤ j → (bs.drop (K + H)).getD (j - (K + H)) 0 = bs.getD j 0) := fun j hj => by
                simp [List.getD_eq_getElem?_getD, show K + H + (j - (K + H)) = j by omega]
              go_wp2
              go_loopg [8, 9, 10, 11, 12] (n - (K + H)) (fun g s8 s9 s10 s11 s12 wr => ∃ (i : Nat) (f pe le : Int) (ah : Bool), K + H ≤ i ∧ i ≤ n ∧ i + g = n ∧ s8 = .int .i64 f ∧ s9 = .int .i64 pe ∧ s10 = .int .i64 le ∧ s11 = .bool ah ∧ s12 = .int .i64 i ∧ wr = wc ∧ Aside (Inv (bs.drop (K + H)) (K + H) (i - (K + H)) f pe le ah))
              case atStart => exact ⟨K + H, -1, -1, -1, false, Nat.le_refl _, by omega, by omega, rfl, rfl, rfl, rfl, by first | rfl | simp, rfl, aside (by rw [Nat.sub_self]; exact Inv.start _ _)⟩
              case round =>
                obtain ⟨i, f, pe, le, ah, hi1, hi2, hig, rfl, rfl, rfl, rfl, rfl, rfl, I⟩ := hrel
                have hInv := I.out
                by_cases hlt : i < n
                · have hltz : (i : Int) < (n : Int) := by omega
                  have hct := HC.out i hlt
                  have HG := aside (HTg.out i hi1)
                  obtain ⟨x, hx⟩ : ∃ x, x = bs.getD i 0 := ⟨_, rfl⟩
                  rw [← hx] at hct HG
                  have HX := aside hx.symm
                  clear hx hInv
                  cases hbx : bl x with
                  | true =>
                    have HB := aside hbx
                    clear hbx
                    go_wp2_with (go_at_call 16; refine (blank_yes x _ HB.out).mono ?_; rintro e w' ⟨rfl, hw⟩; rw [hw])
                    go_roundg (gk - 1)
                    case measure => omega
                    case rel =>
                      refine ⟨i + 1, f, pe, le, ah, by omega, by omega, by omega, rfl, rfl, rfl, rfl, by go_num, rfl, aside ?_⟩
                      rw [show i + 1 - (K + H) = i - (K + H) + 1 by omega]
                      exact I.out.blank (by rw [HTl.out]; omega) (by rw [HG.out]; exact HB.out)
                  | false =>
                    have HB := aside hbx
                    clear hbx
                    go_upto_block 6 with (go_at_call 16; refine (blank_no x _ HB.out).mono ?_; rintro e w' ⟨rfl, hw⟩; rw [hw])
                    go_cut [12, 14] (fun s12 s14 wc' => ∃ (j : Nat) (b : Bool), i < j ∧ j ≤ n ∧ s12 = .int .i64 j ∧ s14 = .bool b ∧ wc' = wr ∧ Aside (∀ q, i ≤ q → q < j → bl (bs.getD q 0) = false) ∧ Aside (j = n ∨ bl (bs.getD j 0) = true) ∧ Aside (b = true ↔ ∀ q, i ≤ q → q < j → bs.getD q 0 = 35))
                    case first =>
                      clear hct
                      go_wp2
                      go_loopg [12, 14] (n - i) (fun g s12 s14 wr' => ∃ (j : Nat) (b : Bool), i ≤ j ∧ j ≤ n ∧ j + g = n ∧ s12 = .int .i64 j ∧ s14 = .bool b ∧ wr' = wr ∧ Aside (∀ q, i ≤ q → q < j → bl (bs.getD q 0) = false) ∧ Aside (b = true ↔ ∀ q, i ≤ q → q < j → bs.getD q 0 = 35))
                      case atStart => exact ⟨i, true, Nat.le_refl _, by omega, by omega, rfl, rfl, rfl, aside (fun q h1 h2 => by omega), aside ⟨fun _ q h1 h2 => by omega, fun _ => rfl⟩⟩
                      case round =>
                        obtain ⟨j, b, hj1, hj2, hjg, rfl, rfl, hwr, J1, J2⟩ := hrel
                        subst hwr
                        by_cases hjlt : j < n
                        · have hjz : (j : Int) < (n : Int) := by omega
                          have hcj := HC.out j hjlt
                          obtain ⟨y, hy⟩ : ∃ y, y = bs.getD j 0 := ⟨_, rfl⟩
                          rw [← hy] at hcj
                          have HY := aside hy.symm
                          clear hy
                          cases hby : bl y with
                          | true =>
                            have HBy := aside hby
                            clear hby
                            have hij : i < j := by
                              rcases Nat.lt_or_ge i j with h | h
                              · exact h
                              · exfalso
                                have e : i = j := by omega
                                have h2 := HBy.out
                                rw [← HY.out, ← e, HX.out, HB.out] at h2
                                cases h2
                            go_wp2_with (go_at_call 16; refine (blank_yes y _ HBy.out).mono ?_; rintro e w' ⟨rfl, hw⟩; rw [hw])
                            go_meet
                            case rel => exact ⟨j, b, hij, by omega, rfl, rfl, rfl, J1, aside (Or.inr (by rw [HY.out]; exact HBy.out)), J2⟩
                          | false =>
                            have HBy := aside hby
                            clear hby
                            have J1' := aside (show ∀ q, i ≤ q → q < j + 1 → bl (bs.getD q 0) = false from fun q h1 h2 => by
                              by_cases e : q = j
                              · subst e; rw [HY.out]; exact HBy.out
                              · exact J1.out q h1 (by omega))
                            by_cases hy35 : y = 35
                            · have J2' := aside (show b = true ↔ ∀ q, i ≤ q → q < j + 1 → bs.getD q 0 = 35 from ⟨fun hb q h1 h2 => by
                                by_cases e : q = j
                                · subst e; rw [HY.out]; exact hy35
                                · exact J2.out.1 hb q h1 (by omega), fun h => J2.out.2 (fun q h1 h2 => h q h1 (by omega))⟩)
                              have hc35 := hcj
                              rw [hy35] at hc35
                              have HB35 : Aside (bl 35 = false) := by unfold Aside; decide
                              clear hcj
                              subst hy35
                              go_wp2_with (go_at_call 16; refine (blank_no 35 _ HB35.out).mono ?_; rintro e w' ⟨rfl, hw⟩; rw [hw])
                              go_roundg (gk - 1)
                              case measure => omega
                              case rel => exact ⟨j + 1, b, by omega, by omega, by omega, by go_num, rfl, rfl, J1', J2'⟩
                            · have J2' := aside (show false = true ↔ ∀ q, i ≤ q → q < j + 1 → bs.getD q 0 = 35 from ⟨fun h => (by cases h), fun h => (hy35 (by rw [← HY.out]; exact h j (by omega) (by omega))).elim⟩)
                              have hne : ((y.toNat : Int) == 35) = false := ne_byte 35 hy35
                              have hne2 : ((y.toNat : Int) != 35) = true := by rw [bne, hne]; rfl
                              clear hy35
                              go_wp2_with (go_at_call 16; refine (blank_no y _ HBy.out).mono ?_; rintro e w' ⟨rfl, hw⟩; rw [hw])
                              go_roundg (gk - 1)
                              case measure => omega
                              case rel => exact ⟨j + 1, false, by omega, by omega, by omega, by go_num, rfl, rfl, J1', J2'⟩
                        · have hjz : ¬ (j : Int) < (n : Int) := by omega
                          go_wp2
                          go_meet
                          case rel => exact ⟨j, b, by omega, by omega, rfl, rfl, rfl, J1, aside (Or.inl (by omega)), J2⟩
                    case rest =>
                      obtain ⟨j, b, hj1, hj2, rfl, rfl, hwr, J1, J2, J3⟩ := hcut
                      subst hwr
                      have II := I.out.word (j - (K + H)) (by omega) (by rw [HTl.out]; omega) (fun q h1 h2 => by
                          have := HTg.out (K + H + q) (by omega)
                          rw [show K + H + q - (K + H) = q by omega] at this
                          rw [this]; exact J1.out _ (by omega) (by omega)) (by
                          rcases J2.out with h | h
                          · left; rw [HTl.out]; omega
                          · right; rw [HTg.out j (by omega)]; exact h) b (J3.out.trans ⟨fun h q h1 h2 => by
                          have := HTg.out (K + H + q) (by omega)
                          rw [show K + H + q - (K + H) = q by omega] at this
                          rw [this]; exact h _ (by omega) (by omega), fun h q h1 h2 => by
                          rw [← HTg.out q (by omega)]; exact h _ (by omega) (by omega)⟩)
                      rw [show ((K + H : Nat) : Int) + ((i - (K + H) : Nat) : Int) = i by omega, show ((K + H : Nat) : Int) + ((j - (K + H) : Nat) : Int) = j by omega] at II
                      by_cases hf : f < 0
                      · rw [if_pos hf] at II
                        have II' := aside II
                        clear II I
                        go_wp2
                        go_roundg (n - j)
                        case measure => omega
                        case rel => exact ⟨j, i, le, j, b, by omega, by omega, by omega, rfl, rfl, rfl, rfl, rfl, rfl, II'⟩
                      · rw [if_neg hf] at II
                        have II' := aside II
                        clear II I
                        go_wp2
                        go_roundg (n - j)
                        case measure => omega
                        case rel => exact ⟨j, f, le, j, b, by omega, by omega, by omega, rfl, rfl, rfl, rfl, rfl, rfl, II'⟩
                · have hltz : ¬ (i : Int) < (n : Int) := by omega
                  have hm : i - (K + H) = (bs.drop (K + H)).length := by rw [HTl.out]; omega
                  rw [hm] at hInv
                  have hD := hInv.done
                  rw [← HR.out] at hD
                  have HLv := HL.out
                  have HRl : (rest bs).length = n - (K + H) := by rw [HR.out]; exact HTl.out
                  rw [HRl] at hD
                  clear hInv I
                  rcases hD with ⟨hf, hbd⟩ | ⟨hf1, hf2, hf3, ⟨rfl, hbd⟩ | ⟨rfl, hpe, hbd⟩ | ⟨rfl, hp1, hp2, hbd⟩⟩
                  · have HBd := aside hbd
                    have HLv := aside HLv
                    clear hbd
                    go_wp2
                    go_ret3
                    refine ⟨Or.inr ⟨hyes.out, none, 0, ?_, ?_⟩, 0, rfl⟩
                    · rw [HLv.out, HBd.out]; rfl
                    · rw [HBd.out]; exact fun h => by simp at h
                  · obtain ⟨fN, rfl⟩ := Int.eq_ofNat_of_zero_le (show 0 ≤ f by omega)
                    obtain ⟨lN, rfl⟩ := Int.eq_ofNat_of_zero_le (show 0 ≤ le by omega)
                    have HT : Aside (body (rest bs) = ((bs.drop (K + H)).drop (fN - (K + H))).take (lN - fN)) := by
                      unfold Aside
                      rw [hbd, HR.out, show ((lN : Int) - (fN : Int)).toNat = lN - fN by omega, show ((fN : Int) - ((K + H : Nat) : Int)).toNat = fN - (K + H) by omega]
                    have HTn : Aside ((body (rest bs)).length = lN - fN) := by
                      unfold Aside
                      rw [HT.out, List.length_take, List.length_drop, List.length_drop, hb]
                      omega
                    have HLv := aside HLv
                    clear hbd
                    have hlc : (lN : Int) ≤ (c : Int) := by omega
                    by_cases hcf : c = fN
                    · have HBA : Aside (BA wr (some ⟨blk, o, none⟩) (lN - fN) (body (rest bs))) := fun h => absurd h (by omega)
                      subst hcf
                      go_wp2
                      go_quiet (fail)
                      go_wp2
                      go_ret3
                      exact ⟨ans_yes (p' := some ⟨blk, o, none⟩) (c' := 0) hyes.out HLv.out HTn.out HBA.out, _, rfl⟩
                    · have HBA : Aside (BA wr (some ⟨blk, o + fN, none⟩) (lN - fN) (body (rest bs))) := by
                        unfold Aside
                        rw [HT.out]
                        exact BA.mid HC.out _ _ _ (by omega) (by omega) (by omega)
                      go_wp2
                      go_quiet (fail)
                      go_wp2
                      go_ret3
                      exact ⟨ans_yes (p' := some ⟨blk, o + fN, none⟩) (c' := c - fN) hyes.out HLv.out HTn.out HBA.out, _, rfl⟩
                  · have HBd := aside hbd
                    have HLv := aside HLv
                    clear hbd
                    go_wp2
                    go_ret3
                    refine ⟨Or.inr ⟨hyes.out, none, 0, ?_, ?_⟩, 0, rfl⟩
                    · rw [HLv.out, HBd.out]; rfl
                    · rw [HBd.out]; exact fun h => by simp at h
                  · obtain ⟨fN, rfl⟩ := Int.eq_ofNat_of_zero_le (show 0 ≤ f by omega)
                    obtain ⟨pN, rfl⟩ := Int.eq_ofNat_of_zero_le (show 0 ≤ pe by omega)
                    have HT : Aside (body (rest bs) = ((bs.drop (K + H)).drop (fN - (K + H))).take (pN - fN)) := by
                      unfold Aside
                      rw [hbd, HR.out, show ((pN : Int) - (fN : Int)).toNat = pN - fN by omega, show ((fN : Int) - ((K + H : Nat) : Int)).toNat = fN - (K + H) by omega]
                    have HTn : Aside ((body (rest bs)).length = pN - fN) := by
                      unfold Aside
                      rw [HT.out, List.length_take, List.length_drop, List.length_drop, hb]
                      omega
                    have HLv := aside HLv
                    clear hbd
                    have hlc : (pN : Int) ≤ (c : Int) := by omega
                    by_cases hcf : c = fN
                    · have HBA : Aside (BA wr (some ⟨blk, o, none⟩) (pN - fN) (body (rest bs))) := fun h => absurd h (by omega)
                      subst hcf
                      go_wp2
                      go_quiet (fail)
                      go_wp2
                      go_ret3
                      exact ⟨ans_yes (p' := some ⟨blk, o, none⟩) (c' := 0) hyes.out HLv.out HTn.out HBA.out, _, rfl⟩
                    · have HBA : Aside (BA wr (some ⟨blk, o + fN, none⟩) (pN - fN) (body (rest bs))) := by
                        unfold Aside
                        rw [HT.out]
                        exact BA.mid HC.out _ _ _ (by omega) (by omega) (by omega)
                      go_wp2
                      go_quiet (fail)
                      go_wp2
                      go_ret3
                      exact ⟨ans_yes (p' := some ⟨blk, o + fN, none⟩) (c' := c - fN) hyes.out HLv.out HTn.out HBA.out, _, rfl⟩
          · have hAz : (K : Int) + (H : Int) < (n : Int) := by omega
            have hct := HC.out (K + H) hA
            have hno : Aside (isHead bs = false) := by
              unfold Aside
              rw [isHead_of bs K H HI.out HL.out, hx, show decide (bs.length ≤ K + H) = false by simp; omega]
              simp
            generalize bs.getD (K + H) 0 = x at hct hx
            have HX := aside hx
            clear hx
            go_wp2_with (go_at_call 16; refine (blank_no x _ HX.out).mono ?_; rintro e w' ⟨rfl, hw⟩; rw [hw])
            go_ret3
            exact ⟨Or.inl ⟨hno.out, rfl⟩, 0, rfl⟩
        · have hno : Aside (isHead bs = false) := by
            unfold Aside
            rw [isHead_of bs K H HI.out HL.out]
            simp
            omega
          by_cases hH0 : H < 1
          · have hz1 : (H : Int) < 1 := by omega
            go_wp2
            go_ret3
            exact ⟨Or.inl ⟨hno.out, rfl⟩, 0, rfl⟩
          · have hz1 : ¬ (H : Int) < 1 := by omega
            have hz6 : (6 : Int) < (H : Int) := by omega
            go_wp2
            go_ret3
            exact ⟨Or.inl ⟨hno.out, rfl⟩, 0, rfl⟩
  · go_enter Tryd.func11, Tryd.ntmps11
    go_upto_block 0 with fail
    go_cut [5] (fun s5 wc => s5 = .int .i64 K ∧ wc = w)
    case first =>
      go_wp2
      go_loopg [5] n (fun g s5 wr => ∃ k : Nat, k ≤ n ∧ k + g = n ∧ s5 = .int .i64 k ∧ wr = w ∧ Aside (∀ j, j < k → bs.getD j 0 = 32))
      case atStart =>
        exact ⟨0, Nat.zero_le _, by omega, rfl, rfl, aside (fun j hj => by omega)⟩
      case round =>
        obtain ⟨k, hkn, hkg, rfl, rfl, I⟩ := hrel
        by_cases hlt : k < n
        · have hltz : (k : Int) < (n : Int) := by omega
          obtain ⟨blk, o, rfl, hc⟩ := H1.out (by omega)
          have hct := hc k hlt
          obtain ⟨x, hx⟩ : ∃ x, x = bs.getD k 0 := ⟨_, rfl⟩
          rw [← hx] at hct
          have HX := aside hx.symm
          clear hx hc
          by_cases h35 : x = 32
          · subst h35
            go_wp2
            go_roundg (gk - 1)
            case measure => omega
            case rel =>
              exact ⟨k + 1, by omega, by omega, by go_num, rfl, aside (fun j hj => by
                by_cases e : j = k
                · subst e; exact HX.out
                · exact I.out j (by omega))⟩
          · have hne' : ((x.toNat : Int) == 32) = false := ne_byte 32 h35
            have N35 := aside h35
            clear h35
            go_wp2
            go_meet
            case rel =>
              have : K = k := HKs.out k (by omega) I.out (fun _ => by rw [HX.out]; exact N35.out)
              exact ⟨by rw [this], rfl⟩
        · have hltz : ¬ (k : Int) < (n : Int) := by omega
          go_wp2
          go_meet
          case rel =>
            have : K = k := HKs.out k (by omega) I.out (fun h => by omega)
            exact ⟨by rw [this], rfl⟩
    case rest =>
      obtain ⟨rfl, rfl⟩ := hcut
      have hk3 : (3 : Int) < (K : Int) := by omega
      go_wp2
      go_ret3
      exact ⟨Or.inl ⟨not_head_of_spaces bs K (by omega) HKg.out (by omega), rfl⟩, 0, rfl⟩

end Go.Proofs.Qxb6606271aDoor
