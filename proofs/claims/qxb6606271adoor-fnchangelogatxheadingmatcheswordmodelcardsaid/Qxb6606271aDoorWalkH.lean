/-
  THE WALK OF atxHeading.
-/
import Derived.Test.Qxb6606271aDoorWalkM
import Derived.Test.Qxb6606271aDoorShelf
namespace Go.Proofs.Qxb6606271aDoor
open Go.RowKit
open Pl

theorem bcell {W w1 : World} (hb : Below W.heap.size W w1) : (∀ b o, b < W.heap.size → w1.cell? ⟨b, o, none⟩ = W.cell? ⟨b, o, none⟩) ∧ (∀ b o, b < W.heap.size → w1.frozen? ⟨b, o, none⟩ = W.frozen? ⟨b, o, none⟩) :=
  ⟨fun b o h => hb.cell (p := ⟨b, o, none⟩) h, fun b o h => hb.frozen (p := ⟨b, o, none⟩) h⟩

/-- What atxHeading answers. -/
def HeadAns (w' : World) (bs : List UInt8) (e : Ending) : Prop :=
  (isHead bs = false ∧ e = .returned (.tuple #[.agg #[.int .i64 0, .int .u8 0, .bool false, .slice none 0 0, .int .i64 0, .int .i64 0, .int .i64 0], .bool false])) ∨
  (isHead bs = true ∧ ∃ p' c', e = .returned (.tuple #[.agg #[.int .i64 (lvl bs), .int .u8 0, .bool false, .slice p' (body (rest bs)).length c', .int .i64 0, .int .i64 0, .int .i64 0], .bool true]) ∧ BA w' p' (body (rest bs)).length (body (rest bs)))

/-- The indentation. -/
theorem ind_of (bs : List UInt8) (k : Nat) (hk : k ≤ bs.length) (h3 : k ≤ 3) (h1 : ∀ j, j < k → bs.getD j 0 = 32) (h2 : k < 3 → k < bs.length → bs.getD k 0 ≠ 32) : ind bs = k := by
  unfold ind
  by_cases h : k < 3
  · rw [run_spec 32 bs k hk h1 (h2 h)]
    omega
  · have : 3 ≤ run 32 bs := by
      rcases Nat.lt_or_ge (run 32 bs) 3 with hr | hr
      · exfalso
        have hrl := run_le 32 bs
        have : run 32 bs < bs.length := by omega
        have key : ∀ (m : Nat) (l : List UInt8), m ≤ l.length → (∀ j, j < m → l.getD j 0 = 32) → m ≤ run 32 l := by
          intro m
          induction m with
          | zero => intros; omega
          | succ m ih =>
            intro l hl hh
            cases l with
            | nil => simp at hl
            | cons a l =>
              have ha : a = 32 := by simpa using hh 0 (by omega)
              unfold run
              rw [List.takeWhile_cons_of_pos (by simpa using ha), List.length_cons]
              have := ih l (by simpa using hl) (fun j hj => by simpa using hh (j + 1) (by omega))
              unfold run at this
              omega
        have := key k bs hk h1
        omega
      · exact hr
    omega
theorem ind_le (bs : List UInt8) : ind bs ≤ bs.length := by
  have := run_le 32 bs
  unfold ind
  omega

theorem runLength_empty (p : Option Addr) (c : Nat) (w : World) : Calls Tryd.prog 22 #[.slice p 0 c, .int .u8 35] w fun e w' => e = .returned (.int .i64 0) ∧ w' = w :=
  runLength_hash p 0 c [] w rfl (by omega) (fun h => absurd h (by omega))

theorem cells7 {w wz : World} (h : Below (w.heap.size + 1) (w.alloc (.cells #[.int .i64 0, .int .u8 0, .bool false, .slice none 0 0, .int .i64 0, .int .i64 0, .int .i64 0] 33)) wz) :
    wz.cell? ⟨w.heap.size, 0, none⟩ = some (.int .i64 0) ∧ wz.cell? ⟨w.heap.size, 1, none⟩ = some (.int .u8 0) ∧ wz.cell? ⟨w.heap.size, 2, none⟩ = some (.bool false) ∧ wz.cell? ⟨w.heap.size, 3, none⟩ = some (.slice none 0 0) ∧
    wz.cell? ⟨w.heap.size, 4, none⟩ = some (.int .i64 0) ∧ wz.cell? ⟨w.heap.size, 5, none⟩ = some (.int .i64 0) ∧ wz.cell? ⟨w.heap.size, 6, none⟩ = some (.int .i64 0) ∧ ∀ j, wz.frozen? ⟨w.heap.size, j, none⟩ = false := by
  have hc : ∀ j, wz.cell? ⟨w.heap.size, j, none⟩ = (#[.int .i64 0, .int .u8 0, .bool false, .slice none 0 0, .int .i64 0, .int .i64 0, .int .i64 0] : Array Value)[j]? := fun j => by
    rw [h.cell (p := ⟨w.heap.size, j, none⟩) (by simp), World.cell?_alloc_at _ _ _ _ rfl]
  refine ⟨hc 0, hc 1, hc 2, hc 3, hc 4, hc 5, hc 6, fun j => ?_⟩
  rw [h.frozen (p := ⟨w.heap.size, j, none⟩) (by simp), World.frozen?_alloc_at _ _ _ _ rfl]

/-- The result's seven stores turn nothing that lay below. -/
theorem stores7 {w wz : World} (h : Below w.heap.size w wz) (v0 v1 v2 v3 v4 v5 v6 : Value) :
    Below w.heap.size w (((((((wz.setCell ⟨w.heap.size, 0, none⟩ v0).setCell ⟨w.heap.size, 1, none⟩ v1).setCell ⟨w.heap.size, 2, none⟩ v2).setCell ⟨w.heap.size, 3, none⟩ v3).setCell ⟨w.heap.size, 4, none⟩ v4).setCell ⟨w.heap.size, 5, none⟩ v5).setCell ⟨w.heap.size, 6, none⟩ v6) :=
  ((((((h.setCell (Nat.le_refl _) _).setCell (Nat.le_refl _) _).setCell (Nat.le_refl _) _).setCell (Nat.le_refl _) _).setCell (Nat.le_refl _) _).setCell (Nat.le_refl _) _).setCell (Nat.le_refl _) _

theorem head_yes {w' : World} {bs F : List UInt8} {p' : Option Addr} {c' L : Nat} (hy : isHead bs = true) (hl : lvl bs = L) (hn : body (rest bs) = F) (hba : BA w' p' F.length F) :
    HeadAns w' bs (.returned (.tuple #[.agg #[.int .i64 L, .int .u8 0, .bool false, .slice p' F.length c', .int .i64 0, .int .i64 0, .int .i64 0], .bool true])) := by
  subst hl hn
  exact Or.inr ⟨hy, p', c', rfl, hba⟩

set_option maxHeartbeats 4000000 in
set_option maxRecDepth 100000 in
theorem heading_any (p : Option Addr) (n : Nat) (bs : List UInt8) (w : World) (hb : bs.length = n) (hbig : n ≤ 1048576) (h1 : BA w p n bs) :
    Calls Tryd.prog 15 #[.slice p n n] w fun e w' => HeadAns w' bs e ∧ Below w.heap.size w w' := by
  have H1 := aside h1
  clear h1
  obtain ⟨I, hI⟩ : ∃ I, I = ind bs := ⟨_, rfl⟩
  have hIn : I ≤ n := by rw [hI, ← hb]; exact ind_le bs
  have hI3 : I ≤ 3 := by rw [hI]; unfold ind; omega
  have HI := aside hI.symm
  clear hI
  obtain ⟨L, hL⟩ : ∃ L, L = run 35 (bs.drop I) := ⟨_, rfl⟩
  have hLn : L ≤ n - I := by rw [hL, ← hb, ← List.length_drop]; exact run_le _ _
  have HLr := aside hL.symm
  have HL : Aside (lvl bs = L) := by
    unfold Aside lvl
    rw [HI.out, hL]
  clear hL
  go_enter Tryd.func15, Tryd.ntmps15
  go_upto_block 0 with fail
  go_cut [4] (fun s4 wc => s4 = .int .i64 I ∧ wc = w.alloc (.cells #[.int .i64 0, .int .u8 0, .bool false, .slice none 0 0, .int .i64 0, .int .i64 0, .int .i64 0] 33))
  case first =>
    go_wp2
    go_loopg [4] 3 (fun g s4 wr => ∃ k : Nat, k ≤ n ∧ k + g = 3 ∧ s4 = .int .i64 k ∧ wr = w.alloc (.cells #[.int .i64 0, .int .u8 0, .bool false, .slice none 0 0, .int .i64 0, .int .i64 0, .int .i64 0] 33) ∧ Aside (∀ j, j < k → bs.getD j 0 = 32))
    case atStart => exact ⟨0, Nat.zero_le _, by omega, rfl, rfl, aside (fun j hj => by omega)⟩
    case round =>
      obtain ⟨k, hkn, hkg, rfl, rfl, J⟩ := hrel
      by_cases hk3 : k < 3
      · have hk3z : (k : Int) < 3 := by omega
        by_cases hlt : k < n
        · have hltz : (k : Int) < (n : Int) := by omega
          obtain ⟨blk, o, rfl, hc⟩ := H1.out (by omega)
          have hct := hc k hlt
          have hbl : blk < w.heap.size := World.block_lt_of_cell? _ _ hct
          obtain ⟨x, hx⟩ : ∃ x, x = bs.getD k 0 := ⟨_, rfl⟩
          rw [← hx] at hct
          have HX := aside hx.symm
          clear hx hc
          by_cases h35 : x = 32
          · subst h35
            go_wp2
            go_roundg (gk - 1)
            case measure => omega
            case rel =>
              exact ⟨k + 1, by omega, by omega, by go_num, rfl, aside (fun j hj => by
                by_cases e : j = k
                · subst e; exact HX.out
                · exact J.out j (by omega))⟩
          · have hne' : ((x.toNat : Int) == 32) = false := ne_byte 32 h35
            have N35 := aside h35
            clear h35
            go_wp2
            go_meet
            case rel =>
              have : I = k := HI.out.symm.trans (ind_of bs k (by omega) (by omega) J.out (fun _ _ => by rw [HX.out]; exact N35.out))
              exact ⟨by rw [this], rfl⟩
        · have hltz : ¬ (k : Int) < (n : Int) := by omega
          go_wp2
          go_meet
          case rel =>
            have : I = k := HI.out.symm.trans (ind_of bs k (by omega) (by omega) J.out (fun _ h => by omega))
            exact ⟨by rw [this], rfl⟩
      · have hk3z : ¬ (k : Int) < 3 := by omega
        go_wp2
        go_meet
        case rel =>
          have : I = k := HI.out.symm.trans (ind_of bs k (by omega) (by omega) J.out (fun h => by omega))
          exact ⟨by rw [this], rfl⟩
  case rest =>
    obtain ⟨rfl, rfl⟩ := hcut
    by_cases hIe : I = n
    · subst hIe
      have hL0 : L = 0 := by omega
      have hno : Aside (isHead bs = false) := by
        unfold Aside isHead
        rw [HL.out, hL0]
        rfl
      go_wp2_with (go_at_call 22; refine (runLength_empty _ _ _).mono ?_; rintro e w' ⟨rfl, hw⟩; rw [hw])
      refine bodyPost_ret (v := .tuple #[.agg #[.int .i64 0, .int .u8 0, .bool false, .slice none 0 0, .int .i64 0, .int .i64 0, .int .i64 0], .bool false]) (by simp [results, Tryd.results15, go_sem]) rfl ⟨Or.inl ⟨hno.out, rfl⟩, ?_⟩
      exact (Below.refl _ _).alloc (Nat.le_refl _) _
    · have hIlt : I < n := by omega
      have hneI : ¬ n = I := by omega
      obtain ⟨blk, o, rfl, hc0⟩ := H1.out (by omega)
      have hbl : blk < w.heap.size := World.block_lt_of_cell? _ _ (hc0 0 (by omega))
      clear hc0
      have HBA0 := H1
      have HBA1 := aside (H1.out.below ((Below.refl _ w).alloc (Nat.le_refl _) (.cells #[.int .i64 0, .int .u8 0, .bool false, .slice none 0 0, .int .i64 0, .int .i64 0, .int .i64 0] 33)))
      have HC : Aside (∀ i, i < n → (w.alloc (.cells #[.int .i64 0, .int .u8 0, .bool false, .slice none 0 0, .int .i64 0, .int .i64 0, .int .i64 0] 33)).cell? ⟨blk, o + i, none⟩ = some (.int .u8 (bs.getD i 0).toNat)) := by
        obtain ⟨b', o', e', hc⟩ := HBA1.out (by omega)
        cases e'
        exact hc
      clear H1
      have hp1 : BA (w.alloc (.cells #[.int .i64 0, .int .u8 0, .bool false, .slice none 0 0, .int .i64 0, .int .i64 0, .int .i64 0] 33)) (some ⟨blk, o + I, none⟩) (n - I) (bs.drop I) := fun _ => ⟨blk, o + I, rfl, fun i hi => by
        rw [Nat.add_assoc, HC.out (I + i) (by omega)]
        simp [List.getD_eq_getElem?_getD]⟩
      have cR := runLength_hash (some ⟨blk, o + I, none⟩) (n - I) (n - I) (bs.drop I) (w.alloc (.cells #[.int .i64 0, .int .u8 0, .bool false, .slice none 0 0, .int .i64 0, .int .i64 0, .int .i64 0] 33)) (by rw [List.length_drop, hb]) (by omega) hp1
      rw [HLr.out] at cR
      have CR := aside cR
      clear cR hp1
      by_cases hL : 1 ≤ L ∧ L ≤ 6
      · obtain ⟨hL1, hL6⟩ := hL
        have hz0 : ((L : Int) == 0) = false := by rw [beq_eq_false_iff_ne]; omega
        have hz6 : ¬ (6 : Int) < (L : Int) := by omega
        obtain ⟨M, hM⟩ : ∃ M, M = n - I - L := ⟨_, rfl⟩
        have hMn : M ≤ n := by omega
        have HM := aside hM
        have HT : Aside ((rest bs).length = M) := by
          unfold Aside rest
          rw [HI.out, HL.out, List.length_drop, hb]
          omega
        clear hM
        go_upto_region 8 with (go_at_call 22; refine CR.out.mono ?_; rintro e w' ⟨rfl, hw⟩; rw [hw])
        go_cut [6] (fun s6 wc => ∃ p2 c2, s6 = .slice p2 M c2 ∧ M ≤ c2 ∧ c2 ≤ 1048576 ∧ wc = (w.alloc (.cells #[.int .i64 0, .int .u8 0, .bool false, .slice none 0 0, .int .i64 0, .int .i64 0, .int .i64 0] 33)) ∧ Aside (∀ w2, BA w2 (some ⟨blk, o, none⟩) n bs → BA w2 p2 M (rest bs)))
        case first =>
          by_cases hm : n - I = L
          · go_wp2
            go_meet
            case rel => exact ⟨some ⟨blk, o + I, none⟩, 0, by rw [HM.out, hm, Nat.sub_self], by rw [HM.out]; omega, by omega, rfl, aside (fun w2 _ h => by rw [HM.out] at h; omega)⟩
          · have hm' : L < n - I := by omega
            go_wp2
            go_meet
            case rel =>
              refine ⟨some ⟨blk, o + I + L, none⟩, n - I - L, by rw [HM.out], by rw [HM.out]; omega, by omega, rfl, aside (fun w2 h2 h => ⟨blk, o + I + L, rfl, fun i hi => ?_⟩)⟩
              obtain ⟨b', o', e', hc'⟩ := h2 (by omega)
              cases e'
              rw [show o + I + L + i = o + (I + L + i) by omega, hc' (I + L + i) (by have := HM.out; omega)]
              unfold rest
              rw [HI.out, HL.out]
              simp [List.getD_eq_getElem?_getD]
        case rest =>
          obtain ⟨p2, c2, rfl, hc21, hc22, rfl, HB2a⟩ := hcut
          have HB2 := aside (HB2a.out _ HBA1.out)
          clear CR
          cases hyes : isHead bs with
          | false =>
            have hno := aside hyes
            have hh := isHead_of bs I L HI.out HL.out
            rw [hyes] at hh
            have hh2 : I + L < n ∧ bl (bs.getD (I + L) 0) = false := by
              have := hh.symm
              simp only [Bool.and_eq_false_iff, Bool.or_eq_false_iff, decide_eq_false_iff_not] at this
              rcases this with (h | h) | ⟨h, h'⟩
              · omega
              · omega
              · exact ⟨by omega, h'⟩
            clear hh hyes
            obtain ⟨hl0, hx0⟩ := hh2
            have hM0 : 0 < M := by have := HM.out; omega
            have hM0z : (0 : Int) < (M : Int) := by omega
            obtain ⟨b2, o2, rfl, hc2⟩ := HB2.out hM0
            have hct := hc2 0 hM0
            have e0 : (rest bs).getD 0 0 = bs.getD (I + L) 0 := by
              unfold rest
              rw [HI.out, HL.out]
              simp [List.getD_eq_getElem?_getD]
            rw [e0, Nat.add_zero] at hct
            clear hc2 e0
            generalize bs.getD (I + L) 0 = x at hct hx0
            obtain ⟨n1, n2⟩ := bl_no hx0
            have m1 : ((x.toNat : Int) != 32) = true := by rw [bne, n1]; rfl
            have m2 : ((x.toNat : Int) != 9) = true := by rw [bne, n2]; rfl
            clear hx0
            go_wp2
            refine bodyPost_ret (v := .tuple #[.agg #[.int .i64 0, .int .u8 0, .bool false, .slice none 0 0, .int .i64 0, .int .i64 0, .int .i64 0], .bool false]) (by simp [results, Tryd.results15, go_sem]) rfl ⟨Or.inl ⟨hno.out, rfl⟩, ?_⟩
            exact (Below.refl _ _).alloc (Nat.le_refl _) _
          | true =>
            have hyes := aside hyes
            go_upto_region 9 with fail
            go_cut [54] (fun s54 wc => s54 = .bool false ∧ wc = (w.alloc (.cells #[.int .i64 0, .int .u8 0, .bool false, .slice none 0 0, .int .i64 0, .int .i64 0, .int .i64 0] 33)))
            case first =>
              by_cases hM0 : 0 < M
              · have hM0z : (0 : Int) < (M : Int) := by omega
                have hx0 : bl (bs.getD (I + L) 0) = true := by
                  have hh := isHead_of bs I L HI.out HL.out
                  rw [hyes.out] at hh
                  have hlt : decide (bs.length ≤ I + L) = false := by
                    have := HM.out
                    simp; omega
                  rw [hlt, Bool.false_or] at hh
                  have := hh.symm
                  simp only [Bool.and_eq_true] at this
                  exact this.2
                obtain ⟨b2, o2, rfl, hc2⟩ := HB2.out hM0
                have hct := hc2 0 hM0
                have e0 : (rest bs).getD 0 0 = bs.getD (I + L) 0 := by
                  unfold rest
                  rw [HI.out, HL.out]
                  simp [List.getD_eq_getElem?_getD]
                rw [e0, Nat.add_zero] at hct
                clear hc2 e0
                generalize bs.getD (I + L) 0 = x at hct hx0
                rcases bl_yes hx0 with rfl | rfl
                all_goals
                  go_wp2
                  go_meet
                  case rel => exact ⟨rfl, rfl⟩
              · have hM0z : ¬ (0 : Int) < (M : Int) := by omega
                go_wp2
                go_meet
                case rel => exact ⟨rfl, rfl⟩
            case rest =>
              obtain ⟨rfl, rfl⟩ := hcut
              have CT := aside (trimBlanks_any p2 M c2 (rest bs) (w.alloc (.cells #[.int .i64 0, .int .u8 0, .bool false, .slice none 0 0, .int .i64 0, .int .i64 0, .int .i64 0] 33)) HT.out hc21 hc22 HB2.out)
              go_upto_region 12 with (go_at_call 23; refine CT.out.mono ?_; rintro e w' ⟨⟨p3, c3, rfl, hx1, hx2, hx3⟩, hw⟩; rw [hw]; replace hx3 := aside hx3)
              clear CT HB2
              have HAll := aside (fun w2 h2 => hx3.out w2 (HB2a.out w2 h2))
              generalize hgt : tb (rest bs) = t2 at hx1 hx3 HAll ⊢
              have HBd : Aside (body (rest bs) = fin t2) := by
                unfold Aside body
                rw [hgt]
              clear hgt
              have CH := aside (trim_hash p3 t2.length c3 t2 (w.alloc (.cells #[.int .i64 0, .int .u8 0, .bool false, .slice none 0 0, .int .i64 0, .int .i64 0, .int .i64 0] 33)) rfl hx1 (by omega) (HAll.out _ HBA1.out))
              go_upto_region 13 with (go_at_call 24; refine CH.out.mono ?_; rintro e w2 ⟨rfl, hb2⟩)
              clear CH
              have HOl := Lib.trimRightS_len_le t2 [35]
              have HBO : Aside (BA w2 p3 (Lib.trimRightS t2 [35]).length (Lib.trimRightS t2 [35])) := by
                have := ((HAll.out _ HBA1.out).below hb2).take HOl
                rw [← Lib.trimRightS_eq_take] at this
                exact this
              have HBLK : Aside (blk < w.heap.size) := hbl
              have HFin : Aside (fin t2 = if Lib.trimRightS t2 [35] = [] ∨ bl ((Lib.trimRightS t2 [35]).getLastD 0) = true then Lib.trimRightS (Lib.trimRightS t2 [35]) [32, 9] else t2) := rfl
              have HTk : Aside (t2.take (Lib.trimRightS t2 [35]).length = Lib.trimRightS t2 [35]) := (Lib.trimRightS_eq_take t2 [35]).symm
              generalize Lib.trimRightS t2 [35] = O at HOl HBO HFin HTk ⊢
              have hsz2 : w.heap.size < w2.heap.size := by
                have := hb2.size
                simp at this
                omega
              have HBel : Aside (Below (w.heap.size + 1) (w.alloc (.cells #[.int .i64 0, .int .u8 0, .bool false, .slice none 0 0, .int .i64 0, .int .i64 0, .int .i64 0] 33)) w2) := aside (by simpa using hb2)
              clear hb2 hx3
              have hOc : O.length ≤ c3 := by omega
              generalize hN : O.length = N at HOl HBO HTk hOc ⊢
              have HN := aside hN
              clear hN
              have hlast : Aside (∀ m, N = m + 1 → O.getD m 0 = O.getLastD 0) := fun m hm => by
                have h := HN.out
                rw [List.getLastD_eq_getLast?, List.getLast?_eq_getElem?, List.getD_eq_getElem?_getD, show O.length - 1 = m by omega]
              by_cases hcond : O = [] ∨ bl (O.getLastD 0) = true
              · have HCnd := aside hcond
                clear hcond
                go_cut [80] (fun s80 wc => s80 = .bool true ∧ wc = w2)
                case first =>
                  by_cases hN0 : N = 0
                  · subst hN0
                    go_wp2
                    go_meet
                    case rel => exact ⟨rfl, rfl⟩
                  · obtain ⟨m, rfl⟩ : ∃ m, N = m + 1 := ⟨N - 1, by omega⟩
                    have hz : bl (O.getD m 0) = true := by
                      rw [hlast.out m rfl]
                      rcases HCnd.out with h | h
                      · have := HN.out
                        rw [h] at this
                        simp at this
                      · exact h
                    obtain ⟨b3, o3, rfl, hc3⟩ := HBO.out (by omega)
                    have hct := hc3 m (by omega)
                    clear hc3
                    generalize O.getD m 0 = z at hz hct
                    have hqz : ((m + 1 : Nat) : Int) = (m : Int) + 1 := by omega
                    have hne : (((m : Int) + 1) == 0) = false := by rw [beq_eq_false_iff_ne]; omega
                    rcases bl_yes hz with rfl | rfl
                    all_goals
                      go_wp2
                      go_meet
                      case rel => exact ⟨rfl, rfl⟩
                case rest =>
                  obtain ⟨rfl, hwc⟩ := hcut
                  subst hwc
                  have CB := aside (trim_blank p3 N c3 O _ HN.out hOc (by omega) HBO.out)
                  go_upto_region 15 with (go_at_call 24; refine CB.out.mono ?_; rintro e w3 ⟨rfl, hb3⟩)
                  clear CB
                  have HBel3 := aside (HBel.out.trans (hb3.mono (by omega)))
                  obtain ⟨z0, z1, z2, z3, z4, z5, z6, zf⟩ := cells7 HBel3.out
                  have HBw := aside ((((Below.refl _ w).alloc (Nat.le_refl _) (.cells #[.int .i64 0, .int .u8 0, .bool false, .slice none 0 0, .int .i64 0, .int .i64 0, .int .i64 0] 33)).trans (HBel3.out.mono (by omega))))
                  have HF : Aside (body (rest bs) = Lib.trimRightS O [32, 9]) := by
                    unfold Aside
                    rw [HBd.out, HFin.out, if_pos HCnd.out]
                  have hsz3 : w.heap.size < w3.heap.size := by have := hb3.size; omega
                  have HBF : Aside (∀ w2, BA w2 (some ⟨blk, o, none⟩) n bs → BA w2 p3 (Lib.trimRightS O [32, 9]).length (Lib.trimRightS O [32, 9])) := fun w2 h2 => by
                    have h3 := (HAll.out w2 h2).take HOl
                    have h4 : t2.take N = O := HTk.out
                    rw [h4] at h3
                    have h5 := Lib.trimRightS_len_le O [32, 9]
                    rw [HN.out] at h5
                    have h6 := h3.take h5
                    rw [← Lib.trimRightS_eq_take] at h6
                    exact h6
                  generalize Lib.trimRightS O [32, 9] = F at HF HBF ⊢
                  clear hb3
                  go_wp2
                  refine bodyPost_ret (v := .tuple #[.agg #[.int .i64 L, .int .u8 0, .bool false, .slice p3 F.length c3, .int .i64 0, .int .i64 0, .int .i64 0], .bool true]) (by simp [results, Tryd.results15, go_sem, z0, z1, z2, z3, z4, z5, z6]) rfl ?_
                  have hB := stores7 HBw.out (.int .i64 L) (.int .u8 0) (.bool false) (.slice p3 F.length c3) (.int .i64 0) (.int .i64 0) (.int .i64 0)
                  exact ⟨head_yes hyes.out HL.out HF.out (HBF.out _ (HBA0.out.below hB)), hB⟩
              · have HCnd := aside hcond
                clear hcond
                go_cut [80] (fun s80 wc => s80 = .bool false ∧ wc = w2)
                case first =>
                  obtain ⟨m, rfl⟩ : ∃ m, N = m + 1 := by
                    rcases Nat.eq_zero_or_pos N with h | h
                    · exact absurd (Or.inl (List.eq_nil_of_length_eq_zero (HN.out.trans h))) HCnd.out
                    · exact ⟨N - 1, by omega⟩
                  have hz : bl (O.getD m 0) = false := by
                    rw [hlast.out m rfl]
                    cases h : bl (O.getLastD 0) with
                    | false => rfl
                    | true => exact absurd (Or.inr h) HCnd.out
                  obtain ⟨b3, o3, rfl, hc3⟩ := HBO.out (by omega)
                  have hct := hc3 m (by omega)
                  clear hc3
                  generalize O.getD m 0 = z at hz hct
                  have hqz : ((m + 1 : Nat) : Int) = (m : Int) + 1 := by omega
                  have hne : (((m : Int) + 1) == 0) = false := by rw [beq_eq_false_iff_ne]; omega
                  obtain ⟨n1, n2⟩ := bl_no hz
                  clear hz
                  go_wp2
                  go_meet
                  case rel => exact ⟨rfl, rfl⟩
                case rest =>
                  obtain ⟨rfl, hwc⟩ := hcut
                  subst hwc
                  obtain ⟨z0, z1, z2, z3, z4, z5, z6, zf⟩ := cells7 HBel.out
                  have HBw := aside ((((Below.refl _ w).alloc (Nat.le_refl _) (.cells #[.int .i64 0, .int .u8 0, .bool false, .slice none 0 0, .int .i64 0, .int .i64 0, .int .i64 0] 33)).trans (HBel.out.mono (by omega))))
                  go_wp2
                  refine bodyPost_ret (v := .tuple #[.agg #[.int .i64 L, .int .u8 0, .bool false, .slice p3 t2.length c3, .int .i64 0, .int .i64 0, .int .i64 0], .bool true]) (by simp [results, Tryd.results15, go_sem, z0, z1, z2, z3, z4, z5, z6]) rfl ?_
                  have hB := stores7 HBw.out (.int .i64 L) (.int .u8 0) (.bool false) (.slice p3 t2.length c3) (.int .i64 0) (.int .i64 0) (.int .i64 0)
                  exact ⟨head_yes hyes.out HL.out (by rw [HBd.out, HFin.out, if_neg HCnd.out]) (HAll.out _ (HBA0.out.below hB)), hB⟩
      · have hno : Aside (isHead bs = false) := by
          unfold Aside
          rw [isHead_of bs I L HI.out HL.out]
          simp
          omega
        by_cases hL0 : L = 0
        · have hz0 : ((L : Int) == 0) = true := by simp [hL0]
          clear hL0
          go_wp2_with (go_at_call 22; refine CR.out.mono ?_; rintro e w' ⟨rfl, hw⟩; rw [hw])
          refine bodyPost_ret (v := .tuple #[.agg #[.int .i64 0, .int .u8 0, .bool false, .slice none 0 0, .int .i64 0, .int .i64 0, .int .i64 0], .bool false]) (by simp [results, Tryd.results15, go_sem]) rfl ⟨Or.inl ⟨hno.out, rfl⟩, ?_⟩
          exact (Below.refl _ _).alloc (Nat.le_refl _) _
        · have hz0 : ((L : Int) == 0) = false := by rw [beq_eq_false_iff_ne]; omega
          have hz6 : (6 : Int) < (L : Int) := by omega
          go_wp2_with (go_at_call 22; refine CR.out.mono ?_; rintro e w' ⟨rfl, hw⟩; rw [hw])
          refine bodyPost_ret (v := .tuple #[.agg #[.int .i64 0, .int .u8 0, .bool false, .slice none 0 0, .int .i64 0, .int .i64 0, .int .i64 0], .bool false]) (by simp [results, Tryd.results15, go_sem]) rfl ⟨Or.inl ⟨hno.out, rfl⟩, ?_⟩
          exact (Below.refl _ _).alloc (Nat.le_refl _) _

end Go.Proofs.Qxb6606271aDoor
