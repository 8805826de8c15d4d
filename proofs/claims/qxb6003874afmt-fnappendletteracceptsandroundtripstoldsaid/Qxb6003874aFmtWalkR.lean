/-
  THE WALKS OF zzHex AND zzReadString: the reader gives back what AppendString wrote.
-/
import Derived.Test.Qxb6003874aFmtWalkS
namespace Go.Proofs.Qxb6003874aFmt
open Go.RowKit Go.Lib

set_option maxHeartbeats 1000000 in
theorem hex_dig (r : Nat) (h : r < 10) (w : World) : Calls Tryf.prog 25 #[.int .u8 (48 + (r : Int))] w fun e w' => e = .returned (.int .i64 r) ∧ w' = w := by
  have z1 : (48 : Int) ≤ 48 + (r : Int) := by omega
  have z2 : 48 + (r : Int) ≤ 57 := by omega
  have z3 : (48 : Int) + r - 48 = r := by omega
  go_enter Tryf.func25, Tryf.ntmps25
  go_wp2
  go_ret
  exact ⟨rfl, rfl⟩
set_option maxHeartbeats 1000000 in
theorem hex_let (r : Nat) (h : 10 ≤ r) (h' : r < 16) (w : World) : Calls Tryf.prog 25 #[.int .u8 (87 + (r : Int))] w fun e w' => e = .returned (.int .i64 r) ∧ w' = w := by
  have z1 : (48 : Int) ≤ 87 + (r : Int) := by omega
  have z2 : ¬ 87 + (r : Int) ≤ 57 := by omega
  have z3 : (97 : Int) ≤ 87 + (r : Int) := by omega
  have z4 : 87 + (r : Int) ≤ 102 := by omega
  have z5 : (87 : Int) + r - 97 = r - 10 := by omega
  have z6 : (r : Int) - 10 + 10 = r := by omega
  go_enter Tryf.func25, Tryf.ntmps25
  go_wp2
  go_ret
  exact ⟨rfl, rfl⟩
theorem hexd_toNat (r : Nat) (h : r < 16) : (hexd r).toNat = if r < 10 then 48 + r else 87 + r := by
  have key : ∀ k : Fin 16, (hexd k.val).toNat = if k.val < 10 then 48 + k.val else 87 + k.val := by decide
  exact key ⟨r, h⟩
theorem hex_any (r : Nat) (h : r < 16) (w : World) : Calls Tryf.prog 25 #[.int .u8 ((hexd r).toNat : Int)] w fun e w' => e = .returned (.int .i64 r) ∧ w' = w := by
  rw [hexd_toNat r h]
  by_cases h1 : r < 10
  · rw [if_pos h1]
    exact hex_dig r h1 w
  · rw [if_neg h1]
    exact hex_let r (by omega) h w

/-- Where the reader stands: l1 has been read; l2 and the closing quote lie ahead. -/
theorem at_byte {bs pre rest l1 l2 : List UInt8} {k : Nat} (hk : k = pre.length + 1 + (encS l1).length) (hbs : bs = pre ++ 34 :: (encS (l1 ++ l2) ++ 34 :: rest)) (j : Nat) : bs.getD (k + j) 0 = (encS l2 ++ 34 :: rest).getD j 0 := by
  have e : bs = (pre ++ 34 :: encS l1) ++ (encS l2 ++ 34 :: rest) := by rw [hbs, encS_append]; simp
  have hl : (pre ++ 34 :: encS l1).length = k := by rw [hk]; simp; omega
  rw [e, List.getD_eq_getElem?_getD, List.getElem?_append_right (by omega), hl, Nat.add_sub_cancel_left, List.getD_eq_getElem?_getD]

set_option maxHeartbeats 4000000 in
set_option maxRecDepth 100000 in
theorem readString_any (p : Option Addr) (n c : Nat) (bs pre l rest : List UInt8) (w : World) (hbs : bs = pre ++ 34 :: (encS l ++ 34 :: rest)) (hn : bs.length = n) (hbig : n ≤ 16777216) (hl : l.length ≤ 1048576) (h1 : BA w w.heap.size p n bs) :
    Calls Tryf.prog 15 #[.slice p n c, .int .i64 pre.length] w fun e w' => ∃ v, e = .returned (.tuple #[v, .int .i64 ((pre.length + 2 + (encS l).length : Nat) : Int), .bool true]) ∧ Own w' w.heap.size v l ∧ Below w.heap.size w w' := by
  have hn0 : n = pre.length + 2 + (encS l).length + rest.length := by rw [← hn, hbs]; simp; omega
  obtain ⟨b, o, rfl, hb, hc⟩ := h1 (by omega)
  have HC := aside (show ∀ wr, Below w.heap.size w wr → ∀ i, i < n → wr.cell? ⟨b, o + i, none⟩ = some (.int .u8 (bs.getD i 0).toNat) from fun wr hB i hi => by rw [hB.cell (p := ⟨b, o + i, none⟩) hb]; exact hc i hi)
  have HBS := aside hbs
  have HN0 := aside hn0
  have h34 : w.cell? ⟨b, o + pre.length, none⟩ = some (.int .u8 34) := by
    rw [hc pre.length (by omega), hbs]; simp
  clear h1 hc hbs hn
  obtain ⟨K, hK⟩ : ∃ K, K = pre.length := ⟨_, rfl⟩
  have HK := aside hK
  have hKn : K < n := by omega
  have hKz : (K : Int) < (n : Int) := by omega
  rw [← hK] at h34 ⊢
  have hK0 : decide ((K : Int) < 0) = false := by rw [decide_eq_false_iff_not]; omega
  have hK1 : decide (n ≤ K) = false := by rw [decide_eq_false_iff_not]; omega
  clear hK hn0
  go_enter Tryf.func15, Tryf.ntmps15
  go_wp2
  clear h34
  go_loopg [1, 7] (l.length + 1) (fun g s1 s7 wr => ∃ (k : Nat) (l1 l2 : List UInt8), k < n ∧ g = l2.length + 1 ∧ s1 = .int .i64 k ∧ Aside (l = l1 ++ l2) ∧ Aside (k = pre.length + 1 + (encS l1).length) ∧ Aside (Own wr w.heap.size s7 l1) ∧ Aside (Below w.heap.size w wr))
  case atStart => 
    have := HN0.out
    have := HK.out
    exact ⟨K + 1, [], l, by omega, rfl, by go_num, aside rfl, aside (by rw [HK.out]; rfl), aside (Own.nil _ _), aside (Below.refl _ _)⟩
  case round =>
    obtain ⟨k, l1, l2, hkn, hg, rfl, HL, HKK, OWN, HB⟩ := hrel
    have hkz : (k : Int) < (n : Int) := by omega
    have AT := aside (fun j => at_byte HKK.out (show bs = pre ++ 34 :: (encS (l1 ++ l2) ++ 34 :: rest) by rw [HBS.out, HL.out]) j)
    have CE := aside (fun j (hj : k + j < n) => HC.out wr HB.out (k + j) hj)
    have hBw : w.heap.size ≤ wr.heap.size := HB.out.size
    cases l2 with
    | nil =>
      have c0 : wr.cell? ⟨b, o + k, none⟩ = some (.int .u8 34) := by
        have := CE.out 0 hkn
        rw [AT.out 0] at this
        exact this
      go_wp2
      refine bodyPost_ret (v := .tuple #[u7, .int .i64 ((k : Int) + 1), .bool true]) (by simp [results, Tryf.results15, go_sem]) rfl ⟨u7, ?_, ?_, HB.out⟩
      · have hkk := HKK.out
        have hll := HL.out
        rw [List.append_nil] at hll
        have e : ((K + 2 + (encS l).length : Nat) : Int) = (k : Int) + 1 := by
          rw [HK.out, hll]; omega
        rw [e]
      · have hll := HL.out
        rw [List.append_nil] at hll
        rw [hll]
        exact OWN.out
    | cons x l2 =>
      have hgx : gk = l2.length + 2 := hg
      have hb1 : l1.length + 1 ≤ 16777216 := by
        have := HL.out
        rw [this] at hl
        simp at hl
        omega
      have NL := aside (show l = (l1 ++ [x]) ++ l2 by rw [HL.out]; simp)
      have NK := aside (show ∀ es, esc x = es → k + es.length = pre.length + 1 + (encS (l1 ++ [x])).length from fun es he => by
        have h := HKK.out
        rw [encS_append, List.length_append, encS_cons, encS_nil, he]
        simp
        omega)
      have NN := aside (show ∀ es, esc x = es → k + es.length < n from fun es he => by
        have h := HKK.out
        have h2 := HN0.out
        rw [HL.out, encS_append, encS_cons, he] at h2
        simp at h2
        omega)
      have GB := aside (show ∀ es, esc x = es → ∀ j, j < es.length → wr.cell? ⟨b, o + (k + j), none⟩ = some (.int .u8 (es.getD j 0).toNat) from fun es he j hj => by
        have h := NN.out es he
        have h2 := CE.out j (by omega)
        rw [AT.out j, encS_cons, he, List.append_assoc, List.getD_eq_getElem?_getD, List.getElem?_append_left hj, ← List.getD_eq_getElem?_getD] at h2
        exact h2)
      clear AT CE
      by_cases hp : plainB x
      · have HES := aside (esc_plain hp)
        have hnn : k + 1 < n := NN.out _ HES.out
        have c0 : wr.cell? ⟨b, o + k, none⟩ = some (.int .u8 x.toNat) := GB.out _ HES.out 0 (by simp)
        obtain ⟨p1, p2, p3⟩ := hp
        have z1 : ¬ (x.toNat : Int) < 32 := by omega
        have z2 : ((x.toNat : Int) == 34) = false := by rw [beq_eq_false_iff_ne]; omega
        have z3 : ((x.toNat : Int) == 92) = false := by rw [beq_eq_false_iff_ne]; omega
        have z4 : ((x.toNat : Int) != 92) = true := by rw [bne, z3]; rfl
        clear p1 p2 p3
        go_wp2_with (at_builtin; refine app_lit _ rfl _ _ rfl w.heap.size _ _ rfl OWN.out [x] 1 rfl rfl _ rfl hb1 hBw ?_; intro v2 w2 h2 hB2; have OWN2 := aside h2; have HB2 := aside (HB.out.trans hB2); clear h2 hB2)
        go_roundg (gk - 1)
        case measure => omega
        case rel => exact ⟨k + 1, l1 ++ [x], l2, by omega, by omega, by go_num, NL, aside (NK.out _ HES.out), OWN2, HB2⟩
      · have hnp : ¬ (32 ≤ x.toNat ∧ x.toNat ≠ 34 ∧ x.toNat ≠ 92) := hp
        clear hp
        by_cases hs : x.toNat = 34 ∨ x.toNat = 92 ∨ x.toNat = 8 ∨ x.toNat = 12 ∨ x.toNat = 10 ∨ x.toNat = 13 ∨ x.toNat = 9
        · rcases hs with c | c | c | c | c | c | c
          · obtain rfl : x = 34 := UInt8.toNat_inj.1 c
            have HES := aside (show esc 34 = [92, 34] from rfl)
            have hnn : k + 2 < n := NN.out _ HES.out
            have c0 : wr.cell? ⟨b, o + k, none⟩ = some (.int .u8 92) := GB.out _ HES.out 0 (by simp)
            have c1 : wr.cell? ⟨b, o + (k + 1), none⟩ = some (.int .u8 34) := GB.out _ HES.out 1 (by simp)
            have hk1 : (k : Int) + 1 < (n : Int) := by omega
            clear c hnp
            go_wp2_with (at_builtin; refine app_lit _ rfl _ _ rfl w.heap.size _ _ rfl OWN.out [34] 1 rfl rfl _ rfl hb1 hBw ?_; intro v2 w2 h2 hB2; have OWN2 := aside h2; have HB2 := aside (HB.out.trans hB2); clear h2 hB2)
            go_roundg (gk - 1)
            case measure => omega
            case rel => exact ⟨k + 2, l1 ++ [34], l2, by omega, by omega, by go_num, NL, aside (NK.out _ HES.out), OWN2, HB2⟩
          · obtain rfl : x = 92 := UInt8.toNat_inj.1 c
            have HES := aside (show esc 92 = [92, 92] from rfl)
            have hnn : k + 2 < n := NN.out _ HES.out
            have c0 : wr.cell? ⟨b, o + k, none⟩ = some (.int .u8 92) := GB.out _ HES.out 0 (by simp)
            have c1 : wr.cell? ⟨b, o + (k + 1), none⟩ = some (.int .u8 92) := GB.out _ HES.out 1 (by simp)
            have hk1 : (k : Int) + 1 < (n : Int) := by omega
            clear c hnp
            go_wp2_with (at_builtin; refine app_lit _ rfl _ _ rfl w.heap.size _ _ rfl OWN.out [92] 1 rfl rfl _ rfl hb1 hBw ?_; intro v2 w2 h2 hB2; have OWN2 := aside h2; have HB2 := aside (HB.out.trans hB2); clear h2 hB2)
            go_roundg (gk - 1)
            case measure => omega
            case rel => exact ⟨k + 2, l1 ++ [92], l2, by omega, by omega, by go_num, NL, aside (NK.out _ HES.out), OWN2, HB2⟩
          · obtain rfl : x = 8 := UInt8.toNat_inj.1 c
            have HES := aside (show esc 8 = [92, 98] from rfl)
            have hnn : k + 2 < n := NN.out _ HES.out
            have c0 : wr.cell? ⟨b, o + k, none⟩ = some (.int .u8 92) := GB.out _ HES.out 0 (by simp)
            have c1 : wr.cell? ⟨b, o + (k + 1), none⟩ = some (.int .u8 98) := GB.out _ HES.out 1 (by simp)
            have hk1 : (k : Int) + 1 < (n : Int) := by omega
            clear c hnp
            go_wp2_with (at_builtin; refine app_lit _ rfl _ _ rfl w.heap.size _ _ rfl OWN.out [8] 1 rfl rfl _ rfl hb1 hBw ?_; intro v2 w2 h2 hB2; have OWN2 := aside h2; have HB2 := aside (HB.out.trans hB2); clear h2 hB2)
            go_roundg (gk - 1)
            case measure => omega
            case rel => exact ⟨k + 2, l1 ++ [8], l2, by omega, by omega, by go_num, NL, aside (NK.out _ HES.out), OWN2, HB2⟩
          · obtain rfl : x = 12 := UInt8.toNat_inj.1 c
            have HES := aside (show esc 12 = [92, 102] from rfl)
            have hnn : k + 2 < n := NN.out _ HES.out
            have c0 : wr.cell? ⟨b, o + k, none⟩ = some (.int .u8 92) := GB.out _ HES.out 0 (by simp)
            have c1 : wr.cell? ⟨b, o + (k + 1), none⟩ = some (.int .u8 102) := GB.out _ HES.out 1 (by simp)
            have hk1 : (k : Int) + 1 < (n : Int) := by omega
            clear c hnp
            go_wp2_with (at_builtin; refine app_lit _ rfl _ _ rfl w.heap.size _ _ rfl OWN.out [12] 1 rfl rfl _ rfl hb1 hBw ?_; intro v2 w2 h2 hB2; have OWN2 := aside h2; have HB2 := aside (HB.out.trans hB2); clear h2 hB2)
            go_roundg (gk - 1)
            case measure => omega
            case rel => exact ⟨k + 2, l1 ++ [12], l2, by omega, by omega, by go_num, NL, aside (NK.out _ HES.out), OWN2, HB2⟩
          · obtain rfl : x = 10 := UInt8.toNat_inj.1 c
            have HES := aside (show esc 10 = [92, 110] from rfl)
            have hnn : k + 2 < n := NN.out _ HES.out
            have c0 : wr.cell? ⟨b, o + k, none⟩ = some (.int .u8 92) := GB.out _ HES.out 0 (by simp)
            have c1 : wr.cell? ⟨b, o + (k + 1), none⟩ = some (.int .u8 110) := GB.out _ HES.out 1 (by simp)
            have hk1 : (k : Int) + 1 < (n : Int) := by omega
            clear c hnp
            go_wp2_with (at_builtin; refine app_lit _ rfl _ _ rfl w.heap.size _ _ rfl OWN.out [10] 1 rfl rfl _ rfl hb1 hBw ?_; intro v2 w2 h2 hB2; have OWN2 := aside h2; have HB2 := aside (HB.out.trans hB2); clear h2 hB2)
            go_roundg (gk - 1)
            case measure => omega
            case rel => exact ⟨k + 2, l1 ++ [10], l2, by omega, by omega, by go_num, NL, aside (NK.out _ HES.out), OWN2, HB2⟩
          · obtain rfl : x = 13 := UInt8.toNat_inj.1 c
            have HES := aside (show esc 13 = [92, 114] from rfl)
            have hnn : k + 2 < n := NN.out _ HES.out
            have c0 : wr.cell? ⟨b, o + k, none⟩ = some (.int .u8 92) := GB.out _ HES.out 0 (by simp)
            have c1 : wr.cell? ⟨b, o + (k + 1), none⟩ = some (.int .u8 114) := GB.out _ HES.out 1 (by simp)
            have hk1 : (k : Int) + 1 < (n : Int) := by omega
            clear c hnp
            go_wp2_with (at_builtin; refine app_lit _ rfl _ _ rfl w.heap.size _ _ rfl OWN.out [13] 1 rfl rfl _ rfl hb1 hBw ?_; intro v2 w2 h2 hB2; have OWN2 := aside h2; have HB2 := aside (HB.out.trans hB2); clear h2 hB2)
            go_roundg (gk - 1)
            case measure => omega
            case rel => exact ⟨k + 2, l1 ++ [13], l2, by omega, by omega, by go_num, NL, aside (NK.out _ HES.out), OWN2, HB2⟩
          · obtain rfl : x = 9 := UInt8.toNat_inj.1 c
            have HES := aside (show esc 9 = [92, 116] from rfl)
            have hnn : k + 2 < n := NN.out _ HES.out
            have c0 : wr.cell? ⟨b, o + k, none⟩ = some (.int .u8 92) := GB.out _ HES.out 0 (by simp)
            have c1 : wr.cell? ⟨b, o + (k + 1), none⟩ = some (.int .u8 116) := GB.out _ HES.out 1 (by simp)
            have hk1 : (k : Int) + 1 < (n : Int) := by omega
            clear c hnp
            go_wp2_with (at_builtin; refine app_lit _ rfl _ _ rfl w.heap.size _ _ rfl OWN.out [9] 1 rfl rfl _ rfl hb1 hBw ?_; intro v2 w2 h2 hB2; have OWN2 := aside h2; have HB2 := aside (HB.out.trans hB2); clear h2 hB2)
            go_roundg (gk - 1)
            case measure => omega
            case rel => exact ⟨k + 2, l1 ++ [9], l2, by omega, by omega, by go_num, NL, aside (NK.out _ HES.out), OWN2, HB2⟩
        · obtain ⟨r1, hr1⟩ : ∃ r1, r1 = x.toNat / 16 := ⟨_, rfl⟩
          obtain ⟨r2, hr2⟩ : ∃ r2, r2 = x.toNat % 16 := ⟨_, rfl⟩
          have HES := aside (show esc x = [92, 117, 48, 48, hexd r1, hexd r2] by
            unfold esc
            rw [if_neg (by omega), if_neg (by omega), if_neg (by omega), if_neg (by omega), if_neg (by omega), if_neg (by omega), if_pos (by omega), hr1, hr2])
          have hnn : k + 6 < n := NN.out _ HES.out
          have c0 : wr.cell? ⟨b, o + k, none⟩ = some (.int .u8 92) := GB.out _ HES.out 0 (by simp)
          have c1 : wr.cell? ⟨b, o + (k + 1), none⟩ = some (.int .u8 117) := GB.out _ HES.out 1 (by simp)
          have c2 : wr.cell? ⟨b, o + (k + 2), none⟩ = some (.int .u8 (hexd 0).toNat) := GB.out _ HES.out 2 (by simp)
          have c3 : wr.cell? ⟨b, o + (k + 3), none⟩ = some (.int .u8 (hexd 0).toNat) := GB.out _ HES.out 3 (by simp)
          have c4 : wr.cell? ⟨b, o + (k + 4), none⟩ = some (.int .u8 (hexd r1).toNat) := GB.out _ HES.out 4 (by simp)
          have c5 : wr.cell? ⟨b, o + (k + 5), none⟩ = some (.int .u8 (hexd r2).toNat) := GB.out _ HES.out 5 (by simp)
          have hk1 : (k : Int) + 1 < (n : Int) := by omega
          have hk6 : ¬ (n : Int) - (k : Int) < 6 := by omega
          have hr1l : r1 < 16 := by have := x.toNat_lt; omega
          have hr2l : r2 < 16 := by omega
          have hrx : (r1 : Int) * 16 + (r2 : Int) = (x.toNat : Int) := by omega
          have hx32 : (x.toNat : Int) < 32 := by omega
          have hx128 : ¬ (128 : Int) ≤ (x.toNat : Int) := by omega
          clear hs hnp hr1 hr2
          go_upto_block 3 with fail
          go_cut [10] (fun s10 wc => s10 = .int .i64 x.toNat ∧ wc = wr)
          case first =>
            go_wp2
            go_loopg [10, 11] 4 (fun g s10 s11 wr' => ∃ j v : Nat, g + j = 6 ∧ s11 = .int .i64 j ∧ s10 = .int .i64 v ∧ wr' = wr ∧ Aside ((j = 2 ∧ v = 0) ∨ (j = 3 ∧ v = 0) ∨ (j = 4 ∧ v = 0) ∨ (j = 5 ∧ v = r1) ∨ (j = 6 ∧ v = x.toNat)))
            case atStart => exact ⟨2, 0, rfl, rfl, rfl, rfl, aside (.inl ⟨rfl, rfl⟩)⟩
            case round =>
              obtain ⟨j, v, hgj, rfl, rfl, rfl, J⟩ := hrel
              rcases J.out with ⟨rfl, rfl⟩ | ⟨rfl, rfl⟩ | ⟨rfl, rfl⟩ | ⟨rfl, rfl⟩ | ⟨rfl, rfl⟩
              · clear J
                have hq : (k : Int) + 2 < (n : Int) := by omega
                go_wp2_with (go_at_call 25; refine (hex_any 0 (by omega) _).mono ?_; rintro e w' ⟨rfl, hw⟩; rw [hw]; clear hw)
                go_roundg (gk - 1)
                case measure => omega
                case rel => exact ⟨3, 0, by omega, by go_num, by go_num, rfl, aside (.inr (.inl ⟨rfl, rfl⟩))⟩
              · clear J
                have hq : (k : Int) + 3 < (n : Int) := by omega
                go_wp2_with (go_at_call 25; refine (hex_any 0 (by omega) _).mono ?_; rintro e w' ⟨rfl, hw⟩; rw [hw]; clear hw)
                go_roundg (gk - 1)
                case measure => omega
                case rel => exact ⟨4, 0, by omega, by go_num, by go_num, rfl, aside (.inr (.inr (.inl ⟨rfl, rfl⟩)))⟩
              · clear J
                have hq : (k : Int) + 4 < (n : Int) := by omega
                go_wp2_with (go_at_call 25; refine (hex_any r1 hr1l _).mono ?_; rintro e w' ⟨rfl, hw⟩; rw [hw]; clear hw)
                go_roundg (gk - 1)
                case measure => omega
                case rel => exact ⟨5, r1, by omega, by go_num, by go_num, rfl, aside (.inr (.inr (.inr (.inl ⟨rfl, rfl⟩))))⟩
              · clear J
                have hq : (k : Int) + 5 < (n : Int) := by omega
                go_wp2_with (go_at_call 25; refine (hex_any r2 hr2l _).mono ?_; rintro e w' ⟨rfl, hw⟩; rw [hw]; clear hw)
                go_roundg (gk - 1)
                case measure => omega
                case rel => exact ⟨6, x.toNat, by omega, by go_num, by go_num, rfl, aside (.inr (.inr (.inr (.inr ⟨rfl, rfl⟩))))⟩
              · clear J
                go_wp2
                go_meet
                case rel => exact ⟨rfl, rfl⟩
          case rest =>
            obtain ⟨rfl, rfl⟩ := hcut
            clear c0 c1 c2 c3 c4 c5 hrx
            go_wp2_with (at_builtin; refine app_lit _ rfl _ _ rfl w.heap.size _ _ rfl OWN.out [x] 1 rfl rfl _ rfl hb1 hBw ?_; intro v2 w2 h2 hB2; have OWN2 := aside h2; have HB2 := aside (HB.out.trans hB2); clear h2 hB2)
            go_roundg (gk - 1)
            case measure => omega
            case rel => exact ⟨k + 6, l1 ++ [x], l2, by omega, by omega, by go_num, NL, aside (NK.out _ HES.out), OWN2, HB2⟩

end Go.Proofs.Qxb6003874aFmt
