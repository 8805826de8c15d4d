/-
  THE WALK OF zzReadInt: it reads back what strconv.AppendInt wrote.
-/
import Derived.Test.Qxb6003874aFmtWalkN
import Derived.Lib.Zigzag
import Derived.Laws.BitsAllLaws
import Derived.PlainAid
namespace Go.Proofs.Qxb6003874aFmt
open Go.RowKit Go.Lib

theorem not_fin (m : Nat) (h1 : 1 ≤ m) (h2 : m ≤ 9223372036854775808) : wrap64 (IntKind.u64.wrap (bits BinOp.xor IntKind.u64 IntKind.u64.max (m : Int) + 1)) = -(m : Int) := by
  have e : (IntKind.u64.max : Int) = ((2 ^ 64 - 1 : Nat) : Int) := by decide
  rw [e, u64_xor_nat _ _ (by omega) (by omega), Go.Lib.xor_ones64 m (by omega)]
  have e2 : (((2 ^ 64 - 1 - m : Nat)) : Int) + 1 = 18446744073709551616 - (m : Int) := by omega
  rw [e2]
  have e3 : IntKind.u64.wrap (18446744073709551616 - (m : Int)) = 18446744073709551616 - (m : Int) := by
    simp [IntKind.wrap, IntKind.bits, IntKind.signed]
    omega
  rw [e3]
  simp [wrap64]
  omega

set_option maxHeartbeats 4000000 in
set_option maxRecDepth 100000 in
theorem readInt_pos (b o n c : Nat) (bs pre rest : List UInt8) (u : Nat) (w : World) (hbs : bs = pre ++ (decDigits u ++ 44 :: rest)) (hn : bs.length = n) (hbig : n ≤ 16777216) (hu : u ≤ 9223372036854775807)
    (hc : ∀ i, i < n → w.cell? ⟨b, o + i, none⟩ = some (.int .u8 (bs.getD i 0).toNat)) :
    Calls Tryf.prog 20 #[.slice (some ⟨b, o, none⟩) n c, .int .i64 pre.length] w fun e w' => e = .returned (.tuple #[.int .i64 u, .int .i64 ((pre.length + (decDigits u).length : Nat) : Int), .bool true]) ∧ w' = w := by
  obtain ⟨D, hD⟩ : ∃ D, D = decDigits u := ⟨_, rfl⟩
  rw [← hD] at hbs ⊢
  have HDIG := aside (show ∀ c ∈ D, isDig c by rw [hD]; exact digits_dig u)
  have HVAL := aside (show val D = u by rw [hD]; exact digits_val u)
  have HLZ := aside (show (D.getD 0 0).toNat = 48 → D.length = 1 by rw [hD]; exact digits_zero u)
  have hne : 0 < D.length := by rw [hD]; exact List.length_pos_iff.2 (digits_ne u)
  have hlen : n = pre.length + D.length + 1 + rest.length := by rw [← hn, hbs]; simp; omega
  obtain ⟨S, hS⟩ : ∃ S, S = pre.length := ⟨_, rfl⟩
  obtain ⟨K, hK⟩ : ∃ K, K = pre.length := ⟨_, rfl⟩
  have AT := aside (show ∀ j, bs.getD (S + j) 0 = (D ++ 44 :: rest).getD j 0 from fun j => by
    rw [hbs, hS, List.getD_eq_getElem?_getD, List.getElem?_append_right (by simp), List.getD_eq_getElem?_getD]
    congr 2
    simp)
  have hKn : K < n := by omega
  have hKz : (K : Int) < (n : Int) := by omega
  have hK0 : decide ((K : Int) < 0) = false := by rw [decide_eq_false_iff_not]; omega
  have hK1 : decide (n < K) = false := by rw [decide_eq_false_iff_not]; omega
  have hK1' : ¬ (n : Int) < (K : Int) := by omega
  have HC := aside hc
  obtain rfl : S = K := by omega
  obtain ⟨x0, hx0⟩ : ∃ x, x = D.getD 0 0 := ⟨_, rfl⟩
  have c0 : w.cell? ⟨b, o + S, none⟩ = some (.int .u8 x0.toNat) := by
    have h := hc S (by omega)
    have h2 := AT.out 0
    rw [Nat.add_zero] at h2
    rw [h, h2, hx0, List.getD_eq_getElem?_getD, List.getElem?_append_left hne, List.getD_eq_getElem?_getD]
  have hx0d : isDig x0 := HDIG.out x0 (by
    rw [hx0, List.getD_eq_getElem?_getD, List.getElem?_eq_getElem hne]
    exact List.getElem_mem _)
  have HX0 := aside (show x0.toNat = 48 → D.length = 1 by rw [hx0]; exact HLZ.out)
  obtain ⟨g1, g2⟩ := hx0d
  have n45 : ((x0.toNat : Int) == 45) = false := by rw [beq_eq_false_iff_ne]; omega
  rw [← hK]
  have HS := aside hS
  have HLEN := aside hlen
  have hSn : S + D.length < n := by omega
  clear hbs hn hc hD hx0 hlen hS hK HLZ g1 g2
  go_enter Tryf.func20, Tryf.ntmps20
  go_wp2
  go_loopg [1, 9] (D.length + 1) (fun g s1 s9 wr => ∃ (j m : Nat) (D1 D2 : List UInt8), g = D2.length + 1 ∧ j = D1.length ∧ s1 = .int .i64 (((S + j : Nat)) : Int) ∧ s9 = .int .u64 m ∧ wr = w ∧ Aside (D = D1 ++ D2) ∧ Aside (m = val D1))
  case atStart => exact ⟨0, 0, [], D, rfl, rfl, by go_num, by go_num, rfl, aside rfl, aside rfl⟩
  case round =>
    obtain ⟨j, m, D1, D2, hg, hj', rfl, rfl, rfl, HD, HM⟩ := hrel
    have HJ := aside hj'
    clear hj'
    cases D2 with
    | nil =>
      have hDD := HD.out
      rw [List.append_nil] at hDD
      have hjD : j = D.length := by rw [HJ.out, hDD]
      have hmu : m = u := by rw [HM.out, ← hDD]; exact HVAL.out
      have c44 : wr.cell? ⟨b, o + (S + j), none⟩ = some (.int .u8 44) := by
        rw [HC.out _ (by omega), AT.out j, hjD]
        simp [List.getD_eq_getElem?_getD]
      have hjz : (S : Int) + (j : Int) < (n : Int) := by omega
      have hjn : (((S : Int) + (j : Int)) == (S : Int)) = false := by rw [beq_eq_false_iff_ne]; omega
      have hmz : ¬ (9223372036854775807 : Int) < (m : Int) := by omega
      have HJD := aside hjD
      have HMU := aside hmu
      clear hDD hmu
      by_cases h48 : x0.toNat = 48
      · have h1 : D.length = 1 := HX0.out h48
        have e48 : ((x0.toNat : Int) == 48) = true := by rw [beq_iff_eq]; omega
        have hjl : ¬ (1 : Int) < (S : Int) + (j : Int) - (S : Int) := by omega
        clear h48 h1 hjD
        go_wp2
        refine bodyPost_ret (v := .tuple #[.int .i64 (m : Int), .int .i64 ((S : Int) + (j : Int)), .bool true]) (by simp [results, Tryf.results20]) rfl ⟨?_, rfl⟩
        have ej := HJD.out
        have em := HMU.out
        rw [← em, ← ej]
      · have e48 : ((x0.toNat : Int) == 48) = false := by rw [beq_eq_false_iff_ne]; omega
        clear h48 hjD
        go_wp2
        refine bodyPost_ret (v := .tuple #[.int .i64 (m : Int), .int .i64 ((S : Int) + (j : Int)), .bool true]) (by simp [results, Tryf.results20]) rfl ⟨?_, rfl⟩
        have ej := HJD.out
        have em := HMU.out
        rw [← em, ← ej]
    | cons d D2 =>
      have hdd : isDig d := HDIG.out d (by rw [HD.out]; simp)
      obtain ⟨d1, d2⟩ := hdd
      have hjl : j + D2.length + 1 = D.length := by rw [HD.out, HJ.out]; simp; omega
      have cd : wr.cell? ⟨b, o + (S + j), none⟩ = some (.int .u8 d.toNat) := by
        rw [HC.out _ (by omega), AT.out j, HD.out, HJ.out]
        simp [List.getD_eq_getElem?_getD]
      have hjz : (S : Int) + (j : Int) < (n : Int) := by omega
      have z1 : (48 : Int) ≤ (d.toNat : Int) := by omega
      have z2 : (d.toNat : Int) ≤ 57 := by omega
      obtain ⟨y, hy⟩ : ∃ y, y = d.toNat - 48 := ⟨_, rfl⟩
      have hyz : (d.toNat : Int) - 48 = (y : Int) := by omega
      have hmu : m * 10 + y ≤ u := by
        have h := val_mono (D1 ++ [d]) D2
        rw [val_snoc, ← HM.out, ← hy] at h
        have h2 := HVAL.out
        rw [HD.out] at h2
        simp at h
        omega
      have hq : ¬ (18446744073709551615 - (y : Int)) / 10 < (m : Int) := by omega
      have HN := aside (show m * 10 + y = val (D1 ++ [d]) by rw [val_snoc, ← HM.out, hy])
      have HD' := aside (show D = (D1 ++ [d]) ++ D2 by rw [HD.out]; simp)
      clear hy d1 d2
      go_wp2
      go_roundg (gk - 1)
      case measure => simp at hg; omega
      case rel => exact ⟨j + 1, m * 10 + y, D1 ++ [d], D2, by simp at hg; omega, by rw [HJ.out]; simp, by go_num, by go_num, rfl, HD', HN⟩

set_option maxHeartbeats 4000000 in
set_option maxRecDepth 100000 in
theorem readInt_neg (b o n c : Nat) (bs pre rest : List UInt8) (u : Nat) (w : World) (hbs : bs = (pre ++ [45]) ++ (decDigits u ++ 44 :: rest)) (hn : bs.length = n) (hbig : n ≤ 16777216) (hu : u ≤ 9223372036854775808) (hu0 : 1 ≤ u)
    (hc : ∀ i, i < n → w.cell? ⟨b, o + i, none⟩ = some (.int .u8 (bs.getD i 0).toNat)) :
    Calls Tryf.prog 20 #[.slice (some ⟨b, o, none⟩) n c, .int .i64 pre.length] w fun e w' => e = .returned (.tuple #[.int .i64 (-(u : Int)), .int .i64 ((pre.length + 1 + (decDigits u).length : Nat) : Int), .bool true]) ∧ w' = w := by
  obtain ⟨D, hD⟩ : ∃ D, D = decDigits u := ⟨_, rfl⟩
  rw [← hD] at hbs ⊢
  have HDIG := aside (show ∀ c ∈ D, isDig c by rw [hD]; exact digits_dig u)
  have HVAL := aside (show val D = u by rw [hD]; exact digits_val u)
  have HLZ := aside (show (D.getD 0 0).toNat = 48 → D.length = 1 by rw [hD]; exact digits_zero u)
  have hne : 0 < D.length := by rw [hD]; exact List.length_pos_iff.2 (digits_ne u)
  have hlen : n = pre.length + 1 + D.length + 1 + rest.length := by rw [← hn, hbs]; simp; omega
  obtain ⟨S, hS⟩ : ∃ S, S = pre.length + 1 := ⟨_, rfl⟩
  obtain ⟨K, hK⟩ : ∃ K, K = pre.length := ⟨_, rfl⟩
  have AT := aside (show ∀ j, bs.getD (S + j) 0 = (D ++ 44 :: rest).getD j 0 from fun j => by
    rw [hbs, hS, List.getD_eq_getElem?_getD, List.getElem?_append_right (by simp), List.getD_eq_getElem?_getD]
    congr 2
    simp)
  have hKn : K < n := by omega
  have hKz : (K : Int) < (n : Int) := by omega
  have hK0 : decide ((K : Int) < 0) = false := by rw [decide_eq_false_iff_not]; omega
  have hK1 : decide (n < K) = false := by rw [decide_eq_false_iff_not]; omega
  have hK1' : ¬ (n : Int) < (K : Int) := by omega
  have HC := aside hc
  have c45 : w.cell? ⟨b, o + K, none⟩ = some (.int .u8 45) := by
    rw [hc K hKn, hbs, hK]; simp
  have hSK : S = K + 1 := by omega
  obtain ⟨x0, hx0⟩ : ∃ x, x = D.getD 0 0 := ⟨_, rfl⟩
  have c0 : w.cell? ⟨b, o + S, none⟩ = some (.int .u8 x0.toNat) := by
    have h := hc S (by omega)
    have h2 := AT.out 0
    rw [Nat.add_zero] at h2
    rw [h, h2, hx0, List.getD_eq_getElem?_getD, List.getElem?_append_left hne, List.getD_eq_getElem?_getD]
  have hx0d : isDig x0 := HDIG.out x0 (by
    rw [hx0, List.getD_eq_getElem?_getD, List.getElem?_eq_getElem hne]
    exact List.getElem_mem _)
  have HX0 := aside (show x0.toNat = 48 → D.length = 1 by rw [hx0]; exact HLZ.out)
  obtain ⟨g1, g2⟩ := hx0d
  have n45 : ((x0.toNat : Int) == 45) = false := by rw [beq_eq_false_iff_ne]; omega
  rw [← hK]
  have HS := aside hS
  have HLEN := aside hlen
  have hSn : S + D.length < n := by omega
  subst hSK
  clear hbs hn hc hD hx0 hlen hS hK HLZ g1 g2
  go_enter Tryf.func20, Tryf.ntmps20
  go_wp2
  go_loopg [1, 9] (D.length + 1) (fun g s1 s9 wr => ∃ (j m : Nat) (D1 D2 : List UInt8), g = D2.length + 1 ∧ j = D1.length ∧ s1 = .int .i64 (((K + 1 + j : Nat)) : Int) ∧ s9 = .int .u64 m ∧ wr = w ∧ Aside (D = D1 ++ D2) ∧ Aside (m = val D1))
  case atStart => exact ⟨0, 0, [], D, rfl, rfl, by go_num, by go_num, rfl, aside rfl, aside rfl⟩
  case round =>
    obtain ⟨j, m, D1, D2, hg, hj', rfl, rfl, rfl, HD, HM⟩ := hrel
    have HJ := aside hj'
    clear hj'
    cases D2 with
    | nil =>
      have hDD := HD.out
      rw [List.append_nil] at hDD
      have hjD : j = D.length := by rw [HJ.out, hDD]
      have hmu : m = u := by rw [HM.out, ← hDD]; exact HVAL.out
      have c44 : wr.cell? ⟨b, o + (K + 1 + j), none⟩ = some (.int .u8 44) := by
        rw [HC.out _ (by omega), AT.out j, hjD]
        simp [List.getD_eq_getElem?_getD]
      have hjz : ((K : Int) + 1) + (j : Int) < (n : Int) := by omega
      have hjn : ((((K : Int) + 1) + (j : Int)) == ((K : Int) + 1)) = false := by rw [beq_eq_false_iff_ne]; omega
      have hmz : ¬ (9223372036854775808 : Int) < (m : Int) := by omega
      have hm0 : ((m : Int) == 0) = false := by rw [beq_eq_false_iff_ne]; omega
      have HJD := aside hjD
      have HNF := aside (not_fin m (by omega) (by omega))
      have HMU := aside hmu
      clear hDD hmu
      by_cases h48 : x0.toNat = 48
      · have h1 : D.length = 1 := HX0.out h48
        have e48 : ((x0.toNat : Int) == 48) = true := by rw [beq_iff_eq]; omega
        have hjl : ¬ (1 : Int) < ((K : Int) + 1) + (j : Int) - ((K : Int) + 1) := by omega
        clear h48 h1 hjD
        go_wp2
        refine bodyPost_ret (v := .tuple #[.int .i64 (-(m : Int)), .int .i64 (((K : Int) + 1) + (j : Int)), .bool true]) (by simp [results, Tryf.results20]; exact HNF.out) rfl ⟨?_, rfl⟩
        have ej := HJD.out
        have em := HMU.out
        rw [← em, ← ej]
      · have e48 : ((x0.toNat : Int) == 48) = false := by rw [beq_eq_false_iff_ne]; omega
        clear h48 hjD
        go_wp2
        refine bodyPost_ret (v := .tuple #[.int .i64 (-(m : Int)), .int .i64 (((K : Int) + 1) + (j : Int)), .bool true]) (by simp [results, Tryf.results20]; exact HNF.out) rfl ⟨?_, rfl⟩
        have ej := HJD.out
        have em := HMU.out
        rw [← em, ← ej]
    | cons d D2 =>
      have hdd : isDig d := HDIG.out d (by rw [HD.out]; simp)
      obtain ⟨d1, d2⟩ := hdd
      have hjl : j + D2.length + 1 = D.length := by rw [HD.out, HJ.out]; simp; omega
      have cd : wr.cell? ⟨b, o + (K + 1 + j), none⟩ = some (.int .u8 d.toNat) := by
        rw [HC.out _ (by omega), AT.out j, HD.out, HJ.out]
        simp [List.getD_eq_getElem?_getD]
      have hjz : ((K : Int) + 1) + (j : Int) < (n : Int) := by omega
      have z1 : (48 : Int) ≤ (d.toNat : Int) := by omega
      have z2 : (d.toNat : Int) ≤ 57 := by omega
      obtain ⟨y, hy⟩ : ∃ y, y = d.toNat - 48 := ⟨_, rfl⟩
      have hyz : (d.toNat : Int) - 48 = (y : Int) := by omega
      have hmu : m * 10 + y ≤ u := by
        have h := val_mono (D1 ++ [d]) D2
        rw [val_snoc, ← HM.out, ← hy] at h
        have h2 := HVAL.out
        rw [HD.out] at h2
        simp at h
        omega
      have hq : ¬ (18446744073709551615 - (y : Int)) / 10 < (m : Int) := by omega
      have HN := aside (show m * 10 + y = val (D1 ++ [d]) by rw [val_snoc, ← HM.out, hy])
      have HD' := aside (show D = (D1 ++ [d]) ++ D2 by rw [HD.out]; simp)
      clear hy d1 d2
      go_wp2
      go_roundg (gk - 1)
      case measure => simp at hg; omega
      case rel => exact ⟨j + 1, m * 10 + y, D1 ++ [d], D2, by simp at hg; omega, by rw [HJ.out]; simp, by go_num, by go_num, rfl, HD', HN⟩

end Go.Proofs.Qxb6003874aFmt
