/-
  THE WALKS OF THE SMALL FUNCTIONS: zzclb1Blank, zzBytes, zzclb1Clone, zzclb1Equal, runLength, trimIndent, trimBlanks.
-/
import Derived.Test.Qxb6606271aDoorProg
import Derived.Test.Qxb6606271aDoorPlain
import Derived.WalkKit
import Derived.WalkSpells
import Derived.Deep.LoopGhost
import Derived.Deep.QuietTactic
import Derived.BigQuiet
namespace Go.Proofs.Qxb6606271aDoor
open Go.RowKit
open Pl

/-- A slice of bytes as it lies: where there is a byte: an address of no spot, with its cells; where there is none: whatever the address. -/
def BA (w : World) (p : Option Addr) (n : Nat) (bs : List UInt8) : Prop := 0 < n → ∃ b o, p = some ⟨b, o, none⟩ ∧ ∀ i, i < n → w.cell? ⟨b, o + i, none⟩ = some (.int .u8 (bs.getD i 0).toNat)
/-- 's[j:]' as the model slices it: at the very capacity the address stays. -/
def frV (p : Option Addr) (n c j : Nat) : Value := .slice (if c = j then p else p.map (fun x => x.add j)) (n - j) (c - j)

theorem aside {q : Prop} (h : q) : Aside q := h

theorem bl_yes {x : UInt8} (h : bl x = true) : x = 32 ∨ x = 9 := by
  unfold bl at h
  simpa using h
theorem bl_no {x : UInt8} (h : bl x = false) : ((x.toNat : Int) == 32) = false ∧ ((x.toNat : Int) == 9) = false := by
  unfold bl at h
  simp at h
  constructor
  · rw [beq_eq_false_iff_ne]
    intro e
    exact h.1 (UInt8.toNat_inj.1 (by show x.toNat = 32; omega))
  · rw [beq_eq_false_iff_ne]
    intro e
    exact h.2 (UInt8.toNat_inj.1 (by show x.toNat = 9; omega))
theorem ne_byte {x : UInt8} (c : UInt8) (h : ¬ x = c) : ((x.toNat : Int) == (c.toNat : Int)) = false := by
  rw [beq_eq_false_iff_ne]
  intro e
  exact h (UInt8.toNat_inj.1 (by omega))

set_option maxHeartbeats 400000 in
theorem blank_yes (x : UInt8) (w : World) (h : bl x = true) : Calls Tryd.prog 16 #[.int .u8 x.toNat] w fun e w' => e = .returned (.bool true) ∧ w' = w := by
  rcases bl_yes h with rfl | rfl
  · go_enter Tryd.func16, Tryd.ntmps16
    go_wp2
    go_ret
    exact ⟨rfl, rfl⟩
  · go_enter Tryd.func16, Tryd.ntmps16
    go_wp2
    go_ret
    exact ⟨rfl, rfl⟩
set_option maxHeartbeats 400000 in
theorem blank_no (x : UInt8) (w : World) (h : bl x = false) : Calls Tryd.prog 16 #[.int .u8 x.toNat] w fun e w' => e = .returned (.bool false) ∧ w' = w := by
  obtain ⟨h1, h2⟩ := bl_no h
  clear h
  go_enter Tryd.func16, Tryd.ntmps16
  go_wp2
  go_ret
  exact ⟨rfl, rfl⟩

set_option maxHeartbeats 400000 in
theorem zzBytes_no (p : Option Addr) (n c : Nat) (w : World) (h : 1048576 < n) (hm : n ≤ maxLen) : Calls Tryd.prog 9 #[.slice p n c] w fun e w' => e = .returned (.bool false) ∧ w' = w := by
  unfold maxLen at hm
  have h1 : (1048576 : Int) < (n : Int) := by omega
  go_enter Tryd.func9, Tryd.ntmps9
  go_wp2
  go_ret
  exact ⟨rfl, rfl⟩
set_option maxHeartbeats 400000 in
theorem zzBytes_yes (p : Option Addr) (n c : Nat) (w : World) (h : n ≤ 1048576) : Calls Tryd.prog 9 #[.slice p n c] w fun e w' => e = .returned (.bool true) ∧ w' = w := by
  have h1 : ¬ (1048576 : Int) < (n : Int) := by omega
  have h2 : (n : Int) ≤ 1048576 := by omega
  go_enter Tryd.func9, Tryd.ntmps9
  go_wp2
  go_ret
  exact ⟨rfl, rfl⟩

/-! ### runLength(s, '#') -/
set_option maxHeartbeats 1000000 in
theorem runLength_hash (p : Option Addr) (n c : Nat) (bs : List UInt8) (w : World) (hb : bs.length = n) (hbig : n ≤ 1048576) (h1 : BA w p n bs) :
    Calls Tryd.prog 22 #[.slice p n c, .int .u8 35] w fun e w' => e = .returned (.int .i64 (run 35 bs)) ∧ w' = w := by
  have H1 := aside (h1)
  clear h1
  go_enter Tryd.func22, Tryd.ntmps22
  go_wp2
  go_loopg [5] n (fun g s5 wr => ∃ k : Nat, k ≤ n ∧ k + g = n ∧ s5 = .int .i64 k ∧ wr = w ∧ Aside (∀ j, j < k → bs.getD j 0 = 35))
  case atStart =>
    have I0 : Aside (∀ j, j < 0 → bs.getD j 0 = 35) := fun j hj => by omega
    exact ⟨0, Nat.zero_le _, by omega, rfl, rfl, I0⟩
  case round =>
    obtain ⟨k, hkn, hkg, rfl, rfl, I⟩ := hrel
    by_cases hlt : k < n
    · have hltz : (k : Int) < (n : Int) := by omega
      obtain ⟨blk, o, rfl, hc⟩ := H1.out (by omega)
      have hct := hc k hlt
      obtain ⟨x, hx⟩ : ∃ x, x = bs.getD k 0 := ⟨_, rfl⟩
      rw [← hx] at hct
      have HX : Aside (bs.getD k 0 = x) := hx.symm
      clear hx hc
      by_cases h35 : x = 35
      · subst h35
        go_wp2
        go_roundg (gk - 1)
        case measure => omega
        case rel =>
          have I2 : Aside (∀ j, j < k + 1 → bs.getD j 0 = 35) := fun j hj => by
            by_cases e : j = k
            · subst e; exact HX.out
            · exact I.out j (by omega)
          exact ⟨k + 1, by omega, by omega, by go_num, rfl, I2⟩
      · have hne := ne_byte 35 h35
        have hne' : ((x.toNat : Int) == 35) = false := hne
        have N35 : Aside (¬ x = 35) := h35
        clear hne h35
        go_wp2
        go_ret
        refine ⟨?_, rfl⟩
        have : run 35 bs = k := run_spec 35 bs k (by omega) I.out (fun _ => by rw [HX.out]; exact N35.out)
        rw [this]
        rfl
    · have hltz : ¬ (k : Int) < (n : Int) := by omega
      go_wp2
      go_ret
      refine ⟨?_, rfl⟩
      have : run 35 bs = k := run_spec 35 bs k (by omega) I.out (fun h => by omega)
      rw [this]
      rfl

/-! ### trimIndent, trimBlanks -/
theorem lead_spec (l : List UInt8) (k : Nat) (hk : k ≤ l.length) (h1 : ∀ j, j < k → bl (l.getD j 0) = true) (h2 : k < l.length → bl (l.getD k 0) = false) : lead l = k := by
  induction l generalizing k with
  | nil => simp at hk; subst hk; rfl
  | cons a l ih =>
    unfold lead
    cases k with
    | zero =>
      have := h2 (by simp)
      simp at this
      rw [List.takeWhile_cons_of_neg (by simp [this])]; rfl
    | succ k =>
      have ha : bl a = true := by simpa using h1 0 (by omega)
      rw [List.takeWhile_cons_of_pos ha, List.length_cons]
      congr 1
      exact ih k (by simpa using hk) (fun j hj => by simpa using h1 (j + 1) (by omega)) (fun hj => by simpa using h2 (by simpa using hj))

set_option maxHeartbeats 1000000 in
theorem trimIndent_any (p : Option Addr) (n c : Nat) (bs : List UInt8) (w : World) (hb : bs.length = n) (hnc : n ≤ c) (hbig : c ≤ 1048576) (h1 : BA w p n bs) :
    Calls Tryd.prog 21 #[.slice p n c] w fun e w' => e = .returned (frV p n c (lead bs)) ∧ w' = w := by
  have H1 := aside (h1)
  clear h1
  generalize hres : lead bs = res
  have RES : Aside (lead bs = res) := hres
  clear hres
  go_enter Tryd.func21, Tryd.ntmps21
  go_wp2
  go_loopg [3] n (fun g s3 wr => ∃ k : Nat, k ≤ n ∧ k + g = n ∧ s3 = .int .i64 k ∧ wr = w ∧ Aside (∀ j, j < k → bl (bs.getD j 0) = true))
  case atStart =>
    have I0 : Aside (∀ j, j < 0 → bl (bs.getD j 0) = true) := fun j hj => by omega
    exact ⟨0, Nat.zero_le _, by omega, rfl, rfl, I0⟩
  case round =>
    obtain ⟨k, hkn, hkg, rfl, rfl, I⟩ := hrel
    by_cases hlt : k < n
    · have hltz : (k : Int) < (n : Int) := by omega
      obtain ⟨blk, o, rfl, hc⟩ := H1.out (by omega)
      have hct := hc k hlt
      obtain ⟨x, hx⟩ : ∃ x, x = bs.getD k 0 := ⟨_, rfl⟩
      rw [← hx] at hct
      have HX : Aside (bs.getD k 0 = x) := hx.symm
      clear hx hc
      cases hbx : bl x with
      | true =>
        have HB : Aside (bl x = true) := hbx
        have I2 : Aside (∀ j, j < k + 1 → bl (bs.getD j 0) = true) := fun j hj => by
          by_cases e : j = k
          · subst e; rw [HX.out]; exact HB.out
          · exact I.out j (by omega)
        clear HX HB I
        rcases bl_yes hbx with rfl | rfl
        all_goals
          clear hbx
          go_wp2
          go_roundg (gk - 1)
          case measure => omega
          case rel => exact ⟨k + 1, by omega, by omega, by go_num, rfl, I2⟩
      | false =>
        obtain ⟨n1, n2⟩ := bl_no hbx
        have HB : Aside (bl x = false) := hbx
        clear hbx
        have : res = k := by rw [← RES.out]; exact lead_spec bs k (by omega) I.out (fun _ => by rw [HX.out]; exact HB.out)
        subst this
        have hcr : ¬ c = res := by omega
        go_wp2
        go_ret
        refine ⟨?_, rfl⟩
        simp [frV, hcr, Addr.add_lit]
    · have hltz : ¬ (k : Int) < (n : Int) := by omega
      have : res = k := by rw [← RES.out]; exact lead_spec bs k (by omega) I.out (fun h => by omega)
      subst this
      go_wp2
      all_goals
        go_ret
        refine ⟨?_, rfl⟩
        simp [frV, *]

theorem frV_eq (p : Option Addr) (n c j : Nat) (bs : List UInt8) (hnc : n ≤ c) (hj : j ≤ n) :
    ∃ p', frV p n c j = .slice p' (n - j) (c - j) ∧ ∀ w, BA w p n bs → BA w p' (n - j) (bs.drop j) := by
  refine ⟨_, rfl, fun w h1 h0 => ?_⟩
  obtain ⟨b, o, rfl, hc⟩ := h1 (by omega)
  refine ⟨b, o + j, ?_, fun i hi => ?_⟩
  · rw [if_neg (by omega)]
    simp [Addr.add_lit]
  · rw [Nat.add_assoc, hc (j + i) (by omega)]
    simp [List.getD_eq_getElem?_getD]

theorem BA.take {w : World} {p : Option Addr} {n : Nat} {bs : List UInt8} (h : BA w p n bs) {k : Nat} (hk : k ≤ n) : BA w p k (bs.take k) := fun h0 => by
  obtain ⟨b, o, rfl, hc⟩ := h (by omega)
  exact ⟨b, o, rfl, fun i hi => by rw [hc i (by omega)]; simp [List.getD, hi]⟩
theorem BA.below {w w' : World} {p : Option Addr} {n : Nat} {bs : List UInt8} (h : BA w p n bs) (hB : Below w.heap.size w w') : BA w' p n bs := fun h0 => by
  obtain ⟨b, o, rfl, hc⟩ := h h0
  exact ⟨b, o, rfl, fun i hi => by rw [hB.cell (p := ⟨b, o + i, none⟩) (World.block_lt_of_cell? _ _ (hc i hi))]; exact hc i hi⟩

theorem drop_lead (l : List UInt8) : l.drop (lead l) = l.dropWhile bl := by
  induction l with
  | nil => rfl
  | cons a l ih =>
    unfold lead at ih ⊢
    cases h : bl a with
    | true => rw [List.takeWhile_cons_of_pos h, List.dropWhile_cons_of_pos h, List.length_cons, List.drop_succ_cons, ih]
    | false => rw [List.takeWhile_cons_of_neg (by simp [h]), List.dropWhile_cons_of_neg (by simp [h])]; rfl
theorem lead_le (l : List UInt8) : lead l ≤ l.length := by
  unfold lead
  exact (List.takeWhile_prefix _).length_le

set_option maxHeartbeats 1000000 in
theorem trimBlanks_any (p : Option Addr) (n c : Nat) (bs : List UInt8) (w : World) (hb : bs.length = n) (hnc : n ≤ c) (hbig : c ≤ 1048576) (h1 : BA w p n bs) :
    Calls Tryd.prog 23 #[.slice p n c] w fun e w' => (∃ p' c', e = .returned (.slice p' (tb bs).length c') ∧ (tb bs).length ≤ c' ∧ c' ≤ c ∧ ∀ w2, BA w2 p n bs → BA w2 p' (tb bs).length (tb bs)) ∧ w' = w := by
  have key : ∀ k, k ≤ n → (∀ (j : Nat) b, k ≤ j → bs[j]? = some b → bl b = true) → (∀ b, 0 < k → bs[k - 1]? = some b → bl b = false) →
      Calls Tryd.prog 21 #[.slice p k c] w fun e w' => (∃ p' c', e = .returned (.slice p' (tb bs).length c') ∧ (tb bs).length ≤ c' ∧ c' ≤ c ∧ ∀ w2, BA w2 p n bs → BA w2 p' (tb bs).length (tb bs)) ∧ w' = w := by
    intro k hk hA hB
    have ht : Lib.trimRightS bs [32, 9] = bs.take k := Lib.trimRightS_take bs [32, 9] k (by omega) hA hB
    have hlen : (bs.take k).length = k := by rw [List.length_take]; omega
    have htb : tb bs = (bs.take k).drop (lead (bs.take k)) := by unfold tb; rw [ht, drop_lead]
    have hle := lead_le (bs.take k)
    rw [hlen] at hle
    have hl2 : (tb bs).length = k - lead (bs.take k) := by rw [htb, List.length_drop, hlen]
    refine (trimIndent_any p k c (bs.take k) w hlen (by omega) hbig (h1.take hk)).mono ?_
    rintro e w' ⟨rfl, rfl⟩
    obtain ⟨p', e1, hp'⟩ := frV_eq p k c (lead (bs.take k)) (bs.take k) (by omega) hle
    rw [e1]
    refine ⟨⟨p', c - lead (bs.take k), by rw [hl2], by omega, by omega, fun w2 h2 => ?_⟩, rfl⟩
    rw [hl2, htb]
    exact hp' w2 (h2.take hk)
  have KEY := aside (key)
  have H1 := aside (h1)
  clear h1 key
  go_enter Tryd.func23, Tryd.ntmps23
  go_wp2
  go_loopg [3] n (fun g s3 wr => ∃ k : Nat, k ≤ n ∧ k ≤ g ∧ s3 = .int .i64 k ∧ wr = w ∧ Aside (∀ (j : Nat) b, k ≤ j → bs[j]? = some b → bl b = true))
  case atStart =>
    have I0 : Aside (∀ (j : Nat) b, n ≤ j → bs[j]? = some b → bl b = true) := fun j b hj hy => by
      rw [List.getElem?_eq_none (by omega)] at hy
      cases hy
    exact ⟨n, Nat.le_refl _, Nat.le_refl _, rfl, rfl, I0⟩
  case round =>
    obtain ⟨k, hkn, hkg, rfl, rfl, I⟩ := hrel
    by_cases h0 : 0 < k
    · obtain ⟨t, rfl⟩ : ∃ t, k = t + 1 := ⟨k - 1, by omega⟩
      obtain ⟨blk, o, rfl, hc⟩ := H1.out (by omega)
      have hct := hc t (by omega)
      obtain ⟨x, hx⟩ : ∃ x, x = bs.getD t 0 := ⟨_, rfl⟩
      rw [← hx] at hct
      have hxl : bs[t]? = some x := by rw [hx]; simp [List.getD_eq_getElem?_getD, List.getElem?_eq_getElem (show t < bs.length by omega)]
      have HX : Aside (bs[t]? = some x) := hxl
      clear hx hxl hc
      have hqz : ((t + 1 : Nat) : Int) = (t : Int) + 1 := by omega
      have htn : (t : Int) < (n : Int) := by omega
      cases hbx : bl x with
      | true =>
        have HB : Aside (bl x = true) := hbx
        have I2 : Aside (∀ (j : Nat) y, t ≤ j → bs[j]? = some y → bl y = true) := fun j y hj hy => by
          by_cases e : j = t
          · subst e; rw [HX.out] at hy; rw [← Option.some.inj hy]; exact HB.out
          · exact I.out j y (by omega) hy
        clear HX HB I
        rcases bl_yes hbx with rfl | rfl
        all_goals
          clear hbx
          go_wp2_with fail
          go_roundg t
          case measure => omega
          case rel => exact ⟨t, by omega, Nat.le_refl _, by first | rfl | simp, rfl, I2⟩
      | false =>
        obtain ⟨n1, n2⟩ := bl_no hbx
        have KK := aside (KEY.out (t + 1) hkn I.out (fun y _ hy => by rw [show t + 1 - 1 = t from rfl, HX.out] at hy; rw [← Option.some.inj hy]; exact hbx))
        clear hbx
        go_wp2_with (go_at_call 21; refine KK.out.mono ?_; rintro e w' ⟨⟨p', c', rfl, hx1, hx2, hx3⟩, rfl⟩)
        go_ret
        exact ⟨⟨p', c', rfl, hx1, hx2, hx3⟩, rfl⟩
    · obtain rfl : k = 0 := by omega
      have KK := aside (KEY.out 0 (by omega) I.out (fun y h => absurd h (Nat.lt_irrefl _)))
      go_wp2_with (go_at_call 21; refine KK.out.mono ?_; rintro e w' ⟨⟨p', c', rfl, hx1, hx2, hx3⟩, rfl⟩)
      go_ret
      exact ⟨⟨p', c', rfl, hx1, hx2, hx3⟩, rfl⟩

end Go.Proofs.Qxb6606271aDoor
