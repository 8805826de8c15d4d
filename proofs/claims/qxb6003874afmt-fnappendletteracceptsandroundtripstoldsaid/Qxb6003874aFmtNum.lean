/-
  THE DECIMAL NUMERAL READ BACK, as plain lists of bytes.
-/
import Derived.Lib.ItoaNum
namespace Go.Proofs.Qxb6003874aFmt
open Go.Lib

/-- The number that a row of digits spells. -/
def val (l : List UInt8) : Nat := l.foldl (fun a d => a * 10 + (d.toNat - 48)) 0
theorem val_nil : val [] = 0 := rfl
theorem val_snoc (l : List UInt8) (d : UInt8) : val (l ++ [d]) = val l * 10 + (d.toNat - 48) := by simp [val]
/-- A byte that is a digit. -/
def isDig (c : UInt8) : Prop := 48 ≤ c.toNat ∧ c.toNat ≤ 57
theorem dig_toNat {r : Nat} (h : r < 10) : (UInt8.ofNat (48 + r)).toNat = 48 + r := by
  rw [UInt8.toNat_ofNat']
  omega
theorem digits_dig (u : Nat) : ∀ c ∈ decDigits u, isDig c := by
  induction u using Nat.strongRecOn with
  | _ u ih =>
    intro c hc
    rw [decDigits] at hc
    split at hc
    · rename_i h
      obtain rfl := List.mem_singleton.1 hc
      unfold isDig
      rw [dig_toNat h]
      omega
    · rcases List.mem_append.1 hc with h | h
      · exact ih (u / 10) (by omega) c h
      · obtain rfl := List.mem_singleton.1 h
        unfold isDig
        rw [dig_toNat (by omega)]
        omega
theorem digits_val (u : Nat) : val (decDigits u) = u := by
  induction u using Nat.strongRecOn with
  | _ u ih =>
    rw [decDigits]
    split
    · rename_i h
      show 0 * 10 + ((UInt8.ofNat (48 + u)).toNat - 48) = u
      rw [dig_toNat h]
      omega
    · rw [val_snoc, ih (u / 10) (by omega), dig_toNat (by omega)]
      omega
theorem digits_ne (u : Nat) : decDigits u ≠ [] := by
  rw [decDigits]
  split
  · simp
  · simp
/-- A leading zero: the numeral is that of 0, one byte. -/
theorem digits_zero (u : Nat) (h : ((decDigits u).getD 0 0).toNat = 48) : (decDigits u).length = 1 := by
  induction u using Nat.strongRecOn with
  | _ u ih =>
    rw [decDigits] at h ⊢
    split
    · rfl
    · rename_i hu
      rw [dif_neg hu] at h
      exfalso
      have hne := digits_ne (u / 10)
      have hpos : 0 < (decDigits (u / 10)).length := List.length_pos_iff.2 hne
      have e : (decDigits (u / 10) ++ [UInt8.ofNat (48 + u % 10)]).getD 0 0 = (decDigits (u / 10)).getD 0 0 := by
        rw [List.getD_eq_getElem?_getD, List.getElem?_append_left hpos, ← List.getD_eq_getElem?_getD]
      rw [e] at h
      have h1 := ih (u / 10) (by omega) h
      have h2 := digits_val (u / 10)
      cases hl : decDigits (u / 10) with
      | nil => exact hne hl
      | cons c t =>
        rw [hl] at h1 h h2
        have ht : t = [] := by simpa using h1
        subst ht
        simp [val] at h2 h
        omega
theorem val_mono (a b : List UInt8) : val a ≤ val (a ++ b) := by
  induction b generalizing a with
  | nil => simp
  | cons d b ih =>
    have h := ih (a ++ [d])
    rw [val_snoc, List.append_assoc] at h
    simp at h
    omega
theorem digits_len (u : Nat) (h : u ≤ 9223372036854775808) : (decDigits u).length ≤ 19 := by
  rw [decDigits_length]
  rcases Nat.lt_or_ge 19 (nDigits u) with h1 | h1
  · exfalso
    have key : ∀ v, 10 ^ (nDigits v - 1) ≤ v ∨ v = 0 := by
      intro v
      induction v using Nat.strongRecOn with
      | _ v ih =>
        by_cases hv : v < 10
        · rw [nDigits_small hv]; simp; omega
        · left
          rw [nDigits_big hv]
          rcases ih (v / 10) (by omega) with h2 | h2
          · have hp := nDigits_pos (v / 10)
            rw [show nDigits (v / 10) + 1 - 1 = (nDigits (v / 10) - 1) + 1 by omega, Nat.pow_succ]
            omega
          · omega
    rcases key u with h2 | h2
    · have h3 : 10 ^ 19 ≤ 10 ^ (nDigits u - 1) := Nat.pow_le_pow_right (by omega) (by omega)
      have h4 : (10 : Nat) ^ 19 = 10000000000000000000 := by decide
      omega
    · subst h2
      rw [nDigits_small (by omega)] at h1
      omega
  · exact h1
theorem itoa_len (z : Int) (h0 : -9223372036854775808 ≤ z) (h1 : z ≤ 9223372036854775807) : (itoa z).length ≤ 20 := by
  unfold itoa
  split
  · have := digits_len z.natAbs (by omega)
    simp
    omega
  · have := digits_len z.toNat (by omega)
    omega

end Go.Proofs.Qxb6003874aFmt
