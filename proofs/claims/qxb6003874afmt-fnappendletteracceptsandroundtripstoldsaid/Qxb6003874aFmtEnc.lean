/-
  JSON's ESCAPES, as plain lists of bytes.
-/
namespace Go.Proofs.Qxb6003874aFmt

/-- The hex digit of k, below 16. -/
def hexd (k : Nat) : UInt8 := UInt8.ofNat (if k < 10 then 48 + k else 87 + k)
/-- A byte that stands for itself. -/
def plainB (c : UInt8) : Prop := 32 ≤ c.toNat ∧ c.toNat ≠ 34 ∧ c.toNat ≠ 92
/-- How a byte is written. -/
def esc (c : UInt8) : List UInt8 :=
  if c.toNat = 34 ∨ c.toNat = 92 then [92, c] else if c.toNat = 8 then [92, 98] else if c.toNat = 12 then [92, 102] else if c.toNat = 10 then [92, 110] else if c.toNat = 13 then [92, 114] else if c.toNat = 9 then [92, 116]
  else if c.toNat < 32 then [92, 117, 48, 48, hexd (c.toNat / 16), hexd (c.toNat % 16)] else [c]
/-- How a text is written, without its quotes. -/
def encS (l : List UInt8) : List UInt8 := l.flatMap esc
theorem esc_plain {c : UInt8} (h : plainB c) : esc c = [c] := by
  obtain ⟨h1, h2, h3⟩ := h
  unfold esc
  rw [if_neg (by omega), if_neg (by omega), if_neg (by omega), if_neg (by omega), if_neg (by omega), if_neg (by omega), if_neg (by omega)]
theorem esc_len (c : UInt8) : (esc c).length ≤ 6 := by
  unfold esc
  repeat' split
  all_goals simp
theorem encS_nil : encS [] = [] := rfl
theorem encS_cons (c : UInt8) (l : List UInt8) : encS (c :: l) = esc c ++ encS l := rfl
theorem encS_append (a b : List UInt8) : encS (a ++ b) = encS a ++ encS b := by simp [encS]
theorem encS_len : ∀ l : List UInt8, (encS l).length ≤ 6 * l.length
  | [] => by simp [encS]
  | c :: l => by
    have h := encS_len l
    have h2 := esc_len c
    rw [encS_cons, List.length_append, List.length_cons]
    omega
theorem encS_plain : ∀ l : List UInt8, (∀ c ∈ l, plainB c) → encS l = l
  | [], _ => rfl
  | c :: l, h => by
    rw [encS_cons, esc_plain (h c (by simp)), encS_plain l (fun x hx => h x (by simp [hx]))]
    rfl
theorem mem_slice {l : List UInt8} {d i : Nat} {c : UInt8} (h : c ∈ (l.drop d).take (i - d)) : ∃ j, d ≤ j ∧ j < i ∧ c = l.getD j 0 := by
  obtain ⟨k, hk, rfl⟩ := List.mem_iff_getElem.1 h
  simp at hk
  refine ⟨d + k, by omega, by omega, ?_⟩
  simp [List.getD_eq_getElem?_getD, show d + k < l.length by omega]
/-- What has been written up to d, and the plain bytes from there to i: what is to be written up to i. -/
theorem encS_upto (l : List UInt8) (d i : Nat) (hd : d ≤ i) (h : ∀ j, d ≤ j → j < i → plainB (l.getD j 0)) : encS (l.take d) ++ (l.drop d).take (i - d) = encS (l.take i) := by
  have e : l.take i = l.take d ++ (l.drop d).take (i - d) := by
    conv => lhs; rw [show i = d + (i - d) by omega]
    rw [List.take_add]
  rw [e, encS_append]
  congr 1
  exact (encS_plain _ (fun c hc => by
    obtain ⟨j, h1, h2, rfl⟩ := mem_slice hc
    exact h j h1 h2)).symm
theorem encS_next (l : List UInt8) (i : Nat) (hi : i < l.length) : encS (l.take (i + 1)) = encS (l.take i) ++ esc (l.getD i 0) := by
  rw [List.take_add_one, encS_append]
  congr 1
  rw [List.getD_eq_getElem?_getD, List.getElem?_eq_getElem hi]
  simp [encS]

end Go.Proofs.Qxb6003874aFmt
