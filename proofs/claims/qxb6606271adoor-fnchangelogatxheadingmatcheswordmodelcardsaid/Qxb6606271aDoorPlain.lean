/-
  THE PLAIN LAW (no Go in sight): what changelog.atxHeading computes, as a function on lists of bytes ('head'), and that the word model's answer is the same ('body_blank', 'body_words').
-/
import Derived.Lib.SlTrimSet
namespace Go.Proofs.Qxb6606271aDoor.Pl
open Go.Lib (trimRightS)

/-- A space or a tab. -/
def bl (c : UInt8) : Bool := ([32, 9] : List UInt8).contains c
/-- How many times c repeats at the start. -/
def run (c : UInt8) (l : List UInt8) : Nat := (l.takeWhile (· == c)).length
/-- How many blanks stand at the start. -/
def lead (l : List UInt8) : Nat := (l.takeWhile bl).length
/-- trimBlanks. -/
def tb (l : List UInt8) : List UInt8 := (trimRightS l [32, 9]).dropWhile bl
/-- The closing run of '#' off, where it stands alone. -/
def fin (t : List UInt8) : List UInt8 :=
  if trimRightS t [35] = [] ∨ bl ((trimRightS t [35]).getLastD 0) = true then trimRightS (trimRightS t [35]) [32, 9] else t
def body (t : List UInt8) : List UInt8 := fin (tb t)

theorem tr_app (a b cs : List UInt8) (h : ∀ x ∈ b, cs.contains x = true) : trimRightS (a ++ b) cs = trimRightS a cs := by
  unfold trimRightS
  rw [List.reverse_append, List.dropWhile_append_of_pos (by intro x hx; exact h x (List.mem_reverse.1 hx))]
theorem tr_nil (cs : List UInt8) : trimRightS [] cs = [] := rfl
theorem tr_stop (a cs : List UInt8) (x : UInt8) (h : cs.contains x = false) : trimRightS (a ++ [x]) cs = a ++ [x] := by
  unfold trimRightS
  rw [List.reverse_append, List.reverse_singleton, List.singleton_append, List.dropWhile_cons_of_neg (by rw [h]; simp)]
  simp
theorem dw_app (a b : List UInt8) (h : ∀ x ∈ a, bl x = true) : (a ++ b).dropWhile bl = b.dropWhile bl := List.dropWhile_append_of_pos h
theorem dw_stop (x : UInt8) (l : List UInt8) (h : bl x = false) : (x :: l).dropWhile bl = x :: l := List.dropWhile_cons_of_neg (by rw [h]; simp)
theorem last_app (a : List UInt8) (x : UInt8) : (a ++ [x]).getLastD 0 = x := by simp [List.getLastD_eq_getLast?]
theorem snoc_of_ne {W : List UInt8} (h : W ≠ []) : ∃ V x, W = V ++ [x] := ⟨W.dropLast, W.getLast h, (List.dropLast_concat_getLast h).symm⟩

theorem body_blank (t : List UInt8) (h : ∀ x ∈ t, bl x = true) : body t = [] := by
  have e : trimRightS t [32, 9] = [] := by
    have := tr_app [] t [32, 9] h
    simpa [tr_nil] using this
  unfold body tb
  rw [e]
  rfl

theorem hash_not_blank (x : UInt8) (h : (x == 35) = true) : bl x = false := by
  rw [eq_of_beq h]; decide
theorem blank_not_hash (x : UInt8) (h : bl x = true) : ([35] : List UInt8).contains x = false := by
  rw [Go.Lib.contains_one]
  cases e : (x == 35) with
  | false => rfl
  | true => rw [hash_not_blank x e] at h; cases h

/-- A list with an element that is not c: what stands behind the last such is a run of c. -/
theorem last_other (W : List UInt8) (h : (W.all (· == 35)) = false) : ∃ V x R, W = V ++ [x] ++ R ∧ (x == 35) = false ∧ ∀ y ∈ R, (y == 35) = true := by
  induction W with
  | nil => simp at h
  | cons a l ih =>
    by_cases hl : (l.all (· == 35)) = true
    · rw [List.all_cons, hl, Bool.and_true] at h
      exact ⟨[], a, l, by simp, h, fun y hy => List.all_eq_true.1 hl y hy⟩
    · obtain ⟨V, x, R, e, hx, hR⟩ := ih (by simpa using hl)
      exact ⟨a :: V, x, R, by rw [e]; simp, hx, hR⟩

theorem tb_of (B1 R B2 : List UInt8) (h1 : ∀ x ∈ B1, bl x = true) (h2 : ∀ x ∈ B2, bl x = true) (x0 : UInt8) (R0 : List UInt8) (hh : R = x0 :: R0) (hx0 : bl x0 = false) (R1 : List UInt8) (x1 : UInt8) (ht : R = R1 ++ [x1]) (hx1 : bl x1 = false) :
    tb (B1 ++ R ++ B2) = R := by
  unfold tb
  rw [tr_app _ _ _ h2]
  rw [show B1 ++ R = (B1 ++ R1) ++ [x1] by rw [ht]; simp, tr_stop _ _ _ hx1, List.append_assoc, ← ht, dw_app _ _ h1, hh, dw_stop _ _ hx0]

/-- THE WORD MODEL's ANSWER. -/
theorem body_words (B1 Y B3 W B2 : List UInt8) (h1 : ∀ x ∈ B1, bl x = true) (h2 : ∀ x ∈ B2, bl x = true) (h3 : ∀ x ∈ B3, bl x = true) (hW : ∀ x ∈ W, bl x = false) (hW0 : W ≠ [])
    (hY : (Y = [] ∧ B3 = []) ∨ (B3 ≠ [] ∧ (∃ y0 Y1, Y = y0 :: Y1 ∧ bl y0 = false) ∧ ∃ Y2 y1, Y = Y2 ++ [y1] ∧ bl y1 = false)) :
    body (B1 ++ (Y ++ B3 ++ W) ++ B2) = if W.all (· == 35) then Y else Y ++ B3 ++ W := by
  obtain ⟨V, v, hV⟩ := snoc_of_ne hW0
  have hv : bl v = false := hW v (by rw [hV]; simp)
  obtain ⟨x0, R0, hR0, hx0⟩ : ∃ x0 R0, Y ++ B3 ++ W = x0 :: R0 ∧ bl x0 = false := by
    rcases hY with ⟨rfl, rfl⟩ | ⟨_, ⟨y0, Y1, rfl, hy0⟩, _⟩
    · cases W with
      | nil => exact absurd rfl hW0
      | cons a l => exact ⟨a, l, by simp, hW a (by simp)⟩
    · exact ⟨y0, Y1 ++ B3 ++ W, by simp, hy0⟩
  unfold body
  rw [tb_of B1 (Y ++ B3 ++ W) B2 h1 h2 x0 R0 hR0 hx0 (Y ++ B3 ++ V) v (by rw [hV]; simp) hv]
  by_cases hA : (W.all (· == 35)) = true
  · rw [if_pos hA]
    have ho : trimRightS (Y ++ B3 ++ W) [35] = Y ++ B3 := by
      rw [tr_app _ _ _ (by intro x hx; rw [Go.Lib.contains_one]; exact List.all_eq_true.1 hA x hx)]
      rcases hY with ⟨rfl, rfl⟩ | ⟨hB3, _, _⟩
      · rfl
      · obtain ⟨C, c, hC⟩ := snoc_of_ne hB3
        rw [hC, ← List.append_assoc]
        exact tr_stop _ _ _ (blank_not_hash c (h3 c (by rw [hC]; simp)))
    have hc : trimRightS (Y ++ B3 ++ W) [35] = [] ∨ bl ((trimRightS (Y ++ B3 ++ W) [35]).getLastD 0) = true := by
      rw [ho]
      rcases hY with ⟨rfl, rfl⟩ | ⟨hB3, _, _⟩
      · exact Or.inl rfl
      · obtain ⟨C, c, hC⟩ := snoc_of_ne hB3
        right
        rw [hC, ← List.append_assoc, last_app]
        exact h3 c (by rw [hC]; simp)
    unfold fin
    rw [if_pos hc, ho, tr_app _ _ _ h3]
    rcases hY with ⟨rfl, _⟩ | ⟨_, _, Y2, y1, rfl, hy1⟩
    · rfl
    · exact tr_stop _ _ _ hy1
  · rw [if_neg hA]
    obtain ⟨U, x, R, hU, hx, hR⟩ := last_other W (by simpa using hA)
    have ho : trimRightS (Y ++ B3 ++ W) [35] = Y ++ B3 ++ U ++ [x] := by
      rw [hU, show Y ++ B3 ++ (U ++ [x] ++ R) = (Y ++ B3 ++ U ++ [x]) ++ R by simp, tr_app _ _ _ (by intro y hy; rw [Go.Lib.contains_one]; exact hR y hy)]
      exact tr_stop _ _ _ (by rw [Go.Lib.contains_one]; exact hx)
    have hxb : bl x = false := hW x (by rw [hU]; simp)
    unfold fin
    rw [if_neg]
    rw [ho, last_app, hxb]
    simp

/-- WHAT atxHeading ANSWERS: no heading, or its level and its text. -/
def ind (l : List UInt8) : Nat := min 3 (run 32 l)
def lvl (l : List UInt8) : Nat := run 35 (l.drop (ind l))
def rest (l : List UInt8) : List UInt8 := l.drop (ind l + lvl l)
def isHead (l : List UInt8) : Bool := decide (1 ≤ lvl l) && decide (lvl l ≤ 6) && ((rest l).isEmpty || bl ((rest l).headD 0))

theorem run_spec (c : UInt8) (l : List UInt8) (k : Nat) (hk : k ≤ l.length) (h1 : ∀ j, j < k → l.getD j 0 = c) (h2 : k < l.length → l.getD k 0 ≠ c) : run c l = k := by
  induction l generalizing k with
  | nil => simp at hk; subst hk; rfl
  | cons a l ih =>
    unfold run
    cases k with
    | zero =>
      have := h2 (by simp)
      simp at this
      rw [List.takeWhile_cons_of_neg (by simpa using this)]; rfl
    | succ k =>
      have ha : a = c := by simpa using h1 0 (by omega)
      rw [List.takeWhile_cons_of_pos (by simpa using ha), List.length_cons]
      congr 1
      exact ih k (by simpa using hk) (fun j hj => by simpa using h1 (j + 1) (by omega)) (fun hj => by simpa using h2 (by simpa using hj))

/-- Four spaces or more: no heading. -/
theorem not_head_of_spaces (l : List UInt8) (k : Nat) (hk : k ≤ l.length) (h1 : ∀ j, j < k → l.getD j 0 = 32) (h4 : 3 < k) : isHead l = false := by
  have hr : 3 < run 32 l ∨ run 32 l ≤ 3 := by omega
  have hi : ind l = 3 := by
    rcases hr with hr | hr
    · unfold ind; omega
    · exfalso
      have hle : ∀ (m : Nat) (l : List UInt8), m ≤ l.length → (∀ j, j < m → l.getD j 0 = 32) → m ≤ run 32 l := by
        intro m
        induction m with
        | zero => intros; omega
        | succ m ih =>
          intro l hl hh
          cases l with
          | nil => simp at hl
          | cons a l =>
            have ha : a = 32 := by simpa using hh 0 (by omega)
            unfold run
            rw [List.takeWhile_cons_of_pos (by simpa using ha), List.length_cons]
            have := ih l (by simpa using hl) (fun j hj => by simpa using hh (j + 1) (by omega))
            unfold run at this
            omega
      have := hle k l hk h1
      omega
  have hl : lvl l = 0 := by
    unfold lvl
    rw [hi]
    refine run_spec 35 _ 0 (by omega) (fun j hj => by omega) (fun _ => ?_)
    have e : (l.drop 3).getD 0 0 = 32 := by
      have := h1 3 h4
      simpa [List.getD_eq_getElem?_getD] using this
    rw [e]
    decide
  unfold isHead
  rw [hl]
  rfl

end Go.Proofs.Qxb6606271aDoor.Pl
