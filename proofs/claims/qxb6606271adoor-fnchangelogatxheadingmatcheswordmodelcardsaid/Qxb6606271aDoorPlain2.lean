/-
  THE PLAIN LAW, 2: what the word model's loop holds behind m bytes of the text t ('Inv'), and what that gives at the end.
-/
import Derived.Test.Qxb6606271aDoorPlain
namespace Go.Proofs.Qxb6606271aDoor.Pl

/-- Behind m bytes of t: t stands at a in the line; f, pe, le: where the first word begins, where the word before the last ends, where the last ends (-1: none); ah: the last word is all '#'. -/
def Inv (t : List UInt8) (a m : Nat) (f pe le : Int) (ah : Bool) : Prop :=
  m ≤ t.length ∧
  ((f = -1 ∧ pe = -1 ∧ le = -1 ∧ ah = false ∧ ∀ x ∈ t.take m, bl x = true) ∨
   ∃ B1 Y B3 W B2 : List UInt8, t.take m = B1 ++ (Y ++ B3 ++ W) ++ B2 ∧ (∀ x ∈ B1, bl x = true) ∧ (∀ x ∈ B2, bl x = true) ∧ (∀ x ∈ B3, bl x = true) ∧ (∀ x ∈ W, bl x = false) ∧ W ≠ [] ∧
     f = (a : Int) + B1.length ∧ le = (a : Int) + B1.length + Y.length + B3.length + W.length ∧ ah = W.all (· == 35) ∧
     ((Y = [] ∧ B3 = [] ∧ pe = -1) ∨ (B3 ≠ [] ∧ (∃ y0 Y1, Y = y0 :: Y1 ∧ bl y0 = false) ∧ (∃ Y2 y1, Y = Y2 ++ [y1] ∧ bl y1 = false) ∧ pe = (a : Int) + B1.length + Y.length)) ∧
     (B2 = [] → m = t.length ∨ bl (t.getD m 0) = true))

theorem Inv.start (t : List UInt8) (a : Nat) : Inv t a 0 (-1) (-1) (-1) false :=
  ⟨Nat.zero_le _, Or.inl ⟨rfl, rfl, rfl, rfl, fun x hx => by simp at hx⟩⟩

theorem take_snoc (t : List UInt8) (m : Nat) (h : m < t.length) : t.take (m + 1) = t.take m ++ [t.getD m 0] := by
  rw [List.take_succ_eq_append_getElem h]
  simp [List.getD_eq_getElem?_getD, h]

theorem Inv.blank {t : List UInt8} {a m : Nat} {f pe le : Int} {ah : Bool} (h : Inv t a m f pe le ah) (hm : m < t.length) (hb : bl (t.getD m 0) = true) : Inv t a (m + 1) f pe le ah := by
  obtain ⟨_, h⟩ := h
  refine ⟨hm, ?_⟩
  rw [take_snoc t m hm]
  rcases h with ⟨h1, h2, h3, h4, h5⟩ | ⟨B1, Y, B3, W, B2, hp, k1, k2, k3, k4, k5, k6, k7, k8, k9, _⟩
  · refine Or.inl ⟨h1, h2, h3, h4, fun x hx => ?_⟩
    rcases List.mem_append.1 hx with hx | hx
    · exact h5 x hx
    · rw [List.mem_singleton.1 hx]; exact hb
  · refine Or.inr ⟨B1, Y, B3, W, B2 ++ [t.getD m 0], by rw [hp]; simp, k1, fun x hx => ?_, k3, k4, k5, k6, k7, k8, k9, fun h => ?_⟩
    · rcases List.mem_append.1 hx with hx | hx
      · exact k2 x hx
      · rw [List.mem_singleton.1 hx]; exact hb
    · simp at h

theorem seg_mem (t : List UInt8) (m j : Nat) (_hj : j ≤ t.length) (x : UInt8) (hx : x ∈ (t.drop m).take (j - m)) : ∃ i, m ≤ i ∧ i < j ∧ t.getD i 0 = x := by
  obtain ⟨k, hk, e⟩ := List.mem_iff_getElem.1 hx
  simp at hk
  refine ⟨m + k, by omega, by omega, ?_⟩
  rw [← e]
  simp [List.getD_eq_getElem?_getD, show m + k < t.length by omega]
theorem seg_len (t : List UInt8) (m j : Nat) (_hm : m ≤ j) (hj : j ≤ t.length) : ((t.drop m).take (j - m)).length = j - m := by
  simp; omega
theorem seg_split (t : List UInt8) (m j : Nat) (hm : m ≤ j) : t.take j = t.take m ++ (t.drop m).take (j - m) := by
  have := List.take_add (l := t) (i := m) (j := j - m)
  rw [show m + (j - m) = j by omega] at this
  exact this
theorem seg_all (t : List UInt8) (m j : Nat) (hm : m ≤ j) (hj : j ≤ t.length) (b : Bool) (hb : b = true ↔ ∀ i, m ≤ i → i < j → t.getD i 0 = 35) : b = ((t.drop m).take (j - m)).all (· == 35) := by
  rw [Bool.eq_iff_iff, hb, List.all_eq_true]
  constructor
  · intro h x hx
    obtain ⟨i, h1, h2, rfl⟩ := seg_mem t m j hj x hx
    simpa using h i h1 h2
  · intro h i h1 h2
    have hin : t.getD i 0 ∈ (t.drop m).take (j - m) := by
      rw [List.mem_iff_getElem]
      refine ⟨i - m, by rw [seg_len t m j hm hj]; omega, ?_⟩
      simp [List.getD_eq_getElem?_getD, show m + (i - m) = i by omega, show i < t.length by omega]
    simpa using h _ hin

theorem Inv.word {t : List UInt8} {a m : Nat} {f pe le : Int} {ah : Bool} (h : Inv t a m f pe le ah) (j : Nat) (hm : m < j) (hj : j ≤ t.length) (hw : ∀ i, m ≤ i → i < j → bl (t.getD i 0) = false)
    (he : j = t.length ∨ bl (t.getD j 0) = true) (b : Bool) (hb : b = true ↔ ∀ i, m ≤ i → i < j → t.getD i 0 = 35) : Inv t a j (if f < 0 then (a : Int) + m else f) le ((a : Int) + j) b := by
  obtain ⟨hmt, h⟩ := h
  have hL := seg_len t m j (by omega) hj
  have hW : ∀ x ∈ (t.drop m).take (j - m), bl x = false := fun x hx => by
    obtain ⟨i, h1, h2, rfl⟩ := seg_mem t m j hj x hx
    exact hw i h1 h2
  have hW0 : (t.drop m).take (j - m) ≠ [] := fun e => by rw [e] at hL; simp at hL; omega
  have hml : (t.take m).length = m := by simp; omega
  refine ⟨hj, Or.inr ?_⟩
  rw [seg_split t m j (by omega)]
  rcases h with ⟨h1, h2, h3, h4, h5⟩ | ⟨B1, Y, B3, W, B2, hp, k1, k2, k3, k4, k5, k6, k7, k8, k9, k10⟩
  · refine ⟨t.take m, [], [], (t.drop m).take (j - m), [], by simp, h5, fun x hx => by simp at hx, fun x hx => by simp at hx, hW, hW0, ?_, ?_, seg_all t m j (by omega) hj b hb, Or.inl ⟨rfl, rfl, h3⟩, fun _ => he⟩
    · rw [h1, if_pos (by omega), hml]
    · rw [hL, hml]; simp; omega
  · have hpl := congrArg List.length hp
    simp only [List.length_append, hml] at hpl
    have hB2 : B2 ≠ [] := fun e => by
      rcases k10 e with e2 | e2
      · omega
      · rw [hw m (Nat.le_refl _) hm] at e2; cases e2
    obtain ⟨V, v, hV⟩ := snoc_of_ne k5
    refine ⟨B1, Y ++ B3 ++ W, B2, (t.drop m).take (j - m), [], by rw [hp]; simp, k1, fun x hx => by simp at hx, k2, hW, hW0, ?_, ?_, seg_all t m j (by omega) hj b hb, Or.inr ⟨hB2, ?_, ⟨Y ++ B3 ++ V, v, by rw [hV]; simp, k4 v (by rw [hV]; simp)⟩, ?_⟩, fun _ => he⟩
    · rw [if_neg (by omega)]; exact k6
    · rw [hL]; simp only [List.length_append]; omega
    · rcases k9 with ⟨rfl, rfl, _⟩ | ⟨_, ⟨y0, Y1, rfl, hy0⟩, _, _⟩
      · cases W with
        | nil => exact absurd rfl k5
        | cons x l => exact ⟨x, l, by simp, k4 x (by simp)⟩
      · exact ⟨y0, Y1 ++ B3 ++ W, by simp, hy0⟩
    · rw [k7]; simp only [List.length_append]; omega

/-- WHAT IT GIVES AT THE END. -/
theorem Inv.done {t : List UInt8} {a : Nat} {f pe le : Int} {ah : Bool} (h : Inv t a t.length f pe le ah) :
    (f < 0 ∧ body t = []) ∨
    ((a : Int) ≤ f ∧ f ≤ le ∧ le ≤ (a : Int) + t.length ∧
      ((ah = false ∧ body t = (t.drop (f - a).toNat).take (le - f).toNat) ∨
       (ah = true ∧ pe < 0 ∧ body t = []) ∨
       (ah = true ∧ f ≤ pe ∧ pe ≤ (a : Int) + t.length ∧ body t = (t.drop (f - a).toNat).take (pe - f).toNat))) := by
  obtain ⟨_, h⟩ := h
  rw [List.take_of_length_le (Nat.le_refl _)] at h
  rcases h with ⟨h1, h2, h3, h4, h5⟩ | ⟨B1, Y, B3, W, B2, hp, k1, k2, k3, k4, k5, k6, k7, k8, k9, k10⟩
  · exact Or.inl ⟨by omega, body_blank t h5⟩
  · have hpl := congrArg List.length hp
    simp only [List.length_append] at hpl
    have hY : (Y = [] ∧ B3 = []) ∨ (B3 ≠ [] ∧ (∃ y0 Y1, Y = y0 :: Y1 ∧ bl y0 = false) ∧ ∃ Y2 y1, Y = Y2 ++ [y1] ∧ bl y1 = false) := by
      rcases k9 with ⟨x, y, _⟩ | ⟨x, y, z, _⟩
      · exact Or.inl ⟨x, y⟩
      · exact Or.inr ⟨x, y, z⟩
    have hbody := body_words B1 Y B3 W B2 k1 k2 k3 k4 k5 hY
    rw [← hp, ← k8] at hbody
    have hd : t.drop (f - a).toNat = Y ++ B3 ++ W ++ B2 := by
      rw [k6, show ((a : Int) + B1.length - a).toNat = B1.length by omega, hp, List.append_assoc, List.drop_left]
    refine Or.inr ⟨by omega, by omega, by omega, ?_⟩
    cases ah with
    | false =>
      refine Or.inl ⟨rfl, ?_⟩
      rw [hbody, hd, show (le - f).toNat = (Y ++ B3 ++ W).length by simp only [List.length_append]; omega, List.take_left]
      rfl
    | true =>
      right
      rcases k9 with ⟨rfl, _, e⟩ | ⟨_, _, _, e⟩
      · exact Or.inl ⟨rfl, by omega, by rw [hbody]; rfl⟩
      · refine Or.inr ⟨rfl, by omega, by omega, ?_⟩
        rw [hbody, hd, show (pe - f).toNat = Y.length by omega, List.append_assoc, List.append_assoc, List.take_left]
        rfl

end Go.Proofs.Qxb6606271aDoor.Pl
