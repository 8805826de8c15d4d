/-
  TABLE 3-7, as plain functions: how many bytes follow a lead byte; how far a row of bytes goes along a sequence; what maximalSubpart answers.
-/
import Derived.Lib.DecodeN
namespace Go.Proofs.Qxb6003900aDoor
open Go.Lib

/-- How many bytes follow the lead byte x: -1: it starts no sequence. -/
def need (x : Nat) : Int := if x < 128 then 0 else if x < 194 then -1 else if x < 224 then 1 else if x < 240 then 2 else if x < 245 then 3 else -1
/-- The bounds of the byte behind it. -/
def lo (x : Nat) : Nat := if x = 224 then 160 else if x = 240 then 144 else 128
def hi (x : Nat) : Nat := if x = 237 then 159 else if x = 244 then 143 else 191
/-- Does the q-th byte go on? -/
def okAt (bs : List UInt8) (q : Nat) : Prop := q < bs.length ∧ (if q = 1 then lo (bs.getD 0 0).toNat ≤ (bs.getD 1 0).toNat ∧ (bs.getD 1 0).toNat ≤ hi (bs.getD 0 0).toNat else 128 ≤ (bs.getD q 0).toNat ∧ (bs.getD q 0).toNat ≤ 191)
/-- c bytes form the beginning of a sequence; 'ok': a whole one. -/
def Wk (bs : List UInt8) (c : Nat) (ok : Bool) : Prop :=
  (need (bs.getD 0 0).toNat = -1 ∧ c = 1 ∧ ok = false) ∨
  (∃ k : Nat, need (bs.getD 0 0).toNat = k ∧ c = k + 1 ∧ ok = true ∧ ∀ q, 1 ≤ q → q ≤ k → okAt bs q) ∨
  (∃ k : Nat, need (bs.getD 0 0).toNat = k ∧ 1 ≤ c ∧ c ≤ k ∧ ok = false ∧ (∀ q, 1 ≤ q → q < c → okAt bs q) ∧ ¬ okAt bs c)
/-- It is a function. -/
theorem Wk.uniq {bs : List UInt8} {c c' : Nat} {ok ok' : Bool} (h : Wk bs c ok) (h' : Wk bs c' ok') : c = c' ∧ ok = ok' := by
  rcases h with ⟨h1, rfl, rfl⟩ | ⟨k, h1, rfl, rfl, h2⟩ | ⟨k, h1, h2, h3, rfl, h4, h5⟩ <;> rcases h' with ⟨g1, rfl, rfl⟩ | ⟨k', g1, rfl, rfl, g2⟩ | ⟨k', g1, g2, g3, rfl, g4, g5⟩
  · exact ⟨rfl, rfl⟩
  · rw [h1] at g1; omega
  · rw [h1] at g1; omega
  · rw [h1] at g1; omega
  · rw [h1] at g1
    have : k = k' := by omega
    subst this
    exact ⟨rfl, rfl⟩
  · rw [h1] at g1
    have : k = k' := by omega
    subst this
    exact absurd (h2 c' g2 g3) g5
  · rw [h1] at g1; omega
  · rw [h1] at g1
    have : k = k' := by omega
    subst this
    exact absurd (g2 c h2 h3) h5
  · refine ⟨?_, rfl⟩
    rcases Nat.lt_trichotomy c c' with h | h | h
    · exact absurd (g4 c h2 h) h5
    · exact h
    · exact absurd (h4 c' g2 h) g5

/-- The size that utf8's table gives the lead byte, and its bounds: where a sequence starts. -/
theorem first_need (x : Nat) (hx : x < 256) (k : Nat) (h : need x = k) (hk : 1 ≤ k) : firstT x % 8 = k + 1 ∧ accLo (firstT x / 16) = lo x ∧ accHi (firstT x / 16) = hi x := by
  have key : ∀ v : Fin 256, 1 ≤ need v.val → firstT v.val % 8 = (need v.val).toNat + 1 ∧ accLo (firstT v.val / 16) = lo v.val ∧ accHi (firstT v.val / 16) = hi v.val := by decide +kernel
  have h2 := key ⟨x, hx⟩ (by show 1 ≤ need x; omega)
  have e : (need x).toNat = k := by omega
  have h3 : firstT x % 8 = (need x).toNat + 1 ∧ accLo (firstT x / 16) = lo x ∧ accHi (firstT x / 16) = hi x := h2
  rw [e] at h3
  exact h3
theorem first_small (x : Nat) (hx : x < 256) (h : need x ≤ 0) : firstT x % 8 ≤ 1 := by
  have key : ∀ v : Fin 256, need v.val ≤ 0 → firstT v.val % 8 ≤ 1 := by decide +kernel
  exact key ⟨x, hx⟩ h
theorem first_lt (x : Nat) (hx : x < 256) : firstT x < 256 ∧ (2 ≤ firstT x % 8 → firstT x / 16 ≤ 4) ∧ firstT x % 8 ≤ 4 := by
  have key : ∀ v : Fin 256, firstT v.val < 256 ∧ (2 ≤ firstT v.val % 8 → firstT v.val / 16 ≤ 4) ∧ firstT v.val % 8 ≤ 4 := by decide +kernel
  exact key ⟨x, hx⟩
theorem need_le (x : Nat) : need x ≤ 3 ∧ -1 ≤ need x := by
  unfold need
  repeat' split
  all_goals omega

/-- utf8.FullRune. -/
def full (bs : List UInt8) : Prop :=
  firstT (bs.getD 0 0).toNat % 8 ≤ bs.length ∨ (1 < bs.length ∧ ((bs.getD 1 0).toNat < accLo (firstT (bs.getD 0 0).toNat / 16) ∨ accHi (firstT (bs.getD 0 0).toNat / 16) < (bs.getD 1 0).toNat)) ∨ (2 < bs.length ∧ ((bs.getD 2 0).toNat < 128 ∨ 191 < (bs.getD 2 0).toNat))
theorem getD_take (l : List UInt8) (n j : Nat) (h : j < n) : (l.take n).getD j 0 = l.getD j 0 := by
  simp [List.getD_eq_getElem?_getD, h]
/-- The first n bytes are no full rune just where the walk goes at least so far and is not at its end. -/
theorem full_iff (bs : List UInt8) (n : Nat) (hn : 1 ≤ n) (hl : n ≤ bs.length) (h3 : n ≤ 3) (k : Nat) (hk : need (bs.getD 0 0).toNat = k) (hk1 : 1 ≤ k) : ¬ full (bs.take n) ↔ n ≤ k ∧ ∀ q, 1 ≤ q → q < n → okAt bs q := by
  obtain ⟨f1, f2, f3⟩ := first_need (bs.getD 0 0).toNat (bs.getD 0 0).toNat_lt k hk hk1
  have e0 := getD_take bs n 0 (by omega)
  have el : (bs.take n).length = n := by simp; omega
  unfold full
  rw [e0, el, f1, f2, f3]
  rcases (by omega : n = 1 ∨ n = 2 ∨ n = 3) with rfl | rfl | rfl
  · constructor
    · intro h
      exact ⟨by omega, fun q h1 h2 => by omega⟩
    · intro h
      omega
  · rw [getD_take bs 2 1 (by omega)]
    constructor
    · intro h
      refine ⟨by omega, fun q h1 h2 => ?_⟩
      obtain rfl : q = 1 := by omega
      exact ⟨by omega, by rw [if_pos rfl]; omega⟩
    · rintro ⟨h1, h2⟩
      have h4 := (h2 1 (by omega) (by omega)).2
      rw [if_pos rfl] at h4
      omega
  · rw [getD_take bs 3 1 (by omega), getD_take bs 3 2 (by omega)]
    constructor
    · intro h
      refine ⟨by omega, fun q h1 h2 => ?_⟩
      rcases (by omega : q = 1 ∨ q = 2) with rfl | rfl
      · exact ⟨by omega, by rw [if_pos rfl]; omega⟩
      · exact ⟨by omega, by rw [if_neg (by omega)]; omega⟩
    · rintro ⟨h1, h2⟩
      have h4 := (h2 1 (by omega) (by omega)).2
      have h5 := (h2 2 (by omega) (by omega)).2
      rw [if_pos rfl] at h4
      rw [if_neg (by omega)] at h5
      omega
theorem full_of_small (bs : List UInt8) (n : Nat) (hn : 1 ≤ n) (hl : n ≤ bs.length) (h : need (bs.getD 0 0).toNat ≤ 0) : full (bs.take n) := by
  unfold full
  left
  rw [getD_take bs n 0 (by omega)]
  have := first_small (bs.getD 0 0).toNat (bs.getD 0 0).toNat_lt h
  have el : (bs.take n).length = n := by simp; omega
  omega
/-- WHAT maximalSubpart ANSWERS: m, where from min(len, 3) down to m + 1 every beginning is full, and m is 1 or its beginning is not. -/
theorem maximal_is (bs : List UInt8) (c m : Nat) (hw : Wk bs c false) (hl : 1 ≤ bs.length) (hm1 : 1 ≤ m) (hm : m ≤ bs.length) (hm3 : m ≤ 3) (h1 : ∀ n, m < n → n ≤ bs.length → n ≤ 3 → full (bs.take n)) (h2 : m = 1 ∨ ¬ full (bs.take m)) : m = c ∧ 1 ≤ c ∧ c ≤ 3 := by
  have hn3 := need_le (bs.getD 0 0).toNat
  rcases hw with ⟨hn, rfl, _⟩ | ⟨k, _, _, hf, _⟩ | ⟨k, hk, hc1, hck, _, h4, h5⟩
  · rcases h2 with rfl | h2
    · exact ⟨rfl, by omega, by omega⟩
    · exact absurd (full_of_small bs m hm1 hm (by omega)) h2
  · cases hf
  · have hk3 : k ≤ 3 := by omega
    have hcl : c ≤ bs.length := by
      rcases Nat.lt_or_ge 1 c with h | h
      · have := (h4 (c - 1) (by omega) (by omega)).1
        omega
      · omega
    have hcf : ¬ full (bs.take c) := (full_iff bs c hc1 hcl (by omega) k hk (by omega)).2 ⟨hck, h4⟩
    have hle : c ≤ m := by
      rcases Nat.lt_or_ge m c with h | h
      · exact absurd (h1 c h hcl (by omega)) hcf
      · exact h
    have hge : m ≤ c := by
      rcases Nat.lt_or_ge c m with h | h
      · exfalso
        rcases h2 with rfl | h2
        · omega
        · exact h5 (((full_iff bs m hm1 hm hm3 k hk (by omega)).1 h2).2 c hc1 h)
      · exact h
    exact ⟨by omega, hc1, by omega⟩

end Go.Proofs.Qxb6003900aDoor
