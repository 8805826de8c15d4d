/-
  THE WORDS OF THIS SEAT: a slice of bytes as it lies ('BA'), a row of bytes that the call owns ('Own'), the append laws at this dump's numbers.
-/
import Derived.Test.Qxb6003874aFmtProg
import Derived.WalkKit
import Derived.WalkSpells
import Derived.Deep.LoopGhost
import Derived.Deep.QuietTactic
import Derived.BigQuiet
import Derived.Deep.OwnRows
import Derived.Deep.DeepCutAuto
import Derived.Deep.CutBlock
import Derived.ArgAppend
import Derived.Lib.AppendStr
namespace Go.Proofs.Qxb6003874aFmt
open Go.RowKit

theorem aside {q : Prop} (h : q) : Aside q := h
/-- A slice of bytes as it lies, below block B: where there is a byte: an address of no spot, with its cells; where there is none: whatever the address. -/
def BA (w : World) (B : Nat) (p : Option Addr) (n : Nat) (bs : List UInt8) : Prop := 0 < n → ∃ b o, p = some ⟨b, o, none⟩ ∧ b < B ∧ ∀ i, i < n → w.cell? ⟨b, o + i, none⟩ = some (.int .u8 (bs.getD i 0).toNat)
theorem BA.below {w w' : World} {B : Nat} {p : Option Addr} {n : Nat} {bs : List UInt8} (h : BA w B p n bs) (hB : Below B w w') : BA w' B p n bs := fun h0 => by
  obtain ⟨b, o, rfl, hb, hc⟩ := h h0
  exact ⟨b, o, rfl, hb, fun i hi => by rw [hB.cell (p := ⟨b, o + i, none⟩) hb]; exact hc i hi⟩
theorem BA.mono {w : World} {B B' : Nat} {p : Option Addr} {n : Nat} {bs : List UInt8} (h : BA w B p n bs) (hB : B ≤ B') : BA w B' p n bs := fun h0 => by
  obtain ⟨b, o, rfl, hb, hc⟩ := h h0
  exact ⟨b, o, rfl, by omega, hc⟩
theorem BA.drewN {w : World} {B : Nat} {p : Option Addr} {n : Nat} {bs : List UInt8} (h : BA w B p n bs) (m : Nat) : BA (w.drewN m) B p n bs := fun h0 => by
  obtain ⟨b, o, rfl, hb, hc⟩ := h h0
  exact ⟨b, o, rfl, hb, fun i hi => by rw [World.cell?_drewN]; exact hc i hi⟩
theorem BA.take {w : World} {B : Nat} {p : Option Addr} {n : Nat} {bs : List UInt8} (h : BA w B p n bs) {k : Nat} (hk : k ≤ n) : BA w B p k (bs.take k) := fun h0 => by
  obtain ⟨b, o, rfl, hb, hc⟩ := h (by omega)
  exact ⟨b, o, rfl, hb, fun i hi => by rw [hc i (by omega)]; simp [List.getD, hi]⟩
theorem below_drewN {B : Nat} {a w : World} (h : Below B a w) (m : Nat) : Below B a (w.drewN m) := ⟨h.os, h.tape, h.output, h.size, h.block⟩

/-- Bytes as cells. -/
def bc (l : List UInt8) : List Value := l.map fun x => Value.int .u8 x.toNat
theorem bc_length (l : List UInt8) : (bc l).length = l.length := by simp [bc]
theorem bc_append (a b : List UInt8) : bc (a ++ b) = bc a ++ bc b := by simp [bc]
theorem bc_get {l : List UInt8} {j : Nat} {u : Value} (h : (bc l)[j]? = some u) : j < l.length ∧ u = .int .u8 (l.getD j 0).toNat := by
  have hj : j < (bc l).length := (List.getElem?_eq_some_iff.1 h).1
  rw [bc_length] at hj
  refine ⟨hj, ?_⟩
  have : (bc l)[j]? = some (.int .u8 (l.getD j 0).toNat) := by simp [bc, List.getD_eq_getElem?_getD, hj]
  rw [this] at h
  exact (Option.some.inj h).symm
theorem bc_one (l : List UInt8) : ∀ u ∈ bc l, u.oneCell' = true := fun u hu => by
  obtain ⟨x, _, rfl⟩ := List.mem_map.1 hu
  rfl

/-- The value v is a slice of the bytes xs, in a row of the call's own, from block B on. -/
def Own (w : World) (B : Nat) (v : Value) (xs : List UInt8) : Prop := w.ownsRow B 5 1 v xs.length (bc xs)
theorem Own.nil (w : World) (B : Nat) : Own w B (.slice none 0 0) [] := World.ownsRow_nil w B 5 1
theorem Own.block {w : World} {B : Nat} {v : Value} {xs : List UInt8} (h : Own w B v xs) : ∀ k, v.ownBlock = some k → B ≤ k ∧ k < w.heap.size := by
  intro k hk
  rcases h.2 with ⟨rfl, _⟩ | ⟨g, cap, cur, rfl, hB, hg, _⟩
  · cases hk
  · simp [Value.ownBlock] at hk
    subst hk
    refine ⟨hB, ?_⟩
    rcases Nat.lt_or_ge g w.heap.size with h | h
    · exact h
    · rw [Array.getElem?_eq_none h] at hg; cases hg
theorem Own.kept {w w' : World} {B : Nat} {v : Value} {xs : List UInt8} (h : Own w B v xs) (hb : Below w.heap.size w w') : Own w' B v xs := by
  have hbk := h.block
  refine ⟨h.1, ?_⟩
  rcases h.2 with hn | ⟨g, cap, cur, rfl, hB, hg, h1, h2, h3, h4⟩
  · exact Or.inl hn
  · exact Or.inr ⟨g, cap, cur, rfl, hB, (hb.block g (hbk g rfl).2).trans hg, h1, h2, h3, h4⟩
theorem Own.down {w : World} {B B' : Nat} {v : Value} {xs : List UInt8} (h : Own w B v xs) (hB : B' ≤ B) : Own w B' v xs := by
  refine ⟨h.1, ?_⟩
  rcases h.2 with hn | ⟨g, cap, cur, rfl, hg, hr⟩
  · exact Or.inl hn
  · exact Or.inr ⟨g, cap, cur, rfl, by omega, hr⟩
theorem Own.drewN {w : World} {B : Nat} {v : Value} {xs : List UInt8} (h : Own w B v xs) (m : Nat) : Own (w.drewN m) B v xs := h
/-- Its shape, and the bytes where they lie. -/
theorem Own.shape {w : World} {B : Nat} {v : Value} {xs : List UInt8} (h : Own w B v xs) : ∃ p c, v = .slice p xs.length c ∧ xs.length ≤ c ∧ c ≤ maxLen ∧ (p = none → xs.length = 0 ∧ c = 0) ∧ BA w w.heap.size p xs.length xs := by
  have hbk := h.block
  have h' := h
  rcases h.2 with ⟨rfl, h0⟩ | ⟨g, cap, cur, rfl, hB, hg, h1, h2, h3, h4⟩
  · have e : xs = [] := List.eq_nil_of_length_eq_zero h0
    subst e
    exact ⟨none, 0, rfl, Nat.le_refl _, by unfold maxLen; omega, fun _ => ⟨rfl, rfl⟩, fun h => absurd h (by simp)⟩
  · refine ⟨_, cap, rfl, h1, h2, (fun h => by cases h), fun _ => ⟨g, 0, rfl, (hbk g rfl).2, fun i hi => ?_⟩⟩
    have hc := h'.cells (g := g) rfl i (.int .u8 (xs.getD i 0).toNat) (by simp [bc, List.getD_eq_getElem?_getD, hi])
    rwa [Addr.add_lit] at hc

theorem Tryf.info5 : (Tryf.prog.info? 5).map (fun i => (i.zero, i.size, i.bytes)) = some (some (.int .u8 0), 1, 1) := by kernel_rfl

/-- append(v, x...), x a slice of bytes: v's row grows, in place or anew. -/
theorem app_sl (w : World) {ops : Array Oper} {rest : List Oper} {o : Oper} {a : Act} {Q : Exit → Act → World → Prop} (hgd : o.guard = none) (s x : Operand)
    (ho : o.op = .call { callee := .builtin .append, args := #[s, x], argTypes := #[23, 23] }) (B : Nat) (v : Value) (xs : List UInt8) (hs : a.eval s = v) (hown : Own w B v xs)
    (ad : Addr) (m c : Nat) (news : List UInt8) (hx : a.eval x = .slice (some ad) m c) (hl : news.length = m) (hnews : ∀ j, j < m → w.cell? (ad.add j) = some (.int .u8 (news.getD j 0).toNat))
    (hbound : xs.length + m ≤ 16777216) (hB : B ≤ w.heap.size)
    (h : ∀ v' w', Own w' B v' (xs ++ news) → Below B w w' → wpList Tryf.prog ops Q rest (a.put o.dst v') w') : wpList Tryf.prog ops Q (o :: rest) a w := by
  obtain ⟨i, hi, hz⟩ := Option.map_eq_some_iff.1 Tryf.info5
  simp only [Prod.mk.injEq] at hz
  refine wpList_append_own (P := Tryf.prog) w hgd s x 23 ho B 5 i (.int .u8 0) 1 1 Tryf.underlying23 hi hz.1 hz.2.1 hz.2.2 rfl (by decide) v xs.length (bc xs) hs hown ad m c (bc news) hx (by rw [bc_length, hl, Nat.mul_one]) (fun j u hj => by
      obtain ⟨h1, rfl⟩ := bc_get hj
      exact hnews j (by omega)) (bc_one _) (by unfold maxLen; omega) (by omega) hB (fun v' w' h1 h2 _ => ?_)
  refine h v' w' ?_ (Below.grown (Below.refl _ _) h2 hB (fun k hk => (hown.block k hk).1))
  unfold Own
  rw [List.length_append, hl, bc_append]
  exact h1

/-- append(v, s...), s a string. -/
theorem app_str (w : World) {ops : Array Oper} {rest : List Oper} {o : Oper} {a : Act} {Q : Exit → Act → World → Prop} (hgd : o.guard = none) (s x : Operand)
    (ho : o.op = .call { callee := .builtin .append, args := #[s, x], argTypes := #[23, 9] }) (B : Nat) (v : Value) (xs : List UInt8) (hs : a.eval s = v) (hown : Own w B v xs)
    (t : ByteArray) (hx : a.eval x = .string t) (hbound : xs.length + t.size ≤ 16777216) (hB : B ≤ w.heap.size)
    (h : ∀ v' w', Own w' B v' (xs ++ t.data.toList) → Below B w w' → wpList Tryf.prog ops Q rest (a.put o.dst v') w') : wpList Tryf.prog ops Q (o :: rest) a w := by
  obtain ⟨i, hi, hz⟩ := Option.map_eq_some_iff.1 Tryf.info5
  simp only [Prod.mk.injEq] at hz
  refine Lib.wpList_append_own_string (P := Tryf.prog) w hgd s x 23 9 ho B 5 i Tryf.underlying23 Tryf.underlying9 hi hz.1 hz.2.1 hz.2.2 v xs.length (bc xs) hs hown t hx (by unfold maxLen; omega) (by omega) hB (fun v' w' h1 h2 _ => ?_)
  refine h v' w' ?_ (Below.grown (Below.refl _ _) h2 hB (fun k hk => (hown.block k hk).1))
  unfold Own
  have e : t.data.toList.length = t.size := by rw [Array.length_toList]; rfl
  rw [List.length_append, e, bc_append]
  exact h1

/-- append(v, x...) onto a slice that is full: a new row behind all that lies. -/
theorem app_full (w : World) {ops : Array Oper} {rest : List Oper} {o : Oper} {a : Act} {Q : Exit → Act → World → Prop} (hgd : o.guard = none) (s x : Operand)
    (ho : o.op = .call { callee := .builtin .append, args := #[s, x], argTypes := #[23, 23] }) (B : Nat) (p : Option Addr) (n : Nat) (xs : List UInt8) (hs : a.eval s = .slice p n n) (hxl : xs.length = n) (hnil : p = none → n = 0) (hba : BA w B p n xs)
    (ad : Addr) (m c : Nat) (news : List UInt8) (hx : a.eval x = .slice (some ad) m c) (hl : news.length = m) (hm : 0 < m) (hnews : ∀ j, j < m → w.cell? (ad.add j) = some (.int .u8 (news.getD j 0).toNat))
    (hbound : n + m ≤ 16777216)
    (h : ∀ v' w', Own w' w.heap.size v' (xs ++ news) → Below w.heap.size w w' → wpList Tryf.prog ops Q rest (a.put o.dst v') w') : wpList Tryf.prog ops Q (o :: rest) a w := by
  obtain ⟨i, hi, hz⟩ := Option.map_eq_some_iff.1 Tryf.info5
  simp only [Prod.mk.injEq] at hz
  refine wpList_append_grows (P := Tryf.prog) w hgd s x 23 ho 5 i (.int .u8 0) 1 1 Tryf.underlying23 hi hz.1 hz.2.1 hz.2.2 rfl (by decide) p n n (bc xs) hs (fun h => ⟨hnil h, hnil h⟩) (by rw [bc_length, hxl, Nat.mul_one]) (fun b hb j u hj => ?_) ad m c (bc news) hx (by rw [bc_length, hl, Nat.mul_one]) (fun j u hj => by
      obtain ⟨h1, rfl⟩ := bc_get hj
      exact hnews j (by omega)) (bc_one _) (by omega) (by unfold maxLen; omega) (by omega) (fun v' w' h1 h2 => ?_)
  · obtain ⟨h1, rfl⟩ := bc_get hj
    obtain ⟨b', o', he, _, hc⟩ := hba (by omega)
    rw [hb] at he
    obtain rfl := Option.some.inj he
    rw [Addr.add_lit]
    exact hc j (by omega)
  · refine h v' w' ?_ (Below.grown (Below.refl _ _) h2 (Nat.le_refl _) (fun k hk => by cases hk))
    unfold Own
    rw [List.length_append, hl, bc_append, hxl]
    exact h1

end Go.Proofs.Qxb6003874aFmt
