/-
  append OF A STRING ONTO A SLICE THAT IS FULL: a new row behind all that lies.
-/
import Derived.Test.Qxb6003874aFmtBase
namespace Go.Proofs.Qxb6003874aFmt
open Go.RowKit Go.Lib

theorem run_full_str (w : World) (ty : TypeId) (p : Option Addr) (n : Nat) (xs : List UInt8) (hxl : xs.length = n) (hnil : p = none → n = 0) (hba : BA w w.heap.size p n xs) (s : ByteArray) (hm : 0 < s.size) (hb : n + s.size ≤ 16777216) :
    ∃ v' w', (Builtin.append_ #[23, 9] ty #[.slice p n n, .string s]).run Tryf.prog w = .ok v' w' ∧ w'.ownsRow w.heap.size 5 1 v' (n + s.size) (bc xs ++ strCells s) ∧ w.grownBy w' none := by
  obtain ⟨i, hi, hz⟩ := Option.map_eq_some_iff.1 Tryf.info5
  simp only [Prod.mk.injEq] at hz
  obtain ⟨hz0, hz1, hz2⟩ := hz
  have hxl' : (bc xs).length = n := by rw [bc_length, hxl]
  have h63 : n + s.size ≤ maxLen := by unfold maxLen; omega
  cases p with
  | none =>
    obtain rfl := hnil rfl
    obtain rfl := List.eq_nil_of_length_eq_zero hxl
    obtain ⟨v', w', h1, h2, h3, _⟩ := run_append_own_string (P := Tryf.prog) w w.heap.size 23 9 ty 5 i Tryf.underlying23 Tryf.underlying9 hi hz0 hz1 hz2 (.slice none 0 0) 0 [] (World.ownsRow_nil w _ 5 1) s h63 (by omega) (Nat.le_refl _)
    exact ⟨v', w', h1, h2, h3⟩
  | some b =>
    have holds : ∀ j u, (bc xs)[j]? = some u → w.cell? (b.add j) = some u := fun j u hj => by
      obtain ⟨h1, rfl⟩ := bc_get hj
      obtain ⟨b', o', he, _, hc⟩ := hba (by omega)
      obtain rfl := Option.some.inj he
      rw [Addr.add_lit]
      exact hc j (by omega)
    have hr := run_append_grow_string (P := Tryf.prog) w 23 9 ty 5 i (.int .u8 0) Tryf.underlying23 Tryf.underlying9 hi hz0 b n n (bc xs) (by rw [hz1, Nat.mul_one]; exact hxl') holds s (by omega) (by omega) (by rw [hz2]; exact growslice_fits (by omega) (by omega))
    have hge := grownCap_ge w (n + s.size) n 5
    have hcm : grownCap w (n + s.size) n 5 ≤ maxLen := grownCap_le_maxLen w (n + s.size) n 5 h63
    have hlen : (bc xs ++ strCells s).length = (n + s.size) * 1 := by rw [List.length_append, hxl', strCells_length, Nat.mul_one]
    refine ⟨_, _, hr, ⟨hlen, .inr ⟨w.heap.size, _, _, rfl, Nat.le_refl _, heap_alloc_new w.drew _, hge, hcm, ?_, ?_⟩⟩, ⟨rfl, rfl, rfl, by simp, fun k hk _ => heap_alloc_old w.drew _ hk⟩⟩
    · have hz1 : (Value.int IntKind.u8 0).cells.size = 1 := rfl
      simp only [Array.size_append, List.size_toArray, size_zeroCells, hz1, hxl', strCells_length]
      omega
    · simp only [Array.toList_append, List.append_assoc]
      rw [← List.append_assoc, ← hlen]
      exact List.take_left

/-- The law for the walk. -/
theorem app_full_str (w : World) {ops : Array Oper} {rest : List Oper} {o : Oper} {a : Act} {Q : Exit → Act → World → Prop} (hgd : o.guard = none) (sl x : Operand)
    (ho : o.op = .call { callee := .builtin .append, args := #[sl, x], argTypes := #[23, 9] }) (p : Option Addr) (n : Nat) (xs : List UInt8) (hs : a.eval sl = .slice p n n) (hxl : xs.length = n) (hnil : p = none → n = 0) (hba : BA w w.heap.size p n xs)
    (s : ByteArray) (hx : a.eval x = .string s) (hm : 0 < s.size) (hb : n + s.size ≤ 16777216)
    (h : ∀ v' w', Own w' w.heap.size v' (xs ++ s.data.toList) → Below w.heap.size w w' → wpList Tryf.prog ops Q rest (a.put o.dst v') w') : wpList Tryf.prog ops Q (o :: rest) a w := by
  refine wpList_plain hgd fun K hK => ?_
  obtain ⟨v', w', hr, h2, h3⟩ := run_full_str w o.type p n xs hxl hnil hba s hm hb
  unfold Oper.wp execOp
  simp only [ho, resolve, invoke, builtin, Sem.run_bind, Sem.run_pure, Result.andThen_ok, List.map_toArray, List.map_cons, List.map_nil, hs, hx, hr]
  refine hK _ _ (h v' w' ?_ (Below.grown (Below.refl _ _) h3 (Nat.le_refl _) (fun k hk => by cases hk)))
  unfold Own
  have e : s.data.toList.length = s.size := by rw [Array.length_toList]; rfl
  rw [List.length_append, e, bc_append, hxl]
  exact h2

end Go.Proofs.Qxb6003874aFmt
