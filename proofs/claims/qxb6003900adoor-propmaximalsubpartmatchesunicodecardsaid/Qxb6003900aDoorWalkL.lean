/-
  THE WALK OF THE LAW.
-/
import Derived.Test.Qxb6003900aDoorWalkM
namespace Go.Proofs.Qxb6003900aDoor
open Go.RowKit Go.Lib

theorem Tryd.info5 : (Tryd.prog.info? 5).map (fun i => (i.zero, i.size, i.bytes)) = some (some (.int .u8 0), 1, 1) := by kernel_rfl
theorem Tryd.size5 : (Tryd.prog.info? 5).map (·.size) = some 1 := by kernel_rfl
theorem below_setCells {B b : Nat} (hb : B ≤ b) {a : World} : ∀ (vs : List Value) (o : Nat) (w : World), Below B a w → Below B a (w.setCells b o vs)
  | [], _, _, h => h
  | v :: r, o, _, h => below_setCells hb r (o + 1) _ (h.setCell (p := ⟨b, o, none⟩) hb v)

set_option maxHeartbeats 2000000 in
set_option maxRecDepth 100000 in
theorem law_some (b o n c : Nat) (bs : List UInt8) (w : World) (hb : bs.length = n) (h0 : 1 ≤ n) (hbig : n ≤ 1048576) (hbl : b < w.heap.size) (hc : ∀ i, i < n → w.cell? ⟨b, o + i, none⟩ = some (.int .u8 (bs.getD i 0).toNat)) (hT : Lib.Utf8Tabs 0 1 w) :
    Calls Tryd.prog 3 #[.slice (some ⟨b, o, none⟩) n c] w fun e w' => e = .returned (.bool true) ∧ Below w.heap.size w w' := by
  have h2 : 2 ≤ w.heap.size := World.block_lt_of_cell? _ _ (hT.2 0 (by omega)).1
  have hmk := fun w => run_make_row' (P := Tryd.prog) 22 5 (.int .u8 0) 1 Tryd.underlying22 Tryd.info5 rfl .i64 .i64 n (by omega) (by omega) w
  have hcell : ∀ i, i < n → (w.alloc (.cells (madeCells #[.int .u8 0] n) 5)).cell? ⟨w.heap.size, i, none⟩ = some (.int .u8 0) := fun i hi => by
    rw [World.cell?_alloc_at _ _ _ _ rfl, ← Array.getElem?_toList, toList_madeCells_one]
    simp [hi]
  have hW1 : Below w.heap.size w (w.alloc (.cells (madeCells #[.int .u8 0] n) 5)) := (Below.refl _ _).alloc (Nat.le_refl _) _
  have hsz : ∀ (vs : List Value) (b o : Nat) (w : World), (w.setCells b o vs).heap.size = w.heap.size := fun vs => by
    induction vs with
    | nil => intros; rfl
    | cons v r ih => intro b o w; rw [World.setCells, ih]; simp [World.setCell]
  obtain ⟨cs, hcs⟩ : ∃ cs : List Value, cs = bs.map (fun x => Value.int .u8 x.toNat) := ⟨_, rfl⟩
  have hcl : cs.length = n := by rw [hcs]; simpa using hb
  have hcg : ∀ i, i < n → cs[i]? = some (.int .u8 (bs.getD i 0).toNat) := fun i hi => by
    rw [hcs]; simp [List.getD_eq_getElem?_getD, List.getElem?_eq_getElem (show i < bs.length by omega)]
  have hrun : (Builtin.copy_ #[22, 22] 3 #[.slice (some ⟨w.heap.size, 0, none⟩) n n, .slice (some ⟨b, o, none⟩) n c]).run Tryd.prog (w.alloc (.cells (madeCells #[.int .u8 0] n) 5)) = .ok (goInt cs.length) ((w.alloc (.cells (madeCells #[.int .u8 0] n) 5)).setCells w.heap.size 0 cs) := by
    refine run_copy_cells _ 22 22 3 5 w.heap.size 0 n n _ n c cs Tryd.underlying22 Tryd.size5 (by rw [hcl]; exact (Nat.min_self n).symm) (fun j v hj => ?_) (fun j hj => ?_) (fun j hj => ?_) (fun v hv => ?_)
    · have hjn : j < n := by
        have := (List.getElem?_eq_some_iff.1 hj).1
        omega
      rw [hcg j hjn] at hj
      rw [← Option.some.inj hj, Addr.add_lit, hW1.cell (p := ⟨b, o + j, none⟩) hbl]
      exact hc j hjn
    · rw [Nat.zero_add, hcell j (by omega)]; rfl
    · rw [Nat.zero_add]; exact World.frozen?_alloc_at _ _ _ _ rfl
    · rw [hcs] at hv
      obtain ⟨x, _, rfl⟩ := List.mem_map.1 hv
      rfl
  obtain ⟨w1, hw1⟩ : ∃ w1, w1 = (w.alloc (.cells (madeCells #[.int .u8 0] n) 5)).setCells w.heap.size 0 cs := ⟨_, rfl⟩
  rw [← hw1] at hrun
  have HB1 := aside (show Below w.heap.size w w1 by rw [hw1]; exact below_setCells (Nat.le_refl _) _ _ _ hW1)
  have HS1 := aside (show w.heap.size < w1.heap.size by rw [hw1, hsz]; simp)
  have HC1 := aside (show ∀ i, i < n → w1.cell? ⟨w.heap.size, 0 + i, none⟩ = some (.int .u8 (bs.getD i 0).toNat) from fun i hi => by
    have h := World.cell?_setCells_in w.heap.size cs 0 (w.alloc (.cells (madeCells #[.int .u8 0] n) 5)) (fun j hj => by rw [Nat.zero_add, hcell j (by omega)]; rfl) i (by omega)
    rw [hw1, h]
    have h2 := hcg i hi
    rw [List.getElem?_eq_getElem (by omega)] at h2
    exact h2)
  have HRUN := aside hrun
  have HT1 := aside (tabs_heap hT HB1.out h2)
  have CS := aside (starts_any (some ⟨b, o, none⟩) w.heap.size n c bs w hb h0 hbig (fun _ => ⟨b, o, rfl, hbl, hc⟩))
  have CW := aside (walk_any (some ⟨w.heap.size, 0, none⟩) w1.heap.size n n bs w1 hb h0 hbig (fun _ => ⟨w.heap.size, 0, rfl, HS1.out, HC1.out⟩))
  have CM := aside (fun m hm => zzMaximal_any w.heap.size 0 n n m bs w1 hb h0 hbig (Nat.le_refl _) HT1.out HC1.out HS1.out hm)
  have HBN := aside hb
  have hnz : ((n : Int) == 0) = false := by rw [beq_eq_false_iff_ne]; omega
  have q22 : ∀ (w : World) (a : Option Addr) (n c n' c' : Nat), (binOp .neq 22 (.slice a n c) (.slice none n' c')).run Tryd.prog w = .ok (.bool (!a.isNone)) w := fun w a n c n' c' => run_neq_slice_nil_any w 22 5 a n c n' c' Tryd.underlying22
  clear hcell hW1 hsz hcs hcl hcg hrun hw1 hb hc hT h2
  go_enter Tryd.func3, Tryd.ntmps3
  go_wp2_with fail
  refine (zzBytes_yes _ n c _ hbig).mono ?_
  rintro e w' ⟨rfl, hw⟩
  rw [hw]
  clear hw
  go_wp2_with fail
  refine CS.out.mono ?_
  rintro e w' ⟨⟨m0, ok, rfl, hW⟩, hw⟩
  rw [hw]
  clear hw
  cases ok with
  | true =>
    clear hW
    go_wp2
    go_ret
    exact ⟨rfl, Below.refl _ _⟩
  | false =>
    have HW := aside hW
    clear hW CS
    go_wp2_with (refine Lib.wpList_copy_run _ rfl _ _ 22 22 rfl _ _ rfl rfl HRUN.out ?_)
    refine CW.out.mono ?_
    rintro e w2 ⟨⟨m, ok, rfl, hW2⟩, hw⟩
    obtain ⟨rfl, rfl⟩ := HW.out.uniq hW2
    rw [hw]
    have HM := aside (CM.out m0 HW.out)
    have HR := aside (show 1 ≤ m0 ∧ m0 ≤ 3 by
      rcases HW.out with ⟨_, rfl, _⟩ | ⟨k, _, _, h, _⟩ | ⟨k, hk, h1, h3, _⟩
      · omega
      · cases h
      · have := need_le (bs.getD 0 0).toNat
        omega)
    have hm1 : (1 : Int) ≤ (m0 : Int) := by have := HR.out; omega
    have hm3 : (m0 : Int) ≤ 3 := by have := HR.out; omega
    clear hw hW2 CW CM
    go_wp2_with fail
    refine HM.out.mono ?_
    rintro e w3 ⟨rfl, hB3⟩
    have HB3 := aside (HB1.out.trans (hB3.mono (Nat.le_of_lt HS1.out)))
    clear hB3
    go_wp2
    go_ret
    exact ⟨rfl, HB3.out⟩

set_option maxHeartbeats 2000000 in
set_option maxRecDepth 100000 in
theorem law_any (a : Option Addr) (n c : Nat) (bs : List UInt8) (w : World) (hb : bs.length = n) (h1 : BA w w.heap.size a n bs) (hT : Lib.Utf8Tabs 0 1 w) :
    Calls Tryd.prog 3 #[.slice a n c] w fun e w' => e = .returned (.bool true) ∧ Below w.heap.size w w' := by
  by_cases hbig : n ≤ 1048576
  · by_cases hn : n = 0
    · subst hn
      have C := aside (fun w => zzBytes_yes a 0 c w hbig)
      clear hT h1 hb
      go_enter Tryd.func3, Tryd.ntmps3
      go_wp2_with (go_at_call 4; refine (C.out _).mono ?_; rintro e w' ⟨rfl, hw⟩; rw [hw]; clear hw)
      go_ret
      exact ⟨rfl, Below.refl _ _⟩
    · obtain ⟨b, o, rfl, hbl, hc⟩ := h1 (by omega)
      exact law_some b o n c bs w hb (by omega) hbig hbl hc hT
  · have C := aside (fun w => zzBytes_no a n c w (by omega))
    clear hT h1 hb
    go_enter Tryd.func3, Tryd.ntmps3
    go_wp2_with (go_at_call 4; refine (C.out _).mono ?_; rintro e w' ⟨rfl, hw⟩; rw [hw]; clear hw)
    go_ret
    exact ⟨rfl, Below.refl _ _⟩

end Go.Proofs.Qxb6003900aDoor
