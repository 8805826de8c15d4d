/-
  'Rows.FnAppendLetterAcceptsAndRoundTripsToldSaid' PROVED: the row out of the law's walk; the told and tied card by the builder's one call.
-/
import Derived.Test.Qxb6003874aFmtWalkK
import Derived.Test.Qxb6003874aFmtCards
import Derived.Test.Qxb6003874aFmtTie
import Derived.ProofKit
import Derived.ChangeOld
import Derived.Carry
import Derived.ChangeMaps5
import Derived.Lay
import Derived.PinnedBridge
import Derived.SevenTiedAt
import Derived.SevenToldRow
import Derived.Stop.JoinedTold
import Derived.LaidLaws
import Derived.OpenShut
import Derived.Lib.LaidTab
import Derived.Stop.LaidErr
namespace Go.Proofs.Qxb6003874aFmt
open Go.ChangeMaps Go.ChangeShapes Go.WideShapes Go.ChangeAt Go.RowKit Go.Extern.Stop Go.Stop Go.Extern
set_option linter.unusedVariables false

theorem own : ownKnob Tryf.prog.godebug = none := by kernel_rfl
theorem laidOut : laidOutB Tryf.pinned.checked.prog = true := by kernel_rfl
theorem stopKnobs : Tryf.pinned.checked.prog.stopKnobs = [] := by kernel_rfl
theorem quiet (os : Os) : Stop.quiet Tryf.pinned.checked.prog os := by
  intro k hk
  rw [stopKnobs] at hk
  cases hk

theorem byte_int {z : Int} (h : (Lit.int .u8 z).wf = true) : (((UInt8.ofNat z.toNat).toNat : Nat) : Int) = z := by
  have hz : 0 ≤ z ∧ z ≤ 255 := by simpa [Lit.wf, IntKind.min, IntKind.max, IntKind.signed, IntKind.bits] using h
  simp only [UInt8.toNat_ofNat']
  omega

/-- A slice of bytes that came in, as the walk has it. -/
theorem opened {H : Type} {enc : TypeId × Value → H} {W : World} {a0 : Option Addr} {len cap : Nat} {d0 : DataW H} {p : List MemPlace}
    (h0 : DataW.Trod enc Tryf.prog W 0 (fun _ => true) true 23 (.slice a0 len cap) d0 p) :
    ∃ bs : List UInt8, bs.length = len ∧ len ≤ cap ∧ cap ≤ maxLen ∧ (a0 = none → len = 0 ∧ cap = 0) ∧ BA W W.heap.size a0 len bs := by
  obtain ⟨fuel, hf⟩ := h0
  rcases open_ints Tryf.underlying23 Tryf.underlying5 (by kernel_rfl) hf with ⟨hcs, _⟩ | ⟨x, l, c, zs, hcs, _, hl, hm, hz, _, hcell, hwz⟩
  · simp [Value.cells] at hcs
    obtain ⟨rfl, rfl, rfl⟩ := hcs
    exact ⟨[], rfl, Nat.le_refl _, by unfold maxLen; omega, fun _ => ⟨rfl, rfl⟩, fun h => absurd h (by omega)⟩
  · simp [Value.cells] at hcs
    obtain ⟨rfl, rfl, rfl⟩ := hcs
    have hz' : zs.length = cap := by simpa using hz
    refine ⟨(zs.take len).map (fun z => UInt8.ofNat z.toNat), by simp; omega, hl, hm, (fun h => by cases h), fun h0 => ?_⟩
    obtain ⟨b, off, spot⟩ := x
    have hspot : spot = none := by simpa [Addr.add] using World.cell?_spot (hcell 0 (by omega))
    subst hspot
    refine ⟨b, off, rfl, World.block_lt_of_cell? _ _ (hcell 0 (by omega)), fun i hi => ?_⟩
    have h1 := hcell i (by omega)
    rw [Addr.add_lit] at h1
    rw [h1]
    have hi' : i < zs.length := by omega
    have hm' : zs[i] ∈ zs := List.getElem_mem _
    have e1 : zs.getD i 0 = zs[i] := by simp [List.getD_eq_getElem?_getD, hi']
    have e2 : ((zs.take len).map (fun z => UInt8.ofNat z.toNat)).getD i 0 = UInt8.ofNat zs[i].toNat := by simp [List.getD_eq_getElem?_getD, hi, hi']
    rw [e1, e2, byte_int (hwz _ hm')]

/-- Where the tables lie: types and variables as this dump numbers them. -/
def u8ren : Go.Shelf.Ren := ⟨fun n => n, fun | 5 => 5 | 119 => 74 | 138 => 76 | 139 => 77 | n => n, fun | 3 => 0 | 4 => 1 | n => n⟩
theorem u8types : U8Types Tryf.prog u8ren := ⟨Tryf.underlying5, Tryf.underlying74, Tryf.underlying76, Tryf.underlying77⟩
theorem u8extra : U8Extra Tryf.prog u8ren := ⟨by kernel_rfl, by kernel_rfl, by kernel_rfl, by kernel_rfl, by kernel_rfl, by kernel_rfl, by kernel_rfl⟩
theorem acc_eq : (Rows.laid_unicode_utf8_acceptRanges : DataW Unit) = Lib.acceptData := by kernel_rfl
theorem tabs_of_laid {W : World} (hL : laidMet Tryf.prog Rows.fnAppendLetterAcceptsAndRoundTripsRow.laid W) : Lib.Utf8Tabs 0 1 W :=
  utf8Tabs_of_readsT u8types u8extra (Pinned.utf8First_eq ▸ Lib.laidMet.reads hL (.tail _ (.tail _ (.tail _ (.tail _ (.head _)))))) (acc_eq ▸ Lib.laidMet.reads hL (.tail _ (.tail _ (.tail _ (.head _)))))

theorem pw_eq : (Rows.laid_internal_strconv_uint64pow10 : DataW Unit) = Lib.tabData .u64 Lib.pow10Tab := by kernel_rfl
theorem pows_of {W : World} {name : String} {dt : DataW Unit} {rest : List (String × DataW Unit)} (hd : dt = Lib.tabData .u64 Lib.pow10Tab) (hg : Tryf.prog.globalNamed name = some 2) (h : laidMet Tryf.prog ((name, dt) :: rest) W) : Pows W.heap.size W := by
  subst hd
  have h' := Lib.tabIs_of_head hg (by kernel_rfl) Tryf.underlying86 Tryf.underlying22 (by kernel_rfl) (by kernel_rfl) h
  intro nm hn
  refine Lib.tabBelow_of_tabIs ?_
  unfold Lib.TabIs World.var? at h' ⊢
  rw [hg] at h'
  rw [hn]
  exact h'
theorem pows_of_laid {W : World} (hL : laidMet Tryf.prog Rows.fnAppendLetterAcceptsAndRoundTripsRow.laid W) : Pows W.heap.size W :=
  pows_of pw_eq (by kernel_rfl) (laidMet.tail (laidMet.tail hL))

theorem trodAll_eight {H : Type} {enc : TypeId × Value → H} {P : Program} {w : World} {base : Nat} {spare : Nat → Bool} {held : Bool} {t0 t1 t2 t3 t4 t5 t6 t7 : TypeId} {args : Array Value} {ds : List (DataW H)} {ps : List MemPlace}
    (h : DataW.TrodAll enc P w base spare held [t0, t1, t2, t3, t4, t5, t6, t7] args.toList ds ps) :
    ∃ v0 v1 v2 v3 v4 v5 v6 v7 d0 d1 d2 d3 d4 d5 d6 d7 p0 p1 p2 p3 p4 p5 p6 p7, args = #[v0, v1, v2, v3, v4, v5, v6, v7] ∧ ds = [d0, d1, d2, d3, d4, d5, d6, d7] ∧ ps = p0 ++ (p1 ++ (p2 ++ (p3 ++ (p4 ++ (p5 ++ (p6 ++ p7)))))) ∧
      DataW.Trod enc P w base spare held t0 v0 d0 p0 ∧ DataW.Trod enc P w base spare held t1 v1 d1 p1 ∧ DataW.Trod enc P w base spare held t2 v2 d2 p2 ∧ DataW.Trod enc P w base spare held t3 v3 d3 p3 ∧
      DataW.Trod enc P w base spare held t4 v4 d4 p4 ∧ DataW.Trod enc P w base spare held t5 v5 d5 p5 ∧ DataW.Trod enc P w base spare held t6 v6 d6 p6 ∧ DataW.Trod enc P w base spare held t7 v7 d7 p7 := by
  obtain ⟨v0, r0, d0, e0, p0, q0, ha, rfl, rfl, h0, k0⟩ := trodAll_cons h
  obtain ⟨v1, r1, d1, e1, p1, q1, rfl, rfl, rfl, h1, k1⟩ := trodAll_cons k0
  obtain ⟨v2, r2, d2, e2, p2, q2, rfl, rfl, rfl, h2, k2⟩ := trodAll_cons k1
  obtain ⟨v3, r3, d3, e3, p3, q3, rfl, rfl, rfl, h3, k3⟩ := trodAll_cons k2
  obtain ⟨v4, r4, d4, e4, p4, q4, rfl, rfl, rfl, h4, k4⟩ := trodAll_cons k3
  obtain ⟨v5, r5, d5, e5, p5, q5, rfl, rfl, rfl, h5, k5⟩ := trodAll_cons k4
  obtain ⟨v6, r6, d6, e6, p6, q6, rfl, rfl, rfl, h6, k6⟩ := trodAll_cons k5
  obtain ⟨v7, r7, d7, e7, p7, q7, rfl, rfl, rfl, h7, k7⟩ := trodAll_cons k6
  have k7' : DataW.TrodAll enc P w base spare held [] (⟨r7⟩ : Array Value).toList e7 q7 := k7
  obtain ⟨hr, rfl, rfl⟩ := trodAll_none k7'
  obtain rfl : r7 = [] := by injection hr
  refine ⟨v0, v1, v2, v3, v4, v5, v6, v7, d0, d1, d2, d3, d4, d5, d6, d7, p0, p1, p2, p3, p4, p5, p6, p7, ?_, rfl, by rw [List.append_nil], h0, h1, h2, h3, h4, h5, h6, h7⟩
  apply Array.ext'
  rw [ha]

set_option maxRecDepth 100000 in
theorem lifted (os : Os) (started : os.Started) (H : Type) (enc : TypeId × Value → H) :
    ReturnsInTold none {} Tryf.checked os 6 .any Input.okWide ((OpenSpec.ofChange Rows.fnAppendLetterAcceptsAndRoundTripsSpec).preRow enc Tryf.prog Tryf.f6 [] false Rows.fnAppendLetterAcceptsAndRoundTripsRow.laid)
      (fun F => ((OpenSpec.ofChange Rows.fnAppendLetterAcceptsAndRoundTripsSpec).at F).post enc Tryf.prog Tryf.f6 false true false false) (aloneAtReturn Tryf.prog) nothingAlways := by
  refine returnsInTold_of_row (C := Tryf.checked) (s := OpenSpec.ofChange Rows.fnAppendLetterAcceptsAndRoundTripsSpec) (by kernel_rfl) own started (by kernel_rfl) Tryf.func6
    (fun F => ⟨World.laidAll Tryf.prog os Rows.fnAppendLetterAcceptsAndRoundTripsRow.laid, F.over fun _ _ => 0, ⟨#[], #[.slice none 0 0, .string ⟨#[]⟩, .int .i64 0, .string ⟨#[]⟩, .int .i32 0, .string ⟨#[]⟩, .string ⟨#[]⟩, .int .i64 0], []⟩, World.laidAll_os _ _ _,
      World.shaped_of_ZipB (by kernel_rfl) (by kernel_rfl), rfl, (Input.okWide_of_okWideB (by kernel_rfl)).2,
      OpenSpec.preRow_of_B rfl 8 (by kernel_rfl) (by kernel_rfl) (by rw [MakeChecks.laidMetH_plain _ _ _ (by kernel_rfl)]; exact laidMet_laidAll _ (by kernel_rfl) (by kernel_rfl)),
      by
        simp only [Assume.holds]
        exact ⟨by simp, by simp, fun _ => F.over_modest Modest.zero, by simp, by simp⟩, F.over_answers _⟩) ?_
  intro F W base args ds gs before _ hF hval0 hW _ _ _ hL _
  have hval : ∀ (j : Nat) t v, Tryf.f6.params[j]? = some t → args[j]? = some v → Value.okWide Tryf.prog W .any base t v := hval0
  have hW' := hW
  obtain ⟨p, q, hA0, hV, rfl, _, _⟩ := hW
  have hA : DataW.TrodAll enc Tryf.prog W 0 (fun _ => true) true Tryf.f6.params.toList args.toList ds p := hA0
  rw [Tryf.params6] at hA hval
  obtain ⟨v0, v1, v2, v3, v4, v5, v6, v7, d0, d1, d2, d3, d4, d5, d6, d7, p0, p1, p2, p3, p4, p5, p6, p7, rfl, rfl, rfl, h0, h1, h2, h3, h4, h5, h6, h7⟩ := trodAll_eight hA
  obtain ⟨rfl, rfl⟩ := trodVars_none hV
  obtain ⟨a0, len0, cap0, rfl⟩ := okWide_slice Tryf.underlying23 (hval 0 23 v0 rfl rfl)
  obtain ⟨i, rfl, rfl, rfl, wi⟩ := open_string Tryf.underlying9 (hval 1 9 v1 rfl rfl) h1
  obtain ⟨x, rfl, rfl, rfl, wx⟩ := open_int Tryf.underlying2 (hval 2 2 v2 rfl rfl) h2
  obtain ⟨s, rfl, rfl, rfl, ws⟩ := open_string Tryf.underlying9 (hval 3 9 v3 rfl rfl) h3
  obtain ⟨y, rfl, rfl, rfl, wy⟩ := open_int Tryf.underlying21 (hval 4 21 v4 rfl rfl) h4
  obtain ⟨t, rfl, rfl, rfl, wt⟩ := open_string Tryf.underlying9 (hval 5 9 v5 rfl rfl) h5
  obtain ⟨u, rfl, rfl, rfl, wu⟩ := open_string Tryf.underlying9 (hval 6 9 v6 rfl rfl) h6
  obtain ⟨d, rfl, rfl, rfl, wd⟩ := open_int Tryf.underlying3 (hval 7 3 v7 rfl rfl) h7
  have k0 := h0
  have lt0 : ∀ x ∈ p0, x.block < W.heap.size := by obtain ⟨m, hm⟩ := k0; exact DataW.trod_lt m _ _ _ hm
  obtain ⟨bs, hb, hnc, hm, hnil, hba⟩ := opened h0
  rw [MakeChecks.laidMetH_plain _ _ _ (by kernel_rfl)] at hL
  have hT : Lib.Utf8Tabs 0 1 W := tabs_of_laid hL
  have hP : Pows W.heap.size W := pows_of_laid hL
  obtain ⟨hx0, hx1⟩ : -9223372036854775808 ≤ x ∧ x ≤ 9223372036854775807 := by simpa [Lit.wf, IntKind.min, IntKind.max, IntKind.signed, IntKind.bits] using wx
  obtain ⟨hy0, hy1⟩ : -2147483648 ≤ y ∧ y ≤ 2147483647 := by simpa [Lit.wf, IntKind.min, IntKind.max, IntKind.signed, IntKind.bits] using wy
  clear hA0 hval0
  refine (law4_any F.told a0 len0 cap0 bs i s t u x y d W hb hnil hba hT hP hx0 hx1 hy0 hy1 hF).mono fun e W' ⟨he, bel⟩ => ?_
  subst he
  exact ⟨_, rfl, _, _, _, [], _, [], hW', trodAll_mk1 (shut_bool Tryf.underlying4 _), trodAll_cons_mk (Below.trod laidOut (by kernel_rfl) (of_decide_eq_true (by kernel_rfl)) k0 bel lt0) (trodAll_cons_mk (shut_string Tryf.underlying9 wi) (trodAll_cons_mk (shut_int Tryf.underlying2 wx) (trodAll_cons_mk (shut_string Tryf.underlying9 ws) (trodAll_cons_mk (shut_int Tryf.underlying21 wy) (trodAll_mk3 (shut_string Tryf.underlying9 wt) (shut_string Tryf.underlying9 wu) (shut_int Tryf.underlying3 wd)))))), rfl, bel.frame _, fun h => by cases h⟩

/-- THE STATEMENT. -/
theorem appendLetter_told : Rows.FnAppendLetterAcceptsAndRoundTripsToldSaid :=
  Claim7.holds_of_told_tied_any_at .later 6 Tryf.f6 _ _ [] _ _ _ _ _ (by kernel_rfl) rfl rfl rfl laidOut (by kernel_rfl) rfl ⟨rfl, rfl, rfl, rfl, rfl, rfl, rfl⟩ rfl rfl (by kernel_rfl) (by kernel_rfl) Tryf.func6 (by kernel_rfl)
    (of_decide_eq_true (by kernel_rfl)) (of_decide_eq_true (by kernel_rfl)) (by kernel_rfl) rfl stopKnobs.symm (by kernel_rfl)
    (by kernel_rfl) (by kernel_rfl) (by kernel_rfl) (by kernel_rfl) (by kernel_rfl) (by kernel_rfl) (by kernel_rfl) (by kernel_rfl) (by kernel_rfl) rfl (by kernel_rfl) rfl rfl
    rfl rfl
    rfl (by kernel_rfl) (by kernel_rfl) (by kernel_rfl) (by decide) (by kernel_rfl) fnAppendLetterAcceptsAndRoundTrips_row_tie
    (OpenClaim.moreEntering_of (by kernel_rfl) (by kernel_rfl) (by kernel_rfl) (by kernel_rfl) (by kernel_rfl) (by kernel_rfl) (by kernel_rfl) (by kernel_rfl) (by kernel_rfl) (by kernel_rfl))
    ⟨_, WideRow.started_initial, quiet _⟩
    (fun os started _ H enc _ => lifted os started H enc)
#print axioms appendLetter_told
end Go.Proofs.Qxb6003874aFmt
