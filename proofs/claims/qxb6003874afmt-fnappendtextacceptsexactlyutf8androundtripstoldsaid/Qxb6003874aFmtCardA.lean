/-
  'Rows.FnAppendTextAcceptsExactlyUTF8AndRoundTripsToldSaid' PROVED: the row out of the law's walk; the told and tied card by the builder's one call.
-/
import Derived.Test.Qxb6003874aFmtWalkL
import Derived.Test.Qxb6003874aFmtCards
import Derived.Test.Qxb6003874aFmtTie
import Derived.ProofKit
import Derived.ChangeOld
import Derived.Carry
import Derived.ChangeMaps5
import Derived.Lay
import Derived.PinnedBridge
import Derived.SevenTiedAt
import Derived.SevenToldRow
import Derived.Stop.JoinedTold
import Derived.LaidLaws
namespace Go.Proofs.Qxb6003874aFmt
open Go.ChangeMaps Go.ChangeShapes Go.WideShapes Go.ChangeAt Go.RowKit Go.Extern.Stop Go.Stop Go.Extern
set_option linter.unusedVariables false

theorem own : ownKnob Tryf.prog.godebug = none := by kernel_rfl
theorem laidOut : laidOutB Tryf.pinned.checked.prog = true := by kernel_rfl
theorem stopKnobs : Tryf.pinned.checked.prog.stopKnobs = [] := by kernel_rfl
theorem quiet (os : Os) : Stop.quiet Tryf.pinned.checked.prog os := by
  intro k hk
  rw [stopKnobs] at hk
  cases hk

theorem byte_int {z : Int} (h : (Lit.int .u8 z).wf = true) : (((UInt8.ofNat z.toNat).toNat : Nat) : Int) = z := by
  have hz : 0 ≤ z ∧ z ≤ 255 := by simpa [Lit.wf, IntKind.min, IntKind.max, IntKind.signed, IntKind.bits] using h
  simp only [UInt8.toNat_ofNat']
  omega

/-- A slice of bytes that came in, as the walk has it. -/
theorem opened {H : Type} {enc : TypeId × Value → H} {W : World} {a0 : Option Addr} {len cap : Nat} {d0 : DataW H} {p : List MemPlace}
    (h0 : DataW.Trod enc Tryf.prog W 0 (fun _ => true) true 23 (.slice a0 len cap) d0 p) :
    ∃ bs : List UInt8, bs.length = len ∧ len ≤ cap ∧ cap ≤ maxLen ∧ (a0 = none → len = 0 ∧ cap = 0) ∧ BA W W.heap.size a0 len bs := by
  obtain ⟨fuel, hf⟩ := h0
  rcases open_ints Tryf.underlying23 Tryf.underlying5 (by kernel_rfl) hf with ⟨hcs, _⟩ | ⟨x, l, c, zs, hcs, _, hl, hm, hz, _, hcell, hwz⟩
  · simp [Value.cells] at hcs
    obtain ⟨rfl, rfl, rfl⟩ := hcs
    exact ⟨[], rfl, Nat.le_refl _, by unfold maxLen; omega, fun _ => ⟨rfl, rfl⟩, fun h => absurd h (by omega)⟩
  · simp [Value.cells] at hcs
    obtain ⟨rfl, rfl, rfl⟩ := hcs
    have hz' : zs.length = cap := by simpa using hz
    refine ⟨(zs.take len).map (fun z => UInt8.ofNat z.toNat), by simp; omega, hl, hm, (fun h => by cases h), fun h0 => ?_⟩
    obtain ⟨b, off, spot⟩ := x
    have hspot : spot = none := by simpa [Addr.add] using World.cell?_spot (hcell 0 (by omega))
    subst hspot
    refine ⟨b, off, rfl, World.block_lt_of_cell? _ _ (hcell 0 (by omega)), fun i hi => ?_⟩
    have h1 := hcell i (by omega)
    rw [Addr.add_lit] at h1
    rw [h1]
    have hi' : i < zs.length := by omega
    have hm' : zs[i] ∈ zs := List.getElem_mem _
    have e1 : zs.getD i 0 = zs[i] := by simp [List.getD_eq_getElem?_getD, hi']
    have e2 : ((zs.take len).map (fun z => UInt8.ofNat z.toNat)).getD i 0 = UInt8.ofNat zs[i].toNat := by simp [List.getD_eq_getElem?_getD, hi, hi']
    rw [e1, e2, byte_int (hwz _ hm')]

/-- Where the tables lie: types and variables as this dump numbers them. -/
def u8ren : Go.Shelf.Ren := ⟨fun n => n, fun | 5 => 5 | 119 => 74 | 138 => 76 | 139 => 77 | n => n, fun | 3 => 0 | 4 => 1 | n => n⟩
theorem u8types : U8Types Tryf.prog u8ren := ⟨Tryf.underlying5, Tryf.underlying74, Tryf.underlying76, Tryf.underlying77⟩
theorem u8extra : U8Extra Tryf.prog u8ren := ⟨by kernel_rfl, by kernel_rfl, by kernel_rfl, by kernel_rfl, by kernel_rfl, by kernel_rfl, by kernel_rfl⟩
theorem acc_eq : (Rows.laid_unicode_utf8_acceptRanges : DataW Unit) = Lib.acceptData := by kernel_rfl
theorem tabs_of_laid {W : World} (hL : laidMet Tryf.prog Rows.fnAppendTextAcceptsExactlyUTF8AndRoundTripsRow.laid W) : Lib.Utf8Tabs 0 1 W :=
  utf8Tabs_of_readsT u8types u8extra (Pinned.utf8First_eq ▸ Lib.laidMet.reads hL (.tail _ (.head _))) (acc_eq ▸ Lib.laidMet.reads hL (.head _))

set_option maxRecDepth 100000 in
theorem lifted (os : Os) (started : os.Started) (H : Type) (enc : TypeId × Value → H) :
    ReturnsInTold none {} Tryf.checked os 5 .any Input.okWide ((OpenSpec.ofChange Rows.fnAppendTextAcceptsExactlyUTF8AndRoundTripsSpec).preRow enc Tryf.prog Tryf.f5 [] false Rows.fnAppendTextAcceptsExactlyUTF8AndRoundTripsRow.laid)
      (fun F => ((OpenSpec.ofChange Rows.fnAppendTextAcceptsExactlyUTF8AndRoundTripsSpec).at F).post enc Tryf.prog Tryf.f5 false true false false) (aloneAtReturn Tryf.prog) nothingAlways := by
  refine returnsInTold_of_row (C := Tryf.checked) (s := OpenSpec.ofChange Rows.fnAppendTextAcceptsExactlyUTF8AndRoundTripsSpec) (by kernel_rfl) own started (by kernel_rfl) Tryf.func5
    (fun F => ⟨World.laidAll Tryf.prog os Rows.fnAppendTextAcceptsExactlyUTF8AndRoundTripsRow.laid, F.over fun _ _ => 0, ⟨#[], #[.slice none 0 0, .string ⟨#[]⟩, .string ⟨#[]⟩, .string ⟨#[]⟩], []⟩, World.laidAll_os _ _ _,
      World.shaped_of_ZipB (by kernel_rfl) (by kernel_rfl), rfl, (Input.okWide_of_okWideB (by kernel_rfl)).2,
      OpenSpec.preRow_of_B rfl 8 (by kernel_rfl) (by kernel_rfl) (by rw [MakeChecks.laidMetH_plain _ _ _ (by kernel_rfl)]; exact laidMet_laidAll _ (by kernel_rfl) (by kernel_rfl)),
      by
        simp only [Assume.holds]
        exact ⟨by simp, by simp, fun _ => F.over_modest Modest.zero, by simp, by simp⟩, F.over_answers _⟩) ?_
  intro F W base args ds gs before _ hF hval0 hW _ _ _ hL _
  have hval : ∀ (j : Nat) t v, Tryf.f5.params[j]? = some t → args[j]? = some v → Value.okWide Tryf.prog W .any base t v := hval0
  have hW' := hW
  obtain ⟨p, q, hA0, hV, rfl, _, _⟩ := hW
  have hA : DataW.TrodAll enc Tryf.prog W 0 (fun _ => true) true Tryf.f5.params.toList args.toList ds p := hA0
  rw [Tryf.params5] at hA hval
  obtain ⟨v0, v1, v2, v3, d0, d1, d2, d3, p0, p1, p2, p3, rfl, rfl, rfl, h0, h1, h2, h3⟩ := trodAll_four hA
  obtain ⟨rfl, rfl⟩ := trodVars_none hV
  obtain ⟨a0, len0, cap0, rfl⟩ := okWide_slice Tryf.underlying23 (hval 0 23 v0 rfl rfl)
  obtain ⟨s, rfl, rfl, rfl, ws⟩ := open_string Tryf.underlying9 (hval 1 9 v1 rfl rfl) h1
  obtain ⟨t, rfl, rfl, rfl, wt⟩ := open_string Tryf.underlying9 (hval 2 9 v2 rfl rfl) h2
  obtain ⟨u, rfl, rfl, rfl, wu⟩ := open_string Tryf.underlying9 (hval 3 9 v3 rfl rfl) h3
  have k0 := h0
  have lt0 : ∀ x ∈ p0, x.block < W.heap.size := by obtain ⟨m, hm⟩ := k0; exact DataW.trod_lt m _ _ _ hm
  obtain ⟨bs, hb, hnc, hm, hnil, hba⟩ := opened h0
  rw [MakeChecks.laidMetH_plain _ _ _ (by kernel_rfl)] at hL
  have hT : Lib.Utf8Tabs 0 1 W := tabs_of_laid hL
  clear hA0 hval0
  refine (law_any F.told a0 len0 cap0 bs s t u W hb hnil hba hT hF).mono fun e W' ⟨he, bel⟩ => ?_
  subst he
  exact ⟨_, rfl, _, _, _, [], _, [], hW', trodAll_mk1 (shut_bool Tryf.underlying4 _), trodAll_mk4 (Below.trod laidOut (by kernel_rfl) (of_decide_eq_true (by kernel_rfl)) k0 bel lt0) (shut_string Tryf.underlying9 ws) (shut_string Tryf.underlying9 wt) (shut_string Tryf.underlying9 wu), rfl, bel.frame _, fun h => by cases h⟩

/-- THE STATEMENT. -/
theorem appendText_told : Rows.FnAppendTextAcceptsExactlyUTF8AndRoundTripsToldSaid :=
  Claim7.holds_of_told_tied_any_at .later 5 Tryf.f5 _ _ [] _ _ _ _ _ (by kernel_rfl) rfl rfl rfl laidOut (by kernel_rfl) rfl ⟨rfl, rfl, rfl, rfl, rfl, rfl, rfl⟩ rfl rfl (by kernel_rfl) (by kernel_rfl) Tryf.func5 (by kernel_rfl)
    (of_decide_eq_true (by kernel_rfl)) (of_decide_eq_true (by kernel_rfl)) (by kernel_rfl) rfl stopKnobs.symm (by kernel_rfl)
    (by kernel_rfl) (by kernel_rfl) (by kernel_rfl) (by kernel_rfl) (by kernel_rfl) (by kernel_rfl) (by kernel_rfl) (by kernel_rfl) (by kernel_rfl) rfl (by kernel_rfl) rfl rfl
    rfl rfl
    rfl (by kernel_rfl) (by kernel_rfl) (by kernel_rfl) (by decide) (by kernel_rfl) fnAppendTextAcceptsExactlyUTF8AndRoundTrips_row_tie
    (OpenClaim.moreEntering_of (by kernel_rfl) (by kernel_rfl) (by kernel_rfl) (by kernel_rfl) (by kernel_rfl) (by kernel_rfl) (by kernel_rfl) (by kernel_rfl) (by kernel_rfl) (by kernel_rfl))
    ⟨_, WideRow.started_initial, quiet _⟩
    (fun os started _ H enc _ => lifted os started H enc)
#print axioms appendText_told
end Go.Proofs.Qxb6003874aFmt
