/-
  'Rows.PropMaximalSubpartMatchesUnicodeCardSaid' PROVED: the row out of the law's walk; the tied card by the builder's one call.
-/
import Derived.Test.Qxb6003900aDoorWalkL
import Derived.Test.Qxb6003900aDoorCards
import Derived.Test.Qxb6003900aDoorTie
import Derived.ProofKit
import Derived.ChangeOld
import Derived.Lay
import Derived.PinnedBridge
import Derived.Lib.LaidU8T
import Derived.SevenTiedAt
namespace Go.Proofs.Qxb6003900aDoor
open Go.ChangeShapes Go.WideShapes Go.ChangeAt Go.RowKit
set_option linter.unusedVariables false

theorem own : ownKnob Tryd.prog.godebug = none := by kernel_rfl
theorem laidOut : laidOutB Tryd.prog = true := by kernel_rfl

theorem byte_int {z : Int} (h : (Lit.int .u8 z).wf = true) : (((UInt8.ofNat z.toNat).toNat : Nat) : Int) = z := by
  have hz : 0 ≤ z ∧ z ≤ 255 := by simpa [Lit.wf, IntKind.min, IntKind.max, IntKind.signed, IntKind.bits] using h
  simp only [UInt8.toNat_ofNat']
  omega

/-- A slice of bytes that came in, as the walk has it. -/
theorem opened {H : Type} {enc : TypeId × Value → H} {W : World} {a0 : Option Addr} {len cap : Nat} {d0 : DataW H} {p : List MemPlace}
    (h0 : DataW.Trod enc Tryd.prog W 0 (fun _ => true) true 22 (.slice a0 len cap) d0 p) :
    ∃ bs : List UInt8, bs.length = len ∧ len ≤ cap ∧ cap ≤ maxLen ∧ (a0 = none → len = 0 ∧ cap = 0) ∧ BA W W.heap.size a0 len bs := by
  obtain ⟨fuel, hf⟩ := h0
  rcases open_ints Tryd.underlying22 Tryd.underlying5 (by kernel_rfl) hf with ⟨hcs, _⟩ | ⟨x, l, c, zs, hcs, _, hl, hm, hz, _, hcell, hwz⟩
  · simp [Value.cells] at hcs
    obtain ⟨rfl, rfl, rfl⟩ := hcs
    exact ⟨[], rfl, Nat.le_refl _, by unfold maxLen; omega, fun _ => ⟨rfl, rfl⟩, fun h => absurd h (by omega)⟩
  · simp [Value.cells] at hcs
    obtain ⟨rfl, rfl, rfl⟩ := hcs
    have hz' : zs.length = cap := by simpa using hz
    refine ⟨(zs.take len).map (fun z => UInt8.ofNat z.toNat), by simp; omega, hl, hm, (fun h => by cases h), fun h0 => ?_⟩
    obtain ⟨b, off, spot⟩ := x
    have hspot : spot = none := by simpa [Addr.add] using World.cell?_spot (hcell 0 (by omega))
    subst hspot
    refine ⟨b, off, rfl, World.block_lt_of_cell? _ _ (hcell 0 (by omega)), fun i hi => ?_⟩
    have h1 := hcell i (by omega)
    rw [Addr.add_lit] at h1
    rw [h1]
    have hi' : i < zs.length := by omega
    have hm' : zs[i] ∈ zs := List.getElem_mem _
    have e1 : zs.getD i 0 = zs[i] := by simp [List.getD_eq_getElem?_getD, hi']
    have e2 : ((zs.take len).map (fun z => UInt8.ofNat z.toNat)).getD i 0 = UInt8.ofNat zs[i].toNat := by simp [List.getD_eq_getElem?_getD, hi, hi']
    rw [e1, e2, byte_int (hwz _ hm')]

/-- Where the tables lie: types and variables as this dump numbers them. -/
def u8ren : Go.Shelf.Ren := ⟨fun n => n, fun | 5 => 5 | 119 => 29 | 138 => 31 | 139 => 32 | n => n, fun | 3 => 0 | 4 => 1 | n => n⟩
theorem u8types : U8Types Tryd.prog u8ren := ⟨Tryd.underlying5, Tryd.underlying29, Tryd.underlying31, Tryd.underlying32⟩
theorem u8extra : U8Extra Tryd.prog u8ren := ⟨by kernel_rfl, by kernel_rfl, by kernel_rfl, by kernel_rfl, by kernel_rfl, by kernel_rfl, by kernel_rfl⟩
theorem acc_eq : (Rows.laid_unicode_utf8_acceptRanges : DataW Unit) = Lib.acceptData := by kernel_rfl
theorem tabs_of_laid {W : World} (hL : laidMet Tryd.prog Rows.propMaximalSubpartMatchesUnicodeRow.laid W) : Lib.Utf8Tabs 0 1 W :=
  utf8Tabs_of_readsT u8types u8extra (Pinned.utf8First_eq ▸ Lib.laidMet.reads hL (.tail _ (.head _))) (acc_eq ▸ Lib.laidMet.reads hL (.head _))

set_option maxRecDepth 100000 in
theorem lifted (os : Os) (started : os.Started) (H : Type) (enc : TypeId × Value → H) :
    ReturnsInHanded {} Tryd.checked os 3 .any (fun w args => (Rows.propMaximalSubpartMatchesUnicodeSpec.pre enc Tryd.prog Tryd.f3 [] false w args ∧ laidMetH Tryd.prog Rows.propMaximalSubpartMatchesUnicodeRow.laid w) ∧ sizedMet enc Tryd.prog Tryd.f3 (OpenSpec.ofChange Rows.propMaximalSubpartMatchesUnicodeSpec) false w args)
      (Rows.propMaximalSubpartMatchesUnicodeSpec.post enc Tryd.prog Tryd.f3 false true false false) := by
  refine returnsInHanded_of_change_and (C := Tryd.checked) (X := fun w _ => laidMetH Tryd.prog Rows.propMaximalSubpartMatchesUnicodeRow.laid w) (fun _ _ _ hh h => h.of_heap hh) own started (by kernel_rfl) Tryd.func3
    (ChangeSpec.witness_shaped (enc := enc) (C := Tryd.checked) (os := os) (X := fun w _ => laidMetH Tryd.prog Rows.propMaximalSubpartMatchesUnicodeRow.laid w) false (World.laidAll Tryd.prog os Rows.propMaximalSubpartMatchesUnicodeRow.laid) #[.slice none 0 0] 8 (World.laidAll_os _ _ _)
      (World.shaped_of_ZipB (by kernel_rfl) (by kernel_rfl)) (by kernel_rfl) (by kernel_rfl) (by kernel_rfl)
      (by rw [MakeChecks.laidMetH_plain _ _ _ (by kernel_rfl)]; exact laidMet_laidAll _ (by kernel_rfl) (by kernel_rfl))) ?_
  intro W base args ds gs before hval0 hW _ _ hL _
  have hval : ∀ (j : Nat) t v, Tryd.f3.params[j]? = some t → args[j]? = some v → Value.okWide Tryd.prog W .any base t v := hval0
  have hW' := hW
  obtain ⟨p, q, hA0, hV, rfl, _, _⟩ := hW
  have hA : DataW.TrodAll enc Tryd.prog W 0 (fun _ => true) true Tryd.f3.params.toList args.toList ds p := hA0
  rw [Tryd.params3] at hA hval
  obtain ⟨v0, d0, rfl, rfl, h0⟩ := trodAll_one hA
  obtain ⟨rfl, rfl⟩ := trodVars_none hV
  obtain ⟨a0, len0, cap0, rfl⟩ := okWide_slice Tryd.underlying22 (hval 0 22 v0 rfl rfl)
  have k0 := h0
  have lt0 : ∀ x ∈ p, x.block < W.heap.size := by obtain ⟨m, hm⟩ := k0; exact DataW.trod_lt m _ _ _ hm
  obtain ⟨bs, hb, hnc, hm, hnil, hba⟩ := opened h0
  rw [MakeChecks.laidMetH_plain _ _ _ (by kernel_rfl)] at hL
  have hT : Lib.Utf8Tabs 0 1 W := tabs_of_laid hL
  clear hA0 hval0
  refine (law_any a0 len0 cap0 bs W hb hba hT).mono fun e W' ⟨he, bel⟩ => ?_
  subst he
  exact ⟨_, rfl, _, _, _, [], _, [], hW', trodAll_mk1 (shut_bool Tryd.underlying4 _), trodAll_mk1 (Below.trod laidOut (by kernel_rfl) (of_decide_eq_true (by kernel_rfl)) k0 bel lt0), rfl, bel.frame _, fun h => by cases h⟩

theorem row_holds : Rows.PropMaximalSubpartMatchesUnicodeSaid :=
  OpenClaim.holds_of_wide 3 Tryd.f3 rfl rfl rfl rfl rfl rfl rfl ⟨rfl, rfl, rfl, rfl, rfl⟩ rfl rfl rfl rfl rfl (by kernel_rfl) Tryd.func3 (by kernel_rfl)
    (of_decide_eq_true (by kernel_rfl)) (by unfold Func.isWrapper; first | (rw [if_pos (by decide +kernel)]; kernel_rfl) | (rw [if_neg (by decide +kernel)]; exact ⟨rfl, rfl⟩))
    (fun os started H enc _ => lifted os started H enc)

/-- THE STATEMENT. -/
theorem maximal_card : Rows.PropMaximalSubpartMatchesUnicodeCardSaid :=
  Claim7.holds_tied_plain_at .later [] [.data, .pinned] true Rows.propMaximalSubpartMatchesUnicodeCard.stood.harness false row_holds (fun _ h => by cases h) (by kernel_rfl) (fun _ h => by cases h) propMaximalSubpartMatchesUnicode_row_tie rfl ⟨rfl, rfl⟩ (by kernel_rfl) rfl
    (fun f fn hf hfn => by
      obtain rfl : f = 3 := Option.some.inj ((show Tryd.prog.funcNamed Tryd.f3.name = some 3 by kernel_rfl).symm.trans hf) |>.symm
      obtain rfl : fn = Tryd.f3 := (Option.some.inj (Tryd.func3.symm.trans hfn)).symm
      exact ⟨by kernel_rfl, fun j t ht => by
        rw [Tryd.params3] at ht
        have hm : t ∈ [22] := by simpa using Array.mem_of_getElem? ht
        have hall : ([22].all fun u => !Tryd.prog.wantsStandIn u) = true := by kernel_rfl
        exact (show Tryd.prog.wantsStandIn t = false by simpa using List.all_eq_true.1 hall t hm)⟩)
    (by kernel_rfl)
#print axioms maximal_card
end Go.Proofs.Qxb6003900aDoor
