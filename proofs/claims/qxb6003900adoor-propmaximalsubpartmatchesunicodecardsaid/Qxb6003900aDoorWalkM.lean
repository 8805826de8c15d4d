/-
  THE WALKS OF maximalSubpart AND ZZMaximalSubpart.
-/
import Derived.Test.Qxb6003900aDoorWalkF
namespace Go.Proofs.Qxb6003900aDoor
open Go.RowKit Go.Lib

set_option maxHeartbeats 4000000 in
set_option maxRecDepth 100000 in
theorem maximal_any (b o n c m : Nat) (bs : List UInt8) (w : World) (hb : bs.length = n) (h0 : 1 ≤ n) (hbig : n ≤ 1048576) (hnc : n ≤ c) (hT : Lib.Utf8Tabs 0 1 w) (hc : ∀ i, i < n → w.cell? ⟨b, o + i, none⟩ = some (.int .u8 (bs.getD i 0).toNat)) (hbl : b < w.heap.size) (hw : Wk bs m false) :
    Calls Tryd.prog 9 #[.slice (some ⟨b, o, none⟩) n c] w fun e w' => e = .returned (.int .i64 (m : Int)) ∧ Below w.heap.size w w' := by
  have h2 : 2 ≤ w.heap.size := World.block_lt_of_cell? _ _ (hT.2 0 (by omega)).1
  have ANS := aside (fun r h1 h2 h3 h4 h5 => (maximal_is bs m r hw (by omega) h1 h2 h3 h4 h5).1)
  have FT := aside (fun (wr : World) (hB : Below w.heap.size w wr) (k : Nat) h1 h3 hk ok hok => full_take b o c n k bs wr hb h1 h3 hk (tabs_heap hT hB h2) (fun i hi => (hB.cell (p := ⟨b, o + i, none⟩) hbl).trans (hc i hi)) ok hok)
  have HB := aside hb
  clear hT hc hw hb h2
  obtain ⟨s, hs⟩ : ∃ s, s = min n 3 := ⟨_, rfl⟩
  have hsz : min (n : Int) 3 = (s : Int) := by omega
  have hs1 : 1 ≤ s := by omega
  have hsn : s ≤ n := by omega
  have hs3 : s ≤ 3 := by omega
  have HS := aside hs
  clear hs
  go_enter Tryd.func9, Tryd.ntmps9
  go_wp2
  go_loopg [3] s (fun g s3 wr => ∃ k : Nat, 1 ≤ k ∧ k ≤ s ∧ k ≤ g ∧ s3 = .int .i64 k ∧ Aside (Below w.heap.size w wr) ∧ Aside (∀ q, k < q → q ≤ bs.length → q ≤ 3 → full (bs.take q)))
  case atStart => 
    have h1 := HS.out
    have h2 := HB.out
    exact ⟨s, hs1, by omega, by omega, by go_num, aside (Below.refl _ _), aside (fun q h1 h2 h3 => by omega)⟩
  case round =>
    obtain ⟨k, hk1, hks, hkg, rfl, HBr, J⟩ := hrel
    have hkn : k ≤ n := by omega
    have hknz : (k : Int) ≤ (c : Int) := by omega
    by_cases hk : 1 < k
    · have hkz : (1 : Int) < (k : Int) := by omega
      by_cases hf : full (bs.take k)
      · have CF := aside (FT.out wr HBr.out k hk1 (by omega) hkn true ⟨fun _ => hf, fun _ => rfl⟩)
        have HF := aside hf
        clear hf
        go_wp2_with (go_at_call 10; refine CF.out.mono ?_; rintro e w2 ⟨rfl, hB2⟩; have HB2 := aside (HBr.out.trans (hB2.mono HBr.out.size)); clear hB2)
        go_roundg (gk - 1)
        case measure => omega
        case rel => exact ⟨k - 1, by omega, by omega, by omega, by go_num, HB2, aside (fun q h1 h2 h3 => by
          by_cases e : q = k
          · subst e; exact HF.out
          · exact J.out q (by omega) h2 h3)⟩
      · have CF := aside (FT.out wr HBr.out k hk1 (by omega) hkn false ⟨(fun h => by cases h), fun h => absurd h hf⟩)
        have HA := aside (ANS.out k hk1 (by rw [HB.out]; exact hkn) (by omega) J.out (.inr hf))
        clear hf
        go_wp2_with (go_at_call 10; refine CF.out.mono ?_; rintro e w2 ⟨rfl, hB2⟩; have HB2 := aside (HBr.out.trans (hB2.mono HBr.out.size)); clear hB2)
        go_ret
        exact ⟨by rw [← HA.out]; rfl, HB2.out⟩
    · have hkz : ¬ (1 : Int) < (k : Int) := by omega
      have hk1' : k = 1 := by omega
      have HA := aside (ANS.out k hk1 (by rw [HB.out]; exact hkn) (by omega) J.out (.inl hk1'))
      have HK := aside hk1'
      clear hk1'
      go_wp2
      go_ret
      exact ⟨by rw [← HA.out, HK.out]; rfl, HBr.out⟩

set_option maxHeartbeats 1000000 in
theorem zzMaximal_any (b o n c m : Nat) (bs : List UInt8) (w : World) (hb : bs.length = n) (h0 : 1 ≤ n) (hbig : n ≤ 1048576) (hnc : n ≤ c) (hT : Lib.Utf8Tabs 0 1 w) (hc : ∀ i, i < n → w.cell? ⟨b, o + i, none⟩ = some (.int .u8 (bs.getD i 0).toNat)) (hbl : b < w.heap.size) (hw : Wk bs m false) :
    Calls Tryd.prog 7 #[.slice (some ⟨b, o, none⟩) n c] w fun e w' => e = .returned (.int .i64 (m : Int)) ∧ Below w.heap.size w w' := by
  have C := aside (maximal_any b o n c m bs w hb h0 hbig hnc hT hc hbl hw)
  clear hb h0 hbig hnc hT hc hbl hw
  go_enter Tryd.func7, Tryd.ntmps7
  go_wp2_with fail
  refine C.out.mono ?_
  rintro e w2 ⟨rfl, hB⟩
  have HB := aside hB
  clear hB
  go_wp2
  go_ret
  exact ⟨rfl, HB.out⟩

end Go.Proofs.Qxb6003900aDoor
