/-
  THE WALK OF THE LAW FnAppendTextAcceptsExactlyUTF8AndRoundTrips.
-/
import Derived.Test.Qxb6003874aFmtWalkT
import Derived.Test.Qxb6003874aFmtWalkV
import Derived.Test.Qxb6003874aFmtWalkR
namespace Go.Proofs.Qxb6003874aFmt
open Go.RowKit Go.Lib Go.Extern.Stop Go.Stop Go.Extern

set_option maxHeartbeats 2000000 in
set_option maxRecDepth 100000 in
theorem law_ok (a : Option Addr) (n c : Nat) (bs : List UInt8) (s t u : ByteArray) (w : World) (hb : bs.length = n) (hnil : a = none → n = 0 ∧ c = 0) (h1 : BA w w.heap.size a n bs) (hT : Lib.Utf8Tabs 0 1 w)
    (hbig : n + s.size + t.size + u.size ≤ 1048576) (hv : validD s.data.toList = true) :
    Calls Tryf.prog 5 #[.slice a n c, .string s, .string t, .string u] w fun e w' => e = .returned (.bool true) ∧ Below w.heap.size w w' := by
  have h2 : 2 ≤ w.heap.size := World.block_lt_of_cell? _ _ (hT.2 0 (by omega)).1
  have CC := aside (clone_any a n c bs w (by omega) hnil h1)
  have HT := aside hT
  have HV := aside hv
  have hbz : ¬ (1048576 : Int) < (n : Int) + (s.size : Int) + (t.size : Int) + (u.size : Int) := by omega
  have CV := aside (fun w => valid_any s w (by omega))
  rw [hv] at CV
  obtain ⟨L, hL⟩ : ∃ L, L = s.data.toList := ⟨_, rfl⟩
  have HL := aside hL
  have hsl : L.length = s.size := by rw [hL, Array.length_toList]; rfl
  obtain ⟨X, hX⟩ : ∃ X, X = bs ++ 44 :: 34 :: (encS L ++ [34]) := ⟨_, rfl⟩
  have HX := aside (show bs ++ 44 :: 34 :: (encS s.data.toList ++ [34]) = X by rw [hX, hL])
  have hlen : X.length = n + 3 + (encS L).length := by rw [hX, ← hb]; simp; omega
  have henc := encS_len L
  have HH := aside (show X.getD n 0 = 44 by rw [hX, ← hb]; simp)
  have HTK := aside (show X.take n = bs by rw [hX, ← hb]; simp)
  have HRD := aside (show X = (bs ++ [44]) ++ 34 :: (encS L ++ 34 :: []) by rw [hX]; simp)
  obtain ⟨N, hN⟩ : ∃ N, X.length = N := ⟨_, rfl⟩
  have HNX := aside (show N = (bs ++ [44]).length + 2 + (encS L).length by rw [← hN, hlen]; simp; omega)
  have HN := aside hN
  have hN1 : n + 1 ≤ N := by omega
  have hN2 : N ≤ 16777216 := by omega
  have hl : L.length ≤ 1048576 := by omega
  clear hN hlen henc hsl hX hL
  clear h1 hnil hT hv
  go_enter Tryf.func5, Tryf.ntmps5
  go_wp2_with fail
  refine (zzBytes_yes a n c s t u _ hbig).mono ?_
  rintro e w' ⟨rfl, hw⟩
  rw [hw]
  clear hw
  go_wp2_with fail
  refine CC.out.mono ?_
  rintro e w1 ⟨p1, rfl, hp1, hB1, hba1⟩
  have HB1 := aside hB1
  have HBA1 := aside hba1
  have HP1 := aside hp1
  have hsz1 := hB1.size
  clear hB1 hba1 CC hp1
  go_wp2_with fail
  refine (clone_any p1 n n bs w1 (by omega) (fun h => ⟨HP1.out h, HP1.out h⟩) HBA1.out).mono ?_
  rintro e w2 ⟨p2, rfl, hp2, hB2, hba2⟩
  have HB2 := aside (HB1.out.trans (hB2.mono hsz1))
  have HBA12 := aside (HBA1.out.below hB2)
  have HBA2 := aside hba2
  have hsz2 := hB2.size
  clear hba2 hp2 hB2 HBA1
  go_wp2_with fail
  refine (clone_any p1 n n bs w2 (by omega) (fun h => ⟨HP1.out h, HP1.out h⟩) (HBA12.out.mono hsz2)).mono ?_
  rintro e w3 ⟨p3, rfl, hp3, hB3, hba3⟩
  have HB3 := aside (HB2.out.trans (hB3.mono (Nat.le_trans hsz1 hsz2)))
  have HBA13 := aside ((HBA12.out.mono hsz2).below hB3)
  have HBA23 := aside (HBA2.out.below hB3)
  have HBA33 := aside hba3
  have HP3 := aside hp3
  have hsz3 := hB3.size
  clear hba3 hp3 hB3 HBA12 HBA2
  go_wp2_with fail
  refine (zzAppendText_ok w3.heap.size (.slice p1 n n) bs s t w3 (by omega) ⟨Nat.le_refl _, .inr ⟨p1, n, rfl, hb, HP1.out, HBA13.out.mono hsz3⟩⟩ (by omega) (by omega) (tabs_heap HT.out HB3.out h2) HV.out).mono ?_
  rintro e w4 ⟨v4, rfl, hown4, hB4⟩
  have hsz4 := hB4.size
  have HB4 := aside (HB3.out.trans (hB4.mono (by omega)))
  have HBA24 := aside ((HBA23.out.mono hsz3).below hB4)
  have HBA34 := aside (HBA33.out.below hB4)
  rw [HX.out] at hown4
  obtain ⟨q4, c4, hv4, hc4, _, _, hba4⟩ := hown4.shape
  rw [HN.out] at hv4 hc4 hba4
  subst hv4
  have HBA4 := aside hba4
  clear hown4 hB4 hba4 HBA23 HBA33 HBA13
  go_wp2_with fail
  refine (zzAppendText_ok w4.heap.size (.slice p3 n n) bs s u w4 (by omega) ⟨Nat.le_refl _, .inr ⟨p3, n, rfl, hb, HP3.out, HBA34.out.mono hsz4⟩⟩ (by omega) (by omega) (tabs_heap HT.out HB4.out h2) HV.out).mono ?_
  rintro e w5 ⟨v5, rfl, hown5, hB5⟩
  have hsz5 := hB5.size
  have HB5 := aside (HB4.out.trans (hB5.mono (by omega)))
  have HBA25 := aside ((HBA24.out.mono hsz4).below hB5)
  have HBA45 := aside (HBA4.out.below hB5)
  rw [HX.out] at hown5
  obtain ⟨q5, c5, hv5, hc5, _, _, hba5⟩ := hown5.shape
  rw [HN.out] at hv5 hc5 hba5
  subst hv5
  have HBA5 := aside hba5
  clear hown5 hB5 hba5 HBA24 HBA34 HBA4
  go_wp2_with fail
  refine (CV.out w5).mono ?_
  rintro e w' ⟨rfl, hw⟩
  rw [hw]
  clear hw CV
  go_wp2_with fail
  refine (equal_yes q4 q5 _ _ N c4 c5 X w5 hN2 HBA45.out HBA5.out).mono ?_
  rintro e w' ⟨rfl, m, hw⟩
  rw [hw]
  clear hw
  have hlt : ¬ (N : Int) < (n : Int) + 1 := by omega
  have hnc4 : (n : Int) ≤ (c4 : Int) := by omega
  go_wp2_with fail
  have HTK4 := aside (show BA w5 w4.heap.size q4 n bs by have h := HBA45.out.take (k := n) (by omega); rw [HTK.out] at h; exact h)
  obtain ⟨b4, o4, rfl, hb4, hc4'⟩ := HBA45.out (by omega)
  have hcn : w5.cell? ⟨b4, o4 + n, none⟩ = some (.int .u8 44) := by rw [hc4' n (by omega), HH.out]; rfl
  clear hc4'
  refine (equal_yes _ p2 _ _ n _ _ bs (w5.drewN m) (by omega) (HTK4.out.drewN m) (HBA25.out.drewN m)).mono ?_
  rintro e w' ⟨rfl, m2, hw⟩
  rw [hw]
  clear hw
  have hnN : (n : Int) < (N : Int) := by omega
  go_wp2_with fail
  have hpre : ((n : Int) + 1) = ((bs ++ [44]).length : Int) := by rw [← hb]; simp
  rw [hpre]
  refine (readString_any _ N c4 X (bs ++ [44]) L [] (w5.drewN (m + m2)) HRD.out HN.out hN2 hl ((HBA45.out.mono hsz5).drewN (m + m2))).mono ?_
  rintro e w6 ⟨v6, rfl, hown6, hB6⟩
  rw [← HNX.out]
  obtain ⟨q6, c6, hv6, hc6, _, _, hba6⟩ := hown6.shape
  have HLs := aside (show s.size = L.length by rw [HL.out, Array.length_toList]; rfl)
  rw [← HLs.out] at hv6 hba6
  rw [HL.out] at hba6
  subst hv6
  have HBA6 := aside hba6
  have HB6 := aside (HB5.out.trans ((below_drewN (Below.refl w.heap.size w5) (m + m2)).trans (hB6.mono (by show w.heap.size ≤ w5.heap.size; omega))))
  clear hba6 hown6 hB6 hpre hc6 hcn
  go_wp2_with fail
  refine (equalString_yes q6 _ s.size c6 s w6 rfl (by omega) HBA6.out).mono ?_
  rintro e w' ⟨rfl, m3, hw⟩
  rw [hw]
  clear hw
  go_wp2
  go_ret
  exact ⟨rfl, below_drewN HB6.out m3⟩

set_option maxHeartbeats 2000000 in
set_option maxRecDepth 100000 in
theorem law_no (F : Interp) (a : Option Addr) (n c : Nat) (bs : List UInt8) (s t u : ByteArray) (w : World) (hb : bs.length = n) (hnil : a = none → n = 0 ∧ c = 0) (h1 : BA w w.heap.size a n bs) (hT : Lib.Utf8Tabs 0 1 w) (hF : F.answers w.tape)
    (hbig : n + s.size + t.size + u.size ≤ 1048576) (hv : validD s.data.toList = false) :
    Calls Tryf.prog 5 #[.slice a n c, .string s, .string t, .string u] w fun e w' => e = .returned (.bool true) ∧ Below w.heap.size w w' := by
  have h2 : 2 ≤ w.heap.size := World.block_lt_of_cell? _ _ (hT.2 0 (by omega)).1
  have CC := aside (clone_any a n c bs w (by omega) hnil h1)
  have HT := aside hT
  have HV := aside hv
  have hbz : ¬ (1048576 : Int) < (n : Int) + (s.size : Int) + (t.size : Int) + (u.size : Int) := by omega
  have CV := aside (fun w => valid_any s w (by omega))
  rw [hv] at CV
  obtain ⟨X, hX⟩ : ∃ X, X = bs ++ [44] := ⟨_, rfl⟩
  have HX := aside hX.symm
  have hlen : X.length = n + 1 := by rw [hX, ← hb]; simp
  have HH := aside (show X.getD n 0 = 44 by rw [hX, ← hb]; simp)
  have HTK := aside (show X.take n = bs by rw [hX, ← hb]; simp)
  have HF := aside hF
  clear hX hF
  clear h1 hnil hT hv
  go_enter Tryf.func5, Tryf.ntmps5
  go_wp2_with fail
  refine (zzBytes_yes a n c s t u _ hbig).mono ?_
  rintro e w' ⟨rfl, hw⟩
  rw [hw]
  clear hw
  go_wp2_with fail
  refine CC.out.mono ?_
  rintro e w1 ⟨p1, rfl, hp1, hB1, hba1⟩
  have HB1 := aside hB1
  have HBA1 := aside hba1
  have HP1 := aside hp1
  have hsz1 := hB1.size
  clear hB1 hba1 CC hp1
  go_wp2_with fail
  refine (clone_any p1 n n bs w1 (by omega) (fun h => ⟨HP1.out h, HP1.out h⟩) HBA1.out).mono ?_
  rintro e w2 ⟨p2, rfl, hp2, hB2, hba2⟩
  have HB2 := aside (HB1.out.trans (hB2.mono hsz1))
  have HBA12 := aside (HBA1.out.below hB2)
  have HBA2 := aside hba2
  have hsz2 := hB2.size
  clear hba2 hp2 hB2 HBA1
  go_wp2_with fail
  refine (clone_any p1 n n bs w2 (by omega) (fun h => ⟨HP1.out h, HP1.out h⟩) (HBA12.out.mono hsz2)).mono ?_
  rintro e w3 ⟨p3, rfl, hp3, hB3, hba3⟩
  have HB3 := aside (HB2.out.trans (hB3.mono (Nat.le_trans hsz1 hsz2)))
  have HBA13 := aside ((HBA12.out.mono hsz2).below hB3)
  have HBA23 := aside (HBA2.out.below hB3)
  have HBA33 := aside hba3
  have HP3 := aside hp3
  have hsz3 := hB3.size
  clear hba3 hp3 hB3 HBA12 HBA2
  go_wp2_with fail
  refine (zzAppendText_no F w3.heap.size (.slice p1 n n) bs s t w3 (by rw [HB3.out.tape]; exact HF.out) (by omega) ⟨Nat.le_refl _, .inr ⟨p1, n, rfl, hb, HP1.out, HBA13.out.mono hsz3⟩⟩ (by omega) (by omega) (tabs_heap HT.out HB3.out h2) HV.out).mono ?_
  rintro e w4 ⟨v4, g4, rfl, hown4, hB4⟩
  have hsz4 := hB4.size
  have HB4 := aside (HB3.out.trans (hB4.mono (by omega)))
  have HBA24 := aside ((HBA23.out.mono hsz3).below hB4)
  have HBA34 := aside (HBA33.out.below hB4)
  rw [HX.out] at hown4
  obtain ⟨q4, c4, hv4, hc4, _, _, hba4⟩ := hown4.shape
  rw [hlen] at hv4 hc4 hba4
  subst hv4
  have HBA4 := aside hba4
  clear hown4 hB4 hba4 HBA23 HBA33 HBA13
  go_wp2_with fail
  refine (zzAppendText_no F w4.heap.size (.slice p3 n n) bs s u w4 (by rw [HB4.out.tape]; exact HF.out) (by omega) ⟨Nat.le_refl _, .inr ⟨p3, n, rfl, hb, HP3.out, HBA34.out.mono hsz4⟩⟩ (by omega) (by omega) (tabs_heap HT.out HB4.out h2) HV.out).mono ?_
  rintro e w5 ⟨v5, g5, rfl, hown5, hB5⟩
  have hsz5 := hB5.size
  have HB5 := aside (HB4.out.trans (hB5.mono (by omega)))
  have HBA25 := aside ((HBA24.out.mono hsz4).below hB5)
  have HBA45 := aside (HBA4.out.below hB5)
  rw [HX.out] at hown5
  obtain ⟨q5, c5, hv5, hc5, _, _, hba5⟩ := hown5.shape
  rw [hlen] at hv5 hc5 hba5
  subst hv5
  have HBA5 := aside hba5
  clear hown5 hB5 hba5 HBA24 HBA34 HBA4
  go_wp2_with fail
  refine (CV.out w5).mono ?_
  rintro e w' ⟨rfl, hw⟩
  rw [hw]
  clear hw CV
  go_wp2_with fail
  refine (equal_yes q4 q5 _ _ (n + 1) c4 c5 X w5 (by omega) HBA45.out HBA5.out).mono ?_
  rintro e w' ⟨rfl, m, hw⟩
  rw [hw]
  clear hw
  have hnc4 : (n : Int) ≤ (c4 : Int) := by omega
  have HTK4 := aside (show BA w5 w4.heap.size q4 n bs by have h := HBA45.out.take (k := n) (by omega); rw [HTK.out] at h; exact h)
  obtain ⟨b4, o4, rfl, hb4, hc4'⟩ := HBA45.out (by omega)
  have hcn : w5.cell? ⟨b4, o4 + n, none⟩ = some (.int .u8 44) := by rw [hc4' n (by omega), HH.out]; rfl
  clear hc4'
  have hlt : (n : Int) < (n : Int) + 1 := by omega
  have hlt' : ¬ ((n : Int) + 1 < (n : Int) + 1) := by omega
  go_wp2_with fail
  refine (equal_yes _ p2 _ _ n _ _ bs (w5.drewN m) (by omega) (HTK4.out.drewN m) (HBA25.out.drewN m)).mono ?_
  rintro e w' ⟨rfl, m2, hw⟩
  rw [hw]
  clear hw
  go_wp2
  go_ret
  exact ⟨rfl, below_drewN HB5.out (m + m2)⟩

theorem law_any (F : Interp) (a : Option Addr) (n c : Nat) (bs : List UInt8) (s t u : ByteArray) (w : World) (hb : bs.length = n) (hnil : a = none → n = 0 ∧ c = 0) (h1 : BA w w.heap.size a n bs) (hT : Lib.Utf8Tabs 0 1 w) (hF : F.answers w.tape) :
    Calls Tryf.prog 5 #[.slice a n c, .string s, .string t, .string u] w fun e w' => e = .returned (.bool true) ∧ Below w.heap.size w w' := by
  by_cases hbig : n + s.size + t.size + u.size ≤ 1048576
  · cases hv : validD s.data.toList with
    | true => exact law_ok a n c bs s t u w hb hnil h1 hT hbig hv
    | false => exact law_no F a n c bs s t u w hb hnil h1 hT hF hbig hv
  · clear hnil h1 hT hF hb
    have C := aside (fun w => zzBytes_no a n c s t u w hbig)
    go_enter Tryf.func5, Tryf.ntmps5
    go_wp2_with (go_at_call 10; refine (C.out _).mono ?_; rintro e w' ⟨rfl, hw⟩; rw [hw])
    go_ret
    exact ⟨rfl, Below.refl _ _⟩

end Go.Proofs.Qxb6003874aFmt
