/- sais_32 for every size; text_32; New, Bytes. (Printed by merge.py out of parts.) -/
import Derived.Test.YtpkgkppehefibaaGreatDoorP8
import Derived.Test.YtpkgkppehefibaaGreatDoorP6
import Derived.Test.YtpkgkppehefibaaGreatDoorP7
/- The walk of sais_32. -/
namespace Go.Proofs.YtpkgkppehefibaaGreatDoor
open Go.RowKit Sa

set_option maxHeartbeats 4000000 in
set_option maxRecDepth 100000 in
theorem sais32_two (N : Nat) (ih : Sais32 N) (bt ot ct n bs os cs bm om cm M K : Nat) (T : Nat → Nat) (G : Nat → Int) (w : World) (hnN : n ≤ 2 * N + 1) (hn : 2 ≤ n) (hns : n < 1073741824) (hK0 : 0 < K) (hKs : K < 1073741824) (hKM : 2 * K ≤ M) (hMc : M ≤ cm) (hMs : M < 1073741824) (hct : n ≤ ct) (hcs : n ≤ cs)
    (hts : Apart bt ot n bs os n) (htm : Apart bt ot n bm om M) (hsm : Apart bs os n bm om M) (ht : ∀ i, i < n → w.cell? ⟨bt, ot + i, none⟩ = some (.int .i32 (T i : Nat))) (hT : ∀ i, i < n → T i < K) (hs : Reg w bs os n (fun _ => 0)) (hg : Reg w bm om M G) :
    Calls Tryz.prog 94 #[.slice (some ⟨bt, ot, none⟩) n ct, .int .i64 (K : Int), .slice (some ⟨bs, os, none⟩) n cs, .slice (some ⟨bm, om, none⟩) M cm] w fun e w' =>
      e = .returned (.tuple #[]) ∧ ∃ (d : Nat → Nat) (G' : Nat → Int), Reg w' bs os n (fun i => (d i : Nat)) ∧ IsSA T n d ∧ Reg w' bm om M G' ∧ G' 0 < 0 ∧ Chg (saS bs os n bm om M) w w' := by
  obtain ⟨T', hT'⟩ : ∃ T' : Nat → Nat, T' = fun i => if i < n then T i else 0 := ⟨_, rfl⟩
  have hTT : ∀ i, i < n → T' i = T i := fun i hi => by rw [hT']; simp [hi]
  have h0 : T' n = 0 := by rw [hT']; simp
  have hTK : ∀ i, i < n → T' i < K := fun i hi => by rw [hTT i hi]; exact hT i hi
  have hM0 : 0 < M := by omega
  have ok := lay2_ok (ct := ct) (cs := cs) (cm := cm) (K := K) hts htm hsm hns (by omega) hKM hMc (by omega) hct hcs
  have on := onTmp2 (bt := bt) (ot := ot) (ct := ct) (n := n) (bs := bs) (os := os) (cs := cs) (bm := bm) (om := om) (cm := cm) hKM
  have hv : (lay2 bt ot ct n bs os cs bm om cm K).fv (.slice (some ⟨bm, om, none⟩) K cm) := .inr ⟨rfl, rfl⟩
  have HS0 : ∀ nq, SS (lay2 bt ot ct n bs os cs bm om cm K) .i32 bm om M w ((w.drewN nq).setCell ⟨bm, om, none⟩ (.int .i32 (-1))) T' (fun _ => 0) := by
    intro nq
    have hc : Chg (inR bm om M) w ((w.drewN nq).setCell ⟨bm, om, none⟩ (.int .i32 (-1))) := ((Chg.refl _ w).drewN nq).setCell (fun _ => ⟨rfl, Nat.le_refl _, by omega⟩) _
    have hg' : Reg ((w.drewN nq).setCell ⟨bm, om, none⟩ (.int .i32 (-1))) bm om M (upd G 0 (-1)) := (hg.drewN nq).set (i := 0) hM0 (-1)
    exact ⟨_, _, _, lay2_st (M := M) (fun i hi => by rw [hc.cell _ _ (cell_lt (ht i hi)) (htm.out hi), ht i hi, hTT i hi]) (hs.keep hc (fun i hi => hsm.out hi)) hg' (by omega) hKM (by omega), .inr (.inl (by rw [upd_same]; omega)), hc.mono fun b o _ h => .inr h, hg', fun i _ => rfl⟩
  have HSN := Lib.hid HS0
  have hln : (lay2 bt ot ct n bs os cs bm om cm K).n = n := rfl
  have OK := Lib.hid ok
  have ON := Lib.hid on
  have HV := Lib.hid hv
  have HTK := Lib.hid hTK
  
  have H0 := Lib.hid h0
  have HAP := Lib.hid hsm
  have HTM := Lib.hid htm
  have HTT := Lib.hid hTT
  have IH := Lib.hid ih
  have hgc := hg.c 0 hM0
  have hgz := hg.z 0 hM0
  rw [Nat.add_zero] at hgc hgz
  clear HS0 ok on hv hTK h0 hsm htm hTT ih hT' hT ht hs hg hts
  have n1 : ((n : Int) == 0) = false := by simp; omega
  have n2 : ((n : Int) == 1) = false := by simp; omega
  have n3 : ((n : Int) != (n : Int)) = false := by simp
  have n4 : decide ((M : Int) < (K : Int)) = false := by simp; omega
  have k1 : 2 * (K : Int) ≤ (M : Int) := by omega
  have k2 : K ≤ cm := by omega
  have k3 : 2 * K ≤ cm := by omega
  have k4 : ¬ cm = K := by omega
  have k5 : (2 * (K : Int)).toNat = 2 * K := by omega
  have k6 : 2 * K - K = K := by omega
  have k7 : (K : Int) ≤ 2 * (K : Int) := by omega
  have k8 : 2 * (K : Int) ≤ (cm : Int) := by omega
  go_enter Tryz.func94, Tryz.ntmps94
  go_wp2
  go_quiet (fail)
  go_wp2_with fail
  have HS1 := Lib.hid (HSN.out nq)
  clear HSN n1 n2 n3 n4 k1 k2 k3 k4 k5 k6 k7 k8
  obtain ⟨B1, F1, G1, hst1, hf1, hch1, hg1, hl1⟩ := HS1.out
  refine (place32 (lay2 bt ot ct n bs os cs bm om cm K) OK.out _ HV.out _ T' _ B1 F1 hst1 HTK.out H0.out hf1 (fun p _ => rfl)).mono ?_
  rintro e w2 ⟨rfl, A2, B2, F2, hr2, hf2, hpl⟩
  have HS2 := Lib.hid (HS1.out.step ON.out HAP.out hr2 hf2)
  have HPL := Lib.hid hpl
  clear hst1 hf1 hch1 hg1 hl1 hr2 hf2 hpl HS1
  by_cases hm : lc T' n 0 ≤ 1
  · have hmd : decide ((lc T' n 0 : Int) ≤ 1) = true := by simp; omega
    have hmd' : decide (lc T' n 0 ≤ 1) = true := by simp; omega
    have hmi : (lc T' n 0 : Int) ≤ 1 := by omega
    have HST := Lib.hid (HPL.out.1 hm)
    clear HPL
    go_wp2_with fail
    obtain ⟨B11, F11, G11, hst11, hf11, _⟩ := HS2.out
    refine (fullL32 (lay2 bt ot ct n bs os cs bm om cm K) OK.out _ HV.out _ T' _ B11 F11 hst11 HTK.out hf11 hn HST.out).mono ?_
    rintro e w11 ⟨rfl, A11, B11', F11', b11, hr11, hf11', hp11⟩
    have HS11 := Lib.hid (HS2.out.step ON.out HAP.out hr11 hf11')
    have HP11 := Lib.hid hp11
    clear hst11 hf11 hr11 hf11' hp11 HS2 HST
    go_wp2_with fail
    obtain ⟨B12, F12, G12, hst12, hf12, _⟩ := HS11.out
    refine (fullS32 (lay2 bt ot ct n bs os cs bm om cm K) OK.out _ HV.out _ T' _ B12 F12 b11 hst12 HTK.out hf12 hn HP11.out).mono ?_
    rintro e w12 ⟨rfl, A12, B12', F12', hr12, hf12', hp12⟩
    have HS12 := Lib.hid (HS11.out.step ON.out HAP.out hr12 hf12')
    have HFI := Lib.hid (HS12.out.fin HAP.out hM0 hp12.1 hp12.2)
    obtain ⟨_, _, G13, _, _, _, hg13, _⟩ := HS12.out
    have hc13 := hg13.c 0 hM0
    have hz13 := hg13.z 0 hM0
    rw [Nat.add_zero] at hc13 hz13
    clear hst12 hf12 hr12 hf12' hp12 HS11 HS12 hg13
    go_wp2
    go_end0
    obtain ⟨d, G', q1, q2, q3, q4, q5⟩ := HFI.out
    exact ⟨rfl, d, G', q1, q2.congr HTT.out, q3, q4, q5⟩
  · have hmd : ¬ lc T' n 0 ≤ 1 := hm
    have hm2 : 2 ≤ lc T' n 0 := by omega
    have hnx : nx T' n 0 ≠ 0 := fun e => by have := (nx_zero_iff (T := T') (n := n) 0).1 e; omega
    have HNX := Lib.hid hnx
    have HST0 := Lib.hid (HPL.out.2 hm2)
    have hhalf := lc_half (T := T') (n := n) (i := 0) (by omega)
    have HH := Lib.hid hhalf
    clear hnx HPL hhalf
    go_wp2_with fail
    obtain ⟨B3, F3, G3, hst3, hf3, _⟩ := HS2.out
    refine (subL32 (lay2 bt ot ct n bs os cs bm om cm K) OK.out _ HV.out _ T' _ B3 F3 hst3 HTK.out hf3 hn HNX.out HST0.out).mono ?_
    rintro e w3 ⟨rfl, A3, B3', F3', b3, hr3, hf3', hp3⟩
    have HS3 := Lib.hid (HS2.out.step ON.out HAP.out hr3 hf3')
    have HP3 := Lib.hid hp3
    clear hst3 hf3 hr3 hf3' hp3 HS2 HST0
    go_wp2_with fail
    obtain ⟨B4, F4, G4, hst4, hf4, _⟩ := HS3.out
    refine (subS32 (lay2 bt ot ct n bs os cs bm om cm K) OK.out _ HV.out _ T' _ B4 F4 b3 hst4 HTK.out hf4 hn HNX.out HP3.out).mono ?_
    rintro e w4 ⟨rfl, A4, B4', F4', hr4, hf4', hp4⟩
    have HS4 := Lib.hid (HS3.out.step ON.out HAP.out hr4 hf4')
    have HP4 : Hid (Subs T' n (lc T' n 0) A4) := hp4
    clear hst4 hf4 hr4 hf4' hp4 HS3 HP3
    go_wp2_with fail
    obtain ⟨B5, F5, G5, hst5, hf5, _⟩ := HS4.out
    refine (length32 (lay2 bt ot ct n bs os cs bm om cm K) OK.out _ T' _ B5 F5 hst5 hf5 H0.out HP4.out _).mono ?_
    rintro e w5 ⟨rfl, A5, B5', F5', hr5, hf5', hp5⟩
    have HS5 := Lib.hid (HS4.out.step ON.out HAP.out hr5 hf5')
    have HP5 := Lib.hid hp5
    clear hst5 hf5 hr5 hf5' hp5 HS4
    go_wp2_with fail
    obtain ⟨B6, F6, G6, hst6, hf6, _⟩ := HS5.out
    refine (assign32 (lay2 bt ot ct n bs os cs bm om cm K) OK.out _ T' A4 _ B6 F6 _ (codeOK_32 (by have := OK.out.small; simp only [lay2] at this; omega)) hst6 hf6 HP4.out HP5.out hm2).mono ?_
    rintro e w6 ⟨rfl, A6, B6', F6', hr6, hf6', hp6⟩
    have HS6 := Lib.hid (HS5.out.step ON.out HAP.out hr6 hf6')
    have HP6 : Hid (IdI T' n (C32 T' n) (lstOf T' n A4) A4 (lc T' n 0) A6) := hp6
    have HX : Hid (Lst T' n (lstOf T' n A4)) := HP4.out.lst (by have := HH.out; omega)
    have HXV := Lib.hid (fun (t : Nat) (ht : t < lc T' n 0) => HP4.out.lst_val (by have := HH.out; omega) ht)
    clear hst6 hf6 hr6 hf6' hp6 HS5 HP5
    have hcl := cls_le (T := T') (n := n) (lstOf T' n A4) (lc T' n 0)
    by_cases hlt : cls T' n (lstOf T' n A4) (lc T' n 0) < lc T' n 0
    · go_wp2_with fail
      obtain ⟨B7, F7, G7, hst7, hf7, _⟩ := HS6.out
      refine (map32 .i32 (lay2 bt ot ct n bs os cs bm om cm K) OK.out _ T' A4 _ B7 F7 _ _ hst7 hf7 HX.out HP6.out (by show 0 < n; omega) _).mono ?_
      rintro e w7 ⟨rfl, A7, B7', F7', hr7, hf7', hp7⟩
      have HS7 := Lib.hid (HS6.out.step ON.out HAP.out hr7 hf7')
      have HP7 := Lib.hid hp7
      clear hst7 hf7 hr7 hf7' hp7 HS6 HP6
      go_wp2_with fail
      obtain ⟨B8, F8, G8, hst8, hf8, hch8, hg8, hl8⟩ := HS7.out
      have hred := HP7.out.red HX.out
      have hcp : 0 < cls T' n (lstOf T' n A4) (lc T' n 0) := by
        have := cls_pos (T := T') (n := n) (lstOf T' n A4) (lc T' n 0 - 1)
        rw [show lc T' n 0 - 1 + 1 = lc T' n 0 by omega] at this
        omega
      refine (recurse32 N IH.out bs os n cs bm om cm M (lc T' n 0) (cls T' n (lstOf T' n A4) (lc T' n 0)) _ G8 _ (by have := HH.out; omega) hm2 (by have := HH.out; omega) hns hcp (by omega) hM0 hMc hMs hcs HAP.out hst8.regS hg8 _ (fun r hr => hred.2 r hr) (fun r hr => hred.1.lt HX.out hr)).mono ?_
      rintro e w8 ⟨rfl, d, A8, G8', hr81, hr82, hr83, hr84, hr85, hr86⟩
      have HS8 := Lib.hid (HS7.out.rec_ ON.out OK.out HTM.out hg8 hr81 hr84 hr85 hr86)
      have HRed := Lib.hid hred.1
      have HD1 := Lib.hid hr82
      have HD2 := Lib.hid hr83
      clear hst8 hf8 hch8 hg8 hl8 hred hr81 hr82 hr83 hr84 hr85 hr86 HS7 HP7 hcp
      go_wp2_with fail
      obtain ⟨B9, F9, G9, hst9, hf9, _⟩ := HS8.out
      refine (unmap32 (lay2 bt ot ct n bs os cs bm om cm K) OK.out _ T' _ B9 F9 d _ _ hst9 hf9 H0.out HX.out HRed.out HD2.out HD1.out hm2).mono ?_
      rintro e w9 ⟨rfl, A9, B9', F9', hr9, hf9', hp9⟩
      have HS9 := Lib.hid (HS8.out.step ON.out HAP.out hr9 hf9')
      have HP9 := Lib.hid hp9
      clear hst9 hf9 hr9 hf9' hp9 HS8 HRed HD1 HD2
      go_wp2_with fail
      obtain ⟨B10, F10, G10, hst10, hf10, _⟩ := HS9.out
      refine (expand32 (lay2 bt ot ct n bs os cs bm om cm K) OK.out _ HV.out _ T' _ B10 F10 hst10 HTK.out hf10 HP9.out hm2).mono ?_
      rintro e w10 ⟨rfl, A10, B10', F10', hr10, hf10', hp10⟩
      have HS10 := Lib.hid (HS9.out.step ON.out HAP.out hr10 hf10')
      have HST := Lib.hid hp10
      clear hst10 hf10 hr10 hf10' hp10 HS9 HP9
      go_wp2_with fail
      obtain ⟨B11, F11, G11, hst11, hf11, _⟩ := HS10.out
      refine (fullL32 (lay2 bt ot ct n bs os cs bm om cm K) OK.out _ HV.out _ T' _ B11 F11 hst11 HTK.out hf11 hn HST.out).mono ?_
      rintro e w11 ⟨rfl, A11, B11', F11', b11, hr11, hf11', hp11⟩
      have HS11 := Lib.hid (HS10.out.step ON.out HAP.out hr11 hf11')
      have HP11 := Lib.hid hp11
      clear hst11 hf11 hr11 hf11' hp11 HS10 HST
      go_wp2_with fail
      obtain ⟨B12, F12, G12, hst12, hf12, _⟩ := HS11.out
      refine (fullS32 (lay2 bt ot ct n bs os cs bm om cm K) OK.out _ HV.out _ T' _ B12 F12 b11 hst12 HTK.out hf12 hn HP11.out).mono ?_
      rintro e w12 ⟨rfl, A12, B12', F12', hr12, hf12', hp12⟩
      have HS12 := Lib.hid (HS11.out.step ON.out HAP.out hr12 hf12')
      have HFI := Lib.hid (HS12.out.fin HAP.out hM0 hp12.1 hp12.2)
      obtain ⟨_, _, G13, _, _, _, hg13, _⟩ := HS12.out
      have hc13 := hg13.c 0 hM0
      have hz13 := hg13.z 0 hM0
      rw [Nat.add_zero] at hc13 hz13
      clear hst12 hf12 hr12 hf12' hp12 HS11 HS12 hg13
      go_wp2
      go_end0
      obtain ⟨d, G', q1, q2, q3, q4, q5⟩ := HFI.out
      exact ⟨rfl, d, G', q1, q2.congr HTT.out, q3, q4, q5⟩
    · have hce : cls T' n (lstOf T' n A4) (lc T' n 0) = lc T' n 0 := by omega
      have HFr : Hid (Front T' n (fun i => if i < lc T' n 0 then A6 (n - lc T' n 0 + i) else A6 i)) := by
        refine Front.of_single HX.out hce (fun s hs => ?_)
        have h1 := HP6.out.top (n - lc T' n 0 + s) (by omega) (by have := HH.out; omega)
        have h2 := HXV.out s hs
        simp only [hs, if_true]
        exact h1.trans h2
      have HS7 := Lib.hid (HS6.out.copy OK.out HAP.out (m := lc T' n 0) (by have := HH.out; show _ ≤ n; omega))
      obtain ⟨B7, F7, G7, hst7, hf7, _⟩ := HS6.out
      have hcopy := fun ty => run_copy32 hst7 (m := lc T' n 0) (by have := HH.out; show _ ≤ n; omega) ty cs (cs - (n - lc T' n 0))
      have hcopy' : ∀ ty, (Builtin.copy_ #[44, 44] ty #[.slice (some ⟨bs, os, none⟩) n cs, .slice (some ⟨bs, os + (n - lc T' n 0), none⟩) (lc T' n 0) (cs - (n - lc T' n 0))]).run Tryz.prog w6 = .ok (goInt (lc T' n 0)) (w6.setCells bs os ((List.range (lc T' n 0)).map fun i => (.int .i32 (A6 (n - lc T' n 0 + i)) : Value))) := hcopy
      have HS7' : Hid (SS (lay2 bt ot ct n bs os cs bm om cm K) .i32 bm om M w (w6.setCells bs os ((List.range (lc T' n 0)).map fun i => (.int .i32 (A6 (n - lc T' n 0 + i)) : Value))) T' (fun i => if i < lc T' n 0 then A6 (n - lc T' n 0 + i) else A6 i)) := HS7.out
      have hhm := HH.out
      have c1 : ((n : Int) - (lc T' n 0 : Int)).toNat = n - lc T' n 0 := by omega
      have c2 : n - (n - lc T' n 0) = lc T' n 0 := by omega
      have c3 : ¬ cs = n - lc T' n 0 := by omega
      generalize hwc : w6.setCells bs os ((List.range (lc T' n 0)).map fun i => (.int .i32 (A6 (n - lc T' n 0 + i)) : Value)) = w9 at *
      generalize (fun i => if i < lc T' n 0 then A6 (n - lc T' n 0 + i) else A6 i) = A9 at *
      clear hst7 hf7 hcopy HS7 HS6 HP6 hce hwc
      go_wp2_with fail
      clear hcopy' c1 c2 c3 hhm
      obtain ⟨B10, F10, G10, hst10, hf10, _⟩ := HS7'.out
      refine (expand32 (lay2 bt ot ct n bs os cs bm om cm K) OK.out _ HV.out _ T' _ B10 F10 hst10 HTK.out hf10 HFr.out hm2).mono ?_
      rintro e w10 ⟨rfl, A10, B10', F10', hr10, hf10', hp10⟩
      have HS10 := Lib.hid (HS7'.out.step ON.out HAP.out hr10 hf10')
      have HST := Lib.hid hp10
      clear hst10 hf10 hr10 hf10' hp10 HS7' HFr
      go_wp2_with fail
      obtain ⟨B11, F11, G11, hst11, hf11, _⟩ := HS10.out
      refine (fullL32 (lay2 bt ot ct n bs os cs bm om cm K) OK.out _ HV.out _ T' _ B11 F11 hst11 HTK.out hf11 hn HST.out).mono ?_
      rintro e w11 ⟨rfl, A11, B11', F11', b11, hr11, hf11', hp11⟩
      have HS11 := Lib.hid (HS10.out.step ON.out HAP.out hr11 hf11')
      have HP11 := Lib.hid hp11
      clear hst11 hf11 hr11 hf11' hp11 HS10 HST
      go_wp2_with fail
      obtain ⟨B12, F12, G12, hst12, hf12, _⟩ := HS11.out
      refine (fullS32 (lay2 bt ot ct n bs os cs bm om cm K) OK.out _ HV.out _ T' _ B12 F12 b11 hst12 HTK.out hf12 hn HP11.out).mono ?_
      rintro e w12 ⟨rfl, A12, B12', F12', hr12, hf12', hp12⟩
      have HS12 := Lib.hid (HS11.out.step ON.out HAP.out hr12 hf12')
      have HFI := Lib.hid (HS12.out.fin HAP.out hM0 hp12.1 hp12.2)
      obtain ⟨_, _, G13, _, _, _, hg13, _⟩ := HS12.out
      have hc13 := hg13.c 0 hM0
      have hz13 := hg13.z 0 hM0
      rw [Nat.add_zero] at hc13 hz13
      clear hst12 hf12 hr12 hf12' hp12 HS11 HS12 hg13
      go_wp2
      go_end0
      obtain ⟨d, G', q1, q2, q3, q4, q5⟩ := HFI.out
      exact ⟨rfl, d, G', q1, q2.congr HTT.out, q3, q4, q5⟩
end Go.Proofs.YtpkgkppehefibaaGreatDoor

/- sais_32 with room for the buckets alone. -/
namespace Go.Proofs.YtpkgkppehefibaaGreatDoor
open Go.RowKit Sa

set_option maxHeartbeats 4000000 in
set_option maxRecDepth 100000 in
theorem sais32_one (N : Nat) (ih : Sais32 N) (bt ot ct n bs os cs bm om cm M K : Nat) (T : Nat → Nat) (G : Nat → Int) (w : World) (hnN : n ≤ 2 * N + 1) (hn : 2 ≤ n) (hns : n < 1073741824) (hK0 : 0 < K) (hKs : K < 1073741824) (hKM : K ≤ M) (hKM2 : M < 2 * K) (hMc : M ≤ cm) (hMs : M < 1073741824) (hct : n ≤ ct) (hcs : n ≤ cs)
    (hts : Apart bt ot n bs os n) (htm : Apart bt ot n bm om M) (hsm : Apart bs os n bm om M) (ht : ∀ i, i < n → w.cell? ⟨bt, ot + i, none⟩ = some (.int .i32 (T i : Nat))) (hT : ∀ i, i < n → T i < K) (hs : Reg w bs os n (fun _ => 0)) (hg : Reg w bm om M G) :
    Calls Tryz.prog 94 #[.slice (some ⟨bt, ot, none⟩) n ct, .int .i64 (K : Int), .slice (some ⟨bs, os, none⟩) n cs, .slice (some ⟨bm, om, none⟩) M cm] w fun e w' =>
      e = .returned (.tuple #[]) ∧ ∃ (d : Nat → Nat) (G' : Nat → Int), Reg w' bs os n (fun i => (d i : Nat)) ∧ IsSA T n d ∧ Reg w' bm om M G' ∧ G' 0 < 0 ∧ Chg (saS bs os n bm om M) w w' := by
  obtain ⟨T', hT'⟩ : ∃ T' : Nat → Nat, T' = fun i => if i < n then T i else 0 := ⟨_, rfl⟩
  have hTT : ∀ i, i < n → T' i = T i := fun i hi => by rw [hT']; simp [hi]
  have h0 : T' n = 0 := by rw [hT']; simp
  have hTK : ∀ i, i < n → T' i < K := fun i hi => by rw [hTT i hi]; exact hT i hi
  have hM0 : 0 < M := by omega
  have ok := lay1_ok (ct := ct) (cs := cs) (cm := cm) (K := K) hts htm hsm hns (by omega) hKM hMc (by omega) hct hcs
  have on := onTmp1 (bt := bt) (ot := ot) (ct := ct) (n := n) (bs := bs) (os := os) (cs := cs) (bm := bm) (om := om) (cm := cm) hKM
  have hv : (lay1 bt ot ct n bs os cs bm om cm K).fv (.slice none 0 0) := .inl ⟨rfl, rfl⟩
  have HS0 : ∀ nq, SS (lay1 bt ot ct n bs os cs bm om cm K) .i32 bm om M w (w.drewN nq) T' (fun _ => 0) := by
    intro nq
    exact ⟨_, _, _, (lay1_st (M := M) (fun i hi => by rw [ht i hi, hTT i hi]) hs hg (by omega) hKM (by omega)).drewN nq, .inl rfl, (Chg.refl _ w).drewN nq, hg.drewN nq, fun i hi => by simp only [lay1] at hi; omega⟩
  have HSN := Lib.hid HS0
  have hln : (lay1 bt ot ct n bs os cs bm om cm K).n = n := rfl
  have OK := Lib.hid ok
  have ON := Lib.hid on
  have HV := Lib.hid hv
  have HTK := Lib.hid hTK
  have H0 := Lib.hid h0
  have HAP := Lib.hid hsm
  have HTM := Lib.hid htm
  have HTT := Lib.hid hTT
  have IH := Lib.hid ih
  have hgc := hg.c 0 hM0
  have hgz := hg.z 0 hM0
  rw [Nat.add_zero] at hgc hgz
  clear HS0 ok on hv hTK h0 hsm htm hTT ih hT' hT ht hs hg hts
  have n1 : ((n : Int) == 0) = false := by simp; omega
  have n2 : ((n : Int) == 1) = false := by simp; omega
  have n3 : ((n : Int) != (n : Int)) = false := by simp
  have n4 : decide ((M : Int) < (K : Int)) = false := by simp; omega
  have k1 : ¬ 2 * (K : Int) ≤ (M : Int) := by omega
  have k2 : K ≤ cm := by omega
  go_enter Tryz.func94, Tryz.ntmps94
  go_wp2
  go_quiet (fail)
  go_wp2_with fail
  have HS1 := Lib.hid (HSN.out nq)
  clear HSN n1 n2 n3 n4 k1 k2
  obtain ⟨B1, F1, G1, hst1, hf1, hch1, hg1, hl1⟩ := HS1.out
  refine (place32 (lay1 bt ot ct n bs os cs bm om cm K) OK.out _ HV.out _ T' _ B1 F1 hst1 HTK.out H0.out hf1 (fun p _ => rfl)).mono ?_
  rintro e w2 ⟨rfl, A2, B2, F2, hr2, hf2, hpl⟩
  have HS2 := Lib.hid (HS1.out.step ON.out HAP.out hr2 hf2)
  have HPL := Lib.hid hpl
  clear hst1 hf1 hch1 hg1 hl1 hr2 hf2 hpl HS1
  by_cases hm : lc T' n 0 ≤ 1
  · have hmd : decide ((lc T' n 0 : Int) ≤ 1) = true := by simp; omega
    have hmd' : decide (lc T' n 0 ≤ 1) = true := by simp; omega
    have hmi : (lc T' n 0 : Int) ≤ 1 := by omega
    have HST := Lib.hid (HPL.out.1 hm)
    clear HPL
    go_wp2_with fail
    obtain ⟨B11, F11, G11, hst11, hf11, _⟩ := HS2.out
    refine (fullL32 (lay1 bt ot ct n bs os cs bm om cm K) OK.out _ HV.out _ T' _ B11 F11 hst11 HTK.out hf11 hn HST.out).mono ?_
    rintro e w11 ⟨rfl, A11, B11', F11', b11, hr11, hf11', hp11⟩
    have HS11 := Lib.hid (HS2.out.step ON.out HAP.out hr11 hf11')
    have HP11 := Lib.hid hp11
    clear hst11 hf11 hr11 hf11' hp11 HS2 HST
    go_wp2_with fail
    obtain ⟨B12, F12, G12, hst12, hf12, _⟩ := HS11.out
    refine (fullS32 (lay1 bt ot ct n bs os cs bm om cm K) OK.out _ HV.out _ T' _ B12 F12 b11 hst12 HTK.out hf12 hn HP11.out).mono ?_
    rintro e w12 ⟨rfl, A12, B12', F12', hr12, hf12', hp12⟩
    have HS12 := Lib.hid (HS11.out.step ON.out HAP.out hr12 hf12')
    have HFI := Lib.hid (HS12.out.fin HAP.out hM0 hp12.1 hp12.2)
    obtain ⟨_, _, G13, _, _, _, hg13, _⟩ := HS12.out
    have hc13 := hg13.c 0 hM0
    have hz13 := hg13.z 0 hM0
    rw [Nat.add_zero] at hc13 hz13
    clear hst12 hf12 hr12 hf12' hp12 HS11 HS12 hg13
    go_wp2
    go_end0
    obtain ⟨d, G', q1, q2, q3, q4, q5⟩ := HFI.out
    exact ⟨rfl, d, G', q1, q2.congr HTT.out, q3, q4, q5⟩
  · have hmd : ¬ lc T' n 0 ≤ 1 := hm
    have hm2 : 2 ≤ lc T' n 0 := by omega
    have hnx : nx T' n 0 ≠ 0 := fun e => by have := (nx_zero_iff (T := T') (n := n) 0).1 e; omega
    have HNX := Lib.hid hnx
    have HST0 := Lib.hid (HPL.out.2 hm2)
    have hhalf := lc_half (T := T') (n := n) (i := 0) (by omega)
    have HH := Lib.hid hhalf
    clear hnx HPL hhalf
    go_wp2_with fail
    obtain ⟨B3, F3, G3, hst3, hf3, _⟩ := HS2.out
    refine (subL32 (lay1 bt ot ct n bs os cs bm om cm K) OK.out _ HV.out _ T' _ B3 F3 hst3 HTK.out hf3 hn HNX.out HST0.out).mono ?_
    rintro e w3 ⟨rfl, A3, B3', F3', b3, hr3, hf3', hp3⟩
    have HS3 := Lib.hid (HS2.out.step ON.out HAP.out hr3 hf3')
    have HP3 := Lib.hid hp3
    clear hst3 hf3 hr3 hf3' hp3 HS2 HST0
    go_wp2_with fail
    obtain ⟨B4, F4, G4, hst4, hf4, _⟩ := HS3.out
    refine (subS32 (lay1 bt ot ct n bs os cs bm om cm K) OK.out _ HV.out _ T' _ B4 F4 b3 hst4 HTK.out hf4 hn HNX.out HP3.out).mono ?_
    rintro e w4 ⟨rfl, A4, B4', F4', hr4, hf4', hp4⟩
    have HS4 := Lib.hid (HS3.out.step ON.out HAP.out hr4 hf4')
    have HP4 : Hid (Subs T' n (lc T' n 0) A4) := hp4
    clear hst4 hf4 hr4 hf4' hp4 HS3 HP3
    go_wp2_with fail
    obtain ⟨B5, F5, G5, hst5, hf5, _⟩ := HS4.out
    refine (length32 (lay1 bt ot ct n bs os cs bm om cm K) OK.out _ T' _ B5 F5 hst5 hf5 H0.out HP4.out _).mono ?_
    rintro e w5 ⟨rfl, A5, B5', F5', hr5, hf5', hp5⟩
    have HS5 := Lib.hid (HS4.out.step ON.out HAP.out hr5 hf5')
    have HP5 := Lib.hid hp5
    clear hst5 hf5 hr5 hf5' hp5 HS4
    go_wp2_with fail
    obtain ⟨B6, F6, G6, hst6, hf6, _⟩ := HS5.out
    refine (assign32 (lay1 bt ot ct n bs os cs bm om cm K) OK.out _ T' A4 _ B6 F6 _ (codeOK_32 (by have := OK.out.small; simp only [lay1] at this; omega)) hst6 hf6 HP4.out HP5.out hm2).mono ?_
    rintro e w6 ⟨rfl, A6, B6', F6', hr6, hf6', hp6⟩
    have HS6 := Lib.hid (HS5.out.step ON.out HAP.out hr6 hf6')
    have HP6 : Hid (IdI T' n (C32 T' n) (lstOf T' n A4) A4 (lc T' n 0) A6) := hp6
    have HX : Hid (Lst T' n (lstOf T' n A4)) := HP4.out.lst (by have := HH.out; omega)
    have HXV := Lib.hid (fun (t : Nat) (ht : t < lc T' n 0) => HP4.out.lst_val (by have := HH.out; omega) ht)
    clear hst6 hf6 hr6 hf6' hp6 HS5 HP5
    have hcl := cls_le (T := T') (n := n) (lstOf T' n A4) (lc T' n 0)
    by_cases hlt : cls T' n (lstOf T' n A4) (lc T' n 0) < lc T' n 0
    · go_wp2_with fail
      obtain ⟨B7, F7, G7, hst7, hf7, _⟩ := HS6.out
      refine (map32 .i32 (lay1 bt ot ct n bs os cs bm om cm K) OK.out _ T' A4 _ B7 F7 _ _ hst7 hf7 HX.out HP6.out (by show 0 < n; omega) _).mono ?_
      rintro e w7 ⟨rfl, A7, B7', F7', hr7, hf7', hp7⟩
      have HS7 := Lib.hid (HS6.out.step ON.out HAP.out hr7 hf7')
      have HP7 := Lib.hid hp7
      clear hst7 hf7 hr7 hf7' hp7 HS6 HP6
      go_wp2_with fail
      obtain ⟨B8, F8, G8, hst8, hf8, hch8, hg8, hl8⟩ := HS7.out
      have hred := HP7.out.red HX.out
      have hcp : 0 < cls T' n (lstOf T' n A4) (lc T' n 0) := by
        have := cls_pos (T := T') (n := n) (lstOf T' n A4) (lc T' n 0 - 1)
        rw [show lc T' n 0 - 1 + 1 = lc T' n 0 by omega] at this
        omega
      refine (recurse32 N IH.out bs os n cs bm om cm M (lc T' n 0) (cls T' n (lstOf T' n A4) (lc T' n 0)) _ G8 _ (by have := HH.out; omega) hm2 (by have := HH.out; omega) hns hcp (by omega) hM0 hMc hMs hcs HAP.out hst8.regS hg8 _ (fun r hr => hred.2 r hr) (fun r hr => hred.1.lt HX.out hr)).mono ?_
      rintro e w8 ⟨rfl, d, A8, G8', hr81, hr82, hr83, hr84, hr85, hr86⟩
      have HS8 := Lib.hid (HS7.out.rec_ ON.out OK.out HTM.out hg8 hr81 hr84 hr85 hr86)
      have HRed := Lib.hid hred.1
      have HD1 := Lib.hid hr82
      have HD2 := Lib.hid hr83
      clear hst8 hf8 hch8 hg8 hl8 hred hr81 hr82 hr83 hr84 hr85 hr86 HS7 HP7 hcp
      go_wp2_with fail
      obtain ⟨B9, F9, G9, hst9, hf9, _⟩ := HS8.out
      refine (unmap32 (lay1 bt ot ct n bs os cs bm om cm K) OK.out _ T' _ B9 F9 d _ _ hst9 hf9 H0.out HX.out HRed.out HD2.out HD1.out hm2).mono ?_
      rintro e w9 ⟨rfl, A9, B9', F9', hr9, hf9', hp9⟩
      have HS9 := Lib.hid (HS8.out.step ON.out HAP.out hr9 hf9')
      have HP9 := Lib.hid hp9
      clear hst9 hf9 hr9 hf9' hp9 HS8 HRed HD1 HD2
      go_wp2_with fail
      obtain ⟨B10, F10, G10, hst10, hf10, _⟩ := HS9.out
      refine (expand32 (lay1 bt ot ct n bs os cs bm om cm K) OK.out _ HV.out _ T' _ B10 F10 hst10 HTK.out hf10 HP9.out hm2).mono ?_
      rintro e w10 ⟨rfl, A10, B10', F10', hr10, hf10', hp10⟩
      have HS10 := Lib.hid (HS9.out.step ON.out HAP.out hr10 hf10')
      have HST := Lib.hid hp10
      clear hst10 hf10 hr10 hf10' hp10 HS9 HP9
      go_wp2_with fail
      obtain ⟨B11, F11, G11, hst11, hf11, _⟩ := HS10.out
      refine (fullL32 (lay1 bt ot ct n bs os cs bm om cm K) OK.out _ HV.out _ T' _ B11 F11 hst11 HTK.out hf11 hn HST.out).mono ?_
      rintro e w11 ⟨rfl, A11, B11', F11', b11, hr11, hf11', hp11⟩
      have HS11 := Lib.hid (HS10.out.step ON.out HAP.out hr11 hf11')
      have HP11 := Lib.hid hp11
      clear hst11 hf11 hr11 hf11' hp11 HS10 HST
      go_wp2_with fail
      obtain ⟨B12, F12, G12, hst12, hf12, _⟩ := HS11.out
      refine (fullS32 (lay1 bt ot ct n bs os cs bm om cm K) OK.out _ HV.out _ T' _ B12 F12 b11 hst12 HTK.out hf12 hn HP11.out).mono ?_
      rintro e w12 ⟨rfl, A12, B12', F12', hr12, hf12', hp12⟩
      have HS12 := Lib.hid (HS11.out.step ON.out HAP.out hr12 hf12')
      have HFI := Lib.hid (HS12.out.fin HAP.out hM0 hp12.1 hp12.2)
      obtain ⟨_, _, G13, _, _, _, hg13, _⟩ := HS12.out
      have hc13 := hg13.c 0 hM0
      have hz13 := hg13.z 0 hM0
      rw [Nat.add_zero] at hc13 hz13
      clear hst12 hf12 hr12 hf12' hp12 HS11 HS12 hg13
      go_wp2
      go_end0
      obtain ⟨d, G', q1, q2, q3, q4, q5⟩ := HFI.out
      exact ⟨rfl, d, G', q1, q2.congr HTT.out, q3, q4, q5⟩
    · have hce : cls T' n (lstOf T' n A4) (lc T' n 0) = lc T' n 0 := by omega
      have HFr : Hid (Front T' n (fun i => if i < lc T' n 0 then A6 (n - lc T' n 0 + i) else A6 i)) := by
        refine Front.of_single HX.out hce (fun s hs => ?_)
        have h1 := HP6.out.top (n - lc T' n 0 + s) (by omega) (by have := HH.out; omega)
        have h2 := HXV.out s hs
        simp only [hs, if_true]
        exact h1.trans h2
      have HS7 := Lib.hid (HS6.out.copy OK.out HAP.out (m := lc T' n 0) (by have := HH.out; show _ ≤ n; omega))
      obtain ⟨B7, F7, G7, hst7, hf7, _⟩ := HS6.out
      have hcopy := fun ty => run_copy32 hst7 (m := lc T' n 0) (by have := HH.out; show _ ≤ n; omega) ty cs (cs - (n - lc T' n 0))
      have hcopy' : ∀ ty, (Builtin.copy_ #[44, 44] ty #[.slice (some ⟨bs, os, none⟩) n cs, .slice (some ⟨bs, os + (n - lc T' n 0), none⟩) (lc T' n 0) (cs - (n - lc T' n 0))]).run Tryz.prog w6 = .ok (goInt (lc T' n 0)) (w6.setCells bs os ((List.range (lc T' n 0)).map fun i => (.int .i32 (A6 (n - lc T' n 0 + i)) : Value))) := hcopy
      have HS7' : Hid (SS (lay1 bt ot ct n bs os cs bm om cm K) .i32 bm om M w (w6.setCells bs os ((List.range (lc T' n 0)).map fun i => (.int .i32 (A6 (n - lc T' n 0 + i)) : Value))) T' (fun i => if i < lc T' n 0 then A6 (n - lc T' n 0 + i) else A6 i)) := HS7.out
      have hhm := HH.out
      have c1 : ((n : Int) - (lc T' n 0 : Int)).toNat = n - lc T' n 0 := by omega
      have c2 : n - (n - lc T' n 0) = lc T' n 0 := by omega
      have c3 : ¬ cs = n - lc T' n 0 := by omega
      generalize hwc : w6.setCells bs os ((List.range (lc T' n 0)).map fun i => (.int .i32 (A6 (n - lc T' n 0 + i)) : Value)) = w9 at *
      generalize (fun i => if i < lc T' n 0 then A6 (n - lc T' n 0 + i) else A6 i) = A9 at *
      clear hst7 hf7 hcopy HS7 HS6 HP6 hce hwc
      go_wp2_with fail
      clear hcopy' c1 c2 c3 hhm
      obtain ⟨B10, F10, G10, hst10, hf10, _⟩ := HS7'.out
      refine (expand32 (lay1 bt ot ct n bs os cs bm om cm K) OK.out _ HV.out _ T' _ B10 F10 hst10 HTK.out hf10 HFr.out hm2).mono ?_
      rintro e w10 ⟨rfl, A10, B10', F10', hr10, hf10', hp10⟩
      have HS10 := Lib.hid (HS7'.out.step ON.out HAP.out hr10 hf10')
      have HST := Lib.hid hp10
      clear hst10 hf10 hr10 hf10' hp10 HS7' HFr
      go_wp2_with fail
      obtain ⟨B11, F11, G11, hst11, hf11, _⟩ := HS10.out
      refine (fullL32 (lay1 bt ot ct n bs os cs bm om cm K) OK.out _ HV.out _ T' _ B11 F11 hst11 HTK.out hf11 hn HST.out).mono ?_
      rintro e w11 ⟨rfl, A11, B11', F11', b11, hr11, hf11', hp11⟩
      have HS11 := Lib.hid (HS10.out.step ON.out HAP.out hr11 hf11')
      have HP11 := Lib.hid hp11
      clear hst11 hf11 hr11 hf11' hp11 HS10 HST
      go_wp2_with fail
      obtain ⟨B12, F12, G12, hst12, hf12, _⟩ := HS11.out
      refine (fullS32 (lay1 bt ot ct n bs os cs bm om cm K) OK.out _ HV.out _ T' _ B12 F12 b11 hst12 HTK.out hf12 hn HP11.out).mono ?_
      rintro e w12 ⟨rfl, A12, B12', F12', hr12, hf12', hp12⟩
      have HS12 := Lib.hid (HS11.out.step ON.out HAP.out hr12 hf12')
      have HFI := Lib.hid (HS12.out.fin HAP.out hM0 hp12.1 hp12.2)
      obtain ⟨_, _, G13, _, _, _, hg13, _⟩ := HS12.out
      have hc13 := hg13.c 0 hM0
      have hz13 := hg13.z 0 hM0
      rw [Nat.add_zero] at hc13 hz13
      clear hst12 hf12 hr12 hf12' hp12 HS11 HS12 hg13
      go_wp2
      go_end0
      obtain ⟨d, G', q1, q2, q3, q4, q5⟩ := HFI.out
      exact ⟨rfl, d, G', q1, q2.congr HTT.out, q3, q4, q5⟩
end Go.Proofs.YtpkgkppehefibaaGreatDoor

/- sais_32 for every length; text_32. -/
namespace Go.Proofs.YtpkgkppehefibaaGreatDoor
open Go.RowKit Sa

theorem sais32_all : ∀ N, Sais32 N := by
  intro N
  induction N using Nat.strongRecOn with
  | ind N ih =>
    intro bt ot ct n bs os cs bm om cm M K T G w hnN hn hns hK0 hKs hKM hMc hMs hct hcs hts htm hsm ht hT hs hg
    have ih' := ih (n / 2) (by omega)
    by_cases h2 : 2 * K ≤ M
    · exact sais32_two (n / 2) ih' bt ot ct n bs os cs bm om cm M K T G w (by omega) hn hns hK0 hKs h2 hMc hMs hct hcs hts htm hsm ht hT hs hg
    · exact sais32_one (n / 2) ih' bt ot ct n bs os cs bm om cm M K T G w (by omega) hn hns hK0 hKs hKM (by omega) hMc hMs hct hcs hts htm hsm ht hT hs hg

theorem isSA_small {T : Nat → Nat} {n : Nat} (hn : n ≤ 1) : IsSA T n (fun _ => 0) :=
  ⟨fun p hp => by omega, fun p q h1 h2 => by omega, fun x hx => ⟨0, by omega, by omega⟩⟩

set_option maxHeartbeats 1000000 in
set_option maxRecDepth 100000 in
/-- sais_8_32 on no char -/
theorem sais8_zero (A : Option Addr) (ct bs os cs bm om : Nat) (w : World) :
    Calls Tryz.prog 59 #[.slice A 0 ct, .int .i64 256, .slice (some ⟨bs, os, none⟩) 0 cs, .slice (some ⟨bm, om, none⟩) 512 512] w fun e w' => e = .returned (.tuple #[]) ∧ w = w' := by
  go_enter Tryz.func59, Tryz.ntmps59
  go_wp2
  refine bodyPost_ret (results_none rfl _ _ _) rfl ?_
  exact ⟨rfl, rfl⟩
set_option maxHeartbeats 1000000 in
set_option maxRecDepth 100000 in
/-- on one char -/
theorem sais8_one (A : Option Addr) (ct bs os cs bm om : Nat) (w : World) (x : Value) (hc : w.cell? ⟨bs, os, none⟩ = some x) (hz : w.frozen? ⟨bs, os, none⟩ = false) :
    Calls Tryz.prog 59 #[.slice A 1 ct, .int .i64 256, .slice (some ⟨bs, os, none⟩) 1 cs, .slice (some ⟨bm, om, none⟩) 512 512] w fun e w' => e = .returned (.tuple #[]) ∧ w.setCell ⟨bs, os, none⟩ (.int .i32 0) = w' := by
  go_enter Tryz.func59, Tryz.ntmps59
  go_wp2
  refine bodyPost_ret (results_none rfl _ _ _) rfl ?_
  exact ⟨rfl, rfl⟩

/-- a text of bytes: a slice that reads as n bytes (nil, where n is 0) -/
structure Txt (w : World) (A : Option Addr) (n : Nat) (T : Nat → Nat) : Prop where
  c : ∀ i, i < n → ∃ ad : Addr, A = some ad ∧ ad.spot = none ∧ w.cell? ⟨ad.block, ad.off + i, none⟩ = some (.int .u8 (T i : Nat))
  l : ∀ i, i < n → T i < 256

set_option maxHeartbeats 1000000 in
set_option maxRecDepth 100000 in
/-- WHAT text_32 DOES -/
theorem text32 (A : Option Addr) (ct n bs os cs : Nat) (T : Nat → Nat) (w : World) (hn : n < 1073741824) (hct : n ≤ ct) (hcs : n ≤ cs) (ht : Txt w A n T) (hap : 0 < n → ∀ ad, A = some ad → ad.block ≠ bs) (hs : Reg w bs os n (fun _ => 0)) :
    Calls Tryz.prog 44 #[.slice A n ct, .slice (some ⟨bs, os, none⟩) n cs] w fun e w' =>
      e = .returned (.tuple #[]) ∧ ∃ d : Nat → Nat, Reg w' bs os n (fun i => (d i : Nat)) ∧ IsSA T n d ∧ Chg (inR bs os n) w w' := by
  have hmk : ∀ W, (Instr.makeSlice 44 (.int .i64 512) (.int .i64 512)).run Tryz.prog W = .ok (.slice (some ⟨W.heap.size, 0, none⟩) 512 512) (W.alloc (.cells (madeCells #[.int .i32 0] 512) 21)) := fun W => run_make32 512 (by omega) W
  have hrm := reg_made w 512
  generalize hob : Obj.cells (madeCells #[.int .i32 0] 512) 21 = ob at *
  have hca := chg_alloc (fun _ _ => False) w ob
  have hsA := hs.keep hca (fun _ _ h => h)
  have n3 : ((n : Int) != (n : Int)) = false := by simp
  have main : Calls Tryz.prog 59 #[.slice A n ct, .int .i64 256, .slice (some ⟨bs, os, none⟩) n cs, .slice (some ⟨w.heap.size, 0, none⟩) 512 512] (w.alloc ob) fun e w' =>
      e = .returned (.tuple #[]) ∧ ∃ d : Nat → Nat, Reg w' bs os n (fun i => (d i : Nat)) ∧ IsSA T n d ∧ Chg (inR bs os n) w w' := by
    rcases Nat.lt_or_ge n 2 with h2 | h2
    · rcases Nat.eq_zero_or_pos n with rfl | hp
      · refine (sais8_zero A ct bs os cs _ _ _).mono ?_
        rintro e w' ⟨rfl, rfl⟩
        exact ⟨rfl, _, hsA, isSA_small (by omega), chg_alloc _ w ob⟩
      · obtain rfl : n = 1 := by omega
        have h1 := hsA.c 0 (by omega)
        have h2 := hsA.z 0 (by omega)
        rw [Nat.add_zero] at h1 h2
        refine (sais8_one A ct bs os cs _ _ _ _ h1 h2).mono ?_
        rintro e w' ⟨rfl, rfl⟩
        refine ⟨rfl, _, (hsA.set (i := 0) (by omega) 0).congr (fun i hi => ?_), isSA_small (by omega), (chg_alloc _ w ob).setCell (fun _ => ⟨rfl, Nat.le_refl _, by omega⟩) _⟩
        obtain rfl : i = 0 := by omega
        rw [upd_same]; rfl
    · obtain ⟨ad, rfl, hsp, _⟩ := ht.c 0 (by omega)
      have hb : ∀ i, i < n → w.cell? ⟨ad.block, ad.off + i, none⟩ = some (.int .u8 (T i : Nat)) := fun i hi => by
        obtain ⟨ad', e, _, h⟩ := ht.c i hi
        obtain rfl : ad = ad' := Option.some.inj e
        exact h
      obtain ⟨b, o, sp⟩ := ad
      obtain rfl : sp = none := hsp
      have hne := hap (by omega) _ rfl
      have hbl : b < w.heap.size := cell_lt (hb 0 (by omega))
      have hbs : bs < w.heap.size := hs.lt (by omega)
      refine (sais8_two n (sais32_all n) b o ct n bs os cs w.heap.size 0 512 512 T (fun _ => 0) _ (by omega) h2 hn (by omega) (by omega) (by omega) hct hcs (.inl hne) (.inl (by show b ≠ _; omega)) (.inl (by omega)) (fun i hi => ?_) ht.l hsA hrm).mono ?_
      · rw [hca.cell _ _ hbl (fun h => h)]; exact hb i hi
      · rintro e w' ⟨rfl, d, G', q1, q2, q3, q4, q5⟩
        exact ⟨rfl, d, q1, q2, (chg_alloc (inR bs os n) w ob).trans' q5 (fun b o _ h => h) (fun b o hb h => by
          rcases h with h | h
          · exact h
          · have := h.1; omega)⟩
  have MAIN := Lib.hid main
  clear main hca hsA hrm ht hap hs
  go_enter Tryz.func44, Tryz.ntmps44
  go_wp2_with fail
  refine MAIN.out.mono ?_
  rintro e w' ⟨rfl, hf⟩
  have HF := Lib.hid hf
  clear hf
  go_wp2
  go_end0
  exact ⟨rfl, HF.out⟩
end Go.Proofs.YtpkgkppehefibaaGreatDoor

/- New, Bytes. -/
namespace Go.Proofs.YtpkgkppehefibaaGreatDoor
open Go.RowKit Sa

/-- the variable that tells where int32 ends -/
def MaxOk (w : World) : Prop := w.cell? ⟨0, 0, none⟩ = some (.int .i64 2147483647)
theorem MaxOk.below {w w' : World} {B : Nat} (h : MaxOk w) (hb : Below B w w') (hB : 0 < B) : MaxOk w' := by
  unfold MaxOk at h ⊢
  rw [hb.cell (p := ⟨0, 0, none⟩) hB]; exact h
theorem MaxOk.lt {w : World} (h : MaxOk w) : 0 < w.heap.size := cell_lt h

/-- AN INDEX IN MEMORY: block ix; its data, its suffix array (block bs, from os on) -/
structure Ix (w : World) (ix : Nat) (A : Option Addr) (n ct bs os cs : Nat) (d : Nat → Nat) : Prop where
  c0 : w.cell? ⟨ix, 0, none⟩ = some (.slice A n ct)
  c1 : w.cell? ⟨ix, 1, none⟩ = some (.slice (some ⟨bs, os, none⟩) n cs)
  c2 : w.cell? ⟨ix, 2, none⟩ = some (.slice none 0 0)
  sa : ∀ i, i < n → w.cell? ⟨bs, os + i, none⟩ = some (.int .i32 (d i : Nat))
  dl : ∀ i, i < n → d i < n
  cs : n ≤ cs
  ct : n ≤ ct
  sm : n < 1073741824

set_option maxHeartbeats 1000000 in
set_option maxRecDepth 100000 in
/-- WHAT New DOES -/
theorem new_any (A : Option Addr) (ct n : Nat) (T : Nat → Nat) (w : World) (hn : n < 1073741824) (hct : n ≤ ct) (ht : Txt w A n T) (hg : MaxOk w) :
    Calls Tryz.prog 33 #[.slice A n ct] w fun e w' =>
      ∃ ix bs d, e = .returned (.pointer (some ⟨ix, 0, none⟩)) ∧ Ix w' ix A n ct bs 0 n d ∧ w.heap.size ≤ ix ∧ IsSA T n d ∧ bs < w'.heap.size ∧ Below w.heap.size w w' := by
  have hmk : ∀ W, (Instr.makeSlice 44 (.int .i64 (n : Int)) (.int .i64 (n : Int))).run Tryz.prog W = .ok (.slice (some ⟨W.heap.size, 0, none⟩) n n) (W.alloc (.cells (madeCells #[.int .i32 0] n) 21)) := fun W => run_make32 n hn W
  have hgl := hg.lt
  unfold MaxOk at hg
  have hle : (n : Int) ≤ 2147483647 := by omega
  have hW1 : ∀ o1 : Obj, (w.alloc o1).heap.size = w.heap.size + 1 := fun o1 => by simp
  have hcall := fun o1 : Obj => text32 A ct n (w.heap.size + 1) 0 n T ((w.alloc o1).alloc (.cells (madeCells #[.int .i32 0] n) 21)) hn hct (Nat.le_refl _)
    ⟨fun i hi => by
      obtain ⟨ad, h1, h2, h3⟩ := ht.c i hi
      have hb := cell_lt h3
      exact ⟨ad, h1, h2, by rw [World.cell?_alloc_past _ _ _ (by rw [hW1]; omega), World.cell?_alloc_past _ _ _ hb]; exact h3⟩, ht.l⟩
    (fun h0 ad h => by
      obtain ⟨ad', h1, h2, h3⟩ := ht.c 0 h0
      rw [h] at h1; obtain rfl := Option.some.inj h1
      have := cell_lt h3; omega) (by have := reg_made (w.alloc o1) n; rwa [hW1] at this)
  have HC := Lib.hid hcall
  clear hcall ht
  go_enter Tryz.func33, Tryz.ntmps33
  go_wp2_with fail
  refine (HC.out _).mono ?_
  rintro e w3 ⟨rfl, d, h1, h2, h3⟩
  have hix : w.heap.size ≠ w.heap.size + 1 := by omega
  have hno : ∀ o, ¬ inR (w.heap.size + 1) 0 n w.heap.size o := fun o h => hix h.1
  have hsz : ∀ (o1 o2 : Obj), ((w.alloc o1).alloc o2).heap.size = w.heap.size + 2 := fun o1 o2 => by simp
  have q0 := h3.cell w.heap.size 0 (by rw [hsz]; omega) (hno 0)
  have q1 := h3.cell w.heap.size 1 (by rw [hsz]; omega) (hno 1)
  have q2 := h3.cell w.heap.size 2 (by rw [hsz]; omega) (hno 2)
  rw [World.cell?_alloc_past _ _ _ (by rw [hW1]; omega), World.cell?_alloc_at _ _ _ _ rfl] at q0 q1 q2
  have HX : Hid (Ix w3 w.heap.size A n ct (w.heap.size + 1) 0 n d) := ⟨q0, q1, q2, h1.c, h2.lt, Nat.le_refl _, hct, hn⟩
  have HS := Lib.hid h2
  have HZ : Hid (w.heap.size + 1 < w3.heap.size) := by
    have := h3.size
    rw [hsz] at this
    show _ < _; omega
  have HB : Hid (Below w.heap.size w w3) := (((Below.refl _ _).alloc (Nat.le_refl _) _).alloc (by simp) _).trans (h3.below (by rw [hsz]; omega) (fun b o h => by have := h.1; omega))
  clear h1 h2 h3 q0 q1 q2 hno hsz HC hW1
  go_wp2
  go_ret
  exact ⟨_, _, d, rfl, HX.out, Nat.le_refl _, HS.out, HZ.out, HB.out⟩

theorem bytes_any (ix : Nat) (v : Value) (w : World) (h : w.cell? ⟨ix, 0, none⟩ = some v) :
    Calls Tryz.prog 36 #[.pointer (some ⟨ix, 0, none⟩)] w fun e w' => e = .returned v ∧ w = w' := by
  go_enter Tryz.func36, Tryz.ntmps36
  go_wp2
  go_ret
  exact ⟨rfl, rfl⟩
end Go.Proofs.YtpkgkppehefibaaGreatDoor
