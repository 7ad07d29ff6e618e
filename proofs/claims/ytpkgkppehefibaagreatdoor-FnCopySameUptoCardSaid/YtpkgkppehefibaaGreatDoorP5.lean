/- The walks of the functions over bytes, second half. (Printed by merge.py out of parts.) -/
import Derived.Test.YtpkgkppehefibaaGreatDoorP4
import Derived.Test.YtpkgkppehefibaaGreatDoorP3
/- The walk of induceL_8_32. -/
namespace Go.Proofs.YtpkgkppehefibaaGreatDoor
open Go.RowKit Sa

set_option maxHeartbeats 2000000 in
set_option maxRecDepth 100000 in
theorem fullL8 (L : Lay) (ok : L.Ok) (hK : L.K = 256) (v : Value) (hv : L.fv v) (w : World) (T : Nat → Nat) (A B F : Nat → Int) (h : L.St .u8 w T A B F) (hT : ∀ i, i < L.n → T i < L.K) (hF : FreqOK L T F) (hn : 2 ≤ L.n)
    (hA : Sa.Start T L.n (slt T L.n) (fun x => lms T L.n x = true) A) :
    Calls Tryz.prog 79 #[.slice (some ⟨L.bt, L.ot, none⟩) L.n L.ct, .slice (some ⟨L.bs, L.os, none⟩) L.n L.cs, v, .slice (some ⟨L.bb, L.ob, none⟩) 256 L.cb] w fun e w' =>
      e = .returned (.tuple #[]) ∧ ∃ A' B' F' b', L.Run .u8 w w' T A' B' F' ∧ FreqOK L T F' ∧ FullL T L.n L.n A' b' := by
  have H := Lib.hid (bmin8 L ok hK v hv w T A B F h hT hF)
  obtain ⟨m, hm⟩ : ∃ m, L.n = m + 2 := ⟨L.n - 2, by omega⟩
  have hsm := ok.small
  have hcb := ok.cb
  have hks := ok.ksmall
  rw [hK] at hcb
  have HT := Lib.hid hT
  have HK := Lib.hid hK
  have HA := Lib.hid (FullL.first hA (by omega))
  have HM := Lib.hid hm
  clear hT hK hA h hv hF hm hn
  go_enter Tryz.func79, Tryz.ntmps79
  go_wp2_with fail
  refine H.out.mono ?_
  rintro e w1 ⟨rfl, F1, hR1, hF1⟩
  have hA1 := HA.out
  have hmn := HM.out
  have e1 : (L.n : Int) - 1 = (m : Int) + 1 := by omega
  have e2 : L.n - 1 = m + 1 := by omega
  rw [e2] at hA1
  have hT1 := HT.out (m + 1) (by omega)
  have hc0 := hR1.st.t m (by omega)
  have hc1 := hR1.st.t (m + 1) (by omega)
  have hcb1 := hR1.st.b (T (m + 1)) hT1
  have hcs1 := hR1.st.s _ hA1.1
  have hzs1 := hR1.st.s' _ hA1.1
  have hbl := hA1.1
  have HR := Lib.hid (fun nq => LsR.first (P := FullL T L.n) ok hT1 hA1.1 (hR1.drewN nq) hF1 hA1.2)
  have hmb : m + 2 ≤ L.n := by omega
  have hmi : (m : Int) < (L.n : Int) := by omega
  have hmi1 : (m : Int) + 1 < (L.n : Int) := by omega
  have ht0 : ((m : Int)).toNat = m := by omega
  have ht1 : ((m : Int) + 1).toNat = m + 1 := by omega
  have hT256 : T (m + 1) < 256 := by have := HK.out; omega
  clear H HA hA1 hR1 hF1 hmn e2
  by_cases hlt : T m < T (m + 1)
  all_goals
    go_wp2
    go_quiet (fail)
    go_wp2
    go_loopg [11, 12, 13] (L.n + 1) (fun gk cb bv i wr => LsR (FullL T L.n) L .u8 T w cb bv i wr ∧ L.n - (intOf i).toNat < gk)
    case atStart =>
      have h1 := HR.out nq
      first | rw [mk_lt hlt] at h1 | rw [mk_ge hlt] at h1
      exact ⟨h1, by simp only [intOf]; omega⟩
    case round =>
      clear HR hcb1 hcs1 hzs1 hc0 hc1 hlt hbl hmb hmi hmi1 ht0 ht1 hT1 e1 hT256
      obtain ⟨⟨k, A2, B2, F2, b2, cB, hk, rfl, rfl, hcB, rfl, hB, hbn, hR, hF2, hP⟩, hgk⟩ := hrel
      simp only [intOf, Int.toNat_natCast] at hgk
      have hcB256 : cB < 256 := by have := HK.out; omega
      by_cases hkn : k < L.n
      · have hcs := hR.st.s k hkn
        have hzs := hR.st.s' k hkn
        by_cases hpos : 0 < A2 k
        · obtain ⟨u1, hu, hun, hbu, hku, hP2⟩ := hP.pos hkn hpos
          have hTu := HT.out u1 (by omega)
          have hct1 := hR.st.t u1 (by omega)
          have hcsb := hR.st.s (b2 (T u1)) hbu
          have hzsb := hR.st.s' (b2 (T u1)) hbu
          have hTu256 : T u1 < 256 := by have := HK.out; omega
          by_cases hcc : cB = T u1
          · subst hcc
            have HR := Lib.hid (LsR.same (P := FullL T L.n) ok hkn hcB hB hbu hR hF2 hP2)
            cases u1 with
            | zero =>
              have hu' : A2 k = 1 := by omega
              rw [hu'] at hcs
              rw [Nat.add_zero] at hct1
              clear hB hbn hR hF2 hP hP2 hu hu' hpos
              go_wp2
              go_roundg (L.n - (k + 1) + 1)
              case rel =>
                have h1 := HR.out
                rw [mk_zero] at h1
                exact ⟨h1, by simp only [intOf]; omega⟩
              case measure => omega
            | succ u =>
              have hu' : A2 k = (u : Int) + 1 + 1 := by omega
              rw [hu'] at hcs
              have hct0 := hR.st.t u (by omega)
              have hun2 : (u : Int) + 2 < (L.n : Int) := by omega
              have htu : ((u : Int)).toNat = u := by omega
              have htu1 : ((u : Int) + 1).toNat = u + 1 := by omega
              clear hB hbn hR hF2 hP hP2 hu hu' hpos
              by_cases hlu : T u < T (u + 1)
              all_goals
                go_wp2
                go_roundg (L.n - (k + 1) + 1)
                case rel =>
                  have h1 := HR.out
                  first | rw [mk_lt hlu] at h1 | rw [mk_ge hlu] at h1
                  exact ⟨h1, by simp only [intOf]; omega⟩
                case measure => omega
          · have hcbu := hR.st.b (T u1) hTu
            rw [hB _ hTu (fun e => hcc e.symm)] at hcbu
            have hcbc := hR.st.b cB hcB
            have hzbc := hR.st.b' cB hcB
            have o6 : ∀ (W : World) (x : Value), (W.setCell ⟨L.bb, L.ob + cB, none⟩ x).cell? ⟨L.bb, L.ob + T u1, none⟩ = W.cell? ⟨L.bb, L.ob + T u1, none⟩ := fun W x => cell_setCell_ne _ _ _ _ _ _ (.inr (by omega))
            have o7 : ∀ (W : World) (x : Value), (W.setCell ⟨L.bb, L.ob + cB, none⟩ x).cell? ⟨L.bs, L.os + b2 (T u1), none⟩ = W.cell? ⟨L.bs, L.os + b2 (T u1), none⟩ := fun W x => cell_setCell_ne _ _ _ _ _ _ (ok.sb.symm.ne hcB hbu)
            have hbne : ((cB : Int) != (T u1 : Int)) = true := by simp; omega
            have HR := Lib.hid (LsR.diff (P := FullL T L.n) ok hkn hcB hB hTu hcc hbu hR hF2 hP2)
            cases u1 with
            | zero =>
              have hu' : A2 k = 1 := by omega
              rw [hu'] at hcs
              rw [Nat.add_zero] at hct1
              clear hB hbn hR hF2 hP hP2 hu hu' hpos
              go_wp2
              go_roundg (L.n - (k + 1) + 1)
              case rel =>
                have h1 := HR.out
                rw [mk_zero] at h1
                exact ⟨h1, by simp only [intOf]; omega⟩
              case measure => omega
            | succ u =>
              have hu' : A2 k = (u : Int) + 1 + 1 := by omega
              rw [hu'] at hcs
              have hct0 := hR.st.t u (by omega)
              have hun2 : (u : Int) + 2 < (L.n : Int) := by omega
              have htu : ((u : Int)).toNat = u := by omega
              have htu1 : ((u : Int) + 1).toNat = u + 1 := by omega
              clear hB hbn hR hF2 hP hP2 hu hu' hpos
              by_cases hlu : T u < T (u + 1)
              all_goals
                go_wp2
                go_roundg (L.n - (k + 1) + 1)
                case rel =>
                  have h1 := HR.out
                  first | rw [mk_lt hlu] at h1 | rw [mk_ge hlu] at h1
                  exact ⟨h1, by simp only [intOf]; omega⟩
                case measure => omega
        · have HR := Lib.hid (LsR.skip (P := FullL T L.n) hkn hcB hB hbn hR hF2 (hP.skip hkn (by omega)))
          obtain ⟨y, hy⟩ : ∃ y, A2 k = y := ⟨_, rfl⟩
          have hyl := hP.low hkn
          rw [hy] at hcs hpos hyl
          have hyn : y ≤ 0 := by omega
          have hyd : decide (y ≤ 0) = true := by simp; omega
          clear hB hbn hR hF2 hP hy hpos
          go_wp2
          go_roundg (L.n - (k + 1) + 1)
          case rel => exact ⟨HR.out, by simp only [intOf]; omega⟩
          case measure => omega
      · obtain rfl : k = L.n := by omega
        have HR := Lib.hid hR
        have HP := Lib.hid hP
        have HF2 := Lib.hid hF2
        clear hB hbn hR hF2 hP
        go_wp2
        go_end0
        exact ⟨rfl, _, _, _, _, HR.out, HF2.out, HP.out⟩
end Go.Proofs.YtpkgkppehefibaaGreatDoor

/- The walk of induceS_8_32. -/
namespace Go.Proofs.YtpkgkppehefibaaGreatDoor
open Go.RowKit Sa

set_option maxHeartbeats 2000000 in
set_option maxRecDepth 100000 in
theorem fullS8 (L : Lay) (ok : L.Ok) (hK : L.K = 256) (v : Value) (hv : L.fv v) (w : World) (T : Nat → Nat) (A B F : Nat → Int) (b0 : Nat → Nat) (h : L.St .u8 w T A B F) (hT : ∀ i, i < L.n → T i < L.K) (hF : FreqOK L T F) (hn : 2 ≤ L.n)
    (hA : FullL T L.n L.n A b0) :
    Calls Tryz.prog 80 #[.slice (some ⟨L.bt, L.ot, none⟩) L.n L.ct, .slice (some ⟨L.bs, L.os, none⟩) L.n L.cs, v, .slice (some ⟨L.bb, L.ob, none⟩) 256 L.cb] w fun e w' =>
      e = .returned (.tuple #[]) ∧ ∃ A' B' F', L.Run .u8 w w' T A' B' F' ∧ FreqOK L T F' ∧ (∀ p, p < L.n → A' p = ((A' p).toNat : Int)) ∧ IsSA T L.n (fun p => (A' p).toNat) := by
  have H := Lib.hid (bmax8 L ok hK v hv w T A B F h hT hF)
  have hsm := ok.small
  have hcb := ok.cb
  have hk0 := ok.k0
  have hks := ok.ksmall
  rw [hK] at hcb
  have HT := Lib.hid hT
  have HK := Lib.hid hK
  have HA := Lib.hid (FullS.first hA)
  clear hT hK hA h hv hF
  go_enter Tryz.func80, Tryz.ntmps80
  go_wp2_with fail
  refine H.out.mono ?_
  rintro e w1 ⟨rfl, F1, hR1, hF1⟩
  have hcb1 := hR1.st.b 0 hk0
  rw [Nat.add_zero] at hcb1
  have HR := Lib.hid (RsR.first (P := FullS T L.n) ok hR1 hF1 HA.out)
  clear H HA hR1 hF1
  go_wp2
  go_loopg [8, 9, 10] (L.n + 1) (fun gk cb bv i wr => RsR (FullS T L.n) L .u8 T w cb bv i wr ∧ (intOf i + 1).toNat < gk)
  case atStart => exact ⟨HR.out, by simp only [intOf]; omega⟩
  case round =>
    clear HR hcb1
    obtain ⟨⟨k, A2, B2, F2, b2, cB, hk, rfl, rfl, hcB, rfl, hB, hbn, hR, hF2, hP⟩, hgk⟩ := hrel
    simp only [intOf] at hgk
    have hcB256 : cB < 256 := by have := HK.out; omega
    rcases Nat.eq_zero_or_pos k with rfl | hkp
    · have hm1 : (((0 : Nat) : Int) - 1) = -1 := rfl
      rw [hm1]
      clear hm1
      have HR := Lib.hid hR
      have HP := Lib.hid (hP.final)
      have HF2 := Lib.hid hF2
      clear hB hbn hR hF2 hP
      go_wp2
      go_end0
      exact ⟨rfl, _, _, _, HR.out, HF2.out, HP.out⟩
    · obtain ⟨k, rfl⟩ : ∃ j, k = j + 1 := ⟨k - 1, by omega⟩
      have hi : (((k + 1 : Nat) : Int) - 1) = (k : Int) := by omega
      rw [hi]
      clear hi
      have hkn : k < L.n := by omega
      have hcs := hR.st.s k hkn
      have hzs := hR.st.s' k hkn
      have hrg := hP.rng (p := k) (by omega) hkn
      by_cases hneg : A2 k < 0
      · obtain ⟨u1, hu, hun, hb0, hbu, hku, hP2⟩ := hP.neg hkn hneg
        obtain ⟨q, hq⟩ : ∃ q, b2 (T u1) = q + 1 := ⟨b2 (T u1) - 1, by omega⟩
        have hqn : q < L.n := by omega
        have hqk : q ≠ k := by omega
        have hTu := HT.out u1 (by omega)
        have hct1 := hR.st.t u1 (by omega)
        have hcsb := hR.st.s q hqn
        have hzsb := hR.st.s' q hqn
        have hTu256 : T u1 < 256 := by have := HK.out; omega
        have o2 : ∀ (W : World) (x : Value), (W.setCell ⟨L.bs, L.os + k, none⟩ x).cell? ⟨L.bt, L.ot + u1, none⟩ = W.cell? ⟨L.bt, L.ot + u1, none⟩ := fun W x => cell_setCell_ne _ _ _ _ _ _ (ok.ts.symm.ne hkn (by omega))
        have o3 : ∀ (W : World) (x : Value), (W.setCell ⟨L.bs, L.os + k, none⟩ x).cell? ⟨L.bs, L.os + q, none⟩ = W.cell? ⟨L.bs, L.os + q, none⟩ := fun W x => cell_setCell_ne _ _ _ _ _ _ (.inr (by omega))
        by_cases hcc : cB = T u1
        · subst hcc
          have HR := Lib.hid (RsR.same (P := FullS T L.n) ok hkn hcB hB hq hqn (hR.setS ok hkn _) hF2 hP2)
          have hbq : (b2 (T u1) : Int) = (q : Int) + 1 := by omega
          rw [hbq]
          cases u1 with
          | zero =>
            have hu' : A2 k = -1 := by omega
            rw [hu'] at hcs
            rw [Nat.add_zero] at hct1 o2
            clear hB hbn hR hF2 hP hP2 hu hu' hneg hbq hq hb0 hbu hku hrg
            go_wp2
            go_roundg (k + 1)
            case rel =>
              have h1 := HR.out
              rw [mkT_zero] at h1
              exact ⟨h1, by simp only [intOf]; omega⟩
            case measure => omega
          | succ u =>
            have hu' : A2 k = -((u : Int) + 1 + 1) := by omega
            rw [hu'] at hcs
            have hct0 := hR.st.t u (by omega)
            have hun2 : (u : Int) + 2 < (L.n : Int) := by omega
            have htu : ((u : Int)).toNat = u := by omega
            have htu1 : ((u : Int) + 1).toNat = u + 1 := by omega
            have o1 : ∀ (W : World) (x : Value), (W.setCell ⟨L.bs, L.os + k, none⟩ x).cell? ⟨L.bt, L.ot + u, none⟩ = W.cell? ⟨L.bt, L.ot + u, none⟩ := fun W x => cell_setCell_ne _ _ _ _ _ _ (ok.ts.symm.ne hkn (by omega))
            clear hB hbn hR hF2 hP hP2 hu hu' hneg hbq hq hb0 hbu hku hrg
            by_cases hlu : T u ≤ T (u + 1)
            all_goals
              go_wp2
              go_roundg (k + 1)
              case rel =>
                have h1 := HR.out
                first | rw [mkT_le hlu] at h1 | rw [mkT_gt hlu] at h1
                exact ⟨h1, by simp only [intOf]; omega⟩
              case measure => omega
        · have hcbu := hR.st.b (T u1) hTu
          rw [hB _ hTu (fun e => hcc e.symm), hq] at hcbu
          have hcq : ((q + 1 : Nat) : Int) = (q : Int) + 1 := by omega
          rw [hcq] at hcbu
          have hcbc := hR.st.b cB hcB
          have hzbc := hR.st.b' cB hcB
          have o4 : ∀ (W : World) (x : Value), (W.setCell ⟨L.bs, L.os + k, none⟩ x).cell? ⟨L.bb, L.ob + T u1, none⟩ = W.cell? ⟨L.bb, L.ob + T u1, none⟩ := fun W x => cell_setCell_ne _ _ _ _ _ _ (ok.sb.ne hkn hTu)
          have o5 : ∀ (W : World) (x : Value), (W.setCell ⟨L.bs, L.os + k, none⟩ x).cell? ⟨L.bb, L.ob + cB, none⟩ = W.cell? ⟨L.bb, L.ob + cB, none⟩ := fun W x => cell_setCell_ne _ _ _ _ _ _ (ok.sb.ne hkn hcB)
          have o6 : ∀ (W : World) (x : Value), (W.setCell ⟨L.bb, L.ob + cB, none⟩ x).cell? ⟨L.bb, L.ob + T u1, none⟩ = W.cell? ⟨L.bb, L.ob + T u1, none⟩ := fun W x => cell_setCell_ne _ _ _ _ _ _ (.inr (by omega))
          have o7 : ∀ (W : World) (x : Value), (W.setCell ⟨L.bb, L.ob + cB, none⟩ x).cell? ⟨L.bs, L.os + q, none⟩ = W.cell? ⟨L.bs, L.os + q, none⟩ := fun W x => cell_setCell_ne _ _ _ _ _ _ (ok.sb.symm.ne hcB hqn)
          have hbne : ((cB : Int) != (T u1 : Int)) = true := by simp; omega
          have HR := Lib.hid (RsR.diff (P := FullS T L.n) ok hkn hcB hB hTu hcc hq hqn (hR.setS ok hkn _) hF2 hP2)
          cases u1 with
          | zero =>
            have hu' : A2 k = -1 := by omega
            rw [hu'] at hcs
            rw [Nat.add_zero] at hct1 o2
            clear hB hR hF2 hP hP2 hu hu' hneg hcq hq hb0 hbu hku hrg
            go_wp2
            go_roundg (k + 1)
            case rel =>
              have h1 := HR.out
              rw [mkT_zero] at h1
              exact ⟨h1, by simp only [intOf]; omega⟩
            case measure => omega
          | succ u =>
            have hu' : A2 k = -((u : Int) + 1 + 1) := by omega
            rw [hu'] at hcs
            have hct0 := hR.st.t u (by omega)
            have hun2 : (u : Int) + 2 < (L.n : Int) := by omega
            have htu : ((u : Int)).toNat = u := by omega
            have htu1 : ((u : Int) + 1).toNat = u + 1 := by omega
            have o1 : ∀ (W : World) (x : Value), (W.setCell ⟨L.bs, L.os + k, none⟩ x).cell? ⟨L.bt, L.ot + u, none⟩ = W.cell? ⟨L.bt, L.ot + u, none⟩ := fun W x => cell_setCell_ne _ _ _ _ _ _ (ok.ts.symm.ne hkn (by omega))
            clear hB hR hF2 hP hP2 hu hu' hneg hcq hq hb0 hbu hku hrg
            by_cases hlu : T u ≤ T (u + 1)
            all_goals
              go_wp2
              go_roundg (k + 1)
              case rel =>
                have h1 := HR.out
                first | rw [mkT_le hlu] at h1 | rw [mkT_gt hlu] at h1
                exact ⟨h1, by simp only [intOf]; omega⟩
              case measure => omega
      · have HR := Lib.hid (RsR.skip (P := FullS T L.n) hkn hcB hB hbn hR hF2 (hP.skip hkn (by omega)))
        obtain ⟨y, hy⟩ : ∃ y, A2 k = y := ⟨_, rfl⟩
        rw [hy] at hcs hneg hrg
        obtain ⟨hr1, hr2⟩ := hrg
        have hyn : 0 ≤ y := by omega
        have hyd : decide (0 ≤ y) = true := by simp; omega
        clear hB hbn hR hF2 hP hy hneg
        go_wp2
        go_roundg (k + 1)
        case rel => exact ⟨HR.out, by simp only [intOf]; omega⟩
        case measure => omega
end Go.Proofs.YtpkgkppehefibaaGreatDoor

/- The walk of length_8_32. -/
namespace Go.Proofs.YtpkgkppehefibaaGreatDoor
open Go.RowKit Sa

set_option maxHeartbeats 1000000 in
set_option maxRecDepth 100000 in
theorem length8 (L : Lay) (ok : L.Ok) (w : World) (T : Nat → Nat) (A B F : Nat → Int) (h : L.St .u8 w T A B F) (hT : ∀ i, i < L.n → T i < 256) (hF : FreqOK L T F) (h0 : T L.n = 0) (hA : Subs T L.n (lc T L.n 0) A) (nl : Int) :
    Calls Tryz.prog 73 #[.slice (some ⟨L.bt, L.ot, none⟩) L.n L.ct, .slice (some ⟨L.bs, L.os, none⟩) L.n L.cs, .int .i64 nl] w fun e w' =>
      e = .returned (.tuple #[]) ∧ ∃ A' B' F', L.Run .u8 w w' T A' B' F' ∧ FreqOK L T F' ∧ LenI T L.n (C8 T L.n) A 0 A' := by
  have hsm := ok.small
  have HS := Lib.hid (LeR.start (C := C8 T L.n) h hF hA h0)
  have H0 := Lib.hid h0
  have HT := Lib.hid hT
  clear h hF hA h0 hT
  go_enter Tryz.func73, Tryz.ntmps73
  go_wp2
  go_loopg [6, 7, 8, 10, 11] (L.n + 1) (fun gk en xv c0 s i wr => ∃ k cx : Nat, xv = .int .u32 cx ∧ CxI T L.n k cx ∧ LeR (C8 T L.n) L .u8 T A w en c0 s i wr k ∧ k < gk)
  case atStart => exact ⟨_, 0, rfl, CxI.start, HS.out, by omega⟩
  case round =>
    clear HS
    obtain ⟨k, cx, rfl, hcx, ⟨A2, B2, F2, hk, rfl, rfl, rfl, rfl, hR, hF2, hI⟩, hgk⟩ := hrel
    rcases Nat.eq_zero_or_pos k with rfl | hpos
    · have hm1 : (((0 : Nat) : Int) - 1) = -1 := rfl
      rw [hm1]
      clear hm1
      have HR := Lib.hid hR
      have HI := Lib.hid hI
      have HF2 := Lib.hid hF2
      clear hR hF2 hI
      go_wp2
      go_end0
      exact ⟨rfl, _, _, _, HR.out, HF2.out, HI.out⟩
    · obtain ⟨j, rfl⟩ : ∃ j, k = j + 1 := ⟨k - 1, by omega⟩
      have hi : (((j + 1 : Nat) : Int) - 1) = (j : Int) := by omega
      rw [hi]
      clear hi
      have hct := hR.st.t j (by omega)
      have hel := endOf_le (T := T) (n := L.n) (k := j + 1)
      have hcl := hcx.lt
      have hor := or_pack T cx (j + 1)
      have hsl := hcx.shift.1
      rcases Nat.lt_trichotomy (T j) (T (j + 1)) with hlt | heq | hgt
      · have HS1 := scan_lt H0.out (by omega) hlt
        have HR := Lib.hid (LeR.skip (by omega) HS1.2 hR hF2 hI HS1.1.symm)
        have HX := Lib.hid (hcx.skip HS1.2)
        clear HS1 hR hF2 hI hcx
        generalize sty T L.n (j + 1) = sj
        go_wp2
        go_roundg (j + 1)
        case rel => exact ⟨j, _, rfl, HX.out, HR.out, by omega⟩
        case measure => omega
      · have HS1 := scan_eq (T := T) (n := L.n) (j := j) (by omega) heq
        have HR := Lib.hid (LeR.skip (by omega) HS1.2 hR hF2 hI HS1.1.symm)
        have HX := Lib.hid (hcx.skip HS1.2)
        have hlt : ¬ T j < T (j + 1) := by omega
        have hgt : decide ((T (j + 1) : Int) < (T j : Int)) = false := by simp; omega
        have hgt' : decide (T (j + 1) < T j) = false := by simp; omega
        clear HS1 hR hF2 hI hcx heq
        generalize sty T L.n (j + 1) = sj at *
        go_wp2
        go_roundg (j + 1)
        case rel => exact ⟨j, _, rfl, HX.out, HR.out, by omega⟩
        case measure => omega
      · have HS1 := scan_gt (n := L.n) hgt
        have hlt : ¬ T j < T (j + 1) := by omega
        cases hsj : sty T L.n (j + 1) with
        | false =>
          have HR := Lib.hid (LeR.skip (by omega) (by rw [HS1.2, hsj]) hR hF2 hI HS1.1.symm)
          have HX := Lib.hid (hcx.skip (by rw [HS1.2, hsj]))
          clear HS1 hR hF2 hI hsj hcx
          go_wp2
          go_roundg (j + 1)
          case rel => exact ⟨j, _, rfl, HX.out, HR.out, by omega⟩
          case measure => omega
        | true =>
          have hj1 := S_lt hsj
          have hlm : lms T L.n (j + 1) = true := by rw [HS1.2, hsj]
          obtain ⟨hh, hRel⟩ := LeR.ins ok (j := j) (by omega) hlm hR hF2 hI
          have HR := Lib.hid hRel
          have hTj := HT.out (j + 1) (by omega)
          have hTS := S_small HT.out hsj
          have HX := Lib.hid (CxI.ins (T := T) (n := L.n) (i := j) hlm)
          have HB := Lib.hid (show ((byt T (j + 1) : Nat) : Int) = (T (j + 1) : Int) + 1 by unfold byt; omega)
          have hcs2 := hR.st.s ((j + 1) / 2) hh
          have hzs2 := hR.st.s' ((j + 1) / 2) hh
          by_cases he : nx T L.n (j + 1) = 0
          · have hC : C8 T L.n (j + 1) = 0 := by unfold C8; rw [if_pos he]
            have hE : endOf T L.n (j + 1) = 0 := by unfold endOf; rw [if_pos he]
            rw [hE]
            clear HS1 hR hF2 hI hsj hRel he hE hcx hlm
            go_wp2
            go_roundg (j + 1)
            case rel =>
              have h1 := HR.out
              rw [hC] at h1
              exact ⟨j, _, by rw [HB.out], HX.out, h1, by omega⟩
            case measure => omega
          · obtain ⟨a1, a2, _⟩ := nx_some he
            have a3 := lms_lt a2
            obtain ⟨d, hd⟩ : ∃ d, nx T L.n (j + 1) = j + 1 + d := ⟨nx T L.n (j + 1) - (j + 1), by omega⟩
            have hE : ((endOf T L.n (j + 1) : Nat) : Int) = (j : Int) + d + 2 := by unfold endOf; rw [if_neg he]; omega
            have hdn : (j : Int) + d + 2 < L.n := by omega
            have hne : ((j : Int) + d + 2 == 0) = false := by simp; omega
            have hsub : (j : Int) + d + 2 - ((j : Int) + 1) = (d : Int) + 1 := by omega
            have hC := C8_eq hlm he _ (hcx.shift.2 he)
            rw [hd] at hC
            generalize hcv : cx * 256 % 4294967296 + byt T (j + 1) = cv at *
            have h4 : j + 1 + d + 1 - (j + 1) = d + 1 := by omega
            rw [h4] at hC
            rw [hE]
            have hor' : bits .or .u32 ((cx : Int) * 256 % 4294967296) ((T (j + 1) : Int) + 1) = (cv : Int) := by
              rw [← hor]
              congr 1
              omega
            obtain ⟨y, hy⟩ : ∃ y, 4294967295 - cv = y := ⟨_, rfl⟩
            have hx := xor_pack cv hsl
            rw [hy] at hx hC
            have hyl : y < 4294967296 := by omega
            have hsg : IntKind.u32.signed = false := rfl
            have hmx : IntKind.u32.max = 4294967295 := rfl
            clear HS1 hR hF2 hI hsj hRel he hE a1 a2 a3 hd hel hcx hlm hcv h4 hor hy
            by_cases hd4 : d + 1 ≤ 4
            · have hd4i : (d : Int) + 1 ≤ 4 := by omega
              by_cases hbig : L.n ≤ y
              · rw [if_pos ⟨hd4, hbig⟩, s32_wrap hyl] at hC
                go_wp2
                go_roundg (j + 1)
                case rel =>
                  have h1 := HR.out
                  rw [hC] at h1
                  exact ⟨j, _, by rw [HB.out], HX.out, h1, by omega⟩
                case measure => omega
              · rw [if_neg (fun h => hbig h.2)] at hC
                go_wp2
                go_roundg (j + 1)
                case rel =>
                  have h1 := HR.out
                  rw [hC] at h1
                  exact ⟨j, _, by rw [HB.out], HX.out, h1, by omega⟩
                case measure => omega
            · rw [if_neg (fun h => hd4 h.1)] at hC
              have hd4i : decide ((d : Int) + 1 ≤ 4) = false := by simp; omega
              have hd4j : ¬ (d : Int) + 1 ≤ 4 := by omega
              go_wp2
              go_roundg (j + 1)
              case rel =>
                have h1 := HR.out
                rw [hC] at h1
                exact ⟨j, _, by rw [HB.out], HX.out, h1, by omega⟩
              case measure => omega
end Go.Proofs.YtpkgkppehefibaaGreatDoor

/- The walk of assignID_8_32. -/
namespace Go.Proofs.YtpkgkppehefibaaGreatDoor
open Go.RowKit Sa

set_option maxHeartbeats 2000000 in
set_option maxRecDepth 100000 in
theorem assign8 (L : Lay) (ok : L.Ok) (w : World) (T : Nat → Nat) (A0 A B F : Nat → Int) (C : Nat → Int) (hC : CodeOK T L.n C) (h : L.St .u8 w T A B F) (hF : FreqOK L T F) (hA0 : Subs T L.n (lc T L.n 0) A0) (hA : LenI T L.n C A0 0 A)
    (hm2 : 2 ≤ lc T L.n 0) :
    Calls Tryz.prog 74 #[.slice (some ⟨L.bt, L.ot, none⟩) L.n L.ct, .slice (some ⟨L.bs, L.os, none⟩) L.n L.cs, .int .i64 (lc T L.n 0 : Nat)] w fun e w' =>
      e = .returned (.int .i64 (cls T L.n (lstOf T L.n A0) (lc T L.n 0) : Nat)) ∧ ∃ A' B' F', L.Run .u8 w w' T A' B' F' ∧ FreqOK L T F' ∧ IdI T L.n C (lstOf T L.n A0) A0 (lc T L.n 0) A' := by
  have hsm := ok.small
  have hct := ok.ct
  have hcs := ok.cs
  have hnp : 0 < L.n := by
    rcases Nat.eq_zero_or_pos L.n with e | e
    · rw [e, lc_end (by omega)] at hm2; omega
    · exact e
  have hhalf := lc_half (T := T) (n := L.n) (i := 0) hnp
  have hX := hA0.lst (by omega)
  have HXV := Lib.hid (fun t ht => hA0.lst_val (by omega) (t := t) ht)
  generalize hXe : lstOf T L.n A0 = X at *
  have HS : AsR C X L .u8 T A0 w (.int .i64 0) (.int .i32 (-1)) (.int .i32 0) (.int .i64 0) w 0 := ⟨A, B, F, 0, 0, -1, by omega, rfl, rfl, rfl, rfl, by omega, Lay.Run.start h, hF, IdI.start hA hX, LastI.start⟩
  have HSh := Lib.hid HS
  have HXh := Lib.hid hX
  have HCh := Lib.hid hC
  clear h hF hA hX hXe hC hA0 HS
  obtain ⟨m, hm⟩ : ∃ m, m = lc T L.n 0 := ⟨_, rfl⟩
  rw [← hm] at hhalf hm2 ⊢
  have HM := Lib.hid hm
  clear hm
  have e1 : L.n - (L.n - m) = m := by omega
  have e2 : ((L.n : Int) - (m : Int)).toNat = L.n - m := by omega
  have e3 : ¬ L.cs = L.n - m := by omega
  go_enter Tryz.func74, Tryz.ntmps74
  go_wp2
  clear e1 e2 e3
  go_loopg [7, 8, 9, 24] (m + 1) (fun gk id ll lp i wr => ∃ s, AsR C X L .u8 T A0 w id ll lp i wr s ∧ m - s < gk)
  case atStart => exact ⟨0, HSh.out, by omega⟩
  case round =>
    clear HSh
    obtain ⟨s, ⟨A2, B2, F2, idn, lpn, llv, hsm2, rfl, rfl, rfl, rfl, hlp, hR, hF2, hI, hL⟩, hgk⟩ := hrel
    rw [← HM.out] at hsm2
    by_cases hs : s < m
    · have hs' : s < lc T L.n 0 := by rw [← HM.out]; exact hs
      have hlm := HXh.out.lms s hs'
      have hxl := lms_lt hlm
      have hxh := half_lt hlm
      have hcx : wr.cell? ⟨L.bs, L.os + (L.n - m) + s, none⟩ = some (.int .i32 (X s : Nat)) := by
        rw [Nat.add_assoc, hR.st.s _ (by omega), hI.top _ (by rw [← HM.out]; omega) (by omega), HM.out, HXV.out s hs']
      have hcn := hR.st.s (X s / 2) (by omega)
      have hzn := hR.st.s' (X s / 2) (by omega)
      rw [hI.new s (Nat.le_refl _) hs'] at hcn
      obtain ⟨hr1, hr2⟩ := HCh.out.rng _ hlm
      have hin : idn ≤ s := by rw [hL.id]; exact cls_le _ _
      by_cases hne : C (X s) = llv
      · by_cases hbig : C (X s) < 0 ∨ (L.n : Int) ≤ C (X s)
        · have hfr := hL.big HCh.out HXh.out hs' hne hbig
          have HR := Lib.hid (AsR.same ok HXh.out hs' hlp hR hF2 hI hL hfr)
          generalize hCx : C (X s) = cx at *
          generalize hXs : X s = x at *
          subst hne
          have hge : (L.n : Int) ≤ cx % 4294967296 := by omega
          clear hR hF2 hI hL hfr hCx hXs hlm hbig
          go_wp2
          refine wp_scope_fwd fun Q' hQ' => ?_
          have HQ' := Lib.hid hQ'
          clear hQ'
          go_wp2
          go_step3
          refine HQ'.out _ _ _ ⟨_, rfl, ?_⟩
          go_wp2
          rw [Exit.noGoto_normal]
          go_wp2
          go_roundg (m - (s + 1) + 1)
          case rel => exact ⟨s + 1, HR.out, by omega⟩
          case measure => omega
        · obtain ⟨Ln, hLn, hxL, hlL, hyes, hno⟩ := hL.len HCh.out HXh.out hs' hne (by omega) (by omega)
          have HN := Lib.hid (fun (hf : Sa.fresh T L.n X s = true) (nq : Nat) => AsR.fresh ok HXh.out hs' (hR.drewN nq) hF2 hI hL hf)
          have HY := Lib.hid (fun (hf : Sa.fresh T L.n X s = false) (nq : Nat) => AsR.same ok HXh.out hs' hlp (hR.drewN nq) hF2 hI hL hf)
          have HT := Lib.hid hR.st.t
          generalize hfr : Sa.fresh T L.n X s = fr at *
          rw [hLn] at HN hcn hbig hr1 hr2
          rw [hLn] at hne
          subst hne
          generalize hXs : X s = x at *
          have HYes := Lib.hid hyes
          have HNo := Lib.hid hno
          have hLs : Ln < L.n := by omega
          have hnge : ¬ (L.n : Int) ≤ (Ln : Int) % 4294967296 := by omega
          have hxc : ¬ L.ct = x := by omega
          have hlc : ¬ L.ct = lpn := by omega
          have hLc1 : Ln ≤ L.ct - x := by omega
          have hLc2 : Ln ≤ L.ct - lpn := by omega
          clear hR hF2 hI hL hXs hlm hbig hyes hno hLn hfr
          go_wp2
          refine wp_scope_fwd fun Q' hQ' => ?_
          have HQ' := Lib.hid hQ'
          clear hQ'
          go_wp2
          obtain ⟨wo, hwo⟩ : ∃ wo : World, wo = wr := ⟨_, rfl⟩
          rw [← hwo]
          rw [← hwo] at hcx hcn hzn HN HY HT
          clear hwo
          go_loopg [16] (Ln + 1) (fun gi i wq => ∃ t nq : Nat, i = .int .i64 t ∧ t ≤ Ln ∧ wq = wo.drewN nq ∧ (∀ u, u < t → T (x + u) = T (lpn + u)) ∧ Ln - t < gi)
          case atStart => exact ⟨0, 0, rfl, by omega, by rw [World.drewN_zero], fun u hu => by omega, by omega⟩
          case round =>
            obtain ⟨t, nq, rfl, htL, rfl, hpre, hgi⟩ := hrel
            have HP := Lib.hid hpre
            clear hpre
            by_cases htl : t < Ln
            · have hc1 := HT.out (x + t) (by omega)
              have hc2 := HT.out (lpn + t) (by omega)
              rw [← Nat.add_assoc] at hc1 hc2
              have hti : (t : Int) < (Ln : Int) := by omega
              have hti0 : (0 : Int) ≤ (t : Int) := by omega
              have htt : ((t : Int)).toNat = t := by omega
              obtain ⟨a, ha⟩ : ∃ a, T (x + t) = a := ⟨_, rfl⟩
              obtain ⟨b, hb⟩ : ∃ b, T (lpn + t) = b := ⟨_, rfl⟩
              rw [ha] at hc1
              rw [hb] at hc2
              by_cases hab : a = b
              · have hpre' := Lib.hid (show ∀ u, u < t + 1 → T (x + u) = T (lpn + u) from fun u hu => by
                  by_cases e : u = t
                  · rw [e, ha, hb, hab]
                  · exact HP.out u (by omega))
                subst hab
                have hbn : ((a : Int) != (a : Int)) = false := by simp
                clear ha hb HP
                go_wp2
                go_quiet (fail)
                go_wp2
                go_roundg (Ln - (t + 1) + 1)
                case rel => exact ⟨t + 1, _, rfl, by omega, rfl, hpre'.out, by omega⟩
                case measure => omega
              · have hfr : fr = true := HNo.out t htl (by rw [ha, hb]; exact hab)
                have HR := Lib.hid (HN.out hfr)
                have hbn : ((a : Int) != (b : Int)) = true := by simp; omega
                clear ha hb HP hfr hab
                go_wp2
                go_quiet (fail)
                go_wp2
                go_step3
                refine HQ'.out _ _ _ ⟨_, rfl, ?_⟩
                go_wp2
                go_step3
                go_wp2
                rw [Exit.noGoto_normal]
                go_wp2
                go_roundg (m - (s + 1) + 1)
                case rel => exact ⟨s + 1, HR.out _, by omega⟩
                case measure => omega
            · obtain rfl : t = Ln := by omega
              have hfr : fr = false := HYes.out (fun u hu => HP.out u hu)
              have HR := Lib.hid (HY.out hfr)
              clear hfr HP
              go_wp2
              go_step3
              refine HQ'.out _ _ _ ⟨_, rfl, ?_⟩
              go_wp2
              rw [Exit.noGoto_normal]
              go_wp2
              go_roundg (m - (s + 1) + 1)
              case rel => exact ⟨s + 1, HR.out _, by omega⟩
              case measure => omega
      · have hfr := hL.ne HCh.out HXh.out hs' hne
        have HR := Lib.hid (AsR.fresh ok HXh.out hs' hR hF2 hI hL hfr)
        have hneb : (C (X s) != llv) = true := by simpa using hne
        generalize hCx : C (X s) = cx at *
        generalize hXs : X s = x at *
        clear hR hF2 hI hL hfr hCx hXs hlm hne
        go_wp2
        refine wp_scope_fwd fun Q' hQ' => ?_
        have HQ' := Lib.hid hQ'
        clear hQ'
        go_wp2
        go_step3
        refine HQ'.out _ _ _ ⟨_, rfl, ?_⟩
        go_wp2
        go_step3
        go_wp2
        rw [Exit.noGoto_normal]
        go_wp2
        go_roundg (m - (s + 1) + 1)
        case rel => exact ⟨s + 1, HR.out, by omega⟩
        case measure => omega
    · obtain rfl : s = m := by omega
      have HR := Lib.hid hR
      have HI := Lib.hid hI
      have HF2 := Lib.hid hF2
      have HL := Lib.hid hL.id
      clear hR hF2 hI hL
      go_wp2
      go_ret
      rw [HL.out]
      exact ⟨rfl, _, _, _, HR.out, HF2.out, HI.out⟩
end Go.Proofs.YtpkgkppehefibaaGreatDoor

/- The walk of unmap_8_32. -/
namespace Go.Proofs.YtpkgkppehefibaaGreatDoor
open Go.RowKit Sa

set_option maxHeartbeats 2000000 in
set_option maxRecDepth 100000 in
theorem unmap8 (L : Lay) (ok : L.Ok) (w : World) (T : Nat → Nat) (A B F : Nat → Int) (d Rt X : Nat → Nat) (h : L.St .u8 w T A B F) (hF : FreqOK L T F) (h0 : T L.n = 0) (hX : Lst T L.n X) (hR : Red T L.n X Rt) (hd : IsSA Rt (lc T L.n 0) d)
    (hA : ∀ t, t < lc T L.n 0 → A t = (d t : Nat)) (hm2 : 2 ≤ lc T L.n 0) :
    Calls Tryz.prog 77 #[.slice (some ⟨L.bt, L.ot, none⟩) L.n L.ct, .slice (some ⟨L.bs, L.os, none⟩) L.n L.cs, .int .i64 (lc T L.n 0 : Nat)] w fun e w' =>
      e = .returned (.tuple #[]) ∧ ∃ A' B' F', L.Run .u8 w w' T A' B' F' ∧ FreqOK L T F' ∧ Front T L.n A' := by
  have hsm := ok.small
  have hcs := ok.cs
  have hnp : 0 < L.n := by
    rcases Nat.eq_zero_or_pos L.n with e | e
    · rw [e, lc_end (by omega)] at hm2; omega
    · exact e
  have hhalf := lc_half (T := T) (n := L.n) (i := 0) hnp
  have HS : UnR L .u8 T A w (.int .i64 (lc T L.n 0 : Nat)) (.int .u8 0) (.bool false) (.int .i64 ((L.n : Int) - 1)) w L.n :=
    ⟨A, B, F, Nat.le_refl _, rfl, by rw [h0]; rfl, by rw [sty_end (by omega)], by rw [lc_end (i := L.n) (by omega)]; rfl, Lay.Run.start h, hF, UnI.start A⟩
  have HSh := Lib.hid HS
  have H0 := Lib.hid h0
  have HX := Lib.hid hX
  have HRd := Lib.hid hR
  have HD := Lib.hid hd
  have HAd := Lib.hid hA
  have HH := Lib.hid hhalf
  clear h hF hA hX HS h0 hR hd
  obtain ⟨m, hm⟩ : ∃ m, m = lc T L.n 0 := ⟨_, rfl⟩
  rw [← hm] at hhalf hm2 ⊢
  rw [← hm] at HSh
  have HM := Lib.hid hm
  clear hm
  have e1 : L.n - (L.n - m) = m := by omega
  have e2 : ((L.n : Int) - (m : Int)).toNat = L.n - m := by omega
  have e3 : ¬ L.cs = L.n - m := by omega
  go_enter Tryz.func77, Tryz.ntmps77
  go_wp2
  clear e1 e2 e3
  go_loopg [7, 8, 10, 11] (L.n + 1) (fun gk jv c0 s i wr => ∃ k, UnR L .u8 T A w jv c0 s i wr k ∧ k < gk)
  case atStart => exact ⟨_, HSh.out, by omega⟩
  case round =>
    clear HSh
    obtain ⟨k, ⟨A2, B2, F2, hk, rfl, rfl, rfl, rfl, hR, hF2, hI⟩, hgk⟩ := hrel
    rw [← HM.out]
    rcases Nat.eq_zero_or_pos k with rfl | hpos
    · have hm1 : (((0 : Nat) : Int) - 1) = -1 := rfl
      rw [hm1]
      clear hm1
      have hU := UmI.start (d := d) hI HAd.out (by have := HH.out; omega)
      have HS2 : Hid (∃ s : Nat, s ≤ m ∧ (Value.int .i64 0 : Value) = .int .i64 s ∧ ∃ A B F, L.Run .u8 w wr T A B F ∧ FreqOK L T F ∧ UmI T L.n d s A) := ⟨0, by omega, rfl, _, _, _, hR, hF2, hU⟩
      clear hR hF2 hI hU hk hgk
      have hml : m ≤ L.n := by omega
      have hmc : m ≤ L.cs := by omega
      have e5 : ¬ L.n - m = 0 := by omega
      rw [← HM.out]
      go_wp2
      go_loopg [12] (m + 1) (fun gk i wr => ∃ s : Nat, s ≤ m ∧ i = .int .i64 s ∧ (∃ A B F, L.Run .u8 w wr T A B F ∧ FreqOK L T F ∧ UmI T L.n d s A) ∧ m - s < gk)
      case atStart =>
        obtain ⟨s, h1, h2, h3⟩ := HS2.out
        have h2' : s = 0 := by injection h2 with _ h2; omega
        subst h2'
        exact ⟨0, by omega, rfl, h3, by omega⟩
      case round =>
        clear HS2
        obtain ⟨s, hs, rfl, ⟨A3, B3, F3, hR, hF3, hU⟩, hgk⟩ := hrel
        by_cases hsm3 : s < m
        · have hs' : s < lc T L.n 0 := by rw [← HM.out]; exact hsm3
          have hds := HD.out.lt s hs'
          have hdm : d s < m := by rw [HM.out]; exact hds
          obtain ⟨x, hx, hxn, hU2⟩ := hU.step (by have := HH.out; omega) hs' hds
          have hc1 := hR.st.s s (by omega)
          have hz1 := hR.st.s' s (by omega)
          rw [hU.new s (Nat.le_refl _) hs'] at hc1
          have hc2 : wr.cell? ⟨L.bs, L.os + (L.n - m) + d s, none⟩ = some (.int .i32 (x : Nat)) := by
            rw [Nat.add_assoc, hR.st.s _ (by omega), HM.out, hx]
          have HR : Hid (∃ A B F, L.Run .u8 w (wr.setCell ⟨L.bs, L.os + s, none⟩ (.int .i32 (x : Nat))) T A B F ∧ FreqOK L T F ∧ UmI T L.n d (s + 1) A) := ⟨_, _, _, hR.setS ok (by omega) _, hF3, hU2⟩
          have hdsi : (d s : Int) < (m : Int) := by omega
          generalize d s = ds at *
          clear hR hF3 hU hU2 hx hds
          go_wp2
          go_roundg (m - (s + 1) + 1)
          case rel => exact ⟨s + 1, by omega, rfl, HR.out, by omega⟩
          case measure => omega
        · obtain rfl : s = m := by omega
          have HR := Lib.hid hR
          have HF3 := Lib.hid hF3
          have HU := Lib.hid hU
          clear hR hF3 hU
          go_wp2
          go_end0
          have hU := HU.out
          rw [HM.out] at hU
          exact ⟨rfl, _, _, _, HR.out, HF3.out, hU.final HX.out HRd.out HD.out⟩
    · obtain ⟨j, rfl⟩ : ∃ j, k = j + 1 := ⟨k - 1, by omega⟩
      have hi : (((j + 1 : Nat) : Int) - 1) = (j : Int) := by omega
      rw [hi]
      clear hi
      have hct := hR.st.t j (by omega)
      have hla := lc_anti (T := T) (n := L.n) (i := 0) (j := j + 1) (by omega)
      rw [← HM.out] at hla
      rcases Nat.lt_trichotomy (T j) (T (j + 1)) with hlt | heq | hgt
      · have HS1 := scan_lt H0.out (by omega) hlt
        have HR := Lib.hid (UnR.skip (by omega) HS1.2 hR hF2 hI HS1.1.symm)
        rw [← HM.out] at HR
        clear HS1 hR hF2 hI
        generalize sty T L.n (j + 1) = sj
        have hjb : m - lc T L.n (j + 1) ≤ L.n := by omega
        generalize m - lc T L.n (j + 1) = jb at *
        go_wp2
        go_roundg (j + 1)
        case rel => exact ⟨j, HR.out, by omega⟩
        case measure => omega
      · have HS1 := scan_eq (T := T) (n := L.n) (j := j) (by omega) heq
        have HR := Lib.hid (UnR.skip (by omega) HS1.2 hR hF2 hI HS1.1.symm)
        rw [← HM.out] at HR
        have hlt : ¬ T j < T (j + 1) := by omega
        have hgt : decide ((T (j + 1) : Int) < (T j : Int)) = false := by simp; omega
        have hgt' : decide (T (j + 1) < T j) = false := by simp; omega
        clear HS1 hR hF2 hI heq
        generalize sty T L.n (j + 1) = sj at *
        have hjb : m - lc T L.n (j + 1) ≤ L.n := by omega
        generalize m - lc T L.n (j + 1) = jb at *
        go_wp2
        go_roundg (j + 1)
        case rel => exact ⟨j, HR.out, by omega⟩
        case measure => omega
      · have HS1 := scan_gt (n := L.n) hgt
        have hlt : ¬ T j < T (j + 1) := by omega
        cases hsj : sty T L.n (j + 1) with
        | false =>
          have HR := Lib.hid (UnR.skip (by omega) (by rw [HS1.2, hsj]) hR hF2 hI HS1.1.symm)
          rw [← HM.out] at HR
          clear HS1 hR hF2 hI hsj
          have hjb : m - lc T L.n (j + 1) ≤ L.n := by omega
          generalize m - lc T L.n (j + 1) = jb at *
          go_wp2
          go_roundg (j + 1)
          case rel => exact ⟨j, HR.out, by omega⟩
          case measure => omega
        | true =>
          have hj1 := S_lt hsj
          obtain ⟨q, hq, hqm, hRel⟩ := UnR.ins ok (j := j) (by omega) (by rw [HS1.2, hsj]) HH.out hR hF2 hI
          have HR := Lib.hid hRel
          rw [← HM.out] at HR hq hqm
          have hcs2 : wr.cell? ⟨L.bs, L.os + (L.n - m) + q, none⟩ = some (.int .i32 (A2 (L.n - m + q))) := by rw [Nat.add_assoc]; exact hR.st.s _ (by omega)
          have hzs2 : wr.frozen? ⟨L.bs, L.os + (L.n - m) + q, none⟩ = false := by rw [Nat.add_assoc]; exact hR.st.s' _ (by omega)
          rw [hq]
          have hqi : ((q + 1 : Nat) : Int) = (q : Int) + 1 := by omega
          rw [hqi]
          clear HS1 hR hF2 hI hsj hRel hq hqi
          go_wp2
          go_roundg (j + 1)
          case rel => exact ⟨j, HR.out, by omega⟩
          case measure => omega
end Go.Proofs.YtpkgkppehefibaaGreatDoor

/- The walk of expand_8_32. -/
namespace Go.Proofs.YtpkgkppehefibaaGreatDoor
open Go.RowKit Sa

set_option maxHeartbeats 2000000 in
set_option maxRecDepth 100000 in
theorem expand8 (L : Lay) (ok : L.Ok) (hK : L.K = 256) (v : Value) (hv : L.fv v) (w : World) (T : Nat → Nat) (A B F : Nat → Int) (h : L.St .u8 w T A B F) (hT : ∀ i, i < L.n → T i < L.K) (hF : FreqOK L T F) (hA : Front T L.n A)
    (hm2 : 2 ≤ lc T L.n 0) :
    Calls Tryz.prog 78 #[.slice (some ⟨L.bt, L.ot, none⟩) L.n L.ct, v, .slice (some ⟨L.bb, L.ob, none⟩) 256 L.cb, .slice (some ⟨L.bs, L.os, none⟩) L.n L.cs, .int .i64 (lc T L.n 0 : Nat)] w fun e w' =>
      e = .returned (.tuple #[]) ∧ ∃ A' B' F', L.Run .u8 w w' T A' B' F' ∧ FreqOK L T F' ∧ Sa.Start T L.n (slt T L.n) (fun x => lms T L.n x = true) A' := by
  have H := Lib.hid (bmax8 L ok hK v hv w T A B F h hT hF)
  have hsm := ok.small
  have hcb := ok.cb
  have hks := ok.ksmall
  rw [hK] at hcb
  have hnp : 0 < L.n := by
    rcases Nat.eq_zero_or_pos L.n with e | e
    · rw [e, lc_end (by omega)] at hm2; omega
    · exact e
  have hhalf := lc_half (T := T) (n := L.n) (i := 0) hnp
  have HT := Lib.hid hT
  have HK := Lib.hid hK
  have hAv := hA.val
  have hY := hA.srt
  generalize hYe : (fun s => (A s).toNat) = Y at *
  have hYs : ∀ s, s < lc T L.n 0 → A s = (Y s : Nat) := fun s hs => by rw [← hYe]; exact hAv s hs
  have HYs := Lib.hid hYs
  have HY := Lib.hid hY
  clear hT hK hA h hv hF hAv hY hYe hYs
  obtain ⟨m, hm⟩ : ∃ m, m = lc T L.n 0 := ⟨_, rfl⟩
  rw [← hm] at hhalf hm2 ⊢
  have HM := Lib.hid hm
  clear hm
  go_enter Tryz.func78, Tryz.ntmps78
  go_wp2_with fail
  refine H.out.mono ?_
  rintro e w1 ⟨rfl, F1, hR1, hF1⟩
  clear H
  obtain ⟨z, rfl⟩ : ∃ z, m = z + 1 := ⟨m - 1, by omega⟩
  have hzl : z < lc T L.n 0 := by rw [← HM.out]; omega
  have hlm := HY.out.lms z hzl
  have hyl := lms_lt hlm
  have hTz := HT.out (Y z) (by omega)
  have hcz := hR1.st.s z (by omega)
  rw [HYs.out z hzl] at hcz
  have hcty := hR1.st.t (Y z) (by omega)
  have hcb1 := hR1.st.b (T (Y z)) hTz
  have hzb1 := hR1.st.b' (T (Y z)) hTz
  obtain ⟨hl1, hl2⟩ := loc_eq HY.out hzl
  have hfe : ∀ c, from_ T L.n Y (z + 1) c = 0 := fun c => by rw [HM.out]; exact from_end c
  rw [hfe, Nat.sub_zero] at hl1
  rw [hl1] at hcb1
  have hll := loc_lt HY.out hzl
  have HS : ExR Y L .u8 T w (.int .i64 (z : Nat)) (.int .i32 (Y z : Nat)) (.int .i32 (loc T L.n Y z : Nat)) (.int .i64 ((L.n : Int) - 1)) (w1.setCell ⟨L.bb, L.ob + T (Y z), none⟩ (.int .i32 (loc T L.n Y z : Nat))) L.n := by
    refine ⟨A, _, F1, z + 1, Nat.le_refl _, rfl, rfl, rfl, rfl, hR1.setB ok hTz _, hF1, ?_, fun c hc => ?_⟩
    · rw [HM.out]; exact ExI.start HY.out HYs.out
    · rw [Nat.add_sub_cancel, hl2 c]
      by_cases e : c = T (Y z)
      · subst e; rw [upd_same, upd_same]
      · rw [upd_other _ _ e, upd_other _ _ e, hfe]; rfl
  have HSh := Lib.hid HS
  have hz1 : ((z + 1 : Nat) : Int) = (z : Int) + 1 := by omega
  rw [hz1]
  have hlci : ((loc T L.n Y z + 1 : Nat) : Int) = (loc T L.n Y z : Int) + 1 := by omega
  rw [hlci] at hcb1
  have hT256 : T (Y z) < 256 := by have := HK.out; omega
  clear HS hR1 hF1 hl1 hl2 hfe hlm hzl hz1 hlci
  generalize loc T L.n Y z = lz at *
  generalize Y z = yz at *
  go_wp2
  go_loopg [10, 11, 13, 14] (L.n + 1) (fun gk xv sx bv i wr => ∃ k, ExR Y L .u8 T w xv sx bv i wr k ∧ k < gk)
  case atStart => exact ⟨_, HSh.out, by omega⟩
  case round =>
    clear HSh hcz hcty hcb1 hzb1 hll hTz hyl hm2 hT256
    obtain ⟨k, ⟨A2, B2, F2, y, hk, rfl, rfl, rfl, rfl, hR, hF2, hI, hB⟩, hgk⟩ := hrel
    rcases Nat.eq_zero_or_pos k with rfl | hpos
    · have hm1 : (((0 : Nat) : Int) - 1) = -1 := rfl
      rw [hm1]
      clear hm1
      have HR := Lib.hid hR
      have hy0 : y = 0 := by
        rcases Nat.eq_zero_or_pos y with e | e
        · exact e
        · have := hI.lt 0 e; omega
      have HI := Lib.hid hI
      have HF2 := Lib.hid hF2
      subst hy0
      clear hR hF2 hI hB
      generalize loc T L.n Y (0 - 1) = lz at *
      generalize Y (0 - 1) = yz at *
      go_wp2
      go_end0
      exact ⟨rfl, _, _, _, HR.out, HF2.out, HI.out.final HY.out⟩
    · obtain ⟨j, rfl⟩ : ∃ j, k = j + 1 := ⟨k - 1, by omega⟩
      have hi : (((j + 1 : Nat) : Int) - 1) = (j : Int) := by omega
      rw [hi]
      clear hi
      have hyl := hI.le
      have hmo := HM.out
      have hjn : j < L.n := by omega
      have hcj := hR.st.s j hjn
      have hzj := hR.st.s' j hjn
      have hll := loc_lt HY.out (s := y - 1) (by omega)
      have hyn := lms_lt (HY.out.lms (y - 1) (by omega))
      by_cases he : j = loc T L.n Y (y - 1)
      · have hyp := (hI.put_ HY.out he).1 (by omega)
        have hI2 := (hI.put_ HY.out he).2 hyp
        obtain ⟨y1, rfl⟩ : ∃ y1, y = y1 + 1 := ⟨y - 1, by omega⟩
        rw [Nat.add_sub_cancel] at hI2 hB he hll hyn ⊢
        cases y1 with
        | zero =>
          have HR : Hid (ExR Y L .u8 T w (.int .i64 ((0 : Nat) : Int)) (.int .i32 (Y 0 : Nat)) (.int .i32 (j : Nat)) (.int .i64 ((j : Int) - 1)) (wr.setCell ⟨L.bs, L.os + j, none⟩ (.int .i32 (Y 0 : Nat))) j) :=
            ⟨_, _, F2, 0, by omega, rfl, rfl, rfl, by rw [he], hR.setS ok hjn _, hF2, hI2, hB⟩
          rw [← he]
          rw [← he] at hll
          clear hR hF2 hI hB he hI2 hyp hyl hmo
          generalize Y 0 = yz at *
          go_wp2
          go_roundg (j + 1)
          case rel => exact ⟨j, HR.out, by omega⟩
          case measure => omega
        | succ z =>
          have hzl : z < lc T L.n 0 := by omega
          have hlm := HY.out.lms z hzl
          have hzn := lms_lt hlm
          have hTz := HT.out (Y z) (by omega)
          have hge := loc_ge HY.out (s := z + 1) (by omega)
          have hcz := hR.st.s z (by omega)
          rw [hI.un z (by omega)] at hcz
          have hct := hR.st.t (Y z) (by omega)
          have hcb2 := hR.st.b (T (Y z)) hTz
          have hzb2 := hR.st.b' (T (Y z)) hTz
          obtain ⟨hl1, hl2⟩ := loc_eq HY.out hzl
          rw [hB _ hTz, hl1] at hcb2
          have hlci : ((loc T L.n Y z + 1 : Nat) : Int) = (loc T L.n Y z : Int) + 1 := by omega
          rw [hlci] at hcb2
          have hllz := loc_lt HY.out (s := z) (by omega)
          have HR : Hid (ExR Y L .u8 T w (.int .i64 (z : Int)) (.int .i32 (Y z : Nat)) (.int .i32 (loc T L.n Y z : Nat)) (.int .i64 ((j : Int) - 1)) ((wr.setCell ⟨L.bs, L.os + j, none⟩ (.int .i32 (Y (z + 1) : Nat))).setCell ⟨L.bb, L.ob + T (Y z), none⟩ (.int .i32 (loc T L.n Y z : Nat))) j) := by
            refine ⟨_, _, F2, z + 1, by omega, rfl, rfl, rfl, rfl, (hR.setS ok hjn _).setB ok hTz _, hF2, hI2, fun c hc => ?_⟩
            rw [Nat.add_sub_cancel, hl2 c]
            by_cases e : c = T (Y z)
            · subst e; rw [upd_same, upd_same]
            · rw [upd_other _ _ e, upd_other _ _ e, hB c hc]
          have o1 : ∀ (W : World) (x : Value), (W.setCell ⟨L.bs, L.os + j, none⟩ x).cell? ⟨L.bs, L.os + z, none⟩ = W.cell? ⟨L.bs, L.os + z, none⟩ := fun W x => cell_setCell_ne _ _ _ _ _ _ (.inr (by omega))
          have o2 : ∀ (W : World) (x : Value), (W.setCell ⟨L.bs, L.os + j, none⟩ x).cell? ⟨L.bt, L.ot + Y z, none⟩ = W.cell? ⟨L.bt, L.ot + Y z, none⟩ := fun W x => cell_setCell_ne _ _ _ _ _ _ (ok.ts.symm.ne hjn (by omega))
          have o3 : ∀ (W : World) (x : Value), (W.setCell ⟨L.bs, L.os + j, none⟩ x).cell? ⟨L.bb, L.ob + T (Y z), none⟩ = W.cell? ⟨L.bb, L.ob + T (Y z), none⟩ := fun W x => cell_setCell_ne _ _ _ _ _ _ (ok.sb.ne hjn hTz)
          have hT256 : T (Y z) < 256 := by have := HK.out; omega
          have hzi : ((z + 1 : Nat) : Int) = (z : Int) + 1 := by omega
          rw [hzi, ← he]
          rw [← he] at hll
          have hzz : z < L.n := by omega
          clear hR hF2 hI hB he hI2 hyp hmo hl1 hl2 hlci hlm hzi hge hyl hzl
          generalize loc T L.n Y z = lz at *
          generalize Y z = yz at *
          generalize Y (z + 1) = yz1 at *
          go_wp2
          go_roundg (j + 1)
          case rel => exact ⟨j, HR.out, by omega⟩
          case measure => omega
      · have hI2 := hI.zero HY.out he
        have HR : Hid (ExR Y L .u8 T w (.int .i64 ((y - 1 : Nat) : Int)) (.int .i32 (Y (y - 1) : Nat)) (.int .i32 (loc T L.n Y (y - 1) : Nat)) (.int .i64 ((j : Int) - 1)) (wr.setCell ⟨L.bs, L.os + j, none⟩ (.int .i32 0)) j) :=
          ⟨_, _, F2, y, by omega, rfl, rfl, rfl, rfl, hR.setS ok hjn _, hF2, hI2, hB⟩
        have hy1 : y - 1 < L.n := by omega
        clear hR hF2 hI hB hI2 hmo hyl
        generalize loc T L.n Y (y - 1) = lz at *
        generalize Y (y - 1) = yz at *
        generalize y - 1 = y1 at *
        have hbn : ((j : Int) != (lz : Int)) = true := by simp; omega
        clear he
        go_wp2
        go_roundg (j + 1)
        case rel => exact ⟨j, HR.out, by omega⟩
        case measure => omega
end Go.Proofs.YtpkgkppehefibaaGreatDoor
