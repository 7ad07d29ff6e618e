/- The walks of the functions over int32 (..32), first half. (Printed by merge.py out of parts.) -/
import Derived.Test.YtpkgkppehefibaaGreatDoorP3
/- The walks of freq_32. -/
namespace Go.Proofs.YtpkgkppehefibaaGreatDoor
open Go.RowKit Sa

/-- the loop of freq: what holds before char k is counted -/
def FreqR32 (T : Nat → Nat) (K bt ot n b o : Nat) (w : World) (i : Value) (wr : World) : Prop :=
  ∃ k : Nat, k ≤ n ∧ i = .int .i64 k ∧ Reg wr b o K (fun c => (cnt T k c : Nat)) ∧ Chg (inR b o K) w wr ∧ (∀ i, i < n → wr.cell? ⟨bt, ot + i, none⟩ = some (.int .i32 (T i : Nat)))

set_option maxRecDepth 100000 in
theorem freq32_nil (K : Nat) (hK0 : 0 < K) (T : Nat → Nat) (bt ot ct n b o c : Nat) (w : World) (f : Nat → Int) (hr : Reg w b o K f) (hn : n < 1073741824)
    (ht : ∀ i, i < n → w.cell? ⟨bt, ot + i, none⟩ = some (.int .i32 (T i : Nat))) (hT : ∀ i, i < n → T i < K) (ha : Apart bt ot n b o K) :
    Calls Tryz.prog 122 #[.slice (some ⟨bt, ot, none⟩) n ct, .slice none 0 0, .slice (some ⟨b, o, none⟩) K c] w fun e w' =>
      e = .returned (.slice (some ⟨b, o, none⟩) K c) ∧ Reg w' b o K (fun c => (cnt T n c : Nat)) ∧ Chg (inR b o K) w w' := by
  obtain ⟨w1, hclr, hr1, hc1⟩ := run_clear32 hr (by omega) c
  have ht1 : ∀ i, i < n → w1.cell? ⟨bt, ot + i, none⟩ = some (.int .i32 (T i : Nat)) := fun i hi => by
    rw [hc1.cell bt (ot + i) (cell_lt (ht i hi))]
    · exact ht i hi
    · rintro ⟨rfl, h1, h2⟩
      have := ha.ne hi (j := ot + i - o) (by omega)
      omega
  have hs : FreqR32 T K bt ot n b o w (.int .i64 0) w1 := ⟨0, by omega, rfl, hr1.congr (fun i _ => by simp [cnt, cn]), hc1, ht1⟩
  have HT := Lib.hid hT
  have HA := Lib.hid ha
  have hnn := fun w => run_neq_slice_nil_any (P := Tryz.prog) w 44 21 none 0 0 0 0 Tryz.underlying44
  have hen := fun w => Lib.run_eql_slice_nil (P := Tryz.prog) w 44 21 none 0 0 0 0 Tryz.underlying44
  clear hT ht ht1 hr1 hc1 hr ha
  go_enter Tryz.func122, Tryz.ntmps122
  go_wp2
  go_loopg [24] (n + 1) (fun gk i wr => FreqR32 T K bt ot n b o w i wr ∧ n - (intOf i).toNat < gk)
  case atStart => exact ⟨hs, by simp [intOf]⟩
  case round =>
    clear hs hclr
    obtain ⟨⟨k, hk, rfl, hrg, hch, htx⟩, hgk⟩ := hrel
    simp only [intOf, Int.toNat_natCast] at hgk
    by_cases hlt : k < n
    · have hTk := HT.out k hlt
      have hct := htx k hlt
      have hcf := hrg.c (T k) hTk
      have hzf := hrg.z (T k) hTk
      have hle := cnt_le T k (T k)
      have HR := Lib.hid hrg
      have HX := Lib.hid htx
      have HC := Lib.hid hch
      clear hrg htx hch
      go_wp2
      go_roundg (n - (k + 1) + 1)
      case rel =>
        refine ⟨⟨k + 1, by omega, by go_num, (HR.out.set hTk _).congr (fun c _ => cnt_upd T k c), HC.out.setCell (fun _ => inR_at hTk) _, fun i hi => ?_⟩, by simp only [intOf]; omega⟩
        rw [cell_setCell_ne _ _ _ _ _ _ (HA.out.symm.ne hTk hi)]
        exact HX.out i hi
      case measure => omega
    · obtain rfl : k = n := by omega
      have HR := Lib.hid hrg
      have HC := Lib.hid hch
      clear hrg htx hch
      go_wp2
      go_ret
      exact ⟨rfl, HR.out, HC.out⟩
set_option maxRecDepth 100000 in
theorem freq32_some (K : Nat) (hK0 : 0 < K) (T : Nat → Nat) (bt ot ct n b o c : Nat) (w : World) (f : Nat → Int) (hr : Reg w b o K f) (hneg : f 0 < 0) (vb : Value) (hn : n < 1073741824)
    (ht : ∀ i, i < n → w.cell? ⟨bt, ot + i, none⟩ = some (.int .i32 (T i : Nat))) (hT : ∀ i, i < n → T i < K) (ha : Apart bt ot n b o K) :
    Calls Tryz.prog 122 #[.slice (some ⟨bt, ot, none⟩) n ct, .slice (some ⟨b, o, none⟩) K c, vb] w fun e w' =>
      e = .returned (.slice (some ⟨b, o, none⟩) K c) ∧ Reg w' b o K (fun c => (cnt T n c : Nat)) ∧ Chg (inR b o K) w w' := by
  obtain ⟨w1, hclr, hr1, hc1⟩ := run_clear32 hr (by omega) c
  have ht1 : ∀ i, i < n → w1.cell? ⟨bt, ot + i, none⟩ = some (.int .i32 (T i : Nat)) := fun i hi => by
    rw [hc1.cell bt (ot + i) (cell_lt (ht i hi))]
    · exact ht i hi
    · rintro ⟨rfl, h1, h2⟩
      have := ha.ne hi (j := ot + i - o) (by omega)
      omega
  have hs : FreqR32 T K bt ot n b o w (.int .i64 0) w1 := ⟨0, by omega, rfl, hr1.congr (fun i _ => by simp [cnt, cn]), hc1, ht1⟩
  have HT := Lib.hid hT
  have HA := Lib.hid ha
  have hnn := fun w => run_neq_slice_nil_any (P := Tryz.prog) w 44 21 (some ⟨b, o, none⟩) K c 0 0 Tryz.underlying44
  have hen := fun w => Lib.run_eql_slice_nil (P := Tryz.prog) w 44 21 (some ⟨b, o, none⟩) K c 0 0 Tryz.underlying44
  have h0 := hr.c 0 (by omega)
  rw [Nat.add_zero] at h0
  clear hT ht ht1 hr1 hc1 hr ha
  go_enter Tryz.func122, Tryz.ntmps122
  go_wp2
  go_loopg [24] (n + 1) (fun gk i wr => FreqR32 T K bt ot n b o w i wr ∧ n - (intOf i).toNat < gk)
  case atStart => exact ⟨hs, by simp [intOf]⟩
  case round =>
    clear hs hclr
    obtain ⟨⟨k, hk, rfl, hrg, hch, htx⟩, hgk⟩ := hrel
    simp only [intOf, Int.toNat_natCast] at hgk
    by_cases hlt : k < n
    · have hTk := HT.out k hlt
      have hct := htx k hlt
      have hcf := hrg.c (T k) hTk
      have hzf := hrg.z (T k) hTk
      have hle := cnt_le T k (T k)
      have HR := Lib.hid hrg
      have HX := Lib.hid htx
      have HC := Lib.hid hch
      clear hrg htx hch
      go_wp2
      go_roundg (n - (k + 1) + 1)
      case rel =>
        refine ⟨⟨k + 1, by omega, by go_num, (HR.out.set hTk _).congr (fun c _ => cnt_upd T k c), HC.out.setCell (fun _ => inR_at hTk) _, fun i hi => ?_⟩, by simp only [intOf]; omega⟩
        rw [cell_setCell_ne _ _ _ _ _ _ (HA.out.symm.ne hTk hi)]
        exact HX.out i hi
      case measure => omega
    · obtain rfl : k = n := by omega
      have HR := Lib.hid hrg
      have HC := Lib.hid hch
      clear hrg htx hch
      go_wp2
      go_ret
      exact ⟨rfl, HR.out, HC.out⟩

set_option maxRecDepth 100000 in
theorem freq32_done (K : Nat) (hK0 : 0 < K) (vt vb : Value) (b o c : Nat) (w : World) (x : Int) (h0 : w.cell? ⟨b, o, none⟩ = some (.int .i32 x)) (hx : 0 ≤ x) :
    Calls Tryz.prog 122 #[vt, .slice (some ⟨b, o, none⟩) K c, vb] w fun e w' => e = .returned (.slice (some ⟨b, o, none⟩) K c) ∧ w = w' := by
  have hnn := fun w => run_neq_slice_nil_any (P := Tryz.prog) w 44 21 (some ⟨b, o, none⟩) K c 0 0 Tryz.underlying44
  go_enter Tryz.func122, Tryz.ntmps122
  go_wp2
  go_ret
  exact ⟨rfl, rfl⟩
end Go.Proofs.YtpkgkppehefibaaGreatDoor

/- The walks of bucketMin_32, bucketMax_32. -/
namespace Go.Proofs.YtpkgkppehefibaaGreatDoor
open Go.RowKit Sa

/-- the loops of bucketMin (d = 0) and bucketMax (d = 1), before bucket k is written -/
def BkR32 (T : Nat → Nat) (K n d b1 o1 b o : Nat) (w1 : World) (t i : Value) (wr : World) : Prop :=
  ∃ k : Nat, k ≤ K ∧ i = .int .i64 k ∧ t = .int .i32 (bmin T n k : Nat) ∧ (∃ g : Nat → Int, Reg wr b o K g ∧ ∀ j, j < k → g j = (bmin T n (j + d) : Nat)) ∧
    (∀ j, k ≤ j → j < K → wr.cell? ⟨b1, o1 + j, none⟩ = some (.int .i32 (cnt T n j : Nat))) ∧ Chg (inR b o K) w1 wr

theorem BkR32.step {T : Nat → Nat} {K n d b1 o1 b o k : Nat} {w1 wr : World} {g : Nat → Int} (hk : k < K) (hr : Reg wr b o K g) (hg : ∀ j, j < k → g j = (bmin T n (j + d) : Nat))
    (hf : ∀ j, k ≤ j → j < K → wr.cell? ⟨b1, o1 + j, none⟩ = some (.int .i32 (cnt T n j : Nat))) (hc : Chg (inR b o K) w1 wr) (hs : (b1 = b ∧ o1 = o) ∨ Apart b1 o1 K b o K) {v : Int} (hv : v = (bmin T n (k + d) : Nat)) :
    (∃ g : Nat → Int, Reg (wr.setCell ⟨b, o + k, none⟩ (.int .i32 v)) b o K g ∧ ∀ j, j < k + 1 → g j = (bmin T n (j + d) : Nat)) ∧
    (∀ j, k + 1 ≤ j → j < K → (wr.setCell ⟨b, o + k, none⟩ (.int .i32 v)).cell? ⟨b1, o1 + j, none⟩ = some (.int .i32 (cnt T n j : Nat))) ∧ Chg (inR b o K) w1 (wr.setCell ⟨b, o + k, none⟩ (.int .i32 v)) := by
  refine ⟨⟨_, hr.set hk v, fun j hj => ?_⟩, fun j h1 h2 => ?_, hc.setCell (fun _ => inR_at hk) _⟩
  · by_cases e : j = k
    · subst e; rw [upd_same]; exact hv
    · rw [upd_other _ _ e]; exact hg j (by omega)
  · rw [cell_setCell_ne]
    · exact hf j (by omega) h2
    · rcases hs with ⟨rfl, rfl⟩ | hs
      · exact .inr (by omega)
      · exact hs.symm.ne hk h2

set_option maxRecDepth 100000 in
theorem bmax32_core (K : Nat) (hKs : K < 1073741824) (T : Nat → Nat) (n : Nat) (vt vf : Value) (b1 o1 c1 b o c : Nat) (w : World) (Q : World → Prop)
    (hcall : Calls Tryz.prog 122 #[vt, vf, .slice (some ⟨b, o, none⟩) K c] w fun e w' => e = .returned (.slice (some ⟨b1, o1, none⟩) K c1) ∧ Q w')
    (hQ : ∀ w', Q w' → Reg w' b1 o1 K (fun c => (cnt T n c : Nat)) ∧ ∃ f, Reg w' b o K f) (hs : (b1 = b ∧ o1 = o) ∨ Apart b1 o1 K b o K) (hn : n < 1073741824) :
    Calls Tryz.prog 118 #[vt, vf, .slice (some ⟨b, o, none⟩) K c] w fun e w'' =>
      e = .returned (.tuple #[]) ∧ ∃ w', Q w' ∧ Chg (inR b o K) w' w'' ∧ Reg w'' b o K (fun c => (bmin T n (c + 1) : Nat)) := by
  have H := Lib.hid hcall
  have HQ := Lib.hid hQ
  have HS := Lib.hid hs
  clear hcall hQ hs
  go_enter Tryz.func118, Tryz.ntmps118
  go_wp2_with fail
  refine H.out.mono ?_
  rintro e w1 ⟨rfl, hq⟩
  have HQ1 := Lib.hid hq
  clear hq H
  go_wp2
  go_loopg [6, 15] (K + 1) (fun gk t i wr => BkR32 T K n 1 b1 o1 b o w1 t i wr ∧ K - (intOf i).toNat < gk)
  case atStart =>
    obtain ⟨h1, f, h2⟩ := HQ.out _ HQ1.out
    exact ⟨⟨0, by omega, rfl, by rw [bmin_zero]; rfl, ⟨f, h2, fun j hj => by omega⟩, fun j _ hj => h1.c j hj, Chg.refl _ _⟩, by simp [intOf]⟩
  case round =>
    obtain ⟨⟨k, hk, rfl, rfl, ⟨g, hrg, hg⟩, hf, hch⟩, hgk⟩ := hrel
    simp only [intOf, Int.toNat_natCast] at hgk
    have hbn := bmin_le (T := T) (n := n) k
    by_cases hlt : k < K
    · have hbs := bmin_cnt T n k
      have hbn1 := bmin_le (T := T) (n := n) (k + 1)
      have hcf := hf k (Nat.le_refl _) hlt
      have hcb := hrg.c k hlt
      have hzb := hrg.z k hlt
      have HB := Lib.hid hbs
      have HR := Lib.hid (BkR32.step (d := 1) hlt hrg hg hf hch HS.out (v := (bmin T n k : Int) + (cnt T n k : Int)) (by omega))
      have hle : bmin T n k + cnt T n k ≤ n := by omega
      clear hrg hg hf hch hbs
      go_wp2
      go_roundg (K - (k + 1) + 1)
      case rel =>
        have HR1 := HR.out
        refine ⟨⟨k + 1, by omega, by go_num, by rw [HB.out]; go_num, HR1.1, HR1.2.1, HR1.2.2⟩, by simp only [intOf]; omega⟩
      case measure => omega
    · obtain rfl : k = K := by omega
      have HR := Lib.hid (hrg.congr (g := fun c => (bmin T n (c + 1) : Nat)) hg)
      have HC := Lib.hid hch
      clear hrg hg hf hch
      go_wp2
      go_end0
      exact ⟨rfl, w1, HQ1.out, HC.out, HR.out⟩
set_option maxRecDepth 100000 in
theorem bmin32_core (K : Nat) (hKs : K < 1073741824) (T : Nat → Nat) (n : Nat) (vt vf : Value) (b1 o1 c1 b o c : Nat) (w : World) (Q : World → Prop)
    (hcall : Calls Tryz.prog 122 #[vt, vf, .slice (some ⟨b, o, none⟩) K c] w fun e w' => e = .returned (.slice (some ⟨b1, o1, none⟩) K c1) ∧ Q w')
    (hQ : ∀ w', Q w' → Reg w' b1 o1 K (fun c => (cnt T n c : Nat)) ∧ ∃ f, Reg w' b o K f) (hs : (b1 = b ∧ o1 = o) ∨ Apart b1 o1 K b o K) (hn : n < 1073741824) :
    Calls Tryz.prog 119 #[vt, vf, .slice (some ⟨b, o, none⟩) K c] w fun e w'' =>
      e = .returned (.tuple #[]) ∧ ∃ w', Q w' ∧ Chg (inR b o K) w' w'' ∧ Reg w'' b o K (fun c => (bmin T n c : Nat)) := by
  have H := Lib.hid hcall
  have HQ := Lib.hid hQ
  have HS := Lib.hid hs
  clear hcall hQ hs
  go_enter Tryz.func119, Tryz.ntmps119
  go_wp2_with fail
  refine H.out.mono ?_
  rintro e w1 ⟨rfl, hq⟩
  have HQ1 := Lib.hid hq
  clear hq H
  go_wp2
  go_loopg [6, 15] (K + 1) (fun gk t i wr => BkR32 T K n 0 b1 o1 b o w1 t i wr ∧ K - (intOf i).toNat < gk)
  case atStart =>
    obtain ⟨h1, f, h2⟩ := HQ.out _ HQ1.out
    exact ⟨⟨0, by omega, rfl, by rw [bmin_zero]; rfl, ⟨f, h2, fun j hj => by omega⟩, fun j _ hj => h1.c j hj, Chg.refl _ _⟩, by simp [intOf]⟩
  case round =>
    obtain ⟨⟨k, hk, rfl, rfl, ⟨g, hrg, hg⟩, hf, hch⟩, hgk⟩ := hrel
    simp only [intOf, Int.toNat_natCast] at hgk
    have hbn := bmin_le (T := T) (n := n) k
    by_cases hlt : k < K
    · have hbs := bmin_cnt T n k
      have hbn1 := bmin_le (T := T) (n := n) (k + 1)
      have hcf := hf k (Nat.le_refl _) hlt
      have hcb := hrg.c k hlt
      have hzb := hrg.z k hlt
      have HB := Lib.hid hbs
      have HR := Lib.hid (BkR32.step (d := 0) hlt hrg hg hf hch HS.out (v := (bmin T n k : Int)) rfl)
      have hle : bmin T n k + cnt T n k ≤ n := by omega
      clear hrg hg hf hch hbs
      go_wp2
      go_roundg (K - (k + 1) + 1)
      case rel =>
        have HR1 := HR.out
        refine ⟨⟨k + 1, by omega, by go_num, by rw [HB.out]; go_num, HR1.1, HR1.2.1, HR1.2.2⟩, by simp only [intOf]; omega⟩
      case measure => omega
    · obtain rfl : k = K := by omega
      have HR := Lib.hid (hrg.congr (g := fun c => (bmin T n c : Nat)) hg)
      have HC := Lib.hid hch
      clear hrg hg hf hch
      go_wp2
      go_end0
      exact ⟨rfl, w1, HQ1.out, HC.out, HR.out⟩
end Go.Proofs.YtpkgkppehefibaaGreatDoor

/- bucketMin_32, bucketMax_32 over a layout. -/
namespace Go.Proofs.YtpkgkppehefibaaGreatDoor
open Go.RowKit Sa

theorem bmax32 (L : Lay) (ok : L.Ok) (v : Value) (hv : L.fv v) (w : World) (T : Nat → Nat) (A B F : Nat → Int) (h : L.St .i32 w T A B F) (hT : ∀ i, i < L.n → T i < L.K) (hF : FreqOK L T F) :
    Calls Tryz.prog 118 #[.slice (some ⟨L.bt, L.ot, none⟩) L.n L.ct, v, .slice (some ⟨L.bb, L.ob, none⟩) L.K L.cb] w fun e w' =>
      e = .returned (.tuple #[]) ∧ ∃ F', L.Run .i32 w w' T A (fun c => (bmin T L.n (c + 1) : Nat)) F' ∧ FreqOK L T F' := by
  have hb := h.regB
  have hf := h.regF
  have hcb := ok.cb
  have hcf := ok.cf
  have hk0 := ok.k0
  have atb := ok.tb
  have atf := ok.tf
  have abf := ok.bf
  
  rcases hv with ⟨hl, rfl⟩ | ⟨hl, rfl⟩
  · refine (bmax32_core L.K ok.ksmall T L.n _ _ L.bb L.ob L.cb L.bb L.ob L.cb w (fun w' => Reg w' L.bb L.ob L.K (fun c => (cnt T L.n c : Nat)) ∧ Chg (inR L.bb L.ob L.K) w w') (freq32_nil L.K hk0 T L.bt L.ot L.ct L.n L.bb L.ob L.cb w B hb ok.small h.t hT atb)
      (fun w' h' => ⟨h'.1, _, h'.1⟩) (.inl ⟨rfl, rfl⟩) ok.small).mono ?_
    rintro e w2 ⟨rfl, w1, ⟨h1, h2⟩, h3, h4⟩
    refine ⟨rfl, F, h.rebuild ok (h2.trans h3) (fun b o hs => .inl (by exact hs)) (by exact h4) ⟨fun i hi => by omega, fun i hi => by omega⟩, hF⟩
  · 
    rw [hl] at hf atf abf hcf
    have keepF : ∀ w1 w2, Chg (inR L.bb L.ob L.K) w1 w2 → ∀ G, Reg w1 L.bf L.of_ L.K G → Reg w2 L.bf L.of_ L.lf G := by
      intro w1 w2 hc G hG
      rw [hl]
      exact hG.keep hc (fun i hi => abf.symm.out hi)
    
    by_cases hneg : F 0 < 0
    · refine (bmax32_core L.K ok.ksmall T L.n _ _ L.bf L.of_ L.cf L.bb L.ob L.cb w (fun w' => Reg w' L.bf L.of_ L.K (fun c => (cnt T L.n c : Nat)) ∧ Chg (inR L.bf L.of_ L.K) w w') (freq32_some L.K hk0 T L.bt L.ot L.ct L.n L.bf L.of_ L.cf w F hf hneg _ ok.small h.t hT atf)
        (fun w' h' => ⟨h'.1, B, hb.keep h'.2 (fun i hi => abf.out hi)⟩) (.inr abf.symm) ok.small).mono ?_
      rintro e w2 ⟨rfl, w1, ⟨h1, h2⟩, h3, h4⟩
      have c1 : Chg (fun b o => inR L.bb L.ob L.K b o ∨ inR L.bf L.of_ L.lf b o) w w2 :=
        (h2.mono fun b o _ hs => .inr (by rw [hl]; exact hs)).trans (h3.mono fun b o _ hs => .inl (by exact hs))
      exact ⟨rfl, _, h.rebuild ok c1 (fun b o hs => hs) (by exact h4) (keepF _ _ h3 _ h1), .inr (.inr fun c _ => rfl)⟩
    · have hF' : ∀ c, c < L.K → F c = (cnt T L.n c : Nat) := by
        rcases hF with hF | hF | hF
        · omega
        · omega
        · exact hF
      have h0 := hf.c 0 (by omega)
      rw [Nat.add_zero] at h0
      have hfc : Reg w L.bf L.of_ L.K (fun c => (cnt T L.n c : Nat)) := hf.congr (fun i hi => hF' i (by omega))
      refine (bmax32_core L.K ok.ksmall T L.n _ _ L.bf L.of_ L.cf L.bb L.ob L.cb w (fun w' => w = w') (freq32_done L.K hk0 _ _ L.bf L.of_ L.cf w (F 0) h0 (by omega))
        (fun w' h' => by subst h'; exact ⟨hfc, B, hb⟩) (.inr abf.symm) ok.small).mono ?_
      rintro e w2 ⟨rfl, w1, rfl, h3, h4⟩
      exact ⟨rfl, _, h.rebuild ok h3 (fun b o hs => .inl (by exact hs)) (by exact h4) (keepF _ _ h3 _ hfc), .inr (.inr fun c _ => rfl)⟩

theorem bmin32 (L : Lay) (ok : L.Ok) (v : Value) (hv : L.fv v) (w : World) (T : Nat → Nat) (A B F : Nat → Int) (h : L.St .i32 w T A B F) (hT : ∀ i, i < L.n → T i < L.K) (hF : FreqOK L T F) :
    Calls Tryz.prog 119 #[.slice (some ⟨L.bt, L.ot, none⟩) L.n L.ct, v, .slice (some ⟨L.bb, L.ob, none⟩) L.K L.cb] w fun e w' =>
      e = .returned (.tuple #[]) ∧ ∃ F', L.Run .i32 w w' T A (fun c => (bmin T L.n c : Nat)) F' ∧ FreqOK L T F' := by
  have hb := h.regB
  have hf := h.regF
  have hcb := ok.cb
  have hcf := ok.cf
  have hk0 := ok.k0
  have atb := ok.tb
  have atf := ok.tf
  have abf := ok.bf
  
  rcases hv with ⟨hl, rfl⟩ | ⟨hl, rfl⟩
  · refine (bmin32_core L.K ok.ksmall T L.n _ _ L.bb L.ob L.cb L.bb L.ob L.cb w (fun w' => Reg w' L.bb L.ob L.K (fun c => (cnt T L.n c : Nat)) ∧ Chg (inR L.bb L.ob L.K) w w') (freq32_nil L.K hk0 T L.bt L.ot L.ct L.n L.bb L.ob L.cb w B hb ok.small h.t hT atb)
      (fun w' h' => ⟨h'.1, _, h'.1⟩) (.inl ⟨rfl, rfl⟩) ok.small).mono ?_
    rintro e w2 ⟨rfl, w1, ⟨h1, h2⟩, h3, h4⟩
    refine ⟨rfl, F, h.rebuild ok (h2.trans h3) (fun b o hs => .inl (by exact hs)) (by exact h4) ⟨fun i hi => by omega, fun i hi => by omega⟩, hF⟩
  · 
    rw [hl] at hf atf abf hcf
    have keepF : ∀ w1 w2, Chg (inR L.bb L.ob L.K) w1 w2 → ∀ G, Reg w1 L.bf L.of_ L.K G → Reg w2 L.bf L.of_ L.lf G := by
      intro w1 w2 hc G hG
      rw [hl]
      exact hG.keep hc (fun i hi => abf.symm.out hi)
    
    by_cases hneg : F 0 < 0
    · refine (bmin32_core L.K ok.ksmall T L.n _ _ L.bf L.of_ L.cf L.bb L.ob L.cb w (fun w' => Reg w' L.bf L.of_ L.K (fun c => (cnt T L.n c : Nat)) ∧ Chg (inR L.bf L.of_ L.K) w w') (freq32_some L.K hk0 T L.bt L.ot L.ct L.n L.bf L.of_ L.cf w F hf hneg _ ok.small h.t hT atf)
        (fun w' h' => ⟨h'.1, B, hb.keep h'.2 (fun i hi => abf.out hi)⟩) (.inr abf.symm) ok.small).mono ?_
      rintro e w2 ⟨rfl, w1, ⟨h1, h2⟩, h3, h4⟩
      have c1 : Chg (fun b o => inR L.bb L.ob L.K b o ∨ inR L.bf L.of_ L.lf b o) w w2 :=
        (h2.mono fun b o _ hs => .inr (by rw [hl]; exact hs)).trans (h3.mono fun b o _ hs => .inl (by exact hs))
      exact ⟨rfl, _, h.rebuild ok c1 (fun b o hs => hs) (by exact h4) (keepF _ _ h3 _ h1), .inr (.inr fun c _ => rfl)⟩
    · have hF' : ∀ c, c < L.K → F c = (cnt T L.n c : Nat) := by
        rcases hF with hF | hF | hF
        · omega
        · omega
        · exact hF
      have h0 := hf.c 0 (by omega)
      rw [Nat.add_zero] at h0
      have hfc : Reg w L.bf L.of_ L.K (fun c => (cnt T L.n c : Nat)) := hf.congr (fun i hi => hF' i (by omega))
      refine (bmin32_core L.K ok.ksmall T L.n _ _ L.bf L.of_ L.cf L.bb L.ob L.cb w (fun w' => w = w') (freq32_done L.K hk0 _ _ L.bf L.of_ L.cf w (F 0) h0 (by omega))
        (fun w' h' => by subst h'; exact ⟨hfc, B, hb⟩) (.inr abf.symm) ok.small).mono ?_
      rintro e w2 ⟨rfl, w1, rfl, h3, h4⟩
      exact ⟨rfl, _, h.rebuild ok h3 (fun b o hs => .inl (by exact hs)) (by exact h4) (keepF _ _ h3 _ hfc), .inr (.inr fun c _ => rfl)⟩
end Go.Proofs.YtpkgkppehefibaaGreatDoor

/- The walk of placeLMS_32. -/
namespace Go.Proofs.YtpkgkppehefibaaGreatDoor
open Go.RowKit Sa

set_option maxHeartbeats 1000000 in
set_option maxRecDepth 100000 in
theorem place32 (L : Lay) (ok : L.Ok) (v : Value) (hv : L.fv v) (w : World) (T : Nat → Nat) (A B F : Nat → Int) (h : L.St .i32 w T A B F) (hT : ∀ i, i < L.n → T i < L.K) (h0 : T L.n = 0) (hF : FreqOK L T F)
    (hA : ∀ p, p < L.n → A p = 0) :
    Calls Tryz.prog 99 #[.slice (some ⟨L.bt, L.ot, none⟩) L.n L.ct, .slice (some ⟨L.bs, L.os, none⟩) L.n L.cs, v, .slice (some ⟨L.bb, L.ob, none⟩) L.K L.cb] w fun e w' =>
      e = .returned (.int .i64 (lc T L.n 0 : Nat)) ∧ ∃ A' B' F', L.Run .i32 w w' T A' B' F' ∧ FreqOK L T F' ∧ PlPost L T A' := by
  have H := Lib.hid (bmax32 L ok v hv w T A B F h hT hF)
  have hsm := ok.small
  have hcb := ok.cb
  have hks := ok.ksmall
  
  have HT := Lib.hid hT
  have HK := Lib.hid ok.k0
  have HA := Lib.hid hA
  have H0 := Lib.hid h0
  have HF := Lib.hid hF
  clear hT hA h0 h hv hF
  go_enter Tryz.func99, Tryz.ntmps99
  go_wp2_with fail
  refine H.out.mono ?_
  rintro e w1 ⟨rfl, F1, hR1, hF1⟩
  have HS := Lib.hid (PlR.start hR1 hF1 HA.out H0.out)
  clear H hR1 hF1 HF
  go_wp2
  go_loopg [9, 10, 11, 13, 14] (L.n + 1) (fun gk nl lb c0 s i wr => PlR L .i32 T w nl lb c0 s i wr ∧ (intOf i + 1).toNat < gk)
  case atStart => exact ⟨HS.out, by simp only [intOf]; omega⟩
  case round =>
    clear HS
    obtain ⟨⟨k, A2, B2, F2, b2, x2, hk, rfl, rfl, rfl, rfl, rfl, hx, hR, hF2, hP, hB⟩, hgk⟩ := hrel
    simp only [intOf] at hgk
    rcases Nat.eq_zero_or_pos k with rfl | hpos
    · have hm1 : (((0 : Nat) : Int) - 1) = -1 := rfl
      rw [hm1]
      clear hm1
      by_cases h2 : 2 ≤ lc T L.n 0
      · obtain ⟨q, rfl, hq, hAq⟩ : ∃ q : Nat, x2 = q ∧ q < L.n ∧ A2 q = (nx T L.n 0 : Nat) := by
          rcases hx with hx | hx
          · omega
          · exact hx
        have hc := hR.st.s q hq
        have hz := hR.st.s' q hq
        have HR := Lib.hid (hR.setS ok hq 0)
        have HP := Lib.hid (hP.subs hq hAq (fun e => by have := (nx_zero_iff (T := T) (n := L.n) 0).1 e; omega))
        have HF2 := Lib.hid hF2
        clear hx hR hF2 hP hB hAq
        go_wp2
        go_ret
        exact ⟨rfl, _, _, _, HR.out, HF2.out, fun h => by omega, fun _ => HP.out⟩
      · have HR := Lib.hid hR
        have HP := Lib.hid (hP.full (by omega))
        have HF2 := Lib.hid hF2
        clear hx hR hF2 hP hB
        go_wp2
        go_ret
        exact ⟨rfl, _, _, _, HR.out, HF2.out, fun _ => HP.out, fun h => by omega⟩
    · obtain ⟨j, rfl⟩ : ∃ j, k = j + 1 := ⟨k - 1, by omega⟩
      have hi : (((j + 1 : Nat) : Int) - 1) = (j : Int) := by omega
      rw [hi]
      clear hi
      have hcl := lc_half (T := T) (n := L.n) (i := j) (by omega)
      have hcs := lc_anti (T := T) (n := L.n) (i := j) (j := j + 1) (by omega)
      have hlc : lc T L.n (j + 1) < 1073741824 := by omega
      clear hcl hcs
      have hct := hR.st.t j (by omega)
      rcases Nat.lt_trichotomy (T j) (T (j + 1)) with hlt | heq | hgt
      · have HS1 := scan_lt H0.out (by omega) hlt
        have HR := Lib.hid (PlR.skip (by omega) HS1.2 hx hR hF2 hP hB HS1.1.symm)
        clear HS1 hx hR hF2 hP hB
        generalize sty T L.n (j + 1) = sj
        go_wp2
        go_roundg (j + 1)
        case rel => exact ⟨HR.out, by simp only [intOf]; omega⟩
        case measure => omega
      · have HS1 := scan_eq (T := T) (n := L.n) (j := j) (by omega) heq
        have HR := Lib.hid (PlR.skip (by omega) HS1.2 hx hR hF2 hP hB HS1.1.symm)
        have hlt : ¬ T j < T (j + 1) := by omega
        have hgt : decide ((T (j + 1) : Int) < (T j : Int)) = false := by simp; omega
        have hgt' : decide (T (j + 1) < T j) = false := by simp; omega
        clear HS1 hx hR hF2 hP hB heq
        generalize sty T L.n (j + 1) = sj at *
        go_wp2
        go_roundg (j + 1)
        case rel => exact ⟨HR.out, by simp only [intOf]; omega⟩
        case measure => omega
      · have HS1 := scan_gt (n := L.n) hgt
        have hlt : ¬ T j < T (j + 1) := by omega
        cases hsj : sty T L.n (j + 1) with
        | false =>
          have HR := Lib.hid (PlR.skip (by omega) (by rw [HS1.2, hsj]) hx hR hF2 hP hB HS1.1.symm)
          clear HS1 hx hR hF2 hP hB hsj
          go_wp2
          go_roundg (j + 1)
          case rel => exact ⟨HR.out, by simp only [intOf]; omega⟩
          case measure => omega
        | true =>
          have hj1 := S_lt hsj
          have hTj := HT.out (j + 1) (by omega)
          obtain ⟨q, hBq, hq, hRel⟩ := PlR.ins ok (by omega) (by rw [HS1.2, hsj]) hTj hR hF2 hP hB
          have HR := Lib.hid hRel
          have hcb2 := hR.st.b (T (j + 1)) hTj
          have hzb2 := hR.st.b' (T (j + 1)) hTj
          have hcs2 := hR.st.s q hq
          have hzs2 := hR.st.s' q hq
          rw [hBq] at hcb2
          have hother : ∀ (W : World) (u : Value), (W.setCell ⟨L.bb, L.ob + T (j + 1), none⟩ u).cell? ⟨L.bs, L.os + q, none⟩ = W.cell? ⟨L.bs, L.os + q, none⟩ := fun W u => cell_setCell_ne _ _ _ _ _ _ (ok.sb.symm.ne hTj hq)
          
          clear HS1 hx hR hF2 hP hB hsj hRel hBq
          go_wp2
          go_roundg (j + 1)
          case rel => exact ⟨HR.out, by simp only [intOf]; omega⟩
          case measure => omega
end Go.Proofs.YtpkgkppehefibaaGreatDoor

/- The walk of induceSubL_32. -/
namespace Go.Proofs.YtpkgkppehefibaaGreatDoor
open Go.RowKit Sa

set_option maxHeartbeats 2000000 in
set_option maxRecDepth 100000 in
theorem subL32 (L : Lay) (ok : L.Ok) (v : Value) (hv : L.fv v) (w : World) (T : Nat → Nat) (A B F : Nat → Int) (h : L.St .i32 w T A B F) (hT : ∀ i, i < L.n → T i < L.K) (hF : FreqOK L T F) (hn : 2 ≤ L.n)
    (hf : nx T L.n 0 ≠ 0) (hA : Sa.Start T L.n (rl T L.n) (fun x => lms T L.n x = true ∧ nx T L.n 0 < x) A) :
    Calls Tryz.prog 100 #[.slice (some ⟨L.bt, L.ot, none⟩) L.n L.ct, .slice (some ⟨L.bs, L.os, none⟩) L.n L.cs, v, .slice (some ⟨L.bb, L.ob, none⟩) L.K L.cb] w fun e w' =>
      e = .returned (.tuple #[]) ∧ ∃ A' B' F' b', L.Run .i32 w w' T A' B' F' ∧ FreqOK L T F' ∧ SubL T L.n L.n A' b' := by
  have H := Lib.hid (bmin32 L ok v hv w T A B F h hT hF)
  obtain ⟨m, hm⟩ : ∃ m, L.n = m + 2 := ⟨L.n - 2, by omega⟩
  have hsm := ok.small
  have hcb := ok.cb
  have hks := ok.ksmall
  
  have HT := Lib.hid hT
  
  have HA := Lib.hid (SubL.first hA hf)
  have HM := Lib.hid hm
  have Hf := Lib.hid hf
  clear hT hA h hv hF hm hn hf
  go_enter Tryz.func100, Tryz.ntmps100
  go_wp2_with fail
  refine H.out.mono ?_
  rintro e w1 ⟨rfl, F1, hR1, hF1⟩
  have hA1 := HA.out
  have hmn := HM.out
  have e1 : (L.n : Int) - 1 = (m : Int) + 1 := by omega
  have e2 : L.n - 1 = m + 1 := by omega
  rw [e2] at hA1
  have hT1 := HT.out (m + 1) (by omega)
  have hc0 := hR1.st.t m (by omega)
  have hc1 := hR1.st.t (m + 1) (by omega)
  have hcb1 := hR1.st.b (T (m + 1)) hT1
  have hcs1 := hR1.st.s _ hA1.1
  have hzs1 := hR1.st.s' _ hA1.1
  have hbl := hA1.1
  have HR := Lib.hid (fun nq => LsR.first (P := SubL T L.n) ok hT1 hA1.1 (hR1.drewN nq) hF1 hA1.2)
  have hmb : m + 2 ≤ L.n := by omega
  have hmi : (m : Int) < (L.n : Int) := by omega
  have hmi1 : (m : Int) + 1 < (L.n : Int) := by omega
  have ht0 : ((m : Int)).toNat = m := by omega
  have ht1 : ((m : Int) + 1).toNat = m + 1 := by omega
  
  clear H HA hA1 hR1 hF1 hmn e2
  by_cases hlt : T m < T (m + 1)
  all_goals
    go_wp2
    go_quiet (fail)
    go_wp2
    go_loopg [11, 12, 13] (L.n + 1) (fun gk cb bv i wr => LsR (SubL T L.n) L .i32 T w cb bv i wr ∧ L.n - (intOf i).toNat < gk)
    case atStart =>
      have h1 := HR.out nq
      first | rw [mk_lt hlt] at h1 | rw [mk_ge hlt] at h1
      exact ⟨h1, by simp only [intOf]; omega⟩
    case round =>
      clear HR hcb1 hcs1 hzs1 hc0 hc1 hlt hbl hmb hmi hmi1 ht0 ht1 hT1 e1 
      obtain ⟨⟨k, A2, B2, F2, b2, cB, hk, rfl, rfl, hcB, rfl, hB, hbn, hR, hF2, hP⟩, hgk⟩ := hrel
      simp only [intOf, Int.toNat_natCast] at hgk
      
      by_cases hkn : k < L.n
      · have hcs := hR.st.s k hkn
        have hzs := hR.st.s' k hkn
        rcases Int.lt_trichotomy (A2 k) 0 with hneg | hze | hpos
        · obtain ⟨x, hx, hx0, hxn, hP2⟩ := hP.neg Hf.out hkn hneg
          rw [hx] at hcs
          have hxi : (0 : Int) < (x : Int) := by omega
          have hxi2 : (x : Int) < (L.n : Int) := by omega
          have hne : (-(x : Int) == 0) = false := by simp; omega
          have HR := Lib.hid (LsR.skip (P := SubL T L.n) hkn hcB hB hbn (hR.setS ok hkn x) hF2 hP2)
          clear hB hbn hR hF2 hP hP2 hx hneg
          go_wp2
          go_roundg (L.n - (k + 1) + 1)
          case rel => exact ⟨HR.out, by simp only [intOf]; omega⟩
          case measure => omega
        · have HR := Lib.hid (LsR.skip (P := SubL T L.n) hkn hcB hB hbn hR hF2 (hP.zero Hf.out hkn hze))
          rw [hze] at hcs
          clear hB hbn hR hF2 hP hze
          go_wp2
          go_roundg (L.n - (k + 1) + 1)
          case rel => exact ⟨HR.out, by simp only [intOf]; omega⟩
          case measure => omega
        · obtain ⟨u1, hu, hu1, hun, hbu, hku, hP2⟩ := hP.pos Hf.out hkn hpos
          obtain ⟨u, rfl⟩ : ∃ u, u1 = u + 1 := ⟨u1 - 1, by omega⟩
          have hu' : A2 k = (u : Int) + 1 + 1 := by omega
          rw [hu'] at hcs
          have hTu := HT.out (u + 1) (by omega)
          have hct0 := hR.st.t u (by omega)
          have hct1 := hR.st.t (u + 1) (by omega)
          have hcsb := hR.st.s (b2 (T (u + 1))) hbu
          have hzsb := hR.st.s' (b2 (T (u + 1))) hbu
          have hun2 : (u : Int) + 2 < (L.n : Int) := by omega
          
          have o1 : ∀ (W : World) (x : Value), (W.setCell ⟨L.bs, L.os + k, none⟩ x).cell? ⟨L.bt, L.ot + u, none⟩ = W.cell? ⟨L.bt, L.ot + u, none⟩ := fun W x => cell_setCell_ne _ _ _ _ _ _ (ok.ts.symm.ne hkn (by omega))
          have o2 : ∀ (W : World) (x : Value), (W.setCell ⟨L.bs, L.os + k, none⟩ x).cell? ⟨L.bt, L.ot + (u + 1), none⟩ = W.cell? ⟨L.bt, L.ot + (u + 1), none⟩ := fun W x => cell_setCell_ne _ _ _ _ _ _ (ok.ts.symm.ne hkn (by omega))
          have o3 : ∀ (W : World) (x : Value), (W.setCell ⟨L.bs, L.os + k, none⟩ x).cell? ⟨L.bs, L.os + b2 (T (u + 1)), none⟩ = W.cell? ⟨L.bs, L.os + b2 (T (u + 1)), none⟩ := fun W x => cell_setCell_ne _ _ _ _ _ _ (.inr (by omega))
          have htu : ((u : Int)).toNat = u := by omega
          have htu1 : ((u : Int) + 1).toNat = u + 1 := by omega
          by_cases hcc : cB = T (u + 1)
          · subst hcc
            have HR := Lib.hid (fun nq => LsR.same (P := SubL T L.n) ok hkn hcB hB hbu ((hR.setS ok hkn 0).drewN nq) hF2 hP2)
            clear hB hbn hR hF2 hP hP2 hu hu' hpos
            by_cases hlu : T u < T (u + 1)
            all_goals
              go_wp2
              go_quiet (fail)
              go_wp2
              go_roundg (L.n - (k + 1) + 1)
              case rel =>
                have h1 := HR.out nq
                first | rw [mk_lt hlu] at h1 | rw [mk_ge hlu] at h1
                exact ⟨h1, by simp only [intOf]; omega⟩
              case measure => omega
          · have hcbu := hR.st.b (T (u + 1)) hTu
            rw [hB _ hTu (fun e => hcc e.symm)] at hcbu
            have hcbc := hR.st.b cB hcB
            have hzbc := hR.st.b' cB hcB
            have o4 : ∀ (W : World) (x : Value), (W.setCell ⟨L.bs, L.os + k, none⟩ x).cell? ⟨L.bb, L.ob + T (u + 1), none⟩ = W.cell? ⟨L.bb, L.ob + T (u + 1), none⟩ := fun W x => cell_setCell_ne _ _ _ _ _ _ (ok.sb.ne hkn hTu)
            have o5 : ∀ (W : World) (x : Value), (W.setCell ⟨L.bs, L.os + k, none⟩ x).cell? ⟨L.bb, L.ob + cB, none⟩ = W.cell? ⟨L.bb, L.ob + cB, none⟩ := fun W x => cell_setCell_ne _ _ _ _ _ _ (ok.sb.ne hkn hcB)
            have o6 : ∀ (W : World) (x : Value), (W.setCell ⟨L.bb, L.ob + cB, none⟩ x).cell? ⟨L.bb, L.ob + T (u + 1), none⟩ = W.cell? ⟨L.bb, L.ob + T (u + 1), none⟩ := fun W x => cell_setCell_ne _ _ _ _ _ _ (.inr (by omega))
            have o7 : ∀ (W : World) (x : Value), (W.setCell ⟨L.bb, L.ob + cB, none⟩ x).cell? ⟨L.bs, L.os + b2 (T (u + 1)), none⟩ = W.cell? ⟨L.bs, L.os + b2 (T (u + 1)), none⟩ := fun W x => cell_setCell_ne _ _ _ _ _ _ (ok.sb.symm.ne hcB hbu)
            have hbne : ((cB : Int) != (T (u + 1) : Int)) = true := by simp; omega
            have HR := Lib.hid (fun nq => LsR.diff (P := SubL T L.n) ok hkn hcB hB hTu hcc hbu ((hR.setS ok hkn 0).drewN nq) hF2 hP2)
            clear hB hR hF2 hP hP2 hu hu' hpos
            by_cases hlu : T u < T (u + 1)
            all_goals
              go_wp2
              go_quiet (fail)
              go_wp2
              go_roundg (L.n - (k + 1) + 1)
              case rel =>
                have h1 := HR.out nq
                first | rw [mk_lt hlu] at h1 | rw [mk_ge hlu] at h1
                exact ⟨h1, by simp only [intOf]; omega⟩
              case measure => omega
      · obtain rfl : k = L.n := by omega
        have HR := Lib.hid hR
        have HP := Lib.hid hP
        have HF2 := Lib.hid hF2
        clear hB hbn hR hF2 hP
        go_wp2
        go_end0
        exact ⟨rfl, _, _, _, _, HR.out, HF2.out, HP.out⟩
end Go.Proofs.YtpkgkppehefibaaGreatDoor

/- The walk of induceSubS_32. -/
namespace Go.Proofs.YtpkgkppehefibaaGreatDoor
open Go.RowKit Sa

/-- induceSubS: the relation with the place where LMS positions are collected -/
def SsR32 (L : Lay) (T : Nat → Nat) (w0 : World) (cb bv tp i : Value) (wr : World) : Prop :=
  ∃ top : Nat, tp = .int .i64 top ∧ top ≤ L.n ∧ RsR (fun k A b => SubS T L.n k top A b) L .i32 T w0 cb bv i wr

set_option maxHeartbeats 2000000 in
set_option maxRecDepth 100000 in
theorem subS32 (L : Lay) (ok : L.Ok) (v : Value) (hv : L.fv v) (w : World) (T : Nat → Nat) (A B F : Nat → Int) (b0 : Nat → Nat) (h : L.St .i32 w T A B F) (hT : ∀ i, i < L.n → T i < L.K) (hF : FreqOK L T F) (hn : 2 ≤ L.n)
    (hf : nx T L.n 0 ≠ 0) (hA : SubL T L.n L.n A b0) :
    Calls Tryz.prog 101 #[.slice (some ⟨L.bt, L.ot, none⟩) L.n L.ct, .slice (some ⟨L.bs, L.os, none⟩) L.n L.cs, v, .slice (some ⟨L.bb, L.ob, none⟩) L.K L.cb] w fun e w' =>
      e = .returned (.tuple #[]) ∧ ∃ A' B' F', L.Run .i32 w w' T A' B' F' ∧ FreqOK L T F' ∧ Subs T L.n (lc T L.n 0) A' := by
  have H := Lib.hid (bmax32 L ok v hv w T A B F h hT hF)
  have hsm := ok.small
  have hcb := ok.cb
  have hk0 := ok.k0
  have hks := ok.ksmall
  
  have HT := Lib.hid hT
  
  have HA := Lib.hid (SubS.first hA)
  have Hf := Lib.hid hf
  clear hT hA h hv hF hf
  go_enter Tryz.func101, Tryz.ntmps101
  go_wp2_with fail
  refine H.out.mono ?_
  rintro e w1 ⟨rfl, F1, hR1, hF1⟩
  have hcb1 := hR1.st.b 0 hk0
  rw [Nat.add_zero] at hcb1
  have HR := Lib.hid (RsR.first (P := fun k A b => SubS T L.n k L.n A b) ok hR1 hF1 HA.out)
  clear H HA hR1 hF1
  go_wp2
  go_loopg [8, 9, 10, 11] (L.n + 1) (fun gk cb bv tp i wr => SsR32 L T w cb bv tp i wr ∧ (intOf i + 1).toNat < gk)
  case atStart => exact ⟨⟨L.n, rfl, Nat.le_refl _, HR.out⟩, by simp only [intOf]; omega⟩
  case round =>
    clear HR hcb1
    obtain ⟨⟨top, rfl, htn, k, A2, B2, F2, b2, cB, hk, rfl, rfl, hcB, rfl, hB, hbn, hR, hF2, hP⟩, hgk⟩ := hrel
    simp only [intOf] at hgk
    
    rcases Nat.eq_zero_or_pos k with rfl | hkp
    · have hm1 : (((0 : Nat) : Int) - 1) = -1 := rfl
      rw [hm1]
      clear hm1
      have HR := Lib.hid hR
      have HP := Lib.hid (hP.final (by omega))
      have HF2 := Lib.hid hF2
      clear hB hbn hR hF2 hP
      go_wp2
      go_end0
      exact ⟨rfl, _, _, _, HR.out, HF2.out, HP.out.2.2⟩
    · obtain ⟨k, rfl⟩ : ∃ j, k = j + 1 := ⟨k - 1, by omega⟩
      have hi : (((k + 1 : Nat) : Int) - 1) = (k : Int) := by omega
      rw [hi]
      clear hi
      have hkn : k < L.n := by omega
      have hcs := hR.st.s k hkn
      have hzs := hR.st.s' k hkn
      rcases Int.lt_trichotomy (A2 k) 0 with hneg | hze | hpos
      · obtain ⟨x, hx, hx0, hxn, hit, _, hP2⟩ := hP.neg Hf.out hkn hneg
        obtain ⟨tq, rfl⟩ : ∃ tq, top = tq + 1 := ⟨top - 1, by omega⟩
        rw [Nat.add_sub_cancel] at hP2
        rw [hx] at hcs
        have hxi : (0 : Int) < (x : Int) := by omega
        have hxi2 : (x : Int) < (L.n : Int) := by omega
        have hne : (-(x : Int) == 0) = false := by simp; omega
        have htq : tq < L.n := by omega
        have hct := (hR.setS ok hkn 0).st.s tq htq
        have hzt := hR.st.s' tq htq
        have hto : ((tq + 1 : Nat) : Int) = (tq : Int) + 1 := by omega
        rw [hto]
        have HR := Lib.hid (RsR.skip (P := fun k A b => SubS T L.n k tq A b) hkn hcB hB hbn ((hR.setS ok hkn 0).setS ok htq x) hF2 hP2)
        clear hB hbn hR hF2 hP hP2 hx hneg hto
        go_wp2
        go_roundg (k + 1)
        case rel => exact ⟨⟨tq, rfl, by omega, HR.out⟩, by simp only [intOf]; omega⟩
        case measure => omega
      · have HR := Lib.hid (RsR.skip (P := fun k A b => SubS T L.n k top A b) hkn hcB hB hbn hR hF2 (hP.zero Hf.out hkn hze))
        rw [hze] at hcs
        clear hB hbn hR hF2 hP hze
        go_wp2
        go_roundg (k + 1)
        case rel => exact ⟨⟨top, rfl, htn, HR.out⟩, by simp only [intOf]; omega⟩
        case measure => omega
      · obtain ⟨u1, hu, hu1, hun, hb0, hbu, hku, hP2⟩ := hP.pos Hf.out hkn hpos
        obtain ⟨u, rfl⟩ : ∃ u, u1 = u + 1 := ⟨u1 - 1, by omega⟩
        obtain ⟨q, hq⟩ : ∃ q, b2 (T (u + 1)) = q + 1 := ⟨b2 (T (u + 1)) - 1, by omega⟩
        have hqn : q < L.n := by omega
        have hqk : q ≠ k := by omega
        have hu' : A2 k = (u : Int) + 1 + 1 := by omega
        rw [hu'] at hcs
        have hTu := HT.out (u + 1) (by omega)
        have hct0 := hR.st.t u (by omega)
        have hct1 := hR.st.t (u + 1) (by omega)
        have hcsb := hR.st.s q hqn
        have hzsb := hR.st.s' q hqn
        have hun2 : (u : Int) + 2 < (L.n : Int) := by omega
        
        have o1 : ∀ (W : World) (x : Value), (W.setCell ⟨L.bs, L.os + k, none⟩ x).cell? ⟨L.bt, L.ot + u, none⟩ = W.cell? ⟨L.bt, L.ot + u, none⟩ := fun W x => cell_setCell_ne _ _ _ _ _ _ (ok.ts.symm.ne hkn (by omega))
        have o2 : ∀ (W : World) (x : Value), (W.setCell ⟨L.bs, L.os + k, none⟩ x).cell? ⟨L.bt, L.ot + (u + 1), none⟩ = W.cell? ⟨L.bt, L.ot + (u + 1), none⟩ := fun W x => cell_setCell_ne _ _ _ _ _ _ (ok.ts.symm.ne hkn (by omega))
        have o3 : ∀ (W : World) (x : Value), (W.setCell ⟨L.bs, L.os + k, none⟩ x).cell? ⟨L.bs, L.os + q, none⟩ = W.cell? ⟨L.bs, L.os + q, none⟩ := fun W x => cell_setCell_ne _ _ _ _ _ _ (.inr (by omega))
        have htu : ((u : Int)).toNat = u := by omega
        have htu1 : ((u : Int) + 1).toNat = u + 1 := by omega
        by_cases hcc : cB = T (u + 1)
        · subst hcc
          have HR := Lib.hid (RsR.same (P := fun k A b => SubS T L.n k top A b) ok hkn hcB hB hq hqn (hR.setS ok hkn 0) hF2 hP2)
          have hbq : (b2 (T (u + 1)) : Int) = (q : Int) + 1 := by omega
          rw [hbq]
          clear hB hbn hR hF2 hP hP2 hu hu' hpos hbq hq hb0 hbu hku
          by_cases hlu : T (u + 1) < T u
          all_goals
            go_wp2
            go_roundg (k + 1)
            case rel =>
              have h1 := HR.out
              first | rw [mkS_gt hlu] at h1 | rw [mkS_le hlu] at h1
              exact ⟨⟨top, rfl, htn, h1⟩, by simp only [intOf]; omega⟩
            case measure => omega
        · have hcbu := hR.st.b (T (u + 1)) hTu
          rw [hB _ hTu (fun e => hcc e.symm), hq] at hcbu
          have hcq : ((q + 1 : Nat) : Int) = (q : Int) + 1 := by omega
          rw [hcq] at hcbu
          have hcbc := hR.st.b cB hcB
          have hzbc := hR.st.b' cB hcB
          have o4 : ∀ (W : World) (x : Value), (W.setCell ⟨L.bs, L.os + k, none⟩ x).cell? ⟨L.bb, L.ob + T (u + 1), none⟩ = W.cell? ⟨L.bb, L.ob + T (u + 1), none⟩ := fun W x => cell_setCell_ne _ _ _ _ _ _ (ok.sb.ne hkn hTu)
          have o5 : ∀ (W : World) (x : Value), (W.setCell ⟨L.bs, L.os + k, none⟩ x).cell? ⟨L.bb, L.ob + cB, none⟩ = W.cell? ⟨L.bb, L.ob + cB, none⟩ := fun W x => cell_setCell_ne _ _ _ _ _ _ (ok.sb.ne hkn hcB)
          have o6 : ∀ (W : World) (x : Value), (W.setCell ⟨L.bb, L.ob + cB, none⟩ x).cell? ⟨L.bb, L.ob + T (u + 1), none⟩ = W.cell? ⟨L.bb, L.ob + T (u + 1), none⟩ := fun W x => cell_setCell_ne _ _ _ _ _ _ (.inr (by omega))
          have o7 : ∀ (W : World) (x : Value), (W.setCell ⟨L.bb, L.ob + cB, none⟩ x).cell? ⟨L.bs, L.os + q, none⟩ = W.cell? ⟨L.bs, L.os + q, none⟩ := fun W x => cell_setCell_ne _ _ _ _ _ _ (ok.sb.symm.ne hcB hqn)
          have hbne : ((cB : Int) != (T (u + 1) : Int)) = true := by simp; omega
          have HR := Lib.hid (RsR.diff (P := fun k A b => SubS T L.n k top A b) ok hkn hcB hB hTu hcc hq hqn (hR.setS ok hkn 0) hF2 hP2)
          clear hB hR hF2 hP hP2 hu hu' hpos hcq hq hb0 hbu hku
          by_cases hlu : T (u + 1) < T u
          all_goals
            go_wp2
            go_roundg (k + 1)
            case rel =>
              have h1 := HR.out
              first | rw [mkS_gt hlu] at h1 | rw [mkS_le hlu] at h1
              exact ⟨⟨top, rfl, htn, h1⟩, by simp only [intOf]; omega⟩
            case measure => omega
end Go.Proofs.YtpkgkppehefibaaGreatDoor
