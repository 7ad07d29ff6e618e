/- impl.IndexCopyMarks, IndexExactMarks, IndexCopyLookup; the spec's. Printed by genWJ.py. -/
import Derived.Test.YtpkgkppehefibaaGreatDoorWH
import Derived.Test.YtpkgkppehefibaaGreatDoorWI
namespace Go.Proofs.YtpkgkppehefibaaGreatDoor
open Go.RowKit Sa

section
variable {A : Option Addr} {n c : Nat} {T : Nat → Nat} {B : Option Addr} {m e : Nat} {S : Nat → Nat} {O : Option Addr} {k0 e0 : Nat} {Z : Nat → Nat} {w : World}
set_option maxHeartbeats 1000000 in
set_option maxRecDepth 100000 in
theorem copymarksW (h : Bs w A n c T) (h' : Bs w B m e S) (hg : MaxOk w) :
    Calls Tryz.prog 11 #[.slice A n c, .slice B m e] w fun e w' => ∃ A' c', e = .returned (.tuple #[.slice A' n c', .bool true]) ∧ n ≤ c' ∧ Wr w' w.heap.size w'.heap.size A' n (lv (mrk T n S m)) ∧ Le w w' := by
  have hn := h.sm; have hm := h'.sm
  obtain ⟨W1, hW1⟩ : ∃ W1, W1 = w.alloc (.cells #[.slice none 0 0, .slice none 0 0, .slice none 0 0] 49) := ⟨_, rfl⟩
  have hb1 : Le w W1 := by rw [hW1]; exact (Below.refl _ _).alloc (Nat.le_refl _) _
  have hx1 : Xb W1 w.heap.size (.slice none 0 0) (.slice none 0 0) (.slice none 0 0) := by rw [hW1]; exact xb_new w
  have HRI := Lib.hid (readInto_any w.heap.size n c 0 0 w.heap.size A none (.slice none 0 0) T W1 hx1 (h.le hb1) (hg.le hb1) (Nat.le_refl _) hg.lt (ways_new _ _ _ _) (by omega))
  have HB1 := Lib.hid hb1; have HW1 := Lib.hid hW1; have HT := Lib.hid h.lt; have H' := Lib.hid h'
  clear h h' hg hb1 hx1 hW1
  go_enter Tryz.func11, Tryz.ntmps11
  go_wp2_with fail
  rw [← HW1.out]
  refine HRI.out.mono ?_
  rintro _ w2 ⟨rfl, hr2, hk2⟩
  have hl2 : Le w w2 := Below.trans HB1.out (hk2.below (fun _ h => h) HB1.out.size)
  have HLK := Lib.hid (rlookup_any w.heap.size n T B m e S (-1) w2 hr2 (H'.out.le hl2).rd HT.out H'.out.lt hm (by omega) (by omega))
  have HL2 := Lib.hid hl2
  clear hr2 hk2 hl2 HRI
  go_wp2_with fail
  refine HLK.out.mono ?_
  rintro _ w3 ⟨dd, r, q, k, A3, c3, rfl, hc3, hlk, hw3, hb3⟩
  have hkn : k ≤ n := hlk.kn
  have HLO := Lib.hid hlk; have HW3 := Lib.hid hw3
  have HB3 : Hid (Below w.heap.size w w3) := Lib.hid (Below.trans HL2.out (hb3.mono HL2.out.size))
  clear hc3 hlk hw3 hb3 HLK HL2
  go_wp2_with fail
  refine (marksOf_any n A3 k c3 _ _ (fun j => dd (r + j)) w3 hn (by omega) (Nat.le_refl _) HW3.out.toRd (fun j hj => HLO.out.sa.lt _ (by have := HLO.out.kle; have := HLO.out.fd.le; omega))).mono ?_
  rintro _ w4 ⟨A4, rfl, hw4, hb4⟩
  have H10 := Lib.hid hw4; have H11 := Lib.hid hb4
  clear hw4 hb4
  go_wp2
  go_ret2
  refine ⟨A4, n, rfl, Nat.le_refl _, (H10.out.mono HB3.out.size (Nat.le_refl _)).congr fun i hi => ?_, HB3.out.trans (H11.out.mono HB3.out.size)⟩
  unfold lv mrk among
  congr 1
  apply decide_eq_decide.2
  have hkq : k = q := by have := HLO.out.fd.k; rw [if_pos (.inl (by omega))] at this; exact this
  have hle := HLO.out.fd.le
  constructor
  · rintro ⟨j, h1, rfl⟩
    exact (HLO.out.fd.iff (r + j) (by omega)).2 ⟨by omega, by omega⟩
  · intro hs
    obtain ⟨j, h1, rfl⟩ := HLO.out.sa.onto i hi
    obtain ⟨h2, h3⟩ := (HLO.out.fd.iff j h1).1 hs
    exact ⟨j - r, by omega, by show dd (r + (j - r)) = dd j; rw [show r + (j - r) = j by omega]⟩
set_option maxHeartbeats 1000000 in
set_option maxRecDepth 100000 in
theorem exactmarksW (hz : Bs w O k0 e0 Z) (h : Bs w A n c T) (h' : Bs w B m e S) (hg : MaxOk w) :
    Calls Tryz.prog 18 #[.slice O k0 e0, .slice A n c, .slice B m e] w fun e w' => ∃ A' c', e = .returned (.tuple #[.slice A' n c', .bool true]) ∧ n ≤ c' ∧ Wr w' w.heap.size w'.heap.size A' n (lv (mrk T n S m)) ∧ Le w w' := by
  have hn := h.sm; have hm := h'.sm; have h0 := hz.sm
  have HE := Lib.hid (exactly_any O k0 e0 0 w.heap.size Z w h0 (Nat.le_refl _) hz.rd)
  have HS := Lib.hid hz.lt; have HD := Lib.hid h; have HG := Lib.hid hg; have HT := Lib.hid h.lt; have H' := Lib.hid h'
  clear h h' hz hg
  go_enter Tryz.func18, Tryz.ntmps18
  go_wp2_with fail
  refine HE.out.mono ?_
  rintro _ w1 ⟨rfl, hr1, hb1⟩
  have HN := Lib.hid (new_full (some ⟨w.heap.size, 0, none⟩) k0 k0 Z w1 h0 (Nat.le_refl _) ((hr1.rd0 k0 (Nat.le_refl _)).txt HS.out) (HG.out.le hb1))
  have HR1 := Lib.hid hr1; have HB1 := Lib.hid hb1
  clear hr1 hb1 HE
  go_wp2_with fail
  refine HN.out.mono ?_
  rintro _ wn ⟨d, rfl, -, -, hrg, hxn, hzn, hbn⟩
  have hln : Le w wn := Le.trans HB1.out hbn
  have HRI := Lib.hid (readInto_any w1.heap.size n c k0 k0 w.heap.size A (some ⟨w.heap.size, 0, none⟩) (.slice (some ⟨w1.heap.size + 1, 0, none⟩) k0 k0) T wn hxn (HD.out.le hln) (HG.out.le hln) HB1.out.size HG.out.lt (ways_exact HR1.out hbn hrg h0 hzn) (by omega))
  have HLN := Lib.hid hln
  clear hrg hxn hbn hln HN HR1
  go_wp2_with fail
  refine HRI.out.mono ?_
  rintro _ w2 ⟨rfl, hr2, hk2⟩
  have hl2 : Le w w2 := Below.trans HLN.out (hk2.below (fun _ h => h) HLN.out.size)
  have HLK := Lib.hid (rlookup_any w1.heap.size n T B m e S (-1) w2 hr2 (H'.out.le hl2).rd HT.out H'.out.lt hm (by omega) (by omega))
  have HL2 := Lib.hid hl2
  clear hr2 hk2 hl2 HRI
  go_wp2_with fail
  refine HLK.out.mono ?_
  rintro _ w3 ⟨dd, r, q, k, A3, c3, rfl, hc3, hlk, hw3, hb3⟩
  have hkn : k ≤ n := hlk.kn
  have HLO := Lib.hid hlk; have HW3 := Lib.hid hw3
  have HB3 : Hid (Below w.heap.size w w3) := Lib.hid (Below.trans HL2.out (hb3.mono HL2.out.size))
  clear hc3 hlk hw3 hb3 HLK HL2
  go_wp2_with fail
  refine (marksOf_any n A3 k c3 _ _ (fun j => dd (r + j)) w3 hn (by omega) (Nat.le_refl _) HW3.out.toRd (fun j hj => HLO.out.sa.lt _ (by have := HLO.out.kle; have := HLO.out.fd.le; omega))).mono ?_
  rintro _ w4 ⟨A4, rfl, hw4, hb4⟩
  have H10 := Lib.hid hw4; have H11 := Lib.hid hb4
  clear hw4 hb4
  go_wp2
  go_ret2
  refine ⟨A4, n, rfl, Nat.le_refl _, (H10.out.mono HB3.out.size (Nat.le_refl _)).congr fun i hi => ?_, HB3.out.trans (H11.out.mono HB3.out.size)⟩
  unfold lv mrk among
  congr 1
  apply decide_eq_decide.2
  have hkq : k = q := by have := HLO.out.fd.k; rw [if_pos (.inl (by omega))] at this; exact this
  have hle := HLO.out.fd.le
  constructor
  · rintro ⟨j, h1, rfl⟩
    exact (HLO.out.fd.iff (r + j) (by omega)).2 ⟨by omega, by omega⟩
  · intro hs
    obtain ⟨j, h1, rfl⟩ := HLO.out.sa.onto i hi
    obtain ⟨h2, h3⟩ := (HLO.out.fd.iff j h1).1 hs
    exact ⟨j - r, by omega, by show dd (r + (j - r)) = dd j; rw [show r + (j - r) = j by omega]⟩
set_option maxHeartbeats 1000000 in
set_option maxRecDepth 100000 in
theorem copylookup0 (h : Bs w A n c T) (h' : Bs w B m e S) (hg : MaxOk w) (N : Int) (hN1 : -9223372036854775808 ≤ N) (hN2 : N ≤ 9223372036854775807) :
    Calls Tryz.prog 24 #[.slice A n c, .slice B m e, .int .i64 N] w fun e w' => ∃ A' c', e = .returned (.tuple #[.slice A' (num T n S m N) c', .bool true]) ∧ HasSA T n ∧ Is w' A' (num T n S m N) c' (fun j => hit T n S m j) ∧ Le w w' := by
  have hn := h.sm; have hm := h'.sm
  obtain ⟨W1, hW1⟩ : ∃ W1, W1 = w.alloc (.cells #[.slice none 0 0, .slice none 0 0, .slice none 0 0] 49) := ⟨_, rfl⟩
  have hb1 : Le w W1 := by rw [hW1]; exact (Below.refl _ _).alloc (Nat.le_refl _) _
  have hx1 : Xb W1 w.heap.size (.slice none 0 0) (.slice none 0 0) (.slice none 0 0) := by rw [hW1]; exact xb_new w
  have HRI := Lib.hid (readInto_any w.heap.size n c 0 0 w.heap.size A none (.slice none 0 0) T W1 hx1 (h.le hb1) (hg.le hb1) (Nat.le_refl _) hg.lt (ways_new _ _ _ _) (by omega))
  have HB1 := Lib.hid hb1; have HW1 := Lib.hid hW1; have HT := Lib.hid h.lt; have H' := Lib.hid h'
  clear h h' hg hb1 hx1 hW1
  go_enter Tryz.func24, Tryz.ntmps24
  go_wp2_with fail
  rw [← HW1.out]
  refine HRI.out.mono ?_
  rintro _ w2 ⟨rfl, hr2, hk2⟩
  have hl2 : Le w w2 := Below.trans HB1.out (hk2.below (fun _ h => h) HB1.out.size)
  have HLK := Lib.hid (rlookup_any w.heap.size n T B m e S N w2 hr2 (H'.out.le hl2).rd HT.out H'.out.lt hm hN1 hN2)
  have HL2 := Lib.hid hl2
  clear hr2 hk2 hl2 HRI
  go_wp2_with fail
  refine HLK.out.mono ?_
  rintro _ w3 ⟨dd, r, q, k, A3, c3, rfl, hc3, hlk, hw3, hb3⟩
  have hkn : k ≤ n := hlk.kn
  have HLO := Lib.hid hlk; have HW3 := Lib.hid hw3
  have HB3 : Hid (Below w.heap.size w w3) := Lib.hid (Below.trans HL2.out (hb3.mono HL2.out.size))
  clear hc3 hlk hw3 hb3 HLK HL2
  go_wp2_with fail
  refine (listed_any A3 k c3 _ _ (fun j => (dd (r + j) : Nat)) w3 (by omega) HW3.out.toRd).mono ?_
  rintro _ w4 ⟨A4, c4, rfl, hc4, hw4, hb4⟩
  have HC4 := Lib.hid hc4; have H10 := Lib.hid hw4; have H11 := Lib.hid hb4
  clear hc4 hw4 hb4
  go_wp2
  go_ret2
  obtain ⟨k1, rfl, k3⟩ := HLO.out.is
  exact ⟨A4, c4, rfl, k1, ⟨H10.out.r0.congr fun i hi => by unfold iv; simp only [k3 i hi], HC4.out, by omega⟩, HB3.out.trans (H11.out.mono HB3.out.size)⟩
set_option maxRecDepth 100000 in
theorem speccopymarksW (h : Bs w A n c T) (h' : Bs w B m e S) :
    Calls Tryz.prog 9 #[.slice A n c, .slice B m e] w fun e w' => ∃ A' c', e = .returned (.tuple #[.slice A' n c', .bool true]) ∧ n ≤ c' ∧ Wr w' w.heap.size w'.heap.size A' n (lv (mrk T n S m)) ∧ Le w w' := by
  have HC := Lib.hid (specmarksW h h')
  clear h h'
  go_enter Tryz.func9, Tryz.ntmps9
  go_wp2_with fail
  refine HC.out.mono ?_
  rintro _ w1 ⟨A1, c1, rfl, hc1, hw1, hb1⟩
  have H1 := Lib.hid hc1; have HW := Lib.hid hw1; have HB := Lib.hid hb1
  clear hc1 hw1 hb1 HC
  go_wp2
  go_ret2
  exact ⟨A1, c1, rfl, H1.out, HW.out, HB.out⟩
set_option maxRecDepth 100000 in
theorem specexactmarksW (_hz : Bs w O k0 e0 Z) (h : Bs w A n c T) (h' : Bs w B m e S) :
    Calls Tryz.prog 17 #[.slice O k0 e0, .slice A n c, .slice B m e] w fun e w' => ∃ A' c', e = .returned (.tuple #[.slice A' n c', .bool true]) ∧ n ≤ c' ∧ Wr w' w.heap.size w'.heap.size A' n (lv (mrk T n S m)) ∧ Le w w' := by
  have HC := Lib.hid (specmarksW h h')
  clear h h'
  go_enter Tryz.func17, Tryz.ntmps17
  go_wp2_with fail
  refine HC.out.mono ?_
  rintro _ w1 ⟨A1, c1, rfl, hc1, hw1, hb1⟩
  have H1 := Lib.hid hc1; have HW := Lib.hid hw1; have HB := Lib.hid hb1
  clear hc1 hw1 hb1 HC
  go_wp2
  go_ret2
  exact ⟨A1, c1, rfl, H1.out, HW.out, HB.out⟩
theorem exactmarks0 (hz : Bs w O k0 e0 Z) (h : Bs w A n c T) (h' : Bs w B m e S) (hg : MaxOk w) :
    Calls Tryz.prog 18 #[.slice O k0 e0, .slice A n c, .slice B m e] w fun e w' => ∃ A' c', e = .returned (.tuple #[.slice A' n c', .bool true]) ∧ Ls w' A' n c' (mrk T n S m) ∧ Le w w' :=
  (exactmarksW hz h h' hg).mono fun _ _ ⟨A', c', h1, h2, h3, h4⟩ => ⟨A', c', h1, ⟨h3.toRd.mono (Nat.zero_le _) (Nat.le_refl _), h2, h.sm⟩, h4⟩
theorem exactbytes0 (hz : Bs w O k0 e0 Z) (h : Bs w A n c T) (hg : MaxOk w) :
    Calls Tryz.prog 20 #[.slice O k0 e0, .slice A n c] w fun e w' => ∃ A' c', e = .returned (.tuple #[.slice A' n c', .bool true]) ∧ Bs w' A' n c' T ∧ Le w w' :=
  (exactbytesW hz h hg).mono fun _ _ ⟨A', c', h1, h2, h3, h4⟩ => ⟨A', c', h1, ⟨h3.toRd.mono (Nat.zero_le _) (Nat.le_refl _), h.lt, h2, h.sm⟩, h4⟩
end
end Go.Proofs.YtpkgkppehefibaaGreatDoor
