/- The law FnExactIndexBytes: its walk. -/
import Derived.Test.YtncoihekfmponaaDoorE2
namespace Go.Proofs.YtncoihekfmponaaDoor
open Go.RowKit Sa

theorem below_drewN (B : Nat) (w : World) (k : Nat) : Below B w (w.drewN k) := ⟨rfl, rfl, rfl, Nat.le_refl _, fun _ _ => rfl⟩

set_option maxHeartbeats 4000000 in
set_option maxRecDepth 100000 in
theorem exactbytes_walk (A : Option Addr) (n c : Nat) (T : Nat → Nat) (w : World) (h : Rd w 0 w.heap.size A n (bv T)) (hT : ∀ i, i < n → T i < 256) (_hc : n ≤ c) (hg : MaxOk w) (hn63 : n < 9223372036854775808) :
    Calls Tryd.prog 3 #[.slice A n c] w fun e w' => e = .returned (.bool true) ∧ Below w.heap.size w w' := by
  by_cases hbig : 1048576 < n
  · go_enter Tryd.func3, Tryd.ntmps3
    have hb1 : (1048576 : Int) < (n : Int) := by omega
    go_wp2
    go_ret
    exact ⟨rfl, Below.refl _ _⟩
  have hn : n < 1073741824 := by omega
  have hb1 : ¬ (1048576 : Int) < (n : Int) := by omega
  have H := Lib.hid h; have HT := Lib.hid hT; have HG := Lib.hid hg
  clear h hT hg
  go_enter Tryd.func3, Tryd.ntmps3
  go_wp2_with fail
  refine (tobyte_any A n c _ _ T w hn (Nat.le_refl _) H.out).mono ?_
  rintro e w1 ⟨A1, c1, rfl, hc1, hw1, hb1'⟩
  have B1 := Lib.hid hb1'; have W1 := Lib.hid hw1
  clear hc1 hw1 hb1'
  go_wp2_with fail
  refine (ibytes_any A1 n c1 _ _ T w1 hn (Nat.le_refl _) W1.out.toRd).mono ?_
  rintro e w2 ⟨A2, c2, rfl, hc2, hw2, hb2'⟩
  have B2 : Hid (Below w.heap.size w w2) := B1.out.trans (hb2'.mono B1.out.size)
  have W2 : Hid (Wr w2 w1.heap.size w2.heap.size A2 n (bv T)) := hw2
  clear hc2 hw2 hb2'
  go_wp2_with fail
  refine (tobyte_any A n c _ _ T w2 hn B2.out.size (H.out.below B2.out (Nat.le_refl _))).mono ?_
  rintro e w3 ⟨A3, c3, rfl, hc3, hw3, hb3'⟩
  have B3 : Hid (Below w2.heap.size w2 w3) := hb3'
  have W3 : Hid (Wr w3 w2.heap.size w3.heap.size A3 n (bv T)) := hw3
  clear hc3 hw3 hb3'
  go_wp2_with fail
  refine (implbytes_any A3 n c3 _ _ T w3 hn (Nat.le_refl _) W3.out.toRd HT.out ((HG.out.below B2.out HG.out.lt).below B3.out (Nat.lt_of_lt_of_le HG.out.lt B2.out.size))).mono ?_
  rintro e w4 ⟨A4, c4, rfl, hc4, hw4, hb4'⟩
  have B4 : Hid (Below w3.heap.size w3 w4) := hb4'
  have W4 : Hid (Wr w4 w3.heap.size w4.heap.size A4 n (bv T)) := hw4
  clear hc4 hw4 hb4'
  have S3 : Hid (w2.heap.size ≤ w3.heap.size) := B3.out.size
  have S4 : Hid (w3.heap.size ≤ w4.heap.size) := B4.out.size
  have R2 : Hid (Wr w4 w1.heap.size w2.heap.size A2 n (bv T)) := (W2.out.below B3.out (Nat.le_refl _)).below B4.out S3.out
  have R3 : Hid (Wr w4 w2.heap.size w3.heap.size A3 n (bv T)) := W3.out.below B4.out (Nat.le_refl _)
  have BB : Hid (Below w.heap.size w w4) := (B2.out.trans (B3.out.mono B2.out.size)).trans (B4.out.mono (Nat.le_trans B2.out.size S3.out))
  go_wp2_with fail
  refine (eqbyte_any A4 A2 n c4 c2 _ _ _ _ T T w4 hn W4.out.toRd R2.out.toRd (fun _ _ => rfl)).mono ?_
  rintro e w5 ⟨rfl, q5, rfl⟩
  go_wp2_with fail
  refine (tobyte_any A n c _ _ T (w4.drewN q5) hn BB.out.size ((H.out.below BB.out (Nat.le_refl _)).drewN q5)).mono ?_
  rintro e w6 ⟨A6, c6, rfl, hc6, hw6, hb6'⟩
  have B6 : Hid (Below w4.heap.size w4 w6) := (below_drewN _ w4 q5).trans hb6'
  have W6 : Hid (Wr w6 w4.heap.size w6.heap.size A6 n (bv T)) := hw6
  have S6 : Hid (w4.heap.size ≤ w6.heap.size) := B6.out.size
  clear hc6 hw6 hb6'
  go_wp2_with fail
  refine (eqbyte_any A3 A6 n c3 c6 _ _ _ _ T T w6 hn (R3.out.toRd.below B6.out S4.out) W6.out.toRd (fun _ _ => rfl)).mono ?_
  rintro e w7 ⟨rfl, q7, rfl⟩
  have B7 : Hid (Below w4.heap.size w4 (w6.drewN q7)) := B6.out.trans (below_drewN _ w6 q7)
  have V3 : Hid (Wr (w6.drewN q7) w2.heap.size w3.heap.size A3 n (bv T)) := R3.out.below B7.out S4.out
  go_wp2_with fail
  refine (markbyte_any A3 n c3 _ _ 1 (bv T) (w6.drewN q7) hn (by omega) V3.out (fun i _ => ⟨_, rfl⟩)).mono ?_
  rintro e w8 ⟨rfl, hw8, hch8⟩
  have C8 := Lib.hid hch8; have W8 := Lib.hid hw8
  clear hch8 hw8
  have S7 : Hid ((w6.drewN q7).heap.size = w6.heap.size) := rfl
  have E2 : Hid (Wr w8 w1.heap.size w2.heap.size A2 n (bv T)) := (R2.out.below B7.out (Nat.le_trans S3.out S4.out)).chg (by have := S7.out; have := S3.out; have := S4.out; have := S6.out; omega) C8.out (fun b o h1 h2 h3 => by omega)
  have E4 : Hid (Wr w8 w3.heap.size w4.heap.size A4 n (bv T)) := (W4.out.below B7.out (Nat.le_refl _)).chg (by have := S7.out; have := S6.out; omega) C8.out (fun b o h1 h2 h3 => by omega)
  have B8 : Hid (Below w.heap.size w w8) := (BB.out.trans (B7.out.mono BB.out.size)).trans (C8.out.below (Nat.le_trans BB.out.size B7.out.size) (fun b o h => by have := B2.out.size; omega))
  have S8 : Hid (w4.heap.size ≤ w8.heap.size) := Nat.le_trans B7.out.size C8.out.size
  have hk8 : decide ((1 : Int) + (n : Int) < 0) = false := decide_eq_false (by omega)
  go_wp2_with fail
  refine (eqbyte_any A4 A2 n c4 c2 _ _ _ _ T T w8 hn E4.out.toRd E2.out.toRd (fun _ _ => rfl)).mono ?_
  rintro e w9 ⟨rfl, q9, rfl⟩
  go_wp2_with fail
  refine (markbyte_any A4 n c4 _ _ 1 (bv T) (w8.drewN q9) hn (by omega) (E4.out.drewN q9) (fun i _ => ⟨_, rfl⟩)).mono ?_
  rintro e w10 ⟨rfl, hw10, hch10⟩
  have C10 := Lib.hid hch10; have W10 : Hid (Wr w10 w3.heap.size w4.heap.size A4 n (bv fun i => mk (1 + i))) := hw10
  clear hch10 hw10
  have S9 : Hid ((w8.drewN q9).heap.size = w8.heap.size) := rfl
  have S10 : Hid (w8.heap.size ≤ w10.heap.size) := C10.out.size
  have E10 : Hid (Wr w10 w1.heap.size w2.heap.size A2 n (bv T)) := (E2.out.drewN q9).chg (by have := S9.out; have := S3.out; have := S4.out; have := S8.out; omega) C10.out (fun b o h1 h2 h3 => by have := S3.out; omega)
  have B10 : Hid (Below w.heap.size w w10) := (B8.out.trans (below_drewN _ w8 q9)).trans (C10.out.below (by have := S9.out; have := B8.out.size; omega) (fun b o h => by have := B2.out.size; have := S3.out; omega))
  go_wp2_with fail
  refine (heldbyte_any A4 n c4 _ _ 1 w10 hn (by omega) W10.out.toRd).mono ?_
  rintro e _ ⟨rfl, rfl⟩
  go_wp2_with fail
  refine (tobyte_any A n c _ _ T w10 hn B10.out.size (H.out.below B10.out (Nat.le_refl _))).mono ?_
  rintro e w11 ⟨A11, c11, rfl, hc11, hw11, hb11'⟩
  have B11 : Hid (Below w10.heap.size w10 w11) := hb11'
  have W11 : Hid (Wr w11 w10.heap.size w11.heap.size A11 n (bv T)) := hw11
  clear hc11 hw11 hb11'
  go_wp2_with fail
  refine (implbytes_any A11 n c11 _ _ T w11 hn (Nat.le_refl _) W11.out.toRd HT.out ((HG.out.below B10.out HG.out.lt).below B11.out (Nat.lt_of_lt_of_le HG.out.lt B10.out.size))).mono ?_
  rintro e w12 ⟨A12, c12, rfl, hc12, hw12, hb12'⟩
  have W12 : Hid (Wr w12 w11.heap.size w12.heap.size A12 n (bv T)) := hw12
  have B12 : Hid (Below w10.heap.size w10 w12) := B11.out.trans (hb12'.mono B11.out.size)
  clear hc12 hw12 hb12'
  have Z2 : Hid (w2.heap.size ≤ w10.heap.size) := by have := S3.out; have := S4.out; have := S8.out; have := S10.out; show _ ≤ _; omega
  have Z4 : Hid (w4.heap.size ≤ w10.heap.size) := by have := S8.out; have := S10.out; show _ ≤ _; omega
  go_wp2_with fail
  refine (eqbyte_any A12 A2 n c12 c2 _ _ _ _ T T w12 hn W12.out.toRd (E10.out.toRd.below B12.out Z2.out) (fun _ _ => rfl)).mono ?_
  rintro e w13 ⟨rfl, q13, rfl⟩
  go_wp2_with fail
  refine (heldbyte_any A4 n c4 _ _ 1 (w12.drewN q13) hn (by omega) ((W10.out.toRd.below B12.out Z4.out).drewN q13)).mono ?_
  rintro e _ ⟨rfl, rfl⟩
  go_wp2
  go_ret
  exact ⟨rfl, (B10.out.trans (B12.out.mono B10.out.size)).trans (below_drewN _ w12 q13)⟩
end Go.Proofs.YtncoihekfmponaaDoor
