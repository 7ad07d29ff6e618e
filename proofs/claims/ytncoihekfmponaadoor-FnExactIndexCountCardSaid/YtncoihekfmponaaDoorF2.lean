/- The law FnExactIndexCount: its walk. -/
import Derived.Test.YtncoihekfmponaaDoorE8
namespace Go.Proofs.YtncoihekfmponaaDoor
open Go.RowKit Sa

theorem below_drew (B : Nat) (w : World) (k : Nat) : Below B w (w.drewN k) := ⟨rfl, rfl, rfl, Nat.le_refl _, fun _ _ => rfl⟩

set_option maxHeartbeats 4000000 in
set_option maxRecDepth 100000 in
theorem exactcount_walk (A : Option Addr) (n c : Nat) (T : Nat → Nat) (B : Option Addr) (m e : Nat) (S : Nat → Nat) (w : World) (h : Rd w 0 w.heap.size A n (bv T)) (hT : ∀ i, i < n → T i < 256) (_hc : n ≤ c)
    (h' : Rd w 0 w.heap.size B m (bv S)) (hS : ∀ i, i < m → S i < 256) (_hc' : m ≤ e) (hg : MaxOk w) (hn63 : n < 9223372036854775808) (hm63 : m < 9223372036854775808) :
    Calls Tryd.prog 4 #[.slice A n c, .slice B m e] w fun e w' => e = .returned (.bool true) ∧ Below w.heap.size w w' := by
  by_cases hbig : 1048576 < n
  · have hb1 : (1048576 : Int) < (n : Int) := by omega
    go_enter Tryd.func4, Tryd.ntmps4
    go_wp2
    go_ret
    exact ⟨rfl, Below.refl _ _⟩
  by_cases hbig2 : 1048576 < m
  · have hb1 : ¬ (1048576 : Int) < (n : Int) := by omega
    have hb2 : (1048576 : Int) < (m : Int) := by omega
    go_enter Tryd.func4, Tryd.ntmps4
    go_wp2
    go_ret
    exact ⟨rfl, Below.refl _ _⟩
  have hn : n < 1073741824 := by omega
  have hm : m < 1073741824 := by omega
  have hb1 : ¬ (1048576 : Int) < (n : Int) := by omega
  have hb2 : ¬ (1048576 : Int) < (m : Int) := by omega
  have H := Lib.hid h; have HT := Lib.hid hT; have HG := Lib.hid hg; have HS := Lib.hid hS; have H' := Lib.hid h'
  clear h hT hg hS h'
  go_enter Tryd.func4, Tryd.ntmps4
  go_wp2_with fail
  refine (tobyte_any A n c _ _ T w hn (Nat.le_refl _) H.out).mono ?_
  rintro _ w1 ⟨A1, c1, rfl, hc1, hw1, hb1'⟩
  have B1 := Lib.hid hb1'; have W1 := Lib.hid hw1
  clear hc1 hw1 hb1'
  go_wp2_with fail
  refine (tobyte_any B m e _ _ S w1 hm B1.out.size (H'.out.below B1.out (Nat.le_refl _))).mono ?_
  rintro _ w2 ⟨A2, c2, rfl, hc2, hw2, hb2'⟩
  have Q2 : Hid (Below w1.heap.size w1 w2) := hb2'
  have B2 : Hid (Below w.heap.size w w2) := B1.out.trans (hb2'.mono B1.out.size)
  have W2 := Lib.hid hw2
  clear hc2 hw2 hb2'
  go_wp2_with fail
  refine (speccount_any A1 n c1 _ _ T A2 m c2 _ _ S w2 hn hm Q2.out.size (Nat.le_refl _) (W1.out.toRd.below Q2.out (Nat.le_refl _)) W2.out.toRd).mono ?_
  rintro _ w3 ⟨rfl, hb3'⟩
  have B3 : Hid (Below w.heap.size w w3) := B2.out.trans (hb3'.mono B2.out.size)
  clear hb3'
  go_wp2_with fail
  refine (tobyte_any A n c _ _ T w3 hn B3.out.size (H.out.below B3.out (Nat.le_refl _))).mono ?_
  rintro _ w4 ⟨A4, c4, rfl, hc4, hw4, hb4'⟩
  have W4 := Lib.hid hw4
  have B4 : Hid (Below w.heap.size w w4) := B3.out.trans (hb4'.mono B3.out.size)
  clear hc4 hw4 hb4'
  go_wp2_with fail
  refine (tobyte_any B m e _ _ S w4 hm B4.out.size (H'.out.below B4.out (Nat.le_refl _))).mono ?_
  rintro _ w5 ⟨A5, c5, rfl, hc5, hw5, hb5'⟩
  have W5 := Lib.hid hw5
  have Q5 : Hid (Below w4.heap.size w4 w5) := hb5'
  have B5 : Hid (Below w.heap.size w w5) := B4.out.trans (hb5'.mono B4.out.size)
  clear hc5 hw5 hb5'
  go_wp2_with fail
  refine (implcount_any A4 n c4 _ _ T A5 m c5 _ _ S w5 hn hm Q5.out.size (W4.out.toRd.below Q5.out (Nat.le_refl _)) HT.out (Nat.le_refl _) W5.out.toRd HS.out (HG.out.below B5.out HG.out.lt)).mono ?_
  rintro _ w6 ⟨d, r, q, k, hlk, rfl, hb6'⟩
  have hke : (k : Int) = ((occ T n S m n : Nat) : Int) := by
    have h1 := hlk.fd.count hlk.sa
    have h2 := hlk.fd.k
    rw [if_pos (.inl (by omega))] at h2
    omega
  rw [hke]
  have Q6 : Hid (Below w5.heap.size w5 w6) := hb6'
  have B6 : Hid (Below w.heap.size w w6) := B5.out.trans (hb6'.mono B5.out.size)
  have R4 : Hid (Wr w6 w3.heap.size w4.heap.size A4 n (bv T)) := (W4.out.below Q5.out (Nat.le_refl _)).below Q6.out Q5.out.size
  have R5 : Hid (Wr w6 w4.heap.size w5.heap.size A5 m (bv S)) := W5.out.below Q6.out (Nat.le_refl _)
  have Z46 : Hid (w4.heap.size ≤ w6.heap.size) := Nat.le_trans Q5.out.size Q6.out.size
  clear hb6' hke hlk
  generalize occ T n S m n = x at *
  go_wp2_with fail
  refine (tobyte_any A n c _ _ T w6 hn B6.out.size (H.out.below B6.out (Nat.le_refl _))).mono ?_
  rintro _ w7 ⟨A7, c7, rfl, hc7, hw7, hb7'⟩
  have W7 := Lib.hid hw7
  have Q7 : Hid (Below w6.heap.size w6 w7) := hb7'
  have B7 : Hid (Below w.heap.size w w7) := B6.out.trans (hb7'.mono B6.out.size)
  clear hc7 hw7 hb7'
  go_wp2_with fail
  refine (eqbyte_any A4 A7 n c4 c7 _ _ _ _ T T w7 hn (R4.out.toRd.below Q7.out Z46.out) W7.out.toRd (fun _ _ => rfl)).mono ?_
  rintro _ w8 ⟨rfl, q8, rfl⟩
  have B8 : Hid (Below w.heap.size w (w7.drewN q8)) := B7.out.trans (below_drew _ w7 q8)
  have R58 : Hid (Wr (w7.drewN q8) w4.heap.size w5.heap.size A5 m (bv S)) := (R5.out.below Q7.out Q6.out.size).drewN q8
  have Z58 : Hid (w5.heap.size ≤ (w7.drewN q8).heap.size) := Nat.le_trans Q6.out.size Q7.out.size
  go_wp2_with fail
  refine (tobyte_any B m e _ _ S (w7.drewN q8) hm B8.out.size (H'.out.below B8.out (Nat.le_refl _))).mono ?_
  rintro _ w9 ⟨A9, c9, rfl, hc9, hw9, hb9'⟩
  have W9 := Lib.hid hw9
  have Q9 : Hid (Below (w7.drewN q8).heap.size (w7.drewN q8) w9) := hb9'
  have B9 : Hid (Below w.heap.size w w9) := B8.out.trans (hb9'.mono B8.out.size)
  clear hc9 hw9 hb9'
  go_wp2_with fail
  refine (eqbyte_any A5 A9 m c5 c9 _ _ _ _ S S w9 hm (R58.out.toRd.below Q9.out Z58.out) W9.out.toRd (fun _ _ => rfl)).mono ?_
  rintro _ w10 ⟨rfl, q10, rfl⟩
  go_wp2
  go_ret
  exact ⟨rfl, B9.out.trans (below_drew _ w9 q10)⟩
end Go.Proofs.YtncoihekfmponaaDoor
