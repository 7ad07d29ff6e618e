/- impl.IndexCopyBytes, IndexExactBytes; the spec's. -/
import Derived.Test.YtpkgkppehefibaaDoorWG
namespace Go.Proofs.YtpkgkppehefibaaDoor
open Go.RowKit Sa

theorem xb_new (w : World) : Xb (w.alloc (.cells #[.slice none 0 0, .slice none 0 0, .slice none 0 0] 53)) w.heap.size (.slice none 0 0) (.slice none 0 0) (.slice none 0 0) := heap_alloc_new w _
theorem ways_new (w : World) (ix base n : Nat) : Ways w ix base n none 0 0 (.slice none 0 0) := by
  rcases Nat.eq_zero_or_pos n with h | h
  · exact .inr ⟨h, rfl, rfl, rfl, rfl⟩
  · exact .inl (.inl (.inr h))
/-- what exactly and New leave can be read into -/
theorem ways_exact {w1 w2 : World} {z m n : Nat} {S d : Nat → Nat} (hr : Row8 w1 z m S) (hb : Below w1.heap.size w1 w2) (hg : Reg w2 (w1.heap.size + 1) 0 m (fun i => (d i : Nat))) (hm : m < 1073741824) (hl : w1.heap.size + 1 < w2.heap.size) :
    Ways w2 w1.heap.size z n (some ⟨z, 0, none⟩) m m (.slice (some ⟨w1.heap.size + 1, 0, none⟩) m m) := by
  have hz := hr.lt
  by_cases h : 2 * n < m ∨ m < n
  · exact .inl (.inl h)
  · exact .inl (.inr ⟨z, w1.heap.size + 1, rfl, rfl, rfl, ⟨by omega, by omega, ⟨S, hr.kept (Kept.le (P := fun _ => False) hb) (fun h => h)⟩, ⟨_, hg⟩, hm, by omega, by omega, by omega, by omega, by omega, by omega, by omega, hl, Nat.le_refl _, by omega⟩⟩)
section
variable {A : Option Addr} {n c : Nat} {T : Nat → Nat} {B : Option Addr} {m e : Nat} {S : Nat → Nat} {w : World}
set_option maxHeartbeats 1000000 in
set_option maxRecDepth 100000 in
theorem copybytesW (h : Bs w A n c T) (hg : MaxOk w) :
    Calls Tryd.prog 16 #[.slice A n c] w fun e w' => ∃ A' c', e = .returned (.tuple #[.slice A' n c', .bool true]) ∧ n ≤ c' ∧ Wr w' w.heap.size w'.heap.size A' n (bv T) ∧ Le w w' := by
  have hn := h.sm
  obtain ⟨W1, hW1⟩ : ∃ W1, W1 = w.alloc (.cells #[.slice none 0 0, .slice none 0 0, .slice none 0 0] 53) := ⟨_, rfl⟩
  have hb1 : Le w W1 := by rw [hW1]; exact (Below.refl _ _).alloc (Nat.le_refl _) _
  have hx1 : Xb W1 w.heap.size (.slice none 0 0) (.slice none 0 0) (.slice none 0 0) := by rw [hW1]; exact xb_new w
  have HRI := Lib.hid (readInto_any w.heap.size n c 0 0 w.heap.size A none (.slice none 0 0) T W1 hx1 (h.le hb1) (hg.le hb1) (Nat.le_refl _) hg.lt (ways_new _ _ _ _) (by omega))
  have HB1 := Lib.hid hb1; have HW1 := Lib.hid hW1
  clear h hg hb1 hx1 hW1
  go_enter Tryd.func16, Tryd.ntmps16
  go_wp2_with fail
  rw [← HW1.out]
  refine HRI.out.mono ?_
  rintro _ w2 ⟨rfl, hr2, hk2⟩
  obtain ⟨A2, c2, hc2, hrd2⟩ := hr2.bytes
  have HBY := Lib.hid (bytes_any w.heap.size _ w2 hc2)
  have HKP := Lib.hid (kept_any A2 n c2 0 _ T w2 hn (Nat.le_refl _) hrd2)
  have HK2 : Hid (Below w.heap.size w w2) := Lib.hid (Below.trans HB1.out (hk2.below (fun _ h => h) HB1.out.size))
  clear hr2 hk2 hc2 hrd2 HRI HW1 HB1
  go_wp2_with fail
  refine HBY.out.mono ?_
  rintro _ _ ⟨rfl, rfl⟩
  go_wp2_with fail
  refine HKP.out.mono ?_
  rintro _ w3 ⟨A3, c3, rfl, hc3, hw3, hb3⟩
  have H3 := Lib.hid hc3; have HW3 := Lib.hid hw3; have HB3 := Lib.hid hb3
  clear hc3 hw3 hb3 HKP HBY
  go_wp2
  go_ret2
  exact ⟨A3, c3, rfl, H3.out, HW3.out.mono HK2.out.size (Nat.le_refl _), HK2.out.trans (HB3.out.mono HK2.out.size)⟩
set_option maxHeartbeats 1000000 in
set_option maxRecDepth 100000 in
theorem exactbytesW (h : Bs w B m e S) (h' : Bs w A n c T) (hg : MaxOk w) :
    Calls Tryd.prog 21 #[.slice B m e, .slice A n c] w fun e w' => ∃ A' c', e = .returned (.tuple #[.slice A' n c', .bool true]) ∧ n ≤ c' ∧ Wr w' w.heap.size w'.heap.size A' n (bv T) ∧ Le w w' := by
  have hn := h'.sm; have hm := h.sm
  have HE := Lib.hid (exactly_any B m e 0 w.heap.size S w hm (Nat.le_refl _) h.rd)
  have HS := Lib.hid h.lt; have HD := Lib.hid h'; have HG := Lib.hid hg
  clear h h' hg
  go_enter Tryd.func21, Tryd.ntmps21
  go_wp2_with fail
  refine HE.out.mono ?_
  rintro _ w1 ⟨rfl, hr1, hb1⟩
  have HN := Lib.hid (new_full (some ⟨w.heap.size, 0, none⟩) m m S w1 hm (Nat.le_refl _) ((hr1.rd0 m (Nat.le_refl _)).txt HS.out) (HG.out.le hb1))
  have HR1 := Lib.hid hr1; have HB1 := Lib.hid hb1
  clear hr1 hb1 HE
  go_wp2_with fail
  refine HN.out.mono ?_
  rintro _ w2 ⟨d, rfl, -, -, hrg, hx2, hz2, hb2⟩
  have hl2 : Le w w2 := Le.trans HB1.out hb2
  have HRI := Lib.hid (readInto_any w1.heap.size n c m m w.heap.size A (some ⟨w.heap.size, 0, none⟩) (.slice (some ⟨w1.heap.size + 1, 0, none⟩) m m) T w2 hx2 (HD.out.le hl2) (HG.out.le hl2) HB1.out.size HG.out.lt (ways_exact HR1.out hb2 hrg hm hz2) (by omega))
  have HL2 := Lib.hid hl2
  clear hrg hx2 hb2 hl2 HN HR1
  go_wp2_with fail
  refine HRI.out.mono ?_
  rintro _ w3 ⟨rfl, hr3, hk3⟩
  obtain ⟨A2, c2, hc2, hrd2⟩ := hr3.bytes
  have HBY := Lib.hid (bytes_any w1.heap.size _ w3 hc2)
  have HKP := Lib.hid (kept_any A2 n c2 0 _ T w3 hn (Nat.le_refl _) hrd2)
  have HK2 : Hid (Below w.heap.size w w3) := Lib.hid (Below.trans HL2.out (hk3.below (fun _ h => h) HL2.out.size))
  clear hr3 hk3 hc2 hrd2 HRI
  go_wp2_with fail
  refine HBY.out.mono ?_
  rintro _ _ ⟨rfl, rfl⟩
  go_wp2_with fail
  refine HKP.out.mono ?_
  rintro _ w4 ⟨A3, c3, rfl, hc3, hw3, hb3⟩
  have H3 := Lib.hid hc3; have HW3 := Lib.hid hw3; have HB3 := Lib.hid hb3
  clear hc3 hw3 hb3 HKP HBY
  go_wp2
  go_ret2
  exact ⟨A3, c3, rfl, H3.out, HW3.out.mono HK2.out.size (Nat.le_refl _), HK2.out.trans (HB3.out.mono HK2.out.size)⟩
set_option maxRecDepth 100000 in
theorem speccopybytesW (h : Bs w A n c T) :
    Calls Tryd.prog 14 #[.slice A n c] w fun e w' => ∃ A' c', e = .returned (.tuple #[.slice A' n c', .bool true]) ∧ n ≤ c' ∧ Wr w' w.heap.size w'.heap.size A' n (bv T) ∧ Le w w' := by
  have HC := Lib.hid (ibytes_any A n c 0 w.heap.size T w h.sm (Nat.le_refl _) h.rd)
  clear h
  go_enter Tryd.func14, Tryd.ntmps14
  go_wp2_with fail
  refine HC.out.mono ?_
  rintro _ w1 ⟨A1, c1, rfl, hc1, hw1, hb1⟩
  have H1 := Lib.hid hc1; have HW := Lib.hid hw1; have HB := Lib.hid hb1
  clear hc1 hw1 hb1 HC
  go_wp2
  go_ret2
  exact ⟨A1, c1, rfl, H1.out, HW.out, HB.out⟩
set_option maxRecDepth 100000 in
theorem specexactbytesW (_h : Bs w B m e S) (h : Bs w A n c T) :
    Calls Tryd.prog 20 #[.slice B m e, .slice A n c] w fun e w' => ∃ A' c', e = .returned (.tuple #[.slice A' n c', .bool true]) ∧ n ≤ c' ∧ Wr w' w.heap.size w'.heap.size A' n (bv T) ∧ Le w w' := by
  have HC := Lib.hid (ibytes_any A n c 0 w.heap.size T w h.sm (Nat.le_refl _) h.rd)
  clear h
  go_enter Tryd.func20, Tryd.ntmps20
  go_wp2_with fail
  refine HC.out.mono ?_
  rintro _ w1 ⟨A1, c1, rfl, hc1, hw1, hb1⟩
  have H1 := Lib.hid hc1; have HW := Lib.hid hw1; have HB := Lib.hid hb1
  clear hc1 hw1 hb1 HC
  go_wp2
  go_ret2
  exact ⟨A1, c1, rfl, H1.out, HW.out, HB.out⟩
end
end Go.Proofs.YtpkgkppehefibaaDoor
