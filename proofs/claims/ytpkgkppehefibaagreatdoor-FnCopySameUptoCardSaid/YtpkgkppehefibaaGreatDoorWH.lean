/- impl.IndexCopyBytes, IndexExactBytes; the spec's. -/
import Derived.Test.YtpkgkppehefibaaGreatDoorWG
namespace Go.Proofs.YtpkgkppehefibaaGreatDoor
open Go.RowKit Sa

theorem xb_new (w : World) : Xb (w.alloc (.cells #[.slice none 0 0, .slice none 0 0, .slice none 0 0] 49)) w.heap.size (.slice none 0 0) (.slice none 0 0) (.slice none 0 0) := heap_alloc_new w _
theorem ways_new (w : World) (ix base n : Nat) : Ways w ix base n none 0 0 (.slice none 0 0) := by
  rcases Nat.eq_zero_or_pos n with h | h
  · exact .inr ⟨h, rfl, rfl, rfl, rfl⟩
  · exact .inl (.inl (.inr h))
/-- what exactly and New leave can be read into -/
theorem ways_exact {w1 w2 : World} {z m n : Nat} {S d : Nat → Nat} (hr : Row8 w1 z m S) (hb : Below w1.heap.size w1 w2) (hg : Reg w2 (w1.heap.size + 1) 0 m (fun i => (d i : Nat))) (hm : m < 1073741824) (hl : w1.heap.size + 1 < w2.heap.size) :
    Ways w2 w1.heap.size z n (some ⟨z, 0, none⟩) m m (.slice (some ⟨w1.heap.size + 1, 0, none⟩) m m) := by
  have hz := hr.lt
  by_cases h : 2 * n < m ∨ m < n
  · exact .inl (.inl h)
  · exact .inl (.inr ⟨z, w1.heap.size + 1, rfl, rfl, rfl, ⟨by omega, by omega, ⟨S, hr.kept (Kept.le (P := fun _ => False) hb) (fun h => h)⟩, ⟨_, hg⟩, hm, by omega, by omega, by omega, by omega, by omega, by omega, by omega, hl, Nat.le_refl _, by omega⟩⟩)
section
variable {A : Option Addr} {n c : Nat} {T : Nat → Nat} {B : Option Addr} {m e : Nat} {S : Nat → Nat} {w : World}
set_option maxHeartbeats 1000000 in
set_option maxRecDepth 100000 in
theorem exactbytesW (h : Bs w B m e S) (h' : Bs w A n c T) (hg : MaxOk w) :
    Calls Tryz.prog 20 #[.slice B m e, .slice A n c] w fun e w' => ∃ A' c', e = .returned (.tuple #[.slice A' n c', .bool true]) ∧ n ≤ c' ∧ Wr w' w.heap.size w'.heap.size A' n (bv T) ∧ Le w w' := by
  have hn := h'.sm; have hm := h.sm
  have HE := Lib.hid (exactly_any B m e 0 w.heap.size S w hm (Nat.le_refl _) h.rd)
  have HS := Lib.hid h.lt; have HD := Lib.hid h'; have HG := Lib.hid hg
  clear h h' hg
  go_enter Tryz.func20, Tryz.ntmps20
  go_wp2_with fail
  refine HE.out.mono ?_
  rintro _ w1 ⟨rfl, hr1, hb1⟩
  have HN := Lib.hid (new_full (some ⟨w.heap.size, 0, none⟩) m m S w1 hm (Nat.le_refl _) ((hr1.rd0 m (Nat.le_refl _)).txt HS.out) (HG.out.le hb1))
  have HR1 := Lib.hid hr1; have HB1 := Lib.hid hb1
  clear hr1 hb1 HE
  go_wp2_with fail
  refine HN.out.mono ?_
  rintro _ w2 ⟨d, rfl, -, -, hrg, hx2, hz2, hb2⟩
  have hl2 : Le w w2 := Le.trans HB1.out hb2
  have HRI := Lib.hid (readInto_any w1.heap.size n c m m w.heap.size A (some ⟨w.heap.size, 0, none⟩) (.slice (some ⟨w1.heap.size + 1, 0, none⟩) m m) T w2 hx2 (HD.out.le hl2) (HG.out.le hl2) HB1.out.size HG.out.lt (ways_exact HR1.out hb2 hrg hm hz2) (by omega))
  have HL2 := Lib.hid hl2
  clear hrg hx2 hb2 hl2 HN HR1
  go_wp2_with fail
  refine HRI.out.mono ?_
  rintro _ w3 ⟨rfl, hr3, hk3⟩
  obtain ⟨A2, c2, hc2, hrd2⟩ := hr3.bytes
  have HBY := Lib.hid (bytes_any w1.heap.size _ w3 hc2)
  have HKP := Lib.hid (kept_any A2 n c2 0 _ T w3 hn (Nat.le_refl _) hrd2)
  have HK2 : Hid (Below w.heap.size w w3) := Lib.hid (Below.trans HL2.out (hk3.below (fun _ h => h) HL2.out.size))
  clear hr3 hk3 hc2 hrd2 HRI
  go_wp2_with fail
  refine HBY.out.mono ?_
  rintro _ _ ⟨rfl, rfl⟩
  go_wp2_with fail
  refine HKP.out.mono ?_
  rintro _ w4 ⟨A3, c3, rfl, hc3, hw3, hb3⟩
  have H3 := Lib.hid hc3; have HW3 := Lib.hid hw3; have HB3 := Lib.hid hb3
  clear hc3 hw3 hb3 HKP HBY
  go_wp2
  go_ret2
  exact ⟨A3, c3, rfl, H3.out, HW3.out.mono HK2.out.size (Nat.le_refl _), HK2.out.trans (HB3.out.mono HK2.out.size)⟩
end
end Go.Proofs.YtpkgkppehefibaaGreatDoor
