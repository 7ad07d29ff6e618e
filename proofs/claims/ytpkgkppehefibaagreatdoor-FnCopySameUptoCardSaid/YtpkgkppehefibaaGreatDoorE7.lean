/- impl.listed, IndexLookup, IndexLookupNil, IndexCount. -/
import Derived.Test.YtpkgkppehefibaaGreatDoorE6
import Derived.Test.YtpkgkppehefibaaGreatDoorE2
namespace Go.Proofs.YtpkgkppehefibaaGreatDoor
open Go.RowKit Sa

theorem appendI (w : World) {lo hi' n : Nat} {A : Option Addr} {T : Nat → Int} (h : Rd w lo hi' A n (iv T)) (c : Nat) (hn : n < 1073741824) :
    ∃ A' c' w', (∀ ty, (Builtin.append_ #[37, 37] ty #[.slice none 0 0, .slice A n c]).run Tryz.prog w = .ok (.slice A' n c') w') ∧ n ≤ c' ∧ Wr w' w.heap.size w'.heap.size A' n (iv T) ∧ Below w.heap.size w w' := by
  obtain ⟨i0, hi, hz0, hz1, hz2⟩ := info_parts infoInt
  exact run_append_nil w _ _ i0 _ 8 Tryz.underlying37 hi hz0 hz1 hz2 rfl h c (fun _ _ => rfl) (by simp only [maxLen]; omega) (by omega)
theorem listed_any (A : Option Addr) (n c lo hi : Nat) (T : Nat → Int) (w : World) (hn : n < 1073741824) (h : Rd w lo hi A n (iv T)) :
    Calls Tryz.prog 37 #[.slice A n c] w fun e w' => ∃ A' c', e = .returned (.slice A' n c') ∧ n ≤ c' ∧ Wr w' w.heap.size w'.heap.size A' n (iv T) ∧ Below w.heap.size w w' := by
  obtain ⟨A', c', w1, hr, h1, h2, h3⟩ := appendI w h c hn
  have H2 := Lib.hid h2; have H3 := Lib.hid h3; have H1 := Lib.hid h1
  have HR := Lib.hid hr
  clear h h1 h2 h3 hr
  go_enter Tryz.func37, Tryz.ntmps37
  go_wp2_with (at_builtin; refine wpList_append_run rfl rfl rfl rfl HR.out ?_)
  go_ret
  exact ⟨A', c', rfl, H1.out, H2.out, H3.out⟩

/-- an index of a copy, looked up: what all of impl's functions begin with -/
structure Looked (T : Nat → Nat) (n : Nat) (S : Nat → Nat) (m : Nat) (N : Int) (d : Nat → Nat) (r q k : Nat) : Prop where
  sa : IsSA T n d
  fd : Found T n S m d N r q k
theorem Looked.kle {T S d : Nat → Nat} {n m r q k : Nat} {N : Int} (h : Looked T n S m N d r q k) : k ≤ q := by
  have := h.fd.k
  split at this <;> omega
theorem Looked.kn {T S d : Nat → Nat} {n m r q k : Nat} {N : Int} (h : Looked T n S m N d r q k) : k ≤ n := by
  have := h.kle; have := h.fd.le; omega

section
variable (A : Option Addr) (n c lo hi : Nat) (T : Nat → Nat) (B : Option Addr) (m e lo' hi' : Nat) (S : Nat → Nat) (N : Int) (w : World)

set_option maxRecDepth 100000 in
theorem impllookup_any (hn : n < 1073741824) (hm : m < 1073741824) (hh : hi ≤ w.heap.size) (h : Rd w lo hi A n (bv T)) (hT : ∀ i, i < n → T i < 256) (hh' : hi' ≤ w.heap.size) (h' : Rd w lo' hi' B m (bv S)) (hS : ∀ i, i < m → S i < 256) (hg : MaxOk w) (hN1 : -9223372036854775808 ≤ N) (hN2 : N ≤ 9223372036854775807) :
    Calls Tryz.prog 27 #[.slice A n c, .slice B m e, .int .i64 N] w fun e w' => ∃ d r q k, Looked T n S m N d r q k ∧ ∃ A' c', e = .returned (.slice A' k c') ∧ k ≤ c' ∧ Wr w' w.heap.size w'.heap.size A' k (iv fun i => (d (r + i) : Nat)) ∧ Below w.heap.size w w' := by
  have H := Lib.hid h; have HT := Lib.hid hT; have HG := Lib.hid hg; have HS := Lib.hid hS; have H' := Lib.hid h'
  clear h hT hg hS h'
  go_enter Tryz.func27, Tryz.ntmps27
  go_wp2_with fail
  refine (kept_any A n c lo hi T w hn hh H.out).mono ?_
  rintro _ w1 ⟨A1, c1, rfl, hc1, hw1, hb1⟩
  have H1 := Lib.hid hc1; have H2 := Lib.hid hw1; have H3 := Lib.hid hb1
  clear hc1 hw1 hb1
  go_wp2_with fail
  refine (new_any A1 c1 n T w1 hn H1.out (H2.out.toRd.txt HT.out) (HG.out.below H3.out HG.out.lt)).mono ?_
  rintro _ w2 ⟨ix, bs, d, rfl, hx, hix, hsa, hbs, hb2⟩
  have HX := Lib.hid hx; have HSA := Lib.hid hsa; have H5 := Lib.hid hb2
  clear hx hsa hb2 hix
  have Z1 : Hid (w.heap.size ≤ w1.heap.size) := H3.out.size
  have Z2 : Hid (w1.heap.size ≤ w2.heap.size) := H5.out.size
  have HBW : Hid (Below w.heap.size w w2) := H3.out.trans (H5.out.mono Z1.out)
  have TX : Hid (Rd w2 0 w2.heap.size A1 n (bv T)) := (H2.out.toRd.below H5.out (Nat.le_refl _)).mono (Nat.zero_le _) Z2.out
  have SX : Hid (Rd w2 0 w2.heap.size B m (bv S)) := (H'.out.below HBW.out hh').mono (Nat.zero_le _) (Nat.le_trans hh' HBW.out.size)
  go_wp2_with fail
  refine (lookup_any ix n c1 bs 0 n A1 d T B m e S N w2 HX.out hbs HSA.out TX.out SX.out HT.out HS.out hm (by omega) (by omega)).mono ?_
  rintro _ w3 ⟨r, q, k, A3, c3, rfl, hc3, hfd, hk0, hw3, hb3⟩
  have HLK : Hid (Looked T n S m N d r q k) := ⟨HSA.out, hfd⟩
  have hkn : k ≤ n := HLK.out.kn
  have HW3 := Lib.hid hw3; have H8 := Lib.hid hb3; have HK0 := Lib.hid hk0
  have HB3 : Hid (Below w.heap.size w w3) := HBW.out.trans (hb3.mono HBW.out.size)
  clear hc3 hfd hw3 hb3 hk0
  go_wp2_with fail
  refine (listed_any A3 k c3 _ _ _ w3 (by omega) HW3.out.toRd).mono ?_
  rintro _ w4 ⟨A4, c4, rfl, hc4, hw4, hb4⟩
  have H9 := Lib.hid hc4; have H10 := Lib.hid hw4; have H11 := Lib.hid hb4
  clear hc4 hw4 hb4
  go_wp2
  go_ret
  exact ⟨d, r, q, k, HLK.out, A4, c4, rfl, H9.out, H10.out.mono HB3.out.size (Nat.le_refl _), HB3.out.trans (H11.out.mono HB3.out.size)⟩

end
end Go.Proofs.YtpkgkppehefibaaGreatDoor
