/- The laws' helpers over bytes: kept, copied, toByteS, eqByteS, markByteS, heldByteS. -/
import Derived.Test.YtpkgkppehefibaaGreatDoorE1
namespace Go.Proofs.YtpkgkppehefibaaGreatDoor
open Go.RowKit Sa

/-- what a function does that hands out a copy -/
def Copies (f : FuncId) : Prop := ∀ (A : Option Addr) (n c lo hi : Nat) (T : Nat → Nat) (w : World), n < 1073741824 → hi ≤ w.heap.size → Rd w lo hi A n (bv T) →
  Calls Tryz.prog f #[.slice A n c] w fun e w' => ∃ A' c', e = .returned (.slice A' n c') ∧ n ≤ c' ∧ Wr w' w.heap.size w'.heap.size A' n (bv T) ∧ Below w.heap.size w w'

theorem kept_any : Copies 35 := by
  intro A n c lo hi T w hn hh h
  obtain ⟨A', c', w1, hr, h1, h2, h3⟩ := append8 w h c hn
  have H2 := Lib.hid h2; have H3 := Lib.hid h3; have H1 := Lib.hid h1
  have HR := Lib.hid hr
  clear h h1 h2 h3 hr
  go_enter Tryz.func35, Tryz.ntmps35
  go_wp2_with (at_builtin; refine wpList_append_run rfl rfl rfl rfl HR.out ?_)
  go_ret
  exact ⟨A', c', rfl, H1.out, H2.out, H3.out⟩

theorem copied_any : Copies 19 := by
  intro A n c lo hi T w hn hh h
  obtain ⟨A', c', w1, hr, h1, h2, h3⟩ := append8 w h c hn
  have H2 := Lib.hid h2; have H3 := Lib.hid h3; have H1 := Lib.hid h1
  have HR := Lib.hid hr
  clear h h1 h2 h3 hr
  go_enter Tryz.func19, Tryz.ntmps19
  go_wp2_with (at_builtin; refine wpList_append_run rfl rfl rfl rfl HR.out ?_)
  go_ret
  exact ⟨A', c', rfl, H1.out, H2.out, H3.out⟩

set_option maxRecDepth 100000 in
theorem tobyte_any : Copies 10 := by
  intro A n c lo hi T w hn hh h
  have hmk : ∀ W, (Instr.makeSlice 22 (.int .i64 (n : Int)) (.int .i64 (n : Int))).run Tryz.prog W = .ok (.slice (some ⟨W.heap.size, 0, none⟩) n n) (W.alloc (.cells (madeCells #[.int .u8 0] n) 5)) := fun W => run_make8 n hn W
  have H := Lib.hid h
  have h0 : Hid (Wr (w.alloc (.cells (madeCells #[.int .u8 0] n) 5)) w.heap.size (w.heap.size + 1) (some ⟨w.heap.size, 0, none⟩) n (fun j => if j < 0 then bv T j else .int .u8 0)) := (wr_made w n _ _).congr (fun i _ => by simp)
  have HB : Hid (Below w.heap.size w (w.alloc (.cells (madeCells #[.int .u8 0] n) 5))) := (Below.refl _ _).alloc (Nat.le_refl _) _
  clear h
  go_enter Tryz.func10, Tryz.ntmps10
  go_wp2_with fail
  go_loopg [4] (n + 1) (fun gk i wr => (∃ k : Nat, k ≤ n ∧ i = .int .i64 k ∧ wr.heap.size = w.heap.size + 1 ∧ Wr wr w.heap.size (w.heap.size + 1) (some ⟨w.heap.size, 0, none⟩) n (fun j => if j < k then bv T j else .int .u8 0) ∧ Below w.heap.size w wr) ∧ n - (intOf i).toNat < gk)
  case atStart => exact ⟨⟨0, by omega, rfl, by simp, h0.out, HB.out⟩, by simp [intOf]⟩
  case round =>
    clear h0 HB hmk
    obtain ⟨⟨k, hk, rfl, hsz, hwr, hbl⟩, hgk⟩ := hrel
    simp only [intOf, Int.toNat_natCast] at hgk
    have HS := Lib.hid hsz
    clear hsz
    by_cases hlt : k < n
    · obtain ⟨g, o, rfl, hg1, hg2, hg3⟩ := (H.out.below hbl hh).c (by omega)
      have hc1 := hg3 k hlt
      unfold bv at hc1
      have hc2 := hwr.at_ hlt
      have hz2 := hwr.z _ _ rfl k hlt
      simp only [Nat.lt_irrefl, if_false, Nat.zero_add] at hc2 hz2
      have HW := Lib.hid hwr; have HL := Lib.hid hbl
      clear hwr hbl hg3 hg1 hg2 H
      go_wp2
      go_roundg (n - (k + 1) + 1)
      case rel =>
        refine ⟨⟨k + 1, by omega, by go_num, by simpa [World.setCell] using HS.out, ?_, HL.out.setCell (Nat.le_refl _) _⟩, by simp only [intOf]; omega⟩
        have := HW.out.set hlt (bv T k)
        rw [Nat.zero_add] at this
        refine this.congr fun j _ => ?_
        unfold updV
        by_cases c : j = k
        · subst c; simp
        · by_cases c' : j < k
          · simp only [if_neg c, if_pos c', if_pos (show j < k + 1 by omega)]
          · simp only [if_neg c, if_neg c', if_neg (show ¬ j < k + 1 by omega)]
      case measure => omega
    · obtain rfl : k = n := by omega
      have HW := Lib.hid hwr; have HL := Lib.hid hbl
      clear hwr hbl H
      go_wp2
      go_ret
      refine ⟨_, _, rfl, Nat.le_refl _, ?_, HL.out⟩
      rw [HS.out]
      exact HW.out.congr fun i hi => by rw [if_pos hi]

set_option maxRecDepth 100000 in
/-- two lists of bytes of one length -/
theorem eqbyte_any (A B : Option Addr) (n c d lo hi lo' hi' : Nat) (T U : Nat → Nat) (w : World) (hn : n < 1073741824) (hA : Rd w lo hi A n (bv T)) (hB : Rd w lo' hi' B n (bv U)) (he : ∀ i, i < n → T i = U i) :
    Calls Tryz.prog 13 #[.slice A n c, .slice B n d] w fun e w' => e = .returned (.bool true) ∧ ∃ nq, w' = w.drewN nq := by
  have H1 := Lib.hid hA; have H2 := Lib.hid hB; have HE := Lib.hid he
  clear hA hB he
  go_enter Tryz.func13, Tryz.ntmps13
  go_wp2_with fail
  go_loopg [5] (n + 1) (fun gk i wr => (∃ k nq : Nat, k ≤ n ∧ i = .int .i64 k ∧ wr = w.drewN nq) ∧ n - (intOf i).toNat < gk)
  case atStart => exact ⟨⟨0, 0, by omega, rfl, rfl⟩, by simp [intOf]⟩
  case round =>
    obtain ⟨⟨k, nq0, hk, rfl, rfl⟩, hgk⟩ := hrel
    simp only [intOf, Int.toNat_natCast] at hgk
    by_cases hlt : k < n
    · obtain ⟨g, o, rfl, hg1, hg2, hg3⟩ := H1.out.c (by omega)
      obtain ⟨g', o', rfl, hg1', hg2', hg3'⟩ := H2.out.c (by omega)
      have hc1 := hg3 k hlt
      have hc2 := hg3' k hlt
      unfold bv at hc1 hc2
      rw [← HE.out k hlt] at hc2
      clear hg1 hg2 hg3 hg1' hg2' hg3' H1 H2 HE
      go_wp2
      go_quiet (fail)
      go_wp2
      go_roundg (n - (k + 1) + 1)
      case rel => exact ⟨⟨k + 1, _, by omega, by go_num, rfl⟩, by simp only [intOf]; omega⟩
      case measure => omega
    · obtain rfl : k = n := by omega
      go_wp2
      go_ret
      exact ⟨rfl, _, rfl⟩

/-- byte(k) -/
def mk (k : Nat) : Nat := k % 256
set_option maxRecDepth 100000 in
/-- a list of bytes gets the numbers from k0 on -/
theorem markbyte_any (A : Option Addr) (n c lo hi k0 : Nat) (f : Nat → Value) (w : World) (hn : n < 1073741824) (hk0 : k0 < 1073741824) (hA : Wr w lo hi A n f) (hf : ∀ i, i < n → ∃ x, f i = .int .u8 x) :
    Calls Tryz.prog 14 #[.slice A n c, .int .i64 k0] w fun e w' => e = .returned (.int .i64 ((k0 + n : Nat) : Int)) ∧ Wr w' lo hi A n (bv fun i => mk (k0 + i)) ∧ Chg (fun b _ => lo ≤ b ∧ b < hi) w w' := by
  have hs : Hid (Wr w lo hi A n (fun j => if j < 0 then bv (fun i => mk (k0 + i)) j else f j)) := hA.congr (fun i _ => by simp)
  have HF := Lib.hid hf
  clear hA hf
  go_enter Tryz.func14, Tryz.ntmps14
  go_wp2_with fail
  go_loopg [1, 5] (n + 1) (fun gk kv i wr => (∃ k : Nat, k ≤ n ∧ i = .int .i64 k ∧ kv = .int .i64 ((k0 + k : Nat) : Int) ∧ Wr wr lo hi A n (fun j => if j < k then bv (fun i => mk (k0 + i)) j else f j) ∧ Chg (fun b _ => lo ≤ b ∧ b < hi) w wr) ∧ n - (intOf i).toNat < gk)
  case atStart => exact ⟨⟨0, by omega, rfl, by simp, hs.out, Chg.refl _ _⟩, by simp [intOf]⟩
  case round =>
    clear hs
    obtain ⟨⟨k, hk, rfl, rfl, hwr, hch⟩, hgk⟩ := hrel
    simp only [intOf, Int.toNat_natCast] at hgk
    by_cases hlt : k < n
    · obtain ⟨g, o, rfl, hg1, hg2, hg3⟩ := hwr.c (by omega)
      have hc1 := hg3 k hlt
      simp only [Nat.lt_irrefl, if_false] at hc1
      obtain ⟨x, hx⟩ := HF.out k hlt
      rw [hx] at hc1
      have hz1 := hwr.z _ _ rfl k hlt
      have HW := Lib.hid hwr; have HC := Lib.hid hch
      have HG1 := Lib.hid hg1; have HG2 := Lib.hid hg2
      clear hwr hch hg1 hg2 hg3 hx
      go_wp2
      go_roundg (n - (k + 1) + 1)
      case rel =>
        refine ⟨⟨k + 1, by omega, by go_num, by go_num, ?_, HC.out.setCell (fun _ => ⟨HG1.out, HG2.out⟩) _⟩, by simp only [intOf]; omega⟩
        have := HW.out.set hlt (bv (fun i => mk (k0 + i)) k)
        refine this.congr fun j _ => ?_
        unfold updV
        by_cases c : j = k
        · subst c; simp
        · by_cases c' : j < k
          · simp only [if_neg c, if_pos c', if_pos (show j < k + 1 by omega)]
          · simp only [if_neg c, if_neg c', if_neg (show ¬ j < k + 1 by omega)]
      case measure => omega
    · obtain rfl : k = n := by omega
      have HW := Lib.hid hwr; have HC := Lib.hid hch
      clear hwr hch
      go_wp2
      go_ret
      exact ⟨rfl, HW.out.congr fun i hi => by rw [if_pos hi], HC.out⟩

end Go.Proofs.YtpkgkppehefibaaGreatDoor
