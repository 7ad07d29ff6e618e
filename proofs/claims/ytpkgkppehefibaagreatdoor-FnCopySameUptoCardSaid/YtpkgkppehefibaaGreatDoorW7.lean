/- suffixarray.writeSlice: the walk. -/
import Derived.Test.YtpkgkppehefibaaGreatDoorW8
namespace Go.Proofs.YtpkgkppehefibaaGreatDoor
open Go.RowKit Sa

set_option maxHeartbeats 6400000 in
set_option maxRecDepth 100000 in
/-- writeSlice -/
theorem writeSlice_any (b q l bs os k c : Nat) (r : Option Nat) (f B d : Nat → Nat) (w : World) (h : Buf w b r l f 0) (hq : Row8 w q 16384 B) (hqb : q ≠ b) (hqr : some q ≠ r) (hbq : bs ≠ q) (hbb : bs ≠ b)
    (hsa : ∀ i, i < k → w.cell? ⟨bs, os + i, none⟩ = some (.int .i32 ((d i : Nat) : Int))) (hdl : ∀ i, i < k → d i < 1073741824) (hkl : k < 1073741824) (hkc : k ≤ c) (hrn : r ≠ none) (hlim : l + 16384 ≤ 70368744177664) :
    Calls Tryz.prog 48 #[.iface 65 (.pointer (some ⟨b, 0, none⟩)), .slice (some ⟨q, 0, none⟩) 16384 16384, .agg #[.slice (some ⟨bs, os, none⟩) k c, .slice none 0 0]] w fun e w' => ∃ (i g : Nat), e = .returned (.tuple #[.int .i64 (i : Int), .nilIface]) ∧ Chunk d k i ∧
      Buf w' b (some g) (l + (10 + (enL d i).length)) (cat f l (outB B d i)) 0 ∧ Row8 w' q 16384 (outB B d i) ∧ (some g = r ∨ w.heap.size ≤ g) ∧ Kept (fun k => k = b ∨ k = q ∨ some k = r) w w' := by
  have hna : ∀ k W, (nilAhead (k + 1) 65 (.pointer (some ⟨b, 0, none⟩)) "Write").run Tryz.prog W = .ok (some false) W := fun k W => by kernel_rfl
  have hna261 := fun W => hna 260 W
  clear hna
  have hlq := hq.lt
  have hbl : b < w.heap.size := by rcases h.c with ⟨_, _, h3⟩ | ⟨_, _, _, _, _, h3, _⟩; exact h3.lt; exact h3.lt
  obtain ⟨W1, hW1⟩ : ∃ W1, W1 = w.alloc (.cells #[.slice (some ⟨bs, os, none⟩) k c, .slice none 0 0] 47) := ⟨_, rfl⟩
  have hle : Le w W1 := by rw [hW1]; exact (Below.refl _ _).alloc (Nat.le_refl _) _
  have hk1 : Kept (fun _ => False) w W1 := Kept.le hle
  have hI1 : Ints W1 w.heap.size 0 bs os k c d := by
    refine ⟨by rw [hW1, World.cell?_alloc_at _ _ _ _ rfl]; rfl, by rw [hW1, World.cell?_alloc_at _ _ _ _ rfl]; rfl, fun i hi => ?_, hdl, hkl, hkc⟩
    have := cell_lt (hsa i hi)
    rw [hW1, World.cell?_alloc_past _ _ _ this]; exact hsa i hi
  have HLEN := Lib.hid (len_at w.heap.size 0 k c (some ⟨bs, os, none⟩) W1 hkl hI1.c0 hI1.c1)
  have HI := Lib.hid hI1; have HB := Lib.hid (h.kept hk1 (fun h => h) (fun _ _ h => h)); have HQ := Lib.hid (hq.kept hk1 (fun h => h)); have HK1 := Lib.hid hk1; have HW1 := Lib.hid hW1
  clear hI1 h hq hk1 hle hW1 hsa
  go_enter Tryz.func48, Tryz.ntmps48
  go_wp2_with fail
  rw [← HW1.out]
  refine HLEN.out.mono ?_
  rintro _ W2 ⟨rfl, n2, hW2⟩
  clear HLEN
  subst hW2
  go_wp2_with fail
  go_loopg [6, 8] (k + 1) (fun gk iv pv wr => (∃ i : Nat, i ≤ k ∧ iv = .int .i64 i ∧ pv = .int .i64 ((10 + (enL d i).length : Nat) : Int) ∧ (∀ j, j < i → (enL d j).length + 20 ≤ 16384) ∧ Row8 wr q 16384 (lay B 10 (enL d i)) ∧ Kept (fun k => k = q) W1 wr) ∧ k - (intOf iv).toNat < gk)
  case atStart => exact ⟨⟨0, by omega, rfl, rfl, fun j hj => absurd hj (by omega), (HQ.out.kept (kept_drew _ n2) (fun h => h)).congr (fun i _ => by unfold lay; rw [if_neg (by simp only [enL, List.length_nil]; omega)]), ((Kept.refl _ _).drew n2)⟩, by simp [intOf]⟩
  case round =>
    obtain ⟨⟨i, hik, rfl, rfl, hfit, hrow, hkp⟩, hgk⟩ := hrel
    simp only [intOf, Int.toNat_natCast] at hgk
    have hpos := Chunk.pos (fun j hj => hdl j (by omega)) hfit
    have HR := Lib.hid hrow; have HKP := Lib.hid hkp; have HF := Lib.hid hfit
    clear hrow hkp hfit
    by_cases hgo : i < k ∧ (enL d i).length + 20 ≤ 16384
    · obtain ⟨hlt, hfi⟩ := hgo
      have hdi := hdl i hlt
      have hul := uvarint10 (d i) (by omega)
      have hII : Ints _ w.heap.size 0 bs os k c d := HI.out.kept HKP.out (Nat.ne_of_gt hlq) hbq
      have HII := Lib.hid hII
      clear hII
      have hdw : IntKind.u64.wrap ((d i : Nat) : Int) = ((d i : Nat) : Int) := by rw [IntKind.wrap_u64]; omega
      have hcell : ∀ n j, j < (Lib.uvarint (d i)).length → ((wr.drewN n).cell? ⟨q, 10 + (enL d i).length + j, none⟩).isSome = true ∧ (wr.drewN n).frozen? ⟨q, 10 + (enL d i).length + j, none⟩ = false := fun n j hj => ⟨by show (wr.cell? _).isSome = true; rw [HR.out.cell (by omega)]; rfl, HR.out.z _⟩
      have hwr : IntKind.i64.wrap ((10 : Int) + ((enL d i).length : Int) + ((Lib.uvarint (d i)).length : Int)) = ((10 + (enL d (i + 1)).length : Nat) : Int) := by
        rw [IntKind.wrap_i64]; simp only [enL, List.length_append]; omega
      go_wp2_with fail
      go_region_with (first
        | (go_at_call 63
           refine (get_at w.heap.size 0 bs os k c d _ ?_ i hlt).mono ?_
           first | exact HII.out | exact HII.out.drewN 1
           rintro e w2 ⟨rfl, nq, rfl⟩)
        | (go_at_call 62
           try rw [hdw]
           refine (Tryz.binary_PutUvarint q _ _ _ (d i) (by omega) _ (by omega) (fun j hj => ?_)).mono ?_
           exact hcell _ j hj
           rintro e w3 ⟨rfl, hw3⟩))
      all_goals (
        have hk3 : Kept (fun k => k = q) wr w3 := by
          rw [hw3]; exact Kept.cells _ _ _ ((Kept.refl _ wr).drew _) (fun _ => rfl)
        have hr3 : Row8 w3 q 16384 (lay B 10 (enL d (i + 1))) := by
          rw [hw3]
          have := Row8.laid (Lib.uvarint (d i)) (10 + (enL d i).length) _ _ (HR.out.kept (kept_drew wr (1 + nq)) (fun h => h))
          rw [lay_lay] at this
          exact this
        have HR3 := Lib.hid hr3; have HK3 := Lib.hid hk3; have HW3 := Lib.hid hw3
        clear hr3 hk3 hw3
        go_wp2_with fail
        go_roundg (k - (i + 1) + 1)
        case rel => exact ⟨⟨i + 1, by omega, by go_num, by first | rfl | exact congrArg _ hwr, fun j hj => by
          rcases Nat.lt_or_ge j i with c | c
          · exact HF.out j c
          · obtain rfl : j = i := by omega
            exact hfi, by have e := HR3.out; rw [HW3.out] at e; exact e, by have e := HKP.out.trans HK3.out (fun _ _ h => h); rw [HW3.out] at e; exact e⟩, by simp only [intOf]; go_num⟩
        case measure => omega)
    · have hch : Chunk d k i := ⟨hik, HF.out, by omega⟩
      have hz : Lib.zigzag ((10 + (enL d i).length : Nat) : Int) < 18446744073709551616 := by unfold Lib.zigzag; split <;> omega
      have hlen := uvarint10 _ hz
      have HCH := Lib.hid hch
      clear hch
      have hpv := Lib.hid (Tryz.binary_PutVarint q 0 16384 16384 ((10 + (enL d i).length : Nat) : Int) (by omega) (by omega) wr (by omega) (fun j hj => ⟨by rw [Nat.zero_add, HR.out.cell (by omega)]; rfl, HR.out.z _⟩))
      have hsplit : ¬ ((i : Int) < (k : Int)) ∨ ((i : Int) < (k : Int) ∧ ¬ ((10 : Int) + ((enL d i).length : Int) + 10 ≤ 16384)) := by omega
      clear hgo
      rcases hsplit with c1 | ⟨c1, c2⟩
      all_goals (
        go_wp2_with fail
        refine hpv.out.mono ?_
        rintro _ w1 ⟨rfl, hw1⟩
        have hk1 : Kept (fun k => k = q) wr w1 := by rw [hw1]; exact Kept.cells _ 0 wr (Kept.refl _ _) (fun _ => rfl)
        have hkw : Kept (fun k => k = q) w w1 := ((HK1.out.mono fun _ _ h => h.elim).trans HKP.out (fun _ _ h => h)).trans hk1 (fun _ _ h => h)
        have hkW : Kept (fun k => k = q) W1 w1 := HKP.out.trans hk1 (fun _ _ h => h)
        have hb1 : Buf w1 b r l f 0 := HB.out.kept hkW (Ne.symm hqb) (fun g hg e => hqr (by rw [hg, e]))
        have hr1 : Row8 w1 q 16384 (outB B d i) := by rw [hw1]; exact Row8.laid _ 0 wr _ HR.out
        have hlq1 : q + 1 ≤ w1.heap.size := Nat.le_trans hlq hkw.size
        have HC := Lib.hid (fun W (hW : W = w1.drewN 1) => bufwrite_any b l (10 + (enL d i).length) 16384 q (q + 1) r f (outB B d i) (some ⟨q, 0, none⟩) W (by rw [hW]; exact hb1.kept (kept_drew w1 1) (fun h => h) (fun _ _ h => h)) (by rw [hW]; exact (hr1.rd0 (10 + (enL d i).length) (by omega)).kept (kept_drew w1 1) (by omega) (fun _ _ _ h => h)) (by rw [hW]; exact hlq1) (fun k h1 h2 => by omega) (fun hr => absurd hr hrn) (by omega))
        have HKW := Lib.hid hkw; have HR1 := Lib.hid hr1
        clear hw1 hk1 hkW hkw hb1 hr1
        go_wp2_with fail
        go_region_with (
          go_at_call 142
          refine (HC.out _ rfl).mono ?_
          rintro e w2 ⟨rfl, g, hB2, hg2, hk2⟩)
        all_goals (
          have hk3 : Kept (fun k => k = b ∨ some k = r) w1 w2 := ((kept_drew w1 1).mono (fun _ _ h => h.elim)).trans hk2 (fun _ _ h => h)
          have HB2 := Lib.hid hB2; have HG2 := Lib.hid hg2; have HK3 := Lib.hid hk3
          clear hB2 hg2 hk2 hk3
          go_wp2
          go_ret2
          refine ⟨i, g, rfl, HCH.out, HB2.out, HR1.out.kept HK3.out (fun h => h.elim hqb hqr), ?_, (HKW.out.mono fun _ _ h => .inr (.inl h)).trans HK3.out (fun _ _ h => h.elim .inl (fun h => .inr (.inr h)))⟩
          rcases HG2.out with h | h
          · exact .inl h
          · exact .inr (by rw [h]; exact HKW.out.size)))
end Go.Proofs.YtpkgkppehefibaaGreatDoor
