/- The law FnStrangeByte: its walk. Printed by walks.py. -/
import Derived.Test.YtclebgpnfinppaaDoorL4
namespace Go.Proofs.YtclebgpnfinppaaDoor
open Go.RowKit Sa

/-- .. behind a guard that holds -/
theorem wpList_append_guard {P : Program} {ops : Array Oper} {rest : List Oper} {o : Oper} {a : Act} {w w' : World} {Q : Exit → Act → World → Prop} {s x : Operand} {t : TypeId} (hgd : Region.wanted o (yielded ops a.tmps) = true)
    (ho : o.op = .call { callee := .builtin .append, args := #[s, x], argTypes := #[t, t] }) {v1 v2 v' : Value} (hs : a.eval s = v1) (hx : a.eval x = v2)
    (hrun : ∀ ty, (Builtin.append_ #[t, t] ty #[v1, v2]).run P w = .ok v' w') (h : wpList P ops Q rest (a.put o.dst v') w') : wpList P ops Q (o :: rest) a w :=
  wpList_step fun _ hK => by rw [if_pos hgd]; exact wp_append_run ho hs hx hrun (hK _ _ h)

set_option maxHeartbeats 1000000 in
set_option maxRecDepth 100000 in
theorem fnStrangeByte_walk {A0 : Option Addr} {n0 c0 : Nat} {T0 : Nat → Nat} {A1 : Option Addr} {n1 c1 : Nat} {T1 : Nat → Nat} (b2 : Nat) (w : World) (h0 : Bs w A0 n0 c0 T0) (h1 : Bs w A1 n1 c1 T1) (h2 : b2 < 256) (hg : MaxOk w) (_hsz : n0 + n1 < 1048576) :
    Calls Tryd.prog 5 #[.slice A0 n0 c0, .slice A1 n1 c1, .int .u8 (b2 : Nat)] w fun e w' => e = .returned (.bool true) ∧ Le w w' := by
  have hs0 := h0.sm
  have H0 := Lib.hid h0
  clear h0
  have hs1 := h1.sm
  have H1 := Lib.hid h1
  clear h1
  have HG := Lib.hid hg
  have HL := Lib.hid (Le.refl w)
  clear hg
  go_enter Tryd.func5, Tryd.ntmps5
  go_wp2_with fail
  go_loopg [12] (n0 + 1) (fun gk iv wr => (∃ t : Nat, t ≤ n0 ∧ iv = .int .i64 (t : Int) ∧ Le w wr ∧ (∀ u, u < t → T0 u ≠ b2)) ∧ n0 - (intOf iv).toNat < gk)
  case atStart => exact ⟨⟨0, by omega, rfl, Le.refl _, fun u hu => by omega⟩, by simp only [intOf]; omega⟩
  case round =>
    obtain ⟨⟨t, ht, rfl, hl, hex⟩, hgk⟩ := hrel
    simp only [intOf, Int.toNat_natCast] at hgk
    obtain ⟨w1, hwr⟩ : ∃ x, x = wr := ⟨_, rfl⟩
    subst hwr
    replace H0 := Lib.hid (H0.out.le hl)
    replace H1 := Lib.hid (H1.out.le hl)
    replace HG := Lib.hid (HG.out.le hl)
    replace HL := Lib.hid (HL.out.trans hl)
    have HK1 := Lib.hid hl
    clear hl
    have Xhex := Lib.hid hex
    clear hex
    by_cases hlt : t < n0
    · obtain ⟨g, o, rfl, _, _, hg3⟩ := Rd.c H0.out.rd (by omega)
      have hc1 := hg3 t hlt
      simp only [bv] at hc1
      clear hg3
      by_cases hte : T0 t = b2
      · rw [hte] at hc1
        clear hte
        go_wp2
        go_ret
        exact ⟨rfl, HL.out⟩
      · have hne : (((T0 t : Nat) : Int) == (b2 : Int)) = false := beq_eq_false_iff_ne.2 (by omega)
        have HTE := Lib.hid hte
        clear hte
        have HX2 : Hid (∀ u, u < t + 1 → T0 u ≠ b2) := Lib.hid (fun u hu => by
          rcases Nat.lt_or_ge u t with c | c
          · exact Xhex.out u c
          · rw [show u = t by omega]; exact HTE.out)
        go_wp2
        go_roundg (n0 - (t + 1) + 1)
        case rel => exact ⟨⟨t + 1, by omega, by go_num, HK1.out, HX2.out⟩, by simp only [intOf]; omega⟩
        case measure => omega
    · obtain rfl : n0 = t := by omega
      have ho : occ T0 n0 (cat T1 n1 fun _ => b2) (n1 + 1) n0 = 0 := occ_none (fun p hp => Xhex.out (p + n1) (by have := hp.1; omega) (strange hp))
      have HO := Lib.hid ho
      clear ho
      have hs2 := h2
      go_wp2_with fail
      refine (qCopyOwn0 H1.out).mono ?_
      rintro _ wx ⟨vY1, rfl, ho, hlx⟩
      obtain ⟨AY1, cY1, w2, hr, hb, hbl⟩ := add1 ho hlx.size (by omega) H1.out.lt b2 h2
      have hl : Le w1 w2 := Below.trans hlx hbl
      have HR := Lib.hid hr
      replace H0 := Lib.hid (H0.out.le hl)
      replace H1 := Lib.hid (H1.out.le hl)
      replace HG := Lib.hid (HG.out.le hl)
      replace HL := Lib.hid (HL.out.trans hl)
      replace HK1 := Lib.hid (HK1.out.trans hl)
      have Y1 := Lib.hid hb
      clear ho hlx hbl hr hl hb
      go_wp2_with (at_builtin; refine wpList_append_run rfl rfl rfl rfl HR.out ?_)
      clear HR
      refine (lookup0 H0.out Y1.out HG.out (-1) (by omega) (by omega)).mono ?_
      rintro _ w3 ⟨AR1, cR1, rfl, hsa, hb, hl⟩
      replace H0 := Lib.hid (H0.out.le hl)
      replace H1 := Lib.hid (H1.out.le hl)
      replace Y1 := Lib.hid (Y1.out.le hl)
      replace HG := Lib.hid (HG.out.le hl)
      replace HL := Lib.hid (HL.out.trans hl)
      replace HK1 := Lib.hid (HK1.out.trans hl)
      have R1 := Lib.hid hb
      clear hl hb
      clear hsa
      rw [num_neg (by omega), HO.out] at R1 ⊢
      have hone := strange_one Xhex.out
      have HONE := Lib.hid hone
      clear hone
      go_wp2_with fail
      refine (qCopyOwn0 H0.out).mono ?_
      rintro _ wx ⟨vY2, rfl, ho, hlx⟩
      obtain ⟨AY2, cY2, w4, hr, hb, hbl⟩ := add1 ho hlx.size (by omega) H0.out.lt b2 h2
      have hl : Le w3 w4 := Below.trans hlx hbl
      have HR := Lib.hid hr
      replace H0 := Lib.hid (H0.out.le hl)
      replace H1 := Lib.hid (H1.out.le hl)
      replace Y1 := Lib.hid (Y1.out.le hl)
      replace R1 := Lib.hid (R1.out.le hl)
      replace HG := Lib.hid (HG.out.le hl)
      replace HL := Lib.hid (HL.out.trans hl)
      replace HK1 := Lib.hid (HK1.out.trans hl)
      have Y2 := Lib.hid hb
      clear ho hlx hbl hr hl hb
      obtain ⟨hb, hl⟩ := lit1 w4 b2 h2
      obtain ⟨w5, hwl⟩ : ∃ wl, wl = w4.alloc (.cells #[.int .u8 ((b2 : Nat) : Int)] 5) := ⟨_, rfl⟩
      rw [← hwl] at hb hl
      replace H0 := Lib.hid (H0.out.le hl)
      replace H1 := Lib.hid (H1.out.le hl)
      replace Y1 := Lib.hid (Y1.out.le hl)
      replace R1 := Lib.hid (R1.out.le hl)
      replace Y2 := Lib.hid (Y2.out.le hl)
      replace HG := Lib.hid (HG.out.le hl)
      replace HL := Lib.hid (HL.out.trans hl)
      replace HK1 := Lib.hid (HK1.out.trans hl)
      have Y3 := Lib.hid hb
      have HWL := Lib.hid hwl
      clear hb hl hwl
      go_wp2_with (at_builtin; refine wpList_append_guard (by rfl) rfl rfl rfl HR.out ?_)
      rw [← HWL.out]
      clear HR HWL
      refine (count0 Y2.out Y3.out HG.out).mono ?_
      rintro _ w6 ⟨rfl, hl⟩
      replace H0 := Lib.hid (H0.out.le hl)
      replace H1 := Lib.hid (H1.out.le hl)
      replace Y1 := Lib.hid (Y1.out.le hl)
      replace R1 := Lib.hid (R1.out.le hl)
      replace Y2 := Lib.hid (Y2.out.le hl)
      replace Y3 := Lib.hid (Y3.out.le hl)
      replace HG := Lib.hid (HG.out.le hl)
      replace HL := Lib.hid (HL.out.trans hl)
      replace HK1 := Lib.hid (HK1.out.trans hl)
      clear hl
      rw [HONE.out]
      go_wp2
      go_ret
      exact ⟨rfl, HL.out⟩
end Go.Proofs.YtclebgpnfinppaaDoor
