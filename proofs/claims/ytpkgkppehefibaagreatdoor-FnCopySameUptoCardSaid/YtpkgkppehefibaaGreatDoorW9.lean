/- (*Index).Write. -/
import Derived.Test.YtpkgkppehefibaaGreatDoorW7
import Derived.Test.YtpkgkppehefibaaGreatDoorWS
import Derived.Test.YtpkgkppehefibaaGreatDoorWB
namespace Go.Proofs.YtpkgkppehefibaaGreatDoor
open Go.RowKit Sa

/-- the loop of Write -/
structure WrI (w0 : World) (b q p bs n : Nat) (d : Nat → Nat) (f0 B0 : Nat → Nat) (wr : World) (a os c g l : Nat) (f B : Nat → Nat) : Prop where
  le : a ≤ n
  ib : Ib wr p bs os (n - a) c
  kc : n - a ≤ c
  sa : ∀ i, i < n - a → wr.cell? ⟨bs, os + i, none⟩ = some (.int .i32 ((d (a + i) : Nat) : Int))
  buf : Buf wr b (some g) l f 0
  row : Row8 wr q 16384 B
  gw : w0.heap.size ≤ g
  gp : g ≠ p
  gq : g ≠ q
  ll : l ≤ 10 + n + 20 * a
  kp : Kept (fun k => k = b) w0 wr
  sz : p < wr.heap.size ∧ q < wr.heap.size
  ok : ∀ L G, Wrote l f B (fun j => d (a + j)) (n - a) L G → Wrote (10 + n) f0 B0 d n L G
set_option maxHeartbeats 6400000 in
set_option maxRecDepth 100000 in
/-- Write -/
theorem write_any (b ix n ct bs os cs lo hi : Nat) (A : Option Addr) (d T f : Nat → Nat) (w : World) (hx : Ix w ix A n ct bs os cs d) (hb : Buf w b none 0 f 0) (hT : Rd w lo hi A n (bv T)) (hhi : hi ≤ w.heap.size) (hdis : ∀ k, lo ≤ k → k < hi → k ≠ b) (hixb : ix ≠ b) (hbsb : bs ≠ b) (hbl : bs < w.heap.size) :
    Calls Tryz.prog 40 #[.pointer (some ⟨ix, 0, none⟩), .iface 65 (.pointer (some ⟨b, 0, none⟩))] w fun e w' => e = .returned .nilIface ∧ ∃ g l F, Buf w' b (some g) l F 0 ∧ Wrote (10 + n) (cat (hd0 n) 10 T) (hd0 n) d n l F ∧ w.heap.size ≤ g ∧ Kept (fun k => k = b) w w' := by
  have hna : ∀ k W, (nilAhead (k + 1) 65 (.pointer (some ⟨b, 0, none⟩)) "Write").run Tryz.prog W = .ok (some false) W := fun k W => by kernel_rfl
  have hnaF := fun W => hna 260 W
  clear hna
  have hn := hx.sm
  have hmk : ∀ W, (Instr.makeSlice 22 (.int .i64 16384) (.int .i64 16384)).run Tryz.prog W = .ok (.slice (some ⟨W.heap.size, 0, none⟩) 16384 16384) (W.alloc (.cells (madeCells #[.int .u8 0] 16384) 5)) := fun W => run_make8 16384 (by omega) W
  have hixl : ix < w.heap.size := cell_lt hx.c0
  have hbb : b < w.heap.size := by rcases hb.c with ⟨_, _, h3⟩ | ⟨_, _, _, h, _⟩; exact h3.lt; cases h
  obtain ⟨W1, hW1⟩ : ∃ W1, W1 = w.alloc (.cells (madeCells #[.int .u8 0] 16384) 5) := ⟨_, rfl⟩
  have hs1 : W1.heap.size = w.heap.size + 1 := by rw [hW1]; simp
  have hle1 : Le w W1 := by rw [hW1]; exact (Below.refl _ _).alloc (Nat.le_refl _) _
  have hk1 : Kept (fun _ => False) w W1 := Kept.le hle1
  have hr1 : Row8 W1 w.heap.size 16384 (fun _ => 0) := by rw [hW1]; exact row8_made w 16384
  have hx1 : Ix W1 ix A n ct bs os cs d := hx.below hle1 hixl hbl
  have HWI := Lib.hid (writeInt_any b w.heap.size 0 n none f (fun _ => 0) W1 (hb.kept hk1 (fun h => h) (fun _ _ h => h)) hr1 (by omega) (by simp) (by omega) (by omega))
  have e0 : ∀ ob, (w.alloc ob).cell? ⟨ix, 0, none⟩ = some (.slice A n ct) := fun ob => by rw [World.cell?_alloc_past _ _ _ hixl]; exact hx.c0
  have HX := Lib.hid hx; have HT := Lib.hid hT; have HW1 := Lib.hid hW1; have HK1 := Lib.hid hk1
  clear hx hx1 hb hT hr1 hk1 hle1 hW1
  go_enter Tryz.func40, Tryz.ntmps40
  go_wp2_with fail
  rw [← HW1.out]
  refine HWI.out.mono ?_
  rintro _ w2 ⟨rfl, g2, hB2, hR2, hg2, hk2⟩
  have hg2' : W1.heap.size ≤ g2 := by rcases hg2 with h | h; cases h; exact h
  have hk2w : Kept (fun k => k = b) w w2 := (HK1.out.mono fun _ _ h => h.elim).trans hk2 (fun j hj h => by
    rcases h with h | h | h
    · exact h
    · omega
    · cases h)
  rw [cat_zero, Nat.zero_add] at hB2
  have hT2 : Rd w2 lo hi A n (bv T) := HT.out.kept hk2w hhi (fun k h1 h2 => hdis k h1 h2)
  have hz2 : w.heap.size + 1 ≤ w2.heap.size := by have := hk2.size; omega
  have hc0 : w2.cell? ⟨ix, 0, none⟩ = some (.slice A n ct) := by
    have := hk2w.block ix hixl hixb
    rw [← HX.out.c0]; simp only [World.cell?, this]
  have HC := Lib.hid (fun W (hW : W = w2.drewN 1) => bufwrite_any b 10 n ct lo hi (some g2) (hd0 n) T A W (by rw [hW]; exact hB2.kept (kept_drew w2 1) (fun h => h) (fun _ _ h => h)) (by rw [hW]; exact hT2.kept (kept_drew w2 1) (by omega) (fun _ _ _ h => h)) (by rw [hW]; show hi ≤ w2.heap.size; omega) hdis (fun h => by cases h) (by omega))
  have HR2 := Lib.hid hR2; have HK2 := Lib.hid hk2w
  clear hB2 hR2 hg2 hk2 hk2w hT2 HWI HW1 e0
  go_wp2_with fail
  go_region_with (
    go_at_call 142
    refine (HC.out _ rfl).mono ?_
    rintro e w3 ⟨rfl, g3, hB3, hg3, hk3⟩)
  all_goals (
    have hk3w : Kept (fun k => k = b) w w3 := HK2.out.trans (((kept_drew w2 1).mono (fun _ _ h => h.elim)).trans hk3 (fun _ _ h => h)) (fun j hj h => by
      rcases h with h | h
      · exact h
      · have := Option.some.inj h; omega)
    have hR3 : Row8 w3 w.heap.size 16384 (hd0 n) := (HR2.out.kept (kept_drew w2 1) (fun h => h)).kept hk3 (fun h => by
      rcases h with h | h
      · omega
      · have := Option.some.inj h; omega)
    have hz3 : w.heap.size + 1 ≤ w3.heap.size := Nat.le_trans hz2 hk3.size
    have hg3' : w.heap.size + 1 ≤ g3 := by
      rcases hg3 with h | h
      · have := Option.some.inj h; omega
      · have : g3 = w2.heap.size := h
        omega
    have hg3'' : g3 < w3.heap.size := (buf_lt hB3).2.1
    have hcx : ∀ o, w3.cell? ⟨ix, o, none⟩ = w.cell? ⟨ix, o, none⟩ := fun o => by simp only [World.cell?, hk3w.block ix hixl hixb]
    have hc1 : w3.cell? ⟨ix, 1, none⟩ = some (.slice (some ⟨bs, os, none⟩) n cs) := (hcx 1).trans HX.out.c1
    have hc2 : w3.cell? ⟨ix, 2, none⟩ = some (.slice none 0 0) := (hcx 2).trans HX.out.c2
    obtain ⟨W4, hW4⟩ : ∃ W4, W4 = w3.alloc (.cells #[.slice (some ⟨bs, os, none⟩) n cs, .slice none 0 0] 47) := ⟨_, rfl⟩
    have hle4 : Le w3 W4 := by rw [hW4]; exact (Below.refl _ _).alloc (Nat.le_refl _) _
    have hk4 : Kept (fun _ => False) w3 W4 := Kept.le hle4
    have hI4 : WrI w b w.heap.size w3.heap.size bs n d (cat (hd0 n) 10 T) (hd0 n) W4 0 os cs g3 (10 + n) (cat (hd0 n) 10 T) (hd0 n) := by
      refine ⟨Nat.zero_le _, by rw [hW4]; exact heap_alloc_new w3 _, HX.out.cs, fun i hi => ?_, hB3.kept hk4 (fun h => h) (fun _ _ h => h), hR3.kept hk4 (fun h => h), by omega, by omega, by omega, by omega, hk3w.trans hk4 (fun _ _ h => h.elim), ⟨by rw [hW4]; simp, Nat.lt_of_lt_of_le (by omega) hle4.size⟩, fun L G h => ?_⟩
      · have e1 := (hk3w.trans (P := fun k => k = b) hk4 (fun _ _ h => h.elim)).block bs hbl hbsb
        have e2 := HX.out.sa i hi
        rw [Nat.zero_add, ← e2]; simp only [World.cell?, e1]
      · simpa using h
    have HI4 := Lib.hid hI4; have HW4 := Lib.hid hW4
    clear hB3 hg3 hk3 hk3w hR3 hcx hle4 hk4 hI4 hW4
    go_wp2_with fail
    rw [← HW4.out]
    clear HW4
    go_loopg [] (n + 1) (fun gk wr => ∃ a os' c' g' l' f' B', WrI w b w.heap.size w3.heap.size bs n d (cat (hd0 n) 10 T) (hd0 n) wr a os' c' g' l' f' B' ∧ n - a < gk)
    case atStart => exact ⟨0, _, _, _, _, _, _, HI4.out, by omega⟩
    case round =>
      obtain ⟨a, os', c', g', l', f', B', hI, hgk⟩ := hrel
      have hale := hI.le
      have hib := hI.ib
      have HLEN := Lib.hid (len_at w3.heap.size 0 (n - a) c' (some ⟨bs, os', none⟩) wr (by omega) hib.c0 hib.c1)
      have HI := Lib.hid hI
      clear hI hib
      by_cases hlt : a < n
      · have hgt : (0 : Int) < ((n - a : Nat) : Int) := by omega
        go_wp2_with fail
        refine HLEN.out.mono ?_
        rintro _ wl ⟨rfl, nl, hwl⟩
        clear HLEN
        subst hwl
        have hibl : Ib (wr.drewN nl) w3.heap.size bs os' (n - a) c' := HI.out.ib
        have hib0 := hibl.c0; have hib1 := hibl.c1
        have hdl : ∀ j, j < n - a → d (a + j) < 1073741824 := fun j hj => by have := HX.out.dl (a + j) (by omega); omega
        have HWS := Lib.hid (writeSlice_any b w.heap.size l' bs os' (n - a) c' (some g') f' B' (fun j => d (a + j)) (wr.drewN nl) (HI.out.buf.kept (kept_drew wr nl) (fun h => h) (fun _ _ h => h)) (HI.out.row.kept (kept_drew wr nl) (fun h => h)) (by omega) (fun h => HI.out.gq (Option.some.inj h).symm) (by omega) hbsb HI.out.sa hdl (by omega) HI.out.kc (by simp) (by have := HI.out.ll; omega))
        clear hibl
        go_wp2_with fail
        refine HWS.out.mono ?_
        rintro _ w5 ⟨i, g5, rfl, hch, hB5, hR5, hg5, hk5⟩
        clear HWS
        have hi1 := hch.pos1 (by omega)
        have hile := hch.le
        have hp5 := HI.out.sz.1
        have hkr5 : Kept (fun k => k = b ∨ k = w.heap.size ∨ k = g') wr w5 := ((kept_drew wr nl).mono (fun _ _ h => h.elim)).trans hk5 (fun _ _ h => by
          rcases h with h | h | h
          · exact .inl h
          · exact .inr (.inl h)
          · exact .inr (.inr (Option.some.inj h)))
        have hib5 : Ib w5 w3.heap.size bs os' (n - a) c' := HI.out.ib.kept hkr5 (fun h => by
          have := HI.out.gp
          omega)
        have HLEN := Lib.hid (len_at w3.heap.size 0 (n - a) c' (some ⟨bs, os', none⟩) w5 (by omega) hib5.c0 hib5.c1)
        have HCH := Lib.hid hch; have HB5 := Lib.hid hB5; have HR5 := Lib.hid hR5; have HG5 := Lib.hid hg5; have HK5 := Lib.hid hkr5; have HI5 := Lib.hid hib5
        clear hch hB5 hR5 hg5 hk5 hkr5 hib5
        go_wp2_with fail
        refine HLEN.out.mono ?_
        rintro _ wm ⟨rfl, nm, hwm⟩
        clear HLEN
        subst hwm
        have hibm : Ib (w5.drewN nm) w3.heap.size bs os' (n - a) c' := HI5.out
        have HSL := Lib.hid (slice_at w3.heap.size 0 bs os' (n - a) c' i (n - a) (w5.drewN nm) hibm.c0 (by omega) HI.out.kc hile (Nat.le_refl _))
        clear hibm
        go_wp2_with fail
        refine HSL.out.mono ?_
        rintro _ w6 ⟨o', rfl, ho', hb6⟩
        clear HSL
        have hk6 : Kept (fun _ => False) w5 w6 := (kept_drew w5 nm).trans (Kept.le hb6) (fun _ _ h => h)
        have hib6 : Ib w6 w3.heap.size bs os' (n - a) c' := HI5.out.kept hk6 (fun h => h)
        have q0 := hib6.c0; have q1 := hib6.c1; have q2 := hib6.z 0; have q3 := hib6.z 1
        have HI6 := Lib.hid hib6; have HK6 := Lib.hid hk6; have HO := Lib.hid ho'
        clear hib6 hk6 hb6 ho'
        have hnew : ∀ W : World, W = (w6.setCell ⟨w3.heap.size, 0, none⟩ (.slice (some ⟨bs, o', none⟩) (n - a - i) (c' - i))).setCell ⟨w3.heap.size, 1, none⟩ (.slice none 0 0) → WrI w b w.heap.size w3.heap.size bs n d (cat (hd0 n) 10 T) (hd0 n) W (a + i) o' (c' - i) g5 (l' + (10 + (enL (fun j => d (a + j)) i).length)) (cat f' l' (outB B' (fun j => d (a + j)) i)) (outB B' (fun j => d (a + j)) i) := fun W hW => by
          have hgp := HI.out.gp; have hgq := HI.out.gq; have hkc := HI.out.kc; have hll := HI.out.ll
          have hk7 : Kept (fun k => k = w3.heap.size) w5 W := by
            rw [hW]; exact Kept.setCell (P := fun k => k = w3.heap.size) (Kept.setCell (P := fun k => k = w3.heap.size) (HK6.out.mono fun _ _ h => h.elim) (fun _ => rfl) _) (fun _ => rfl) _
          have hkr : Kept (fun k => k = b ∨ k = w.heap.size ∨ k = g' ∨ k = w3.heap.size) wr W := (HK5.out.mono fun _ _ h => by
            rcases h with h | h | h
            · exact .inl h
            · exact .inr (.inl h)
            · exact .inr (.inr (.inl h))).trans hk7 (fun _ _ h => .inr (.inr (.inr h)))
          have hg5 : g5 = g' ∨ wr.heap.size ≤ g5 := by
            rcases HG5.out with h | h
            · exact .inl (Option.some.inj h)
            · exact .inr h
          have hgw := HI.out.gw; have hpz := HI.out.sz.1; have hqz := HI.out.sz.2
          have hgl' := (buf_lt HI.out.buf).2.1
          have hbsg : bs ≠ g' := by omega
          have hbsw : bs < wr.heap.size := Nat.lt_of_lt_of_le hbl HI.out.kp.size
          have hlen := enL_len (d := fun j => d (a + j)) (k := i) fun j hj => hdl j (by omega)
          refine ⟨by omega, ?_, by omega, fun j hj => ?_, HB5.out.kept hk7 (by omega) (fun g hg => by obtain rfl := Option.some.inj hg; omega), HR5.out.kept hk7 (by omega), by omega, by omega, by omega, by omega, HI.out.kp.trans hkr (fun j hj h => by omega), ⟨Nat.lt_of_lt_of_le hpz hkr.size, Nat.lt_of_lt_of_le hqz hkr.size⟩, fun L G h => ?_⟩
          · rw [hW, ← Nat.sub_sub]; exact HI6.out.set o' (n - a - i) (c' - i)
          · have e1 := hkr.block bs hbsw (fun h => by omega)
            have e2 := HI.out.sa (i + j) (by omega)
            rw [← Nat.add_assoc, ← HO.out (by omega)] at e2
            rw [Nat.add_assoc, ← e2]; simp only [World.cell?, e1]
          · refine HI.out.ok L G (.more _ _ _ _ _ i _ _ (by omega) HCH.out ?_)
            have e : (fun j => d (a + i + j)) = (fun j => (fun j => d (a + j)) (i + j)) := by funext j; simp only [Nat.add_assoc]
            rw [e, ← Nat.sub_sub] at h
            exact h
        have HNEW := Lib.hid hnew
        clear hnew
        go_wp2_with fail
        go_roundg (n - (a + i) + 1)
        case rel => exact ⟨a + i, _, _, _, _, _, _, HNEW.out _ rfl, by omega⟩
        case measure => omega
      · obtain rfl : a = n := by omega
        have hgt : ¬ ((0 : Int) < ((a - a : Nat) : Int)) := by omega
        go_wp2_with fail
        refine HLEN.out.mono ?_
        rintro _ wl ⟨rfl, nl, hwl⟩
        clear HLEN
        subst hwl
        go_wp2
        go_ret
        have hok := HI.out.ok l' f' (by rw [Nat.sub_self]; exact .done _ _ _ _)
        exact ⟨rfl, g', l', f', HI.out.buf.kept (kept_drew wr nl) (fun h => h) (fun _ _ h => h), hok, HI.out.gw, HI.out.kp.drew nl⟩)
end Go.Proofs.YtpkgkppehefibaaGreatDoor
