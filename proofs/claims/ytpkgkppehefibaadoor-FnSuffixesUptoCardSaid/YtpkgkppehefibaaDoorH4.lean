/- impl.IndexMany, IndexManyCounts; copies; sameIndices. -/
import Derived.Test.YtpkgkppehefibaaDoorH3
namespace Go.Proofs.YtpkgkppehefibaaDoor
open Go.RowKit Sa

/-- a row of the call's own in a world that has grown -/
theorem own_le {w w' : World} {base : Nat} {ty : TypeId} {v : Value} {m : Nat} {xs : List Value} (h : w.ownsRow base ty 1 v m xs) (k : Le w w') : w'.ownsRow base ty 1 v m xs := by
  refine ⟨h.1, ?_⟩
  rcases h.2 with h2 | ⟨g, cap, cur, e, h3, h4, h5⟩
  · exact .inl h2
  · refine .inr ⟨g, cap, cur, e, h3, ?_, h5⟩
    have hlt : g < w.heap.size := by
      rcases Nat.lt_or_ge g w.heap.size with c | c
      · exact c
      · rw [Array.getElem?_eq_none c] at h4; cases h4
    rw [k.block g hlt]; exact h4
theorem infoSI : (Tryd.prog.info? 26).map (fun i => (i.zero, i.size, i.bytes)) = some (some (.slice none 0 0), 1, 24) := by kernel_rfl
theorem infoSB : (Tryd.prog.info? 22).map (fun i => (i.zero, i.size, i.bytes)) = some (some (.slice none 0 0), 1, 24) := by kernel_rfl
theorem addSI (w : World) (base : Nat) (v : Value) (m : Nat) (xs : List Value) (hown : w.ownsRow base 26 1 v m xs) (hm : m < 1073741823) (hbase : base ≤ w.heap.size) (A : Option Addr) (k c : Nat) :
    ∃ v' w', (∀ ty', (Builtin.append_ #[24, 24] ty' #[v, .slice (some ⟨w.heap.size, 0, none⟩) 1 1]).run Tryd.prog (w.alloc (.cells #[.slice A k c] 26)) = .ok v' w') ∧ w'.ownsRow base 26 1 v' (m + 1) (xs ++ [.slice A k c]) ∧ Below base w w' ∧
      ∀ lo A n f, Rd w lo w.heap.size A n f → FarR v A n → Rd w' lo w'.heap.size A n f ∧ FarR v' A n := by
  obtain ⟨i0, hi, hz0, hz1, hz2⟩ := info_parts infoSI
  exact addRow Tryd.underlying24 hi hz0 hz1 hz2 rfl (by omega) w base v m xs hown hm hbase _ rfl
theorem addSB (w : World) (base : Nat) (v : Value) (m : Nat) (xs : List Value) (hown : w.ownsRow base 22 1 v m xs) (hm : m < 1073741823) (hbase : base ≤ w.heap.size) (A : Option Addr) (k c : Nat) :
    ∃ v' w', (∀ ty', (Builtin.append_ #[23, 23] ty' #[v, .slice (some ⟨w.heap.size, 0, none⟩) 1 1]).run Tryd.prog (w.alloc (.cells #[.slice A k c] 22)) = .ok v' w') ∧ w'.ownsRow base 22 1 v' (m + 1) (xs ++ [.slice A k c]) ∧ Below base w w' ∧
      ∀ lo A n f, Rd w lo w.heap.size A n f → FarR v A n → Rd w' lo w'.heap.size A n f ∧ FarR v' A n := by
  obtain ⟨i0, hi, hz0, hz1, hz2⟩ := info_parts infoSB
  exact addRow Tryd.underlying23 hi hz0 hz1 hz2 rfl (by omega) w base v m xs hown hm hbase _ rfl

/-- A ROW OF SLICES THAT GROWS, its elements with it: t slices, read as f -/
structure Rows1 (w : World) (lo C : Nat) (ty : TypeId) (v : Value) (t : Nat) (B : Nat → Option Addr) (m e : Nat → Nat) (f : Nat → Nat → Value) : Prop where
  own : w.ownsRow C ty 1 v t ((List.range t).map fun j => .slice (B j) (m j) (e j))
  el : ∀ j, j < t → Rd w lo w.heap.size (B j) (m j) (f j) ∧ FarR v (B j) (m j) ∧ m j ≤ e j
theorem Rows1.le {w w' : World} {lo C : Nat} {ty : TypeId} {v : Value} {t : Nat} {B : Nat → Option Addr} {m e : Nat → Nat} {f : Nat → Nat → Value} (h : Rows1 w lo C ty v t B m e f) (k : Le w w') : Rows1 w' lo C ty v t B m e f :=
  ⟨own_le h.own k, fun j hj => ⟨(h.el j hj).1.le1 k, (h.el j hj).2⟩⟩
theorem Rows1.nil {w : World} {lo C : Nat} {ty : TypeId} {B : Nat → Option Addr} {m e : Nat → Nat} {f : Nat → Nat → Value} : Rows1 w lo C ty (.slice none 0 0) 0 B m e f := ⟨nil_own w _ _, fun j hj => by omega⟩
/-- one slice more -/
theorem Rows1.snoc {w w' : World} {lo C : Nat} {ty : TypeId} {v v' : Value} {t : Nat} {B : Nat → Option Addr} {m e : Nat → Nat} {f : Nat → Nat → Value} {A : Option Addr} {k c : Nat} (h : Rows1 w lo C ty v t B m e f)
    (ho : w'.ownsRow C ty 1 v' (t + 1) (((List.range t).map fun j => .slice (B j) (m j) (e j)) ++ [.slice A k c])) (hk : ∀ lo A n f, Rd w lo w.heap.size A n f → FarR v A n → Rd w' lo w'.heap.size A n f ∧ FarR v' A n) (hA : Rd w lo w.heap.size A k (f t)) (hF : FarR v A k) (hm : m t = k) (hc : k ≤ c) :
    Rows1 w' lo C ty v' (t + 1) (fun j => if j = t then A else B j) m (fun j => if j = t then c else e j) f := by
  constructor
  · rw [map_snoc] at ho
    have : ((List.range (t + 1)).map fun j => if j = t then Value.slice A k c else .slice (B j) (m j) (e j)) = (List.range (t + 1)).map fun j => .slice (if j = t then A else B j) (m j) (if j = t then c else e j) :=
      List.map_congr_left fun j _ => by
        by_cases c : j = t
        · simp only [if_pos c]; rw [c, hm]
        · simp only [if_neg c]
    rw [this] at ho
    exact ho
  · intro j hj
    by_cases c' : j = t
    · subst c'
      simp only [if_true]
      rw [hm]
      obtain ⟨h1, h2⟩ := hk _ _ _ _ hA hF
      exact ⟨h1, h2, hc⟩
    · simp only [if_neg c']
      obtain ⟨h1, h2, h3⟩ := h.el j (by omega)
      obtain ⟨h4, h5⟩ := hk _ _ _ _ h1 h2
      exact ⟨h4, h5, h3⟩

set_option maxHeartbeats 1000000 in
set_option maxRecDepth 100000 in
/-- impl.IndexMany -/
theorem many0 {A : Option Addr} {n c : Nat} {T : Nat → Nat} {L : Option Addr} {nl cl : Nat} {B : Nat → Option Addr} {m e : Nat → Nat} {S : Nat → Nat → Nat} {w : World} (h : Bs w A n c T) (h' : Bss w L nl cl B m e S) (hnl : nl < 1048577) (hg : MaxOk w) (N : Int) (hN1 : -9223372036854775808 ≤ N) (hN2 : N ≤ 9223372036854775807) :
    Calls Tryd.prog 9 #[.slice A n c, .slice L nl cl, .int .i64 N] w fun e w' => ∃ A' c' B' e', e = .returned (.slice A' nl c') ∧ HasSA T n ∧ Iss w' w.heap.size A' nl c' B' (fun j => num T n (S j) (m j) N) e' (fun j i => (hit T n (S j) (m j) i : Nat)) ∧ Le w w' := by
  have H := Lib.hid h; have HG := Lib.hid hg; have H' := Lib.hid h'
  have hn := h.sm
  clear h hg h'
  go_enter Tryd.func9, Tryd.ntmps9
  go_wp2_with fail
  refine (kept_any A n c 0 _ T w hn (Nat.le_refl _) H.out.rd).mono ?_
  rintro _ w1 ⟨A1, c1, rfl, hc1, hw1, hb1⟩
  have H1 := Lib.hid hc1; have H2 := Lib.hid hw1; have H3 := Lib.hid hb1
  clear hc1 hw1 hb1
  go_wp2_with fail
  refine (new_any A1 c1 n T w1 hn H1.out (H2.out.toRd.txt H.out.lt) (HG.out.below H3.out HG.out.lt)).mono ?_
  rintro _ w2 ⟨ix, bs, d, rfl, hx, hix, hsa, hbs, hb2⟩
  have HX := Lib.hid hx; have HSA := Lib.hid hsa
  have HBW : Hid (Le w w2) := Lib.hid (Le.trans H3.out hb2)
  have TX : Hid (Rd w2 0 w2.heap.size A1 n (bv T)) := (H2.out.toRd.below hb2 (Nat.le_refl _)).mono (Nat.zero_le _) hb2.size
  have HIX : Hid (ix < w2.heap.size) := cell_lt hx.c0
  have HBS := Lib.hid hbs
  replace H' := Lib.hid (H'.out.le HBW.out)
  clear hx hsa hb2 hix hbs H2 H3
  go_wp2_with fail
  go_loopg [8, 16] (nl + 1) (fun gk ov iv wr => (∃ (t : Nat) (B' : Nat → Option Addr) (e' : Nat → Nat), t ≤ nl ∧ iv = .int .i64 (t : Int) ∧ Rows1 wr w2.heap.size w2.heap.size 26 ov t B' (fun j => num T n (S j) (m j) N) e' (fun j => Go.Proofs.YtpkgkppehefibaaDoor.iv fun i => (hit T n (S j) (m j) i : Nat)) ∧ Below w2.heap.size w2 wr) ∧ nl - (intOf iv).toNat < gk)
  case atStart => exact ⟨⟨0, fun _ => none, fun _ => 0, by omega, rfl, Rows1.nil, Below.refl _ _⟩, by simp [intOf]⟩
  case round =>
    obtain ⟨⟨t, B', e', ht, rfl, hrow, hbl⟩, hgk⟩ := hrel
    simp only [intOf, Int.toNat_natCast] at hgk
    have HR := Lib.hid hrow; have HB := Lib.hid hbl
    clear hrow hbl
    by_cases hlt : t < nl
    · obtain ⟨g, o, rfl, _, _, hg3⟩ := Rd.c (Rd.below H'.out.rd HB.out (Nat.le_refl _)) (by omega)
      have hc1 := hg3 t hlt
      clear hg3
      have hel := H'.out.el t hlt
      have HEL := Lib.hid hel
      have hms := hel.sm
      clear hel
      go_wp2_with fail
      refine (lookup_any ix n c1 bs 0 n A1 d T (B t) (m t) (e t) (S t) N wr (HX.out.below HB.out HIX.out HBS.out) (Nat.lt_of_lt_of_le HBS.out HB.out.size) HSA.out ((TX.out.below HB.out (Nat.le_refl _)).mono (Nat.le_refl _) HB.out.size)
        ((Rd.below HEL.out.rd HB.out (Nat.le_refl _)).mono (Nat.le_refl _) HB.out.size) H.out.lt HEL.out.lt hms hN1 hN2).mono ?_
      rintro _ w3 ⟨r, q, k, A3, c3, rfl, hc3, hfd, hk0, hw3, hb3⟩
      have hlk : Looked T n (S t) (m t) N d r q k := ⟨HSA.out, hfd⟩
      have hkn : k ≤ n := hlk.kn
      have HIS := Lib.hid hlk.is
      have HW3 := Lib.hid hw3; have HB3 := Lib.hid hb3
      clear hc3 hfd hk0 hw3 hb3 hlk
      go_wp2_with fail
      refine (listed_any A3 k c3 _ _ _ w3 (by omega) HW3.out.toRd).mono ?_
      rintro _ w4 ⟨A4, c4, rfl, hc4, hw4, hb4⟩
      have HL4 : Hid (Le wr w4) := Lib.hid (Le.trans HB3.out hb4)
      have hw5 : Rd w4 wr.heap.size w4.heap.size A4 k (Go.Proofs.YtpkgkppehefibaaDoor.iv fun i => (hit T n (S t) (m t) i : Nat)) := (hw4.toRd.mono HB3.out.size (Nat.le_refl _)).congr fun i hi => by unfold Go.Proofs.YtpkgkppehefibaaDoor.iv; simp only [HIS.out.2.2 i hi]
      have HR4 := Lib.hid (HR.out.le HL4.out)
      have HF4 := Lib.hid (FarR.new HR.out.own hw5)
      have HW5 : Hid (Rd w4 w2.heap.size w4.heap.size A4 k (Go.Proofs.YtpkgkppehefibaaDoor.iv fun i => (hit T n (S t) (m t) i : Nat))) := Lib.hid (hw5.mono HB.out.size (Nat.le_refl _))
      have HC4 := Lib.hid hc4
      have HB4 : Hid (Below w2.heap.size w2 w4) := Lib.hid (HB.out.trans (Below.mono HL4.out HB.out.size))
      clear hc4 hw4 hb4 hw5 HW3 HB3 HR HB HL4
      obtain ⟨v', w5, hr, ho5, hb5, hk5⟩ := addSI w4 w2.heap.size u8 t _ HR4.out.own (by omega) HB4.out.size A4 k c4
      have HRUN := Lib.hid hr
      have HR5 := Lib.hid (HR4.out.snoc ho5 hk5 HW5.out HF4.out HIS.out.2.1.symm HC4.out)
      have HB5 := Lib.hid (HB4.out.trans hb5)
      clear hr ho5 hb5 hk5 HR4 HW5 HF4 HB4
      go_wp2_with (at_builtin; refine wpList_append_run rfl rfl rfl rfl HRUN.out ?_)
      go_roundg (nl - (t + 1) + 1)
      case rel => exact ⟨⟨t + 1, _, _, by omega, by go_num, HR5.out, HB5.out⟩, by simp only [intOf]; omega⟩
      case measure => omega
    · obtain rfl : nl = t := by omega
      obtain ⟨A', c', he, h3, h4⟩ := Wr.of_own (f := fun j => .slice (B' j) (num T n (S j) (m j) N) (e' j)) HR.out.own map_range
      have H4 := Lib.hid h4; have HE := Lib.hid he; have H3 := Lib.hid h3
      clear h3 h4 he
      go_wp2
      go_ret
      refine ⟨A', c', B', e', congrArg Ending.returned HE.out, ⟨d, HSA.out⟩, ⟨H4.out.toRd.mono HBW.out.size (Nat.le_refl _), fun j hj => ?_, H3.out, H'.out.sm⟩, HBW.out.trans HB.out⟩
      obtain ⟨h5, h6, h7⟩ := HR.out.el j hj
      exact ⟨h5.mono HBW.out.size (Nat.le_refl _), h7, by have := num_le (T := T) (S := S j) (n := n) (m := m j) (N := N); have := occ_le (T := T) (S := S j) (n := n) (m := m j); omega⟩

/-- how often v is in a list -/
def cntI (F : Nat → Int) (v : Int) (n : Nat) : Nat := cn (fun i => F i == v) n
end Go.Proofs.YtpkgkppehefibaaDoor
