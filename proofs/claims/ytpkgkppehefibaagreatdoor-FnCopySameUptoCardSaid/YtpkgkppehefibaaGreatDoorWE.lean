/- (*Index).Read. -/
import Derived.Test.YtpkgkppehefibaaGreatDoorWC
import Derived.Test.YtpkgkppehefibaaGreatDoorWD
namespace Go.Proofs.YtpkgkppehefibaaGreatDoor
open Go.RowKit Sa

theorem Strm.inv {f d : Nat → Nat} {o k e : Nat} (h : Strm f o d k e) (hk : 0 < k) : ∃ i, Chunk d k i ∧ At f o (Lib.uvarint (Lib.zigzag ((10 + (enL d i).length : Nat) : Int))) ∧ At f (o + 10) (enL d i) ∧ o + (10 + (enL d i).length) ≤ e ∧ Strm f (o + (10 + (enL d i).length)) (fun j => d (i + j)) (k - i) e := by
  cases h with
  | done => exact absurd hk (by omega)
  | more _ _ _ i _ h0 h1 h2 h3 h4 h5 => exact ⟨i, h1, h2, h3, h4, h5⟩
theorem putf_zero (B : Nat → Nat) (o : Nat) (S : Nat → Nat) : putf B o 0 S = B := by funext i; unfold putf; rw [if_neg (by omega)]
/-- io.ReadFull of n bytes, none among them -/
theorem readfull_row (b g q l of o n m c : Nat) (f B : Nat → Nat) (w : World) (h : Buf w b (some g) l f of) (hq : Row8 w q m B) (hqb : q ≠ b) (hqg : q ≠ g) (hnl : n < 1073741824) (hof : of + n ≤ l) (hon : o + n ≤ m) (hnc : n ≤ c) :
    Calls Tryz.prog 51 #[.iface 65 (.pointer (some ⟨b, 0, none⟩)), .slice (some ⟨q, o, none⟩) n c] w fun e w' => e = .returned (.tuple #[.int .i64 (n : Int), .nilIface]) ∧ Buf w' b (some g) l f (of + n) ∧ Row8 w' q m (putf B o n (fun i => f (of + i))) ∧ Kept (fun k => k = b ∨ k = q) w w' := by
  rcases Nat.eq_zero_or_pos n with rfl | hn
  · refine (readfull_zero _ (some ⟨q, o, none⟩) c w).mono ?_
    rintro _ w' ⟨rfl, k, rfl⟩
    rw [putf_zero]
    exact ⟨rfl, h.kept (kept_drew w k) (fun h => h) (fun _ _ h => h), hq.kept (kept_drew w k) (fun h => h), (kept_drew w k).mono fun _ _ h => h.elim⟩
  · exact readfull_any b g q l of o n m c f B w h hq hqb hqg hn hnl hof hon hnc
theorem MaxOk.kept {P : Nat → Prop} {w w' : World} (h : MaxOk w) (k : Kept P w w') (hp : ¬ P 0) : MaxOk w' := by
  have hl := h.lt
  unfold MaxOk at h ⊢
  rw [← h]; simp only [World.cell?, k.block _ hl hp]
theorem rdf_rdf (F : Nat → Int) (d : Nat → Nat) (a i : Nat) : rdf (rdf F d 0 a) (fun j => d (a + j)) a i = rdf F d 0 (a + i) := by
  funext j; unfold rdf
  by_cases h : a ≤ j ∧ j < a + i
  · rw [if_pos h, if_pos (by omega)]
    show ((d (a + (j - a)) : Nat) : Int) = ((d (j - 0) : Nat) : Int)
    congr 2; omega
  · rw [if_neg h]
    by_cases h2 : j < a
    · rw [if_pos (by omega), if_pos (by omega)]
    · rw [if_neg (by omega), if_neg (by omega)]
theorem Reg.pre {w : World} {b o n k : Nat} {F : Nat → Int} (h : Reg w b o n F) (hk : k ≤ n) : Reg w b o k F := ⟨fun i hi => h.c i (by omega), fun i hi => h.z i (by omega)⟩
/-- the old index can hold what is read -/
structure Reuse (w : World) (b g ix base n c0 : Nat) (gd bs : Nat) : Prop where
  nc : n ≤ c0
  cn : c0 ≤ 2 * n
  row : ∃ B, Row8 w gd c0 B
  reg : ∃ F, Reg w bs 0 c0 F
  sm : c0 < 1073741824
  db : gd ≠ b
  dg : gd ≠ g
  dx : gd ≠ ix
  sb : bs ≠ b
  sg : bs ≠ g
  sx : bs ≠ ix
  sd : bs ≠ gd
  lt : bs < w.heap.size
  bd : base ≤ gd
  bb : base ≤ bs
/-- Read's state: the places are laid, o bytes are read -/
structure RdS (w0 : World) (b g ix l n base q : Nat) (f : Nat → Nat) (o : Nat) (W : World) (GD BS MM CT CS OS : Nat) (TB : Nat → Nat) (F : Nat → Int) : Prop where
  x : Xb W ix (.slice (some ⟨GD, 0, none⟩) n CT) (.slice (some ⟨BS, OS, none⟩) n CS) (.slice none 0 0)
  row : Row8 W GD MM TB
  nm : n ≤ MM
  nt : n ≤ CT
  ns : n ≤ CS
  reg : Reg W BS 0 n F
  os : 0 < n → OS = 0
  buf : Buf W b (some g) l f o
  scr : ∃ B, Row8 W q 16384 B ∧ ∀ i, i < 16384 → B i < 256
  kp : Kept (fun k => base ≤ k) w0 W
  d4 : GD ≠ b ∧ GD ≠ g ∧ GD ≠ ix ∧ GD ≠ q
  s5 : BS ≠ b ∧ BS ≠ g ∧ BS ≠ ix ∧ BS ≠ q ∧ BS ≠ GD
  lt : BS < W.heap.size
  bd : base ≤ GD
  bb : base ≤ BS
  q3 : q ≠ b ∧ q ≠ g ∧ q ≠ ix
  x2 : ix ≠ b ∧ ix ≠ g
  b3 : base ≤ b ∧ base ≤ ix ∧ base ≤ q
section
variable {w0 : World} {b g ix l n base q : Nat} {f : Nat → Nat} {o : Nat} {W : World} {GD BS MM CT CS OS : Nat} {TB : Nat → Nat} {F : Nat → Int}
theorem RdS.read (h : RdS w0 b g ix l n base q f o W GD BS MM CT CS OS TB F) {W' : World} {o' : Nat} {TB' : Nat → Nat} (hb : Buf W' b (some g) l f o') (hr : Row8 W' GD MM TB') (k : Kept (fun k => k = b ∨ k = GD) W W') :
    RdS w0 b g ix l n base q f o' W' GD BS MM CT CS OS TB' F := by
  have d4 := h.d4; have s5 := h.s5; have q3 := h.q3; have x2 := h.x2; have b3 := h.b3; have bd := h.bd
  refine ⟨h.x.kept k (by omega), hr, h.nm, h.nt, h.ns, h.reg.kept k (by omega), h.os, hb, ?_, h.kp.trans k (fun j _ h => by omega), d4, s5, Nat.lt_of_lt_of_le h.lt k.size, bd, h.bb, q3, x2, b3⟩
  obtain ⟨B, h1, h2⟩ := h.scr
  exact ⟨B, h1.kept k (by omega), h2⟩
theorem RdS.quiet (h : RdS w0 b g ix l n base q f o W GD BS MM CT CS OS TB F) {W' : World} {P : Nat → Prop} (k : Kept P W W') (hP : ∀ j, P j → j ≠ b ∧ j ≠ g ∧ j ≠ ix ∧ j ≠ q ∧ j ≠ GD ∧ j ≠ BS ∧ base ≤ j) :
    RdS w0 b g ix l n base q f o W' GD BS MM CT CS OS TB F := by
  have b3 := h.b3
  refine ⟨h.x.kept k (fun e => (hP _ e).2.2.1 rfl), h.row.kept k (fun e => (hP _ e).2.2.2.2.1 rfl), h.nm, h.nt, h.ns, h.reg.kept k (fun e => (hP _ e).2.2.2.2.2.1 rfl), h.os, h.buf.kept k (fun e => (hP _ e).1 rfl) (fun g' hg e => by obtain rfl := Option.some.inj hg; exact (hP _ e).2.1 rfl), ?_, h.kp.trans k (fun j _ e => (hP _ e).2.2.2.2.2.2), h.d4, h.s5, Nat.lt_of_lt_of_le h.lt k.size, h.bd, h.bb, h.q3, h.x2, b3⟩
  obtain ⟨B, h1, h2⟩ := h.scr
  exact ⟨B, h1.kept k (fun e => (hP _ e).2.2.2.1 rfl), h2⟩
theorem RdS.slice (h : RdS w0 b g ix l n base q f o W GD BS MM CT CS OS TB F) {W' : World} {o' : Nat} {F' : Nat → Int} (hb : Buf W' b (some g) l f o') (hr : Reg W' BS 0 n F') (hs : ∃ B, Row8 W' q 16384 B ∧ ∀ i, i < 16384 → B i < 256) (k : Kept (fun k => k = b ∨ k = q ∨ k = BS) W W') :
    RdS w0 b g ix l n base q f o' W' GD BS MM CT CS OS TB F' := by
  have d4 := h.d4; have s5 := h.s5; have q3 := h.q3; have x2 := h.x2; have b3 := h.b3; have bd := h.bd; have bb := h.bb
  exact ⟨h.x.kept k (by omega), h.row.kept k (by omega), h.nm, h.nt, h.ns, hr, h.os, hb, hs, h.kp.trans k (fun j _ h => by omega), d4, s5, Nat.lt_of_lt_of_le h.lt k.size, bd, bb, q3, x2, b3⟩
end
/-- the loop of Read: a numbers are read -/
structure RdI (w0 : World) (b g ix l n base q p e : Nat) (f d T : Nat → Nat) (wr : World) (GD BS MM CT CS OS : Nat) (TB : Nat → Nat) (F : Nat → Int) (a os c o : Nat) : Prop where
  st : RdS w0 b g ix l n base q f o wr GD BS MM CT CS OS TB (rdf F d 0 a)
  le : a ≤ n
  ib : Ib wr p BS os (n - a) c
  kc : n - a ≤ c
  ho : a < n → os = a
  sm : Strm f o (fun j => d (a + j)) (n - a) e
  px : p ≠ b ∧ p ≠ g ∧ p ≠ ix ∧ p ≠ q ∧ p ≠ GD ∧ p ≠ BS ∧ base ≤ p
  tt : ∀ i, i < n → TB i = T i
theorem RdI.start {w0 : World} {b g ix l n base q e : Nat} {f d T : Nat → Nat} {o : Nat} {W : World} {GD BS MM CT CS OS : Nat} {TB : Nat → Nat} {F : Nat → Int} (h : RdS w0 b g ix l n base q f o W GD BS MM CT CS OS TB F) (hs : Strm f o d n e) (hT : ∀ i, i < n → TB i = T i) (hb : base ≤ W.heap.size) (hq : q < W.heap.size) :
    RdI w0 b g ix l n base q W.heap.size e f d T (W.alloc (.cells #[.slice (some ⟨BS, OS, none⟩) n CS, .slice none 0 0] 47)) GD BS MM CT CS OS TB F 0 OS CS o := by
  have k : Kept (fun _ => False) W (W.alloc (.cells #[.slice (some ⟨BS, OS, none⟩) n CS, .slice none 0 0] 47)) := Kept.le ((Below.refl _ _).alloc (Nat.le_refl _) _)
  obtain ⟨hbl, hgl, -⟩ := buf_lt h.buf
  have hxl := h.x.lt; have hdl := h.row.lt; have hsl := h.lt
  refine ⟨?_, Nat.zero_le _, heap_alloc_new W _, h.ns, fun h0 => by rw [h.os h0], ?_, by omega, hT⟩
  · rw [rdf_zero]; exact h.quiet k (fun _ h => h.elim)
  · simpa using hs
set_option maxHeartbeats 6400000 in
set_option maxRecDepth 100000 in
/-- Read -/
theorem read_any (b g ix l n m0 c0 e base : Nat) (A0 : Option Addr) (v1 : Value) (f d T : Nat → Nat) (w : World) (h : Buf w b (some g) l f 0) (hx : Xb w ix (.slice A0 m0 c0) v1 (.slice none 0 0)) (hg : MaxOk w)
    (hxb : ix ≠ b) (hxg : ix ≠ g) (hbase : base ≤ w.heap.size) (hbb : base ≤ b) (hbx : base ≤ ix) (hgb : 0 < base) (hf : ∀ i, i < l → f i < 256) (ha : At f 0 (Lib.uvarint (Lib.zigzag (n : Int)))) (hT : ∀ i, i < n → f (10 + i) = T i)
    (hs : Strm f (10 + n) d n e) (he : e ≤ l) (hl : 10 + n ≤ l) (hd : ∀ j, j < n → d j < n) (hn : n < 1073741824)
    (hcase : (2 * n < c0 ∨ c0 < n) ∨ ∃ gd bs, A0 = some ⟨gd, 0, none⟩ ∧ m0 = c0 ∧ v1 = .slice (some ⟨bs, 0, none⟩) c0 c0 ∧ Reuse w b g ix base n c0 gd bs) (hc0 : c0 < 4611686018427387904) :
    Calls Tryz.prog 41 #[.pointer (some ⟨ix, 0, none⟩), .iface 65 (.pointer (some ⟨b, 0, none⟩))] w fun e w' => e = .returned .nilIface ∧ ∃ gd bs os ct cs, Ix w' ix (some ⟨gd, 0, none⟩) n ct bs os cs d ∧ Rd w' gd (gd + 1) (some ⟨gd, 0, none⟩) n (bv T) ∧ gd < w'.heap.size ∧ bs < w'.heap.size ∧ Kept (fun k => base ≤ k) w w' := by
  have hmk : ∀ W, (Instr.makeSlice 22 (.int .i64 16384) (.int .i64 16384)).run Tryz.prog W = .ok (.slice (some ⟨W.heap.size, 0, none⟩) 16384 16384) (W.alloc (.cells (madeCells #[.int .u8 0] 16384) 5)) := fun W => run_make8 16384 (by omega) W
  obtain ⟨hbl, hgl, hgb'⟩ := buf_lt h
  have hixl := hx.lt
  obtain ⟨W1, hW1⟩ : ∃ W1, W1 = w.alloc (.cells (madeCells #[.int .u8 0] 16384) 5) := ⟨_, rfl⟩
  have hs1 : W1.heap.size = w.heap.size + 1 := by rw [hW1]; simp
  have hk1 : Kept (fun _ => False) w W1 := Kept.le (by rw [hW1]; exact (Below.refl _ _).alloc (Nat.le_refl _) _)
  have hr1 : Row8 W1 w.heap.size 16384 (fun _ => 0) := by rw [hW1]; exact row8_made w 16384
  have HRI := Lib.hid (readInt_any b g w.heap.size l 0 n f (fun _ => 0) W1 (h.kept hk1 (fun h => h) (fun _ _ h => h)) hr1 (by omega) (by omega) (fun _ _ => by omega) hf (by omega) (by omega) ha)
  have HX := Lib.hid hx; have HG := Lib.hid hg; have HF := Lib.hid hf; have HT := Lib.hid hT; have HST := Lib.hid hs; have HD := Lib.hid hd; have HK1 := Lib.hid hk1; have HW1 := Lib.hid hW1; have HS1 := Lib.hid hs1; have HCASE := Lib.hid hcase
  clear h hx hg hf ha hT hs hd hr1 hk1 hW1 hs1 hcase
  go_enter Tryz.func41, Tryz.ntmps41
  go_wp2_with fail
  rw [← HW1.out]
  refine HRI.out.mono ?_
  rintro _ w2 ⟨rfl, hB2, hR2, hk2⟩
  have hk2w : Kept (fun k => base ≤ k) w w2 := (HK1.out.mono fun _ _ h => h.elim).trans hk2 (fun j _ h => by omega)
  have hX2 : Xb w2 ix (.slice A0 m0 c0) v1 (.slice none 0 0) := (HX.out.kept HK1.out (fun h => h)).kept hk2 (fun h => by omega)
  have hG2 : MaxOk w2 := HG.out.kept hk2w (by omega)
  have hz2 : W1.heap.size ≤ w2.heap.size := hk2.size
  have hkb : Kept (fun k => k = b ∨ k = w.heap.size ∨ k = ix) w w2 := (HK1.out.mono fun _ _ h => h.elim).trans hk2 (fun j _ h => by omega)
  have HKB := Lib.hid hkb
  have HL2 := Lib.hid (putf_lt (B := fun _ => 0) (o := 0) (n := 10) (m := 16384) (fun _ _ => by omega) (fun i hi => HF.out (0 + i) (by omega) : ∀ i, i < 10 → (fun i => f (0 + i)) i < 256))
  have HB2 := Lib.hid hB2; have HR2 := Lib.hid hR2; have HK2 := Lib.hid hk2w; have HX2 := Lib.hid hX2; have HG2 := Lib.hid hG2; have HZ2 := Lib.hid hz2
  have x0 := hX2.c0; have x1 := hX2.c1; have x2 := hX2.c2; have z0 := hX2.z 0; have z1 := hX2.z 1; have z2 := hX2.z 2
  have gm := hG2
  unfold MaxOk at gm
  clear hB2 hR2 hk2 hk2w hX2 hG2 hz2 HRI HW1 hmk hkb
  have hn0 : ¬ ((n : Int) < 0) := by omega
  rcases HCASE.out with hal | ⟨gd, bs, rfl, rfl, rfl, hru⟩
  focus (
    have hmk8 : ∀ W, (Instr.makeSlice 22 (.int .i64 (n : Int)) (.int .i64 (n : Int))).run Tryz.prog W = .ok (.slice (some ⟨W.heap.size, 0, none⟩) n n) (W.alloc (.cells (madeCells #[.int .u8 0] n) 5)) := fun W => run_make8 n hn W
    have hmk32 : ∀ W, (Instr.makeSlice 44 (.int .i64 (n : Int)) (.int .i64 (n : Int))).run Tryz.prog W = .ok (.slice (some ⟨W.heap.size, 0, none⟩) n n) (W.alloc (.cells (madeCells #[.int .i32 0] n) 21)) := fun W => run_make32 n hn W
    have hix2 : ix < w2.heap.size := by have := HZ2.out; have := HS1.out; omega
    have hcond : ((2 : Int) * (n : Int) < (c0 : Int)) ∨ (¬ ((2 : Int) * (n : Int) < (c0 : Int)) ∧ (c0 : Int) < (n : Int)) := by omega
    have ga : ∀ v0 v1 v2 ob, ((((w2.setCell ⟨ix, 0, none⟩ v0).setCell ⟨ix, 1, none⟩ v1).setCell ⟨ix, 2, none⟩ v2).alloc ob).cell? ⟨0, 0, none⟩ = some (.int .i64 2147483647) := fun v0 v1 v2 ob => by
      have hsz : (((w2.setCell ⟨ix, 0, none⟩ v0).setCell ⟨ix, 1, none⟩ v1).setCell ⟨ix, 2, none⟩ v2).heap.size = w2.heap.size := by simp [World.setCell]
      have hne : 0 ≠ ix := by omega
      rw [World.cell?_alloc_past _ _ _ (by rw [hsz]; show _ < _; omega), cell_setCell_ne _ _ _ _ _ _ (.inl (Ne.symm hne)), cell_setCell_ne _ _ _ _ _ _ (.inl (Ne.symm hne)), cell_setCell_ne _ _ _ _ _ _ (.inl (Ne.symm hne))]
      exact gm
    have hmx : (n : Int) ≤ 2147483647 := by omega
    rcases hcond with hc | ⟨hc1, hc2⟩
    all_goals (
      go_wp2_with fail
      obtain ⟨W0, hW0⟩ : ∃ W0, W0 = (((w2.setCell ⟨ix, 0, none⟩ (.slice (some ⟨w2.heap.size, 0, none⟩) n n)).setCell ⟨ix, 1, none⟩ (.slice none 0 0)).setCell ⟨ix, 2, none⟩ (.slice none 0 0)).setCell ⟨ix, 1, none⟩ (.slice (some ⟨w2.heap.size + 1, 0, none⟩) n n) := ⟨_, rfl⟩
      have hx0 : Xb W0 ix (.slice (some ⟨w2.heap.size, 0, none⟩) n n) (.slice (some ⟨w2.heap.size + 1, 0, none⟩) n n) (.slice none 0 0) := by rw [hW0]; exact (((HX2.out.set0 _).set1 _).set2 _).set1 _
      have hk0 : Kept (fun k => k = ix) w2 W0 := by rw [hW0]; exact Kept.setCell (P := fun k => k = ix) (Kept.setCell (P := fun k => k = ix) (Kept.setCell (P := fun k => k = ix) (Kept.setCell (P := fun k => k = ix) (Kept.refl _ _) (fun _ => rfl) _) (fun _ => rfl) _) (fun _ => rfl) _) (fun _ => rfl) _
      have hs0 : W0.heap.size = w2.heap.size := by rw [hW0]; simp [World.setCell]
      rw [← hW0]
      obtain ⟨W3, hW3⟩ : ∃ W3, W3 = (W0.alloc (.cells (madeCells #[.int .u8 0] n) 5)).alloc (.cells (madeCells #[.int .i32 0] n) 21) := ⟨_, rfl⟩
      have hrg := reg_made (W0.alloc (.cells (madeCells #[.int .u8 0] n) 5)) n
      have hs1 : (W0.alloc (.cells (madeCells #[.int .u8 0] n) 5)).heap.size = w2.heap.size + 1 := by rw [World.size_alloc, hs0]
      rw [hs1, ← hW3] at hrg
      have hk3 : Kept (fun _ => False) W0 W3 := Kept.le (by rw [hW3]; exact Le.trans (show Le W0 (W0.alloc _) from (Below.refl _ _).alloc (Nat.le_refl _) _) (show Le _ _ from (Below.refl _ _).alloc (Nat.le_refl _) _))
      have hrow := row8_made W0 n
      rw [hs0] at hrow
      have hrow3 : Row8 W3 w2.heap.size n (fun _ => 0) := by rw [hW3]; exact hrow.kept (Kept.le (P := fun _ => False) (show Le _ _ from (Below.refl _ _).alloc (Nat.le_refl _) _)) (fun h => h)
      rw [← hW3]
      have hsz3 : W3.heap.size = w2.heap.size + 2 := by rw [hW3, World.size_alloc, hs1]
      have hk23 : Kept (fun k => k = ix) w2 W3 := hk0.trans (hk3.mono fun _ _ h => h.elim) (fun _ _ h => h)
      have hwz := HS1.out; have hz2' := HZ2.out
      have hS : RdS w b g ix l n base w.heap.size f 10 W3 w2.heap.size (w2.heap.size + 1) n n n 0 (fun _ => 0) (fun _ => 0) := by
        refine ⟨hx0.kept hk3 (fun h => h), hrow3, Nat.le_refl _, Nat.le_refl _, Nat.le_refl _, hrg, fun _ => rfl, ?_, ⟨_, HR2.out.kept hk23 (by omega), HL2.out⟩, HK2.out.trans hk23 (fun j _ h => by omega), by omega, by omega, by omega, by omega, by omega, by omega, by omega, by omega⟩
        have := HB2.out.kept hk23 (Ne.symm hxb) (fun g' hg' e => hxg (by rw [Option.some.inj hg', e]))
        rwa [Nat.zero_add] at this
      have HS := Lib.hid hS
      clear hW0 hW3 hs0 hs1 hrow ga hmk8 hmk32 hal hS hk23 hsz3 hrow3 hrg hx0 hk0 hk3 hwz hz2')
    all_goals clear x0 x1 x2 z0 z1 z2 gm)
  rotate_left 2
  focus (
    have hnc := hru.nc; have hcn := hru.cn; have hcs := hru.sm
    have hnn := fun w => run_neq_slice_nil_any (P := Tryz.prog) w 44 21 (some ⟨bs, 0, none⟩) m0 m0 0 0 Tryz.underlying44
    have hnn6 := fun w => run_neq_slice_nil_any (P := Tryz.prog) w 45 2 none 0 0 0 0 Tryz.underlying45
    have k1 : ¬ ((2 : Int) * (n : Int) < (m0 : Int)) := by omega
    have k2 : ¬ ((m0 : Int) < (n : Int)) := by omega
    have k3 : ¬ ((2147483647 : Int) < (n : Int)) := by omega
    obtain ⟨W0, hW0⟩ : ∃ W0, W0 = w2.setCell ⟨ix, 0, none⟩ (.slice (some ⟨gd, 0, none⟩) n m0) := ⟨_, rfl⟩
    have hx0 : Xb W0 ix (.slice (some ⟨gd, 0, none⟩) n m0) (.slice (some ⟨bs, 0, none⟩) m0 m0) (.slice none 0 0) := by rw [hW0]; exact HX2.out.set0 _
    have HSL := Lib.hid (slice_at ix 1 bs 0 m0 m0 0 n W0 hx0.c1 (by omega) (Nat.le_refl _) (Nat.zero_le _) (by omega))
    have hk0 : Kept (fun k => k = ix) w2 W0 := by rw [hW0]; exact Kept.setCell (P := fun k => k = ix) (Kept.refl _ _) (fun _ => rfl) _
    have HX0 := Lib.hid hx0; have HK0 := Lib.hid hk0; have HW0 := Lib.hid hW0; have HRU := Lib.hid hru
    clear hx0 hk0 hW0 hru
    go_wp2_with fail
    rw [← HW0.out]
    refine HSL.out.mono ?_
    rintro _ wq ⟨o', rfl, ho', hbq⟩
    simp only [Nat.sub_zero]
    have hkq : Kept (fun _ => False) W0 wq := Kept.le hbq
    have hxq : Xb wq ix (.slice (some ⟨gd, 0, none⟩) n m0) (.slice (some ⟨bs, 0, none⟩) m0 m0) (.slice none 0 0) := HX0.out.kept hkq (fun h => h)
    have q0 := hxq.c0; have q1 := hxq.c1; have q2 := hxq.c2; have q3 := hxq.z 1; have q4 := hxq.z 2
    obtain ⟨W3, hW3⟩ : ∃ W3, W3 = (wq.setCell ⟨ix, 1, none⟩ (.slice (some ⟨bs, o', none⟩) n m0)).setCell ⟨ix, 2, none⟩ (.slice none 0 0) := ⟨_, rfl⟩
    have hx3 : Xb W3 ix (.slice (some ⟨gd, 0, none⟩) n m0) (.slice (some ⟨bs, o', none⟩) n m0) (.slice none 0 0) := by rw [hW3]; exact (hxq.set1 _).set2 _
    have hk3 : Kept (fun k => k = ix) wq W3 := by rw [hW3]; exact Kept.setCell (P := fun k => k = ix) (Kept.setCell (P := fun k => k = ix) (Kept.refl _ _) (fun _ => rfl) _) (fun _ => rfl) _
    have hk23 : Kept (fun k => k = ix) w2 W3 := (HK0.out.trans (hkq.mono fun _ _ h => h.elim) (fun _ _ h => h)).trans hk3 (fun _ _ h => h)
    have hwz := HS1.out; have hz2' := HZ2.out
    have hr := HRU.out
    have hdb := hr.db; have hdg := hr.dg; have hdx := hr.dx; have hsb := hr.sb; have hsg := hr.sg; have hsx := hr.sx; have hsd := hr.sd; have hlt := hr.lt; have hbd := hr.bd; have hbb' := hr.bb
    have hdl : gd < w.heap.size := by obtain ⟨B, hB⟩ := hr.row; exact hB.lt
    obtain ⟨B0, hrow⟩ := hr.row
    obtain ⟨F0, hreg⟩ := hr.reg
    have hkw : Kept (fun k => k = b ∨ k = w.heap.size ∨ k = ix) w W3 := HKB.out.trans (hk23.mono (Q := fun k => k = b ∨ k = w.heap.size ∨ k = ix) fun _ _ h => .inr (.inr h)) (fun _ _ h => h)
    have hS : RdS w b g ix l n base w.heap.size f 10 W3 gd bs m0 m0 m0 o' B0 F0 := by
      refine ⟨hx3, hrow.kept hkw (by omega), hnc, hnc, hnc, (hreg.kept hkw (by omega)).pre hnc, fun h0 => by rw [ho' h0], ?_, ⟨_, HR2.out.kept hk23 (by omega), HL2.out⟩, HK2.out.trans hk23 (fun j _ h => by omega), by omega, by omega, Nat.lt_of_lt_of_le hlt hkw.size, hbd, hbb', by omega, by omega, by omega⟩
      have := HB2.out.kept hk23 (Ne.symm hxb) (fun g' hg' e => hxg (by rw [Option.some.inj hg', e]))
      rwa [Nat.zero_add] at this
    have HS := Lib.hid hS; have HW3 := Lib.hid hW3
    clear hW3 hx3 hk3 hk23 hwz hz2' hr hdb hdg hdx hsb hsg hsx hsd hlt hbd hbb' hdl hrow hreg hkw hS hxq hkq hbq ho' HSL HRU HX0 HK0 HW0
    clear x0 x1 x2 z0 z1 z2 gm
    have y0 := HS.out.x.c0
    rw [HW3.out] at y0
    go_wp2_with fail
    rw [← HW3.out]
    clear HW3 y0 q0 q1 q2 q3 q4)
  all_goals (
    have hz3 : w.heap.size < W3.heap.size := by have := HS.out.scr; obtain ⟨B, hB, -⟩ := this; exact hB.lt
    refine (readfull_row b g _ l 10 0 n _ _ f _ _ HS.out.buf HS.out.row HS.out.d4.1 HS.out.d4.2.1 hn (by omega) (by have := HS.out.nm; omega) HS.out.nt).mono ?_
    rintro _ w4 ⟨rfl, hB4, hR4, hk4⟩
    have hz4 : w.heap.size < w4.heap.size := Nat.lt_of_lt_of_le hz3 hk4.size
    have hS4 := HS.out.read hB4 hR4 hk4
    have hT4 : ∀ (B : Nat → Nat) i, i < n → putf B 0 n (fun j => f (10 + j)) i = T i := fun B i hi => by
      unfold putf; rw [if_pos (by omega)]; exact HT.out i hi
    have hI4 := RdI.start (T := T) hS4 HST.out (hT4 _) (by omega) hz4
    have y1 := hS4.x.c1; have y2 := hS4.x.c2
    have HI4 := Lib.hid hI4
    clear hB4 hR4 hk4 hS4 hT4 hI4 HS HCASE
    go_wp2_with fail
    go_loopg [] (n + 1) (fun gk wr => ∃ GD BS MM CT CS OS TB F a os c o, RdI w b g ix l n base w.heap.size w4.heap.size e f d T wr GD BS MM CT CS OS TB F a os c o ∧ n - a < gk)
    case atStart => exact ⟨_, _, _, _, _, _, _, _, _, _, _, _, HI4.out, by omega⟩
    case round =>
      obtain ⟨GD, BS, MM, CT, CS, OS, TB, F, a, os, c, o, hI, hgk⟩ := hrel
      have hale := hI.le
      have hib := hI.ib
      have HLEN := Lib.hid (len_at w4.heap.size 0 (n - a) c (some ⟨BS, os, none⟩) wr (by omega) hib.c0 hib.c1)
      have HI := Lib.hid hI
      clear hI hib HI4
      by_cases hlt : a < n
      · have hgt : (0 : Int) < ((n - a : Nat) : Int) := by omega
        obtain rfl : os = a := HI.out.ho hlt
        go_wp2_with fail
        refine HLEN.out.mono ?_
        rintro _ wl ⟨rfl, nl, hwl⟩
        clear HLEN
        subst hwl
        have hibl : Ib (wr.drewN nl) w4.heap.size BS os (n - os) c := HI.out.ib
        have hib0 := hibl.c0; have hib1 := hibl.c1
        have hnw : IntKind.u64.wrap (n : Int) = (n : Int) := by rw [IntKind.wrap_u64]; omega
        obtain ⟨i, hch, ha1, ha2, hoe, hst'⟩ := HI.out.sm.inv (by omega)
        have hSl := HI.out.st.quiet (kept_drew wr nl) (fun _ h => h.elim)
        obtain ⟨Bs0, hscr, hscl⟩ := hSl.scr
        have hRS := readSlice_any b g w.heap.size l o BS 0 os (n - os) c n n i f Bs0 (fun j => d (os + j)) (rdf F d 0 os) (wr.drewN nl) hSl.buf hscr hSl.q3.1 hSl.q3.2.1 hscl HF.out hSl.reg hSl.s5.2.2.2.1 hSl.s5.1 hSl.s5.2.1 (by omega) (by omega) hn hn (fun j hj => HD.out (os + j) (by omega)) hch ha1 ha2 (by omega)
        rw [Nat.zero_add, rdf_rdf] at hRS
        have HRS := Lib.hid hRS; have HCH := Lib.hid hch; have HST' := Lib.hid hst'
        clear hibl hch ha1 ha2 hSl hscr hscl hRS hst'
        go_wp2_with fail
        refine HRS.out.mono ?_
        rintro _ w5 ⟨rfl, hB5, hR5, hG5, hk5⟩
        clear HRS
        have hi1 := HCH.out.pos1 (by omega)
        have hile := HCH.out.le
        have hS5 := (HI.out.st.quiet (kept_drew wr nl) (fun _ h => h.elim)).slice hB5 hG5 hR5 hk5
        have hib5 : Ib w5 w4.heap.size BS os (n - os) c := (show Ib (wr.drewN nl) w4.heap.size BS os (n - os) c from HI.out.ib).kept hk5 (fun h => by
          have := HI.out.px
          omega)
        have HLEN := Lib.hid (len_at w4.heap.size 0 (n - os) c (some ⟨BS, os, none⟩) w5 (by omega) hib5.c0 hib5.c1)
        have HS5 := Lib.hid hS5; have HI5 := Lib.hid hib5
        clear hB5 hR5 hG5 hk5 hS5 hib5
        go_wp2_with fail
        refine HLEN.out.mono ?_
        rintro _ wm ⟨rfl, nm, hwm⟩
        clear HLEN
        subst hwm
        have hibm : Ib (w5.drewN nm) w4.heap.size BS os (n - os) c := HI5.out
        have HSL := Lib.hid (slice_at w4.heap.size 0 BS os (n - os) c i (n - os) (w5.drewN nm) hibm.c0 (by omega) HI.out.kc hile (Nat.le_refl _))
        clear hibm
        go_wp2_with fail
        refine HSL.out.mono ?_
        rintro _ w6 ⟨o', rfl, ho', hb6⟩
        clear HSL
        have hk6 : Kept (fun _ => False) w5 w6 := (kept_drew w5 nm).trans (Kept.le hb6) (fun _ _ h => h)
        have hib6 : Ib w6 w4.heap.size BS os (n - os) c := HI5.out.kept hk6 (fun h => h)
        have q0 := hib6.c0; have q1 := hib6.c1; have q2 := hib6.z 0; have q3 := hib6.z 1
        have HI6 := Lib.hid hib6; have HK6 := Lib.hid hk6; have HO := Lib.hid ho'
        clear hib6 hk6 hb6 ho'
        have hnew : ∀ W : World, W = (w6.setCell ⟨w4.heap.size, 0, none⟩ (.slice (some ⟨BS, o', none⟩) (n - os - i) (c - i))).setCell ⟨w4.heap.size, 1, none⟩ (.slice none 0 0) → RdI w b g ix l n base w.heap.size w4.heap.size e f d T W GD BS MM CT CS OS TB F (os + i) o' (c - i) (o + (10 + (enL (fun j => d (os + j)) i).length)) := fun W hW => by
          have hkc := HI.out.kc; have hpx := HI.out.px
          have hk7 : Kept (fun k => k = w4.heap.size) w5 W := by
            rw [hW]; exact Kept.setCell (P := fun k => k = w4.heap.size) (Kept.setCell (P := fun k => k = w4.heap.size) (HK6.out.mono fun _ _ h => h.elim) (fun _ => rfl) _) (fun _ => rfl) _
          refine ⟨HS5.out.quiet hk7 (fun j hj => by omega), by omega, ?_, by omega, fun h => by rw [HO.out (by omega)], ?_, hpx, HI.out.tt⟩
          · rw [hW, ← Nat.sub_sub]; exact HI6.out.set o' (n - os - i) (c - i)
          · have e1 : (fun j => d (os + i + j)) = (fun j => (fun j => d (os + j)) (i + j)) := by funext j; simp only [Nat.add_assoc]
            rw [e1, ← Nat.sub_sub]; exact HST'.out
        have HNEW := Lib.hid hnew
        clear hnew
        go_wp2_with fail
        go_roundg (n - (os + i) + 1)
        case rel => exact ⟨_, _, _, _, _, _, _, _, _, _, _, _, HNEW.out _ rfl, by omega⟩
        case measure => omega
      · obtain rfl : a = n := by omega
        have hgt : ¬ ((0 : Int) < ((a - a : Nat) : Int)) := by omega
        go_wp2_with fail
        refine HLEN.out.mono ?_
        rintro _ wl ⟨rfl, nl, hwl⟩
        clear HLEN
        subst hwl
        go_wp2
        go_ret
        have hSl := HI.out.st.quiet (kept_drew wr nl) (fun _ h => h.elim)
        refine ⟨rfl, GD, BS, OS, CT, CS, ⟨hSl.x.c0, hSl.x.c1, hSl.x.c2, fun i hi => ?_, HD.out, hSl.ns, hSl.nt, hn⟩, (hSl.row.rd0 a hSl.nm).congr (fun i hi => by unfold bv; rw [HI.out.tt i hi]), hSl.row.lt, hSl.lt, hSl.kp⟩
        have := hSl.reg.c i hi
        rw [hSl.os (by omega), this]
        unfold rdf; rw [if_pos (by omega), Nat.sub_zero])
end Go.Proofs.YtpkgkppehefibaaGreatDoor
