/- impl.marksOf, IndexMarks; the laws' helpers qMark, qTrue, qCopy, qBack; one byte appended. -/
import Derived.Test.YtpkgkppehefibaaGreatDoorH1
namespace Go.Proofs.YtpkgkppehefibaaGreatDoor
open Go.RowKit Sa

/-- where s stands -/
def mrk (T : Nat → Nat) (n : Nat) (S : Nat → Nat) (m : Nat) : Nat → Bool := fun i => decide (0 < m ∧ stands T n S m i)
theorem infoBool : (Tryz.prog.info? 4).map (fun i => (i.zero, i.size, i.bytes)) = some (some (.bool false), 1, 1) := by kernel_rfl
/-- make([]bool, k) -/
theorem run_makeB (k : Nat) (hk : k < 1073741824) (w : World) : (Instr.makeSlice 23 (.int .i64 (k : Int)) (.int .i64 (k : Int))).run Tryz.prog w = .ok (.slice (some ⟨w.heap.size, 0, none⟩) k k) (w.alloc (.cells (madeCells #[.bool false] k) 4)) := by
  obtain ⟨i0, hi, hz0, hz1, hz2⟩ := info_parts infoBool
  have hr := run_make (P := Tryz.prog) w 23 4 i0 (.bool false) Tryz.underlying23 hi hz0 .i64 .i64 k k (by omega) (by omega) (by rw [hz2]; omega) (by omega)
  simp only [Int.toNat_natCast, hz1, Nat.mul_one] at hr
  exact hr

/-- i is among the first k -/
def among (p : Nat → Nat) (k i : Nat) : Bool := decide (∃ j, j < k ∧ p j = i)
theorem among_zero {p : Nat → Nat} {i : Nat} : among p 0 i = false := decide_eq_false (fun ⟨j, h, _⟩ => by omega)
theorem among_iff {p : Nat → Nat} {k i : Nat} : among p k i = true ↔ ∃ j, j < k ∧ p j = i := decide_eq_true_iff
set_option maxRecDepth 100000 in
/-- impl.marksOf -/
theorem marksOf_any (n : Nat) (A : Option Addr) (k c lo hi : Nat) (p : Nat → Nat) (w : World) (hn : n < 1073741824) (hk : k < 1073741824) (hh : hi ≤ w.heap.size) (h : Rd w lo hi A k (iv fun j => (p j : Nat))) (hp : ∀ j, j < k → p j < n) :
    Calls Tryz.prog 31 #[.int .i64 (n : Int), .slice A k c] w fun e w' => ∃ A', e = .returned (.slice A' n n) ∧ Wr w' w.heap.size w'.heap.size A' n (lv (among p k)) ∧ Below w.heap.size w w' := by
  have hmk : ∀ W, (Instr.makeSlice 23 (.int .i64 (n : Int)) (.int .i64 (n : Int))).run Tryz.prog W = .ok (.slice (some ⟨W.heap.size, 0, none⟩) n n) (W.alloc (.cells (madeCells #[.bool false] n) 4)) := fun W => run_makeB n hn W
  have H := Lib.hid h; have HP := Lib.hid hp
  have h0 : Hid (Wr (w.alloc (.cells (madeCells #[.bool false] n) 4)) w.heap.size (w.heap.size + 1) (some ⟨w.heap.size, 0, none⟩) n (lv (among p 0))) := (wr_made w n _ _).congr (fun i _ => by unfold lv; rw [among_zero])
  have HB : Hid (Below w.heap.size w (w.alloc (.cells (madeCells #[.bool false] n) 4))) := (Below.refl _ _).alloc (Nat.le_refl _) _
  clear h hp
  go_enter Tryz.func31, Tryz.ntmps31
  go_wp2_with fail
  go_loopg [12] (k + 1) (fun gk i wr => (∃ t : Nat, t ≤ k ∧ i = .int .i64 t ∧ wr.heap.size = w.heap.size + 1 ∧ Wr wr w.heap.size (w.heap.size + 1) (some ⟨w.heap.size, 0, none⟩) n (lv (among p t)) ∧ Below w.heap.size w wr) ∧ k - (intOf i).toNat < gk)
  case atStart => exact ⟨⟨0, by omega, rfl, by simp, h0.out, HB.out⟩, by simp [intOf]⟩
  case round =>
    clear h0 HB hmk
    obtain ⟨⟨t, ht, rfl, hsz, hwr, hbl⟩, hgk⟩ := hrel
    simp only [intOf, Int.toNat_natCast] at hgk
    have HS := Lib.hid hsz
    clear hsz
    by_cases hlt : t < k
    · obtain ⟨g, o, rfl, hg1, hg2, hg3⟩ := (H.out.below hbl hh).c (by omega)
      have hc1 := hg3 t hlt
      simp only [iv] at hc1
      have hpt := HP.out t hlt
      have hc2 := hwr.at_ hpt
      have hz2 := hwr.z _ _ rfl (p t) hpt
      unfold lv at hc2
      simp only [Nat.zero_add] at hc2 hz2
      have HW := Lib.hid hwr; have HL := Lib.hid hbl
      clear hwr hbl hg3 hg1 hg2 H
      obtain ⟨x, hx⟩ : ∃ x, x = p t := ⟨_, rfl⟩
      rw [← hx] at hc1 hc2 hz2 hpt
      generalize among p t x = b at hc2
      have HX := Lib.hid hx
      clear hx
      go_wp2
      go_roundg (k - (t + 1) + 1)
      case rel =>
        refine ⟨⟨t + 1, by omega, by go_num, by simpa [World.setCell] using HS.out, ?_, HL.out.setCell (Nat.le_refl _) _⟩, by simp only [intOf]; omega⟩
        have := HW.out.set hpt (.bool true)
        rw [Nat.zero_add] at this
        refine this.congr fun j _ => ?_
        unfold updV lv
        by_cases c : j = x
        · rw [if_pos c]; congr 1; exact (among_iff.2 ⟨t, by omega, by rw [c, HX.out]⟩).symm
        · rw [if_neg c]; congr 1; unfold among; apply decide_eq_decide.2
          constructor
          · rintro ⟨i, h1, h2⟩; exact ⟨i, by omega, h2⟩
          · rintro ⟨i, h1, h2⟩
            refine ⟨i, ?_, h2⟩
            rcases Nat.lt_or_ge i t with c' | c'
            · exact c'
            · obtain rfl : i = t := by omega
              exact absurd (by rw [HX.out, h2]) c
      case measure => omega
    · obtain rfl : t = k := by omega
      have HW := Lib.hid hwr; have HL := Lib.hid hbl
      clear hwr hbl H
      go_wp2
      go_ret
      refine ⟨_, rfl, ?_, HL.out⟩
      rw [HS.out]
      exact HW.out

section
variable (A : Option Addr) (n c lo hi : Nat) (T : Nat → Nat) (B : Option Addr) (m e lo' hi' : Nat) (S : Nat → Nat) (w : World)
set_option maxRecDepth 100000 in
theorem implmarks_any (hn : n < 1073741824) (hm : m < 1073741824) (hh : hi ≤ w.heap.size) (h : Rd w lo hi A n (bv T)) (hT : ∀ i, i < n → T i < 256) (hh' : hi' ≤ w.heap.size) (h' : Rd w lo' hi' B m (bv S)) (hS : ∀ i, i < m → S i < 256) (hg : MaxOk w) :
    Calls Tryz.prog 22 #[.slice A n c, .slice B m e] w fun e w' => ∃ A', e = .returned (.slice A' n n) ∧ Wr w' w.heap.size w'.heap.size A' n (lv (mrk T n S m)) ∧ Below w.heap.size w w' := by
  have H := Lib.hid h; have HT := Lib.hid hT; have HG := Lib.hid hg; have HS := Lib.hid hS; have H' := Lib.hid h'
  clear h hT hg hS h'
  go_enter Tryz.func22, Tryz.ntmps22
  go_wp2_with fail
  refine (kept_any A n c lo hi T w hn hh H.out).mono ?_
  rintro _ w1 ⟨A1, c1, rfl, hc1, hw1, hb1⟩
  have H1 := Lib.hid hc1; have H2 := Lib.hid hw1; have H3 := Lib.hid hb1
  clear hc1 hw1 hb1
  go_wp2_with fail
  refine (new_any A1 c1 n T w1 hn H1.out (H2.out.toRd.txt HT.out) (HG.out.below H3.out HG.out.lt)).mono ?_
  rintro _ w2 ⟨ix, bs, d, rfl, hx, hix, hsa, hbs, hb2⟩
  have HX := Lib.hid hx; have HSA := Lib.hid hsa; have H5 := Lib.hid hb2
  clear hx hsa hb2 hix
  have Z1 : Hid (w.heap.size ≤ w1.heap.size) := H3.out.size
  have Z2 : Hid (w1.heap.size ≤ w2.heap.size) := H5.out.size
  have HBW : Hid (Below w.heap.size w w2) := H3.out.trans (H5.out.mono Z1.out)
  have TX : Hid (Rd w2 0 w2.heap.size A1 n (bv T)) := (H2.out.toRd.below H5.out (Nat.le_refl _)).mono (Nat.zero_le _) Z2.out
  have SX : Hid (Rd w2 0 w2.heap.size B m (bv S)) := (H'.out.below HBW.out hh').mono (Nat.zero_le _) (Nat.le_trans hh' HBW.out.size)
  go_wp2_with fail
  refine (lookup_any ix n c1 bs 0 n A1 d T B m e S (-1) w2 HX.out hbs HSA.out TX.out SX.out HT.out HS.out hm (by omega) (by omega)).mono ?_
  rintro _ w3 ⟨r, q, k, A3, c3, rfl, hc3, hfd, hk0, hw3, hb3⟩
  have HLK : Hid (Looked T n S m (-1) d r q k) := ⟨HSA.out, hfd⟩
  have hkn : k ≤ n := HLK.out.kn
  have HW3 := Lib.hid hw3; have H8 := Lib.hid hb3; have HK0 := Lib.hid hk0
  have HB3 : Hid (Below w.heap.size w w3) := HBW.out.trans (hb3.mono HBW.out.size)
  clear hc3 hfd hw3 hb3 hk0
  go_wp2_with fail
  refine (marksOf_any n A3 k c3 _ _ (fun j => d (r + j)) w3 hn (by omega) (Nat.le_refl _) HW3.out.toRd (fun j hj => HLK.out.sa.lt _ (by have := HLK.out.kle; have := HLK.out.fd.le; omega))).mono ?_
  rintro _ w4 ⟨A4, rfl, hw4, hb4⟩
  have H10 := Lib.hid hw4; have H11 := Lib.hid hb4
  clear hw4 hb4
  go_wp2
  go_ret
  refine ⟨A4, rfl, (H10.out.mono HB3.out.size (Nat.le_refl _)).congr fun i hi => ?_, HB3.out.trans (H11.out.mono HB3.out.size)⟩
  unfold lv mrk among
  congr 1
  apply decide_eq_decide.2
  have hkq : k = q := by have := HLK.out.fd.k; rw [if_pos (.inl (by omega))] at this; exact this
  have hle := HLK.out.fd.le
  constructor
  · rintro ⟨j, h1, rfl⟩
    exact (HLK.out.fd.iff (r + j) (by omega)).2 ⟨by omega, by omega⟩
  · intro hs
    obtain ⟨j, h1, rfl⟩ := HLK.out.sa.onto i hi
    obtain ⟨h2, h3⟩ := (HLK.out.fd.iff j h1).1 hs
    exact ⟨j - r, by omega, by show d (r + (j - r)) = d j; rw [show r + (j - r) = j by omega]⟩
end

/-- qMark -/
def qm (n : Nat) (F : Nat → Bool) (i : Int) : Bool := decide (0 ≤ i) && (decide (i < (n : Int)) && F i.toNat)
theorem qm_in {n : Nat} {F : Nat → Bool} {t : Nat} (h : t < n) : qm n F (t : Int) = F t := by
  unfold qm; rw [decide_eq_true (by omega), decide_eq_true (by omega)]; simp
theorem qm_out {n : Nat} {F : Nat → Bool} {i : Int} (h : i < 0 ∨ (n : Int) ≤ i) : qm n F i = false := by
  unfold qm
  rcases h with h | h
  · rw [decide_eq_false (by omega)]; rfl
  · rw [decide_eq_false (p := i < (n : Int)) (by omega)]; simp
/-- append(v, b) of one byte onto a row of the call's own -/
theorem appendOne8 (w : World) (base : Nat) (v : Value) (m : Nat) (xs : List Value) (hown : w.ownsRow base 5 1 v m xs) (hm : m < 1073741823) (hbase : base ≤ w.heap.size) (t : Int) :
    ∃ v' w', (∀ ty, (Builtin.append_ #[22, 22] ty #[v, .slice (some ⟨w.heap.size, 0, none⟩) 1 1]).run Tryz.prog (w.alloc (.cells #[.int .u8 t] 5)) = .ok v' w') ∧
      w'.ownsRow base 5 1 v' (m + 1) (xs ++ [.int .u8 t]) ∧ Below base w w' := by
  obtain ⟨i0, hi, hz0, hz1, hz2⟩ := info_parts info8
  have hrd : Rd (w.alloc (.cells #[.int .u8 t] 5)) 0 (w.heap.size + 1) (some ⟨w.heap.size, 0, none⟩) 1 (fun _ => .int .u8 t) := ⟨fun _ => ⟨_, 0, rfl, Nat.zero_le _, by omega, fun i hi => by
    obtain rfl : i = 0 := by omega
    rw [World.cell?_alloc_at _ _ _ _ rfl]; rfl⟩⟩
  obtain ⟨v', w', h1, h2, h3, h4⟩ := run_append_row (P := Tryz.prog) (w.alloc (.cells #[.int .u8 t] 5)) base 22 5 i0 _ 1 Tryz.underlying22 hi hz0 hz1 hz2 rfl v m xs (hown.alloc _) hrd 1 (fun _ _ => rfl) (by simp only [maxLen]; omega) (by omega) (by simp; omega)
  exact ⟨v', w', h1, h2, ((Below.refl _ _).alloc hbase _).grown h3 (by simp; omega) (fun k hk => (hown.lt k hk).1)⟩

/-- the text from its end -/
def rev (T : Nat → Nat) (n : Nat) : Nat → Nat := fun i => T (n - 1 - i)
/-- a text and one byte behind it -/
theorem cat_one {T : Nat → Nat} {n b : Nat} : ∀ i u, ((List.range n).map (bv T) ++ [Value.int .u8 ((b : Nat) : Int)])[i]? = some u → bv (cat T n fun _ => b) i = u := by
  have h := cat_list (T := T) (S := fun _ => b) (n := n) (m := 1)
  simpa [bv] using h
section
variable {A : Option Addr} {n c : Nat} {T : Nat → Nat} {B : Option Addr} {m e : Nat} {S : Nat → Nat} {w : World}
theorem marks0 (h : Bs w A n c T) (h' : Bs w B m e S) (hg : MaxOk w) :
    Calls Tryz.prog 22 #[.slice A n c, .slice B m e] w fun e w' => ∃ A', e = .returned (.slice A' n n) ∧ Ls w' A' n n (mrk T n S m) ∧ Le w w' :=
  (implmarks_any A n c 0 _ T B m e 0 _ S w h.sm h'.sm (Nat.le_refl _) h.rd h.lt (Nat.le_refl _) h'.rd h'.lt hg).mono fun _ _ ⟨A', h1, h2, h3⟩ => ⟨A', h1, ⟨h2.r0, Nat.le_refl _, h.sm⟩, h3⟩
theorem add1 {v : Value} {base : Nat} (hown : w.ownsRow base 5 1 v n ((List.range n).map (bv T))) (hb : base ≤ w.heap.size) (hn : n < 1048576) (hT : ∀ i, i < n → T i < 256) (b : Nat) (hb1 : b < 256) :
    ∃ A' c' w', (∀ ty, (Builtin.append_ #[22, 22] ty #[v, .slice (some ⟨w.heap.size, 0, none⟩) 1 1]).run Tryz.prog (w.alloc (.cells #[.int .u8 ((b : Nat) : Int)] 5)) = .ok (.slice A' (n + 1) c') w') ∧ Bs w' A' (n + 1) c' (cat T n fun _ => b) ∧ Below base w w' := by
  obtain ⟨v', w', h1, h2, h3⟩ := appendOne8 w base v n _ hown (by omega) hb (b : Nat)
  obtain ⟨A', c', rfl, h4, h5⟩ := Wr.of_own (f := bv (cat T n fun _ => b)) h2 cat_one
  exact ⟨A', c', w', h1, ⟨h5.r0, cat_lt hT (fun _ _ => hb1), h4, by omega⟩, h3⟩
/-- s[i:j] -/
theorem Bs.part {g o i j : Nat} (h : Bs w (some ⟨g, o, none⟩) n c T) (hij : i ≤ j) (hj : j ≤ n) : Bs w (some ⟨g, o + i, none⟩) (j - i) (c - i) (fun k => T (i + k)) :=
  ⟨R0.part h.rd i j hj, fun k hk => h.lt _ (by omega), by have := h.nc; omega, by have := h.sm; omega⟩
theorem Bs.pre {k : Nat} (h : Bs w A n c T) (hk : k ≤ n) : Bs w A k c T := ⟨⟨fun h0 => by
  obtain ⟨g', o', e, h1, h2, h3⟩ := Rd.c h.rd (by omega)
  exact ⟨g', o', e, h1, h2, fun i hi => h3 i (by omega)⟩⟩, fun i hi => h.lt i (by omega), by have := h.nc; omega, by have := h.sm; omega⟩
/-- []byte{b} -/
theorem lit1 (w : World) (b : Nat) (hb : b < 256) : Bs (w.alloc (.cells #[.int .u8 ((b : Nat) : Int)] 5)) (some ⟨w.heap.size, 0, none⟩) 1 1 (fun _ => b) ∧ Le w (w.alloc (.cells #[.int .u8 ((b : Nat) : Int)] 5)) :=
  ⟨⟨⟨fun _ => ⟨_, 0, rfl, Nat.zero_le _, by simp, fun i hi => by
    obtain rfl : i = 0 := by omega
    rw [World.cell?_alloc_at _ _ _ _ rfl]; rfl⟩⟩, fun _ _ => hb, Nat.le_refl _, by omega⟩, (Below.refl _ _).alloc (Nat.le_refl _) _⟩
end
end Go.Proofs.YtpkgkppehefibaaGreatDoor
