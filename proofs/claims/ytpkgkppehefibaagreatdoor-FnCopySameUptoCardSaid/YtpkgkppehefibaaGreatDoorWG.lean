/- impl.readInto. -/
import Derived.Test.YtpkgkppehefibaaGreatDoorWE
import Derived.Test.YtpkgkppehefibaaGreatDoorWF
namespace Go.Proofs.YtpkgkppehefibaaGreatDoor
open Go.RowKit Sa

set_option maxRecDepth 100000 in
theorem slice_nil (p po : Nat) (w : World) (h1 : w.cell? ⟨p, po, none⟩ = some (.slice none 0 0)) (h2 : w.cell? ⟨p, po + 1, none⟩ = some (.slice none 0 0)) :
    Calls Tryz.prog 49 #[.pointer (some ⟨p, po, none⟩), .int .i64 0, .int .i64 0] w fun e w' => e = .returned (.agg #[.slice none 0 0, .slice none 0 0]) ∧ Below w.heap.size w w' := by
  have hnn := fun w => run_neq_slice_nil_any (P := Tryz.prog) w 44 21 none 0 0 0 0 Tryz.underlying44
  have hb := cell_lt h1
  have h1a : ∀ ob, (w.alloc ob).cell? ⟨p, po, none⟩ = some (.slice none 0 0) := fun ob => by rw [World.cell?_alloc_past _ _ _ hb]; exact h1
  have h2a : ∀ ob, (w.alloc ob).cell? ⟨p, po + 1, none⟩ = some (.slice none 0 0) := fun ob => by rw [World.cell?_alloc_past _ _ _ hb]; exact h2
  clear h1 h2
  go_enter Tryz.func49, Tryz.ntmps49
  go_wp2
  go_returns
  exact ⟨rfl, (Below.refl _ _).alloc (Nat.le_refl _) _⟩
set_option maxHeartbeats 6400000 in
set_option maxRecDepth 100000 in
/-- Read of no data into a new index -/
theorem read_nil (b g ix l base : Nat) (f : Nat → Nat) (w : World) (h : Buf w b (some g) l f 0) (hx : Xb w ix (.slice none 0 0) (.slice none 0 0) (.slice none 0 0))
    (hxb : ix ≠ b) (hbb : base ≤ b) (hbx : base ≤ ix) (hf : ∀ i, i < l → f i < 256) (ha : At f 0 (Lib.uvarint (Lib.zigzag ((0 : Nat) : Int)))) (hl : 10 ≤ l) :
    Calls Tryz.prog 41 #[.pointer (some ⟨ix, 0, none⟩), .iface 65 (.pointer (some ⟨b, 0, none⟩))] w fun e w' => e = .returned .nilIface ∧ Xb w' ix (.slice none 0 0) (.slice none 0 0) (.slice none 0 0) ∧ Kept (fun k => base ≤ k) w w' := by
  have hmk : ∀ W, (Instr.makeSlice 22 (.int .i64 16384) (.int .i64 16384)).run Tryz.prog W = .ok (.slice (some ⟨W.heap.size, 0, none⟩) 16384 16384) (W.alloc (.cells (madeCells #[.int .u8 0] 16384) 5)) := fun W => run_make8 16384 (by omega) W
  obtain ⟨hbl, hgl, hgb'⟩ := buf_lt h
  have hixl := hx.lt
  obtain ⟨W1, hW1⟩ : ∃ W1, W1 = w.alloc (.cells (madeCells #[.int .u8 0] 16384) 5) := ⟨_, rfl⟩
  have hk1 : Kept (fun _ => False) w W1 := Kept.le (by rw [hW1]; exact (Below.refl _ _).alloc (Nat.le_refl _) _)
  have hr1 : Row8 W1 w.heap.size 16384 (fun _ => 0) := by rw [hW1]; exact row8_made w 16384
  have HRI := Lib.hid (readInt_any b g w.heap.size l 0 0 f (fun _ => 0) W1 (h.kept hk1 (fun h => h) (fun _ _ h => h)) hr1 (by omega) (by omega) (fun _ _ => by omega) hf (by omega) (by omega) ha)
  have HX := Lib.hid hx; have HK1 := Lib.hid hk1; have HW1 := Lib.hid hW1
  clear h hx hf ha hr1 hk1 hW1
  go_enter Tryz.func41, Tryz.ntmps41
  go_wp2_with fail
  rw [← HW1.out]
  refine HRI.out.mono ?_
  rintro _ w2 ⟨rfl, -, -, hk2⟩
  have hk2w : Kept (fun k => base ≤ k) w w2 := (HK1.out.mono fun _ _ h => h.elim).trans hk2 (fun j _ h => by omega)
  have hX2 : Xb w2 ix (.slice none 0 0) (.slice none 0 0) (.slice none 0 0) := (HX.out.kept HK1.out (fun h => h)).kept hk2 (fun h => by omega)
  have x0 := hX2.c0; have x1 := hX2.c1; have x2 := hX2.c2; have z0 := hX2.z 0
  have hnn := fun w => run_neq_slice_nil_any (P := Tryz.prog) w 44 21 none 0 0 0 0 Tryz.underlying44
  have hnn6 := fun w => run_neq_slice_nil_any (P := Tryz.prog) w 45 2 none 0 0 0 0 Tryz.underlying45
  obtain ⟨W0, hW0⟩ : ∃ W0, W0 = w2.setCell ⟨ix, 0, none⟩ (.slice none 0 0) := ⟨_, rfl⟩
  have hx0 : Xb W0 ix (.slice none 0 0) (.slice none 0 0) (.slice none 0 0) := by rw [hW0]; exact hX2.set0 _
  have hk0 : Kept (fun k => base ≤ k) w2 W0 := by rw [hW0]; exact Kept.setCell (P := fun k => base ≤ k) (Kept.refl _ _) (fun _ => hbx) _
  have HSL := Lib.hid (slice_nil ix 1 W0 hx0.c1 hx0.c2)
  have HX0 := Lib.hid hx0; have HK2 := Lib.hid (hk2w.trans hk0 (fun _ _ h => h)); have HW0 := Lib.hid hW0
  clear hk2 hk2w hX2 hW0 hx0 hk0 HRI HW1 HX HK1 hmk
  go_wp2_with fail
  rw [← HW0.out]
  refine HSL.out.mono ?_
  rintro _ wq ⟨rfl, hbq⟩
  have hxq : Xb wq ix (.slice none 0 0) (.slice none 0 0) (.slice none 0 0) := HX0.out.kept (Kept.le (P := fun _ => False) hbq) (fun h => h)
  have q0 := hxq.c0; have q1 := hxq.c1; have q2 := hxq.c2; have q3 := hxq.z 1; have q4 := hxq.z 2
  obtain ⟨W3, hW3⟩ : ∃ W3, W3 = (wq.setCell ⟨ix, 1, none⟩ (.slice none 0 0)).setCell ⟨ix, 2, none⟩ (.slice none 0 0) := ⟨_, rfl⟩
  have hx3 : Xb W3 ix (.slice none 0 0) (.slice none 0 0) (.slice none 0 0) := by rw [hW3]; exact (hxq.set1 _).set2 _
  have hk3 : Kept (fun k => base ≤ k) w W3 := by rw [hW3]; exact Kept.setCell (P := fun k => base ≤ k) (Kept.setCell (P := fun k => base ≤ k) (HK2.out.trans (Q := fun _ => False) (Kept.le hbq) (fun _ _ h => h.elim)) (fun _ => hbx) _) (fun _ => hbx) _
  have y0 := hx3.c0
  rw [hW3] at y0
  have HX3 := Lib.hid hx3; have HK3 := Lib.hid hk3; have HW3 := Lib.hid hW3
  clear hxq hx3 hk3 hW3 hbq HSL HX0 HK2 HW0 x0 x1 x2 z0
  go_wp2_with fail
  rw [← HW3.out]
  clear HW3 y0 q0 q1 q2 q3 q4
  refine (readfull_zero _ none 0 W3).mono ?_
  rintro _ w4 ⟨rfl, n4, hw4⟩
  have hx4 : Xb w4 ix (.slice none 0 0) (.slice none 0 0) (.slice none 0 0) := by rw [hw4]; exact HX3.out
  have hk4 : Kept (fun k => base ≤ k) w w4 := by rw [hw4]; exact HK3.out.drew n4
  have y1 := hx4.c1; have y2 := hx4.c2
  obtain ⟨W5, hW5⟩ : ∃ W5, W5 = w4.alloc (.cells #[.slice none 0 0, .slice none 0 0] 47) := ⟨_, rfl⟩
  have hk5 : Kept (fun _ => False) w4 W5 := Kept.le (by rw [hW5]; exact (Below.refl _ _).alloc (Nat.le_refl _) _)
  have HLEN := Lib.hid (len_at w4.heap.size 0 0 0 none W5 (by omega) (by rw [hW5, World.cell?_alloc_at _ _ _ _ rfl]; rfl) (by rw [hW5, World.cell?_alloc_at _ _ _ _ rfl]; rfl))
  have HX5 := Lib.hid (hx4.kept hk5 (fun h => h)); have HK5 := Lib.hid (hk4.trans hk5 (fun _ _ h => h.elim)); have HW5 := Lib.hid hW5
  clear hw4 hx4 hk4 hW5 hk5 HX3 HK3
  go_wp2_with fail
  rw [← HW5.out]
  go_loopg [] 1 (fun gk wr => wr = W5 ∧ 0 < gk)
  case atStart => exact ⟨rfl, by omega⟩
  case round =>
    obtain ⟨rfl, hgk⟩ := hrel
    go_wp2_with fail
    refine HLEN.out.mono ?_
    rintro _ wl ⟨rfl, nl, hwl⟩
    subst hwl
    go_wp2
    go_ret
    exact ⟨rfl, HX5.out.kept (kept_drew _ nl) (fun h => h), HK5.out.drew nl⟩
/-- an index that can be used: over n bytes T -/
def Rdy (w : World) (ix : Nat) (T : Nat → Nat) (n : Nat) : Prop :=
  (∃ gd bs os ct cs d, Ix w ix (some ⟨gd, 0, none⟩) n ct bs os cs d ∧ IsSA T n d ∧ Rd w gd (gd + 1) (some ⟨gd, 0, none⟩) n (bv T) ∧ gd < w.heap.size ∧ bs < w.heap.size) ∨
  (n = 0 ∧ Xb w ix (.slice none 0 0) (.slice none 0 0) (.slice none 0 0))
theorem Rdy.bytes {w : World} {ix n : Nat} {T : Nat → Nat} (h : Rdy w ix T n) : ∃ A ct, w.cell? ⟨ix, 0, none⟩ = some (.slice A n ct) ∧ Rd w 0 w.heap.size A n (bv T) := by
  rcases h with ⟨gd, bs, os, ct, cs, d, h1, h2, h3, h4, h5⟩ | ⟨rfl, h⟩
  · exact ⟨_, _, h1.c0, h3.mono (Nat.zero_le _) (by omega)⟩
  · exact ⟨_, _, h.c0, Rd.zero⟩
/-- the ways in which n bytes can be read into an index -/
def Ways (w : World) (ix base n : Nat) (A0 : Option Addr) (m0 c0 : Nat) (v1 : Value) : Prop :=
  ((2 * n < c0 ∨ c0 < n) ∨ ∃ gd bs, A0 = some ⟨gd, 0, none⟩ ∧ m0 = c0 ∧ v1 = .slice (some ⟨bs, 0, none⟩) c0 c0 ∧ Reuse w w.heap.size w.heap.size ix base n c0 gd bs) ∨ (n = 0 ∧ A0 = none ∧ m0 = 0 ∧ c0 = 0 ∧ v1 = .slice none 0 0)
set_option maxHeartbeats 6400000 in
set_option maxRecDepth 100000 in
/-- impl.readInto -/
theorem readInto_any (ix n c m0 c0 base : Nat) (A A0 : Option Addr) (v1 : Value) (T : Nat → Nat) (w : World) (hx : Xb w ix (.slice A0 m0 c0) v1 (.slice none 0 0)) (h : Bs w A n c T) (hg : MaxOk w) (hbx : base ≤ ix) (hgb : 0 < base) (hcase : Ways w ix base n A0 m0 c0 v1) (hc0 : c0 < 4611686018427387904) :
    Calls Tryz.prog 30 #[.pointer (some ⟨ix, 0, none⟩), .slice A n c] w fun e w' => e = .returned (.bool true) ∧ Rdy w' ix T n ∧ Kept (fun k => base ≤ k) w w' := by
  have hn := h.sm
  have hixl := hx.lt
  obtain ⟨W1, hW1⟩ : ∃ W1, W1 = w.alloc (.cells #[.slice none 0 0, .int .i64 0, .int .i8 0] 61) := ⟨_, rfl⟩
  have hs1 : W1.heap.size = w.heap.size + 1 := by rw [hW1]; simp
  have hb1 : Below w.heap.size w W1 := by rw [hW1]; exact (Below.refl _ _).alloc (Nat.le_refl _) _
  have hd1 : Hd W1 w.heap.size (.slice none 0 0) 0 := by rw [hW1]; exact hd_zero w
  have hbs1 : Bs W1 A n c T := h.le hb1
  have HK := Lib.hid (kept_any A n c 0 W1.heap.size T W1 h.sm (Nat.le_refl _) hbs1.rd)
  have hg1 : MaxOk W1 := hg.le hb1
  have hlt := h.lt
  have HB1 := Lib.hid hb1; have HD1 := Lib.hid hd1; have HW1 := Lib.hid hW1; have HG1 := Lib.hid hg1; have HLT := Lib.hid hlt; have HX := Lib.hid hx; have HCASE := Lib.hid hcase
  clear h hg hb1 hd1 hbs1 hg1 hlt hW1 hx hcase
  go_enter Tryz.func30, Tryz.ntmps30
  go_wp2_with fail
  rw [← HW1.out]
  refine HK.out.mono ?_
  rintro _ w2 ⟨A2, c2, rfl, hc2, hw2, hb2⟩
  have hz2 := hb2.size
  have hg2 : MaxOk w2 := HG1.out.le hb2
  have HN := Lib.hid (new_full A2 c2 n T w2 (by omega) hc2 (hw2.toRd.txt HLT.out) hg2)
  have HW2 := Lib.hid hw2; have HB2 := Lib.hid hb2; have HG2 := Lib.hid hg2
  clear hg2 hw2 hb2 HK
  go_wp2_with fail
  refine HN.out.mono ?_
  rintro _ w3 ⟨d, rfl, hx3, hsa, -, -, hz3, hb3⟩
  have hk23 : Kept (fun _ => False) w2 w3 := Kept.le hb3
  have hk13 : Kept (fun _ => False) W1 w3 := (Kept.le HB2.out).trans hk23 (fun _ _ h => h)
  have hbuf3 : Buf w3 w.heap.size none 0 (fun _ => 0) 0 := ⟨.inl ⟨rfl, rfl, HD1.out.kept hk13 (fun h => h)⟩⟩
  have HWR := Lib.hid (write_any w.heap.size w2.heap.size n c2 (w2.heap.size + 1) 0 n W1.heap.size w2.heap.size A2 d T (fun _ => 0) w3 hx3 hbuf3 (HW2.out.toRd.kept hk23 (Nat.le_refl _) (fun _ _ _ h => h)) (by omega) (fun k h1 h2 => by omega) (by omega) (by omega) (by omega))
  have HG3 := Lib.hid (HG2.out.le hb3)
  have HKW3 : Hid (Kept (fun _ => False) w w3) := Lib.hid ((Kept.le HB1.out).trans hk13 (fun _ _ h => h))
  have HSA := Lib.hid hsa
  clear hx3 hsa hb3 hk23 hk13 hbuf3 HN HW2 HB2 HG2
  go_wp2_with fail
  refine HWR.out.mono ?_
  rintro _ w4 ⟨rfl, g, l, F, hB4, hwr, hg4, hk4⟩
  have hW : Written T n l F := ⟨d, HSA.out, hwr⟩
  have hlen := hW.len hn
  have hk04 : Kept (fun _ => False) w w4 := HKW3.out.trans hk4 (fun j hj h => by omega)
  have hX4 := HX.out.kept hk04 (fun h => h)
  have hG4 : MaxOk w4 := HG3.out.kept hk4 (by have := HG3.out.lt; omega)
  have hstr := hwr.strm fun j hj => by have := HSA.out.lt j hj; omega
  have hzz : w.heap.size ≤ w4.heap.size := hk04.size
  have hRD : Calls Tryz.prog 41 #[.pointer (some ⟨ix, 0, none⟩), .iface 65 (.pointer (some ⟨w.heap.size, 0, none⟩))] w4 fun e w' => e = .returned .nilIface ∧ Rdy w' ix T n ∧ Kept (fun k => base ≤ k) w4 w' := by
    rcases HCASE.out with hal | ⟨rfl, rfl, rfl, rfl, rfl⟩
    · refine (read_any w.heap.size g ix l n m0 c0 l base A0 v1 F d T w4 hB4 hX4 hG4 (by omega) (by omega) (by omega) (by omega) hbx hgb (hW.lt HLT.out) (hW.head hn) hW.data hstr (Nat.le_refl _) hlen.1 HSA.out.lt hn ?_ hc0).mono ?_
      · rcases hal with h | ⟨gd, bs, h1, h2, h3, hr⟩
        · exact .inl h
        · obtain ⟨B0, hrow⟩ := hr.row
          obtain ⟨F0, hreg⟩ := hr.reg
          have hgd := hrow.lt; have hbl := hr.lt
          exact .inr ⟨gd, bs, h1, h2, h3, ⟨hr.nc, hr.cn, ⟨B0, hrow.kept hk04 (fun h => h)⟩, ⟨F0, hreg.kept hk04 (fun h => h)⟩, hr.sm, by omega, by omega, hr.dx, by omega, by omega, hr.sx, hr.sd, by omega, hr.bd, hr.bb⟩⟩
      · rintro _ w5 ⟨rfl, gd, bs, os, ct, cs, h1, h2, h3, h4, h5⟩
        exact ⟨rfl, .inl ⟨gd, bs, os, ct, cs, d, h1, HSA.out, h2, h3, h4⟩, h5⟩
    · refine (read_nil w.heap.size g ix l base F w4 hB4 hX4 (by omega) (by omega) hbx (hW.lt HLT.out) (hW.head hn) (by omega)).mono ?_
      rintro _ w5 ⟨rfl, h1, h2⟩
      exact ⟨rfl, .inr ⟨rfl, h1⟩, h2⟩
  have HRD := Lib.hid hRD; have HK04 := Lib.hid hk04
  clear hB4 hwr hk4 hW hX4 hG4 hstr hRD hk04 HWR
  go_wp2_with fail
  refine HRD.out.mono ?_
  rintro _ w5 ⟨rfl, hr5, hk5⟩
  have HR5 := Lib.hid hr5; have HK5 := Lib.hid hk5
  clear hr5 hk5 HRD
  go_wp2
  go_ret
  exact ⟨rfl, HR5.out, (HK04.out.mono fun _ _ h => h.elim).trans HK5.out (fun _ _ h => h)⟩
end Go.Proofs.YtpkgkppehefibaaGreatDoor
