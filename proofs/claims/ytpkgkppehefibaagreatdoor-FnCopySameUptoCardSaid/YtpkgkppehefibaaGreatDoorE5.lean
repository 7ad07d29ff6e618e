/- lookupAll, Lookup. -/
import Derived.Test.YtpkgkppehefibaaGreatDoorE4
import Derived.Shelf.Abstract
import Derived.StillTailTactics
namespace Go.Proofs.YtpkgkppehefibaaGreatDoor
open Go.RowKit Sa

theorem Ix.below {w w' : World} {ix n ct bs os cs C : Nat} {A : Option Addr} {d : Nat → Nat} (h : Ix w ix A n ct bs os cs d) (hb : Below C w w') (h1 : ix < C) (h2 : bs < C) : Ix w' ix A n ct bs os cs d :=
  ⟨by rw [hb.cell (p := ⟨ix, 0, none⟩) h1]; exact h.c0, by rw [hb.cell (p := ⟨ix, 1, none⟩) h1]; exact h.c1, by rw [hb.cell (p := ⟨ix, 2, none⟩) h1]; exact h.c2,
   fun i hi => by rw [hb.cell (p := ⟨bs, os + i, none⟩) h2]; exact h.sa i hi, h.dl, h.cs, h.ct, h.sm⟩
theorem enters1 : ∀ args w, (callFunc 54 args).run Tryz.prog w = .ok (.enter 54 args) w := enters_of Tryz.func54 (by kernel_rfl) rfl
theorem enters2 : ∀ args w, (callFunc 57 args).run Tryz.prog w = .ok (.enter 57 args) w := enters_of Tryz.func57 (by kernel_rfl) rfl
theorem quiet2 {P : Program} {f : FuncId} {args : Array Value} {w : World} {q : Nat} {v : Value} (h : Calls P f args (w.drewN q) fun e w' => e = .returned v ∧ ∃ m, w' = (w.drewN q).drewN m) : Calls P f args (w.drewN q) fun e w'' => e = .returned v ∧ ∃ m, w'' = w.drewN m := Calls.quiet_of h

/-- two cells of a result that lies in memory -/
structure Rc (w : World) (b : Nat) : Prop where
  c0 : ∃ v, w.cell? ⟨b, 0, none⟩ = some v
  c1 : ∃ v, w.cell? ⟨b, 1, none⟩ = some v
  z0 : w.frozen? ⟨b, 0, none⟩ = false
  z1 : w.frozen? ⟨b, 1, none⟩ = false
theorem Rc.below {w w' : World} {b C : Nat} (h : Rc w b) (hb : Below C w w') (hC : b < C) : Rc w' b :=
  ⟨by rw [hb.cell (p := ⟨b, 0, none⟩) hC]; exact h.c0, by rw [hb.cell (p := ⟨b, 1, none⟩) hC]; exact h.c1, by rw [hb.frozen (p := ⟨b, 0, none⟩) hC]; exact h.z0, by rw [hb.frozen (p := ⟨b, 1, none⟩) hC]; exact h.z1⟩
theorem search_det (F : FuncId) (caps : Array Value) (n : Nat) (p : Nat → Bool) (w : World) (eg : ∀ args w, (callFunc F args).run Tryz.prog w = .ok (.enter F args) w) (hn : n < 1073741824)
    (hc : ∀ q k, k < n → Calls Tryz.prog F (#[.int .i64 (k : Int)] ++ caps) (w.drewN q) fun e w' => e = .returned (.bool (p k)) ∧ ∃ q', w' = w.drewN q') (hm : ∀ a b, a ≤ b → b < n → p a = true → p b = true) (r : Nat) (hr : First p n r) :
    Calls Tryz.prog 53 #[.int .i64 (n : Int), .func (.func F) #[] caps] w fun e w' => e = .returned (.int .i64 (r : Int)) ∧ ∃ q, w' = w.drewN q :=
  (search_any F caps n p w eg hn hc).mono fun _ _ ⟨_, he, h1, h2, h3, q, hq⟩ => by
    obtain rfl := First.uniq hm hr ⟨h1, h2, h3⟩
    exact ⟨he, q, hq⟩

set_option maxRecDepth 100000 in
set_option maxHeartbeats 1000000 in
theorem lookupAll_any (ix n ct bs os cs : Nat) (A : Option Addr) (d T : Nat → Nat) (B : Option Addr) (m e : Nat) (S : Nat → Nat) (w : World) (h : Ix w ix A n ct bs os cs d) (hbs : bs < w.heap.size) (hsa : IsSA T n d)
    (tx : Rd w 0 w.heap.size A n (bv T)) (sx : Rd w 0 w.heap.size B m (bv S)) (tl : ∀ i, i < n → T i < 256) (sl : ∀ i, i < m → S i < 256) (hm : m < 1073741824) :
    Calls Tryz.prog 42 #[.pointer (some ⟨ix, 0, none⟩), .slice B m e] w fun e w' =>
      ∃ r q o', e = .returned (.agg #[.slice (some ⟨bs, o', none⟩) q (cs - r), .slice none 0 0]) ∧ r + q ≤ n ∧ (∀ k, k < n → (stands T n S m (d k) ↔ r ≤ k ∧ k < r + q)) ∧ (0 < q → o' = os + r) ∧ Below w.heap.size w w' := by
  have hmf : ∀ (fn : Fn) (first cap : Array Value) (w : World), (Instr.makeFunc fn first cap).run Tryz.prog w = .ok (.func fn first cap) w := fun _ _ _ _ => rfl
  have hix : ix < w.heap.size := cell_lt h.c0
  have hsm := h.sm
  obtain ⟨W0, hW0⟩ : ∃ W0, W0 = ((w.alloc (Obj.cells #[Value.pointer (some { block := ix, off := 0 })] 43)).alloc (Obj.cells #[Value.slice B m e] 22)).alloc (Obj.cells #[Value.slice none 0 0, Value.slice none 0 0] 47) := ⟨_, rfl⟩
  have hsz : W0.heap.size = w.heap.size + 1 + 1 + 1 := by rw [hW0]; simp
  have hb0 : Below w.heap.size w W0 := by rw [hW0]; exact (((Below.refl _ _).alloc (Nat.le_refl _) _).alloc (by simp) _).alloc (by simp; omega) _
  have cx : W0.cell? ⟨w.heap.size, 0, none⟩ = some (.pointer (some ⟨ix, 0, none⟩)) := by
    rw [hW0, World.cell?_alloc_past _ _ _ (by simp; omega), World.cell?_alloc_past _ _ _ (by simp), World.cell?_alloc_at _ _ _ _ rfl]; rfl
  have cy : W0.cell? ⟨w.heap.size + 1, 0, none⟩ = some (.slice B m e) := by
    rw [hW0, World.cell?_alloc_past _ _ _ (by simp), World.cell?_alloc_at _ _ _ _ (by simp)]; rfl
  have lk : Lk W0 w.heap.size (w.heap.size + 1) ix A n ct bs os cs d T B m e S :=
    ⟨h.below hb0 hix hbs, (tx.below hb0 (Nat.le_refl _)).mono (Nat.le_refl _) hb0.size, (sx.below hb0 (Nat.le_refl _)).mono (Nat.le_refl _) hb0.size, tl, sl, cx, cy, hm⟩
  have HRC : Hid (Rc W0 (w.heap.size + 1 + 1)) := by
    rw [hW0]
    exact ⟨⟨_, by rw [World.cell?_alloc_at _ _ _ _ (by simp)]; rfl⟩, ⟨_, by rw [World.cell?_alloc_at _ _ _ _ (by simp)]; rfl⟩, World.frozen?_alloc_at _ _ _ _ (by simp), World.frozen?_alloc_at _ _ _ _ (by simp)⟩
  have HL := Lib.hid lk; have HS := Lib.hid hsa; have HB := Lib.hid hb0; have HZ := Lib.hid hsz; have HW := Lib.hid hW0
  clear h tx sx tl sl lk hsa hb0 hsz cx cy
  go_enter Tryz.func42, Tryz.ntmps42
  go_wp2_with fail
  rw [← hW0]
  clear hW0
  refine (len_any ix n ct bs os cs A d W0 HL.out.hx).mono ?_
  rintro _ w1 ⟨rfl, q1, rfl⟩
  go_wp2_with fail
  refine (search_any 54 #[.pointer (some ⟨w.heap.size, 0, none⟩), .pointer (some ⟨w.heap.size + 1, 0, none⟩)] n (fun k => decide (¬ suf T n (d k) < suf S m 0)) (W0.drewN q1) enters1 hsm
    (fun q k hk => quiet2 (clo1_any ((HL.out.drewN q1).drewN q) k hk))).mono ?_
  rintro _ w1 ⟨r, rfl, hr1, hr2, hr3, q2, rfl⟩
  have R2 := Lib.hid hr2; have R3 := Lib.hid hr3
  clear hr2 hr3
  obtain ⟨W1, hW1⟩ : ∃ W1, W1 = (W0.drewN q1).drewN q2 := ⟨_, rfl⟩
  have HL1 : Hid (Lk W1 w.heap.size (w.heap.size + 1) ix A n ct bs os cs d T B m e S) := by rw [hW1]; exact (HL.out.drewN q1).drewN q2
  have HZ1 : Hid (W1.heap.size = w.heap.size + 1 + 1 + 1) := by rw [hW1]; exact HZ.out
  have HB1 : Hid (Below w.heap.size w W1) := by rw [hW1]; exact HB.out.trans ⟨rfl, rfl, rfl, Nat.le_refl _, fun _ _ => rfl⟩
  have HRC1 : Hid (Rc W1 (w.heap.size + 1 + 1)) := by
    have := HRC.out
    rw [hW1]; exact ⟨this.c0, this.c1, this.z0, this.z1⟩
  rw [← hW1]
  clear hW1 HL HB HZ HW HRC
  have hx1 : ∀ ob, (W1.alloc ob).cell? ⟨w.heap.size, 0, none⟩ = some (.pointer (some ⟨ix, 0, none⟩)) := fun ob => by rw [World.cell?_alloc_past _ _ _ (by show w.heap.size < W1.heap.size; rw [HZ1.out]; omega)]; exact HL1.out.cx
  go_wp2_with fail
  obtain ⟨q, hq⟩ := First.exists (fun k => !decide (stands T n S m (d (r + k)))) (n - r)
  obtain ⟨W2, hW2⟩ : ∃ W2, W2 = W1.alloc (Obj.cells #[Value.int IntKind.i64 (r : Int)] 3) := ⟨_, rfl⟩
  have HB2 : Hid (Below W1.heap.size W1 W2) := by rw [hW2]; exact (Below.refl _ _).alloc (Nat.le_refl _) _
  have HL2 : Hid (Lk W2 w.heap.size (w.heap.size + 1) ix A n ct bs os cs d T B m e S) := by
    have hl := HL1.out; have hb := HB2.out; have hz := HZ1.out
    exact ⟨hl.hx.below hb (by omega) (by omega), (hl.tx.below hb (Nat.le_refl _)).mono (Nat.le_refl _) hb.size, (hl.sx.below hb (Nat.le_refl _)).mono (Nat.le_refl _) hb.size, hl.tl, hl.sl,
      by rw [hb.cell (p := ⟨w.heap.size, 0, none⟩) (by show w.heap.size < W1.heap.size; omega)]; exact hl.cx, by rw [hb.cell (p := ⟨w.heap.size + 1, 0, none⟩) (by show w.heap.size + 1 < W1.heap.size; omega)]; exact hl.cy, hl.hm⟩
  have hci : W2.cell? ⟨W1.heap.size, 0, none⟩ = some (.int .i64 (r : Int)) := by rw [hW2, World.cell?_alloc_at _ _ _ _ rfl]; rfl
  have hcx : W2.cell? ⟨w.heap.size, 0, none⟩ = some (.pointer (some ⟨ix, 0, none⟩)) := HL2.out.cx
  have hqn := hq.le
  have HQ := Lib.hid hq
  have hsub : ((n : Int) - (r : Int)) = ((n - r : Nat) : Int) := by omega
  have hS := fun q0 => search_det 57 #[.pointer (some ⟨w.heap.size, 0, none⟩), .pointer (some ⟨W1.heap.size, 0, none⟩), .pointer (some ⟨w.heap.size + 1, 0, none⟩)] (n - r) (fun k => !decide (stands T n S m (d (r + k)))) (W2.drewN q0) enters2 (by omega)
    (fun q k hk => quiet2 (clo2_any ((HL2.out.drewN q0).drewN q) W1.heap.size r hci k (by omega))) (fun a b hab hb hp => by
      simp only [Bool.not_eq_true', decide_eq_false_iff_not] at hp ⊢
      exact fun hs => hp (stands_down HS.out (fun h => by have := R3.out h; simpa using this) (by omega) (by omega) (by omega) hs)) q hq
  rw [← hsub] at hS
  have HSS := Lib.hid hS
  rw [← hW2]
  clear hW2 hS hq hsub hx1
  go_quiet (first
    | (go_at_call 43; exact Calls.quiet_of (len_any ix n ct bs os cs A d _ (HL2.out.hx.drewN _)))
    | (go_at_call 53; exact Calls.quiet_of (HSS.out _)))
  go_wp2_with fail
  refine wp_region_still_tail 5 (by kernel_rfl) (by kernel_rfl) ?_
  obtain ⟨W4, hW4⟩ : ∃ W4 : World, W4 = { W2.drewN nq with drawn := (W2.drewN nq).drawn + 1 } := ⟨_, rfl⟩
  rw [← hW4]
  have HB4 : Hid (Below W2.heap.size W2 W4) := by rw [hW4]; exact ⟨rfl, rfl, rfl, Nat.le_refl _, fun _ _ => rfl⟩
  have hx4 : W4.cell? ⟨w.heap.size, 0, none⟩ = some (.pointer (some ⟨ix, 0, none⟩)) := by rw [hW4]; exact hcx
  have hi4 : W4.cell? ⟨W1.heap.size, 0, none⟩ = some (.int .i64 (r : Int)) := by rw [hW4]; exact hci
  have HX4 : Hid (Ix W4 ix A n ct bs os cs d) := by
    have := HL2.out.hx
    rw [hW4]; exact ⟨this.c0, this.c1, this.c2, this.sa, this.dl, this.cs, this.ct, this.sm⟩
  have HZ4 : Hid (W4.heap.size = W2.heap.size) := by rw [hW4]; rfl
  clear hW4
  simp only [List.take_succ_cons, List.take_zero, List.drop_succ_cons, List.drop_zero]
  repeat still_step
  refine wpStill_nil ?_
  have hsl := slice_any ix n ct bs os cs A d W4 HX4.out r (r + q) (by omega) (by omega)
  simp only [Int.natCast_add] at hsl
  have HSL := Lib.hid hsl
  clear hsl
  go_wp2_with fail
  refine HSL.out.mono ?_
  rintro _ w5 ⟨o', rfl, ho', hb5⟩
  have HO := Lib.hid ho'; have HB5 := Lib.hid hb5
  clear ho' hb5
  have hs2 := HB2.out.size
  have hz4 := HZ4.out
  have hz1 := HZ1.out
  have hrc := ((HRC1.out.below HB2.out (by omega)).below HB4.out (by omega)).below HB5.out (by omega)
  have HBW : Hid (Below w.heap.size w w5) := (((HB1.out.trans (HB2.out.mono (by omega))).trans (HB4.out.mono (by omega)))).trans (HB5.out.mono (by omega))
  obtain ⟨v0, c0⟩ := hrc.c0
  obtain ⟨v1, c1⟩ := hrc.c1
  have z0 := hrc.z0; have z1 := hrc.z1
  have c1' : ∀ x, (w5.setCell ⟨w.heap.size + 1 + 1, 0, none⟩ x).cell? ⟨w.heap.size + 1 + 1, 1, none⟩ = some v1 := fun x => by rw [cell_setCell_ne _ _ _ _ _ _ (.inr (by omega))]; exact c1
  have e1 : ∀ x y, ((w5.setCell ⟨w.heap.size + 1 + 1, 0, none⟩ x).setCell ⟨w.heap.size + 1 + 1, 1, none⟩ y).cell? ⟨w.heap.size + 1 + 1, 0, none⟩ = some x := fun x y => by
    rw [cell_setCell_ne _ _ _ _ _ _ (.inr (by omega))]; exact cell_setCell_eq _ _ _ _ _ c0
  have e2 : ∀ x y, ((w5.setCell ⟨w.heap.size + 1 + 1, 0, none⟩ x).setCell ⟨w.heap.size + 1 + 1, 1, none⟩ y).cell? ⟨w.heap.size + 1 + 1, 1, none⟩ = some y := fun x y => cell_setCell_eq _ _ _ _ _ (c1' x)
  clear hs2 hz4 hz1 hrc HRC1
  go_wp2
  refine bodyPost_ret (by simp [results, Tryz.results42, go_sem, e1, e2]; rfl) rfl ?_
  exact ⟨r, q, o', rfl, by omega, range_found HS.out (by omega) (fun h => by have := R2.out h; simpa using this) (fun h => by have := R3.out h; simpa using this) (by omega) (fun h => by have := HQ.out.low h; simpa using this)
    (fun h => by have := HQ.out.at_ (by omega); simpa using this), fun h => HO.out (by omega), (HBW.out.setCell (by show w.heap.size ≤ w.heap.size + 1 + 1; omega) _).setCell (by show w.heap.size ≤ w.heap.size + 1 + 1; omega) _⟩
end Go.Proofs.YtpkgkppehefibaaGreatDoor
