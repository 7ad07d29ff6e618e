/- Lookup in an index that was read. -/
import Derived.Test.YtpkgkppehefibaaGreatDoorWG
import Derived.Test.YtpkgkppehefibaaGreatDoorH5
namespace Go.Proofs.YtpkgkppehefibaaGreatDoor
open Go.RowKit Sa

set_option maxRecDepth 100000 in
set_option maxHeartbeats 1000000 in
theorem lookupAll_nil (ix : Nat) (B : Option Addr) (m e : Nat) (w : World) (h : Xb w ix (.slice none 0 0) (.slice none 0 0) (.slice none 0 0)) :
    Calls Tryz.prog 42 #[.pointer (some ⟨ix, 0, none⟩), .slice B m e] w fun e w' => e = .returned (.agg #[.slice none 0 0, .slice none 0 0]) ∧ Below w.heap.size w w' := by
  have hmf : ∀ (fn : Fn) (first cap : Array Value) (w : World), (Instr.makeFunc fn first cap).run Tryz.prog w = .ok (.func fn first cap) w := fun _ _ _ _ => rfl
  have hix : ix < w.heap.size := h.lt
  obtain ⟨W0, hW0⟩ : ∃ W0, W0 = ((w.alloc (Obj.cells #[Value.pointer (some { block := ix, off := 0 })] 43)).alloc (Obj.cells #[Value.slice B m e] 22)).alloc (Obj.cells #[Value.slice none 0 0, Value.slice none 0 0] 47) := ⟨_, rfl⟩
  have hsz : W0.heap.size = w.heap.size + 1 + 1 + 1 := by rw [hW0]; simp
  have hb0 : Below w.heap.size w W0 := by rw [hW0]; exact (((Below.refl _ _).alloc (Nat.le_refl _) _).alloc (by simp) _).alloc (by simp; omega) _
  have cx : W0.cell? ⟨w.heap.size, 0, none⟩ = some (.pointer (some ⟨ix, 0, none⟩)) := by
    rw [hW0, World.cell?_alloc_past _ _ _ (by simp; omega), World.cell?_alloc_past _ _ _ (by simp), World.cell?_alloc_at _ _ _ _ rfl]; rfl
  have HRC : Hid (Rc W0 (w.heap.size + 1 + 1)) := by
    rw [hW0]
    exact ⟨⟨_, by rw [World.cell?_alloc_at _ _ _ _ (by simp)]; rfl⟩, ⟨_, by rw [World.cell?_alloc_at _ _ _ _ (by simp)]; rfl⟩, World.frozen?_alloc_at _ _ _ _ (by simp), World.frozen?_alloc_at _ _ _ _ (by simp)⟩
  have hx0 : Xb W0 ix (.slice none 0 0) (.slice none 0 0) (.slice none 0 0) := h.kept (Kept.le (P := fun _ => False) hb0) (fun h => h)
  have hsr := fun (F : FuncId) (caps : Array Value) (W : World) (eg : ∀ args w, (callFunc F args).run Tryz.prog w = .ok (.enter F args) w) => search_any F caps 0 (fun _ => true) W eg (by omega) (fun q k hk => absurd hk (by omega))
  have HSR := Lib.hid hsr
  have HL := Lib.hid hx0; have HB := Lib.hid hb0; have HZ := Lib.hid hsz; have HW := Lib.hid hW0; have HCX := Lib.hid cx
  have HLN := Lib.hid (fun q => len_at ix 1 0 0 none (W0.drewN q) (by omega) hx0.c1 hx0.c2)
  clear h hx0 hb0 hsz hsr cx
  go_enter Tryz.func42, Tryz.ntmps42
  go_wp2_with fail
  rw [← hW0]
  clear hW0
  refine (HLN.out 0).mono ?_
  rintro _ w1 ⟨rfl, q1, rfl⟩
  have cx1 := HCX.out
  go_wp2_with fail
  refine (HSR.out 54 #[.pointer (some ⟨w.heap.size, 0, none⟩), .pointer (some ⟨w.heap.size + 1, 0, none⟩)] _ enters1).mono ?_
  rintro _ w1 ⟨r, rfl, hr1, -, -, q2, rfl⟩
  obtain rfl : r = 0 := by omega
  obtain ⟨W1, hW1⟩ : ∃ W1, W1 = (W0.drewN q1).drewN q2 := ⟨_, rfl⟩
  have HL1 : Hid (Xb W1 ix (.slice none 0 0) (.slice none 0 0) (.slice none 0 0)) := by rw [hW1]; exact HL.out
  have HZ1 : Hid (W1.heap.size = w.heap.size + 1 + 1 + 1) := by rw [hW1]; exact HZ.out
  have HB1 : Hid (Below w.heap.size w W1) := by rw [hW1]; exact HB.out.trans ⟨rfl, rfl, rfl, Nat.le_refl _, fun _ _ => rfl⟩
  have HRC1 : Hid (Rc W1 (w.heap.size + 1 + 1)) := by
    have := HRC.out
    rw [hW1]; exact ⟨this.c0, this.c1, this.z0, this.z1⟩
  have cx1' : W1.cell? ⟨w.heap.size, 0, none⟩ = some (.pointer (some ⟨ix, 0, none⟩)) := by rw [hW1]; exact HCX.out
  rw [← hW1]
  clear hW1 HL HB HZ HW HRC HLN HCX cx1
  have hx1 : ∀ ob, (W1.alloc ob).cell? ⟨w.heap.size, 0, none⟩ = some (.pointer (some ⟨ix, 0, none⟩)) := fun ob => by rw [World.cell?_alloc_past _ _ _ (by show w.heap.size < W1.heap.size; rw [HZ1.out]; omega)]; exact cx1'
  go_wp2_with fail
  obtain ⟨W2, hW2⟩ : ∃ W2, W2 = W1.alloc (Obj.cells #[Value.int IntKind.i64 0] 3) := ⟨_, rfl⟩
  have HB2 : Hid (Below W1.heap.size W1 W2) := by rw [hW2]; exact (Below.refl _ _).alloc (Nat.le_refl _) _
  have HL2 : Hid (Xb W2 ix (.slice none 0 0) (.slice none 0 0) (.slice none 0 0)) := HL1.out.kept (Kept.le (P := fun _ => False) HB2.out) (fun h => h)
  have hci : W2.cell? ⟨W1.heap.size, 0, none⟩ = some (.int .i64 0) := by rw [hW2, World.cell?_alloc_at _ _ _ _ rfl]; rfl
  have hcx : W2.cell? ⟨w.heap.size, 0, none⟩ = some (.pointer (some ⟨ix, 0, none⟩)) := by rw [hW2]; exact hx1 _
  have hS := fun q0 => search_det 57 #[.pointer (some ⟨w.heap.size, 0, none⟩), .pointer (some ⟨W1.heap.size, 0, none⟩), .pointer (some ⟨w.heap.size + 1, 0, none⟩)] 0 (fun _ => true) (W2.drewN q0) enters2 (by omega)
    (fun q k hk => absurd hk (by omega)) (fun a b hab hb hp => absurd hb (by omega)) 0 ⟨Nat.le_refl _, fun h => absurd h (by omega), fun h => absurd h (by omega)⟩
  have HSS := Lib.hid hS
  rw [← hW2]
  clear hW2 hS hx1
  go_quiet (first
    | (go_at_call 43; exact Calls.quiet_of (len_at ix 1 0 0 none _ (by omega) HL2.out.c1 HL2.out.c2))
    | (go_at_call 53; exact Calls.quiet_of (HSS.out _)))
  go_wp2_with fail
  refine wp_region_still_tail 5 (by kernel_rfl) (by kernel_rfl) ?_
  obtain ⟨W4, hW4⟩ : ∃ W4 : World, W4 = { W2.drewN nq with drawn := (W2.drewN nq).drawn + 1 } := ⟨_, rfl⟩
  rw [← hW4]
  have HB4 : Hid (Below W2.heap.size W2 W4) := by rw [hW4]; exact ⟨rfl, rfl, rfl, Nat.le_refl _, fun _ _ => rfl⟩
  have hx4 : W4.cell? ⟨w.heap.size, 0, none⟩ = some (.pointer (some ⟨ix, 0, none⟩)) := by rw [hW4]; exact hcx
  have hi4 : W4.cell? ⟨W1.heap.size, 0, none⟩ = some (.int .i64 0) := by rw [hW4]; exact hci
  have HX4 : Hid (Xb W4 ix (.slice none 0 0) (.slice none 0 0) (.slice none 0 0)) := by rw [hW4]; exact HL2.out
  have HZ4 : Hid (W4.heap.size = W2.heap.size) := by rw [hW4]; rfl
  clear hW4
  simp only [List.take_succ_cons, List.take_zero, List.drop_succ_cons, List.drop_zero]
  repeat still_step
  refine wpStill_nil ?_
  have HSL := Lib.hid (slice_nil ix 1 W4 HX4.out.c1 HX4.out.c2)
  go_wp2_with fail
  refine HSL.out.mono ?_
  rintro _ w5 ⟨rfl, hb5⟩
  have HB5 := Lib.hid hb5
  clear hb5
  have hs2 := HB2.out.size
  have hz4 := HZ4.out
  have hz1 := HZ1.out
  have hrc := ((HRC1.out.below HB2.out (by omega)).below HB4.out (by omega)).below HB5.out (by omega)
  have HBW : Hid (Below w.heap.size w w5) := (((HB1.out.trans (HB2.out.mono (by omega))).trans (HB4.out.mono (by omega)))).trans (HB5.out.mono (by omega))
  obtain ⟨v0, c0⟩ := hrc.c0
  obtain ⟨v1, c1⟩ := hrc.c1
  have z0 := hrc.z0; have z1 := hrc.z1
  have c1' : ∀ x, (w5.setCell ⟨w.heap.size + 1 + 1, 0, none⟩ x).cell? ⟨w.heap.size + 1 + 1, 1, none⟩ = some v1 := fun x => by rw [cell_setCell_ne _ _ _ _ _ _ (.inr (by omega))]; exact c1
  have e1 : ∀ x y, ((w5.setCell ⟨w.heap.size + 1 + 1, 0, none⟩ x).setCell ⟨w.heap.size + 1 + 1, 1, none⟩ y).cell? ⟨w.heap.size + 1 + 1, 0, none⟩ = some x := fun x y => by
    rw [cell_setCell_ne _ _ _ _ _ _ (.inr (by omega))]; exact cell_setCell_eq _ _ _ _ _ c0
  have e2 : ∀ x y, ((w5.setCell ⟨w.heap.size + 1 + 1, 0, none⟩ x).setCell ⟨w.heap.size + 1 + 1, 1, none⟩ y).cell? ⟨w.heap.size + 1 + 1, 1, none⟩ = some y := fun x y => cell_setCell_eq _ _ _ _ _ (c1' x)
  clear hs2 hz4 hz1 hrc HRC1
  go_wp2
  refine bodyPost_ret (by simp [results, Tryz.results42, go_sem, e1, e2]; rfl) rfl ?_
  exact ⟨rfl, (HBW.out.setCell (by show w.heap.size ≤ w.heap.size + 1 + 1; omega) _).setCell (by show w.heap.size ≤ w.heap.size + 1 + 1; omega) _⟩
set_option maxRecDepth 100000 in
set_option maxHeartbeats 1000000 in
theorem lookup_nil (ix : Nat) (B : Option Addr) (m e : Nat) (N : Int) (w : World) (h : Xb w ix (.slice none 0 0) (.slice none 0 0) (.slice none 0 0)) (hm : m < 1073741824) :
    Calls Tryz.prog 32 #[.pointer (some ⟨ix, 0, none⟩), .slice B m e, .int .i64 N] w fun e w' => e = .returned (.slice none 0 0) ∧ Below w.heap.size w w' := by
  by_cases hm0 : m = 0
  · subst hm0
    clear h
    go_enter Tryz.func32, Tryz.ntmps32
    go_wp2
    go_ret
    exact ⟨rfl, Below.refl _ _⟩
  have hm1 : (0 : Int) < (m : Int) := by omega
  by_cases hN0 : N = 0
  · subst hN0
    clear h
    go_enter Tryz.func32, Tryz.ntmps32
    go_wp2
    go_ret
    exact ⟨rfl, Below.refl _ _⟩
  have HC := Lib.hid (lookupAll_nil ix B m e w h)
  clear h
  have hNn : N < 0 ∨ (¬ N < 0 ∧ 0 < N) := by omega
  go_enter Tryz.func32, Tryz.ntmps32
  go_wp2_with fail
  refine HC.out.mono ?_
  rintro _ w1 ⟨rfl, hb1⟩
  have HB1 := Lib.hid hb1
  clear hb1 HC
  obtain ⟨W2, hW2⟩ : ∃ W2, W2 = w1.alloc (.cells #[.slice none 0 0, .slice none 0 0] 47) := ⟨_, rfl⟩
  have HB2 : Hid (Below w1.heap.size w1 W2) := by rw [hW2]; exact (Below.refl _ _).alloc (Nat.le_refl _) _
  have HLN := Lib.hid (len_at w1.heap.size 0 0 0 none W2 (by omega) (by rw [hW2, World.cell?_alloc_at _ _ _ _ rfl]; rfl) (by rw [hW2, World.cell?_alloc_at _ _ _ _ rfl]; rfl))
  have HW2 := Lib.hid hW2
  clear hW2
  go_wp2_with fail
  rw [← HW2.out]
  refine HLN.out.mono ?_
  rintro _ w2 ⟨rfl, q2, hw2⟩
  subst hw2
  have HBW : Hid (Below w.heap.size w (W2.drewN q2)) := (HB1.out.trans (HB2.out.mono HB1.out.size)).trans ⟨rfl, rfl, rfl, Nat.le_refl _, fun _ _ => rfl⟩
  clear HLN HW2
  rcases hNn with c | ⟨c, c'⟩
  all_goals (
    go_wp2
    go_ret
    exact ⟨rfl, HBW.out⟩)
/-- Lookup in an index that was read -/
theorem rlookup_any (ix n : Nat) (T : Nat → Nat) (B : Option Addr) (m e : Nat) (S : Nat → Nat) (N : Int) (w : World) (h : Rdy w ix T n) (sx : Rd w 0 w.heap.size B m (bv S)) (tl : ∀ i, i < n → T i < 256) (sl : ∀ i, i < m → S i < 256) (hm : m < 1073741824) (hN1 : -9223372036854775808 ≤ N) (hN2 : N ≤ 9223372036854775807) :
    Calls Tryz.prog 32 #[.pointer (some ⟨ix, 0, none⟩), .slice B m e, .int .i64 N] w fun e w' =>
      ∃ d r q k A' c', e = .returned (.slice A' k c') ∧ k ≤ c' ∧ Looked T n S m N d r q k ∧ Wr w' w.heap.size w'.heap.size A' k (iv fun i => (d (r + i) : Nat)) ∧ Below w.heap.size w w' := by
  rcases h with ⟨gd, bs, os, ct, cs, d, h1, h2, h3, h4, h5⟩ | ⟨rfl, h⟩
  · refine (lookup_any ix n ct bs os cs _ d T B m e S N w h1 h5 h2 (h3.mono (Nat.zero_le _) (by omega)) sx tl sl hm hN1 hN2).mono ?_
    rintro _ w' ⟨r, q, k, A', c', rfl, hc, hf, -, hw, hb⟩
    exact ⟨d, r, q, k, A', c', rfl, hc, ⟨h2, hf⟩, hw, hb⟩
  · refine (lookup_nil ix B m e N w h hm).mono ?_
    rintro _ w' ⟨rfl, hb⟩
    exact ⟨fun _ => 0, 0, 0, 0, _, _, rfl, Nat.le_refl _, ⟨isSA_small (by omega), ⟨by omega, fun j hj => absurd hj (by omega), by split <;> omega⟩⟩, Wr.zero, hb⟩
end Go.Proofs.YtpkgkppehefibaaGreatDoor
