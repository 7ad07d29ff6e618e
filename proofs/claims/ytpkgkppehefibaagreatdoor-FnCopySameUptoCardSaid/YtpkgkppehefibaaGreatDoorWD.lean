/- suffixarray.New, with all that Read needs of it; impl.exactly. -/
import Derived.Test.YtpkgkppehefibaaGreatDoorWA
namespace Go.Proofs.YtpkgkppehefibaaGreatDoor
open Go.RowKit Sa

set_option maxHeartbeats 1000000 in
set_option maxRecDepth 100000 in
/-- WHAT New DOES, in full -/
theorem new_full (A : Option Addr) (ct n : Nat) (T : Nat → Nat) (w : World) (hn : n < 1073741824) (hct : n ≤ ct) (ht : Txt w A n T) (hg : MaxOk w) :
    Calls Tryz.prog 33 #[.slice A n ct] w fun e w' =>
      ∃ d, e = .returned (.pointer (some ⟨w.heap.size, 0, none⟩)) ∧ Ix w' w.heap.size A n ct (w.heap.size + 1) 0 n d ∧ IsSA T n d ∧ Reg w' (w.heap.size + 1) 0 n (fun i => (d i : Nat)) ∧ Xb w' w.heap.size (.slice A n ct) (.slice (some ⟨w.heap.size + 1, 0, none⟩) n n) (.slice none 0 0) ∧ w.heap.size + 1 < w'.heap.size ∧ Below w.heap.size w w' := by
  have hmk : ∀ W, (Instr.makeSlice 44 (.int .i64 (n : Int)) (.int .i64 (n : Int))).run Tryz.prog W = .ok (.slice (some ⟨W.heap.size, 0, none⟩) n n) (W.alloc (.cells (madeCells #[.int .i32 0] n) 21)) := fun W => run_make32 n hn W
  have hgl := hg.lt
  unfold MaxOk at hg
  have hle : (n : Int) ≤ 2147483647 := by omega
  have hW1 : ∀ o1 : Obj, (w.alloc o1).heap.size = w.heap.size + 1 := fun o1 => by simp
  have hcall := fun o1 : Obj => text32 A ct n (w.heap.size + 1) 0 n T ((w.alloc o1).alloc (.cells (madeCells #[.int .i32 0] n) 21)) hn hct (Nat.le_refl _)
    ⟨fun i hi => by
      obtain ⟨ad, h1, h2, h3⟩ := ht.c i hi
      have hb := cell_lt h3
      exact ⟨ad, h1, h2, by rw [World.cell?_alloc_past _ _ _ (by rw [hW1]; omega), World.cell?_alloc_past _ _ _ hb]; exact h3⟩, ht.l⟩
    (fun h0 ad h => by
      obtain ⟨ad', h1, h2, h3⟩ := ht.c 0 h0
      rw [h] at h1; obtain rfl := Option.some.inj h1
      have := cell_lt h3; omega) (by have := reg_made (w.alloc o1) n; rwa [hW1] at this)
  have HC := Lib.hid hcall
  clear hcall ht
  go_enter Tryz.func33, Tryz.ntmps33
  go_wp2_with fail
  refine (HC.out _).mono ?_
  rintro e w3 ⟨rfl, d, h1, h2, h3⟩
  have hix : w.heap.size ≠ w.heap.size + 1 := by omega
  have hno : ∀ o, ¬ inR (w.heap.size + 1) 0 n w.heap.size o := fun o h => hix h.1
  have hsz : ∀ (o1 o2 : Obj), ((w.alloc o1).alloc o2).heap.size = w.heap.size + 2 := fun o1 o2 => by simp
  have q0 := h3.cell w.heap.size 0 (by rw [hsz]; omega) (hno 0)
  have q1 := h3.cell w.heap.size 1 (by rw [hsz]; omega) (hno 1)
  have q2 := h3.cell w.heap.size 2 (by rw [hsz]; omega) (hno 2)
  rw [World.cell?_alloc_past _ _ _ (by rw [hW1]; omega), World.cell?_alloc_at _ _ _ _ rfl] at q0 q1 q2
  have HX : Hid (Ix w3 w.heap.size A n ct (w.heap.size + 1) 0 n d) := ⟨q0, q1, q2, h1.c, h2.lt, Nat.le_refl _, hct, hn⟩
  have HS := Lib.hid h2
  have HZ : Hid (w.heap.size + 1 < w3.heap.size) := by
    have := h3.size
    rw [hsz] at this
    show _ < _; omega
  have HB : Hid (Below w.heap.size w w3) := (((Below.refl _ _).alloc (Nat.le_refl _) _).alloc (by simp) _).trans (h3.below (by rw [hsz]; omega) (fun b o h => by have := h.1; omega))
  have HR := Lib.hid h1
  have HFR : Hid (Xb w3 w.heap.size (.slice A n ct) (.slice (some ⟨w.heap.size + 1, 0, none⟩) n n) (.slice none 0 0)) := by
    have e := h3.blk w.heap.size (by rw [hsz]; omega) hno
    rw [heap_alloc2_old] at e
    exact e
  clear h1 h2 h3 q0 q1 q2 hno hsz HC hW1
  go_wp2
  go_ret
  exact ⟨d, rfl, HX.out, HS.out, HR.out, HFR.out, HZ.out, HB.out⟩

set_option maxRecDepth 100000 in
/-- impl.exactly -/
theorem exactly_any (A : Option Addr) (n c lo hi : Nat) (T : Nat → Nat) (w : World) (hn : n < 1073741824) (hh : hi ≤ w.heap.size) (h : Rd w lo hi A n (bv T)) :
    Calls Tryz.prog 34 #[.slice A n c] w fun e w' => e = .returned (.slice (some ⟨w.heap.size, 0, none⟩) n n) ∧ Row8 w' w.heap.size n T ∧ Below w.heap.size w w' := by
  have hmk : ∀ W, (Instr.makeSlice 22 (.int .i64 (n : Int)) (.int .i64 (n : Int))).run Tryz.prog W = .ok (.slice (some ⟨W.heap.size, 0, none⟩) n n) (W.alloc (.cells (madeCells #[.int .u8 0] n) 5)) := fun W => run_make8 n hn W
  obtain ⟨W1, hW1⟩ : ∃ W1, W1 = w.alloc (.cells (madeCells #[.int .u8 0] n) 5) := ⟨_, rfl⟩
  have hb1 : Below w.heap.size w W1 := by rw [hW1]; exact (Below.refl _ _).alloc (Nat.le_refl _) _
  have hN : W1.heap[w.heap.size]? = some (.cells (madeCells #[.int .u8 0] n) 5 (0, 0)) := by rw [hW1]; exact heap_alloc_new w _
  have hsz : (madeCells #[.int .u8 0] n).size = n := by rw [← Array.length_toList, toList_madeCells_one, List.length_replicate]
  have hce : ∀ i, i < n → (madeCells #[.int .u8 0] n)[i]? = some (Value.int .u8 (((fun _ => 0 : Nat → Nat) i : Nat) : Int)) := fun i hi => by
    rw [← Array.getElem?_toList, toList_madeCells_one, List.getElem?_replicate, if_pos hi]; rfl
  have hr1 := h.below hb1 hh
  rcases Nat.eq_zero_or_pos n with rfl | hpos
  · have hmk0 : ∀ W, (Instr.makeSlice 22 (.int .i64 0) (.int .i64 0)).run Tryz.prog W = .ok (.slice (some ⟨W.heap.size, 0, none⟩) 0 0) (W.alloc (.cells (madeCells #[.int .u8 0] 0) 5)) := fun W => hmk W
    clear hmk
    have hce2 : ∀ d dLen dCap W, (Builtin.copy_ #[22, 22] 3 #[.slice d dLen dCap, .slice A 0 c]).run Tryz.prog W = .ok (goInt 0) W := fun d dLen dCap W => run_copy_none W 22 22 3 5 d A dLen dCap 0 c Tryz.underlying22 info8s (by simp)
    have HB1 := Lib.hid hb1; have HN := Lib.hid hN; have HSZ := Lib.hid hsz; have HW := Lib.hid hW1
    clear hb1 hN hsz hce hr1 h hW1
    go_enter Tryz.func34, Tryz.ntmps34
    go_wp2
    go_ret
    rw [← HW.out]
    exact ⟨rfl, ⟨_, HN.out, HSZ.out, fun i hi => absurd hi (by omega)⟩, HB1.out⟩
  · obtain ⟨ad, rfl, hsrc⟩ := hr1.list hpos
    have hcp := run_copy_row (P := Tryz.prog) W1 22 22 3 5 w.heap.size 0 n n ad n c (madeCells #[.int .u8 0] n) 5 ((List.range n).map (bv T)) Tryz.underlying22 info8s hN (by simp) (fun j v hj => hsrc j v hj) (by simp [hsz]) (fun v hv => by obtain ⟨j, _, rfl⟩ := List.mem_map.1 hv; rfl)
    simp only [List.length_map, List.length_range] at hcp
    have hput := Row8.put hN hsz hce 0 n T (by omega)
    obtain ⟨W2, hW2⟩ : ∃ W2, W2 = W1.setRow w.heap.size ((madeCells #[.int .u8 0] n).toList.take 0 ++ (List.range n).map (bv T) ++ (madeCells #[.int .u8 0] n).toList.drop (0 + n)).toArray := ⟨_, rfl⟩
    rw [← hW2] at hcp hput
    rw [hW1] at hcp
    have hb2 : Below w.heap.size w W2 := ⟨by rw [hW2]; exact hb1.os, by rw [hW2]; exact hb1.tape, by rw [hW2]; exact hb1.output, by rw [hW2, setRow_size]; exact hb1.size, fun k hk => by rw [hW2, setRow_other _ _ _ _ (by omega)]; exact hb1.block k hk⟩
    have HP := Lib.hid (hput.congr (B' := T) fun i hi => by unfold putf; rw [if_pos (by omega)]; rfl); have HB2 := Lib.hid hb2
    clear hput hb2 hW2 hb1 hN hsz hce hr1 h hsrc hW1
    go_enter Tryz.func34, Tryz.ntmps34
    go_wp2
    go_ret
    exact ⟨rfl, HP.out, HB2.out⟩
end Go.Proofs.YtpkgkppehefibaaGreatDoor
