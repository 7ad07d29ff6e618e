/- ints.slice; ints in a block of their own. -/
import Derived.Test.YtpkgkppehefibaaGreatDoorWA
namespace Go.Proofs.YtpkgkppehefibaaGreatDoor
open Go.RowKit Sa

set_option maxRecDepth 100000 in
theorem slice_at (p po bs os k c i j : Nat) (w : World) (h1 : w.cell? ⟨p, po, none⟩ = some (.slice (some ⟨bs, os, none⟩) k c)) (hs : k < 1073741824) (hcs : k ≤ c) (hij : i ≤ j) (hj : j ≤ k) :
    Calls Tryz.prog 49 #[.pointer (some ⟨p, po, none⟩), .int .i64 (i : Int), .int .i64 (j : Int)] w fun e w' =>
      ∃ o', e = .returned (.agg #[.slice (some ⟨bs, o', none⟩) (j - i) (c - i), .slice none 0 0]) ∧ (i < j → o' = os + i) ∧ Below w.heap.size w w' := by
  have hnn := fun w => run_neq_slice_nil_any (P := Tryz.prog) w 44 21 (some ⟨bs, os, none⟩) k c 0 0 Tryz.underlying44
  have hb := cell_lt h1
  have h1a : ∀ ob, (w.alloc ob).cell? ⟨p, po, none⟩ = some (.slice (some ⟨bs, os, none⟩) k c) := fun ob => by rw [World.cell?_alloc_past _ _ _ hb]; exact h1
  clear h1
  by_cases hci : c = i
  · obtain rfl : j = k := by omega
    obtain rfl : i = j := by omega
    subst hci
    go_enter Tryz.func49, Tryz.ntmps49
    go_wp2
    go_returns
    exact ⟨os, by simp, fun h => by omega, (Below.refl _ _).alloc (Nat.le_refl _) _⟩
  · go_enter Tryz.func49, Tryz.ntmps49
    go_wp2
    go_returns
    exact ⟨_, rfl, fun _ => rfl, (Below.refl _ _).alloc (Nat.le_refl _) _⟩
/-- ints that lie in a block of their own -/
def Ib (w : World) (p bs os k c : Nat) : Prop := w.heap[p]? = some (.cells #[.slice (some ⟨bs, os, none⟩) k c, .slice none 0 0] 47 (0, 0))
section
variable {w : World} {p bs os k c : Nat}
theorem Ib.c0 (h : Ib w p bs os k c) : w.cell? ⟨p, 0, none⟩ = some (.slice (some ⟨bs, os, none⟩) k c) := by rw [Lib.cell_of_heap h]; rfl
theorem Ib.c1 (h : Ib w p bs os k c) : w.cell? ⟨p, 1, none⟩ = some (.slice none 0 0) := by rw [Lib.cell_of_heap h]; rfl
theorem Ib.z (h : Ib w p bs os k c) (i : Nat) : w.frozen? ⟨p, i, none⟩ = false := Lib.frozen_of_heap h i
theorem Ib.lt (h : Ib w p bs os k c) : p < w.heap.size := cell_lt h.c0
theorem Ib.kept {P : Nat → Prop} {w' : World} (h : Ib w p bs os k c) (kp : Kept P w w') (hb : ¬ P p) : Ib w' p bs os k c := by
  have hl := h.lt
  unfold Ib at h ⊢
  rw [kp.block p hl hb]; exact h
theorem Ib.set (h : Ib w p bs os k c) (os' k' c' : Nat) : Ib ((w.setCell ⟨p, 0, none⟩ (.slice (some ⟨bs, os', none⟩) k' c')).setCell ⟨p, 1, none⟩ (.slice none 0 0)) p bs os' k' c' :=
  Lib.heap_setCell_same (i := 1) (Lib.heap_setCell_same (i := 0) h _) _
end
/-- what is written ahead of the data -/
def hd0 (n : Nat) : Nat → Nat := lay (fun _ => 0) 0 (Lib.uvarint (Lib.zigzag (n : Int)))
theorem row8_made (w : World) (k : Nat) : Row8 (w.alloc (.cells (madeCells #[.int .u8 0] k) 5)) w.heap.size k (fun _ => 0) :=
  ⟨_, heap_alloc_new w _, by rw [← Array.length_toList, toList_madeCells_one, List.length_replicate], fun i hi => by rw [← Array.getElem?_toList, toList_madeCells_one, List.getElem?_replicate, if_pos hi]; rfl⟩
theorem cat_zero (f S : Nat → Nat) : cat f 0 S = S := by funext i; unfold cat; rw [if_neg (by omega)]; rfl
end Go.Proofs.YtpkgkppehefibaaGreatDoor
