/- bytes.Buffer: grow at a buffer without a row; Write. -/
import Derived.Test.YtpkgkppehefibaaGreatDoorW1
namespace Go.Proofs.YtpkgkppehefibaaGreatDoor
open Go.RowKit Sa

/-- make([]byte, n, 64) -/
theorem run_make64 (n : Nat) (hn : n ≤ 64) (w : World) : (Instr.makeSlice 22 (.int .i64 (n : Int)) (.int .i64 64)).run Tryz.prog w = .ok (.slice (some ⟨w.heap.size, 0, none⟩) n 64) (w.alloc (.cells (madeCells #[.int .u8 0] 64) 5)) := by
  obtain ⟨i0, hi, hz0, hz1, hz2⟩ := info_parts info8
  have hr := run_make (P := Tryz.prog) w 22 5 i0 (.int .u8 0) Tryz.underlying22 hi hz0 .i64 .i64 n 64 (by omega) (by omega) (by rw [hz2]; omega) (by omega)
  simp only [Int.toNat_natCast, hz1, Nat.mul_one] at hr
  exact hr
set_option maxHeartbeats 6400000 in
set_option maxRecDepth 100000 in
/-- grow, where there is no row yet -/
theorem bufgrow_nil (b n : Nat) (w : World) (h : Hd w b (.slice none 0 0) 0) (hn : 1 ≤ n) (hn64 : n ≤ 64) :
    Calls Tryz.prog 145 #[.pointer (some ⟨b, 0, none⟩), .int .i64 (n : Int)] w fun e w' => e = .returned (.int .i64 0) ∧ ∃ cells, Hd w' b (.slice (some ⟨w.heap.size, 0, none⟩) n 64) 0 ∧ w'.heap[w.heap.size]? = some (.cells cells 5 (0, 0)) ∧ cells.size = 64 ∧ Kept (fun k => k = b) w w' := by
  have hnil : ∀ W, (binOp .eql 22 (.slice none 0 0) (.slice none 0 0)).run Tryz.prog W = .ok (.bool true) W := fun W => by
    have := Lib.run_eql_slice_nil (P := Tryz.prog) W 22 5 none 0 0 0 0 Tryz.underlying22
    exact this
  have hmk : ∀ W, (Instr.makeSlice 22 (.int .i64 (n : Int)) (.int .i64 64)).run Tryz.prog W = .ok (.slice (some ⟨W.heap.size, 0, none⟩) n 64) (W.alloc (.cells (madeCells #[.int .u8 0] 64) 5)) := fun W => run_make64 n hn64 W
  have HH := Lib.hid h
  clear h
  go_enter Tryz.func145, Tryz.ntmps145
  go_wp2_with fail
  refine (buflen_any b 0 0 0 _ w HH.out (by omega) (by omega)).mono ?_
  rintro _ W0 ⟨rfl, k, hW0⟩
  have HH0 : Hid (Hd W0 b (.slice none 0 0) 0) := Lib.hid (by rw [hW0]; exact HH.out)
  have HW0 := Lib.hid hW0
  have c0 := HH0.out.c0; have c1 := HH0.out.c1; have f0 := HH0.out.z 0
  clear hW0
  go_wp2_with fail
  refine (Tryz.Buffer_tryGrow_none b _ 0 0 n _ c0 (by omega) (by simp only [maxLen]; omega) (by omega)).mono ?_
  rintro _ W1 ⟨rfl, hW1⟩
  have hW1' := hW1.symm
  clear hW1
  subst hW1'
  have hbW := HH0.out.lt
  have hca : ∀ ob, (W0.alloc ob).cell? ⟨b, 0, none⟩ = some (.slice none 0 0) := fun ob => by rw [World.cell?_alloc_past _ _ _ hbW]; exact c0
  have hfa : ∀ ob, (W0.alloc ob).frozen? ⟨b, 0, none⟩ = false := fun ob => by rw [World.frozen?_alloc_past _ _ _ hbW]; exact f0
  go_wp2
  go_ret
  have hsz0 : W0.heap.size = w.heap.size := by rw [HW0.out]; rfl
  have hszS : (W0.setCell ⟨b, 0, none⟩ (.slice (some ⟨W0.heap.size, 0, none⟩) n 64)).heap.size = W0.heap.size := by simp [World.setCell]
  have hal : Le (W0.setCell ⟨b, 0, none⟩ (.slice (some ⟨W0.heap.size, 0, none⟩) n 64)) ((W0.setCell ⟨b, 0, none⟩ (.slice (some ⟨W0.heap.size, 0, none⟩) n 64)).alloc (.cells (madeCells #[.int .u8 0] 64) 5)) := (Below.refl _ _).alloc (Nat.le_refl _) _
  have hK0 : Kept (fun k => k = b) w W0 := by rw [HW0.out]; exact ⟨rfl, rfl, rfl, Nat.le_refl _, fun _ _ _ => rfl⟩
  refine ⟨rfl, madeCells #[.int .u8 0] 64, ?_, ?_, ?_, ?_⟩
  · have := (HH0.out.set0 (.slice (some ⟨W0.heap.size, 0, none⟩) n 64)).kept (Kept.le (P := fun _ => False) hal) (fun h => h)
    rw [← hsz0]; exact this
  · have := heap_alloc_new (W0.setCell ⟨b, 0, none⟩ (.slice (some ⟨W0.heap.size, 0, none⟩) n 64)) (.cells (madeCells #[.int .u8 0] 64) 5)
    rw [hszS, hsz0] at this
    rw [hsz0]; exact this
  · rw [← Array.length_toList, toList_madeCells_one, List.length_replicate]
  · exact (hK0.setCell (fun _ => rfl) _).trans (Q := fun _ => False) (Kept.le hal) (fun _ _ h => h.elim)

/-- A BUFFER: block b; its row r (none: no byte was written yet); l bytes f, of which of have been read -/
structure Buf (w : World) (b : Nat) (r : Option Nat) (l : Nat) (f : Nat → Nat) (of : Nat) : Prop where
  c : (r = none ∧ l = 0 ∧ Hd w b (.slice none 0 0) of) ∨ ∃ g c cur, r = some g ∧ g ≠ b ∧ Hd w b (.slice (some ⟨g, 0, none⟩) l c) of ∧ w.heap[g]? = some (.cells cur 5 (0, 0)) ∧ cur.size = c ∧ 1 ≤ l ∧ l ≤ c ∧ c ≤ maxLen ∧ ∀ i, i < l → cur[i]? = some (.int .u8 ((f i : Nat) : Int))
/-- what copy leaves of a row -/
theorem row_written {cur : Array Value} {l n : Nat} {f S : Nat → Nat} (hf : ∀ i, i < l → cur[i]? = some (.int .u8 ((f i : Nat) : Int))) (hfit : l + n ≤ cur.size) :
    (cur.toList.take l ++ (List.range n).map (bv S) ++ cur.toList.drop (l + n)).toArray.size = cur.size ∧ ∀ i, i < l + n → (cur.toList.take l ++ (List.range n).map (bv S) ++ cur.toList.drop (l + n)).toArray[i]? = some (.int .u8 ((cat f l S i : Nat) : Int)) := by
  have hlen : (cur.toList.take l).length = l := by rw [List.length_take, Array.length_toList]; omega
  refine ⟨by simp; omega, fun i hi => ?_⟩
  rw [List.getElem?_toArray, List.getElem?_append_left (by rw [List.length_append, hlen, List.length_map, List.length_range]; omega)]
  unfold cat
  rcases Nat.lt_or_ge i l with c | c
  · rw [List.getElem?_append_left (by rw [hlen]; exact c), if_pos c, List.getElem?_take, if_pos c, Array.getElem?_toList]
    exact hf i c
  · rw [List.getElem?_append_right (by rw [hlen]; exact c), if_neg (by omega), hlen, List.getElem?_map, List.getElem?_range (by omega)]
    rfl
end Go.Proofs.YtpkgkppehefibaaGreatDoor
