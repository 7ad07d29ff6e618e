/- bytes.Buffer that is written: Len, grow, Write. -/
import Derived.Test.YtpkgkppehefibaaGreatDoorH1
import Derived.Test.YtpkgkppehefibaaGreatDoorShelf
import Derived.Lib.BufferGrow
import Derived.Laws.CopyRow
import Derived.RegionTactic
import Derived.Deep.RegionWith
namespace Go.Proofs.YtpkgkppehefibaaGreatDoor
open Go.RowKit Sa

/-- all blocks but those of P stand -/
structure Kept (P : Nat → Prop) (w w' : World) : Prop where
  os : w'.os = w.os
  tape : w'.tape = w.tape
  output : w'.output = w.output
  size : w.heap.size ≤ w'.heap.size
  block : ∀ k, k < w.heap.size → ¬ P k → w'.heap[k]? = w.heap[k]?
section
variable {P Q : Nat → Prop} {w w1 w2 : World}
theorem Kept.refl (P : Nat → Prop) (w : World) : Kept P w w := ⟨rfl, rfl, rfl, Nat.le_refl _, fun _ _ _ => rfl⟩
theorem Kept.mono (h : Kept P w w1) (hP : ∀ k, k < w.heap.size → P k → Q k) : Kept Q w w1 := ⟨h.os, h.tape, h.output, h.size, fun k hk hq => h.block k hk fun hp => hq (hP k hk hp)⟩
theorem Kept.trans (h : Kept P w w1) (k : Kept Q w1 w2) (hQ : ∀ j, j < w.heap.size → Q j → P j) : Kept P w w2 :=
  ⟨k.os.trans h.os, k.tape.trans h.tape, k.output.trans h.output, Nat.le_trans h.size k.size, fun j hj hp => (k.block j (Nat.lt_of_lt_of_le hj h.size) fun hq => hp (hQ j hj hq)).trans (h.block j hj hp)⟩
theorem Kept.le (h : Le w w1) : Kept P w w1 := ⟨h.os, h.tape, h.output, h.size, fun k hk _ => h.block k hk⟩
theorem Kept.drew (h : Kept P w w1) (n : Nat) : Kept P w (w1.drewN n) := ⟨h.os, h.tape, h.output, h.size, h.block⟩
theorem Kept.setCell (h : Kept P w w1) {b o : Nat} (hb : b < w.heap.size → P b) (v : Value) : Kept P w (w1.setCell ⟨b, o, none⟩ v) :=
  ⟨h.os, h.tape, h.output, by simpa [World.setCell] using h.size, fun k hk hp => by
    rw [Below.heap_setCell _ _ _ _ (fun e => hp (by have e' : k = b := e; rw [e']; exact hb (by omega)))]; exact h.block k hk hp⟩
end
/-- the head of a buffer -/
def Hd (w : World) (b : Nat) (v : Value) (of : Nat) : Prop := ∃ lr, w.heap[b]? = some (.cells #[v, .int .i64 ((of : Nat) : Int), .int .i8 lr] 61 (0, 0))
section
variable {w : World} {b of : Nat} {v : Value}
theorem Hd.c0 (h : Hd w b v of) : w.cell? ⟨b, 0, none⟩ = some v := by obtain ⟨lr, h⟩ := h; rw [Lib.cell_of_heap h]; rfl
theorem Hd.c1 (h : Hd w b v of) : w.cell? ⟨b, 1, none⟩ = some (.int .i64 ((of : Nat) : Int)) := by obtain ⟨lr, h⟩ := h; rw [Lib.cell_of_heap h]; rfl
theorem Hd.c2 (h : Hd w b v of) : ∃ lr, w.cell? ⟨b, 2, none⟩ = some (.int .i8 lr) := by obtain ⟨lr, h⟩ := h; exact ⟨lr, by rw [Lib.cell_of_heap h]; rfl⟩
theorem Hd.z (h : Hd w b v of) (i : Nat) : w.frozen? ⟨b, i, none⟩ = false := by obtain ⟨lr, h⟩ := h; exact Lib.frozen_of_heap h i
theorem Hd.lt (h : Hd w b v of) : b < w.heap.size := cell_lt h.c0
theorem Hd.drew (h : Hd w b v of) (n : Nat) : Hd (w.drewN n) b v of := h
theorem Hd.set2 (h : Hd w b v of) (x : Int) : Hd (w.setCell ⟨b, 2, none⟩ (.int .i8 x)) b v of := by obtain ⟨lr, h⟩ := h; exact ⟨x, Lib.heap_setCell_same (i := 2) h _⟩
theorem Hd.set0 (h : Hd w b v of) (v' : Value) : Hd (w.setCell ⟨b, 0, none⟩ v') b v' of := by obtain ⟨lr, h⟩ := h; exact ⟨lr, Lib.heap_setCell_same (i := 0) h _⟩
theorem Hd.set1 (h : Hd w b v of) (x : Nat) : Hd (w.setCell ⟨b, 1, none⟩ (.int .i64 ((x : Nat) : Int))) b v x := by obtain ⟨lr, h⟩ := h; exact ⟨lr, Lib.heap_setCell_same (i := 1) h _⟩
theorem Hd.kept {P : Nat → Prop} {w' : World} (h : Hd w b v of) (k : Kept P w w') (hb : ¬ P b) : Hd w' b v of := by
  have hl := h.lt
  obtain ⟨lr, h⟩ := h
  exact ⟨lr, by rw [k.block b hl hb]; exact h⟩
end

set_option maxRecDepth 100000 in
theorem buflen_any (b l c of : Nat) (ao : Option Addr) (w : World) (h : Hd w b (.slice ao l c) of) (ho : of ≤ l) (hl : l < 4611686018427387904) :
    Calls Tryz.prog 146 #[.pointer (some ⟨b, 0, none⟩)] w fun e w' => e = .returned (.int .i64 ((l - of : Nat) : Int)) ∧ ∃ q, w' = w.drewN q := by
  have c0 := h.c0; have c1 := h.c1
  have e1 : ((l - of : Nat) : Int) = (l : Int) - (of : Int) := by omega
  rw [e1]
  clear h e1
  go_enter Tryz.func146, Tryz.ntmps146
  go_wp2
  go_quiet (fail)
  go_wp2
  go_ret
  exact ⟨by first | rfl | simp, nq, rfl⟩

set_option maxHeartbeats 6400000 in
set_option maxRecDepth 100000 in
/-- grow, where the row has no room -/
theorem bufgrow_row (b g l c n : Nat) (cur : Array Value) (w : World) (h : Hd w b (.slice (some ⟨g, 0, none⟩) l c) 0) (hg : w.heap[g]? = some (.cells cur 5 (0, 0))) (hcs : cur.size = c) (hl : 1 ≤ l) (hlc : l ≤ c) (hcm : c ≤ maxLen)
    (h1 : ∀ v ∈ cur.toList.take l, v.oneCell' = true) (hn : 1 ≤ n) (hroom : c - l < n) (hlim : l + n ≤ 70368744177664) :
    Calls Tryz.prog 145 #[.pointer (some ⟨b, 0, none⟩), .int .i64 (n : Int)] w fun e w' => e = .returned (.int .i64 (l : Int)) ∧ ∃ cap2 cells, Hd w' b (.slice (some ⟨w.heap.size, 0, none⟩) (l + n) cap2) 0 ∧ w'.heap[w.heap.size]? = some (.cells cells 5 (0, 0)) ∧
      cells.size = cap2 ∧ cells.toList.take l = cur.toList.take l ∧ l + n ≤ cap2 ∧ cap2 ≤ maxLen ∧ Kept (fun k => k = b) w w' := by
  have hnil : ∀ W, (binOp .eql 22 (.slice (some ⟨g, 0, none⟩) l c) (.slice none 0 0)).run Tryz.prog W = .ok (.bool false) W := fun W => Lib.run_eql_slice_some_nil W _ _ _ Tryz.underlying22
  have hl0 : ((l : Int) == 0) = false := beq_eq_false_iff_ne.2 (by omega)
  have HH := Lib.hid h; have HG := Lib.hid hg; have HC1 := Lib.hid h1; have HCS := Lib.hid hcs
  have hcl : c < 70368744177664 := by omega
  clear h hg h1 hcs
  go_enter Tryz.func145, Tryz.ntmps145
  go_wp2_with fail
  refine (buflen_any b l c 0 _ w HH.out (by omega) (by omega)).mono ?_
  rintro _ W0 ⟨rfl, k, hW0⟩
  have HH0 : Hid (Hd W0 b (.slice (some ⟨g, 0, none⟩) l c) 0) := Lib.hid (by rw [hW0]; exact HH.out)
  have HG0 : Hid (W0.heap[g]? = some (.cells cur 5 (0, 0))) := Lib.hid (by rw [hW0]; exact HG.out)
  have HW0 := Lib.hid hW0
  have c0 := HH0.out.c0; have c1 := HH0.out.c1; have f0 := HH0.out.z 0; have f1 := HH0.out.z 1
  simp only [Nat.sub_zero]
  clear hW0
  go_wp2_with fail
  refine (Tryz.Buffer_tryGrow_none b _ l c n _ c0 hlc hcm hroom).mono ?_
  rintro _ W1 ⟨rfl, hW1⟩
  have hW1' := hW1.symm
  clear hW1
  subst hW1'
  have hc2 : c ≤ 140737488355328 := by omega
  have hlim2 : l + n ≤ 140737488355328 := by omega
  have hwn : IntKind.i64.wrap (n : Int) = n := by rw [IntKind.wrap_i64]; omega
  have hbW := HH0.out.lt
  go_wp2_with fail
  go_region_with (
    go_at_call 147
    refine (Tryz.bytes_growSlice_row g l c n cur _ ?_ HCS.out hlc hn hlim2 hc2 HC1.out).mono ?_
    exact HG0.out
    rintro e w2 ⟨cap2, cells, rfl, hN, hcsz, htk, hcap2, hcm2, hbel⟩
    have H2 : Hid (Hd w2 b (.slice (some ⟨g, 0, none⟩) l c) 0) := Lib.hid (by obtain ⟨lr, hh⟩ := HH0.out; exact ⟨lr, (hbel.block b hbW).trans hh⟩)
    have d0 := H2.out.c0
    have d1 := H2.out.c1
    have e0 := H2.out.z 0
    have e1 := H2.out.z 1)
  all_goals (
    have HN := Lib.hid hN; have HZ := Lib.hid hcsz; have HT := Lib.hid htk; have HC2 := Lib.hid hcap2; have HM2 := Lib.hid hcm2; have HBL := Lib.hid hbel
    clear hN hcsz htk hbel
    unfold maxLen at hcm2
    go_wp2
    go_ret
    have hsz0 : W0.heap.size = w.heap.size := by rw [HW0.out]; rfl
    have hK0 : Kept (fun k => k = b) w W0.drew := by rw [HW0.out]; exact ⟨rfl, rfl, rfl, Nat.le_refl _, fun _ _ _ => rfl⟩
    have hK2 : Kept (fun k => k = b) w w2 := hK0.trans (Q := fun k => k = b) (Kept.le HBL.out) (fun _ _ h => h)
    refine ⟨rfl, cap2, cells, ?_, ?_, HZ.out, HT.out, HC2.out, HM2.out, ((hK2.setCell (fun _ => rfl) _).setCell (fun _ => rfl) _).setCell (fun _ => rfl) _⟩
    · have := ((H2.out.set0 (.slice (some ⟨w.heap.size, 0, none⟩) l cap2)).set1 0).set0 (.slice (some ⟨w.heap.size, 0, none⟩) (l + n) cap2)
      rw [← hsz0] at this ⊢
      exact this
    · have hne : W0.heap.size ≠ b := by omega
      rw [← hsz0]
      rw [Below.heap_setCell _ _ _ _ hne, Below.heap_setCell _ _ _ _ hne, Below.heap_setCell _ _ _ _ hne]
      exact HN.out)
end Go.Proofs.YtpkgkppehefibaaGreatDoor
