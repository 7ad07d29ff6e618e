/- bytes.Buffer: Read. -/
import Derived.Test.YtpkgkppehefibaaGreatDoorW8
namespace Go.Proofs.YtpkgkppehefibaaGreatDoor
open Go.RowKit Sa

/-- an index: its block -/
def Xb (w : World) (ix : Nat) (v0 v1 v2 : Value) : Prop := w.heap[ix]? = some (.cells #[v0, v1, v2] 49 (0, 0))
section
variable {w : World} {ix : Nat} {v0 v1 v2 : Value}
theorem Xb.c0 (h : Xb w ix v0 v1 v2) : w.cell? ⟨ix, 0, none⟩ = some v0 := by rw [Lib.cell_of_heap h]; rfl
theorem Xb.c1 (h : Xb w ix v0 v1 v2) : w.cell? ⟨ix, 1, none⟩ = some v1 := by rw [Lib.cell_of_heap h]; rfl
theorem Xb.c2 (h : Xb w ix v0 v1 v2) : w.cell? ⟨ix, 2, none⟩ = some v2 := by rw [Lib.cell_of_heap h]; rfl
theorem Xb.z (h : Xb w ix v0 v1 v2) (i : Nat) : w.frozen? ⟨ix, i, none⟩ = false := Lib.frozen_of_heap h i
theorem Xb.lt (h : Xb w ix v0 v1 v2) : ix < w.heap.size := cell_lt h.c0
theorem Xb.set0 (h : Xb w ix v0 v1 v2) (v : Value) : Xb (w.setCell ⟨ix, 0, none⟩ v) ix v v1 v2 := Lib.heap_setCell_same (i := 0) h _
theorem Xb.set1 (h : Xb w ix v0 v1 v2) (v : Value) : Xb (w.setCell ⟨ix, 1, none⟩ v) ix v0 v v2 := Lib.heap_setCell_same (i := 1) h _
theorem Xb.set2 (h : Xb w ix v0 v1 v2) (v : Value) : Xb (w.setCell ⟨ix, 2, none⟩ v) ix v0 v1 v := Lib.heap_setCell_same (i := 2) h _
theorem Xb.kept {P : Nat → Prop} {w' : World} (h : Xb w ix v0 v1 v2) (k : Kept P w w') (hb : ¬ P ix) : Xb w' ix v0 v1 v2 := by
  have hl := h.lt
  unfold Xb at h ⊢
  rw [k.block ix hl hb]; exact h
end
/-- n bytes S laid over B from o on -/
def putf (B : Nat → Nat) (o n : Nat) (S : Nat → Nat) : Nat → Nat := fun i => if o ≤ i ∧ i < o + n then S (i - o) else B i
theorem Row8.put {w : World} {q m : Nat} {B : Nat → Nat} {cur : Array Value} (hq : w.heap[q]? = some (.cells cur 5 (0, 0))) (hs : cur.size = m) (hc : ∀ i, i < m → cur[i]? = some (.int .u8 ((B i : Nat) : Int))) (o n : Nat) (S : Nat → Nat) (hfit : o + n ≤ m) :
    Row8 (w.setRow q (cur.toList.take o ++ (List.range n).map (bv S) ++ cur.toList.drop (o + n)).toArray) q m (putf B o n S) := by
  have hlen : (cur.toList.take o).length = o := by rw [List.length_take, Array.length_toList]; omega
  refine ⟨_, setRow_heap _ _ _ _ _ _ hq, by simp; omega, fun i hi => ?_⟩
  rw [List.getElem?_toArray]
  unfold putf
  rcases Nat.lt_or_ge i (o + n) with c | c
  · rw [List.getElem?_append_left (by rw [List.length_append, hlen, List.length_map, List.length_range]; omega)]
    rcases Nat.lt_or_ge i o with c2 | c2
    · rw [List.getElem?_append_left (by rw [hlen]; exact c2), if_neg (by omega), List.getElem?_take, if_pos c2, Array.getElem?_toList]
      exact hc i hi
    · rw [List.getElem?_append_right (by rw [hlen]; exact c2), if_pos ⟨c2, c⟩, hlen, List.getElem?_map, List.getElem?_range (by omega)]
      rfl
  · rw [List.getElem?_append_right (by rw [List.length_append, hlen, List.length_map, List.length_range]; omega), if_neg (by omega), List.length_append, hlen, List.length_map, List.length_range, List.getElem?_drop, Array.getElem?_toList]
    have e : o + n + (i - (o + n)) = i := by omega
    rw [e]; exact hc i hi

set_option maxRecDepth 100000 in
theorem bufempty_any (b l c of : Nat) (ao : Option Addr) (w : World) (h : Hd w b (.slice ao l c) of) (ho : of < l) :
    Calls Tryz.prog 143 #[.pointer (some ⟨b, 0, none⟩)] w fun e w' => e = .returned (.bool false) ∧ ∃ q, w' = w.drewN q := by
  have c0 := h.c0; have c1 := h.c1
  have e1 : decide ((l : Int) ≤ (of : Int)) = false := decide_eq_false (by omega)
  clear h
  go_enter Tryz.func143, Tryz.ntmps143
  go_wp2
  go_quiet (fail)
  go_wp2
  go_ret
  exact ⟨by first | rfl | (simp; omega), nq, rfl⟩

set_option maxHeartbeats 6400000 in
set_option maxRecDepth 100000 in
/-- Read of n bytes, where there are as many -/
theorem bufread_any (b g q l of o n m c : Nat) (f B : Nat → Nat) (w : World) (h : Buf w b (some g) l f of) (hq : Row8 w q m B) (hqb : q ≠ b) (hqg : q ≠ g) (hn : 1 ≤ n) (hof : of + n ≤ l) (hon : o + n ≤ m) :
    Calls Tryz.prog 139 #[.pointer (some ⟨b, 0, none⟩), .slice (some ⟨q, o, none⟩) n c] w fun e w' => e = .returned (.tuple #[.int .i64 (n : Int), .nilIface]) ∧ Buf w' b (some g) l f (of + n) ∧ Row8 w' q m (putf B o n (fun i => f (of + i))) ∧ Kept (fun k => k = b ∨ k = q) w w' := by
  rcases h.c with ⟨h1, -⟩ | ⟨g', k0, cur, hg', hgb, hd, hg, hcs, hl1, hlc, hcm, hf⟩
  · cases h1
  obtain rfl := Option.some.inj hg'
  clear h hg'
  have hcm' := hcm
  unfold maxLen at hcm'
  obtain ⟨lr, c2⟩ := hd.c2
  have f2 := hd.z 2
  have hlq := hq.lt
  have hglt : g < w.heap.size := by
    rcases Nat.lt_or_ge g w.heap.size with c' | c'
    · exact c'
    · rw [Array.getElem?_eq_none c'] at hg; cases hg
  obtain ⟨w1, hw1⟩ : ∃ w1, w1 = w.setCell ⟨b, 2, none⟩ (.int .i8 0) := ⟨_, rfl⟩
  have h1 : Hd w1 b (.slice (some ⟨g, 0, none⟩) l k0) of := by rw [hw1]; exact hd.set2 0
  have hk1 : Kept (fun k => k = b) w w1 := by rw [hw1]; exact Kept.setCell (P := fun k => k = b) (Kept.refl _ _) (fun _ => rfl) _
  have hq1 : Row8 w1 q m B := hq.kept hk1 hqb
  have hg1 : w1.heap[g]? = some (.cells cur 5 (0, 0)) := by rw [hk1.block g hglt hgb]; exact hg
  have HE := Lib.hid (bufempty_any b l k0 of (some ⟨g, 0, none⟩) w1 h1 (by omega))
  have HW1 := Lib.hid hw1
  have H1 := Lib.hid h1; have HK1 := Lib.hid hk1; have HQ1 := Lib.hid hq1; have HG1 := Lib.hid hg1; have HF := Lib.hid hf
  clear hd hq hg h1 hk1 hq1 hg1 hf hw1
  go_enter Tryz.func139, Tryz.ntmps139
  go_wp2_with fail
  rw [← HW1.out]
  refine HE.out.mono ?_
  rintro _ w2 ⟨rfl, k2, hw2⟩
  have h2 : Hd w2.drew b (.slice (some ⟨g, 0, none⟩) l k0) of := by rw [hw2]; exact H1.out.drew (k2 + 1)
  have hg2 : w2.drew.heap[g]? = some (.cells cur 5 (0, 0)) := by rw [hw2]; exact HG1.out
  obtain ⟨rc, hr2, hrs, hrc⟩ : Row8 w2.drew q m B := by rw [hw2]; exact HQ1.out
  have hk2 : Kept (fun k => k = b) w w2.drew := by rw [hw2]; exact HK1.out.drew (k2 + 1)
  have hsrc : ∀ j v, ((List.range n).map (bv fun i => f (of + i)))[j]? = some v → w2.drew.cell? (Addr.add ⟨g, of, none⟩ j) = some v := fun j v hj => by
    have hjn : j < n := by have := (List.getElem?_eq_some_iff.1 hj).1; simpa using this
    rw [List.getElem?_map, List.getElem?_range hjn] at hj
    rw [← Option.some.inj hj, Addr.add_lit, Lib.cell_of_heap hg2]
    exact HF.out (of + j) (by omega)
  have hcp := run_copy_row (P := Tryz.prog) w2.drew 22 22 3 5 q o n c ⟨g, of, none⟩ (l - of) (k0 - of) rc 5 ((List.range n).map (bv fun i => f (of + i))) Tryz.underlying22 info8s hr2 (by rw [List.length_map, List.length_range]; exact (Nat.min_eq_right (by omega)).symm) hsrc (by simp; omega) (fun v hv => by obtain ⟨j, _, rfl⟩ := List.mem_map.1 hv; rfl)
  simp only [List.length_map, List.length_range] at hcp
  obtain ⟨w3, hw3⟩ : ∃ w3, w3 = w2.drew.setRow q (rc.toList.take o ++ (List.range n).map (bv fun i => f (of + i)) ++ rc.toList.drop (o + n)).toArray := ⟨_, rfl⟩
  rw [← hw3] at hcp
  have hr3 : Row8 w3 q m (putf B o n (fun i => f (of + i))) := by rw [hw3]; exact Row8.put hr2 hrs hrc o n _ hon
  have hk3 : Kept (fun k => k = b ∨ k = q) w w3 := by
    refine ⟨by rw [hw3]; exact hk2.os, by rw [hw3]; exact hk2.tape, by rw [hw3]; exact hk2.output, by rw [hw3, setRow_size]; exact hk2.size, fun k hk hp => ?_⟩
    rw [hw3, setRow_other _ _ _ _ (fun e => hp (.inr e))]
    exact hk2.block k hk (fun e => hp (.inl e))
  have h3 : Hd w3 b (.slice (some ⟨g, 0, none⟩) l k0) of := by
    obtain ⟨lr, hh⟩ := h2
    exact ⟨lr, by rw [hw3, setRow_other _ _ _ _ (Ne.symm hqb)]; exact hh⟩
  have hg3 : w3.heap[g]? = some (.cells cur 5 (0, 0)) := by rw [hw3, setRow_other _ _ _ _ (Ne.symm hqg)]; exact hg2
  have c0 := h2.c0; have c1 := h2.c1; have d1 := h3.c1; have z1 := h3.z 1; have z2 := h3.z 2
  obtain ⟨lr3, d2⟩ := h3.c2
  have hk0 : ¬ k0 = of := by omega
  have hn0 : (0 : Int) < (n : Int) := by omega
  have HR3 := Lib.hid hr3; have HK3 := Lib.hid hk3; have H3 := Lib.hid h3; have HG3 := Lib.hid hg3
  clear hr3 hk3 h3 hg3 h2 hg2 hr2 hrs hrc hk2 hsrc hw2 hw3
  have hwn : IntKind.i64.wrap ((of : Int) + (n : Int)) = ((of + n : Nat) : Int) := by rw [IntKind.wrap_i64]; omega
  go_wp2_with fail
  go_region
  all_goals (
    go_wp2
    go_ret2
    have hk5 := (HK3.out.setCell (b := b) (o := 1) (fun _ => .inl rfl) (.int .i64 ((of + n : Nat) : Int))).setCell (b := b) (o := 2) (fun _ => .inl rfl) (.int .i8 (-1))
    have e2 : ∀ W : World, ∀ k v, k ≠ b → ∀ o, (W.setCell ⟨b, o, none⟩ v).heap[k]? = W.heap[k]? := fun W k v hk o => Below.heap_setCell _ _ _ _ hk
    refine ⟨by simp, ⟨.inr ⟨g, k0, cur, rfl, hgb, (H3.out.set1 (of + n)).set2 (-1), ?_, hcs, hl1, hlc, hcm, HF.out⟩⟩, ?_, hk5⟩
    · rw [e2 _ _ _ hgb, e2 _ _ _ hgb]; exact HG3.out
    · obtain ⟨rc', t1, t2⟩ := HR3.out
      exact ⟨rc', by rw [e2 _ _ _ hqb, e2 _ _ _ hqb]; exact t1, t2⟩)
end Go.Proofs.YtpkgkppehefibaaGreatDoor
