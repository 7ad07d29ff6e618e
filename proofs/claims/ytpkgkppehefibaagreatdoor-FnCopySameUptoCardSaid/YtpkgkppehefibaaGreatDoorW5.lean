/- suffixarray.writeInt. -/
import Derived.Test.YtpkgkppehefibaaGreatDoorW4
namespace Go.Proofs.YtpkgkppehefibaaGreatDoor
open Go.RowKit Sa

/-- a whole row of bytes -/
def Row8 (w : World) (q m : Nat) (B : Nat → Nat) : Prop := ∃ cells, w.heap[q]? = some (.cells cells 5 (0, 0)) ∧ cells.size = m ∧ ∀ i, i < m → cells[i]? = some (.int .u8 ((B i : Nat) : Int))
/-- bytes laid over others -/
def lay (B : Nat → Nat) (o : Nat) (L : List UInt8) : Nat → Nat := fun i => if o ≤ i ∧ i < o + L.length then (L.getD (i - o) 0).toNat else B i
section
variable {w w' : World} {q m : Nat} {B : Nat → Nat}
theorem Row8.lt (h : Row8 w q m B) : q < w.heap.size := by
  obtain ⟨cells, hq, -⟩ := h
  rcases Nat.lt_or_ge q w.heap.size with c' | c'
  · exact c'
  · rw [Array.getElem?_eq_none c'] at hq; cases hq
theorem Row8.kept {P : Nat → Prop} (h : Row8 w q m B) (k : Kept P w w') (hb : ¬ P q) : Row8 w' q m B := by
  have hl := h.lt
  obtain ⟨cells, hq, h⟩ := h
  exact ⟨cells, by rw [k.block q hl hb]; exact hq, h⟩
theorem Row8.cell (h : Row8 w q m B) {i : Nat} (hi : i < m) : w.cell? ⟨q, i, none⟩ = some (.int .u8 ((B i : Nat) : Int)) := by
  obtain ⟨cells, hq, hs, h⟩ := h
  rw [Lib.cell_of_heap hq]; exact h i hi
theorem Row8.z (h : Row8 w q m B) (i : Nat) : w.frozen? ⟨q, i, none⟩ = false := by
  obtain ⟨cells, hq, hs, h⟩ := h
  exact Lib.frozen_of_heap hq i
theorem Row8.set (h : Row8 w q m B) (o x : Nat) (v : Nat) (hx : x = o) : Row8 (w.setCell ⟨q, x, none⟩ (.int .u8 ((v : Nat) : Int))) q m (fun i => if i = o then v else B i) := by
  subst hx
  obtain ⟨cells, hq, hs, h⟩ := h
  refine ⟨_, Lib.heap_setCell_same (i := x) hq _, by simpa using hs, fun i hi => ?_⟩
  rw [Array.getElem?_setIfInBounds]
  by_cases c : i = x
  · subst c; simp [hs, hi]
  · rw [if_neg (Ne.symm c)]; simp only [if_neg c]; exact h i hi
theorem Row8.congr {B' : Nat → Nat} (h : Row8 w q m B) (e : ∀ i, i < m → B' i = B i) : Row8 w q m B' := by
  obtain ⟨cells, hq, hs, h⟩ := h
  exact ⟨cells, hq, hs, fun i hi => by rw [e i hi]; exact h i hi⟩
end
theorem Row8.laid {q m : Nat} : ∀ (L : List UInt8) (o : Nat) (w : World) (B : Nat → Nat), Row8 w q m B → Row8 (w.setCells q o (Lib.byteCells L)) q m (lay B o L)
  | [], o, w, B, h => h.congr fun i _ => by unfold lay; rw [if_neg (by simp)]
  | v :: r, o, w, B, h => by
    have h1 := Row8.laid r (o + 1) _ _ (h.set o o v.toNat rfl)
    refine Row8.congr h1 fun i _ => ?_
    unfold lay
    simp only [List.length_cons]
    by_cases c1 : i = o
    · subst c1; rw [if_pos (by omega), if_neg (by omega), if_pos rfl]; simp
    · by_cases c2 : o + 1 ≤ i ∧ i < o + 1 + r.length
      · rw [if_pos (by omega), if_pos c2]
        have e : i - o = (i - (o + 1)) + 1 := by omega
        rw [e]; simp
      · rw [if_neg (by omega), if_neg c2, if_neg c1]
theorem Kept.cells {P : Nat → Prop} {w : World} {q : Nat} : ∀ (vs : List Value) (o : Nat) (w1 : World), Kept P w w1 → (q < w.heap.size → P q) → Kept P w (w1.setCells q o vs)
  | [], _, _, h, _ => h
  | v :: r, o, _, h, hq => Kept.cells r (o + 1) _ (h.setCell hq v) hq
theorem Row8.rd {w : World} {q m : Nat} {B : Nat → Nat} (h : Row8 w q m B) (o n : Nat) (hn : o + n ≤ m) : Rd w q (q + 1) (some ⟨q, o, none⟩) n (bv (fun i => B (o + i))) := ⟨fun _ => ⟨q, o, rfl, Nat.le_refl _, by omega, fun i hi => h.cell (by omega)⟩⟩
theorem Row8.rd0 {w : World} {q m : Nat} {B : Nat → Nat} (h : Row8 w q m B) (n : Nat) (hn : n ≤ m) : Rd w q (q + 1) (some ⟨q, 0, none⟩) n (bv B) := ⟨fun _ => ⟨q, 0, rfl, Nat.le_refl _, by omega, fun i hi => by rw [Nat.zero_add]; exact h.cell (by omega)⟩⟩
theorem size_setCells {q : Nat} : ∀ (vs : List Value) (o : Nat) (w : World), (w.setCells q o vs).heap.size = w.heap.size
  | [], _, _ => rfl
  | v :: r, o, w => (size_setCells r (o + 1) _).trans (by simp [World.setCell])
theorem kept_drew (w : World) (n : Nat) : Kept (fun _ => False) w (w.drewN n) := (Kept.refl _ _).drew n
theorem Buf.kept {P : Nat → Prop} {w w' : World} {b l of : Nat} {r : Option Nat} {f : Nat → Nat} (h : Buf w b r l f of) (k : Kept P w w') (hb : ¬ P b) (hr : ∀ g, r = some g → ¬ P g) : Buf w' b r l f of := by
  rcases h.c with ⟨h1, h2, h3⟩ | ⟨g, c, cur, h1, h2, h3, h4, h5⟩
  · exact ⟨.inl ⟨h1, h2, h3.kept k hb⟩⟩
  · refine ⟨.inr ⟨g, c, cur, h1, h2, h3.kept k hb, ?_, h5⟩⟩
    have hl : g < w.heap.size := by
      rcases Nat.lt_or_ge g w.heap.size with c' | c'
      · exact c'
      · rw [Array.getElem?_eq_none c'] at h4; cases h4
    rw [k.block g hl (hr g h1)]; exact h4
theorem uvarint10 (x : Nat) (hx : x < 18446744073709551616) : (Lib.uvarint x).length ≤ 10 := Lib.uvarint_length64 hx
set_option maxHeartbeats 6400000 in
set_option maxRecDepth 100000 in
/-- writeInt -/
theorem writeInt_any (b q l x : Nat) (r : Option Nat) (f B : Nat → Nat) (w : World) (h : Buf w b r l f 0) (hq : Row8 w q 16384 B) (hqb : q ≠ b) (hqr : some q ≠ r) (hx : x < 4611686018427387904) (hlim : l + 10 ≤ 70368744177664) :
    Calls Tryz.prog 47 #[.iface 65 (.pointer (some ⟨b, 0, none⟩)), .slice (some ⟨q, 0, none⟩) 16384 16384, .int .i64 (x : Int)] w fun e w' => e = .returned .nilIface ∧ ∃ g, Buf w' b (some g) (l + 10) (cat f l (lay B 0 (Lib.uvarint (Lib.zigzag (x : Int))))) 0 ∧ Row8 w' q 16384 (lay B 0 (Lib.uvarint (Lib.zigzag (x : Int)))) ∧ (some g = r ∨ w.heap.size ≤ g) ∧ Kept (fun k => k = b ∨ k = q ∨ some k = r) w w' := by
  have hz : Lib.zigzag (x : Int) < 18446744073709551616 := by unfold Lib.zigzag; split <;> omega
  have hlen := uvarint10 _ hz
  have hlq := hq.lt
  have HB := Lib.hid h; have HQ := Lib.hid hq
  clear h hq
  have hna : ∀ k W, (nilAhead (k + 1) 65 (.pointer (some ⟨b, 0, none⟩)) "Write").run Tryz.prog W = .ok (some false) W := fun k W => by kernel_rfl
  have hna261 := fun W => hna 260 W
  go_enter Tryz.func47, Tryz.ntmps47
  go_wp2_with fail
  refine (Tryz.binary_PutVarint q 0 16384 16384 (x : Int) (by omega) (by omega) _ (by omega) (fun j hj => ⟨by rw [Nat.zero_add, HQ.out.cell (by omega)]; rfl, HQ.out.z _⟩)).mono ?_
  rintro _ w1 ⟨rfl, hw1⟩
  have hk1 : Kept (fun k => k = q) w w1 := by rw [hw1]; exact Kept.cells _ 0 w (Kept.refl _ _) (fun _ => rfl)
  have hb1 : Buf w1 b r l f 0 := HB.out.kept hk1 (Ne.symm hqb) (fun g hg e => hqr (by rw [hg, e]))
  have hr1 : Row8 w1 q 16384 (lay B 0 (Lib.uvarint (Lib.zigzag (x : Int)))) := by rw [hw1]; exact Row8.laid _ 0 w B HQ.out
  have hs1 : w1.heap.size = w.heap.size := by rw [hw1]; exact size_setCells _ _ _
  have hrd : Rd w1 q (q + 1) (some ⟨q, 0, none⟩) 10 (bv (lay B 0 (Lib.uvarint (Lib.zigzag (x : Int))))) := hr1.rd0 10 (by omega)
  have HC := Lib.hid (fun W (hW : W = w1.drewN 1) => bufwrite_any b l 10 16384 q (q + 1) r f (lay B 0 (Lib.uvarint (Lib.zigzag (x : Int)))) (some ⟨q, 0, none⟩) W (by rw [hW]; exact hb1.kept (kept_drew w1 1) (fun h => h) (fun _ _ h => h)) (by rw [hW]; exact hrd.kept (kept_drew w1 1) (by omega) (fun _ _ _ h => h)) (by rw [hW]; show q + 1 ≤ w1.heap.size; omega) (fun k h1 h2 => by omega) (fun _ => by omega) hlim)
  have HK1 := Lib.hid hk1; have HR1 := Lib.hid hr1; have HS1 := Lib.hid hs1
  clear hw1 hk1 hb1 hr1 hrd hs1
  go_wp2_with fail
  go_region_with (
    go_at_call 142
    refine (HC.out _ rfl).mono ?_
    rintro e w2 ⟨rfl, g, hB2, hg2, hk2⟩)
  all_goals (
    go_wp2
    go_ret
    have hk3 : Kept (fun k => k = b ∨ some k = r) w1 w2 := ((kept_drew w1 1).mono (fun _ _ h => h.elim)).trans hk2 (fun _ _ h => h)
    refine ⟨rfl, g, hB2, HR1.out.kept hk3 (fun h => h.elim hqb hqr), ?_, (HK1.out.mono fun _ _ h => .inr (.inl h)).trans hk3 (fun _ _ h => h.elim .inl (fun h => .inr (.inr h)))⟩
    rcases hg2 with h | h
    · exact .inl h
    · exact .inr (by rw [h]; show _ ≤ w1.heap.size; rw [HS1.out]; exact Nat.le_refl _))
end Go.Proofs.YtpkgkppehefibaaGreatDoor
