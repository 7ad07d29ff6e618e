/- Words for memory, loop relations. (Printed by merge.py out of parts.) -/
import Derived.Test.YtpkgkppehefibaaGreatDoorP2
import Derived.WalkKit
import Derived.WalkSpells
import Derived.Below
import Derived.Deep.Draws
import Derived.Test.YtpkgkppehefibaaGreatDoorProg
import Derived.Lib.SliceRun
import Derived.Lib.Hide
import Derived.Outline
import Derived.BigFrame
import Derived.Deep.LoopGhost
import Derived.Deep.QuietTactic
import Derived.BigQuiet
import Derived.Laws.BitsAllLaws
import Derived.WalkMore
import Derived.Scope
/- Memory words: a layout of the text, the suffix array, the buckets and the frequencies; what their cells hold; what may have changed. -/
namespace Go.Proofs.YtpkgkppehefibaaGreatDoor
open Go.RowKit Sa

/-- w' is w but for the cells in S, new blocks and draws -/
structure Chg (S : Nat → Nat → Prop) (w w' : World) : Prop where
  os : w'.os = w.os
  tape : w'.tape = w.tape
  output : w'.output = w.output
  size : w.heap.size ≤ w'.heap.size
  cell : ∀ b o, b < w.heap.size → ¬ S b o → w'.cell? ⟨b, o, none⟩ = w.cell? ⟨b, o, none⟩
  frz : ∀ b o, b < w.heap.size → w'.frozen? ⟨b, o, none⟩ = w.frozen? ⟨b, o, none⟩
  blk : ∀ b, b < w.heap.size → (∀ o, ¬ S b o) → w'.heap[b]? = w.heap[b]?

section
variable {S S' U : Nat → Nat → Prop} {w w1 w2 : World}
theorem Chg.refl (S : Nat → Nat → Prop) (w : World) : Chg S w w := ⟨rfl, rfl, rfl, Nat.le_refl _, fun _ _ _ _ => rfl, fun _ _ _ => rfl, fun _ _ _ => rfl⟩
theorem Chg.mono (h : Chg S w w1) (hs : ∀ b o, b < w.heap.size → S b o → U b o) : Chg U w w1 :=
  ⟨h.os, h.tape, h.output, h.size, fun b o hb hn => h.cell b o hb fun hS => hn (hs b o hb hS), h.frz, fun b hb hn => h.blk b hb fun o hS => hn o (hs b o hb hS)⟩
theorem Chg.trans (h : Chg S w w1) (k : Chg S w1 w2) : Chg S w w2 :=
  ⟨k.os.trans h.os, k.tape.trans h.tape, k.output.trans h.output, Nat.le_trans h.size k.size,
   fun b o hb hn => (k.cell b o (Nat.lt_of_lt_of_le hb h.size) hn).trans (h.cell b o hb hn),
   fun b o hb => (k.frz b o (Nat.lt_of_lt_of_le hb h.size)).trans (h.frz b o hb),
   fun b hb hn => (k.blk b (Nat.lt_of_lt_of_le hb h.size) hn).trans (h.blk b hb hn)⟩
theorem Chg.drewN (h : Chg S w w1) (n : Nat) : Chg S w (w1.drewN n) := ⟨h.os, h.tape, h.output, h.size, h.cell, h.frz, h.blk⟩
theorem Chg.drew (h : Chg S w w1) : Chg S w w1.drew := ⟨h.os, h.tape, h.output, h.size, h.cell, h.frz, h.blk⟩
theorem frozen_setCell (w : World) (a p : Addr) (v : Value) : (w.setCell a v).frozen? p = w.frozen? p := by
  simp only [World.setCell, World.frozen?, Array.getElem?_modify]
  by_cases hk : a.block = p.block
  · simp only [hk, if_true]
    cases w.heap[p.block]? with
    | none => rfl
    | some o => cases o <;> rfl
  · simp [hk]
theorem cell_setCell_ne (w : World) (b o b' o' : Nat) (v : Value) (h : b ≠ b' ∨ o ≠ o') : (w.setCell ⟨b, o, none⟩ v).cell? ⟨b', o', none⟩ = w.cell? ⟨b', o', none⟩ := by
  refine World.cell?_setCell_other w _ _ v fun e => ?_
  injection e with e1 e2
  rcases h with h | h
  · exact h e1
  · exact h e2
theorem cell_setCell_eq (w : World) (b o : Nat) (u v : Value) (h : w.cell? ⟨b, o, none⟩ = some u) : (w.setCell ⟨b, o, none⟩ v).cell? ⟨b, o, none⟩ = some v := by
  unfold World.cell? at h ⊢
  simp only [World.setCell, Array.getElem?_modify, if_true]
  cases hb : w.heap[b]? with
  | none => rw [hb] at h; cases h
  | some ob =>
    rw [hb] at h
    cases ob with
    | cells c e f =>
      simp only [Option.isSome_none, Bool.false_eq_true, if_false] at h ⊢
      simp only [Option.map_some]
      rw [Array.getElem?_setIfInBounds, if_pos rfl, if_pos]
      rcases Nat.lt_or_ge o c.size with hlt | hge
      · exact hlt
      · rw [Array.getElem?_eq_none hge] at h; cases h
    | _ => cases h
theorem Chg.setCell (h : Chg S w w1) {b o : Nat} (hS : b < w.heap.size → S b o) (v : Value) : Chg S w (w1.setCell ⟨b, o, none⟩ v) :=
  ⟨h.os, h.tape, h.output, by simpa [World.setCell] using h.size,
   fun b' o' hb hn => by
     rw [cell_setCell_ne]
     · exact h.cell b' o' hb hn
     · by_cases e : b = b'
       · subst e
         by_cases e' : o = o'
         · subst e'; exact absurd (hS hb) hn
         · exact .inr e'
       · exact .inl e,
   fun b' o' hb => by rw [frozen_setCell]; exact h.frz b' o' hb,
   fun b' hb hn => by
     rw [Below.heap_setCell]
     · exact h.blk b' hb hn
     · rintro rfl; exact hn o (hS hb)⟩
theorem Chg.below {B : Nat} (h : Chg S w w1) (hB : B ≤ w.heap.size) (hS : ∀ b o, S b o → B ≤ b) : Below B w w1 :=
  ⟨h.os, h.tape, h.output, h.size, fun k hk => h.blk k (by omega) fun o ho => by have := hS k o ho; omega⟩
theorem Chg.of_below (h : Below w.heap.size w w1) : Chg S w w1 :=
  ⟨h.os, h.tape, h.output, h.size, fun _ _ hb _ => h.cell hb, fun _ _ hb => h.frozen hb, fun b hb _ => h.block b hb⟩
end

/-- WHERE THINGS LIE: the text (n places), the suffix array (n), the buckets (K), the frequencies (lf: none or K) -/
structure Lay where
  bt : Nat
  ot : Nat
  ct : Nat
  n : Nat
  bs : Nat
  os : Nat
  cs : Nat
  bb : Nat
  ob : Nat
  cb : Nat
  K : Nat
  bf : Nat
  of_ : Nat
  cf : Nat
  lf : Nat

/-- what may be written -/
def Lay.hit (L : Lay) (b o : Nat) : Prop := (b = L.bs ∧ L.os ≤ o ∧ o < L.os + L.n) ∨ (b = L.bb ∧ L.ob ≤ o ∧ o < L.ob + L.K) ∨ (b = L.bf ∧ L.of_ ≤ o ∧ o < L.of_ + L.lf)
/-- two stretches of memory do not meet -/
def Apart (b o n b' o' n' : Nat) : Prop := b ≠ b' ∨ o + n ≤ o' ∨ o' + n' ≤ o
theorem Apart.ne {b o n b' o' n' : Nat} (h : Apart b o n b' o' n') {i j : Nat} (hi : i < n) (hj : j < n') : b ≠ b' ∨ o + i ≠ o' + j := by
  rcases h with h | h | h
  · exact .inl h
  · exact .inr (by omega)
  · exact .inr (by omega)
theorem Apart.symm {b o n b' o' n' : Nat} (h : Apart b o n b' o' n') : Apart b' o' n' b o n := by
  rcases h with h | h | h
  · exact .inl fun e => h e.symm
  · exact .inr (.inr h)
  · exact .inr (.inl h)

structure Lay.Ok (L : Lay) : Prop where
  ts : Apart L.bt L.ot L.n L.bs L.os L.n
  tb : Apart L.bt L.ot L.n L.bb L.ob L.K
  tf : Apart L.bt L.ot L.n L.bf L.of_ L.lf
  sb : Apart L.bs L.os L.n L.bb L.ob L.K
  sf : Apart L.bs L.os L.n L.bf L.of_ L.lf
  bf : Apart L.bb L.ob L.K L.bf L.of_ L.lf
  ct : L.n ≤ L.ct
  cs : L.n ≤ L.cs
  cb : L.K ≤ L.cb
  cf : L.lf ≤ L.cf
  k0 : 0 < L.K
  lf : L.lf = 0 ∨ L.lf = L.K
  small : L.n < 1073741824
  ksmall : L.K < 1073741824

/-- the frequencies as they are handed on: nil, or the slice -/
def Lay.fv (L : Lay) (v : Value) : Prop := (L.lf = 0 ∧ v = .slice none 0 0) ∨ (L.lf = L.K ∧ v = .slice (some ⟨L.bf, L.of_, none⟩) L.K L.cf)

/-- WHAT THE CELLS HOLD -/
structure Lay.St (L : Lay) (kt : IntKind) (w : World) (T : Nat → Nat) (A B F : Nat → Int) : Prop where
  t : ∀ i, i < L.n → w.cell? ⟨L.bt, L.ot + i, none⟩ = some (.int kt (T i : Nat))
  s : ∀ i, i < L.n → w.cell? ⟨L.bs, L.os + i, none⟩ = some (.int .i32 (A i))
  s' : ∀ i, i < L.n → w.frozen? ⟨L.bs, L.os + i, none⟩ = false
  b : ∀ i, i < L.K → w.cell? ⟨L.bb, L.ob + i, none⟩ = some (.int .i32 (B i))
  b' : ∀ i, i < L.K → w.frozen? ⟨L.bb, L.ob + i, none⟩ = false
  f : ∀ i, i < L.lf → w.cell? ⟨L.bf, L.of_ + i, none⟩ = some (.int .i32 (F i))
  f' : ∀ i, i < L.lf → w.frozen? ⟨L.bf, L.of_ + i, none⟩ = false
  bs : L.n = 0 ∨ L.bs < w.heap.size
  bb : L.bb < w.heap.size
  bf : L.lf = 0 ∨ L.bf < w.heap.size

section
variable {L : Lay} {kt : IntKind} {w : World} {T : Nat → Nat} {A B F : Nat → Int}
theorem size_setCell (w : World) (a : Addr) (v : Value) : (w.setCell a v).heap.size = w.heap.size := by simp [World.setCell]
theorem Lay.St.drewN (h : L.St kt w T A B F) (n : Nat) : L.St kt (w.drewN n) T A B F := ⟨h.t, h.s, h.s', h.b, h.b', h.f, h.f', h.bs, h.bb, h.bf⟩
theorem Lay.St.drew (h : L.St kt w T A B F) : L.St kt w.drew T A B F := ⟨h.t, h.s, h.s', h.b, h.b', h.f, h.f', h.bs, h.bb, h.bf⟩
theorem Lay.St.setS (h : L.St kt w T A B F) (ok : L.Ok) {i : Nat} (hi : i < L.n) (v : Int) : L.St kt (w.setCell ⟨L.bs, L.os + i, none⟩ (.int .i32 v)) T (upd A i v) B F where
  t j hj := by rw [cell_setCell_ne _ _ _ _ _ _ (ok.ts.symm.ne hi hj)]; exact h.t j hj
  s j hj := by
    by_cases e : j = i
    · subst e; rw [upd_same]; exact cell_setCell_eq _ _ _ _ _ (h.s j hj)
    · rw [cell_setCell_ne _ _ _ _ _ _ (.inr (by omega)), upd_other _ _ e]; exact h.s j hj
  s' j hj := by rw [frozen_setCell]; exact h.s' j hj
  b j hj := by rw [cell_setCell_ne _ _ _ _ _ _ (ok.sb.ne hi hj)]; exact h.b j hj
  b' j hj := by rw [frozen_setCell]; exact h.b' j hj
  f j hj := by rw [cell_setCell_ne _ _ _ _ _ _ (ok.sf.ne hi hj)]; exact h.f j hj
  f' j hj := by rw [frozen_setCell]; exact h.f' j hj
  bs := by rw [size_setCell]; exact h.bs
  bb := by rw [size_setCell]; exact h.bb
  bf := by rw [size_setCell]; exact h.bf
theorem Lay.St.setB (h : L.St kt w T A B F) (ok : L.Ok) {i : Nat} (hi : i < L.K) (v : Int) : L.St kt (w.setCell ⟨L.bb, L.ob + i, none⟩ (.int .i32 v)) T A (upd B i v) F where
  t j hj := by rw [cell_setCell_ne _ _ _ _ _ _ (ok.tb.symm.ne hi hj)]; exact h.t j hj
  b j hj := by
    by_cases e : j = i
    · subst e; rw [upd_same]; exact cell_setCell_eq _ _ _ _ _ (h.b j hj)
    · rw [cell_setCell_ne _ _ _ _ _ _ (.inr (by omega)), upd_other _ _ e]; exact h.b j hj
  s' j hj := by rw [frozen_setCell]; exact h.s' j hj
  s j hj := by rw [cell_setCell_ne _ _ _ _ _ _ (ok.sb.symm.ne hi hj)]; exact h.s j hj
  b' j hj := by rw [frozen_setCell]; exact h.b' j hj
  f j hj := by rw [cell_setCell_ne _ _ _ _ _ _ (ok.bf.ne hi hj)]; exact h.f j hj
  f' j hj := by rw [frozen_setCell]; exact h.f' j hj
  bs := by rw [size_setCell]; exact h.bs
  bb := by rw [size_setCell]; exact h.bb
  bf := by rw [size_setCell]; exact h.bf
theorem Lay.St.setF (h : L.St kt w T A B F) (ok : L.Ok) {i : Nat} (hi : i < L.lf) (v : Int) : L.St kt (w.setCell ⟨L.bf, L.of_ + i, none⟩ (.int .i32 v)) T A B (upd F i v) where
  t j hj := by rw [cell_setCell_ne _ _ _ _ _ _ (ok.tf.symm.ne hi hj)]; exact h.t j hj
  f j hj := by
    by_cases e : j = i
    · subst e; rw [upd_same]; exact cell_setCell_eq _ _ _ _ _ (h.f j hj)
    · rw [cell_setCell_ne _ _ _ _ _ _ (.inr (by omega)), upd_other _ _ e]; exact h.f j hj
  s' j hj := by rw [frozen_setCell]; exact h.s' j hj
  s j hj := by rw [cell_setCell_ne _ _ _ _ _ _ (ok.sf.symm.ne hi hj)]; exact h.s j hj
  b' j hj := by rw [frozen_setCell]; exact h.b' j hj
  b j hj := by rw [cell_setCell_ne _ _ _ _ _ _ (ok.bf.symm.ne hi hj)]; exact h.b j hj
  f' j hj := by rw [frozen_setCell]; exact h.f' j hj
  bs := by rw [size_setCell]; exact h.bs
  bb := by rw [size_setCell]; exact h.bb
  bf := by rw [size_setCell]; exact h.bf
theorem Lay.St.congr {A' B' F' : Nat → Int} (h : L.St kt w T A B F) (hA : ∀ i, i < L.n → A i = A' i) (hB : ∀ i, i < L.K → B i = B' i) (hF : ∀ i, i < L.lf → F i = F' i) : L.St kt w T A' B' F' :=
  ⟨h.t, fun i hi => by rw [← hA i hi]; exact h.s i hi, h.s', fun i hi => by rw [← hB i hi]; exact h.b i hi, h.b', fun i hi => by rw [← hF i hi]; exact h.f i hi, h.f', h.bs, h.bb, h.bf⟩
theorem Lay.hitS {i : Nat} (hi : i < L.n) : L.hit L.bs (L.os + i) := .inl ⟨rfl, by omega, by omega⟩
theorem Lay.hitB {i : Nat} (hi : i < L.K) : L.hit L.bb (L.ob + i) := .inr (.inl ⟨rfl, by omega, by omega⟩)
theorem Lay.hitF {i : Nat} (hi : i < L.lf) : L.hit L.bf (L.of_ + i) := .inr (.inr ⟨rfl, by omega, by omega⟩)
end

/-- THE STATE OF A RUN over a layout: the cells, and what may have changed since w0 -/
structure Lay.Run (L : Lay) (kt : IntKind) (w0 w : World) (T : Nat → Nat) (A B F : Nat → Int) : Prop where
  st : L.St kt w T A B F
  ch : Chg L.hit w0 w
section
variable {L : Lay} {kt : IntKind} {w0 w : World} {T : Nat → Nat} {A B F : Nat → Int}
theorem Lay.Run.setS (h : L.Run kt w0 w T A B F) (ok : L.Ok) {i : Nat} (hi : i < L.n) (v : Int) : L.Run kt w0 (w.setCell ⟨L.bs, L.os + i, none⟩ (.int .i32 v)) T (upd A i v) B F :=
  ⟨h.st.setS ok hi v, h.ch.setCell (fun _ => Lay.hitS hi) _⟩
theorem Lay.Run.setB (h : L.Run kt w0 w T A B F) (ok : L.Ok) {i : Nat} (hi : i < L.K) (v : Int) : L.Run kt w0 (w.setCell ⟨L.bb, L.ob + i, none⟩ (.int .i32 v)) T A (upd B i v) F :=
  ⟨h.st.setB ok hi v, h.ch.setCell (fun _ => Lay.hitB hi) _⟩
theorem Lay.Run.setF (h : L.Run kt w0 w T A B F) (ok : L.Ok) {i : Nat} (hi : i < L.lf) (v : Int) : L.Run kt w0 (w.setCell ⟨L.bf, L.of_ + i, none⟩ (.int .i32 v)) T A B (upd F i v) :=
  ⟨h.st.setF ok hi v, h.ch.setCell (fun _ => Lay.hitF hi) _⟩
theorem Lay.Run.drewN (h : L.Run kt w0 w T A B F) (n : Nat) : L.Run kt w0 (w.drewN n) T A B F := ⟨h.st.drewN n, h.ch.drewN n⟩
theorem Lay.Run.drew (h : L.Run kt w0 w T A B F) : L.Run kt w0 w.drew T A B F := ⟨h.st.drew, h.ch.drew⟩
theorem Lay.Run.congr {A' B' F' : Nat → Int} (h : L.Run kt w0 w T A B F) (hA : ∀ i, i < L.n → A i = A' i) (hB : ∀ i, i < L.K → B i = B' i) (hF : ∀ i, i < L.lf → F i = F' i) : L.Run kt w0 w T A' B' F' :=
  ⟨h.st.congr hA hB hF, h.ch⟩
theorem Lay.Run.start (h : L.St kt w T A B F) : L.Run kt w w T A B F := ⟨h, Chg.refl _ _⟩
end
end Go.Proofs.YtpkgkppehefibaaGreatDoor

/- Memory words: one stretch of int32 cells; clearing it; the frequencies. -/
namespace Go.Proofs.YtpkgkppehefibaaGreatDoor
open Go.RowKit Sa

/-- n cells of int32 -/
structure Reg (w : World) (b o n : Nat) (f : Nat → Int) : Prop where
  c : ∀ i, i < n → w.cell? ⟨b, o + i, none⟩ = some (.int .i32 (f i))
  z : ∀ i, i < n → w.frozen? ⟨b, o + i, none⟩ = false
/-- the cells of a stretch -/
def inR (b o n : Nat) (b' o' : Nat) : Prop := b' = b ∧ o ≤ o' ∧ o' < o + n
theorem inR_at {b o n i : Nat} (h : i < n) : inR b o n b (o + i) := ⟨rfl, by omega, by omega⟩
section
variable {w w1 : World} {b o n : Nat} {f : Nat → Int}
theorem Reg.set (h : Reg w b o n f) {i : Nat} (hi : i < n) (v : Int) : Reg (w.setCell ⟨b, o + i, none⟩ (.int .i32 v)) b o n (upd f i v) where
  c j hj := by
    by_cases e : j = i
    · subst e; rw [upd_same]; exact cell_setCell_eq _ _ _ _ _ (h.c j hj)
    · rw [cell_setCell_ne _ _ _ _ _ _ (.inr (by omega)), upd_other _ _ e]; exact h.c j hj
  z j hj := by rw [frozen_setCell]; exact h.z j hj
theorem Reg.congr {g : Nat → Int} (h : Reg w b o n f) (e : ∀ i, i < n → f i = g i) : Reg w b o n g := ⟨fun i hi => by rw [← e i hi]; exact h.c i hi, h.z⟩
theorem Reg.lt (h : Reg w b o n f) (hn : 0 < n) : b < w.heap.size := by
  have := h.c 0 hn
  unfold World.cell? at this
  rcases Nat.lt_or_ge b w.heap.size with hlt | hge
  · exact hlt
  · simp only [Array.getElem?_eq_none hge] at this; cases this
theorem cell_lt {w : World} {b o : Nat} {u : Value} (h : w.cell? ⟨b, o, none⟩ = some u) : b < w.heap.size := by
  unfold World.cell? at h
  rcases Nat.lt_or_ge b w.heap.size with hlt | hge
  · exact hlt
  · simp only [Array.getElem?_eq_none hge] at h; cases h
theorem Reg.keep {S : Nat → Nat → Prop} (h : Reg w b o n f) (hc : Chg S w w1) (hs : ∀ i, i < n → ¬ S b (o + i)) : Reg w1 b o n f where
  c i hi := by rw [hc.cell b (o + i) (cell_lt (h.c i hi)) (hs i hi)]; exact h.c i hi
  z i hi := by rw [hc.frz b (o + i) (cell_lt (h.c i hi))]; exact h.z i hi
theorem Chg.setCells {S : Nat → Nat → Prop} (b : Nat) : ∀ (vs : List Value) (o : Nat) (w : World), (∀ j, j < vs.length → S b (o + j)) → Chg S w (w.setCells b o vs)
  | [], _, w, _ => Chg.refl _ w
  | v :: r, o, w, h => by
    have h1 : Chg S w (w.setCell ⟨b, o, none⟩ v) := (Chg.refl S w).setCell (fun _ => by simpa using h 0 (by simp)) v
    exact h1.trans (Chg.setCells b r (o + 1) _ (fun j hj => by have := h (j + 1) (by simp; omega); rwa [show o + (j + 1) = o + 1 + j by omega] at this))
theorem zero32 (w : World) : (zeroValue 21).run Tryz.prog w = .ok (.int .i32 0) w := by kernel_rfl
/-- clear of a stretch: what is known of the world behind it -/
theorem run_clear32 (h : Reg w b o n f) (hn : 0 < n) (c : Nat) : ∃ w1, (∀ ty, (Builtin.clear_ #[44] ty #[.slice (some ⟨b, o, none⟩) n c]).run Tryz.prog w = .ok (.tuple #[]) w1) ∧ Reg w1 b o n (fun _ => 0) ∧ Chg (inR b o n) w w1 := by
  refine ⟨w.setCells b o (List.replicate n (.int .i32 0)), fun ty => Lib.run_clear_slice w 44 21 ty (.int .i32 0) Tryz.underlying44 zero32 rfl rfl b o n c hn (fun j hj => by rw [h.c j hj]; rfl) h.z, ⟨fun i hi => ?_, fun i hi => ?_⟩, Chg.setCells b _ o w (fun j hj => inR_at (by simpa using hj))⟩
  · have := World.cell?_setCells_in b (List.replicate n (.int .i32 0)) o w (fun j hj => by rw [h.c j (by simpa using hj)]; rfl) i (by simpa using hi)
    simpa using this
  · rw [World.frozen?_setCells]; exact h.z i hi
end
/-- so often a char stands among the first k -/
def cnt (T : Nat → Nat) (k c : Nat) : Nat := cn (fun i => decide (T i = c)) k
theorem cnt_le (T : Nat → Nat) (k c : Nat) : cnt T k c ≤ k := cn_le _ _
theorem cnt_succ (T : Nat → Nat) (k c : Nat) : cnt T (k + 1) c = cnt T k c + if T k = c then 1 else 0 := by
  unfold cnt
  by_cases h : T k = c <;> simp [cn, h]
theorem cnt_upd (T : Nat → Nat) (k : Nat) : ∀ c, upd (fun c => (cnt T k c : Int)) (T k) ((cnt T k (T k) : Int) + 1) c = ((cnt T (k + 1) c : Nat) : Int) := by
  intro c
  rw [cnt_succ]
  by_cases h : c = T k
  · subst h; rw [upd_same, if_pos rfl]; omega
  · rw [upd_other _ _ h, if_neg (fun e => h e.symm)]; omega
theorem bmin_cnt (T : Nat → Nat) (n c : Nat) : bmin T n (c + 1) = bmin T n c + cnt T n c := bmin_succ c

/-- the frequencies: none are kept, they are marked as not counted, or they are right -/
def FreqOK (L : Lay) (T : Nat → Nat) (F : Nat → Int) : Prop := L.lf = 0 ∨ F 0 < 0 ∨ ∀ c, c < L.K → F c = (cnt T L.n c : Nat)
theorem Lay.St.regB {L : Lay} {kt : IntKind} {w : World} {T : Nat → Nat} {A B F : Nat → Int} (h : L.St kt w T A B F) : Reg w L.bb L.ob L.K B := ⟨h.b, h.b'⟩
theorem Lay.St.regF {L : Lay} {kt : IntKind} {w : World} {T : Nat → Nat} {A B F : Nat → Int} (h : L.St kt w T A B F) : Reg w L.bf L.of_ L.lf F := ⟨h.f, h.f'⟩
theorem Lay.St.regS {L : Lay} {kt : IntKind} {w : World} {T : Nat → Nat} {A B F : Nat → Int} (h : L.St kt w T A B F) : Reg w L.bs L.os L.n A := ⟨h.s, h.s'⟩
theorem Apart.out {b o n b' o' n' : Nat} (h : Apart b o n b' o' n') {i : Nat} (hi : i < n) : ¬ inR b' o' n' b (o + i) := by
  rintro ⟨e, h1, h2⟩
  have := h.ne hi (j := o + i - o') (by omega)
  omega
/-- after changes in the buckets and the frequencies alone -/
theorem Lay.St.rebuild {L : Lay} {kt : IntKind} {w w' : World} {T : Nat → Nat} {A B F B' F' : Nat → Int} {S : Nat → Nat → Prop} (h : L.St kt w T A B F) (ok : L.Ok) (hc : Chg S w w')
    (hS : ∀ b o, S b o → inR L.bb L.ob L.K b o ∨ inR L.bf L.of_ L.lf b o) (hB : Reg w' L.bb L.ob L.K B') (hF : Reg w' L.bf L.of_ L.lf F') : L.Run kt w w' T A B' F' := by
  refine ⟨⟨fun i hi => ?_, fun i hi => ?_, fun i hi => ?_, hB.c, hB.z, hF.c, hF.z, ?_, Nat.lt_of_lt_of_le h.bb hc.size, ?_⟩, hc.mono fun b o _ hs => ?_⟩
  · rw [hc.cell _ _ (cell_lt (h.t i hi))]
    · exact h.t i hi
    · intro hs
      rcases hS _ _ hs with hs | hs
      · exact ok.tb.out hi hs
      · exact ok.tf.out hi hs
  · rw [hc.cell _ _ (cell_lt (h.s i hi))]
    · exact h.s i hi
    · intro hs
      rcases hS _ _ hs with hs | hs
      · exact ok.sb.out hi hs
      · exact ok.sf.out hi hs
  · rw [hc.frz _ _ (cell_lt (h.s i hi))]; exact h.s' i hi
  · exact h.bs.imp id fun x => Nat.lt_of_lt_of_le x hc.size
  · exact h.bf.imp id fun x => Nat.lt_of_lt_of_le x hc.size
  · rcases hS _ _ hs with hs | hs
    · exact .inr (.inl hs)
    · exact .inr (.inr hs)
end Go.Proofs.YtpkgkppehefibaaGreatDoor

/- What holds while LMS positions are placed. -/
namespace Go.Proofs.YtpkgkppehefibaaGreatDoor
open Go.RowKit Sa

/-- placeLMS, before position k - 1 is looked at -/
def PlR (L : Lay) (kt : IntKind) (T : Nat → Nat) (w0 : World) (nl lb c0 s i : Value) (wr : World) : Prop :=
  ∃ (k : Nat) (A B F : Nat → Int) (b : Nat → Nat) (x : Int), k ≤ L.n ∧ i = .int .i64 ((k : Int) - 1) ∧ c0 = .int kt (T k : Nat) ∧ s = .bool (sty T L.n k) ∧ nl = .int .i64 (lc T L.n k : Nat) ∧ lb = .int .i32 x ∧
    (lc T L.n k = 0 ∨ ∃ q : Nat, x = q ∧ q < L.n ∧ A q = (nx T L.n k : Nat)) ∧ L.Run kt w0 wr T A B F ∧ FreqOK L T F ∧ PInv T L.n k A b ∧ ∀ c, c < L.K → B c = (b c : Nat)

section
variable {L : Lay} {kt : IntKind} {T : Nat → Nat} {w0 wr : World} {A B F : Nat → Int} {b : Nat → Nat} {x : Int} {j : Nat}
theorem PlR.start (h : L.Run kt w0 wr T A (fun c => (bmin T L.n (c + 1) : Nat)) F) (hF : FreqOK L T F) (hA : ∀ p, p < L.n → A p = 0) (h0 : T L.n = 0) :
    PlR L kt T w0 (.int .i64 0) (.int .i32 (-1)) (.int kt 0) (.bool false) (.int .i64 ((L.n : Int) - 1)) wr :=
  ⟨L.n, A, _, F, _, -1, Nat.le_refl _, rfl, by rw [h0]; rfl, by rw [sty_end (by omega)], by rw [lc_end (by omega)]; rfl, rfl, .inl (lc_end (by omega)), h, hF, PInv.start hA, fun c _ => rfl⟩
theorem PlR.skip (hj : j < L.n) (hl : lms T L.n (j + 1) = false) (hx : lc T L.n (j + 1) = 0 ∨ ∃ q : Nat, x = q ∧ q < L.n ∧ A q = (nx T L.n (j + 1) : Nat)) (hR : L.Run kt w0 wr T A B F) (hF : FreqOK L T F)
    (hP : PInv T L.n (j + 1) A b) (hB : ∀ c, c < L.K → B c = (b c : Nat)) {s : Bool} (hs : s = sty T L.n j) :
    PlR L kt T w0 (.int .i64 (lc T L.n (j + 1) : Nat)) (.int .i32 x) (.int kt (T j : Nat)) (.bool s) (.int .i64 ((j : Int) - 1)) wr := by
  obtain ⟨h1, h2⟩ := scan_not hl
  exact ⟨j, A, B, F, b, x, by omega, rfl, rfl, by rw [hs], by rw [h1], rfl, by rw [h1, h2]; exact hx, hR, hF, hP.skip hl, hB⟩
theorem PlR.ins (ok : L.Ok) (hj : j + 1 < L.n) (hl : lms T L.n (j + 1) = true) (hT : T (j + 1) < L.K) (hR : L.Run kt w0 wr T A B F) (hF : FreqOK L T F) (hP : PInv T L.n (j + 1) A b) (hB : ∀ c, c < L.K → B c = (b c : Nat)) :
    ∃ q : Nat, B (T (j + 1)) = (q : Int) + 1 ∧ q < L.n ∧ PlR L kt T w0 (.int .i64 ((lc T L.n (j + 1) : Nat) + 1)) (.int .i32 q) (.int kt (T j : Nat)) (.bool false) (.int .i64 ((j : Int) - 1))
      ((wr.setCell ⟨L.bb, L.ob + T (j + 1), none⟩ (.int .i32 q)).setCell ⟨L.bs, L.os + q, none⟩ (.int .i32 ((j : Int) + 1))) := by
  obtain ⟨h1, h2, h3⟩ := hP.ins hl
  have hq : b (T (j + 1)) - 1 < L.n := by omega
  refine ⟨b (T (j + 1)) - 1, by rw [hB _ hT]; omega, hq, j, _, _, F, _, _, by omega, rfl, rfl, by rw [lms_succ] at hl; rw [hl.2], by rw [lc_of_lms hl]; rfl, rfl, .inr ⟨_, rfl, hq, by rw [nx_of_lms hl, upd_same]; rfl⟩, (hR.setB ok hT _).setS ok hq _, hF, h3, fun c hc => ?_⟩
  by_cases e : c = T (j + 1)
  · subst e; rw [upd_same, upd_same]
  · rw [upd_other _ _ e, upd_other _ _ e]; exact hB c hc
end
/-- what placeLMS leaves -/
def PlPost (L : Lay) (T : Nat → Nat) (A : Nat → Int) : Prop :=
  (lc T L.n 0 ≤ 1 → Sa.Start T L.n (slt T L.n) (fun x => lms T L.n x = true) A) ∧ (2 ≤ lc T L.n 0 → Sa.Start T L.n (rl T L.n) (fun x => lms T L.n x = true ∧ nx T L.n 0 < x) A)

end Go.Proofs.YtpkgkppehefibaaGreatDoor

/- What holds while the L's are laid, from left to right: the head of one bucket is kept aside. -/
namespace Go.Proofs.YtpkgkppehefibaaGreatDoor
open Go.RowKit Sa

/-- before place k is looked at; P: the plain part -/
def LsR (P : Nat → (Nat → Int) → (Nat → Nat) → Prop) (L : Lay) (kt : IntKind) (T : Nat → Nat) (w0 : World) (cb bv i : Value) (wr : World) : Prop :=
  ∃ (k : Nat) (A B F : Nat → Int) (b : Nat → Nat) (cB : Nat), k ≤ L.n ∧ i = .int .i64 k ∧ cb = .int kt cB ∧ cB < L.K ∧ bv = .int .i32 (b cB : Nat) ∧ (∀ c, c < L.K → c ≠ cB → B c = (b c : Nat)) ∧
    b cB ≤ L.n ∧ L.Run kt w0 wr T A B F ∧ FreqOK L T F ∧ P k A b

section
variable {P : Nat → (Nat → Int) → (Nat → Nat) → Prop} {L : Lay} {kt : IntKind} {T : Nat → Nat} {w0 wr : World} {A B F : Nat → Int} {b : Nat → Nat} {k cB : Nat}
/-- nothing is laid -/
theorem LsR.skip (hk : k < L.n) (hcB : cB < L.K) (hB : ∀ c, c < L.K → c ≠ cB → B c = (b c : Nat)) (hbn : b cB ≤ L.n) (hR : L.Run kt w0 wr T A B F) (hF : FreqOK L T F) (hP : P (k + 1) A b) :
    LsR P L kt T w0 (.int kt cB) (.int .i32 (b cB : Nat)) (.int .i64 ((k : Int) + 1)) wr :=
  ⟨k + 1, A, B, F, b, cB, by omega, rfl, rfl, hcB, rfl, hB, hbn, hR, hF, hP⟩
/-- laid into the bucket that is kept aside -/
theorem LsR.same (ok : L.Ok) (hk : k < L.n) (hcB : cB < L.K) (hB : ∀ c, c < L.K → c ≠ cB → B c = (b c : Nat)) (hbn : b cB < L.n) (hR : L.Run kt w0 wr T A B F) (hF : FreqOK L T F) {v : Int} (hP : P (k + 1) (upd A (b cB) v) (upd b cB (b cB + 1))) :
    LsR P L kt T w0 (.int kt cB) (.int .i32 ((b cB : Int) + 1)) (.int .i64 ((k : Int) + 1)) (wr.setCell ⟨L.bs, L.os + b cB, none⟩ (.int .i32 v)) :=
  ⟨k + 1, _, B, F, _, cB, by omega, rfl, rfl, hcB, by rw [upd_same]; rfl, fun c h1 h2 => by rw [upd_other _ _ h2]; exact hB c h1 h2, by rw [upd_same]; omega, hR.setS ok hbn v, hF, hP⟩
/-- laid into another one -/
theorem LsR.diff (ok : L.Ok) (hk : k < L.n) (hcB : cB < L.K) (hB : ∀ c, c < L.K → c ≠ cB → B c = (b c : Nat)) {c : Nat} (hc : c < L.K) (hne : cB ≠ c) (hbn : b c < L.n) (hR : L.Run kt w0 wr T A B F) (hF : FreqOK L T F) {v : Int}
    (hP : P (k + 1) (upd A (b c) v) (upd b c (b c + 1))) :
    LsR P L kt T w0 (.int kt c) (.int .i32 ((b c : Int) + 1)) (.int .i64 ((k : Int) + 1)) ((wr.setCell ⟨L.bb, L.ob + cB, none⟩ (.int .i32 (b cB : Nat))).setCell ⟨L.bs, L.os + b c, none⟩ (.int .i32 v)) :=
  ⟨k + 1, _, _, F, _, c, by omega, rfl, rfl, hc, by rw [upd_same]; rfl, fun d h1 h2 => by
    rw [upd_other _ _ h2]
    by_cases e : d = cB
    · subst e; rw [upd_same]
    · rw [upd_other _ _ e]; exact hB d h1 e, by rw [upd_same]; omega, (hR.setB ok hcB _).setS ok hbn v, hF, hP⟩
/-- the first one -/
theorem LsR.first (ok : L.Ok) (hcB : cB < L.K) (hbn : bmin T L.n cB < L.n) (hR : L.Run kt w0 wr T A (fun c => (bmin T L.n c : Nat)) F) (hF : FreqOK L T F) {v : Int} (hP : P 0 (upd A (bmin T L.n cB) v) (upd (bmin T L.n) cB (bmin T L.n cB + 1))) :
    LsR P L kt T w0 (.int kt cB) (.int .i32 ((bmin T L.n cB : Int) + 1)) (.int .i64 0) (wr.setCell ⟨L.bs, L.os + bmin T L.n cB, none⟩ (.int .i32 v)) :=
  ⟨0, _, _, F, _, cB, by omega, rfl, rfl, hcB, by rw [upd_same]; rfl, fun c h1 h2 => by rw [upd_other _ _ h2], by rw [upd_same]; omega, hR.setS ok hbn v, hF, hP⟩
end
theorem mk_lt {T : Nat → Nat} {u : Nat} (h : T u < T (u + 1)) : mk T (u + 1) = -((u : Int) + 1) := by unfold mk; rw [if_pos (by simpa using h)]; rfl
theorem mk_ge {T : Nat → Nat} {u : Nat} (h : ¬ T u < T (u + 1)) : mk T (u + 1) = (u : Int) + 1 := by unfold mk; rw [if_neg (by simpa using h)]; rfl
theorem mk_zero (T : Nat → Nat) : mk T 0 = 0 := by simp [mk]
end Go.Proofs.YtpkgkppehefibaaGreatDoor

/- What holds while the S's are laid, from right to left: the end of one bucket is kept aside. -/
namespace Go.Proofs.YtpkgkppehefibaaGreatDoor
open Go.RowKit Sa

/-- before place k - 1 is looked at; P: the plain part -/
def RsR (P : Nat → (Nat → Int) → (Nat → Nat) → Prop) (L : Lay) (kt : IntKind) (T : Nat → Nat) (w0 : World) (cb bv i : Value) (wr : World) : Prop :=
  ∃ (k : Nat) (A B F : Nat → Int) (b : Nat → Nat) (cB : Nat), k ≤ L.n ∧ i = .int .i64 ((k : Int) - 1) ∧ cb = .int kt cB ∧ cB < L.K ∧ bv = .int .i32 (b cB : Nat) ∧ (∀ c, c < L.K → c ≠ cB → B c = (b c : Nat)) ∧
    b cB ≤ L.n ∧ L.Run kt w0 wr T A B F ∧ FreqOK L T F ∧ P k A b

section
variable {P : Nat → (Nat → Int) → (Nat → Nat) → Prop} {L : Lay} {kt : IntKind} {T : Nat → Nat} {w0 wr : World} {A B F : Nat → Int} {b : Nat → Nat} {k cB : Nat}
theorem RsR.skip (hk : k < L.n) (hcB : cB < L.K) (hB : ∀ c, c < L.K → c ≠ cB → B c = (b c : Nat)) (hbn : b cB ≤ L.n) (hR : L.Run kt w0 wr T A B F) (hF : FreqOK L T F) (hP : P k A b) :
    RsR P L kt T w0 (.int kt cB) (.int .i32 (b cB : Nat)) (.int .i64 ((k : Int) - 1)) wr :=
  ⟨k, A, B, F, b, cB, by omega, rfl, rfl, hcB, rfl, hB, hbn, hR, hF, hP⟩
theorem RsR.same (ok : L.Ok) (hk : k < L.n) (hcB : cB < L.K) (hB : ∀ c, c < L.K → c ≠ cB → B c = (b c : Nat)) {q : Nat} (hq : b cB = q + 1) (hbn : q < L.n) (hR : L.Run kt w0 wr T A B F) (hF : FreqOK L T F) {v : Int} (hP : P k (upd A (b cB - 1) v) (upd b cB (b cB - 1))) :
    RsR P L kt T w0 (.int kt cB) (.int .i32 (q : Int)) (.int .i64 ((k : Int) - 1)) (wr.setCell ⟨L.bs, L.os + q, none⟩ (.int .i32 v)) := by
  rw [hq, Nat.add_sub_cancel] at hP
  exact ⟨k, _, B, F, _, cB, by omega, rfl, rfl, hcB, by rw [upd_same], fun c h1 h2 => by rw [upd_other _ _ h2]; exact hB c h1 h2, by rw [upd_same]; omega, hR.setS ok hbn v, hF, hP⟩
theorem RsR.diff (ok : L.Ok) (hk : k < L.n) (hcB : cB < L.K) (hB : ∀ c, c < L.K → c ≠ cB → B c = (b c : Nat)) {c : Nat} (hc : c < L.K) (hne : cB ≠ c) {q : Nat} (hq : b c = q + 1) (hbn : q < L.n) (hR : L.Run kt w0 wr T A B F) (hF : FreqOK L T F) {v : Int}
    (hP : P k (upd A (b c - 1) v) (upd b c (b c - 1))) :
    RsR P L kt T w0 (.int kt c) (.int .i32 (q : Int)) (.int .i64 ((k : Int) - 1)) ((wr.setCell ⟨L.bb, L.ob + cB, none⟩ (.int .i32 (b cB : Nat))).setCell ⟨L.bs, L.os + q, none⟩ (.int .i32 v)) := by
  rw [hq, Nat.add_sub_cancel] at hP
  exact ⟨k, _, _, F, _, c, by omega, rfl, rfl, hc, by rw [upd_same], fun d h1 h2 => by
    rw [upd_other _ _ h2]
    by_cases e : d = cB
    · subst e; rw [upd_same]
    · rw [upd_other _ _ e]; exact hB d h1 e, by rw [upd_same]; omega, (hR.setB ok hcB _).setS ok hbn v, hF, hP⟩
theorem RsR.first (ok : L.Ok) (hR : L.Run kt w0 wr T A (fun c => (bmin T L.n (c + 1) : Nat)) F) (hF : FreqOK L T F) (hP : P L.n A (fun c => bmin T L.n (c + 1))) :
    RsR P L kt T w0 (.int kt 0) (.int .i32 (bmin T L.n (0 + 1) : Nat)) (.int .i64 ((L.n : Int) - 1)) wr :=
  ⟨L.n, A, _, F, fun c => bmin T L.n (c + 1), 0, by omega, rfl, rfl, ok.k0, rfl, fun c _ _ => rfl, bmin_le _, hR, hF, hP⟩
end
theorem mkS_gt {T : Nat → Nat} {u : Nat} (h : T (u + 1) < T u) : mkS T (u + 1) = -((u : Int) + 1) := by unfold mkS; rw [if_pos (by simpa using h)]; rfl
theorem mkS_le {T : Nat → Nat} {u : Nat} (h : ¬ T (u + 1) < T u) : mkS T (u + 1) = (u : Int) + 1 := by unfold mkS; rw [if_neg (by simpa using h)]; rfl
theorem mkT_le {T : Nat → Nat} {u : Nat} (h : T u ≤ T (u + 1)) : mkT T (u + 1) = -((u : Int) + 1) := by unfold mkT; rw [if_pos (by simpa using h)]; rfl
theorem mkT_gt {T : Nat → Nat} {u : Nat} (h : ¬ T u ≤ T (u + 1)) : mkT T (u + 1) = (u : Int) + 1 := by unfold mkT; rw [if_neg (by simpa using h)]; rfl
theorem mkT_zero (T : Nat → Nat) : mkT T 0 = 0 := by simp [mkT]
end Go.Proofs.YtpkgkppehefibaaGreatDoor

/- What holds while the lengths of LMS substrings are written down. -/
namespace Go.Proofs.YtpkgkppehefibaaGreatDoor
open Go.RowKit Sa

/-- the end of the next LMS substring, 0 if there is none -/
def endOf (T : Nat → Nat) (n k : Nat) : Nat := if nx T n k = 0 then 0 else nx T n k + 1
theorem endOf_lms {T : Nat → Nat} {n j : Nat} (h : lms T n (j + 1) = true) : endOf T n j = j + 2 := by
  unfold endOf
  rw [nx_of_lms h, if_neg (by omega)]
theorem endOf_not {T : Nat → Nat} {n j : Nat} (h : lms T n (j + 1) = false) : endOf T n j = endOf T n (j + 1) := by
  unfold endOf
  rw [nx_of_not h]
theorem endOf_n {T : Nat → Nat} {n k : Nat} (h : n ≤ k + 1) : endOf T n k = 0 := by
  unfold endOf
  rw [nx_end h, if_pos rfl]
theorem endOf_le {T : Nat → Nat} {n k : Nat} : endOf T n k ≤ n := by
  unfold endOf
  split
  · omega
  · rename_i h
    have := lms_lt (nx_some h).2.1
    omega

/-- length, before position k - 1 is looked at -/
def LeR (C : Nat → Int) (L : Lay) (kt : IntKind) (T : Nat → Nat) (A0 : Nat → Int) (w0 : World) (en c0 s i : Value) (wr : World) (k : Nat) : Prop :=
  ∃ (A B F : Nat → Int), k ≤ L.n ∧ i = .int .i64 ((k : Int) - 1) ∧ c0 = .int kt (T k : Nat) ∧ s = .bool (sty T L.n k) ∧ en = .int .i64 (endOf T L.n k : Nat) ∧
    L.Run kt w0 wr T A B F ∧ FreqOK L T F ∧ LenI T L.n C A0 k A
section
variable {C : Nat → Int} {L : Lay} {kt : IntKind} {T : Nat → Nat} {w0 wr : World} {A0 A B F : Nat → Int} {j : Nat}
theorem LeR.start (h : L.St kt wr T A B F) (hF : FreqOK L T F) (hA : Subs T L.n (lc T L.n 0) A) (h0 : T L.n = 0) : LeR C L kt T A wr (.int .i64 0) (.int kt 0) (.bool false) (.int .i64 ((L.n : Int) - 1)) wr L.n :=
  ⟨A, B, F, Nat.le_refl _, rfl, by rw [h0]; rfl, by rw [sty_end (by omega)], by rw [endOf_n (by omega)]; rfl, Lay.Run.start h, hF, LenI.start hA⟩
theorem LeR.skip (hj : j < L.n) (hl : lms T L.n (j + 1) = false) (hR : L.Run kt w0 wr T A B F) (hF : FreqOK L T F) (hI : LenI T L.n C A0 (j + 1) A) {s : Bool} (hs : s = sty T L.n j) :
    LeR C L kt T A0 w0 (.int .i64 (endOf T L.n (j + 1) : Nat)) (.int kt (T j : Nat)) (.bool s) (.int .i64 ((j : Int) - 1)) wr j :=
  ⟨A, B, F, by omega, rfl, rfl, by rw [hs], by rw [endOf_not hl], hR, hF, hI.skip hl⟩
theorem LeR.ins (ok : L.Ok) (hj : j + 1 < L.n) (hl : lms T L.n (j + 1) = true) (hR : L.Run kt w0 wr T A B F) (hF : FreqOK L T F) (hI : LenI T L.n C A0 (j + 1) A) :
    (j + 1) / 2 < L.n ∧ LeR C L kt T A0 w0 (.int .i64 ((j : Int) + 1 + 1)) (.int kt (T j : Nat)) (.bool false) (.int .i64 ((j : Int) - 1)) (wr.setCell ⟨L.bs, L.os + (j + 1) / 2, none⟩ (.int .i32 (C (j + 1)))) j := by
  obtain ⟨h1, h2⟩ := hI.ins hl
  exact ⟨h1, _, _, F, by omega, rfl, rfl, by rw [lms_succ] at hl; rw [hl.2], by rw [endOf_lms hl]; rfl, hR.setS ok h1 _, hF, h2⟩
end
/-- the word with one byte more -/
theorem or_pack (T : Nat → Nat) (cx j : Nat) : bits .or .u32 ((cx : Int) * 256 % 4294967296) (((T j : Int) + 1) % 256) = ((cx * 256 % 4294967296 + byt T j : Nat) : Int) := by
  have e1 : ((cx : Int) * 256 % 4294967296) = ((cx * 256 % 4294967296 : Nat) : Int) := by omega
  have e2 : (((T j : Int) + 1) % 256) = ((byt T j : Nat) : Int) := by unfold byt; omega
  have hb := byt_lt (T := T) j
  rw [e1, e2, u32_or_nat _ _ (by omega) (by omega)]
  have e3 : cx * 256 % 4294967296 = 2 ^ 8 * (cx % 16777216) := by omega
  rw [e3, ← Nat.two_pow_add_eq_or_of_lt (i := 8) (b := byt T j) (by omega)]
theorem xor_pack (cv : Nat) (h : cv < 4294967296) : bits .xor .u32 4294967295 (cv : Int) = ((4294967295 - cv : Nat) : Int) := by
  rw [show (4294967295 : Int) = ((4294967295 : Nat) : Int) by rfl, u32_xor_nat _ _ (by omega) h]
  congr 1
  have h2 : (4294967295 ^^^ cv) + cv = 4294967295 := by
    have e : (~~~ BitVec.ofNat 32 cv).toNat = 4294967295 - cv := by
      rw [BitVec.toNat_not, BitVec.toNat_ofNat, Nat.mod_eq_of_lt (by omega)]
    have e2 : (~~~ BitVec.ofNat 32 cv) = BitVec.allOnes 32 ^^^ BitVec.ofNat 32 cv := by
      rw [BitVec.allOnes_xor]
    have e3 := congrArg BitVec.toNat e2
    rw [e, BitVec.toNat_xor, BitVec.toNat_allOnes, BitVec.toNat_ofNat, Nat.mod_eq_of_lt (by omega)] at e3
    have e4 : (2 ^ 32 - 1 : Nat) = 4294967295 := by decide
    rw [e4] at e3
    omega
  omega
theorem s32_wrap {y : Nat} (h : y < 4294967296) : s32 y = wrap32 (y : Int) := by
  unfold s32 wrap32
  split <;> omega
end Go.Proofs.YtpkgkppehefibaaGreatDoor

/- Forward jumps inside a scope; what holds while LMS substrings are numbered. -/
namespace Go.Proofs.YtpkgkppehefibaaGreatDoor
open Go.RowKit Sa

/-- As Q; by a goto to a label of the scope: on from there -/
def Exit.fwd (P : Program) (c : Code) (Q : Exit → Act → World → Prop) : Exit → Act → World → Prop
  | .goto l, a, w => ∃ rest, findLabel c l = some rest ∧ rest.wp P (Exit.noGoto Q) a w
  | e, a, w => Q e a w
theorem wp_scope_fwd {P : Program} {c : Code} {Q : Exit → Act → World → Prop} {a : Act} {w : World} (h : ∀ Q', (∀ e a w, Exit.fwd P c Q e a w → Q' e a w) → c.wp P Q' a w) : (Code.scope c).wp P Q a w := by
  intro b k cs
  obtain ⟨e, a₁, w₁, hq, harr⟩ := h _ (fun _ _ _ h => h) b (.inScope c :: k) cs
  cases e with
  | normal => exact ⟨.normal, a₁, w₁, hq, .head step_scope (Steps.trans harr (.one step_inScope))⟩
  | exit id => exact ⟨.exit id, a₁, w₁, hq, fun k' hk => .head step_scope (harr k' (by simp [exitTo, hk]))⟩
  | goto l =>
    obtain ⟨rest, hf, hr⟩ := hq
    have hg : gotoIn l (.inScope c :: k) = some (.code rest :: .inScope c :: k) := by simp [gotoIn, hf]
    have s1 : Steps P (lone (b.at a (.code (.scope c) :: k)) cs w) (lone (b.at a₁ (.code rest :: .inScope c :: k)) cs w₁) := .head step_scope (harr _ hg)
    obtain ⟨e₂, a₂, w₂, hq₂, harr₂⟩ := hr b (.inScope c :: k) cs
    cases e₂ with
    | normal => exact ⟨.normal, a₂, w₂, hq₂, s1.trans (Steps.trans harr₂ (.one step_inScope))⟩
    | exit id => exact ⟨.exit id, a₂, w₂, hq₂, fun k' hk => s1.trans (harr₂ k' (by simp [exitTo, hk]))⟩
    | goto l => exact hq₂.elim
    | ret => exact ⟨_, a₂, w₂, hq₂, .of_steps s1 harr₂⟩
    | panic ch => exact ⟨_, a₂, w₂, hq₂, .of_steps s1 harr₂⟩
    | outgrown => exact ⟨_, a₂, w₂, hq₂, .of_steps s1 harr₂⟩
  | ret => exact ⟨_, a₁, w₁, hq, .of_steps (.one step_scope) harr⟩
  | panic ch => exact ⟨_, a₁, w₁, hq, .of_steps (.one step_scope) harr⟩
  | outgrown => exact ⟨_, a₁, w₁, hq, .of_steps (.one step_scope) harr⟩

/-- assignID, before the s-th of the sorted list is looked at -/
def AsR (C : Nat → Int) (X : Nat → Nat) (L : Lay) (kt : IntKind) (T : Nat → Nat) (A0 : Nat → Int) (w0 : World) (id ll lp i : Value) (wr : World) (s : Nat) : Prop :=
  ∃ (A B F : Nat → Int) (idn lpn : Nat) (llv : Int), s ≤ lc T L.n 0 ∧ i = .int .i64 s ∧ id = .int .i64 idn ∧ ll = .int .i32 llv ∧ lp = .int .i32 lpn ∧ lpn < L.n ∧ L.Run kt w0 wr T A B F ∧ FreqOK L T F ∧
    IdI T L.n C X A0 s A ∧ LastI T L.n C X s idn lpn llv
section
variable {C : Nat → Int} {X : Nat → Nat} {L : Lay} {kt : IntKind} {T : Nat → Nat} {w0 wr : World} {A0 A B F : Nat → Int} {s idn lpn : Nat} {llv : Int}
theorem AsR.fresh (ok : L.Ok) (hX : Lst T L.n X) (hs : s < lc T L.n 0) (hR : L.Run kt w0 wr T A B F) (hF : FreqOK L T F) (hI : IdI T L.n C X A0 s A) (hL : LastI T L.n C X s idn lpn llv) (hf : Sa.fresh T L.n X s = true) :
    AsR C X L kt T A0 w0 (.int .i64 ((idn : Int) + 1)) (.int .i32 (C (X s))) (.int .i32 (X s : Nat)) (.int .i64 ((s : Int) + 1)) (wr.setCell ⟨L.bs, L.os + X s / 2, none⟩ (.int .i32 ((idn : Int) + 1))) (s + 1) := by
  obtain ⟨h1, h2⟩ := hL.fresh hf
  obtain ⟨h3, h4⟩ := hI.step hX hs
  rw [h1] at h4
  exact ⟨_, _, F, _, _, _, by omega, rfl, rfl, rfl, rfl, by have := lms_lt (hX.lms s hs); omega, hR.setS ok h3 _, hF, h4, h2⟩
theorem AsR.same (ok : L.Ok) (hX : Lst T L.n X) (hs : s < lc T L.n 0) (hlp : lpn < L.n) (hR : L.Run kt w0 wr T A B F) (hF : FreqOK L T F) (hI : IdI T L.n C X A0 s A) (hL : LastI T L.n C X s idn lpn llv) (hf : Sa.fresh T L.n X s = false) :
    AsR C X L kt T A0 w0 (.int .i64 (idn : Int)) (.int .i32 llv) (.int .i32 (lpn : Nat)) (.int .i64 ((s : Int) + 1)) (wr.setCell ⟨L.bs, L.os + X s / 2, none⟩ (.int .i32 (idn : Int))) (s + 1) := by
  obtain ⟨h1, h2⟩ := hL.same hf
  obtain ⟨h3, h4⟩ := hI.step hX hs
  rw [h1] at h4
  exact ⟨_, _, F, _, _, _, by omega, rfl, rfl, rfl, rfl, hlp, hR.setS ok h3 _, hF, h4, h2⟩
end
end Go.Proofs.YtpkgkppehefibaaGreatDoor

/- map_32, its walk; what holds while the smaller problem's answer is mapped back and spread. -/
namespace Go.Proofs.YtpkgkppehefibaaGreatDoor
open Go.RowKit Sa

/-- map, before place k - 1 is looked at -/
def MpR (X : Nat → Nat) (L : Lay) (kt : IntKind) (T : Nat → Nat) (w0 : World) (wv i : Value) (wr : World) (k : Nat) : Prop :=
  ∃ (A B F : Nat → Int), k ≤ L.n / 2 + 1 ∧ i = .int .i64 ((k : Int) - 1) ∧ wv = .int .i64 ((L.n - lc T L.n (2 * k - 1) : Nat) : Int) ∧ L.Run kt w0 wr T A B F ∧ FreqOK L T F ∧ MapI T L.n X k A

set_option maxHeartbeats 1000000 in
set_option maxRecDepth 100000 in
theorem map32 (kt : IntKind) (L : Lay) (ok : L.Ok) (w : World) (T : Nat → Nat) (A0 A B F : Nat → Int) (C : Nat → Int) (X : Nat → Nat) (h : L.St kt w T A B F) (hF : FreqOK L T F) (hX : Lst T L.n X) (hA : IdI T L.n C X A0 (lc T L.n 0) A) (hn : 0 < L.n) (nl : Value) :
    Calls Tryz.prog 75 #[.slice (some ⟨L.bs, L.os, none⟩) L.n L.cs, nl] w fun e w' =>
      e = .returned (.tuple #[]) ∧ ∃ A' B' F', L.Run kt w w' T A' B' F' ∧ FreqOK L T F' ∧ MapI T L.n X 0 A' := by
  have hsm := ok.small
  have hhalf := lc_half (T := T) (n := L.n) (i := 0) hn
  have HS : MpR X L kt T w (.int .i64 (L.n : Nat)) (.int .i64 ((L.n : Int) / 2)) w (L.n / 2 + 1) :=
    ⟨A, B, F, by omega, by congr 1; omega, by rw [lc_end (by omega)]; rfl, Lay.Run.start h, hF, MapI.start hA hX⟩
  have HSh := Lib.hid HS
  have HXh := Lib.hid hX
  have HH := Lib.hid hhalf
  clear h hF hA hX HS hhalf
  go_enter Tryz.func75, Tryz.ntmps75
  go_wp2
  go_loopg [4, 5] (L.n / 2 + 2) (fun gk wv i wr => ∃ k, MpR X L kt T w wv i wr k ∧ k < gk)
  case atStart => exact ⟨_, HSh.out, by omega⟩
  case round =>
    clear HSh
    obtain ⟨k, ⟨A2, B2, F2, hk, rfl, rfl, hR, hF2, hI⟩, hgk⟩ := hrel
    rcases Nat.eq_zero_or_pos k with rfl | hpos
    · have hm1 : (((0 : Nat) : Int) - 1) = -1 := rfl
      rw [hm1]
      clear hm1
      have HR := Lib.hid hR
      have HI := Lib.hid hI
      have HF2 := Lib.hid hF2
      clear hR hF2 hI
      go_wp2
      go_end0
      exact ⟨rfl, _, _, _, HR.out, HF2.out, HI.out⟩
    · obtain ⟨j, rfl⟩ : ∃ j, k = j + 1 := ⟨k - 1, by omega⟩
      have hi : (((j + 1 : Nat) : Int) - 1) = (j : Int) := by omega
      rw [hi]
      clear hi
      have hHo := HH.out
      have hjn : j < L.n := by omega
      have hcj := hR.st.s j hjn
      rcases hI.at_ HXh.out (by omega) with ⟨h1, h2, h3⟩ | ⟨r, h0, hr, h1, h2, h3, h4⟩
      · have HR : Hid (MpR X L kt T w (.int .i64 ((L.n - lc T L.n (2 * (j + 1) - 1) : Nat) : Int)) (.int .i64 ((j : Int) - 1)) wr j) := ⟨A2, B2, F2, by omega, rfl, by rw [h2], hR, hF2, h3⟩
        rw [h1] at hcj
        have hl : L.n - lc T L.n (2 * (j + 1) - 1) ≤ L.n := by omega
        clear hR hF2 hI h1 h2 h3 hHo
        generalize L.n - lc T L.n (2 * (j + 1) - 1) = wv at *
        go_wp2
        go_roundg (j + 1)
        case rel => exact ⟨j, HR.out, by omega⟩
        case measure => omega
      · obtain ⟨q, hq⟩ : ∃ q, L.n - lc T L.n (2 * (j + 1) - 1) = q + 1 := ⟨L.n - lc T L.n (2 * (j + 1) - 1) - 1, by omega⟩
        have hqn : q < L.n := by omega
        have hqe : L.n - 1 - lc T L.n (2 * (j + 1) - 1) = q := by omega
        rw [hqe] at h4
        have HR : Hid (MpR X L kt T w (.int .i64 (q : Int)) (.int .i64 ((j : Int) - 1)) (wr.setCell ⟨L.bs, L.os + q, none⟩ (.int .i32 ((r : Int) - 1))) j) :=
          ⟨_, B2, F2, by omega, rfl, by rw [h2]; congr 1; omega, hR.setS ok hqn _, hF2, h4⟩
        have hcq := hR.st.s q hqn
        have hzq := hR.st.s' q hqn
        have hr2 : r < 1073741824 := by omega
        rw [h1] at hcj
        rw [hq]
        have hqi : ((q + 1 : Nat) : Int) = (q : Int) + 1 := by omega
        rw [hqi]
        clear hR hF2 hI h1 h2 h3 h4 hq hqe hqi hHo hr
        go_wp2
        go_roundg (j + 1)
        case rel => exact ⟨j, HR.out, by omega⟩
        case measure => omega

/-- unmap, the first loop -/
def UnR (L : Lay) (kt : IntKind) (T : Nat → Nat) (A0 : Nat → Int) (w0 : World) (jv c0 s i : Value) (wr : World) (k : Nat) : Prop :=
  ∃ (A B F : Nat → Int), k ≤ L.n ∧ i = .int .i64 ((k : Int) - 1) ∧ c0 = .int kt (T k : Nat) ∧ s = .bool (sty T L.n k) ∧ jv = .int .i64 ((lc T L.n 0 - lc T L.n k : Nat) : Int) ∧
    L.Run kt w0 wr T A B F ∧ FreqOK L T F ∧ UnI T L.n A0 k A
section
variable {L : Lay} {kt : IntKind} {T : Nat → Nat} {w0 wr : World} {A0 A B F : Nat → Int} {j : Nat}
theorem UnR.skip (hj : j < L.n) (hl : lms T L.n (j + 1) = false) (hR : L.Run kt w0 wr T A B F) (hF : FreqOK L T F) (hI : UnI T L.n A0 (j + 1) A) {s : Bool} (hs : s = sty T L.n j) :
    UnR L kt T A0 w0 (.int .i64 ((lc T L.n 0 - lc T L.n (j + 1) : Nat) : Int)) (.int kt (T j : Nat)) (.bool s) (.int .i64 ((j : Int) - 1)) wr j :=
  ⟨A, B, F, by omega, rfl, rfl, by rw [hs], by rw [lc_of_not hl], hR, hF, hI.skip hl⟩
theorem UnR.ins (ok : L.Ok) (hj : j + 1 < L.n) (hl : lms T L.n (j + 1) = true) (hn : 2 * lc T L.n 0 + 0 + 1 ≤ L.n) (hR : L.Run kt w0 wr T A B F) (hF : FreqOK L T F) (hI : UnI T L.n A0 (j + 1) A) :
    ∃ q : Nat, lc T L.n 0 - lc T L.n (j + 1) = q + 1 ∧ q < lc T L.n 0 ∧
      UnR L kt T A0 w0 (.int .i64 (q : Int)) (.int kt (T j : Nat)) (.bool false) (.int .i64 ((j : Int) - 1)) (wr.setCell ⟨L.bs, L.os + (L.n - lc T L.n 0) + q, none⟩ (.int .i32 ((j : Int) + 1))) j := by
  obtain ⟨h1, h2⟩ := hI.ins hl
  have e : L.os + (L.n - lc T L.n 0) + (lc T L.n 0 - lc T L.n (j + 1) - 1) = L.os + (L.n - 1 - lc T L.n (j + 1)) := by omega
  refine ⟨lc T L.n 0 - lc T L.n (j + 1) - 1, by omega, by omega, _, B, F, by omega, rfl, rfl, by rw [lms_succ] at hl; rw [hl.2], by rw [lc_of_lms hl]; congr 1, ?_, hF, h2⟩
  rw [e]
  exact hR.setS ok (by omega) _
end

/-- expand, before place k - 1 is looked at -/
def ExR (Y : Nat → Nat) (L : Lay) (kt : IntKind) (T : Nat → Nat) (w0 : World) (xv sx bv i : Value) (wr : World) (k : Nat) : Prop :=
  ∃ (A B F : Nat → Int) (y : Nat), k ≤ L.n ∧ i = .int .i64 ((k : Int) - 1) ∧ xv = .int .i64 ((y - 1 : Nat) : Int) ∧ sx = .int .i32 (Y (y - 1) : Nat) ∧ bv = .int .i32 (loc T L.n Y (y - 1) : Nat) ∧
    L.Run kt w0 wr T A B F ∧ FreqOK L T F ∧ ExI T L.n Y k y A ∧ ∀ c, c < L.K → B c = ((bmin T L.n (c + 1) - from_ T L.n Y (y - 1) c : Nat) : Int)
theorem loc_eq {T : Nat → Nat} {n : Nat} {Y : Nat → Nat} {z : Nat} (h : LSort T n Y) (hz : z < lc T n 0) :
    bmin T n (T (Y z) + 1) - from_ T n Y (z + 1) (T (Y z)) = loc T n Y z + 1 ∧ ∀ c, bmin T n (c + 1) - from_ T n Y z c = upd (fun c => bmin T n (c + 1) - from_ T n Y (z + 1) c) (T (Y z)) (loc T n Y z) c := by
  have h1 := from_succ (T := T) (n := n) (Y := Y) (y := z) (c := T (Y z)) hz
  rw [if_pos rfl] at h1
  have h2 := from_le h z (T (Y z))
  refine ⟨by unfold loc; omega, fun c => ?_⟩
  by_cases e : c = T (Y z)
  · subst e; rw [upd_same]; rfl
  · rw [upd_other _ _ e, from_succ hz, if_neg (fun e' => e e'.symm)]; rfl
end Go.Proofs.YtpkgkppehefibaaGreatDoor

/- The two layouts over a scratch slice; from stretches of memory to a layout and back. -/
namespace Go.Proofs.YtpkgkppehefibaaGreatDoor.Sa
theorem suf_congr {T T' : Nat → Nat} {n : Nat} (h : ∀ i, i < n → T i = T' i) (i : Nat) : suf T n i = suf T' n i := by
  obtain ⟨d, hd⟩ : ∃ d, d = n - i := ⟨_, rfl⟩
  induction d generalizing i with
  | zero => rw [suf_end (by omega), suf_end (by omega)]
  | succ d ih => rw [suf_cons (T := T) (by omega), suf_cons (T := T') (by omega), ih (i + 1) (by omega), h i (by omega)]
theorem IsSA.congr {T T' : Nat → Nat} {n : Nat} {sa : Nat → Nat} (h : IsSA T n sa) (e : ∀ i, i < n → T i = T' i) : IsSA T' n sa := by
  refine ⟨h.lt, fun p q hpq hq => ?_, h.onto⟩
  have := h.srt p q hpq hq
  unfold slt at this ⊢
  rw [← suf_congr e, ← suf_congr e]
  exact this
theorem IsSA.congr_sa {T : Nat → Nat} {n : Nat} {sa sa' : Nat → Nat} (h : IsSA T n sa) (e : ∀ i, i < n → sa i = sa' i) : IsSA T n sa' := by
  refine ⟨fun p hp => by rw [← e p hp]; exact h.lt p hp, fun p q hpq hq => by rw [← e p (by omega), ← e q hq]; exact h.srt p q hpq hq, fun x hx => ?_⟩
  obtain ⟨p, hp, h1⟩ := h.onto x hx
  exact ⟨p, hp, by rw [← e p hp]; exact h1⟩
end Go.Proofs.YtpkgkppehefibaaGreatDoor.Sa
namespace Go.Proofs.YtpkgkppehefibaaGreatDoor
open Go.RowKit Sa

theorem Apart.sub {b o n b' o' n' : Nat} (h : Apart b o n b' o' n') {i k i' k' : Nat} (h1 : i + k ≤ n) (h2 : i' + k' ≤ n') : Apart b (o + i) k b' (o' + i') k' := by
  rcases h with h | h | h
  · exact .inl h
  · exact .inr (.inl (by omega))
  · exact .inr (.inr (by omega))
/-- the suffix array and the scratch slice -/
def saS (bs os n bm om M : Nat) (b o : Nat) : Prop := inR bs os n b o ∨ inR bm om M b o

/-- room for both the frequencies and the buckets -/
def lay2 (bt ot ct n bs os cs bm om cm K : Nat) : Lay := ⟨bt, ot, ct, n, bs, os, cs, bm, om + K, cm - K, K, bm, om, cm, K⟩
/-- room for the buckets alone -/
def lay1 (bt ot ct n bs os cs bm om cm K : Nat) : Lay := ⟨bt, ot, ct, n, bs, os, cs, bm, om, cm, K, bm, om, cm, 0⟩

/-- a layout over a scratch slice of M places -/
structure OnTmp (L : Lay) (bm om M : Nat) : Prop where
  bb : L.bb = bm
  bf : L.bf = bm
  b1 : om ≤ L.ob
  b2 : L.ob + L.K ≤ om + M
  f1 : L.of_ = om
  f2 : L.lf ≤ M
theorem onTmp2 {bt ot ct n bs os cs bm om cm K M : Nat} (h : 2 * K ≤ M) : OnTmp (lay2 bt ot ct n bs os cs bm om cm K) bm om M := ⟨rfl, rfl, by simp [lay2], by simp [lay2]; omega, rfl, by simp [lay2]; omega⟩
theorem onTmp1 {bt ot ct n bs os cs bm om cm K M : Nat} (h : K ≤ M) : OnTmp (lay1 bt ot ct n bs os cs bm om cm K) bm om M := ⟨rfl, rfl, by simp [lay1], by simp [lay1]; omega, rfl, by simp [lay1]⟩

section
variable {L : Lay} {bm om M : Nat} {kt : IntKind} {w w' w2 : World} {T : Nat → Nat} {A B F : Nat → Int}
theorem OnTmp.hit (h : OnTmp L bm om M) (b o : Nat) (hh : L.hit b o) : saS L.bs L.os L.n bm om M b o := by
  have e1 := h.bb
  have e2 := h.bf
  have e3 := h.b1
  have e4 := h.b2
  have e5 := h.f1
  have e6 := h.f2
  rcases hh with hh | ⟨h1, h2, h3⟩ | ⟨h1, h2, h3⟩
  · exact .inl hh
  · exact .inr ⟨by omega, by omega, by omega⟩
  · exact .inr ⟨by omega, by omega, by omega⟩
/-- the whole scratch slice holds numbers still -/
theorem OnTmp.reg (h : OnTmp L bm om M) {G : Nat → Int} (hG : Reg w bm om M G) (hR : L.Run kt w w' T A B F) (hap : Apart L.bs L.os L.n bm om M) :
    ∃ G', Reg w' bm om M G' ∧ (∀ i, i < L.K → B i = G' (L.ob - om + i)) ∧ (∀ i, i < L.lf → F i = G' i) := by
  have e1 := h.bb
  have e2 := h.bf
  have e3 := h.b1
  have e4 := h.b2
  have e5 := h.f1
  have e6 := h.f2
  have cells : ∀ i, i < M → ∃ x, w'.cell? ⟨bm, om + i, none⟩ = some (.int .i32 x) := by
    intro i hi
    by_cases c1 : L.ob ≤ om + i ∧ om + i < L.ob + L.K
    · refine ⟨B (om + i - L.ob), ?_⟩
      have := hR.st.b (om + i - L.ob) (by omega)
      rwa [e1, show L.ob + (om + i - L.ob) = om + i by omega] at this
    · by_cases c2 : i < L.lf
      · exact ⟨F i, by have := hR.st.f i c2; rwa [e2, e5] at this⟩
      · refine ⟨G i, ?_⟩
        rw [hR.ch.cell bm (om + i) (cell_lt (hG.c i hi))]
        · exact hG.c i hi
        · rintro (hh | ⟨h1, h2, h3⟩ | ⟨h1, h2, h3⟩)
          · exact hap.symm.out hi hh
          · omega
          · omega
  have key : ∀ i, i < M → w'.cell? ⟨bm, om + i, none⟩ = some (.int .i32 (match w'.cell? ⟨bm, om + i, none⟩ with | some (.int _ x) => x | _ => 0)) := by
    intro i hi
    obtain ⟨x, hx⟩ := cells i hi
    rw [hx]
  refine ⟨fun i => match w'.cell? ⟨bm, om + i, none⟩ with | some (.int _ x) => x | _ => 0, ⟨key, fun i hi => ?_⟩, fun i hi => ?_, fun i hi => ?_⟩
  · rw [hR.ch.frz bm (om + i) (cell_lt (hG.c i hi))]; exact hG.z i hi
  · have := hR.st.b i hi
    rw [e1] at this
    simp only
    rw [show om + (L.ob - om + i) = L.ob + i by omega, this]
  · have := hR.st.f i hi
    rw [e2, e5] at this
    simp only [this]
/-- back to the layout behind changes in the suffix array and the scratch slice -/
theorem OnTmp.back (h : OnTmp L bm om M) (hst : L.St kt w T A B F) {S : Nat → Nat → Prop} (hch : Chg S w w') (hS : ∀ i, i < L.n → ¬ S L.bt (L.ot + i)) {A' G' : Nat → Int} (hA : Reg w' L.bs L.os L.n A') (hG : Reg w' bm om M G') :
    L.St kt w' T A' (fun i => G' (L.ob - om + i)) (fun i => G' i) := by
  have e1 := h.bb
  have e2 := h.bf
  have e3 := h.b1
  have e4 := h.b2
  have e5 := h.f1
  have e6 := h.f2
  have b1 : ∀ i, i < L.K → L.bb = bm ∧ L.ob + i = om + (L.ob - om + i) ∧ L.ob - om + i < M := fun i hi => ⟨e1, by omega, by omega⟩
  refine ⟨fun i hi => ?_, hA.c, hA.z, fun i hi => ?_, fun i hi => ?_, fun i hi => ?_, fun i hi => ?_, hst.bs.imp id fun x => Nat.lt_of_lt_of_le x hch.size, Nat.lt_of_lt_of_le hst.bb hch.size, hst.bf.imp id fun x => Nat.lt_of_lt_of_le x hch.size⟩
  · rw [hch.cell _ _ (cell_lt (hst.t i hi)) (hS i hi)]; exact hst.t i hi
  · obtain ⟨q1, q2, q3⟩ := b1 i hi
    rw [q1, q2]; exact hG.c _ q3
  · obtain ⟨q1, q2, q3⟩ := b1 i hi
    rw [q1, q2]; exact hG.z _ q3
  · rw [e2, e5]; exact hG.c i (by omega)
  · rw [e2, e5]; exact hG.z i (by omega)
theorem saS_text {bt ot n bs os bm om M : Nat} (h1 : Apart bt ot n bs os n) (h2 : Apart bt ot n bm om M) {i : Nat} (hi : i < n) : ¬ saS bs os n bm om M bt (ot + i) := by
  rintro (h | h)
  · exact h1.out hi h
  · exact h2.out hi h
end
section
variable {bt ot ct n bs os cs bm om cm K M : Nat}
theorem lay2_ok (hts : Apart bt ot n bs os n) (htm : Apart bt ot n bm om M) (hsm : Apart bs os n bm om M) (hn : n < 1073741824) (hK : 0 < K) (hK2 : 2 * K ≤ M) (hM : M ≤ cm) (hKs : K < 1073741824) (hct : n ≤ ct) (hcs : n ≤ cs) : (lay2 bt ot ct n bs os cs bm om cm K).Ok where
  ts := hts
  tb := by have := htm.sub (i := 0) (k := n) (i' := K) (k' := K) (by omega) (by omega); exact this
  tf := by have := htm.sub (i := 0) (k := n) (i' := 0) (k' := K) (by omega) (by omega); exact this
  sb := by have := hsm.sub (i := 0) (k := n) (i' := K) (k' := K) (by omega) (by omega); exact this
  sf := by have := hsm.sub (i := 0) (k := n) (i' := 0) (k' := K) (by omega) (by omega); exact this
  bf := .inr (.inr (Nat.le_refl _))
  ct := hct
  cs := hcs
  cb := by simp only [lay2]; omega
  cf := by simp only [lay2]; omega
  k0 := hK
  lf := .inr rfl
  small := hn
  ksmall := hKs
theorem lay1_ok (hts : Apart bt ot n bs os n) (htm : Apart bt ot n bm om M) (hsm : Apart bs os n bm om M) (hn : n < 1073741824) (hK : 0 < K) (hK2 : K ≤ M) (hM : M ≤ cm) (hKs : K < 1073741824) (hct : n ≤ ct) (hcs : n ≤ cs) : (lay1 bt ot ct n bs os cs bm om cm K).Ok where
  ts := hts
  tb := by have := htm.sub (i := 0) (k := n) (i' := 0) (k' := K) (by omega) (by omega); exact this
  tf := by have := htm.sub (i := 0) (k := n) (i' := 0) (k' := 0) (by omega) (by omega); exact this
  sb := by have := hsm.sub (i := 0) (k := n) (i' := 0) (k' := K) (by omega) (by omega); exact this
  sf := by have := hsm.sub (i := 0) (k := n) (i' := 0) (k' := 0) (by omega) (by omega); exact this
  bf := .inr (.inr (by simp [lay1]))
  ct := hct
  cs := hcs
  cb := by simp only [lay1]; omega
  cf := by simp only [lay1]; omega
  k0 := hK
  lf := .inl rfl
  small := hn
  ksmall := hKs
theorem lay2_st {kt : IntKind} {w : World} {T : Nat → Nat} {A G : Nat → Int} (ht : ∀ i, i < n → w.cell? ⟨bt, ot + i, none⟩ = some (.int kt (T i : Nat))) (hs : Reg w bs os n A) (hG : Reg w bm om M G) (hK : 0 < K) (hK2 : 2 * K ≤ M) (hn : 0 < n) :
    (lay2 bt ot ct n bs os cs bm om cm K).St kt w T A (fun i => G (K + i)) G where
  t := ht
  s := hs.c
  s' := hs.z
  b i hi := by have := hG.c (K + i) (by simp only [lay2] at hi; omega); rwa [← Nat.add_assoc] at this
  b' i hi := by have := hG.z (K + i) (by simp only [lay2] at hi; omega); rwa [← Nat.add_assoc] at this
  f i hi := hG.c i (by simp only [lay2] at hi; omega)
  f' i hi := hG.z i (by simp only [lay2] at hi; omega)
  bs := .inr (hs.lt hn)
  bb := hG.lt (by omega)
  bf := .inr (hG.lt (by omega))
theorem lay1_st {kt : IntKind} {w : World} {T : Nat → Nat} {A G : Nat → Int} (ht : ∀ i, i < n → w.cell? ⟨bt, ot + i, none⟩ = some (.int kt (T i : Nat))) (hs : Reg w bs os n A) (hG : Reg w bm om M G) (hK : 0 < K) (hK2 : K ≤ M) (hn : 0 < n) :
    (lay1 bt ot ct n bs os cs bm om cm K).St kt w T A G G where
  t := ht
  s := hs.c
  s' := hs.z
  b i hi := hG.c i (by simp only [lay1] at hi; omega)
  b' i hi := hG.z i (by simp only [lay1] at hi; omega)
  f i hi := by simp only [lay1] at hi; omega
  f' i hi := by simp only [lay1] at hi; omega
  bs := .inr (hs.lt hn)
  bb := hG.lt (by omega)
  bf := .inl rfl
end
end Go.Proofs.YtpkgkppehefibaaGreatDoor
