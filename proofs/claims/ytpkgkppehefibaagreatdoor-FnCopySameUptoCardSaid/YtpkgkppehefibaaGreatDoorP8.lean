/- recurse_32; sais_8_32. (Printed by merge.py out of parts.) -/
import Derived.Test.YtpkgkppehefibaaGreatDoorP3
import Derived.Laws.MakeOwn
import Derived.Test.YtpkgkppehefibaaGreatDoorP4
import Derived.Test.YtpkgkppehefibaaGreatDoorP5
/- recurse_32: the smaller problem is handed to sais_32. -/
namespace Go.Proofs.YtpkgkppehefibaaGreatDoor
open Go.RowKit Sa

theorem info32 : (Tryz.prog.info? 21).map (fun i => (i.zero, i.size, i.bytes)) = some (some (.int .i32 0), 1, 4) := by kernel_rfl
/-- make([]int32, k) -/
theorem run_make32 (k : Nat) (hk : k < 1073741824) (w : World) : (Instr.makeSlice 44 (.int .i64 (k : Int)) (.int .i64 (k : Int))).run Tryz.prog w = .ok (.slice (some ⟨w.heap.size, 0, none⟩) k k) (w.alloc (.cells (madeCells #[.int .i32 0] k) 21)) := by
  obtain ⟨i0, hi, hz0, hz1, hz2⟩ := info_parts info32
  have hr := run_make (P := Tryz.prog) w 44 21 i0 (.int .i32 0) Tryz.underlying44 hi hz0 .i64 .i64 k k (by omega) (by omega) (by rw [hz2]; omega) (by omega)
  simp only [Int.toNat_natCast, hz1, Nat.mul_one] at hr
  exact hr
theorem chg_alloc (S : Nat → Nat → Prop) (w : World) (o : Obj) : Chg S w (w.alloc o) := Chg.of_below ((Below.refl _ _).alloc (Nat.le_refl _) o)
theorem reg_made (w : World) (k : Nat) : Reg (w.alloc (.cells (madeCells #[.int .i32 0] k) 21)) w.heap.size 0 k (fun _ => 0) where
  c i hi := by
    rw [World.cell?_alloc_at _ _ _ _ rfl]
    simp only [Nat.zero_add]
    rw [← Array.getElem?_toList, toList_madeCells_one, List.getElem?_replicate, if_pos hi]
  z i _ := World.frozen?_alloc_at _ _ _ _ rfl
section
variable {w : World} {b o n : Nat} {f : Nat → Int}
theorem run_clear32x (h : Reg w b o n f) (hn : 0 < n) (c : Nat) (ty : TypeId) : (Builtin.clear_ #[44] ty #[.slice (some ⟨b, o, none⟩) n c]).run Tryz.prog w = .ok (.tuple #[]) (w.setCells b o (List.replicate n (.int .i32 0))) :=
  Lib.run_clear_slice w 44 21 ty (.int .i32 0) Tryz.underlying44 zero32 rfl rfl b o n c hn (fun j hj => by rw [h.c j hj]; rfl) h.z
theorem reg_clear (h : Reg w b o n f) : Reg (w.setCells b o (List.replicate n (.int .i32 0))) b o n (fun _ => 0) where
  c i hi := by
    have := World.cell?_setCells_in b (List.replicate n (.int .i32 0)) o w (fun j hj => by rw [h.c j (by simpa using hj)]; rfl) i (by simpa using hi)
    simpa using this
  z i hi := by rw [World.frozen?_setCells]; exact h.z i hi
theorem chg_clear (w : World) (b o n : Nat) : Chg (inR b o n) w (w.setCells b o (List.replicate n (.int .i32 0))) := Chg.setCells b _ o w (fun j hj => inR_at (by simpa using hj))
theorem Reg.drewN (h : Reg w b o n f) (k : Nat) : Reg (w.drewN k) b o n f := ⟨h.c, h.z⟩
theorem Reg.sub (h : Reg w b o n f) {i k : Nat} (hk : i + k ≤ n) : Reg w b (o + i) k (fun j => f (i + j)) :=
  ⟨fun j hj => by rw [Nat.add_assoc]; exact h.c _ (by omega), fun j hj => by rw [Nat.add_assoc]; exact h.z _ (by omega)⟩
end

theorem Chg.trans' {S S' U : Nat → Nat → Prop} {w w1 w2 : World} (h : Chg S w w1) (k : Chg S' w1 w2) (h1 : ∀ b o, b < w.heap.size → S b o → U b o) (h2 : ∀ b o, b < w.heap.size → S' b o → U b o) : Chg U w w2 :=
  ⟨k.os.trans h.os, k.tape.trans h.tape, k.output.trans h.output, Nat.le_trans h.size k.size,
   fun b o hb hn => (k.cell b o (Nat.lt_of_lt_of_le hb h.size) fun hs => hn (h2 b o hb hs)).trans (h.cell b o hb fun hs => hn (h1 b o hb hs)),
   fun b o hb => (k.frz b o (Nat.lt_of_lt_of_le hb h.size)).trans (h.frz b o hb),
   fun b hb hn => (k.blk b (Nat.lt_of_lt_of_le hb h.size) fun o hs => hn o (h2 b o hb hs)).trans (h.blk b hb fun o hs => hn o (h1 b o hb hs))⟩
/-- the head of a stretch is known anew, the rest was kept -/
theorem Reg.head {V : Nat → Nat → Prop} {w w2 : World} {b o n m : Nat} {f g : Nat → Int} (h : Reg w b o n f) (hV : Chg V w w2) (hg : Reg w2 b o m g) (hk : ∀ i, m ≤ i → i < n → ¬ V b (o + i)) : Reg w2 b o n (fun i => if i < m then g i else f i) where
  c i hi := by
    by_cases c : i < m
    · simp only [c, if_true]; exact hg.c i c
    · simp only [c, if_false]
      rw [hV.cell _ _ (cell_lt (h.c i hi)) (hk i (by omega) hi)]; exact h.c i hi
  z i hi := by rw [hV.frz _ _ (cell_lt (h.c i hi))]; exact h.z i hi
/-- the head and a middle part are known anew -/
theorem Reg.head2 {V : Nat → Nat → Prop} {w w2 : World} {b o n m k : Nat} {f g e : Nat → Int} (h : Reg w b o n f) (hV : Chg V w w2) (hg : Reg w2 b o m g) (he : Reg w2 b (o + m) k e) (hk : ∀ i, m + k ≤ i → i < n → ¬ V b (o + i)) :
    Reg w2 b o n (fun i => if i < m then g i else if i < m + k then e (i - m) else f i) where
  c i hi := by
    by_cases c : i < m
    · simp only [c, if_true]; exact hg.c i c
    · by_cases c' : i < m + k
      · simp only [c, if_false, c', if_true]
        have := he.c (i - m) (by omega)
        rwa [show o + m + (i - m) = o + i by omega] at this
      · simp only [c, if_false, c']
        rw [hV.cell _ _ (cell_lt (h.c i hi)) (hk i (by omega) hi)]; exact h.c i hi
  z i hi := by rw [hV.frz _ _ (cell_lt (h.c i hi))]; exact h.z i hi

/-- WHAT sais_32 DOES, for texts of at most N numbers -/
def Sais32 (N : Nat) : Prop :=
  ∀ (bt ot ct n bs os cs bm om cm M K : Nat) (T : Nat → Nat) (G : Nat → Int) (w : World), n ≤ N → 2 ≤ n → n < 1073741824 → 0 < K → K < 1073741824 → K ≤ M → M ≤ cm → M < 1073741824 → n ≤ ct → n ≤ cs →
    Apart bt ot n bs os n → Apart bt ot n bm om M → Apart bs os n bm om M → (∀ i, i < n → w.cell? ⟨bt, ot + i, none⟩ = some (.int .i32 (T i : Nat))) → (∀ i, i < n → T i < K) → Reg w bs os n (fun _ => 0) → Reg w bm om M G →
    Calls Tryz.prog 94 #[.slice (some ⟨bt, ot, none⟩) n ct, .int .i64 (K : Int), .slice (some ⟨bs, os, none⟩) n cs, .slice (some ⟨bm, om, none⟩) M cm] w fun e w' =>
      e = .returned (.tuple #[]) ∧ ∃ (d : Nat → Nat) (G' : Nat → Int), Reg w' bs os n (fun i => (d i : Nat)) ∧ IsSA T n d ∧ Reg w' bm om M G' ∧ G' 0 < 0 ∧ Chg (saS bs os n bm om M) w w'

section
variable {N bs os n cs bm om M m K : Nat} {A G : Nat → Int} {w : World} {R : Nat → Nat}
theorem allocClr (hs : Reg w bs os n A) (hm : 2 ≤ m) (hmn : m ≤ n) (cs : Nat) (ob : Obj) (nq : Nat) (ty : TypeId) :
    (Builtin.clear_ #[44] ty #[.slice (some ⟨bs, os, none⟩) m cs]).run Tryz.prog ((w.drewN nq).alloc ob) = .ok (.tuple #[]) (((w.drewN nq).alloc ob).setCells bs os (List.replicate m (.int .i32 0))) := by
  have h1 : Reg (w.alloc ob) bs os n A := hs.keep (chg_alloc (fun _ _ => False) w ob) (fun _ _ h => h)
  exact run_clear32x (w := (w.alloc ob).drewN nq) (n := m) (f := A) ⟨fun i hi => h1.c i (by omega), fun i hi => h1.z i (by omega)⟩ (by omega) cs ty
/-- with a scratch slice of its own -/
theorem allocIH (hs : Reg w bs os n A) (ht : Reg w bm om M G) (hR : ∀ r, r < m → A (n - m + r) = (R r : Nat)) (hRK : ∀ r, r < m → R r < K) (hap : Apart bs os n bm om M) (ih : Sais32 N) (hmN : m ≤ N) (hm : 2 ≤ m) (hmn : 2 * m + 1 ≤ n)
    (hn : n < 1073741824) (hK0 : 0 < K) (hK : K ≤ m) (hcs : n ≤ cs) (k : Nat) (hkK : K ≤ k) (hks : k < 1073741824) (nq : Nat) {ob : Obj} (hob : Obj.cells (madeCells #[.int .i32 0] k) 21 = ob) :
    Calls Tryz.prog 94 #[.slice (some ⟨bs, os + (n - m), none⟩) m (cs - (n - m)), .int .i64 (K : Int), .slice (some ⟨bs, os, none⟩) m cs, .slice (some ⟨w.heap.size, 0, none⟩) k k] (((w.drewN nq).alloc ob).setCells bs os (List.replicate m (.int .i32 0))) fun e w2 =>
      e = .returned (.tuple #[]) ∧ ∃ (d : Nat → Nat) (A' G' : Nat → Int), Reg w2 bs os n A' ∧ (∀ t, t < m → A' t = (d t : Nat)) ∧ IsSA R m d ∧ Reg w2 bm om M G' ∧ (G' 0 < 0 ∨ ∀ i, i < M → G' i = G i) ∧ Chg (saS bs os n bm om M) w w2 := by
  show Calls _ _ _ (((w.alloc ob).drewN nq).setCells bs os (List.replicate m (.int .i32 0))) _
  have hbs : bs < w.heap.size := hs.lt (by omega)
  have hsA : Reg (w.alloc ob) bs os n A := hs.keep (chg_alloc (fun _ _ => False) w ob) (fun _ _ h => h)
  have hW : Chg (inR bs os m) w (((w.alloc ob).drewN nq).setCells bs os (List.replicate m (.int .i32 0))) := ((chg_alloc _ w ob).drewN nq).trans (chg_clear _ _ _ _)
  have hD : Reg (((w.alloc ob).drewN nq).setCells bs os (List.replicate m (.int .i32 0))) bs os m (fun _ => 0) := reg_clear (w := (w.alloc ob).drewN nq) (f := A) ⟨fun i hi => hsA.c i (by omega), fun i hi => hsA.z i (by omega)⟩
  have hM : Reg (((w.alloc ob).drewN nq).setCells bs os (List.replicate m (.int .i32 0))) w.heap.size 0 k (fun _ => 0) := by
    have h1 := reg_made w k
    rw [hob] at h1
    exact (h1.drewN nq).keep (chg_clear _ _ _ _) (fun i hi h => by have := h.1; omega)
  refine (ih bs (os + (n - m)) (cs - (n - m)) m bs os cs w.heap.size 0 k k K R (fun _ => 0) _ hmN hm (by omega) hK0 (by omega) (by omega) (by omega) hks (by omega) (by omega) (.inr (.inr (by omega))) (.inl (by omega)) (.inl (by omega)) (fun i hi => ?_) hRK hD hM).mono ?_
  · have h1 := hs.c (n - m + i) (by omega)
    rw [hR i hi, ← Nat.add_assoc] at h1
    rw [hW.cell _ _ hbs (fun h => by have := h.2.2; omega)]
    exact h1
  · rintro e w2 ⟨rfl, d, G2, r1, r2, r3, r4, r5⟩
    have hV : Chg (inR bs os m) w w2 := hW.trans' r5 (fun b o _ h => h) (fun b o hb h => by
      rcases h with h | h
      · exact h
      · have := h.1; omega)
    refine ⟨rfl, d, _, G, hs.head hV r1 (fun i h1 h2 h => by have := h.2.2; omega), fun t ht => by simp [ht], r2, ht.keep hV (fun i hi h => ?_), .inr fun i _ => rfl, hV.mono fun b o _ h => .inl ⟨h.1, h.2.1, by have := h.2.2; omega⟩⟩
    exact hap.symm.out hi ⟨h.1, h.2.1, by have := h.2.2; omega⟩
end

set_option maxHeartbeats 2000000 in
set_option maxRecDepth 100000 in
theorem recurse32 (N : Nat) (ih : Sais32 N) (bs os n cs bm om cm M m K : Nat) (A G : Nat → Int) (w : World) (hmN : m ≤ N) (hm : 2 ≤ m) (hmn : 2 * m + 1 ≤ n) (hn : n < 1073741824) (hK0 : 0 < K) (hK : K ≤ m) (hM0 : 0 < M) (hM : M ≤ cm) (hMs : M < 1073741824) (hcs : n ≤ cs)
    (hap : Apart bs os n bm om M) (hs : Reg w bs os n A) (ht : Reg w bm om M G) (R : Nat → Nat) (hR : ∀ r, r < m → A (n - m + r) = (R r : Nat)) (hRK : ∀ r, r < m → R r < K) :
    Calls Tryz.prog 76 #[.slice (some ⟨bs, os, none⟩) n cs, .slice (some ⟨bm, om, none⟩) M cm, .int .i64 (m : Int), .int .i64 (K : Int)] w fun e w' =>
      e = .returned (.tuple #[]) ∧ ∃ (d : Nat → Nat) (A' G' : Nat → Int), Reg w' bs os n A' ∧ (∀ t, t < m → A' t = (d t : Nat)) ∧ IsSA R m d ∧ Reg w' bm om M G' ∧ (G' 0 < 0 ∨ ∀ i, i < M → G' i = G i) ∧ Chg (saS bs os n bm om M) w w' := by
  have e1 : n - (n - m) = m := by omega
  have e2 : ((n : Int) - (m : Int)).toNat = n - m := by omega
  have e3 : ¬ cs = n - m := by omega
  have e4 : ¬ cs = m := by omega
  have e5 : (m : Int) ≤ (n : Int) - (m : Int) := by omega
  have e6 : (n : Int) - (m : Int) ≤ (cs : Int) := by omega
  have e7 : (m : Int) ≤ (cs : Int) := by omega
  have e8 : (0 : Int) ≤ (n : Int) - (m : Int) := by omega
  have e9 : m ≤ cs := by omega
  have e10 : n - m ≤ cs := by omega
  have e11 : m ≤ n - m := by omega
  have hclr : ∀ nq ty, (Builtin.clear_ #[44] ty #[.slice (some ⟨bs, os, none⟩) m cs]).run Tryz.prog (w.drewN nq) = .ok (.tuple #[]) ((w.drewN nq).setCells bs os (List.replicate m (.int .i32 0))) :=
    fun nq ty => run_clear32x (w := w.drewN nq) (f := A) ⟨fun i hi => hs.c i (by omega), fun i hi => hs.z i (by omega)⟩ (by omega) cs ty
  have HS := Lib.hid hs
  have HT := Lib.hid ht
  have HR := Lib.hid hR
  have HRK := Lib.hid hRK
  have HAP := Lib.hid hap
  have IH := Lib.hid ih
  clear hs ht hR hRK hap ih
  have HC0 : ∀ nq, Chg (inR bs os m) w ((w.drewN nq).setCells bs os (List.replicate m (.int .i32 0))) := fun nq => ((Chg.refl _ w).drewN nq).trans (chg_clear _ _ _ _)
  have HD0 : ∀ nq, Reg ((w.drewN nq).setCells bs os (List.replicate m (.int .i32 0))) bs os m (fun _ => 0) := fun nq => reg_clear (w := w.drewN nq) (f := A) ⟨fun i hi => HS.out.c i (by omega), fun i hi => HS.out.z i (by omega)⟩
  have HC := Lib.hid HC0
  have HD := Lib.hid HD0
  clear HC0 HD0
  -- the text of the smaller problem lies untouched
  have htx : ∀ (V : Nat → Nat → Prop) (W : World), Chg V w W → (∀ i, i < m → ¬ V bs (os + (n - m) + i)) → ∀ i, i < m → W.cell? ⟨bs, os + (n - m) + i, none⟩ = some (.int .i32 (R i : Nat)) := by
    intro V W hV hno i hi
    have h1 := HS.out.c (n - m + i) (by omega)
    rw [HR.out i hi, ← Nat.add_assoc] at h1
    rw [hV.cell _ _ (cell_lt h1) (hno i hi)]
    exact h1
  have HTX := Lib.hid htx
  clear htx
  have notD : ∀ i, m ≤ i → ¬ inR bs os m bs (os + i) := fun i hi h => by have := h.2.2; omega
  have notM : ∀ i, i < n → ¬ inR bm om M bs (os + i) := fun i hi => HAP.out.out hi
  have ND := Lib.hid notD
  have NM := Lib.hid notM
  clear notD notM
  by_cases hc1 : M < n - m - m
  · by_cases hc3 : n - m - m < m
    · have hc2 : M < m := by omega
      obtain ⟨ob, hob⟩ : ∃ ob : Nat → Obj, ∀ k, Obj.cells (madeCells #[.int .i32 0] k) 21 = ob k := ⟨_, fun _ => rfl⟩
      have d1 : M < n - m - m := by omega
      by_cases hkk : K < m / 2
      · have hki : (K : Int) < (m : Int) / 2 := by omega
        have hmk : ∀ W, (Instr.makeSlice 44 (.int .i64 ((m : Int) / 2)) (.int .i64 ((m : Int) / 2))).run Tryz.prog W = .ok (.slice (some ⟨W.heap.size, 0, none⟩) (m / 2) (m / 2)) (W.alloc (ob (m / 2))) := fun W => by
          have h := run_make32 (m / 2) (by omega) W
          rw [hob, show ((m / 2 : Nat) : Int) = (m : Int) / 2 by omega] at h
          exact h
        have hclr2 := fun nq ty => allocClr HS.out hm (by omega) cs (ob (m / 2)) nq ty
        have HA := Lib.hid (fun nq => allocIH HS.out HT.out HR.out HRK.out HAP.out IH.out hmN hm hmn hn hK0 hK hcs (m / 2) (by omega) (by omega) nq (hob (m / 2)))
        clear hclr
        go_enter Tryz.func76, Tryz.ntmps76
        go_wp2
        go_quiet (fail)
        go_wp2_with fail
        refine (HA.out nq).mono ?_
        rintro e w2 ⟨rfl, hf⟩
        have HF := Lib.hid hf
        clear hf hclr2
        go_wp2
        go_end0
        exact ⟨rfl, HF.out⟩
      · have hki : ¬ (K : Int) < (m : Int) / 2 := by omega
        have hmk : ∀ W, (Instr.makeSlice 44 (.int .i64 (K : Int)) (.int .i64 (K : Int))).run Tryz.prog W = .ok (.slice (some ⟨W.heap.size, 0, none⟩) K K) (W.alloc (ob K)) := fun W => by
          have h := run_make32 K (by omega) W
          rw [hob] at h
          exact h
        have hclr2 := fun nq ty => allocClr HS.out hm (by omega) cs (ob K) nq ty
        have HA := Lib.hid (fun nq => allocIH HS.out HT.out HR.out HRK.out HAP.out IH.out hmN hm hmn hn hK0 hK hcs K (by omega) (by omega) nq (hob K))
        clear hclr
        go_enter Tryz.func76, Tryz.ntmps76
        go_wp2
        go_quiet (fail)
        go_wp2_with fail
        refine (HA.out nq).mono ?_
        rintro e w2 ⟨rfl, hf⟩
        have HF := Lib.hid hf
        clear hf hclr2
        go_wp2
        go_end0
        exact ⟨rfl, HF.out⟩
    · have d1 : M < n - m - m := by omega
      go_enter Tryz.func76, Tryz.ntmps76
      go_wp2
      go_quiet (fail)
      go_wp2_with fail
      refine (IH.out bs (os + (n - m)) (cs - (n - m)) m bs os cs bs (os + m) (cs - m) (n - m - m) K R (fun i => A (m + i)) _ hmN hm (by omega) hK0 (by omega) (by omega) (by omega) (by omega) (by omega) (by omega) ?_ ?_ ?_ ?_ HRK.out (HD.out nq) ?_).mono ?_
      · exact .inr (.inr (by omega))
      · exact .inr (.inr (by omega))
      · exact .inr (.inl (by omega))
      · exact HTX.out _ _ (HC.out nq) (fun i hi h => by have := h.2.2; omega)
      · exact (HS.out.sub (i := m) (k := n - m - m) (by omega)).keep (HC.out nq) (fun i hi h => by have := h.2.2; omega)
      · rintro e w2 ⟨rfl, d, G2, r1, r2, r3, r4, r5⟩
        clear hclr
        have hV : Chg (fun b o => inR bs os m b o ∨ inR bs (os + m) (n - m - m) b o) w w2 := (HC.out nq).trans' r5 (fun b o _ h => .inl h) (fun b o _ h => h)
        have HF : Hid (∃ (d : Nat → Nat) (A' G' : Nat → Int), Reg w2 bs os n A' ∧ (∀ t, t < m → A' t = (d t : Nat)) ∧ IsSA R m d ∧ Reg w2 bm om M G' ∧ (G' 0 < 0 ∨ ∀ i, i < M → G' i = G i) ∧ Chg (saS bs os n bm om M) w w2) := by
          refine ⟨d, _, G, HS.out.head2 hV r1 r3 (fun i h1 h2 => ?_), fun t ht => by simp [ht], r2, HT.out.keep hV (fun i hi => ?_), .inr fun i _ => rfl, hV.mono fun b o _ h => .inl ?_⟩
          · rintro (h | h)
            · have := h.2.2; omega
            · have := h.2.2; omega
          · rintro (⟨h1, h2, h3⟩ | ⟨h1, h2, h3⟩)
            · exact HAP.out.symm.out hi ⟨h1, by omega, by omega⟩
            · exact HAP.out.symm.out hi ⟨h1, by omega, by omega⟩
          · rcases h with ⟨h1, h2, h3⟩ | ⟨h1, h2, h3⟩
            · exact ⟨h1, by omega, by omega⟩
            · exact ⟨h1, by omega, by omega⟩
        clear r1 r2 r3 r4 r5 hV
        go_wp2
        go_end0
        exact ⟨rfl, HF.out⟩
  · by_cases hc2 : M < m
    · have hc3 : n - m - m < m := by omega
      obtain ⟨ob, hob⟩ : ∃ ob : Nat → Obj, ∀ k, Obj.cells (madeCells #[.int .i32 0] k) 21 = ob k := ⟨_, fun _ => rfl⟩
      have d1 : ¬ M < n - m - m := by omega
      by_cases hkk : K < m / 2
      · have hki : (K : Int) < (m : Int) / 2 := by omega
        have hmk : ∀ W, (Instr.makeSlice 44 (.int .i64 ((m : Int) / 2)) (.int .i64 ((m : Int) / 2))).run Tryz.prog W = .ok (.slice (some ⟨W.heap.size, 0, none⟩) (m / 2) (m / 2)) (W.alloc (ob (m / 2))) := fun W => by
          have h := run_make32 (m / 2) (by omega) W
          rw [hob, show ((m / 2 : Nat) : Int) = (m : Int) / 2 by omega] at h
          exact h
        have hclr2 := fun nq ty => allocClr HS.out hm (by omega) cs (ob (m / 2)) nq ty
        have HA := Lib.hid (fun nq => allocIH HS.out HT.out HR.out HRK.out HAP.out IH.out hmN hm hmn hn hK0 hK hcs (m / 2) (by omega) (by omega) nq (hob (m / 2)))
        clear hclr
        go_enter Tryz.func76, Tryz.ntmps76
        go_wp2
        go_quiet (fail)
        go_wp2_with fail
        refine (HA.out nq).mono ?_
        rintro e w2 ⟨rfl, hf⟩
        have HF := Lib.hid hf
        clear hf hclr2
        go_wp2
        go_end0
        exact ⟨rfl, HF.out⟩
      · have hki : ¬ (K : Int) < (m : Int) / 2 := by omega
        have hmk : ∀ W, (Instr.makeSlice 44 (.int .i64 (K : Int)) (.int .i64 (K : Int))).run Tryz.prog W = .ok (.slice (some ⟨W.heap.size, 0, none⟩) K K) (W.alloc (ob K)) := fun W => by
          have h := run_make32 K (by omega) W
          rw [hob] at h
          exact h
        have hclr2 := fun nq ty => allocClr HS.out hm (by omega) cs (ob K) nq ty
        have HA := Lib.hid (fun nq => allocIH HS.out HT.out HR.out HRK.out HAP.out IH.out hmN hm hmn hn hK0 hK hcs K (by omega) (by omega) nq (hob K))
        clear hclr
        go_enter Tryz.func76, Tryz.ntmps76
        go_wp2
        go_quiet (fail)
        go_wp2_with fail
        refine (HA.out nq).mono ?_
        rintro e w2 ⟨rfl, hf⟩
        have HF := Lib.hid hf
        clear hf hclr2
        go_wp2
        go_end0
        exact ⟨rfl, HF.out⟩
    · have d1 : ¬ M < n - m - m := hc1
      go_enter Tryz.func76, Tryz.ntmps76
      go_wp2
      go_quiet (fail)
      go_wp2_with fail
      refine (IH.out bs (os + (n - m)) (cs - (n - m)) m bs os cs bm om cm M K R G _ hmN hm (by omega) hK0 (by omega) (by omega) hM hMs (by omega) (by omega) ?_ ?_ ?_ ?_ HRK.out (HD.out nq) ?_).mono ?_
      · exact .inr (.inr (by omega))
      · have := HAP.out.sub (i := n - m) (k := m) (i' := 0) (k' := M) (by omega) (by omega); exact this
      · have := HAP.out.sub (i := 0) (k := m) (i' := 0) (k' := M) (by omega) (by omega); exact this
      · exact HTX.out _ _ (HC.out nq) (fun i hi h => by have := h.2.2; omega)
      · exact HT.out.keep (HC.out nq) (fun i hi h => HAP.out.symm.out hi ⟨h.1, h.2.1, by have := h.2.2; omega⟩)
      · rintro e w2 ⟨rfl, d, G2, r1, r2, r3, r4, r5⟩
        clear hclr
        have hV : Chg (fun b o => inR bs os m b o ∨ inR bm om M b o) w w2 := (HC.out nq).trans' r5 (fun b o _ h => .inl h) (fun b o _ h => h)
        have HF : Hid (∃ (d : Nat → Nat) (A' G' : Nat → Int), Reg w2 bs os n A' ∧ (∀ t, t < m → A' t = (d t : Nat)) ∧ IsSA R m d ∧ Reg w2 bm om M G' ∧ (G' 0 < 0 ∨ ∀ i, i < M → G' i = G i) ∧ Chg (saS bs os n bm om M) w w2) := by
          refine ⟨d, _, G2, HS.out.head hV r1 (fun i h1 h2 => ?_), fun t ht => by simp [ht], r2, r3, .inl r4, hV.mono fun b o _ h => ?_⟩
          · rintro (h | h)
            · exact ND.out i h1 h
            · exact NM.out i h2 h
          · rcases h with ⟨h1, h2, h3⟩ | h
            · exact .inl ⟨h1, by omega, by omega⟩
            · exact .inr h
        clear r1 r2 r3 r4 r5 hV
        go_wp2
        go_end0
        exact ⟨rfl, HF.out⟩
end Go.Proofs.YtpkgkppehefibaaGreatDoor

/- The state between the calls of sais. -/
namespace Go.Proofs.YtpkgkppehefibaaGreatDoor
open Go.RowKit Sa

def SS (L : Lay) (kt : IntKind) (bm om M : Nat) (w0 w : World) (T : Nat → Nat) (A : Nat → Int) : Prop :=
  ∃ B F G, L.St kt w T A B F ∧ FreqOK L T F ∧ Chg (saS L.bs L.os L.n bm om M) w0 w ∧ Reg w bm om M G ∧ ∀ i, i < L.lf → F i = G i
section
variable {L : Lay} {kt : IntKind} {bm om M : Nat} {w0 w w' : World} {T : Nat → Nat} {A A' B' F' : Nat → Int}
theorem SS.step (h : SS L kt bm om M w0 w T A) (on : OnTmp L bm om M) (hap : Apart L.bs L.os L.n bm om M) (hR : L.Run kt w w' T A' B' F') (hF : FreqOK L T F') : SS L kt bm om M w0 w' T A' := by
  obtain ⟨B, F, G, h1, h2, h3, h4, h5⟩ := h
  obtain ⟨G', g1, _, g3⟩ := on.reg h4 hR hap
  exact ⟨B', F', G', hR.st, hF, h3.trans (hR.ch.mono fun b o _ hh => on.hit b o hh), g1, g3⟩
/-- behind the smaller problem -/
theorem SS.rec_ (h : SS L kt bm om M w0 w T A) (on : OnTmp L bm om M) (ok : L.Ok) (htm : Apart L.bt L.ot L.n bm om M) {G G' : Nat → Int} (hG : Reg w bm om M G) (hs : Reg w' L.bs L.os L.n A') (hG' : Reg w' bm om M G') (hc : G' 0 < 0 ∨ ∀ i, i < M → G' i = G i) (hch : Chg (saS L.bs L.os L.n bm om M) w w') :
    SS L kt bm om M w0 w' T A' := by
  obtain ⟨B, F, G1, h1, h2, h3, h4, h5⟩ := h
  have e5 := on.f1
  have e6 := on.f2
  refine ⟨_, _, G', on.back h1 hch (fun i hi => saS_text ok.ts htm hi) hs hG', ?_, h3.trans hch, hG', fun i _ => rfl⟩
  rcases hc with hc | hc
  · exact .inr (.inl hc)
  · rcases h2 with h2 | h2 | h2
    · exact .inl h2
    · by_cases hl : L.lf = 0
      · exact .inl hl
      · refine .inr (.inl ?_)
        have a1 := h4.c 0 (by omega)
        have a2 := hG.c 0 (by omega)
        rw [a1] at a2
        have : G1 0 = G 0 := by injection a2 with a2; injection a2
        show G' 0 < 0
        rw [hc 0 (by omega), ← this, ← h5 0 (by omega)]
        exact h2
    · rcases ok.lf with hl | hl
      · exact .inl hl
      · refine .inr (.inr fun c hcK => ?_)
        have a1 := h4.c c (by omega)
        have a2 := hG.c c (by omega)
        rw [a1] at a2
        have : G1 c = G c := by injection a2 with a2; injection a2
        show G' c = _
        rw [hc c (by omega), ← this, ← h5 c (by omega)]
        exact h2 c hcK
/-- the end: the mark is set -/
theorem SS.fin (h : SS L kt bm om M w0 w T A) (hap : Apart L.bs L.os L.n bm om M) (hM : 0 < M) (hA : ∀ p, p < L.n → A p = ((A p).toNat : Int)) (hS : IsSA T L.n (fun p => (A p).toNat)) :
    ∃ (d : Nat → Nat) (G' : Nat → Int), Reg (w.setCell ⟨bm, om, none⟩ (.int .i32 (-1))) L.bs L.os L.n (fun i => (d i : Nat)) ∧ IsSA T L.n d ∧ Reg (w.setCell ⟨bm, om, none⟩ (.int .i32 (-1))) bm om M G' ∧ G' 0 < 0 ∧ Chg (saS L.bs L.os L.n bm om M) w0 (w.setCell ⟨bm, om, none⟩ (.int .i32 (-1))) := by
  obtain ⟨B, F, G, h1, h2, h3, h4, h5⟩ := h
  have hch : Chg (inR bm om M) w (w.setCell ⟨bm, om, none⟩ (.int .i32 (-1))) := (Chg.refl _ w).setCell (fun _ => ⟨rfl, Nat.le_refl _, by omega⟩) _
  refine ⟨fun p => (A p).toNat, upd G 0 (-1), (h1.regS.congr hA).keep hch (fun i hi => hap.out hi), hS, h4.set (i := 0) hM (-1), by rw [upd_same]; omega, h3.trans (hch.mono fun b o _ hh => .inr hh)⟩
/-- copy of the sorted list to the front -/
theorem SS.copy (h : SS L kt bm om M w0 w T A) (ok : L.Ok) (hap : Apart L.bs L.os L.n bm om M) {m : Nat} (hm : 2 * m ≤ L.n) :
    SS L kt bm om M w0 (w.setCells L.bs L.os ((List.range m).map fun i => (.int .i32 (A (L.n - m + i)) : Value))) T (fun i => if i < m then A (L.n - m + i) else A i) := by
  obtain ⟨B, F, G, h1, h2, h3, h4, h5⟩ := h
  have hch : Chg (inR L.bs L.os m) w (w.setCells L.bs L.os ((List.range m).map fun i => (.int .i32 (A (L.n - m + i)) : Value))) := Chg.setCells _ _ _ _ (fun j hj => inR_at (by simpa using hj))
  have hg : Reg (w.setCells L.bs L.os ((List.range m).map fun i => (.int .i32 (A (L.n - m + i)) : Value))) L.bs L.os m (fun i => A (L.n - m + i)) := by
    refine ⟨fun i hi => ?_, fun i hi => ?_⟩
    · have := World.cell?_setCells_in L.bs ((List.range m).map fun i => (.int .i32 (A (L.n - m + i)) : Value)) L.os w (fun j hj => by rw [h1.s j (by simp at hj; omega)]; rfl) i (by simpa using hi)
      simpa using this
    · rw [World.frozen?_setCells]; exact h1.s' i (by omega)
  have hs := h1.regS.head hch hg (fun i h1 h2 h => by have := h.2.2; omega)
  have hsub : ∀ b o, inR L.bs L.os m b o → inR L.bs L.os L.n b o := fun b o h => ⟨h.1, h.2.1, by have := h.2.2; omega⟩
  have hG := h4.keep hch (fun i hi h => hap.symm.out hi (hsub _ _ h))
  refine ⟨B, F, G, ⟨fun i hi => ?_, hs.c, hs.z, fun i hi => ?_, fun i hi => ?_, fun i hi => ?_, fun i hi => ?_, h1.bs.imp id fun x => Nat.lt_of_lt_of_le x hch.size, Nat.lt_of_lt_of_le h1.bb hch.size, h1.bf.imp id fun x => Nat.lt_of_lt_of_le x hch.size⟩, h2, h3.trans (hch.mono fun b o _ hh => .inl (hsub b o hh)), hG, h5⟩
  · rw [hch.cell _ _ (cell_lt (h1.t i hi)) (fun h => ok.ts.out hi (hsub _ _ h))]; exact h1.t i hi
  · rw [hch.cell _ _ (cell_lt (h1.b i hi)) (fun h => ok.sb.symm.out hi (hsub _ _ h))]; exact h1.b i hi
  · rw [hch.frz _ _ (cell_lt (h1.b i hi))]; exact h1.b' i hi
  · rw [hch.cell _ _ (cell_lt (h1.f i hi)) (fun h => ok.sf.symm.out hi (hsub _ _ h))]; exact h1.f i hi
  · rw [hch.frz _ _ (cell_lt (h1.f i hi))]; exact h1.f' i hi
/-- the built-in copy: its run -/
theorem run_copy32 (h : L.St kt w T A B' F') {m : Nat} (hm : m ≤ L.n) (ty : TypeId) (c1 c2 : Nat) :
    (Builtin.copy_ #[44, 44] ty #[.slice (some ⟨L.bs, L.os, none⟩) L.n c1, .slice (some ⟨L.bs, L.os + (L.n - m), none⟩) m c2]).run Tryz.prog w = .ok (goInt m) (w.setCells L.bs L.os ((List.range m).map fun i => (.int .i32 (A (L.n - m + i)) : Value))) := by
  have hl : ((List.range m).map fun i => (.int .i32 (A (L.n - m + i)) : Value)).length = m := by simp
  have hr := run_copy_cells (P := Tryz.prog) w 44 44 ty 21 L.bs L.os L.n c1 ⟨L.bs, L.os + (L.n - m), none⟩ m c2 ((List.range m).map fun i => (.int .i32 (A (L.n - m + i)) : Value)) Tryz.underlying44 (by kernel_rfl) (by rw [hl]; exact (Nat.min_eq_left hm).symm)
    (fun j v hv => by
      simp only [List.getElem?_map] at hv
      have hj : j < m := by
        rcases Nat.lt_or_ge j m with c | c
        · exact c
        · rw [List.getElem?_eq_none (by simpa using c)] at hv; cases hv
      rw [List.getElem?_range hj] at hv
      have hv' : v = .int .i32 (A (L.n - m + j)) := (Option.some.inj hv).symm
      rw [hv']
      have ha : (⟨L.bs, L.os + (L.n - m), none⟩ : Addr).add j = ⟨L.bs, L.os + (L.n - m) + j, none⟩ := by unfold Addr.add; split <;> simp_all
      rw [ha, Nat.add_assoc]
      exact h.s _ (by omega))
    (fun j hj => by rw [h.s j (by rw [hl] at hj; omega)]; rfl) (fun j hj => h.s' j (by rw [hl] at hj; omega)) (fun v hv => by
      obtain ⟨i, _, rfl⟩ := List.mem_map.1 hv
      rfl)
  rw [hl] at hr
  exact hr
end
end Go.Proofs.YtpkgkppehefibaaGreatDoor

/- The walk of sais_8_32. -/
namespace Go.Proofs.YtpkgkppehefibaaGreatDoor
open Go.RowKit Sa

set_option maxHeartbeats 4000000 in
set_option maxRecDepth 100000 in
theorem sais8_two (N : Nat) (ih : Sais32 N) (bt ot ct n bs os cs bm om cm M : Nat) (T : Nat → Nat) (G : Nat → Int) (w : World) (hnN : n ≤ 2 * N + 1) (hn : 2 ≤ n) (hns : n < 1073741824) (hKM : 2 * 256 ≤ M) (hMc : M ≤ cm) (hMs : M < 1073741824) (hct : n ≤ ct) (hcs : n ≤ cs)
    (hts : Apart bt ot n bs os n) (htm : Apart bt ot n bm om M) (hsm : Apart bs os n bm om M) (ht : ∀ i, i < n → w.cell? ⟨bt, ot + i, none⟩ = some (.int .u8 (T i : Nat))) (hT : ∀ i, i < n → T i < 256) (hs : Reg w bs os n (fun _ => 0)) (hg : Reg w bm om M G) :
    Calls Tryz.prog 59 #[.slice (some ⟨bt, ot, none⟩) n ct, .int .i64 (256 : Int), .slice (some ⟨bs, os, none⟩) n cs, .slice (some ⟨bm, om, none⟩) M cm] w fun e w' =>
      e = .returned (.tuple #[]) ∧ ∃ (d : Nat → Nat) (G' : Nat → Int), Reg w' bs os n (fun i => (d i : Nat)) ∧ IsSA T n d ∧ Reg w' bm om M G' ∧ G' 0 < 0 ∧ Chg (saS bs os n bm om M) w w' := by
  obtain ⟨T', hT'⟩ : ∃ T' : Nat → Nat, T' = fun i => if i < n then T i else 0 := ⟨_, rfl⟩
  have hTT : ∀ i, i < n → T' i = T i := fun i hi => by rw [hT']; simp [hi]
  have h0 : T' n = 0 := by rw [hT']; simp
  have hTK : ∀ i, i < n → T' i < 256 := fun i hi => by rw [hTT i hi]; exact hT i hi
  have hM0 : 0 < M := by omega
  have ok := lay2_ok (ct := ct) (cs := cs) (cm := cm) (K := 256) hts htm hsm hns (by omega) hKM hMc (by omega) hct hcs
  have on := onTmp2 (bt := bt) (ot := ot) (ct := ct) (n := n) (bs := bs) (os := os) (cs := cs) (bm := bm) (om := om) (cm := cm) hKM
  have hv : (lay2 bt ot ct n bs os cs bm om cm 256).fv (.slice (some ⟨bm, om, none⟩) 256 cm) := .inr ⟨rfl, rfl⟩
  have HS0 : ∀ nq, SS (lay2 bt ot ct n bs os cs bm om cm 256) .u8 bm om M w ((w.drewN nq).setCell ⟨bm, om, none⟩ (.int .i32 (-1))) T' (fun _ => 0) := by
    intro nq
    have hc : Chg (inR bm om M) w ((w.drewN nq).setCell ⟨bm, om, none⟩ (.int .i32 (-1))) := ((Chg.refl _ w).drewN nq).setCell (fun _ => ⟨rfl, Nat.le_refl _, by omega⟩) _
    have hg' : Reg ((w.drewN nq).setCell ⟨bm, om, none⟩ (.int .i32 (-1))) bm om M (upd G 0 (-1)) := (hg.drewN nq).set (i := 0) hM0 (-1)
    exact ⟨_, _, _, lay2_st (M := M) (fun i hi => by rw [hc.cell _ _ (cell_lt (ht i hi)) (htm.out hi), ht i hi, hTT i hi]) (hs.keep hc (fun i hi => hsm.out hi)) hg' (by omega) hKM (by omega), .inr (.inl (by rw [upd_same]; omega)), hc.mono fun b o _ h => .inr h, hg', fun i _ => rfl⟩
  have HSN := Lib.hid HS0
  have hln : (lay2 bt ot ct n bs os cs bm om cm 256).n = n := rfl
  have OK := Lib.hid ok
  have ON := Lib.hid on
  have HV := Lib.hid hv
  have HTK := Lib.hid hTK
  have HT256 := Lib.hid hTK
  have hK8 : (lay2 bt ot ct n bs os cs bm om cm 256).K = 256 := rfl
  have H0 := Lib.hid h0
  have HAP := Lib.hid hsm
  have HTM := Lib.hid htm
  have HTT := Lib.hid hTT
  have IH := Lib.hid ih
  have hgc := hg.c 0 hM0
  have hgz := hg.z 0 hM0
  rw [Nat.add_zero] at hgc hgz
  clear HS0 ok on hv hTK h0 hsm htm hTT ih hT' hT ht hs hg hts
  have n1 : ((n : Int) == 0) = false := by simp; omega
  have n2 : ((n : Int) == 1) = false := by simp; omega
  have n3 : ((n : Int) != (n : Int)) = false := by simp
  have n4 : decide ((M : Int) < (256 : Int)) = false := by simp; omega
  have k1 : 2 * (256 : Int) ≤ (M : Int) := by omega
  have k2 : 256 ≤ cm := by omega
  have k3 : 512 ≤ cm := by omega
  have k4 : ¬ cm = 256 := by omega
  go_enter Tryz.func59, Tryz.ntmps59
  go_wp2
  go_quiet (fail)
  go_wp2_with fail
  have HS1 := Lib.hid (HSN.out nq)
  clear HSN n1 n2 n3 n4 k1 k2 k3 k4 
  obtain ⟨B1, F1, G1, hst1, hf1, hch1, hg1, hl1⟩ := HS1.out
  refine (place8 (lay2 bt ot ct n bs os cs bm om cm 256) OK.out hK8 _ HV.out _ T' _ B1 F1 hst1 HTK.out H0.out hf1 (fun p _ => rfl)).mono ?_
  rintro e w2 ⟨rfl, A2, B2, F2, hr2, hf2, hpl⟩
  have HS2 := Lib.hid (HS1.out.step ON.out HAP.out hr2 hf2)
  have HPL := Lib.hid hpl
  clear hst1 hf1 hch1 hg1 hl1 hr2 hf2 hpl HS1
  by_cases hm : lc T' n 0 ≤ 1
  · have hmd : decide ((lc T' n 0 : Int) ≤ 1) = true := by simp; omega
    have hmd' : decide (lc T' n 0 ≤ 1) = true := by simp; omega
    have hmi : (lc T' n 0 : Int) ≤ 1 := by omega
    have HST := Lib.hid (HPL.out.1 hm)
    clear HPL
    go_wp2_with fail
    obtain ⟨B11, F11, G11, hst11, hf11, _⟩ := HS2.out
    refine (fullL8 (lay2 bt ot ct n bs os cs bm om cm 256) OK.out hK8 _ HV.out _ T' _ B11 F11 hst11 HTK.out hf11 hn HST.out).mono ?_
    rintro e w11 ⟨rfl, A11, B11', F11', b11, hr11, hf11', hp11⟩
    have HS11 := Lib.hid (HS2.out.step ON.out HAP.out hr11 hf11')
    have HP11 := Lib.hid hp11
    clear hst11 hf11 hr11 hf11' hp11 HS2 HST
    go_wp2_with fail
    obtain ⟨B12, F12, G12, hst12, hf12, _⟩ := HS11.out
    refine (fullS8 (lay2 bt ot ct n bs os cs bm om cm 256) OK.out hK8 _ HV.out _ T' _ B12 F12 b11 hst12 HTK.out hf12 hn HP11.out).mono ?_
    rintro e w12 ⟨rfl, A12, B12', F12', hr12, hf12', hp12⟩
    have HS12 := Lib.hid (HS11.out.step ON.out HAP.out hr12 hf12')
    have HFI := Lib.hid (HS12.out.fin HAP.out hM0 hp12.1 hp12.2)
    obtain ⟨_, _, G13, _, _, _, hg13, _⟩ := HS12.out
    have hc13 := hg13.c 0 hM0
    have hz13 := hg13.z 0 hM0
    rw [Nat.add_zero] at hc13 hz13
    clear hst12 hf12 hr12 hf12' hp12 HS11 HS12 hg13
    go_wp2
    go_end0
    obtain ⟨d, G', q1, q2, q3, q4, q5⟩ := HFI.out
    exact ⟨rfl, d, G', q1, q2.congr HTT.out, q3, q4, q5⟩
  · have hmd : ¬ lc T' n 0 ≤ 1 := hm
    have hm2 : 2 ≤ lc T' n 0 := by omega
    have hnx : nx T' n 0 ≠ 0 := fun e => by have := (nx_zero_iff (T := T') (n := n) 0).1 e; omega
    have HNX := Lib.hid hnx
    have HST0 := Lib.hid (HPL.out.2 hm2)
    have hhalf := lc_half (T := T') (n := n) (i := 0) (by omega)
    have HH := Lib.hid hhalf
    clear hnx HPL hhalf
    go_wp2_with fail
    obtain ⟨B3, F3, G3, hst3, hf3, _⟩ := HS2.out
    refine (subL8 (lay2 bt ot ct n bs os cs bm om cm 256) OK.out hK8 _ HV.out _ T' _ B3 F3 hst3 HTK.out hf3 hn HNX.out HST0.out).mono ?_
    rintro e w3 ⟨rfl, A3, B3', F3', b3, hr3, hf3', hp3⟩
    have HS3 := Lib.hid (HS2.out.step ON.out HAP.out hr3 hf3')
    have HP3 := Lib.hid hp3
    clear hst3 hf3 hr3 hf3' hp3 HS2 HST0
    go_wp2_with fail
    obtain ⟨B4, F4, G4, hst4, hf4, _⟩ := HS3.out
    refine (subS8 (lay2 bt ot ct n bs os cs bm om cm 256) OK.out hK8 _ HV.out _ T' _ B4 F4 b3 hst4 HTK.out hf4 hn HNX.out HP3.out).mono ?_
    rintro e w4 ⟨rfl, A4, B4', F4', hr4, hf4', hp4⟩
    have HS4 := Lib.hid (HS3.out.step ON.out HAP.out hr4 hf4')
    have HP4 : Hid (Subs T' n (lc T' n 0) A4) := hp4
    clear hst4 hf4 hr4 hf4' hp4 HS3 HP3
    go_wp2_with fail
    obtain ⟨B5, F5, G5, hst5, hf5, _⟩ := HS4.out
    refine (length8 (lay2 bt ot ct n bs os cs bm om cm 256) OK.out _ T' _ B5 F5 hst5 HT256.out hf5 H0.out HP4.out _).mono ?_
    rintro e w5 ⟨rfl, A5, B5', F5', hr5, hf5', hp5⟩
    have HS5 := Lib.hid (HS4.out.step ON.out HAP.out hr5 hf5')
    have HP5 := Lib.hid hp5
    clear hst5 hf5 hr5 hf5' hp5 HS4
    go_wp2_with fail
    obtain ⟨B6, F6, G6, hst6, hf6, _⟩ := HS5.out
    refine (assign8 (lay2 bt ot ct n bs os cs bm om cm 256) OK.out _ T' A4 _ B6 F6 _ (codeOK_8 HT256.out (by have := OK.out.small; simp only [lay2] at this; omega)) hst6 hf6 HP4.out HP5.out hm2).mono ?_
    rintro e w6 ⟨rfl, A6, B6', F6', hr6, hf6', hp6⟩
    have HS6 := Lib.hid (HS5.out.step ON.out HAP.out hr6 hf6')
    have HP6 : Hid (IdI T' n (C8 T' n) (lstOf T' n A4) A4 (lc T' n 0) A6) := hp6
    have HX : Hid (Lst T' n (lstOf T' n A4)) := HP4.out.lst (by have := HH.out; omega)
    have HXV := Lib.hid (fun (t : Nat) (ht : t < lc T' n 0) => HP4.out.lst_val (by have := HH.out; omega) ht)
    clear hst6 hf6 hr6 hf6' hp6 HS5 HP5
    have hcl := cls_le (T := T') (n := n) (lstOf T' n A4) (lc T' n 0)
    by_cases hlt : cls T' n (lstOf T' n A4) (lc T' n 0) < lc T' n 0
    · go_wp2_with fail
      obtain ⟨B7, F7, G7, hst7, hf7, _⟩ := HS6.out
      refine (map32 .u8 (lay2 bt ot ct n bs os cs bm om cm 256) OK.out _ T' A4 _ B7 F7 _ _ hst7 hf7 HX.out HP6.out (by show 0 < n; omega) _).mono ?_
      rintro e w7 ⟨rfl, A7, B7', F7', hr7, hf7', hp7⟩
      have HS7 := Lib.hid (HS6.out.step ON.out HAP.out hr7 hf7')
      have HP7 := Lib.hid hp7
      clear hst7 hf7 hr7 hf7' hp7 HS6 HP6
      go_wp2_with fail
      obtain ⟨B8, F8, G8, hst8, hf8, hch8, hg8, hl8⟩ := HS7.out
      have hred := HP7.out.red HX.out
      have hcp : 0 < cls T' n (lstOf T' n A4) (lc T' n 0) := by
        have := cls_pos (T := T') (n := n) (lstOf T' n A4) (lc T' n 0 - 1)
        rw [show lc T' n 0 - 1 + 1 = lc T' n 0 by omega] at this
        omega
      refine (recurse32 N IH.out bs os n cs bm om cm M (lc T' n 0) (cls T' n (lstOf T' n A4) (lc T' n 0)) _ G8 _ (by have := HH.out; omega) hm2 (by have := HH.out; omega) hns hcp (by omega) hM0 hMc hMs hcs HAP.out hst8.regS hg8 _ (fun r hr => hred.2 r hr) (fun r hr => hred.1.lt HX.out hr)).mono ?_
      rintro e w8 ⟨rfl, d, A8, G8', hr81, hr82, hr83, hr84, hr85, hr86⟩
      have HS8 := Lib.hid (HS7.out.rec_ ON.out OK.out HTM.out hg8 hr81 hr84 hr85 hr86)
      have HRed := Lib.hid hred.1
      have HD1 := Lib.hid hr82
      have HD2 := Lib.hid hr83
      clear hst8 hf8 hch8 hg8 hl8 hred hr81 hr82 hr83 hr84 hr85 hr86 HS7 HP7 hcp
      go_wp2_with fail
      obtain ⟨B9, F9, G9, hst9, hf9, _⟩ := HS8.out
      refine (unmap8 (lay2 bt ot ct n bs os cs bm om cm 256) OK.out _ T' _ B9 F9 d _ _ hst9 hf9 H0.out HX.out HRed.out HD2.out HD1.out hm2).mono ?_
      rintro e w9 ⟨rfl, A9, B9', F9', hr9, hf9', hp9⟩
      have HS9 := Lib.hid (HS8.out.step ON.out HAP.out hr9 hf9')
      have HP9 := Lib.hid hp9
      clear hst9 hf9 hr9 hf9' hp9 HS8 HRed HD1 HD2
      go_wp2_with fail
      obtain ⟨B10, F10, G10, hst10, hf10, _⟩ := HS9.out
      refine (expand8 (lay2 bt ot ct n bs os cs bm om cm 256) OK.out hK8 _ HV.out _ T' _ B10 F10 hst10 HTK.out hf10 HP9.out hm2).mono ?_
      rintro e w10 ⟨rfl, A10, B10', F10', hr10, hf10', hp10⟩
      have HS10 := Lib.hid (HS9.out.step ON.out HAP.out hr10 hf10')
      have HST := Lib.hid hp10
      clear hst10 hf10 hr10 hf10' hp10 HS9 HP9
      go_wp2_with fail
      obtain ⟨B11, F11, G11, hst11, hf11, _⟩ := HS10.out
      refine (fullL8 (lay2 bt ot ct n bs os cs bm om cm 256) OK.out hK8 _ HV.out _ T' _ B11 F11 hst11 HTK.out hf11 hn HST.out).mono ?_
      rintro e w11 ⟨rfl, A11, B11', F11', b11, hr11, hf11', hp11⟩
      have HS11 := Lib.hid (HS10.out.step ON.out HAP.out hr11 hf11')
      have HP11 := Lib.hid hp11
      clear hst11 hf11 hr11 hf11' hp11 HS10 HST
      go_wp2_with fail
      obtain ⟨B12, F12, G12, hst12, hf12, _⟩ := HS11.out
      refine (fullS8 (lay2 bt ot ct n bs os cs bm om cm 256) OK.out hK8 _ HV.out _ T' _ B12 F12 b11 hst12 HTK.out hf12 hn HP11.out).mono ?_
      rintro e w12 ⟨rfl, A12, B12', F12', hr12, hf12', hp12⟩
      have HS12 := Lib.hid (HS11.out.step ON.out HAP.out hr12 hf12')
      have HFI := Lib.hid (HS12.out.fin HAP.out hM0 hp12.1 hp12.2)
      obtain ⟨_, _, G13, _, _, _, hg13, _⟩ := HS12.out
      have hc13 := hg13.c 0 hM0
      have hz13 := hg13.z 0 hM0
      rw [Nat.add_zero] at hc13 hz13
      clear hst12 hf12 hr12 hf12' hp12 HS11 HS12 hg13
      go_wp2
      go_end0
      obtain ⟨d, G', q1, q2, q3, q4, q5⟩ := HFI.out
      exact ⟨rfl, d, G', q1, q2.congr HTT.out, q3, q4, q5⟩
    · have hce : cls T' n (lstOf T' n A4) (lc T' n 0) = lc T' n 0 := by omega
      have HFr : Hid (Front T' n (fun i => if i < lc T' n 0 then A6 (n - lc T' n 0 + i) else A6 i)) := by
        refine Front.of_single HX.out hce (fun s hs => ?_)
        have h1 := HP6.out.top (n - lc T' n 0 + s) (by omega) (by have := HH.out; omega)
        have h2 := HXV.out s hs
        simp only [hs, if_true]
        exact h1.trans h2
      have HS7 := Lib.hid (HS6.out.copy OK.out HAP.out (m := lc T' n 0) (by have := HH.out; show _ ≤ n; omega))
      obtain ⟨B7, F7, G7, hst7, hf7, _⟩ := HS6.out
      have hcopy := fun ty => run_copy32 hst7 (m := lc T' n 0) (by have := HH.out; show _ ≤ n; omega) ty cs (cs - (n - lc T' n 0))
      have hcopy' : ∀ ty, (Builtin.copy_ #[44, 44] ty #[.slice (some ⟨bs, os, none⟩) n cs, .slice (some ⟨bs, os + (n - lc T' n 0), none⟩) (lc T' n 0) (cs - (n - lc T' n 0))]).run Tryz.prog w6 = .ok (goInt (lc T' n 0)) (w6.setCells bs os ((List.range (lc T' n 0)).map fun i => (.int .i32 (A6 (n - lc T' n 0 + i)) : Value))) := hcopy
      have HS7' : Hid (SS (lay2 bt ot ct n bs os cs bm om cm 256) .u8 bm om M w (w6.setCells bs os ((List.range (lc T' n 0)).map fun i => (.int .i32 (A6 (n - lc T' n 0 + i)) : Value))) T' (fun i => if i < lc T' n 0 then A6 (n - lc T' n 0 + i) else A6 i)) := HS7.out
      have hhm := HH.out
      have c1 : ((n : Int) - (lc T' n 0 : Int)).toNat = n - lc T' n 0 := by omega
      have c2 : n - (n - lc T' n 0) = lc T' n 0 := by omega
      have c3 : ¬ cs = n - lc T' n 0 := by omega
      generalize hwc : w6.setCells bs os ((List.range (lc T' n 0)).map fun i => (.int .i32 (A6 (n - lc T' n 0 + i)) : Value)) = w9 at *
      generalize (fun i => if i < lc T' n 0 then A6 (n - lc T' n 0 + i) else A6 i) = A9 at *
      clear hst7 hf7 hcopy HS7 HS6 HP6 hce hwc
      go_wp2_with fail
      clear hcopy' c1 c2 c3 hhm
      obtain ⟨B10, F10, G10, hst10, hf10, _⟩ := HS7'.out
      refine (expand8 (lay2 bt ot ct n bs os cs bm om cm 256) OK.out hK8 _ HV.out _ T' _ B10 F10 hst10 HTK.out hf10 HFr.out hm2).mono ?_
      rintro e w10 ⟨rfl, A10, B10', F10', hr10, hf10', hp10⟩
      have HS10 := Lib.hid (HS7'.out.step ON.out HAP.out hr10 hf10')
      have HST := Lib.hid hp10
      clear hst10 hf10 hr10 hf10' hp10 HS7' HFr
      go_wp2_with fail
      obtain ⟨B11, F11, G11, hst11, hf11, _⟩ := HS10.out
      refine (fullL8 (lay2 bt ot ct n bs os cs bm om cm 256) OK.out hK8 _ HV.out _ T' _ B11 F11 hst11 HTK.out hf11 hn HST.out).mono ?_
      rintro e w11 ⟨rfl, A11, B11', F11', b11, hr11, hf11', hp11⟩
      have HS11 := Lib.hid (HS10.out.step ON.out HAP.out hr11 hf11')
      have HP11 := Lib.hid hp11
      clear hst11 hf11 hr11 hf11' hp11 HS10 HST
      go_wp2_with fail
      obtain ⟨B12, F12, G12, hst12, hf12, _⟩ := HS11.out
      refine (fullS8 (lay2 bt ot ct n bs os cs bm om cm 256) OK.out hK8 _ HV.out _ T' _ B12 F12 b11 hst12 HTK.out hf12 hn HP11.out).mono ?_
      rintro e w12 ⟨rfl, A12, B12', F12', hr12, hf12', hp12⟩
      have HS12 := Lib.hid (HS11.out.step ON.out HAP.out hr12 hf12')
      have HFI := Lib.hid (HS12.out.fin HAP.out hM0 hp12.1 hp12.2)
      obtain ⟨_, _, G13, _, _, _, hg13, _⟩ := HS12.out
      have hc13 := hg13.c 0 hM0
      have hz13 := hg13.z 0 hM0
      rw [Nat.add_zero] at hc13 hz13
      clear hst12 hf12 hr12 hf12' hp12 HS11 HS12 hg13
      go_wp2
      go_end0
      obtain ⟨d, G', q1, q2, q3, q4, q5⟩ := HFI.out
      exact ⟨rfl, d, G', q1, q2.congr HTT.out, q3, q4, q5⟩
end Go.Proofs.YtpkgkppehefibaaGreatDoor
