/- Slices that are read or written by the laws' helpers: bytes, bools, ints. append onto nil. -/
import Derived.Test.YtpkgkppehefibaaGreatDoorP9
import Derived.Deep.AppendLies
import Derived.Laws.OwnMore
namespace Go.Proofs.YtpkgkppehefibaaGreatDoor
open Go.RowKit Sa

/-- n cells read as f, from block lo on, below block hi -/
structure Rd (w : World) (lo hi : Nat) (A : Option Addr) (n : Nat) (f : Nat → Value) : Prop where
  c : 0 < n → ∃ g o, A = some ⟨g, o, none⟩ ∧ lo ≤ g ∧ g < hi ∧ ∀ i, i < n → w.cell? ⟨g, o + i, none⟩ = some (f i)
/-- .. and can be written -/
structure Wr (w : World) (lo hi : Nat) (A : Option Addr) (n : Nat) (f : Nat → Value) : Prop extends Rd w lo hi A n f where
  z : ∀ g o, A = some ⟨g, o, none⟩ → ∀ i, i < n → w.frozen? ⟨g, o + i, none⟩ = false
/-- bytes -/
def bv (T : Nat → Nat) : Nat → Value := fun i => .int .u8 ((T i : Nat) : Int)
/-- ints -/
def iv (T : Nat → Int) : Nat → Value := fun i => .int .i64 (T i)
/-- bools -/
def lv (T : Nat → Bool) : Nat → Value := fun i => .bool (T i)

section
variable {w w' : World} {lo hi lo' hi' B n : Nat} {A : Option Addr} {f : Nat → Value}
theorem Rd.mono (h : Rd w lo hi A n f) (h1 : lo' ≤ lo) (h2 : hi ≤ hi') : Rd w lo' hi' A n f := ⟨fun hn => by
  obtain ⟨g, o, h3, h4, h5, h6⟩ := h.c hn
  exact ⟨g, o, h3, by omega, by omega, h6⟩⟩
theorem Rd.congr {f' : Nat → Value} (h : Rd w lo hi A n f) (e : ∀ i, i < n → f i = f' i) : Rd w lo hi A n f' := ⟨fun hn => by
  obtain ⟨g, o, h3, h4, h5, h6⟩ := h.c hn
  exact ⟨g, o, h3, h4, h5, fun i hi => by rw [← e i hi]; exact h6 i hi⟩⟩
theorem Rd.keep (h : Rd w lo hi A n f) (hk : ∀ b o, lo ≤ b → b < hi → w'.cell? ⟨b, o, none⟩ = w.cell? ⟨b, o, none⟩) : Rd w' lo hi A n f := ⟨fun hn => by
  obtain ⟨g, o, h3, h4, h5, h6⟩ := h.c hn
  exact ⟨g, o, h3, h4, h5, fun i hi => by rw [hk _ _ h4 h5]; exact h6 i hi⟩⟩
theorem Rd.below (h : Rd w lo hi A n f) (hb : Below B w w') (hB : hi ≤ B) : Rd w' lo hi A n f := h.keep fun b o _ hb' => hb.cell (p := ⟨b, o, none⟩) (by show b < B; omega)
theorem Rd.drewN (h : Rd w lo hi A n f) (k : Nat) : Rd (w.drewN k) lo hi A n f := ⟨h.c⟩
theorem Wr.mono (h : Wr w lo hi A n f) (h1 : lo' ≤ lo) (h2 : hi ≤ hi') : Wr w lo' hi' A n f := ⟨h.toRd.mono h1 h2, h.z⟩
theorem Wr.congr {f' : Nat → Value} (h : Wr w lo hi A n f) (e : ∀ i, i < n → f i = f' i) : Wr w lo hi A n f' := ⟨h.toRd.congr e, h.z⟩
theorem Wr.below (h : Wr w lo hi A n f) (hb : Below B w w') (hB : hi ≤ B) : Wr w' lo hi A n f := ⟨h.toRd.below hb hB, fun g o e i hi => by
  obtain ⟨g', o', h3, h4, h5, h6⟩ := h.c (by omega)
  rw [e] at h3; injection h3 with h3; injection h3 with h3 h3'
  subst h3; subst h3'
  rw [hb.frozen (p := ⟨g, o + i, none⟩) (by show g < B; omega)]
  exact h.z g o e i hi⟩
theorem Wr.drewN (h : Wr w lo hi A n f) (k : Nat) : Wr (w.drewN k) lo hi A n f := ⟨h.toRd.drewN k, h.z⟩
theorem Rd.zero : Rd w lo hi A 0 f := ⟨fun h => absurd h (by omega)⟩
theorem Wr.zero : Wr w lo hi A 0 f := ⟨Rd.zero, fun _ _ _ i h => absurd h (by omega)⟩
/-- what stays of a stretch when cells of other blocks alone turn -/
theorem Rd.chg {S : Nat → Nat → Prop} (h : Rd w lo hi A n f) (hh : hi ≤ w.heap.size) (hc : Chg S w w') (hS : ∀ b o, lo ≤ b → b < hi → ¬ S b o) : Rd w' lo hi A n f :=
  h.keep fun b o h1 h2 => hc.cell b o (by omega) (hS b o h1 h2)
theorem Wr.chg {S : Nat → Nat → Prop} (h : Wr w lo hi A n f) (hh : hi ≤ w.heap.size) (hc : Chg S w w') (hS : ∀ b o, lo ≤ b → b < hi → ¬ S b o) : Wr w' lo hi A n f :=
  ⟨h.toRd.chg hh hc hS, fun g o e i hi => by
    obtain ⟨g', o', h3, h4, h5, h6⟩ := h.c (by omega)
    rw [e] at h3; injection h3 with h3; injection h3 with h3 h3'
    subst h3; subst h3'
    rw [hc.frz g (o + i) (by omega)]
    exact h.z g o e i hi⟩
theorem Rd.txt {T : Nat → Nat} (h : Rd w lo hi A n (bv T)) (hT : ∀ i, i < n → T i < 256) : Txt w A n T := ⟨fun i hi => by
  obtain ⟨g, o, h3, h4, h5, h6⟩ := h.c (by omega)
  exact ⟨_, h3, rfl, h6 i hi⟩, hT⟩
/-- out of a row of the call's own -/
theorem Wr.of_own {base : Nat} {e : TypeId} {v : Value} {xs : List Value} (h : w.ownsRow base e 1 v n xs) (hv : ∀ i u, xs[i]? = some u → f i = u) : ∃ A c, v = .slice A n c ∧ n ≤ c ∧ Wr w base w.heap.size A n f := by
  obtain ⟨hl, h⟩ := h
  rcases h with ⟨rfl, rfl⟩ | ⟨g, cap, cur, rfl, hb, hg, hnc, hm, hs, ht⟩
  · exact ⟨none, 0, rfl, Nat.le_refl _, Wr.zero⟩
  · have hlt : g < w.heap.size := by
      rcases Nat.lt_or_ge g w.heap.size with hlt | hge
      · exact hlt
      · rw [Array.getElem?_eq_none hge] at hg; cases hg
    refine ⟨_, cap, rfl, hnc, ⟨fun _ => ⟨g, 0, rfl, hb, hlt, fun i hi => ?_⟩⟩, fun g' o' e' i hi => ?_⟩
    · rw [cell_of_row w g (0 + i) cur e (0, 0) hg, Nat.zero_add]
      have h1 : xs[i]? = cur[i]? := by
        rw [← ht, List.getElem?_take]
        simp only [Nat.mul_one, hi, if_true, Array.getElem?_toList]
      have h2 : xs[i]? = some (xs[i]'(by omega)) := List.getElem?_eq_getElem (by omega)
      rw [← h1, h2, hv i _ h2]
    · injection e' with e'; injection e' with e1 e2
      subst e1; subst e2
      simp [World.frozen?, hg]
/-- one cell is written -/
def updV (f : Nat → Value) (i : Nat) (v : Value) : Nat → Value := fun j => if j = i then v else f j
theorem Wr.set {b o : Nat} (h : Wr w lo hi (some ⟨b, o, none⟩) n f) {i : Nat} (hi' : i < n) (v : Value) : Wr (w.setCell ⟨b, o + i, none⟩ v) lo hi (some ⟨b, o, none⟩) n (updV f i v) := by
  obtain ⟨g, o', e, h1, h2, h3⟩ := h.c (by omega)
  injection e with e; injection e with e1 e2
  subst e1; subst e2
  refine ⟨⟨fun _ => ⟨b, o, rfl, h1, h2, fun j hj => ?_⟩⟩, fun g' o'' e j hj => ?_⟩
  · unfold updV
    by_cases c : j = i
    · subst c; rw [if_pos rfl]; exact cell_setCell_eq _ _ _ _ _ (h3 j hj)
    · rw [if_neg c, cell_setCell_ne _ _ _ _ _ _ (.inr (by omega))]; exact h3 j hj
  · rw [frozen_setCell]; exact h.z g' o'' e j hj
theorem Rd.at_ {b o : Nat} (h : Rd w lo hi (some ⟨b, o, none⟩) n f) {i : Nat} (hi' : i < n) : w.cell? ⟨b, o + i, none⟩ = some (f i) := by
  obtain ⟨g, o', e, h1, h2, h3⟩ := h.c (by omega)
  injection e with e; injection e with e1 e2
  subst e1; subst e2
  exact h3 i hi'
theorem Rd.lo_ {b o : Nat} (h : Rd w lo hi (some ⟨b, o, none⟩) n f) (hn : 0 < n) : lo ≤ b ∧ b < hi := by
  obtain ⟨g, o', e, h1, h2, h3⟩ := h.c hn
  injection e with e; injection e with e1 e2
  subst e1
  exact ⟨h1, h2⟩
/-- THE CELLS AS A LIST -/
theorem Rd.list (h : Rd w lo hi A n f) (hn : 0 < n) : ∃ ad, A = some ad ∧ ∀ j u, ((List.range n).map f)[j]? = some u → w.cell? (ad.add j) = some u := by
  obtain ⟨g, o, rfl, _, _, hc⟩ := h.c hn
  refine ⟨_, rfl, fun j u hu => ?_⟩
  simp only [List.getElem?_map] at hu
  have hj : j < n := by
    rcases Nat.lt_or_ge j n with c | c
    · exact c
    · rw [List.getElem?_eq_none (by simpa using c)] at hu; cases hu
  rw [List.getElem?_range hj] at hu
  obtain rfl := Option.some.inj hu
  have ha : (⟨g, o, none⟩ : Addr).add j = ⟨g, o + j, none⟩ := by unfold Addr.add; split <;> simp_all
  rw [ha]; exact hc j hj
end

theorem nil_own (w : World) (base : Nat) (e : TypeId) : w.ownsRow base e 1 (.slice none 0 0) 0 [] := ⟨rfl, .inl ⟨rfl, rfl⟩⟩
/-- append(v, s...) onto a row of the call's own -/
theorem run_append_row {P : Program} (w : World) (base : Nat) (t e : TypeId) (i : TypeInfo) (z : Value) (bytes : Nat) (ht : P.underlying t = some (.slice e)) (hi : P.info? e = some i) (hz : i.zero = some z)
    (hsize : i.size = 1) (hby : i.bytes = bytes) (hzs : z.cells.size = 1) (v : Value) (m : Nat) (xs : List Value) (hown : w.ownsRow base e 1 v m xs) {lo hi' n : Nat} {A : Option Addr} {f : Nat → Value} (h : Rd w lo hi' A n f) (c : Nat) (h1 : ∀ i, i < n → (f i).oneCell' = true)
    (h63 : m + n ≤ maxLen) (hbytes : (m + n) * bytes ≤ 140737488355328) (hbase : base ≤ w.heap.size) :
    ∃ v' w', (∀ ty, (Builtin.append_ #[t, t] ty #[v, .slice A n c]).run P w = .ok v' w') ∧ w'.ownsRow base e 1 v' (m + n) (xs ++ (List.range n).map f) ∧ w.grownBy w' v.ownBlock ∧ (v'.ownBlock = v.ownBlock ∨ v'.ownBlock = some w.heap.size) := by
  rcases Nat.eq_zero_or_pos n with h0 | h0
  · subst h0
    refine ⟨v, w, fun ty => ?_, by simpa using hown, World.grownBy.refl w _, .inl rfl⟩
    rcases A with _ | ad
    · rcases hown.2 with ⟨rfl, rfl⟩ | ⟨g, cap, cur, rfl, _, _, hnc, _⟩
      · simp [Builtin.append_, run_underlying ht, sizeOf, typeInfo, hi, Builtin.lenOf, Builtin.firstCells]
      · simp [Builtin.append_, run_underlying ht, sizeOf, typeInfo, hi, Builtin.lenOf, Builtin.firstCells, hnc, storeCells]
    · rcases hown.2 with ⟨rfl, rfl⟩ | ⟨g, cap, cur, rfl, _, _, hnc, _⟩
      · simp [Builtin.append_, run_underlying ht, sizeOf, typeInfo, hi, Builtin.lenOf, Builtin.firstCells, loadCells, loadCellsFrom]
      · simp [Builtin.append_, run_underlying ht, sizeOf, typeInfo, hi, Builtin.lenOf, Builtin.firstCells, hnc, storeCells, loadCells, loadCellsFrom]
  · obtain ⟨ad, rfl, hl⟩ := h.list h0
    have hone : ∀ u ∈ (List.range n).map f, u.oneCell' = true := fun u hu => by
      obtain ⟨j, hj, rfl⟩ := List.mem_map.1 hu
      exact h1 j (List.mem_range.1 hj)
    have hall := fun ty => run_append_own_at (P := P) w base t ty e i z 1 bytes ht hi hz hsize hby hzs (by omega) v m xs hown ad n c _ (by simp) hl hone h63 hbytes hbase
    obtain ⟨v', w', hr, h2, h3, _, h5⟩ := hall 0
    refine ⟨v', w', fun ty => ?_, h2, h3, h5⟩
    rw [← hr]; rfl
/-- append([]T(nil), s...) -/
theorem run_append_nil {P : Program} (w : World) (t e : TypeId) (i : TypeInfo) (z : Value) (bytes : Nat) (ht : P.underlying t = some (.slice e)) (hi : P.info? e = some i) (hz : i.zero = some z)
    (hsize : i.size = 1) (hby : i.bytes = bytes) (hzs : z.cells.size = 1) {lo hi' n : Nat} {A : Option Addr} {f : Nat → Value} (h : Rd w lo hi' A n f) (c : Nat) (h1 : ∀ i, i < n → (f i).oneCell' = true)
    (h63 : n ≤ maxLen) (hbytes : n * bytes ≤ 140737488355328) :
    ∃ A' c' w', (∀ ty, (Builtin.append_ #[t, t] ty #[.slice none 0 0, .slice A n c]).run P w = .ok (.slice A' n c') w') ∧ n ≤ c' ∧ Wr w' w.heap.size w'.heap.size A' n f ∧ Below w.heap.size w w' := by
  obtain ⟨v', w', hr, h2, h3, h4⟩ := run_append_row w w.heap.size t e i z bytes ht hi hz hsize hby hzs (.slice none 0 0) 0 [] (nil_own w _ e) h c h1 (by omega) (by simpa using hbytes) (Nat.le_refl _)
  rw [Nat.zero_add, List.nil_append] at h2
  obtain ⟨A', c', rfl, h5, h6⟩ := Wr.of_own (f := f) h2 (fun i u hu => by
    simp only [List.getElem?_map] at hu
    rcases Nat.lt_or_ge i n with c | c
    · rw [List.getElem?_range c] at hu; exact Option.some.inj hu
    · rw [List.getElem?_eq_none (by simpa using c)] at hu; cases hu)
  exact ⟨A', c', w', hr, h5, h6, (Below.refl _ _).grown h3 (Nat.le_refl _) (by simp [Value.ownBlock])⟩

/-- AT A BUILT-IN append WHOSE RUN IS KNOWN -/
theorem wp_append_run {P : Program} {o : Oper} {a : Act} {w w' : World} {K : Act → World → Prop} {Q : Exit → Act → World → Prop} {s x : Operand} {t : TypeId}
    (ho : o.op = .call { callee := .builtin .append, args := #[s, x], argTypes := #[t, t] }) {v1 v2 v' : Value} (hs : a.eval s = v1) (hx : a.eval x = v2)
    (hrun : ∀ ty, (Builtin.append_ #[t, t] ty #[v1, v2]).run P w = .ok v' w') (h : K (a.put o.dst v') w') : o.wp P a w K Q := by
  unfold Oper.wp execOp
  simp only [ho, resolve, invoke, builtin, Sem.run_bind, Sem.run_pure, Result.andThen_ok, List.map_toArray, List.map_cons, List.map_nil, hs, hx, hrun]
  exact h
theorem wpList_append_run {P : Program} {ops : Array Oper} {rest : List Oper} {o : Oper} {a : Act} {w w' : World} {Q : Exit → Act → World → Prop} {s x : Operand} {t : TypeId} (hgd : o.guard = none)
    (ho : o.op = .call { callee := .builtin .append, args := #[s, x], argTypes := #[t, t] }) {v1 v2 v' : Value} (hs : a.eval s = v1) (hx : a.eval x = v2)
    (hrun : ∀ ty, (Builtin.append_ #[t, t] ty #[v1, v2]).run P w = .ok v' w') (h : wpList P ops Q rest (a.put o.dst v') w') : wpList P ops Q (o :: rest) a w :=
  wpList_plain hgd fun _ hK => wp_append_run ho hs hx hrun (hK _ _ h)

theorem info8 : (Tryz.prog.info? 5).map (fun i => (i.zero, i.size, i.bytes)) = some (some (.int .u8 0), 1, 1) := by kernel_rfl
theorem infoInt : (Tryz.prog.info? 3).map (fun i => (i.zero, i.size, i.bytes)) = some (some (.int .i64 0), 1, 8) := by kernel_rfl
theorem append8 (w : World) {lo hi' n : Nat} {A : Option Addr} {T : Nat → Nat} (h : Rd w lo hi' A n (bv T)) (c : Nat) (hn : n < 1073741824) :
    ∃ A' c' w', (∀ ty, (Builtin.append_ #[22, 22] ty #[.slice none 0 0, .slice A n c]).run Tryz.prog w = .ok (.slice A' n c') w') ∧ n ≤ c' ∧ Wr w' w.heap.size w'.heap.size A' n (bv T) ∧ Below w.heap.size w w' := by
  obtain ⟨i0, hi, hz0, hz1, hz2⟩ := info_parts info8
  exact run_append_nil w _ _ i0 _ 1 Tryz.underlying22 hi hz0 hz1 hz2 rfl h c (fun _ _ => rfl) (by simp only [maxLen]; omega) (by omega)
/-- make([]byte, k) -/
theorem run_make8 (k : Nat) (hk : k < 1073741824) (w : World) : (Instr.makeSlice 22 (.int .i64 (k : Int)) (.int .i64 (k : Int))).run Tryz.prog w = .ok (.slice (some ⟨w.heap.size, 0, none⟩) k k) (w.alloc (.cells (madeCells #[.int .u8 0] k) 5)) := by
  obtain ⟨i0, hi, hz0, hz1, hz2⟩ := info_parts info8
  have hr := run_make (P := Tryz.prog) w 22 5 i0 (.int .u8 0) Tryz.underlying22 hi hz0 .i64 .i64 k k (by omega) (by omega) (by rw [hz2]; omega) (by omega)
  simp only [Int.toNat_natCast, hz1, Nat.mul_one] at hr
  exact hr
theorem wr_made (w : World) (k : Nat) (v : Value) (t : TypeId) : Wr (w.alloc (.cells (madeCells #[v] k) t)) w.heap.size (w.heap.size + 1) (some ⟨w.heap.size, 0, none⟩) k (fun _ => v) where
  c _ := ⟨_, 0, rfl, Nat.le_refl _, by omega, fun i hi => by
    rw [World.cell?_alloc_at _ _ _ _ rfl]
    simp only [Nat.zero_add]
    rw [← Array.getElem?_toList, toList_madeCells_one, List.getElem?_replicate, if_pos hi]⟩
  z g o e i _ := by
    injection e with e; injection e with e1 e2
    subst e1; subst e2
    exact World.frozen?_alloc_at _ _ _ _ rfl
end Go.Proofs.YtpkgkppehefibaaGreatDoor
