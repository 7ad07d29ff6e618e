/- impl.marksOf, IndexMarks; the laws' helpers qMark, qTrue, qCopy, qBack; one byte appended. -/
import Derived.Test.YtpkgkppehefibaaDoorH1
namespace Go.Proofs.YtpkgkppehefibaaDoor
open Go.RowKit Sa

/-- where s stands -/
def mrk (T : Nat → Nat) (n : Nat) (S : Nat → Nat) (m : Nat) : Nat → Bool := fun i => decide (0 < m ∧ stands T n S m i)
theorem infoBool : (Tryd.prog.info? 4).map (fun i => (i.zero, i.size, i.bytes)) = some (some (.bool false), 1, 1) := by kernel_rfl
/-- i is among the first k -/
def among (p : Nat → Nat) (k i : Nat) : Bool := decide (∃ j, j < k ∧ p j = i)
theorem among_zero {p : Nat → Nat} {i : Nat} : among p 0 i = false := decide_eq_false (fun ⟨j, h, _⟩ => by omega)
theorem among_iff {p : Nat → Nat} {k i : Nat} : among p k i = true ↔ ∃ j, j < k ∧ p j = i := decide_eq_true_iff
section
variable (A : Option Addr) (n c lo hi : Nat) (T : Nat → Nat) (B : Option Addr) (m e lo' hi' : Nat) (S : Nat → Nat) (w : World)
end

/-- qMark -/
def qm (n : Nat) (F : Nat → Bool) (i : Int) : Bool := decide (0 ≤ i) && (decide (i < (n : Int)) && F i.toNat)
theorem qm_in {n : Nat} {F : Nat → Bool} {t : Nat} (h : t < n) : qm n F (t : Int) = F t := by
  unfold qm; rw [decide_eq_true (by omega), decide_eq_true (by omega)]; simp
theorem qm_out {n : Nat} {F : Nat → Bool} {i : Int} (h : i < 0 ∨ (n : Int) ≤ i) : qm n F i = false := by
  unfold qm
  rcases h with h | h
  · rw [decide_eq_false (by omega)]; rfl
  · rw [decide_eq_false (p := i < (n : Int)) (by omega)]; simp
/-- append(v, b) of one byte onto a row of the call's own -/
theorem appendOne8 (w : World) (base : Nat) (v : Value) (m : Nat) (xs : List Value) (hown : w.ownsRow base 5 1 v m xs) (hm : m < 1073741823) (hbase : base ≤ w.heap.size) (t : Int) :
    ∃ v' w', (∀ ty, (Builtin.append_ #[22, 22] ty #[v, .slice (some ⟨w.heap.size, 0, none⟩) 1 1]).run Tryd.prog (w.alloc (.cells #[.int .u8 t] 5)) = .ok v' w') ∧
      w'.ownsRow base 5 1 v' (m + 1) (xs ++ [.int .u8 t]) ∧ Below base w w' := by
  obtain ⟨i0, hi, hz0, hz1, hz2⟩ := info_parts info8
  have hrd : Rd (w.alloc (.cells #[.int .u8 t] 5)) 0 (w.heap.size + 1) (some ⟨w.heap.size, 0, none⟩) 1 (fun _ => .int .u8 t) := ⟨fun _ => ⟨_, 0, rfl, Nat.zero_le _, by omega, fun i hi => by
    obtain rfl : i = 0 := by omega
    rw [World.cell?_alloc_at _ _ _ _ rfl]; rfl⟩⟩
  obtain ⟨v', w', h1, h2, h3, h4⟩ := run_append_row (P := Tryd.prog) (w.alloc (.cells #[.int .u8 t] 5)) base 22 5 i0 _ 1 Tryd.underlying22 hi hz0 hz1 hz2 rfl v m xs (hown.alloc _) hrd 1 (fun _ _ => rfl) (by simp only [maxLen]; omega) (by omega) (by simp; omega)
  exact ⟨v', w', h1, h2, ((Below.refl _ _).alloc hbase _).grown h3 (by simp; omega) (fun k hk => (hown.lt k hk).1)⟩

/-- the text from its end -/
def rev (T : Nat → Nat) (n : Nat) : Nat → Nat := fun i => T (n - 1 - i)
/-- a text and one byte behind it -/
theorem cat_one {T : Nat → Nat} {n b : Nat} : ∀ i u, ((List.range n).map (bv T) ++ [Value.int .u8 ((b : Nat) : Int)])[i]? = some u → bv (cat T n fun _ => b) i = u := by
  have h := cat_list (T := T) (S := fun _ => b) (n := n) (m := 1)
  simpa [bv] using h
section
variable {A : Option Addr} {n c : Nat} {T : Nat → Nat} {B : Option Addr} {m e : Nat} {S : Nat → Nat} {w : World}
theorem add1 {v : Value} {base : Nat} (hown : w.ownsRow base 5 1 v n ((List.range n).map (bv T))) (hb : base ≤ w.heap.size) (hn : n < 1048576) (hT : ∀ i, i < n → T i < 256) (b : Nat) (hb1 : b < 256) :
    ∃ A' c' w', (∀ ty, (Builtin.append_ #[22, 22] ty #[v, .slice (some ⟨w.heap.size, 0, none⟩) 1 1]).run Tryd.prog (w.alloc (.cells #[.int .u8 ((b : Nat) : Int)] 5)) = .ok (.slice A' (n + 1) c') w') ∧ Bs w' A' (n + 1) c' (cat T n fun _ => b) ∧ Below base w w' := by
  obtain ⟨v', w', h1, h2, h3⟩ := appendOne8 w base v n _ hown (by omega) hb (b : Nat)
  obtain ⟨A', c', rfl, h4, h5⟩ := Wr.of_own (f := bv (cat T n fun _ => b)) h2 cat_one
  exact ⟨A', c', w', h1, ⟨h5.r0, cat_lt hT (fun _ _ => hb1), h4, by omega⟩, h3⟩
/-- s[i:j] -/
theorem Bs.part {g o i j : Nat} (h : Bs w (some ⟨g, o, none⟩) n c T) (hij : i ≤ j) (hj : j ≤ n) : Bs w (some ⟨g, o + i, none⟩) (j - i) (c - i) (fun k => T (i + k)) :=
  ⟨R0.part h.rd i j hj, fun k hk => h.lt _ (by omega), by have := h.nc; omega, by have := h.sm; omega⟩
theorem Bs.pre {k : Nat} (h : Bs w A n c T) (hk : k ≤ n) : Bs w A k c T := ⟨⟨fun h0 => by
  obtain ⟨g', o', e, h1, h2, h3⟩ := Rd.c h.rd (by omega)
  exact ⟨g', o', e, h1, h2, fun i hi => h3 i (by omega)⟩⟩, fun i hi => h.lt i (by omega), by have := h.nc; omega, by have := h.sm; omega⟩
/-- []byte{b} -/
theorem lit1 (w : World) (b : Nat) (hb : b < 256) : Bs (w.alloc (.cells #[.int .u8 ((b : Nat) : Int)] 5)) (some ⟨w.heap.size, 0, none⟩) 1 1 (fun _ => b) ∧ Le w (w.alloc (.cells #[.int .u8 ((b : Nat) : Int)] 5)) :=
  ⟨⟨⟨fun _ => ⟨_, 0, rfl, Nat.zero_le _, by simp, fun i hi => by
    obtain rfl : i = 0 := by omega
    rw [World.cell?_alloc_at _ _ _ _ rfl]; rfl⟩⟩, fun _ _ => hb, Nat.le_refl _, by omega⟩, (Below.refl _ _).alloc (Nat.le_refl _) _⟩
end
end Go.Proofs.YtpkgkppehefibaaDoor
