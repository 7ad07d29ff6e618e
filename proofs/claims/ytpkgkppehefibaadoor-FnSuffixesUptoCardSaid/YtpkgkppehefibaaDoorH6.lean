/- Lists of byte strings that the laws build. -/
import Derived.Test.YtpkgkppehefibaaDoorH4
import Derived.Test.YtpkgkppehefibaaDoorL5
namespace Go.Proofs.YtpkgkppehefibaaDoor
open Go.RowKit Sa

theorem lit1r (w : World) (b : Nat) : Rd (w.alloc (.cells #[.int .u8 ((b : Nat) : Int)] 5)) w.heap.size (w.heap.size + 1) (some ⟨w.heap.size, 0, none⟩) 1 (bv fun _ => b) := ⟨fun _ => ⟨_, 0, rfl, Nat.le_refl _, by omega, fun i hi => by
    obtain rfl : i = 0 := by omega
    rw [World.cell?_alloc_at _ _ _ _ rfl]; rfl⟩⟩
theorem Rows1.bss {w : World} {lo C : Nat} {ty : TypeId} {v : Value} {t : Nat} {B : Nat → Option Addr} {m e : Nat → Nat} {S : Nat → Nat → Nat} (h : Rows1 w lo C ty v t B m e (fun j => bv (S j))) (hS : ∀ j, j < t → ∀ i, i < m j → S j i < 256) (hm : ∀ j, j < t → m j < 1073741824) (ht : t < 1073741824) :
    ∃ A c, v = .slice A t c ∧ Bss w A t c B m e S := by
  obtain ⟨A, c, he, h3, h4⟩ := Wr.of_own (f := fun j => .slice (B j) (m j) (e j)) h.own map_range
  refine ⟨A, c, he, h4.r0, fun j hj => ?_, h3, ht⟩
  obtain ⟨h5, h6, h7⟩ := h.el j hj
  exact ⟨h5.mono (Nat.zero_le _) (Nat.le_refl _), hS j hj, h7, hm j hj⟩
/-- list = append(list, []byte{b}) -/
theorem Rows1.addLit {w : World} {lo C : Nat} {v : Value} {t : Nat} {B : Nat → Option Addr} {m e : Nat → Nat} {S : Nat → Nat → Nat} (h : Rows1 w lo C 22 v t B m e (fun j => bv (S j))) (hC : C ≤ w.heap.size) (hlo : lo ≤ w.heap.size) (ht : t < 1048576) (b : Nat) (hS : S t 0 = b) (hm : m t = 1) :
    ∃ v' w' B' e', (∀ ty', (Builtin.append_ #[23, 23] ty' #[v, .slice (some ⟨w.heap.size + 1, 0, none⟩) 1 1]).run Tryd.prog ((w.alloc (.cells #[.int .u8 ((b : Nat) : Int)] 5)).alloc (.cells #[.slice (some ⟨w.heap.size, 0, none⟩) 1 1] 22)) = .ok v' w') ∧
      Rows1 w' lo C 22 v' (t + 1) B' m e' (fun j => bv (S j)) ∧ Below C w w' := by
  have hl : Le w (w.alloc (.cells #[.int .u8 ((b : Nat) : Int)] 5)) := (Below.refl _ _).alloc (Nat.le_refl _) _
  have hsz : (w.alloc (.cells #[.int .u8 ((b : Nat) : Int)] 5)).heap.size = w.heap.size + 1 := by simp
  have h1 := h.le hl
  have hrd := lit1r w b
  obtain ⟨v', w', h2, h3, h4, h5⟩ := addSB _ C v t _ h1.own (by omega) (by rw [hsz]; omega) (some ⟨w.heap.size, 0, none⟩) 1 1
  rw [hsz] at h2
  refine ⟨v', w', _, _, h2, h1.snoc h3 h5 (A := some ⟨w.heap.size, 0, none⟩) (k := 1) ?_ (FarR.new h.own hrd) hm (Nat.le_refl _), Below.trans (Below.mono hl hC) h4⟩
  have := hrd.mono (lo' := lo) hlo (Nat.le_refl _)
  rw [← hsz] at this
  exact this.congr fun i hi => by unfold bv; rw [show i = 0 by omega, hS]
/-- append(qCopy(s), b), with where it lies -/
theorem add1r {w : World} {n : Nat} {T : Nat → Nat} {v : Value} {base : Nat} (hown : w.ownsRow base 5 1 v n ((List.range n).map (bv T))) (hb : base ≤ w.heap.size) (hn : n < 1048576) (b : Nat) :
    ∃ A' c' w', (∀ ty, (Builtin.append_ #[22, 22] ty #[v, .slice (some ⟨w.heap.size, 0, none⟩) 1 1]).run Tryd.prog (w.alloc (.cells #[.int .u8 ((b : Nat) : Int)] 5)) = .ok (.slice A' (n + 1) c') w') ∧ Rd w' base w'.heap.size A' (n + 1) (bv (cat T n fun _ => b)) ∧ n + 1 ≤ c' ∧ Below base w w' := by
  obtain ⟨v', w', h1, h2, h3⟩ := appendOne8 w base v n _ hown (by omega) hb (b : Nat)
  obtain ⟨A', c', rfl, h4, h5⟩ := Wr.of_own (f := bv (cat T n fun _ => b)) h2 cat_one
  exact ⟨A', c', w', h1, h5.toRd, h4, h3⟩
/-- [][]byte{s} -/
theorem rows_lit {w : World} {A : Option Addr} {n c : Nat} {S : Nat → Nat → Nat} {m : Nat → Nat} (h : Rd w 0 w.heap.size A n (bv (S 0))) (hm : m 0 = n) (hc : n ≤ c) (hcm : 1 ≤ maxLen) :
    Rows1 (w.alloc (.cells #[.slice A n c] 22)) 0 w.heap.size 22 (.slice (some ⟨w.heap.size, 0, none⟩) 1 1) 1 (fun _ => A) m (fun _ => c) (fun j => bv (S j)) := by
  have hl : Le w (w.alloc (.cells #[.slice A n c] 22)) := (Below.refl _ _).alloc (Nat.le_refl _) _
  constructor
  · refine ⟨rfl, .inr ⟨w.heap.size, 1, #[.slice A n c], rfl, Nat.le_refl _, heap_alloc_new w _, Nat.le_refl _, hcm, rfl, ?_⟩⟩
    show [Value.slice A n c] = [Value.slice A (m 0) c]
    rw [hm]
  · intro j hj
    obtain rfl : j = 0 := by omega
    rw [hm]
    refine ⟨h.le1 hl, fun hn g o e hv => ?_, hc⟩
    obtain ⟨g', o', e', _, h2, _⟩ := h.c hn
    rw [e] at e'; injection e' with e'; injection e' with e1 e2
    subst e1
    simp [Value.ownBlock] at hv
    omega

/-- s, and s with one byte more, for each byte -/
def consB (T : Nat → Nat) (n : Nat) : Nat → Nat → Nat
  | 0 => T
  | j + 1 => cat T n fun _ => j
def consM (n : Nat) : Nat → Nat
  | 0 => n
  | _ + 1 => n + 1
theorem Bs.zero {w : World} {A : Option Addr} {c : Nat} : Bs w A 0 c (fun _ => 0) := ⟨R0.zero, fun _ h => by omega, Nat.zero_le _, by omega⟩
theorem num_m0 {T S : Nat → Nat} {n : Nat} {N : Int} : num T n S 0 N = 0 := by
  have h : occ T n S 0 n = 0 := cn_none fun i _ => decide_eq_false (fun h => by omega)
  have := num_le (T := T) (S := S) (n := n) (m := 0) (N := N); omega
theorem num_n0 {T S : Nat → Nat} {m : Nat} {N : Int} : num T 0 S m N = 0 := by
  have := num_le (T := T) (S := S) (n := 0) (m := m) (N := N); have := occ_le (T := T) (S := S) (n := 0) (m := m); omega
theorem Iss.chg {w w' : World} {lo : Nat} {A : Option Addr} {n c : Nat} {B : Nat → Option Addr} {m e : Nat → Nat} {F : Nat → Nat → Int} {P : Nat → Nat → Prop} (h : Iss w lo A n c B m e F) (hc : Chg P w w') (hP : ∀ b o, lo ≤ b → ¬ P b o) : Iss w' lo A n c B m e F :=
  ⟨(h.rd.chg (Nat.le_refl _) hc (fun b o h1 _ => hP b o h1)).mono (Nat.le_refl _) hc.size, fun j hj => ⟨((h.el j hj).1.chg (Nat.le_refl _) hc (fun b o h1 _ => hP b o h1)).mono (Nat.le_refl _) hc.size, (h.el j hj).2⟩, h.nc, h.sm⟩
/-- append(all, l...) of ints onto a row of the call's own -/
theorem appendIown (w : World) (base : Nat) (v : Value) (m : Nat) (xs : List Value) (hown : w.ownsRow base 3 1 v m xs) {lo hi' n : Nat} {A : Option Addr} {F : Nat → Int} (h : Rd w lo hi' A n (iv F)) (c : Nat) (hmn : m + n < 1073741824) (hbase : base ≤ w.heap.size) :
    ∃ v' w', (∀ ty, (Builtin.append_ #[26, 26] ty #[v, .slice A n c]).run Tryd.prog w = .ok v' w') ∧ w'.ownsRow base 3 1 v' (m + n) (xs ++ (List.range n).map (iv F)) ∧ Below base w w' := by
  obtain ⟨i0, hi, hz0, hz1, hz2⟩ := info_parts infoInt
  obtain ⟨v', w', h1, h2, h3, h4⟩ := run_append_row (P := Tryd.prog) w base 26 3 i0 _ 8 Tryd.underlying26 hi hz0 hz1 hz2 rfl v m xs hown h c (fun _ _ => rfl) (by simp only [maxLen]; omega) (by omega) hbase
  exact ⟨v', w', h1, h2, (Below.refl _ _).grown h3 hbase (fun k hk => (hown.lt k hk).1)⟩
theorem range_more {f g : Nat → Value} {a b : Nat} (h : ∀ i, i < b → g i = f (a + i)) : (List.range a).map f ++ (List.range b).map g = (List.range (a + b)).map f := by
  rw [List.range_add, List.map_append, List.map_map]
  congr 1
  exact List.map_congr_left fun i hi => h i (List.mem_range.1 hi)
end Go.Proofs.YtpkgkppehefibaaDoor
