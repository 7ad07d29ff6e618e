/- The exact laws' helpers over bools and ints; spec.IndexMarks. -/
import Derived.Test.YtpkgkppehefibaaDoorH2
namespace Go.Proofs.YtpkgkppehefibaaDoor
open Go.RowKit Sa

/-- k%3 == 0 -/
def mb (k : Nat) : Bool := k % 3 == 0
theorem mb_int (k : Nat) : (((k : Int)).tmod 3 == 0) = mb k := by
  unfold mb
  have h : ((k : Int)).tmod 3 = ((k % 3 : Nat) : Int) := by rw [Int.tmod_eq_emod_of_nonneg (by omega)]; rfl
  rw [h]
  generalize k % 3 = z
  cases z with
  | zero => rfl
  | succ z => rfl
/-- the places of s among the first i, ascending -/
def occL (T : Nat → Nat) (n : Nat) (S : Nat → Nat) (m i : Nat) : List Nat := (List.range i).filter fun p => decide (0 < m ∧ stands T n S m p)
theorem occL_len {T S : Nat → Nat} {n m : Nat} : ∀ i, (occL T n S m i).length = occ T n S m i
  | 0 => rfl
  | i + 1 => by
    have ih := occL_len (T := T) (S := S) (n := n) (m := m) i
    unfold occL at ih ⊢
    rw [List.range_succ, List.filter_append, List.length_append, ih]
    unfold occ
    simp only [cn]
    by_cases h : 0 < m ∧ stands T n S m i
    · simp [h]
    · simp [h]
theorem occL_mem {T S : Nat → Nat} {n m i p : Nat} : p ∈ occL T n S m i ↔ p < i ∧ 0 < m ∧ stands T n S m p := by
  unfold occL; rw [List.mem_filter, List.mem_range, decide_eq_true_iff]
/-- a slice of bytes that came in, of whatever size -/
structure Bq (w : World) (A : Option Addr) (n c : Nat) (T : Nat → Nat) : Prop where
  rd : R0 w A n (bv T)
  lt : ∀ i, i < n → T i < 256
  nc : n ≤ c
  sz : n < 9223372036854775808
section
variable {A : Option Addr} {n c : Nat} {T : Nat → Nat} {B : Option Addr} {m e : Nat} {S : Nat → Nat} {w : World}
end
end Go.Proofs.YtpkgkppehefibaaDoor
