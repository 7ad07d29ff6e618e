/- impl.listed, IndexLookup, IndexLookupNil, IndexCount. -/
import Derived.Test.YtihegdecaocbgaaDoorE6
import Derived.Test.YtihegdecaocbgaaDoorE2
namespace Go.Proofs.YtihegdecaocbgaaDoor
open Go.RowKit Sa

theorem appendI (w : World) {lo hi' n : Nat} {A : Option Addr} {T : Nat → Int} (h : Rd w lo hi' A n (iv T)) (c : Nat) (hn : n < 1073741824) :
    ∃ A' c' w', (∀ ty, (Builtin.append_ #[39, 39] ty #[.slice none 0 0, .slice A n c]).run Tryd.prog w = .ok (.slice A' n c') w') ∧ n ≤ c' ∧ Wr w' w.heap.size w'.heap.size A' n (iv T) ∧ Below w.heap.size w w' := by
  obtain ⟨i0, hi, hz0, hz1, hz2⟩ := info_parts infoInt
  exact run_append_nil w _ _ i0 _ 8 Tryd.underlying39 hi hz0 hz1 hz2 rfl h c (fun _ _ => rfl) (by simp only [maxLen]; omega) (by omega)
/-- an index of a copy, looked up: what all of impl's functions begin with -/
structure Looked (T : Nat → Nat) (n : Nat) (S : Nat → Nat) (m : Nat) (N : Int) (d : Nat → Nat) (r q k : Nat) : Prop where
  sa : IsSA T n d
  fd : Found T n S m d N r q k
theorem Looked.kle {T S d : Nat → Nat} {n m r q k : Nat} {N : Int} (h : Looked T n S m N d r q k) : k ≤ q := by
  have := h.fd.k
  split at this <;> omega
theorem Looked.kn {T S d : Nat → Nat} {n m r q k : Nat} {N : Int} (h : Looked T n S m N d r q k) : k ≤ n := by
  have := h.kle; have := h.fd.le; omega

section
variable (A : Option Addr) (n c lo hi : Nat) (T : Nat → Nat) (B : Option Addr) (m e lo' hi' : Nat) (S : Nat → Nat) (N : Int) (w : World)

end
end Go.Proofs.YtihegdecaocbgaaDoor
