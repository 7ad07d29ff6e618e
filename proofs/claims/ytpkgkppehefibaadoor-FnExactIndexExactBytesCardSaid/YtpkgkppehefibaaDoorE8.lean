/- spec.occurs, Occurrences, IndexCount. -/
import Derived.Test.YtpkgkppehefibaaDoorE7
namespace Go.Proofs.YtpkgkppehefibaaDoor
open Go.RowKit Sa

/-- append(out, t) onto a row of the call's own -/
theorem appendOneI (w : World) (base : Nat) (v : Value) (m : Nat) (xs : List Value) (hown : w.ownsRow base 3 1 v m xs) (hm : m < 1073741824) (hbase : base ≤ w.heap.size) (t : Int) :
    ∃ v' w', (∀ ty, (Builtin.append_ #[26, 26] ty #[v, .slice (some ⟨w.heap.size, 0, none⟩) 1 1]).run Tryd.prog (w.alloc (.cells #[.int .i64 t] 3)) = .ok v' w') ∧
      w'.ownsRow base 3 1 v' (m + 1) (xs ++ [.int .i64 t]) ∧ Below base w w' := by
  obtain ⟨i0, hi, hz0, hz1, hz2⟩ := info_parts infoInt
  have hrd : Rd (w.alloc (.cells #[.int .i64 t] 3)) 0 (w.heap.size + 1) (some ⟨w.heap.size, 0, none⟩) 1 (fun _ => .int .i64 t) := ⟨fun _ => ⟨_, 0, rfl, Nat.zero_le _, by omega, fun i hi => by
    obtain rfl : i = 0 := by omega
    rw [World.cell?_alloc_at _ _ _ _ rfl]; rfl⟩⟩
  obtain ⟨v', w', h1, h2, h3, h4⟩ := run_append_row (P := Tryd.prog) (w.alloc (.cells #[.int .i64 t] 3)) base 26 3 i0 _ 8 Tryd.underlying26 hi hz0 hz1 hz2 rfl v m xs (hown.alloc _) hrd 1 (fun _ _ => rfl) (by simp only [maxLen]; omega) (by omega) (by simp; omega)
  exact ⟨v', w', h1, h2, ((Below.refl _ _).alloc hbase _).grown h3 (by simp; omega) (fun k hk => (hown.lt k hk).1)⟩

/-- so many of the first i places are places of s -/
def occ (T : Nat → Nat) (n : Nat) (S : Nat → Nat) (m i : Nat) : Nat := cn (fun p => decide (0 < m ∧ stands T n S m p)) i

/-- THE PLAIN LAW: as many are found as occur -/
theorem Found.count {T S d : Nat → Nat} {n m r q k : Nat} {N : Int} (hs : IsSA T n d) (h : Found T n S m d N r q k) : occ T n S m n = q := by
  have hl := h.le
  have h1 := pigeon (P := fun p => decide (0 < m ∧ stands T n S m p)) (n := n) (a := r) (b := r + q) d (fun i j h1 h2 h3 e => by have := hs.inj (by omega) (by omega) e; omega)
    (fun i h1 h2 => ⟨hs.lt i (by omega), decide_eq_true ((h.iff i (by omega)).2 ⟨h1, h2⟩)⟩)
  have h2 := pigeon_onto (P := fun p => decide (0 < m ∧ stands T n S m p)) (n := n) (a := r) (b := r + q) d (fun x hx hp => by
    obtain ⟨i, hi, rfl⟩ := hs.onto x hx
    obtain ⟨h1, h2⟩ := (h.iff i hi).1 (of_decide_eq_true hp)
    exact ⟨i, h1, h2, rfl⟩)
  unfold occ
  omega
end Go.Proofs.YtpkgkppehefibaaDoor
