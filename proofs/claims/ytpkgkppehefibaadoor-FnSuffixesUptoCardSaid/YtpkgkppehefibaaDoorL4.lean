/- Plain: counts of what stands where. -/
import Derived.Test.YtpkgkppehefibaaDoorL3
namespace Go.Proofs.YtpkgkppehefibaaDoor
open Go.RowKit Sa

section
variable {T S U : Nat → Nat} {n m k b : Nat}
theorem cn_none {P : Nat → Bool} {k : Nat} (h : ∀ i, i < k → P i = false) : cn P k = 0 := by rw [cn_congr (Q := fun _ => false) h]; exact cn_false k
theorem occ_none (h : ∀ p, ¬ stands T n S m p) : occ T n S m n = 0 := cn_none fun i _ => decide_eq_false fun h' => h i h'.2
theorem strange {p : Nat} (hp : stands T n (cat S m fun _ => b) (m + 1) p) : T (p + m) = b := by
  have := (stands_cat.1 hp).2.2 0 (by omega)
  exact this
theorem cn_one {P : Nat → Bool} {p : Nat} (hp : p < k) (h : ∀ i, i < k → (P i = true ↔ i = p)) : cn P k = 1 := by
  have h1 := pigeon (P := P) (n := k) (a := 0) (b := 1) (fun _ => p) (fun i j _ _ _ => by omega) (fun i _ _ => ⟨hp, (h p hp).2 rfl⟩)
  have h2 := pigeon_onto (P := P) (n := k) (a := 0) (b := 1) (fun _ => p) (fun x hx hx2 => ⟨0, by omega, by omega, ((h x hx).1 hx2).symm⟩)
  omega
theorem strange_one (h : ∀ u, u < n → T u ≠ b) : occ (cat T n fun _ => b) (n + 1) (fun _ => b) 1 (n + 1) = 1 := by
  refine cn_one (p := n) (by omega) fun i hi => ?_
  rw [decide_eq_true_iff]
  constructor
  · rintro ⟨_, _, h2⟩
    have h3 := h2 0 (by omega)
    rcases Nat.lt_or_ge i n with c | c
    · rw [Nat.add_zero] at h3; unfold cat at h3; rw [if_pos c] at h3; exact absurd h3 (h i c)
    · omega
  · intro hi; subst hi
    exact ⟨by omega, by omega, fun k hk => by unfold cat; rw [if_neg (by omega)]⟩
end
end Go.Proofs.YtpkgkppehefibaaDoor
