/- Plain: the suffix array by first bytes; sums of counts. -/
import Derived.Test.YtpkgkppehefibaaDoorL4
namespace Go.Proofs.YtpkgkppehefibaaDoor
open Go.RowKit Sa

/-- the sum of the first k -/
def sumN (f : Nat → Nat) : Nat → Nat
  | 0 => 0
  | k + 1 => sumN f k + f k
theorem sumN_congr {f g : Nat → Nat} {k : Nat} (h : ∀ i, i < k → f i = g i) : sumN f k = sumN g k := by
  induction k with
  | zero => rfl
  | succ k ih => simp only [sumN]; rw [ih (fun i hi => h i (by omega)), h k (by omega)]
theorem sumN_add {f g : Nat → Nat} {k : Nat} : sumN (fun i => f i + g i) k = sumN f k + sumN g k := by
  induction k with
  | zero => rfl
  | succ k ih => simp only [sumN]; rw [ih]; omega
theorem sumN_zero {k : Nat} : sumN (fun _ => 0) k = 0 := by
  induction k with
  | zero => rfl
  | succ k ih => simp only [sumN]; omega
theorem sumN_mono {f : Nat → Nat} {j k : Nat} (h : j ≤ k) : sumN f j ≤ sumN f k := by
  induction k with
  | zero => rw [show j = 0 by omega]; exact Nat.le_refl _
  | succ k ih =>
    rcases Nat.lt_or_ge j (k + 1) with c | c
    · have := ih (by omega); simp only [sumN]; omega
    · rw [show j = k + 1 by omega]; exact Nat.le_refl _
/-- one of k -/
theorem sumN_ite {x k : Nat} : sumN (fun b => if x = b then 1 else 0) k = if x < k then 1 else 0 := by
  induction k with
  | zero => simp [sumN]
  | succ k ih =>
    simp only [sumN]; rw [ih]
    by_cases h1 : x < k
    · rw [if_pos h1, if_neg (by omega), if_pos (by omega)]
    · by_cases h2 : x = k
      · rw [if_neg h1, if_pos h2, if_pos (by omega)]
      · rw [if_neg h1, if_neg h2, if_neg (by omega)]
theorem cn_step (P : Nat → Bool) (k : Nat) : cn P (k + 1) = cn P k + if P k = true then 1 else 0 := by
  simp only [cn]
theorem sumN_cn {P : Nat → Nat → Bool} {k : Nat} : ∀ n, sumN (fun b => cn (P b) n) k = cn (fun _ => false) n + sumN (fun b => cn (P b) n) k := fun n => by rw [cn_false]; omega
/-- each place that P has is had by just one of the P b -/
theorem cn_split {P : Nat → Bool} {Q : Nat → Nat → Bool} {R : Nat → Bool} {k : Nat} : ∀ n, (∀ p, p < n → (if P p = true then 1 else 0) = sumN (fun b => if Q b p = true then 1 else 0) k + if R p = true then 1 else 0) → cn P n = sumN (fun b => cn (Q b) n) k + cn R n
  | 0, _ => by simp only [cn]; rw [sumN_zero]
  | n + 1, h => by
    have ih := cn_split n (fun p hp => h p (by omega))
    have hn := h n (by omega)
    rw [cn_step, ih, cn_step R, sumN_congr (fun b _ => cn_step (Q b) n), sumN_add, hn]
    omega

section
variable {T S : Nat → Nat} {n m : Nat}
/-- s and one byte more, for all bytes together -/
theorem continued (hm : 0 < m) (hT : ∀ i, i < n → T i < 256) : occ T n S m n = sumN (fun b => occ T n (cat S m fun _ => b) (m + 1) n) 256 + if m ≤ n ∧ stands T n S m (n - m) then 1 else 0 := by
  have h := cn_split (P := fun p => decide (0 < m ∧ stands T n S m p)) (Q := fun b p => decide (0 < m + 1 ∧ stands T n (cat S m fun _ => b) (m + 1) p)) (R := fun p => decide (stands T n S m p ∧ p + m = n)) (k := 256) n (fun p hp => by
    by_cases hs : stands T n S m p
    · by_cases he : p + m = n
      · rw [if_pos (decide_eq_true ⟨hm, hs⟩), if_pos (decide_eq_true ⟨hs, he⟩), sumN_congr (g := fun _ => 0) (fun b _ => if_neg (by
          rw [decide_eq_true_iff]; rintro ⟨_, h2⟩; have := h2.1; omega)), sumN_zero]
      · have hlt : p + m < n := by have := hs.1; omega
        rw [if_pos (decide_eq_true ⟨hm, hs⟩), if_neg (by rw [decide_eq_true_iff]; exact fun h => he h.2)]
        rw [sumN_congr (g := fun b => if T (p + m) = b then 1 else 0) (fun b _ => by
          have : (0 < m + 1 ∧ stands T n (cat S m fun _ => b) (m + 1) p) ↔ T (p + m) = b := by
            rw [stands_cat]
            constructor
            · rintro ⟨_, _, h3⟩; exact h3.2 0 (by omega)
            · intro h3; exact ⟨by omega, hs, by omega, fun i hi => by rw [show i = 0 by omega]; exact h3⟩
          simp only [decide_eq_true_iff, this]), sumN_ite, if_pos (hT _ hlt)]
    · rw [if_neg (by rw [decide_eq_true_iff]; exact fun h => hs h.2), if_neg (by rw [decide_eq_true_iff]; exact fun h => hs h.1), sumN_congr (g := fun _ => 0) (fun b _ => if_neg (by
          rw [decide_eq_true_iff, stands_cat]; rintro ⟨_, h2, _⟩; exact hs h2)), sumN_zero])
  unfold occ
  rw [h]
  congr 1
  by_cases hc : m ≤ n ∧ stands T n S m (n - m)
  · rw [if_pos hc]
    refine cn_one (p := n - m) (by omega) fun i hi => ?_
    rw [decide_eq_true_iff]
    constructor
    · rintro ⟨_, h2⟩; omega
    · intro h2; subst h2; exact ⟨hc.2, by omega⟩
  · rw [if_neg hc]
    refine cn_none fun i hi => decide_eq_false fun h2 => hc ⟨by omega, ?_⟩
    rw [show n - m = i by omega]; exact h2.1

/-- so many suffixes begin with a lesser byte -/
def off (T : Nat → Nat) (n b : Nat) : Nat := cn (fun p => decide (T p < b)) n
theorem off_zero : off T n 0 = 0 := cn_none fun i _ => decide_eq_false (by omega)
theorem off_step (b : Nat) : off T n (b + 1) = off T n b + occ T n (fun _ => b) 1 n := by
  unfold off occ
  refine cn_add (fun p hp => ⟨?_, ?_⟩)
  · have h1 : decide (0 < 1 ∧ stands T n (fun _ => b) 1 p) = decide (T p = b) := mrk_single hp
    rw [h1]
    apply bool_eq
    rw [Bool.or_eq_true, decide_eq_true_iff, decide_eq_true_iff, decide_eq_true_iff]; omega
  · have h1 : decide (0 < 1 ∧ stands T n (fun _ => b) 1 p) = decide (T p = b) := mrk_single hp
    rw [h1, decide_eq_true_iff, decide_eq_true_iff]; omega
theorem off_all (hT : ∀ i, i < n → T i < 256) : off T n 256 = n := by
  unfold off; rw [cn_congr (Q := fun _ => true) (fun i hi => decide_eq_true (hT i hi))]; exact cn_true n
theorem off_le {b : Nat} : off T n b ≤ n := cn_le _ _
theorem sa_head (h : HasSA T n) {i j : Nat} (hij : i ≤ j) (hj : j < n) : T (saOf T n i) ≤ T (saOf T n j) := by
  have hs := saOf_is h.choose_spec
  rcases Nat.lt_or_ge i j with c | c
  · have h1 := hs.srt i j c hj
    rw [slt_cons (hs.lt i (by omega)) (hs.lt j hj)] at h1
    omega
  · rw [show i = j by omega]; exact Nat.le_refl _
/-- the suffixes that begin with a lesser byte stand first -/
theorem off_iff (h : HasSA T n) {b j : Nat} (hj : j < n) : T (saOf T n j) < b ↔ j < off T n b := by
  have hs := saOf_is h.choose_spec
  -- where the first that is not less stands
  obtain ⟨r, hr⟩ := First.exists (fun k => decide (¬ T (saOf T n k) < b)) n
  have low : ∀ k, k < r → k < n → T (saOf T n k) < b := fun k hk hkn => by
    have h1 := hr.low (by omega)
    have h2 := hr.le
    have h3 : T (saOf T n (r - 1)) < b := by simpa using h1
    have := sa_head h (i := k) (j := r - 1) (by omega) (by omega)
    omega
  have high : ∀ k, r ≤ k → k < n → ¬ T (saOf T n k) < b := fun k hk hkn => by
    have h1 := hr.at_ (by omega)
    have h3 : ¬ T (saOf T n r) < b := by simpa using h1
    have := sa_head h (i := r) (j := k) hk hkn
    omega
  have hle := hr.le
  have e1 := pigeon (P := fun p => decide (T p < b)) (n := n) (a := 0) (b := r) (saOf T n) (fun i j _ h2 h3 e => by have := hs.inj (p := i) (q := j) (by omega) (by omega) e; omega)
    (fun i _ h2 => ⟨hs.lt i (by omega), decide_eq_true (low i h2 (by omega))⟩)
  have e2 := pigeon_onto (P := fun p => decide (T p < b)) (n := n) (a := 0) (b := r) (saOf T n) (fun x hx hp => by
    obtain ⟨i, hi, rfl⟩ := hs.onto x hx
    refine ⟨i, by omega, ?_, rfl⟩
    rcases Nat.lt_or_ge i r with c | c
    · exact c
    · exact absurd (of_decide_eq_true hp) (high i c hi))
  have : off T n b = r := by unfold off; omega
  rw [this]
  constructor
  · intro h1
    rcases Nat.lt_or_ge j r with c | c
    · exact c
    · exact absurd h1 (high j c hj)
  · intro h1; exact low j h1 hj
/-- the list for one byte is a piece of the suffix array -/
theorem hit_single (h : HasSA T n) {b i : Nat} (hi : i < occ T n (fun _ => b) 1 n) : hit T n (fun _ => b) 1 i = saOf T n (off T n b + i) := by
  obtain ⟨f1, f2⟩ := fst_spec (S := fun _ => b) (m := 1) h
  have hst := off_step (T := T) (n := n) b
  have hle := off_le (T := T) (n := n) (b := b + 1)
  have key : ∀ j, j < n → (fst T n (fun _ => b) 1 ≤ j ∧ j < fst T n (fun _ => b) 1 + occ T n (fun _ => b) 1 n ↔ off T n b ≤ j ∧ j < off T n b + occ T n (fun _ => b) 1 n) := fun j hj => by
    rw [← f2 j hj]
    have h1 : decide (0 < 1 ∧ stands T n (fun _ => b) 1 (saOf T n j)) = decide (T (saOf T n j) = b) := mrk_single ((saOf_is h.choose_spec).lt j hj)
    have h2 : (0 < 1 ∧ stands T n (fun _ => b) 1 (saOf T n j)) ↔ T (saOf T n j) = b := decide_eq_decide.1 h1
    rw [h2, ← hst]
    have a1 := off_iff h (b := b) hj
    have a2 := off_iff h (b := b + 1) hj
    omega
  have k1 := (key (fst T n (fun _ => b) 1) (by omega)).1 ⟨by omega, by omega⟩
  have k2 := (key (off T n b) (by omega)).2 ⟨by omega, by omega⟩
  unfold hit
  rw [show fst T n (fun _ => b) 1 = off T n b by omega]
end
end Go.Proofs.YtpkgkppehefibaaDoor
