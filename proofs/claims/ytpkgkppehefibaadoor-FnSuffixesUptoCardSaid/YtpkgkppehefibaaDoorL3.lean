/- Plain: where s stands in texts that are made of texts. -/
import Derived.Test.YtpkgkppehefibaaDoorH2
namespace Go.Proofs.YtpkgkppehefibaaDoor
open Go.RowKit Sa

section
variable {T S U : Nat → Nat} {n m k t : Nat}
theorem mrk_iff : mrk T n S m t = true ↔ 0 < m ∧ stands T n S m t := by unfold mrk; exact decide_eq_true_iff
theorem mrk_out (h : n ≤ t) : mrk T n S m t = false := by
  unfold mrk; exact decide_eq_false fun h' => by have := h'.2.1; omega
theorem mrk_zero : mrk T n S 0 t = false := by unfold mrk; simp
theorem bool_eq {a b : Bool} (h : a = true ↔ b = true) : a = b := by cases a <;> cases b <;> simp_all
theorem qm_mrk {i : Int} : qm n (mrk T n S m) i = true ↔ 0 < m ∧ ∃ p : Nat, i = (p : Int) ∧ stands T n S m p := by
  by_cases h0 : i < 0
  · rw [qm_out (.inl h0)]; constructor
    · intro h; cases h
    · rintro ⟨_, p, rfl, _⟩; omega
  · obtain ⟨p, rfl⟩ : ∃ p : Nat, i = (p : Int) := ⟨i.toNat, by omega⟩
    by_cases h1 : p < n
    · rw [qm_in h1, mrk_iff]
      constructor
      · rintro ⟨a, b⟩; exact ⟨a, p, rfl, b⟩
      · rintro ⟨a, q, e, b⟩; obtain rfl : p = q := by omega
        exact ⟨a, b⟩
    · rw [qm_out (.inr (by omega))]
      constructor
      · intro h; cases h
      · rintro ⟨a, q, e, b⟩; have := b.1; omega
theorem qm_mrk' {p : Nat} : qm n (mrk T n S m) (p : Int) = mrk T n S m p := by
  by_cases h1 : p < n
  · exact qm_in h1
  · rw [qm_out (.inr (by omega)), mrk_out (by omega)]
theorem stands_cat : stands T n (cat S m U) (m + k) t ↔ stands T n S m t ∧ stands T n U k (t + m) := by
  constructor
  · rintro ⟨h1, h2⟩
    refine ⟨⟨by omega, fun i hi => ?_⟩, ⟨by omega, fun i hi => ?_⟩⟩
    · rw [h2 i (by omega)]; unfold cat; rw [if_pos hi]
    · rw [Nat.add_assoc, h2 (m + i) (by omega)]; unfold cat; rw [if_neg (by omega)]; congr 1; omega
  · rintro ⟨⟨h1, h2⟩, ⟨h3, h4⟩⟩
    refine ⟨by omega, fun i hi => ?_⟩
    unfold cat
    split
    · exact h2 i (by assumption)
    · rw [← h4 (i - m) (by omega)]; congr 1; omega
theorem mrk_single {b : Nat} (h : t < n) : mrk T n (fun _ => b) 1 t = decide (T t = b) := by
  unfold mrk stands
  apply decide_eq_decide.2
  constructor
  · rintro ⟨_, _, h2⟩; exact h2 0 (by omega)
  · intro h2; exact ⟨by omega, by omega, fun i hi => by rw [show i = 0 by omega]; exact h2⟩
theorem mrk_joined (hm : 0 < m) (hk : 0 < k) : mrk T n (cat S m U) (m + k) t = (mrk T n S m t && qm n (mrk T n U k) (((t + m : Nat) : Int))) := by
  apply bool_eq
  rw [mrk_iff, Bool.and_eq_true, mrk_iff, qm_mrk', mrk_iff, stands_cat]
  constructor
  · rintro ⟨_, h1, h2⟩; exact ⟨⟨hm, h1⟩, hk, h2⟩
  · rintro ⟨⟨_, h1⟩, _, h2⟩; exact ⟨by omega, h1, h2⟩
theorem mrk_longer {b : Nat} (hm : 0 < m) : mrk T n (cat S m fun _ => b) (m + 1) t = (mrk T n S m t && (decide (t + m < n) && decide (T (t + m) = b))) := by
  apply bool_eq
  rw [mrk_iff, Bool.and_eq_true, mrk_iff, Bool.and_eq_true, decide_eq_true_iff, decide_eq_true_iff, stands_cat]
  constructor
  · rintro ⟨_, h1, h2⟩; exact ⟨⟨hm, h1⟩, by have := h2.1; omega, h2.2 0 (by omega)⟩
  · rintro ⟨⟨_, h1⟩, h2, h3⟩; exact ⟨by omega, h1, by omega, fun i hi => by rw [show i = 0 by omega]; exact h3⟩
theorem mrk_cut (hk : k ≤ n) : mrk T k S m t = (mrk T n S m t && decide (t + m ≤ k)) := by
  apply bool_eq
  rw [mrk_iff, Bool.and_eq_true, mrk_iff, decide_eq_true_iff]
  constructor
  · rintro ⟨h0, h1, h2⟩; exact ⟨⟨h0, by omega, h2⟩, h1⟩
  · rintro ⟨⟨h0, h1, h2⟩, h3⟩; exact ⟨h0, h3, h2⟩
theorem mrk_tail (hk : k ≤ n) : mrk (fun i => T (k + i)) (n - k) S m t = mrk T n S m (k + t) := by
  apply bool_eq
  rw [mrk_iff, mrk_iff]
  unfold stands
  constructor
  · rintro ⟨h0, h1, h2⟩; exact ⟨h0, by omega, fun i hi => by rw [Nat.add_assoc]; exact h2 i hi⟩
  · rintro ⟨h0, h1, h2⟩; exact ⟨h0, by omega, fun i hi => by show T (k + (t + i)) = S i; rw [← Nat.add_assoc]; exact h2 i hi⟩
/-- over two texts -/
theorem two_first {n' : Nat} (h : stands T n S m t) : stands (cat T n U) (n + n') S m t := by
  refine ⟨by have := h.1; omega, fun i hi => ?_⟩
  have := h.1
  unfold cat; rw [if_pos (by omega)]; exact h.2 i hi
theorem two_second {n' : Nat} : stands (cat T n U) (n + n') S m (n + t) ↔ stands U n' S m t := by
  unfold stands cat
  constructor
  · rintro ⟨h1, h2⟩
    refine ⟨by omega, fun i hi => ?_⟩
    have := h2 i hi
    rw [if_neg (by omega), show n + t + i - n = t + i by omega] at this
    exact this
  · rintro ⟨h1, h2⟩
    refine ⟨by omega, fun i hi => ?_⟩
    rw [if_neg (by omega), show n + t + i - n = t + i by omega]; exact h2 i hi
theorem two_back {n' : Nat} (h : stands (cat T n U) (n + n') S m t) (h' : t + m ≤ n) : stands T n S m t := by
  refine ⟨h', fun i hi => ?_⟩
  have := h.2 i hi
  unfold cat at this; rw [if_pos (by omega)] at this; exact this
theorem two_in {n' : Nat} (h : (qm n (mrk T n S m) (t : Int) || qm n' (mrk U n' S m) ((t : Int) - (n : Int))) = true) : mrk (cat T n U) (n + n') S m t = true := by
  rw [Bool.or_eq_true] at h
  rw [mrk_iff]
  rcases h with h | h
  · rw [qm_mrk', mrk_iff] at h; exact ⟨h.1, two_first h.2⟩
  · rw [qm_mrk] at h
    obtain ⟨h0, p, e, h1⟩ := h
    obtain rfl : t = n + p := by omega
    exact ⟨h0, two_second.2 h1⟩
theorem two_out {n' : Nat} (h : mrk (cat T n U) (n + n') S m t = true) (h' : (qm n (mrk T n S m) (t : Int) || qm n' (mrk U n' S m) ((t : Int) - (n : Int))) = false) : t < n ∧ n < t + m := by
  rw [Bool.or_eq_false_iff] at h'
  rw [mrk_iff] at h
  constructor
  · rcases Nat.lt_or_ge t n with c | c
    · exact c
    · obtain ⟨p, rfl⟩ : ∃ p, t = n + p := ⟨t - n, by omega⟩
      have h2 : qm n' (mrk U n' S m) (((n + p : Nat) : Int) - (n : Int)) = true := qm_mrk.2 ⟨h.1, p, by omega, two_second.1 h.2⟩
      rw [h2] at h'; cases h'.2
  · rcases Nat.lt_or_ge n (t + m) with c | c
    · exact c
    · have h2 : qm n (mrk T n S m) (t : Int) = true := by rw [qm_mrk', mrk_iff]; exact ⟨h.1, two_back h.2 c⟩
      rw [h2] at h'; cases h'.1
theorem stands_rev (h : t + m ≤ n) : stands (rev T n) n (rev S m) m (n - m - t) ↔ stands T n S m t := by
  unfold stands rev
  constructor
  · rintro ⟨_, h2⟩
    refine ⟨h, fun i hi => ?_⟩
    have := h2 (m - 1 - i) (by omega)
    rw [show n - 1 - (n - m - t + (m - 1 - i)) = t + i by omega, show m - 1 - (m - 1 - i) = i by omega] at this
    exact this
  · rintro ⟨_, h2⟩
    refine ⟨by omega, fun i hi => ?_⟩
    rw [← h2 (m - 1 - i) (by omega)]; congr 1; omega
theorem mrk_rev1 (h : mrk T n S m t = true) : qm n (mrk (rev T n) n (rev S m) m) ((n : Int) - (m : Int) - (t : Int)) = true := by
  rw [mrk_iff] at h
  have h1 := h.2.1
  exact qm_mrk.2 ⟨h.1, n - m - t, by omega, (stands_rev h1).2 h.2⟩
theorem mrk_rev2 (h : mrk (rev T n) n (rev S m) m t = true) : qm n (mrk T n S m) ((n : Int) - (m : Int) - (t : Int)) = true := by
  rw [mrk_iff] at h
  have h1 := h.2.1
  refine qm_mrk.2 ⟨h.1, n - m - t, by omega, (stands_rev (by omega)).1 ?_⟩
  rw [show n - m - (n - m - t) = t by omega]; exact h.2
theorem mrk_map {f : Nat → Nat} (hf : ∀ a b, a < 256 → b < 256 → f a = f b → a = b) (hT : ∀ i, i < n → T i < 256) (hS : ∀ i, i < m → S i < 256) : mrk (fun i => f (T i)) n (fun i => f (S i)) m t = mrk T n S m t := by
  apply bool_eq
  rw [mrk_iff, mrk_iff]
  constructor
  · rintro ⟨h0, h1, h2⟩; exact ⟨h0, h1, fun i hi => hf _ _ (hT _ (by omega)) (hS _ hi) (h2 i hi)⟩
  · rintro ⟨h0, h1, h2⟩; exact ⟨h0, h1, fun i hi => by show f (T (t + i)) = f (S i); rw [h2 i hi]⟩
theorem mrk_twice1 (h : mrk T n S m t = true) : mrk (cat T n T) (n + n) S m t = true ∧ qm (n + n) (mrk (cat T n T) (n + n) S m) ((t + n : Nat) : Int) = true := by
  rw [mrk_iff] at h
  exact ⟨mrk_iff.2 ⟨h.1, two_first h.2⟩, by rw [qm_mrk', mrk_iff, Nat.add_comm t n]; exact ⟨h.1, two_second.2 h.2⟩⟩
theorem mrk_twice2 (h : qm (n + n) (mrk (cat T n T) (n + n) S m) ((t + n : Nat) : Int) = true) : mrk T n S m t = true := by
  rw [qm_mrk', mrk_iff, Nat.add_comm t n] at h
  exact mrk_iff.2 ⟨h.1, two_second.1 h.2⟩
theorem mrk_inner {a b : Nat} (hab : a < b) (hb : b ≤ m) (h : mrk T n S m t = true) : qm n (mrk T n (fun i => S (a + i)) (b - a)) ((t + a : Nat) : Int) = true := by
  rw [mrk_iff] at h
  have h1 := h.2.1
  rw [qm_mrk', mrk_iff]
  exact ⟨by omega, by omega, fun i hi => by show T (t + a + i) = S (a + i); rw [← h.2.2 (a + i) (by omega), Nat.add_assoc]⟩
theorem mrk_part {a b : Nat} (hab : a < b) (hb : b ≤ n) : mrk T n (fun i => T (a + i)) (b - a) a = true :=
  mrk_iff.2 ⟨by omega, by omega, fun _ _ => rfl⟩
theorem mrk_const {b : Nat} (hm : 0 < m) : mrk (fun _ => b) n (fun _ => b) m t = decide (t + m ≤ n) := by
  unfold mrk stands; apply decide_eq_decide.2
  exact ⟨fun h => h.2.1, fun h => ⟨hm, h, fun _ _ => rfl⟩⟩
theorem cn_below {j : Nat} (h : j ≤ k) : cn (fun i => decide (i < j)) k = j := by
  have h1 := pigeon (P := fun i => decide (i < j)) (n := k) (a := 0) (b := j) (fun i => i) (fun i j _ _ _ => by omega) (fun i _ h2 => ⟨by omega, decide_eq_true h2⟩)
  have h2 := pigeon_onto (P := fun i => decide (i < j)) (n := k) (a := 0) (b := j) (fun i => i) (fun x _ hx => ⟨x, by omega, of_decide_eq_true hx, rfl⟩)
  omega
theorem cn_const {b : Nat} (hm : 0 < m) (hk : m ≤ n) : cn (mrk (fun _ => b) n (fun _ => b) m) n = n - m + 1 := by
  rw [cn_congr (Q := fun i => decide (i < n - m + 1)) (fun i _ => by rw [mrk_const hm]; apply decide_eq_decide.2; omega)]
  exact cn_below (by omega)
end
end Go.Proofs.YtpkgkppehefibaaDoor
