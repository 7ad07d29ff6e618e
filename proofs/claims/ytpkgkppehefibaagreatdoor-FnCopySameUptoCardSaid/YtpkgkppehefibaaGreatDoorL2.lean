/- Plain: the one list that a lookup hands out. -/
import Derived.Test.YtpkgkppehefibaaGreatDoorE8
namespace Go.Proofs.YtpkgkppehefibaaGreatDoor
open Go.RowKit Sa

/-- two texts, one behind the other -/
def cat (T : Nat → Nat) (n : Nat) (S : Nat → Nat) : Nat → Nat := fun i => if i < n then T i else S (i - n)
/-- a suffix array is one -/
theorem Sa.IsSA.below {T d d' : Nat → Nat} {n : Nat} (h : IsSA T n d) (h' : IsSA T n d') (p : Nat) (ih : ∀ q, q < p → d q = d' q) (hp : p < n) : ¬ slt T n (d p) (d' p) := by
  intro hs
  obtain ⟨q, hq, e⟩ := h'.onto (d p) (h.lt p hp)
  rcases Nat.lt_trichotomy q p with a | a | a
  · have := h.inj (by omega) hp ((ih q a).trans e); omega
  · subst a; rw [e] at hs; exact slt_irrefl _ hs
  · have := h'.srt p q a hq; rw [e] at this; exact slt_irrefl _ (slt_trans hs this)
theorem Sa.IsSA.uniq {T d d' : Nat → Nat} {n : Nat} (h : IsSA T n d) (h' : IsSA T n d') : ∀ p, p < n → d p = d' p := by
  intro p
  induction p using Nat.strongRecOn with
  | ind p ih =>
    intro hp
    have ih' : ∀ q, q < p → d q = d' q := fun q hq => ih q hq (by omega)
    by_cases e : d p = d' p
    · exact e
    rcases slt_total (T := T) (n := n) (Nat.le_of_lt (h.lt p hp)) (Nat.le_of_lt (h'.lt p hp)) e with c | c
    · exact absurd c (h.below h' p ih' hp)
    · exact absurd c (h'.below h p (fun q hq => (ih' q hq).symm) hp)

open Classical in
/-- the suffix array -/
noncomputable def saOf (T : Nat → Nat) (n : Nat) : Nat → Nat := if h : ∃ d, IsSA T n d then h.choose else fun _ => 0
theorem saOf_is {T d : Nat → Nat} {n : Nat} (h : IsSA T n d) : IsSA T n (saOf T n) := by
  have h1 : ∃ d, IsSA T n d := ⟨d, h⟩
  unfold saOf; rw [dif_pos h1]; exact h1.choose_spec
open Classical in
/-- where what is found begins -/
noncomputable def fst (T : Nat → Nat) (n : Nat) (S : Nat → Nat) (m : Nat) : Nat :=
  if h : ∃ r, r + occ T n S m n ≤ n ∧ ∀ j, j < n → ((0 < m ∧ stands T n S m (saOf T n j)) ↔ r ≤ j ∧ j < r + occ T n S m n) then h.choose else 0
/-- THE LIST OF ALL PLACES, in the order of the suffix array -/
noncomputable def hit (T : Nat → Nat) (n : Nat) (S : Nat → Nat) (m j : Nat) : Nat := saOf T n (fst T n S m + j)
/-- so many are handed out -/
def num (T : Nat → Nat) (n : Nat) (S : Nat → Nat) (m : Nat) (N : Int) : Nat := if N < 0 ∨ (occ T n S m n : Int) < N then occ T n S m n else N.toNat
/-- there is a suffix array -/
def HasSA (T : Nat → Nat) (n : Nat) : Prop := ∃ d, IsSA T n d

section
variable {T S : Nat → Nat} {n m : Nat}
theorem fst_spec (h : HasSA T n) : fst T n S m + occ T n S m n ≤ n ∧ ∀ j, j < n → ((0 < m ∧ stands T n S m (saOf T n j)) ↔ fst T n S m ≤ j ∧ j < fst T n S m + occ T n S m n) := by
  obtain ⟨d, hd⟩ := h
  have hs := saOf_is hd
  have hex : ∃ r, r + occ T n S m n ≤ n ∧ ∀ j, j < n → ((0 < m ∧ stands T n S m (saOf T n j)) ↔ r ≤ j ∧ j < r + occ T n S m n) := by
    rcases Nat.eq_zero_or_pos m with h0 | h0
    · subst h0
      have h1 : occ T n S 0 n = 0 := by unfold occ; rw [cn_congr (Q := fun _ => false) (fun i _ => by simp)]; exact cn_false n
      exact ⟨0, by omega, fun j _ => by rw [h1]; omega⟩
    · obtain ⟨r, q, h1, h2⟩ := range_exists (S := S) (m := m) hs
      have hf : Found T n S m (saOf T n) (-1) r q q := ⟨h1, fun j hj => by rw [← h2 j hj]; simp [h0], by simp⟩
      rw [hf.count hs]
      exact ⟨r, h1, hf.iff⟩
  unfold fst; rw [dif_pos hex]; exact hex.choose_spec
theorem hit_lt (h : HasSA T n) {j : Nat} (hj : j < occ T n S m n) : hit T n S m j < n := by
  have := (fst_spec (S := S) (m := m) h).1
  exact (saOf_is h.choose_spec).lt _ (by omega)
theorem hit_stands (h : HasSA T n) {j : Nat} (hj : j < occ T n S m n) : 0 < m ∧ stands T n S m (hit T n S m j) := by
  obtain ⟨h1, h2⟩ := fst_spec (S := S) (m := m) h
  exact (h2 _ (by omega)).2 ⟨by omega, by omega⟩
theorem hit_inj (h : HasSA T n) {i j : Nat} (hi : i < occ T n S m n) (hj : j < occ T n S m n) (e : hit T n S m i = hit T n S m j) : i = j := by
  have := (fst_spec (S := S) (m := m) h).1
  have := (saOf_is h.choose_spec).inj (p := fst T n S m + i) (q := fst T n S m + j) (by omega) (by omega) e
  omega
theorem hit_onto (h : HasSA T n) {p : Nat} (hm : 0 < m) (hp : stands T n S m p) : ∃ j, j < occ T n S m n ∧ hit T n S m j = p := by
  obtain ⟨h1, h2⟩ := fst_spec (S := S) (m := m) h
  obtain ⟨j, hj, e⟩ := (saOf_is h.choose_spec).onto p (by have := hp.1; omega)
  obtain ⟨h3, h4⟩ := (h2 j hj).1 ⟨hm, by rw [e]; exact hp⟩
  exact ⟨j - fst T n S m, by omega, by unfold hit; rw [show fst T n S m + (j - fst T n S m) = j by omega, e]⟩
theorem hit_srt (h : HasSA T n) {i j : Nat} (hij : i < j) (hj : j < occ T n S m n) : slt T n (hit T n S m i) (hit T n S m j) := by
  have := (fst_spec (S := S) (m := m) h).1
  exact (saOf_is h.choose_spec).srt _ _ (by omega) (by omega)
theorem num_le {N : Int} : num T n S m N ≤ occ T n S m n := by unfold num; split <;> omega
theorem occ_le : occ T n S m n ≤ n := cn_le _ _
theorem num_neg {N : Int} (h : N < 0) : num T n S m N = occ T n S m n := by unfold num; rw [if_pos (.inl h)]
theorem occ_zero (h : occ T n S m n = 0) (hm : 0 < m) {p : Nat} (hp : stands T n S m p) : False := by
  have h1 := pigeon (P := fun p => decide (0 < m ∧ stands T n S m p)) (n := n) (a := 0) (b := 1) (fun _ => p) (fun i j _ _ _ => by omega) (fun i _ _ => ⟨by have := hp.1; omega, decide_eq_true ⟨hm, hp⟩⟩)
  unfold occ at h; omega
end

theorem suf_shift {T : Nat → Nat} {n p : Nat} : suf (fun i => T (p + i)) (n - p) 0 = suf T n p := by
  apply List.ext_getElem?
  intro i
  rcases Nat.lt_or_ge i (n - p) with h | h
  · rw [get_suf (by omega), get_suf h, Nat.zero_add]
  · rw [List.getElem?_eq_none (by rw [len_suf]; omega), List.getElem?_eq_none (by rw [len_suf]; omega)]
/-- what begins with s stands where s stands -/
theorem narrower {T S U : Nat → Nat} {n m k : Nat} (h : HasSA T n) (hm : 0 < m) (h0 : 0 < occ T n (cat S m U) (m + k) n) :
    ∃ f, f + occ T n (cat S m U) (m + k) n ≤ occ T n S m n ∧ ∀ j, j < occ T n (cat S m U) (m + k) n → hit T n S m (f + j) = hit T n (cat S m U) (m + k) j := by
  obtain ⟨a1, a2⟩ := fst_spec (S := S) (m := m) h
  obtain ⟨b1, b2⟩ := fst_spec (S := cat S m U) (m := m + k) h
  have key : ∀ j, fst T n (cat S m U) (m + k) ≤ j → j < fst T n (cat S m U) (m + k) + occ T n (cat S m U) (m + k) n → fst T n S m ≤ j ∧ j < fst T n S m + occ T n S m n := fun j h1 h2 => by
    have h3 := ((b2 j (by omega)).2 ⟨h1, h2⟩).2
    refine (a2 j (by omega)).1 ⟨hm, by have := h3.1; omega, fun i hi => ?_⟩
    rw [h3.2 i (by omega)]; unfold cat; rw [if_pos hi]
  have k1 := key _ (Nat.le_refl _) (by omega)
  have k2 := key (fst T n (cat S m U) (m + k) + occ T n (cat S m U) (m + k) n - 1) (by omega) (by omega)
  refine ⟨fst T n (cat S m U) (m + k) - fst T n S m, by omega, fun j hj => ?_⟩
  unfold hit
  rw [show fst T n S m + (fst T n (cat S m U) (m + k) - fst T n S m + j) = fst T n (cat S m U) (m + k) + j by omega]
/-- the whole text stands once, at 0 -/
theorem whole_hit {T : Nat → Nat} {n : Nat} (h : HasSA T n) (hn : 0 < n) : occ T n T n n = 1 ∧ hit T n T n 0 = 0 := by
  have h0 : stands T n T n 0 := ⟨by omega, fun k _ => by rw [Nat.zero_add]⟩
  obtain ⟨j, hj, e⟩ := hit_onto (S := T) (m := n) h hn h0
  have all : ∀ i, i < occ T n T n n → hit T n T n i = 0 := fun i hi => by have := (hit_stands h hi).2.1; omega
  have one : ∀ i, i < occ T n T n n → i = j := fun i hi => hit_inj h hi hj (by rw [all i hi, e])
  have h1 := one 0 (by omega)
  subst h1
  refine ⟨?_, e⟩
  rcases Nat.lt_or_ge 1 (occ T n T n n) with c | c
  · have := one 1 c; omega
  · omega

/-- what the walks say, in these words -/
theorem Looked.is {T S d : Nat → Nat} {n m r q k : Nat} {N : Int} (h : Looked T n S m N d r q k) : HasSA T n ∧ k = num T n S m N ∧ ∀ j, j < k → d (r + j) = hit T n S m j := by
  have hA : HasSA T n := ⟨d, h.sa⟩
  have hq := h.fd.count h.sa
  refine ⟨hA, by have := h.fd.k; rw [this]; unfold num; rw [hq], fun j hj => ?_⟩
  have hkq := h.kle
  have hle := h.fd.le
  have hu := (saOf_is h.sa).uniq h.sa
  obtain ⟨h1, h2⟩ := fst_spec (S := S) (m := m) hA
  have key : ∀ i, i < n → (r ≤ i ∧ i < r + q ↔ fst T n S m ≤ i ∧ i < fst T n S m + q) := fun i hi => by
    rw [← h.fd.iff i hi, ← hu i hi, h2 i hi, hq]
  have k1 := (key r (by omega)).1 ⟨by omega, by omega⟩
  have k2 := (key (fst T n S m) (by omega)).2 ⟨by omega, by omega⟩
  have : fst T n S m = r := by omega
  unfold hit
  rw [this, hu _ (by omega)]
end Go.Proofs.YtpkgkppehefibaaGreatDoor
