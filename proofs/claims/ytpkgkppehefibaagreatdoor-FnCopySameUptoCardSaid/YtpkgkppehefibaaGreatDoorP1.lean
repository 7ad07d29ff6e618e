/- Plain theory of suffix arrays by induced sorting, first half. (Printed by merge.py out of parts.) -/
/- Plain theory, part 1: counting and the pigeonhole, updates of functions, the order of suffixes, the types of positions. No program in sight. -/
namespace Go.Proofs.YtpkgkppehefibaaGreatDoor.Sa

/-- how many i < k have P i -/
def cn (P : Nat → Bool) : Nat → Nat
  | 0 => 0
  | k + 1 => cn P k + if P k then 1 else 0

theorem cn_le (P : Nat → Bool) (k : Nat) : cn P k ≤ k := by
  induction k with
  | zero => simp [cn]
  | succ k ih => simp only [cn]; split <;> omega

theorem cn_mono {P Q : Nat → Bool} {k : Nat} (h : ∀ i, i < k → P i = true → Q i = true) : cn P k ≤ cn Q k := by
  induction k with
  | zero => simp [cn]
  | succ k ih =>
    have h1 := ih (fun i hi => h i (by omega))
    have h2 := h k (by omega)
    simp only [cn]
    by_cases hp : P k = true
    · rw [if_pos hp, if_pos (h2 hp)]; omega
    · rw [if_neg hp]; omega

theorem cn_congr {P Q : Nat → Bool} {k : Nat} (h : ∀ i, i < k → P i = Q i) : cn P k = cn Q k := by
  induction k with
  | zero => simp [cn]
  | succ k ih => simp only [cn, ih (fun i hi => h i (by omega)), h k (by omega)]

theorem cn_add {P Q S : Nat → Bool} {k : Nat} (h : ∀ i, i < k → (S i = (P i || Q i)) ∧ ¬ (P i = true ∧ Q i = true)) : cn S k = cn P k + cn Q k := by
  induction k with
  | zero => simp [cn]
  | succ k ih =>
    have h1 := ih (fun i hi => h i (by omega))
    obtain ⟨h2, h3⟩ := h k (by omega)
    simp only [cn, h1, h2]
    cases hp : P k <;> cases hq : Q k <;> simp_all <;> omega

theorem cn_false (k : Nat) : cn (fun _ => false) k = 0 := by
  induction k with
  | zero => rfl
  | succ k ih => simp [cn, ih]

theorem cn_true (k : Nat) : cn (fun _ => true) k = k := by
  induction k with
  | zero => rfl
  | succ k ih => simp [cn, ih]

/-- the positions below k with P, as a list -/
def pick (P : Nat → Bool) (k : Nat) : List Nat := (List.range k).filter P

theorem length_pick (P : Nat → Bool) (k : Nat) : (pick P k).length = cn P k := by
  induction k with
  | zero => rfl
  | succ k ih =>
    have h : pick P (k + 1) = pick P k ++ [k].filter P := by simp [pick, List.range_succ, List.filter_append]
    rw [h, List.length_append, ih]
    simp only [cn]
    by_cases hp : P k = true
    · simp [hp]
    · simp [hp]

theorem mem_pick {P : Nat → Bool} {k i : Nat} : i ∈ pick P k ↔ i < k ∧ P i = true := by simp [pick]

theorem nodup_length_le : ∀ (l r : List Nat), l.Nodup → (∀ x, x ∈ l → x ∈ r) → l.length ≤ r.length
  | [], r, _, _ => by simp
  | a :: l, r, hn, hs => by
    have ha : a ∈ r := hs a (by simp)
    rw [List.nodup_cons] at hn
    have ih := nodup_length_le l (r.erase a) hn.2 (fun x hx => by
      have hne : x ≠ a := fun e => hn.1 (e ▸ hx)
      exact (List.mem_erase_of_ne hne).2 (hs x (by simp [hx])))
    rw [List.length_erase_of_mem ha] at ih
    have : 0 < r.length := List.length_pos_of_mem ha
    simp only [List.length_cons]
    omega

theorem nodup_map_range {f : Nat → Nat} : ∀ (k a : Nat), (∀ i j, a ≤ i → i < j → j < a + k → f i ≠ f j) → ((List.range' a k).map f).Nodup
  | 0, a, _ => by simp
  | k + 1, a, h => by
    rw [List.range'_succ, List.map_cons, List.nodup_cons]
    refine ⟨fun hm => ?_, nodup_map_range k (a + 1) (fun i j h1 h2 h3 => h i j (by omega) h2 (by omega))⟩
    obtain ⟨j, hj, e⟩ := List.mem_map.1 hm
    have hj' := List.mem_range'_1.1 hj
    exact h a j (Nat.le_refl _) (by omega) (by omega) e.symm

/-- THE PIGEONHOLE: distinct values with P below n are at most so many -/
theorem pigeon {P : Nat → Bool} {n a b : Nat} (f : Nat → Nat) (hinj : ∀ i j, a ≤ i → i < j → j < b → f i ≠ f j) (hP : ∀ i, a ≤ i → i < b → f i < n ∧ P (f i) = true) : b - a ≤ cn P n := by
  by_cases hab : a ≤ b
  · have h := nodup_length_le ((List.range' a (b - a)).map f) (pick P n) (nodup_map_range _ _ (fun i j h1 h2 h3 => hinj i j h1 h2 (by omega))) (fun x hx => by
      obtain ⟨i, hi, rfl⟩ := List.mem_map.1 hx
      have hi' := List.mem_range'_1.1 hi
      exact mem_pick.2 (hP i (by omega) (by omega)))
    rw [length_pick] at h
    simpa using h
  · omega

/-- the other way round: every value with P is met: so many places at least -/
theorem pigeon_onto {P : Nat → Bool} {n a b : Nat} (f : Nat → Nat) (h : ∀ x, x < n → P x = true → ∃ i, a ≤ i ∧ i < b ∧ f i = x) : cn P n ≤ b - a := by
  have h := nodup_length_le (pick P n) ((List.range' a (b - a)).map f) (by unfold pick; exact List.Pairwise.filter _ List.nodup_range) (fun x hx => by
    obtain ⟨h1, h2⟩ := mem_pick.1 hx
    obtain ⟨i, hi, hj, e⟩ := h x h1 h2
    exact List.mem_map.2 ⟨i, List.mem_range'_1.2 ⟨hi, by omega⟩, e⟩)
  rw [length_pick] at h
  simpa using h

/-- a function updated at one place -/
def upd {α : Type} (f : Nat → α) (i : Nat) (v : α) (j : Nat) : α := if j = i then v else f j
theorem upd_same {α : Type} (f : Nat → α) (i : Nat) (v : α) : upd f i v i = v := by simp [upd]
theorem upd_other {α : Type} (f : Nat → α) {i j : Nat} (v : α) (h : j ≠ i) : upd f i v j = f j := by simp [upd, h]

/- THE TYPES -/
section
variable (T : Nat → Nat) (n : Nat)

def styAux : Nat → Nat → Bool
  | 0, _ => false
  | d + 1, i => if T i < T (i + 1) then true else if T (i + 1) < T i then false else styAux d (i + 1)

/-- is position i of type S? (position n - 1 is not) -/
def sty (i : Nat) : Bool := styAux T (n - 1 - i) i

variable {T n}
theorem sty_end {i : Nat} (h : n ≤ i + 1) : sty T n i = false := by
  unfold sty
  rw [show n - 1 - i = 0 by omega]
  rfl
theorem sty_step {i : Nat} (h : i + 1 < n) : sty T n i = if T i < T (i + 1) then true else if T (i + 1) < T i then false else sty T n (i + 1) := by
  unfold sty
  rw [show n - 1 - i = (n - 1 - (i + 1)) + 1 by omega]
  rfl
theorem sty_lt {i : Nat} (h : i + 1 < n) (hl : T i < T (i + 1)) : sty T n i = true := by rw [sty_step h, if_pos hl]
theorem sty_gt {i : Nat} (hl : T (i + 1) < T i) : sty T n i = false := by
  by_cases h : i + 1 < n
  · rw [sty_step h, if_neg (by omega), if_pos hl]
  · exact sty_end (by omega)
theorem sty_eq {i : Nat} (h : i + 1 < n) (hl : T i = T (i + 1)) : sty T n i = sty T n (i + 1) := by rw [sty_step h, if_neg (by omega), if_neg (by omega)]
theorem S_lt {i : Nat} (h : sty T n i = true) : i + 1 < n := by
  by_cases h' : i + 1 < n
  · exact h'
  · rw [sty_end (by omega)] at h; cases h
theorem S_le {i : Nat} (h : sty T n i = true) : T i ≤ T (i + 1) := by
  have h1 := S_lt h
  by_cases h' : T (i + 1) < T i
  · rw [sty_gt h'] at h; cases h
  · omega
theorem L_ge {i : Nat} (h1 : i + 1 < n) (h : sty T n i = false) : T (i + 1) ≤ T i := by
  by_cases h' : T i < T (i + 1)
  · rw [sty_lt h1 h'] at h; cases h
  · omega
theorem S_of_eq {i : Nat} (h : sty T n i = true) (e : T i = T (i + 1)) : sty T n (i + 1) = true := by rw [← sty_eq (S_lt h) e]; exact h
theorem L_of_eq {i : Nat} (h1 : i + 1 < n) (h : sty T n i = false) (e : T i = T (i + 1)) : sty T n (i + 1) = false := by rw [← sty_eq h1 e]; exact h
/-- an S behind which an L stands: the char rises -/
theorem S_L_lt {i : Nat} (h : sty T n i = true) (h' : sty T n (i + 1) = false) : T i < T (i + 1) := by
  have h1 := S_le h
  by_cases e : T i = T (i + 1)
  · rw [S_of_eq h e] at h'; cases h'
  · omega
theorem L_S_gt {i : Nat} (h : sty T n i = false) (h' : sty T n (i + 1) = true) : T (i + 1) < T i := by
  have h0 := S_lt h'
  have h1 := L_ge (by omega) h
  by_cases e : T i = T (i + 1)
  · rw [L_of_eq (by omega) h e] at h'; cases h'
  · omega
end

/- THE ORDER OF SUFFIXES -/
section
variable (T : Nat → Nat) (n : Nat)
def sufAux : Nat → Nat → List Nat
  | 0, _ => []
  | d + 1, i => T i :: sufAux d (i + 1)
/-- the suffix from i on -/
def suf (i : Nat) : List Nat := sufAux T (n - i) i
/-- suffix i comes before suffix j -/
def slt (i j : Nat) : Prop := suf T n i < suf T n j
variable {T n}
theorem suf_end {i : Nat} (h : n ≤ i) : suf T n i = [] := by
  unfold suf
  rw [show n - i = 0 by omega]
  rfl
theorem suf_cons {i : Nat} (h : i < n) : suf T n i = T i :: suf T n (i + 1) := by
  unfold suf
  rw [show n - i = (n - (i + 1)) + 1 by omega]
  rfl
theorem length_suf (i : Nat) : (suf T n i).length = n - i := by
  unfold suf
  generalize n - i = d
  induction d generalizing i with
  | zero => rfl
  | succ d ih => simp [sufAux, ih]
theorem slt_irrefl (i : Nat) : ¬ slt T n i i := List.lt_irrefl _
theorem slt_trans {i j k : Nat} (h : slt T n i j) (h' : slt T n j k) : slt T n i k := List.lt_trans h h'
theorem slt_cons {i j : Nat} (hi : i < n) (hj : j < n) : slt T n i j ↔ T i < T j ∨ (T i = T j ∧ slt T n (i + 1) (j + 1)) := by
  unfold slt
  rw [suf_cons hi, suf_cons hj, List.cons_lt_cons_iff]
theorem slt_end {j : Nat} (hj : j < n) : slt T n n j := by
  unfold slt
  rw [suf_end (Nat.le_refl _), suf_cons hj]
  exact List.nil_lt_cons _ _
theorem not_slt_end (i : Nat) : ¬ slt T n i n := by
  unfold slt
  rw [suf_end (Nat.le_refl _)]
  exact List.not_lt_nil _
theorem slt_total {i j : Nat} (hi : i ≤ n) (hj : j ≤ n) (hne : i ≠ j) : slt T n i j ∨ slt T n j i := by
  by_cases h1 : slt T n i j
  · exact .inl h1
  · by_cases h2 : slt T n j i
    · exact .inr h2
    · exfalso
      have e : suf T n i = suf T n j := List.le_antisymm (List.not_lt.1 h2) (List.not_lt.1 h1)
      have := congrArg List.length e
      rw [length_suf, length_suf] at this
      omega
theorem slt_asymm {i j : Nat} (h : slt T n i j) : ¬ slt T n j i := fun h' => slt_irrefl i (slt_trans h h')
/-- the type of a position tells how it stands to the next one -/
theorem slt_of_S {i : Nat} (h : sty T n i = true) : slt T n i (i + 1) := by
  have h1 := S_lt h
  obtain ⟨d, hd⟩ : ∃ d, d = n - i := ⟨_, rfl⟩
  induction d generalizing i with
  | zero => omega
  | succ d ih =>
    rw [slt_cons (by omega) (by omega)]
    by_cases e : T i = T (i + 1)
    · have h2 := S_of_eq h e
      exact .inr ⟨e, ih h2 (S_lt h2) (by omega)⟩
    · exact .inl (by have := S_le h; omega)
theorem slt_of_L {i : Nat} (hi : i < n) (h : sty T n i = false) : slt T n (i + 1) i := by
  obtain ⟨d, hd⟩ : ∃ d, d = n - i := ⟨_, rfl⟩
  induction d generalizing i with
  | zero => omega
  | succ d ih =>
    by_cases h1 : i + 1 < n
    · rw [slt_cons (by omega) (by omega)]
      by_cases e : T i = T (i + 1)
      · have h2 := L_of_eq h1 h e
        exact .inr ⟨e.symm, ih h1 h2 (by omega)⟩
      · exact .inl (by have := L_ge h1 h; omega)
    · obtain rfl : n = i + 1 := by omega
      exact slt_end hi
/-- with the same first char an L comes before an S -/
theorem slt_L_S {x y : Nat} (hx : x < n) (hy : y < n) (e : T x = T y) (hL : sty T n x = false) (hS : sty T n y = true) : slt T n x y := by
  obtain ⟨d, hd⟩ : ∃ d, d = n - x := ⟨_, rfl⟩
  induction d generalizing x y with
  | zero => omega
  | succ d ih =>
    rw [slt_cons hx hy]
    refine .inr ⟨e, ?_⟩
    have hy1 := S_lt hS
    by_cases hx1 : x + 1 < n
    · have a1 := L_ge hx1 hL
      have a2 := S_le hS
      by_cases e1 : T (x + 1) < T (y + 1)
      · rw [slt_cons hx1 hy1]; exact .inl e1
      · exact ih hx1 hy1 (by omega) (L_of_eq hx1 hL (by omega)) (S_of_eq hS (by omega)) (by omega)
    · obtain rfl : n = x + 1 := by omega
      exact slt_end hy1
end
end Go.Proofs.YtpkgkppehefibaaGreatDoor.Sa

/- Plain theory, part 2: the buckets, and induced sorting by ghosts: what the left-to-right scan (L) and the right-to-left scan (S) keep. -/
namespace Go.Proofs.YtpkgkppehefibaaGreatDoor.Sa
section
variable (T : Nat → Nat) (n : Nat)

/-- where the bucket of c begins: so many positions have a smaller char -/
def bmin (c : Nat) : Nat := cn (fun i => decide (T i < c)) n
/-- where the L part of the bucket of c ends -/
def lmid (c : Nat) : Nat := bmin T n c + cn (fun i => decide (T i = c) && !sty T n i) n

variable {T n}
theorem bmin_succ (c : Nat) : bmin T n (c + 1) = bmin T n c + cn (fun i => decide (T i = c)) n := by
  unfold bmin
  refine cn_add fun i _ => ⟨?_, ?_⟩
  · rw [Bool.eq_iff_iff]; simp; omega
  · simp; omega
theorem bmin_split (c : Nat) : bmin T n (c + 1) = lmid T n c + cn (fun i => decide (T i = c) && sty T n i) n := by
  rw [bmin_succ]
  unfold lmid
  have : cn (fun i => decide (T i = c)) n = cn (fun i => decide (T i = c) && !sty T n i) n + cn (fun i => decide (T i = c) && sty T n i) n := by
    refine cn_add fun i _ => ⟨?_, ?_⟩
    · cases sty T n i <;> simp
    · cases sty T n i <;> simp
  omega
theorem bmin_zero : bmin T n 0 = 0 := by
  unfold bmin
  rw [cn_congr (Q := fun _ => false) (fun i _ => by simp)]
  exact cn_false n
theorem bmin_le (c : Nat) : bmin T n c ≤ n := cn_le _ _
theorem bmin_all {K : Nat} (h : ∀ i, i < n → T i < K) : bmin T n K = n := by
  unfold bmin
  rw [cn_congr (Q := fun _ => true) (fun i hi => by simp [h i hi])]
  exact cn_true n
theorem bmin_mono {c d : Nat} (h : c ≤ d) : bmin T n c ≤ bmin T n d := by
  unfold bmin
  exact cn_mono fun i _ hi => by simp at hi ⊢; omega
theorem bmin_lmid (c : Nat) : bmin T n c ≤ lmid T n c := by unfold lmid; omega
theorem lmid_bmin (c : Nat) : lmid T n c ≤ bmin T n (c + 1) := by rw [bmin_split]; omega
theorem bmin_bmin (c : Nat) : bmin T n c ≤ bmin T n (c + 1) := bmin_mono (by omega)
theorem bmin_next {c d : Nat} (h : c < d) : bmin T n (c + 1) ≤ bmin T n d := bmin_mono h
/-- each place lies in one bucket -/
theorem bucket_of {p : Nat} (hp : p < n) : ∃ c, bmin T n c ≤ p ∧ p < bmin T n (c + 1) := by
  have hK : ∃ K, p < bmin T n K := by
    obtain ⟨K, hK⟩ : ∃ K, ∀ i, i < n → T i < K := by
      clear hp
      induction n with
      | zero => exact ⟨0, fun i hi => by omega⟩
      | succ n ih =>
        obtain ⟨K, hK⟩ := ih
        refine ⟨K + T n + 1, fun i hi => ?_⟩
        by_cases e : i = n
        · subst e; omega
        · have := hK i (by omega); omega
    exact ⟨K, by rw [bmin_all hK]; exact hp⟩
  obtain ⟨K, hK⟩ := hK
  induction K with
  | zero => rw [bmin_zero] at hK; omega
  | succ K ih =>
    by_cases h : p < bmin T n K
    · exact ih h
    · exact ⟨K, by omega, hK⟩
/-- places of one bucket -/
theorem bucket_eq {p c d : Nat} (h1 : bmin T n c ≤ p) (h2 : p < bmin T n (c + 1)) (h3 : bmin T n d ≤ p) (h4 : p < bmin T n (d + 1)) : c = d := by
  rcases Nat.lt_trichotomy c d with h | h | h
  · have := bmin_next (T := T) (n := n) h; omega
  · exact h
  · have := bmin_next (T := T) (n := n) h; omega
end

/-- WHAT AN ORDER MUST GIVE, FOR THE SCAN OF THE L's: n comes first; by chars; with one char L before S; with one char two L's as what stands behind them -/
structure OrdL (T : Nat → Nat) (n : Nat) (R : Nat → Nat → Prop) : Prop where
  irr : ∀ x, ¬ R x x
  fst : ∀ y, y < n → R n y
  chr : ∀ x y, x < n → y < n → T x < T y → R x y
  typ : ∀ x y, x < n → y < n → T x = T y → sty T n x = false → sty T n y = true → R x y
  ll : ∀ x y, x < n → y < n → T x = T y → sty T n x = false → sty T n y = false → R (x + 1) (y + 1) → R x y
structure OrdS (T : Nat → Nat) (n : Nat) (R : Nat → Nat → Prop) : Prop where
  irr : ∀ x, ¬ R x x
  chr : ∀ x y, x < n → y < n → T x < T y → R x y
  typ : ∀ x y, x < n → y < n → T x = T y → sty T n x = false → sty T n y = true → R x y
  ss : ∀ x y, x < n → y < n → T x = T y → sty T n x = true → sty T n y = true → R (x + 1) (y + 1) → R x y

theorem ordL_slt (T : Nat → Nat) (n : Nat) : OrdL T n (slt T n) where
  irr := slt_irrefl
  fst _ h := slt_end h
  chr _ _ hx hy h := (slt_cons hx hy).2 (.inl h)
  typ _ _ hx hy e h1 h2 := slt_L_S hx hy e h1 h2
  ll _ _ hx hy e _ _ h := (slt_cons hx hy).2 (.inr ⟨e, h⟩)
theorem ordS_slt (T : Nat → Nat) (n : Nat) : OrdS T n (slt T n) where
  irr := slt_irrefl
  chr _ _ hx hy h := (slt_cons hx hy).2 (.inl h)
  typ _ _ hx hy e h1 h2 := slt_L_S hx hy e h1 h2
  ss _ _ hx hy e _ _ h := (slt_cons hx hy).2 (.inr ⟨e, h⟩)

/-- THE SCAN OF THE L's, before place i is worked on. G: what lies where, b: the heads of the buckets; D: the L's that take part; I: what was there at the start (LMS positions) -/
structure LInv (T : Nat → Nat) (n : Nat) (R : Nat → Nat → Prop) (D I : Nat → Prop) (i : Nat) (G : Nat → Option Nat) (b : Nat → Nat) : Prop where
  lo : ∀ c, bmin T n c ≤ b c
  hi : ∀ c, b c ≤ lmid T n c
  lp : ∀ c p, bmin T n c ≤ p → p < b c → ∃ x, G p = some x ∧ x < n ∧ T x = c ∧ sty T n x = false ∧ D x ∧ (x + 1 = n ∨ ∃ q, q < i ∧ q < n ∧ G q = some (x + 1))
  em : ∀ c p, b c ≤ p → p < lmid T n c → G p = none
  sp : ∀ c p x, lmid T n c ≤ p → p < bmin T n (c + 1) → G p = some x → x < n ∧ T x = c ∧ sty T n x = true ∧ I x
  srt : ∀ p q x y, p < q → q < n → G p = some x → G q = some y → R x y
  ini : ∀ x, I x → ∃ p, p < n ∧ G p = some x
  cmp : ∀ q y, q < i → q < n → G q = some y → 0 < y → sty T n (y - 1) = false → D (y - 1) → ∃ p, p < n ∧ G p = some (y - 1)
  lst : ∃ p, p < n ∧ G p = some (n - 1)

section
variable {T : Nat → Nat} {n : Nat} {R : Nat → Nat → Prop} {D I : Nat → Prop} {i : Nat} {G : Nat → Option Nat} {b : Nat → Nat}

/-- what lies at a place lies in its char's bucket, an L in the L part, behind the head of no bucket -/
theorem LInv.at_ (h : LInv T n R D I i G b) {p x : Nat} (hp : p < n) (hx : G p = some x) :
    x < n ∧ bmin T n (T x) ≤ p ∧ p < bmin T n (T x + 1) ∧ ((sty T n x = false ∧ D x ∧ p < b (T x)) ∨ (sty T n x = true ∧ I x ∧ lmid T n (T x) ≤ p)) := by
  obtain ⟨c, h1, h2⟩ := bucket_of (T := T) hp
  by_cases a : p < b c
  · obtain ⟨y, hy, hyn, hc, hs, hd, _⟩ := h.lp c p h1 a
    rw [hx] at hy
    obtain rfl : x = y := Option.some.inj hy
    subst hc
    exact ⟨hyn, h1, h2, .inl ⟨hs, hd, a⟩⟩
  · by_cases a' : p < lmid T n c
    · rw [h.em c p (by omega) a'] at hx; cases hx
    · obtain ⟨hyn, hc, hs, hd⟩ := h.sp c p x (by omega) h2 hx
      subst hc
      exact ⟨hyn, h1, h2, .inr ⟨hs, hd, by omega⟩⟩

theorem LInv.inj (h : LInv T n R D I i G b) (ho : OrdL T n R) {p q x : Nat} (hp : p < n) (hq : q < n) (h1 : G p = some x) (h2 : G q = some x) : p = q := by
  rcases Nat.lt_trichotomy p q with a | a | a
  · exact absurd (h.srt p q x x a hq h1 h2) (ho.irr x)
  · exact a
  · exact absurd (h.srt q p x x a hp h2 h1) (ho.irr x)

/-- nothing comes of place i -/
theorem LInv.skip (h : LInv T n R D I i G b) (hs : ∀ y, i < n → G i = some y → 0 < y → sty T n (y - 1) = false → ¬ D (y - 1)) : LInv T n R D I (i + 1) G b where
  lo := h.lo
  hi := h.hi
  lp c p h1 h2 := by
    obtain ⟨x, a1, a2, a3, a4, a5, a6⟩ := h.lp c p h1 h2
    exact ⟨x, a1, a2, a3, a4, a5, a6.imp id fun ⟨q, q1, q2, q3⟩ => ⟨q, by omega, q2, q3⟩⟩
  em := h.em
  sp := h.sp
  srt := h.srt
  ini := h.ini
  lst := h.lst
  cmp q y hq hn hy h0 h1 h2 := by
    by_cases e : q = i
    · subst e; exact absurd h2 (hs y hn hy h0 h1)
    · exact h.cmp q y (by omega) hn hy h0 h1 h2

theorem upd_some {α : Type} (f : Nat → Option α) {i j : Nat} {v x : α} (h : upd f i (some v) j = some x) : (j = i ∧ x = v) ∨ (j ≠ i ∧ f j = some x) := by
  unfold upd at h
  split at h
  · rename_i e; exact .inl ⟨e, (Option.some.inj h).symm⟩
  · rename_i e; exact .inr ⟨e, h⟩

/-- position k is laid at the head of its bucket: the part that the first insertion and every round share -/
theorem LInv.room (ho : OrdL T n R) (k : Nat) (hk : k < n) (hL : sty T n k = false) (hlo : bmin T n (T k) ≤ b (T k)) (hhi : b (T k) ≤ lmid T n (T k))
    (hlp : ∀ p, bmin T n (T k) ≤ p → p < b (T k) → ∃ x, G p = some x ∧ x < n ∧ T x = T k ∧ sty T n x = false ∧ x ≠ k)
    (hsrt : ∀ p q x y, p < q → q < n → G p = some x → G q = some y → R x y) : b (T k) < lmid T n (T k) := by
  have hmid : lmid T n (T k) ≤ n := Nat.le_trans (lmid_bmin _) (bmin_le _)
  have hp := pigeon (P := fun i => decide (T i = T k) && !sty T n i) (n := n) (a := bmin T n (T k)) (b := b (T k) + 1) (fun p => if p < b (T k) then (G p).getD 0 else k) (by
    intro p q h1 h2 h3
    obtain ⟨x, hx, _, _, _, hne⟩ := hlp p h1 (by omega)
    rw [if_pos (by omega), hx]
    by_cases hq : q < b (T k)
    · obtain ⟨y, hy, _, _, _, _⟩ := hlp q (by omega) hq
      rw [if_pos hq, hy]
      intro e
      have e' : x = y := e
      subst e'
      exact ho.irr x (hsrt p q x x h2 (by omega) hx hy)
    · rw [if_neg hq]; exact hne) (by
    intro p h1 h2
    by_cases hq : p < b (T k)
    · obtain ⟨x, hx, hxn, hc, hs, _⟩ := hlp p h1 hq
      rw [if_pos hq, hx]
      exact ⟨hxn, by simp [hc, hs]⟩
    · rw [if_neg hq]
      exact ⟨hk, by simp [hL]⟩)
  unfold lmid
  omega

/-- A ROUND THAT LAYS: place i holds j, what stands ahead of it (k) is an L that takes part -/
theorem LInv.ins (h : LInv T n R D I i G b) (ho : OrdL T n R) {k : Nat} (hi : i < n) (hG : G i = some (k + 1)) (hL : sty T n k = false) (hD : D k) :
    k < n ∧ b (T k) < lmid T n (T k) ∧ b (T k) < n ∧ i < b (T k) ∧ G (b (T k)) = none ∧ LInv T n R D I (i + 1) (upd G (b (T k)) (some k)) (upd b (T k) (b (T k) + 1)) := by
  obtain ⟨hjn, hj1, hj2, hj3⟩ := h.at_ hi hG
  have hkn : k < n := by omega
  have hge := L_ge hjn hL
  have hib : i < b (T k) := by
    by_cases e : T (k + 1) = T k
    · have hLj := L_of_eq hjn hL e.symm
      rcases hj3 with ⟨_, _, hj3⟩ | ⟨hj3, _, _⟩
      · rw [e] at hj3; exact hj3
      · rw [hLj] at hj3; cases hj3
    · have h1 := bmin_next (T := T) (n := n) (c := T (k + 1)) (d := T k) (by omega)
      have h2 := h.lo (T k)
      omega
  have hnew : ∀ p x, p < n → G p = some x → sty T n x = false → p < b (T x) → x ≠ k := by
    intro p x hp hx _ hpb e
    subst e
    obtain ⟨y, hy, hyn, hyc, hys, hyd, hyq⟩ := h.lp (T x) p (h.at_ hp hx).2.1 hpb
    rw [hx] at hy
    obtain rfl : x = y := Option.some.inj hy
    rcases hyq with hyq | ⟨q, hq1, hq2, hq3⟩
    · omega
    · exact ho.irr _ (h.srt q i _ _ hq1 hi hq3 hG)
  have hroom : b (T k) < lmid T n (T k) := by
    refine LInv.room ho k hkn hL (h.lo _) (h.hi _) (fun p h1 h2 => ?_) h.srt
    obtain ⟨x, hx, hxn, hc, hs, _, _⟩ := h.lp (T k) p h1 h2
    have hm : lmid T n (T k) ≤ n := Nat.le_trans (lmid_bmin _) (bmin_le _)
    have hh := h.hi (T k)
    exact ⟨x, hx, hxn, hc, hs, hnew p x (by omega) hx hs (by rw [hc]; exact h2)⟩
  have hbn : b (T k) < n := Nat.lt_of_lt_of_le hroom (Nat.le_trans (lmid_bmin _) (bmin_le _))
  have hnone : G (b (T k)) = none := h.em (T k) _ (Nat.le_refl _) hroom
  have hbu : b (T k) < bmin T n (T k + 1) := Nat.lt_of_lt_of_le hroom (lmid_bmin _)
  have hbl := h.lo (T k)
  refine ⟨hkn, hroom, hbn, hib, hnone, ?_⟩
  have old : ∀ p x, G p = some x → upd G (b (T k)) (some k) p = some x := by
    intro p x hx
    rw [upd_other _ _ (fun e => by rw [e, hnone] at hx; cases hx)]; exact hx
  refine ⟨fun c => ?_, fun c => ?_, fun c p h1 h2 => ?_, fun c p h1 h2 => ?_, fun c p x h1 h2 hx => ?_, fun p q x y hpq hq hx hy => ?_, fun x hx => ?_, fun q y hq hqn hy h0 h1 h2 => ?_, ?_⟩
  · unfold upd; split
    · rename_i e; subst e; have := h.lo (T k); omega
    · exact h.lo c
  · unfold upd; split
    · rename_i e; subst e; omega
    · exact h.hi c
  · unfold upd at h2
    by_cases e : c = T k
    · subst e
      rw [if_pos rfl] at h2
      by_cases e' : p = b (T k)
      · subst e'
        exact ⟨k, upd_same _ _ _, hkn, rfl, hL, hD, .inr ⟨i, by omega, hi, old _ _ hG⟩⟩
      · obtain ⟨x, a1, a2, a3, a4, a5, a6⟩ := h.lp (T k) p h1 (by omega)
        exact ⟨x, old _ _ a1, a2, a3, a4, a5, a6.imp id fun ⟨q, q1, q2, q3⟩ => ⟨q, by omega, q2, old _ _ q3⟩⟩
    · rw [if_neg e] at h2
      obtain ⟨x, a1, a2, a3, a4, a5, a6⟩ := h.lp c p h1 h2
      exact ⟨x, old _ _ a1, a2, a3, a4, a5, a6.imp id fun ⟨q, q1, q2, q3⟩ => ⟨q, by omega, q2, old _ _ q3⟩⟩
  · unfold upd at h1
    by_cases e : c = T k
    · subst e
      rw [if_pos rfl] at h1
      rw [upd_other _ _ (by omega)]
      exact h.em (T k) p (by omega) h2
    · rw [if_neg e] at h1
      rw [upd_other _ _ (fun e' => ?_)]
      · exact h.em c p h1 h2
      · have hm := lmid_bmin (T := T) (n := n) c
        have h0 := h.lo c
        subst e'
        exact e (bucket_eq (p := b (T k)) (by omega) (by omega) hbl hbu)
  · rcases upd_some _ hx with ⟨e, _⟩ | ⟨_, hx⟩
    · exfalso
      subst e
      have hm := bmin_lmid (T := T) (n := n) c
      have := bucket_eq (T := T) (n := n) (p := b (T k)) (c := c) (d := T k) (by omega) h2 hbl hbu
      subst this
      omega
    · exact h.sp c p x h1 h2 hx
  · have before : ∀ p x, p < b (T k) → G p = some x → R x k := by
      intro p x hp hx
      obtain ⟨hxn, hx1, hx2, hx3⟩ := h.at_ (by omega) hx
      by_cases hlt : T x < T k
      · exact ho.chr x k hxn hkn hlt
      · have hxk : T x = T k := by
          rcases Nat.lt_trichotomy (T x) (T k) with a | a | a
          · omega
          · exact a
          · have := bmin_next (T := T) (n := n) a; omega
        rcases hx3 with ⟨hxs, _, hxb⟩ | ⟨_, _, hxb⟩
        · obtain ⟨y, hy, hyn, hyc, hys, hyd, hyq⟩ := h.lp (T x) p hx1 hxb
          rw [hx] at hy
          obtain rfl : x = y := Option.some.inj hy
          rcases hyq with hyq | ⟨q, hq1, hq2, hq3⟩
          · exact ho.ll x k hxn hkn hxk hxs hL (by rw [hyq]; exact ho.fst _ hjn)
          · exact ho.ll x k hxn hkn hxk hxs hL (h.srt q i _ _ hq1 hi hq3 hG)
        · rw [hxk] at hxb; omega
    have after : ∀ p x, b (T k) < p → p < n → G p = some x → R k x := by
      intro p x hp hpn hx
      obtain ⟨hxn, hx1, hx2, hx3⟩ := h.at_ hpn hx
      by_cases hlt : T k < T x
      · exact ho.chr k x hkn hxn hlt
      · have hxk : T k = T x := by
          rcases Nat.lt_trichotomy (T x) (T k) with a | a | a
          · have := bmin_next (T := T) (n := n) a; omega
          · exact a.symm
          · omega
        rcases hx3 with ⟨hxs, _, hxb⟩ | ⟨hxs, _, hxb⟩
        · rw [← hxk] at hxb; omega
        · exact ho.typ k x hkn hxn hxk hL hxs
    rcases upd_some _ hx with ⟨e, e'⟩ | ⟨_, hx'⟩
    · subst e e'
      rcases upd_some _ hy with ⟨e, _⟩ | ⟨_, hy'⟩
      · omega
      · exact after q y hpq hq hy'
    · rcases upd_some _ hy with ⟨e, e'⟩ | ⟨_, hy'⟩
      · subst e e'; exact before p x hpq hx'
      · exact h.srt p q x y hpq hq hx' hy'
  · obtain ⟨p, hp, hx⟩ := h.ini x hx
    exact ⟨p, hp, old _ _ hx⟩
  · rcases upd_some _ hy with ⟨e, _⟩ | ⟨_, hy⟩
    · omega
    · by_cases e : q = i
      · subst e
        rw [hG] at hy
        obtain rfl : k + 1 = y := Option.some.inj hy
        exact ⟨b (T k), hbn, by rw [upd_same]; simp⟩
      · obtain ⟨p, hp, hx⟩ := h.cmp q y (by omega) hqn hy h0 h1 h2
        exact ⟨p, hp, old _ _ hx⟩
  · obtain ⟨p, hp, hx⟩ := h.lst
    exact ⟨p, hp, old _ _ hx⟩

/-- THE START: S parts as given, then n - 1 is laid -/
theorem LInv.first (ho : OrdL T n R) (hn : 0 < n) (hD : D (n - 1)) (hem : ∀ c p, bmin T n c ≤ p → p < lmid T n c → G p = none)
    (hsp : ∀ c p x, lmid T n c ≤ p → p < bmin T n (c + 1) → G p = some x → x < n ∧ T x = c ∧ sty T n x = true ∧ I x)
    (hsrt : ∀ p q x y, p < q → q < n → G p = some x → G q = some y → R x y) (hini : ∀ x, I x → ∃ p, p < n ∧ G p = some x) :
    bmin T n (T (n - 1)) < n ∧ LInv T n R D I 0 (upd G (bmin T n (T (n - 1))) (some (n - 1))) (upd (bmin T n) (T (n - 1)) (bmin T n (T (n - 1)) + 1)) := by
  have hL : sty T n (n - 1) = false := sty_end (by omega)
  have hroom : bmin T n (T (n - 1)) < lmid T n (T (n - 1)) :=
    LInv.room (b := bmin T n) (G := G) ho (n - 1) (by omega) hL (Nat.le_refl _) (bmin_lmid _) (fun p h1 h2 => by omega) hsrt
  have hbu : bmin T n (T (n - 1)) < bmin T n (T (n - 1) + 1) := Nat.lt_of_lt_of_le hroom (lmid_bmin _)
  have hbn : bmin T n (T (n - 1)) < n := Nat.lt_of_lt_of_le hbu (bmin_le _)
  have hnone := hem (T (n - 1)) _ (Nat.le_refl _) hroom
  refine ⟨hbn, ?_⟩
  generalize hk : n - 1 = k at *
  have old : ∀ p x, G p = some x → upd G (bmin T n (T k)) (some k) p = some x := by
    intro p x hx
    rw [upd_other _ _ (fun e => by rw [e, hnone] at hx; cases hx)]; exact hx
  have at_ : ∀ p x, p < n → G p = some x → x < n ∧ bmin T n (T x) ≤ p ∧ p < bmin T n (T x + 1) ∧ sty T n x = true ∧ lmid T n (T x) ≤ p := by
    intro p x hp hx
    obtain ⟨c, h1, h2⟩ := bucket_of (T := T) hp
    by_cases a : p < lmid T n c
    · rw [hem c p h1 a] at hx; cases hx
    · obtain ⟨a1, rfl, a3, _⟩ := hsp c p x (by omega) h2 hx
      exact ⟨a1, h1, h2, a3, by omega⟩
  refine ⟨fun c => ?_, fun c => ?_, fun c p h1 h2 => ?_, fun c p h1 h2 => ?_, fun c p x h1 h2 hx => ?_, fun p q x y hpq hq hx hy => ?_, fun x hx => ?_, fun q y hq hqn hy h0 h1 h2 => by omega, ⟨_, hbn, by rw [upd_same, hk]⟩⟩
  · unfold upd; split
    · rename_i e; subst e; omega
    · exact Nat.le_refl _
  · unfold upd; split
    · rename_i e; subst e; omega
    · exact bmin_lmid _
  · unfold upd at h2
    by_cases e : c = T k
    · subst e
      rw [if_pos rfl] at h2
      obtain rfl : p = bmin T n (T k) := by omega
      exact ⟨k, upd_same _ _ _, by omega, rfl, hL, hD, .inl (by omega)⟩
    · rw [if_neg e] at h2; omega
  · unfold upd at h1
    by_cases e : c = T k
    · subst e
      rw [if_pos rfl] at h1
      rw [upd_other _ _ (by omega)]
      exact hem (T k) p (by omega) h2
    · rw [if_neg e] at h1
      rw [upd_other _ _ (fun e' => ?_)]
      · exact hem c p h1 h2
      · have hm := lmid_bmin (T := T) (n := n) c
        subst e'
        exact e (bucket_eq (p := bmin T n (T k)) (by omega) (by omega) (Nat.le_refl _) hbu)
  · rcases upd_some _ hx with ⟨e, _⟩ | ⟨_, hx⟩
    · exfalso
      subst e
      have hm := bmin_lmid (T := T) (n := n) c
      have := bucket_eq (T := T) (n := n) (p := bmin T n (T k)) (c := c) (d := T k) (by omega) h2 (Nat.le_refl _) hbu
      subst this
      omega
    · exact hsp c p x h1 h2 hx
  · rcases upd_some _ hx with ⟨e, e'⟩ | ⟨_, hx'⟩
    · subst e e'
      rcases upd_some _ hy with ⟨e, _⟩ | ⟨_, hy'⟩
      · omega
      · obtain ⟨a1, a2, a3, a4, a5⟩ := at_ q y hq hy'
        by_cases hlt : T x < T y
        · exact ho.chr x y (by omega) a1 hlt
        · refine ho.typ x y (by omega) a1 ?_ hL a4
          rcases Nat.lt_trichotomy (T y) (T x) with a | a | a
          · have := bmin_next (T := T) (n := n) a; omega
          · exact a.symm
          · omega
    · rcases upd_some _ hy with ⟨e, e'⟩ | ⟨_, hy'⟩
      · subst e e'
        obtain ⟨a1, a2, a3, a4, a5⟩ := at_ p x (by omega) hx'
        refine ho.chr x y a1 (by omega) ?_
        rcases Nat.lt_trichotomy (T x) (T y) with a | a | a
        · exact a
        · rw [a] at a2; omega
        · have h1 := bmin_next (T := T) (n := n) a; have h2 := bmin_bmin (T := T) (n := n) (T y); omega
      · exact hsrt p q x y hpq hq hx' hy'
  · obtain ⟨p, hp, hx⟩ := hini x hx
    exact ⟨p, hp, old _ _ hx⟩

/-- THE END: every L that takes part is there -/
theorem LInv.all (h : LInv T n R D I n G b) (hcl : ∀ x, D x → sty T n x = false → x + 1 < n → (sty T n (x + 1) = false ∧ D (x + 1)) ∨ I (x + 1)) {x : Nat} (hx : x < n) (hD : D x) (hL : sty T n x = false) :
    ∃ p, p < n ∧ G p = some x := by
  obtain ⟨d, hd⟩ : ∃ d, d = n - x := ⟨_, rfl⟩
  induction d generalizing x with
  | zero => omega
  | succ d ih =>
    by_cases e : x + 1 < n
    · have : ∃ q, q < n ∧ G q = some (x + 1) := by
        rcases hcl x hD hL e with ⟨h1, h2⟩ | h1
        · exact ih e h2 h1 (by omega)
        · exact h.ini _ h1
      obtain ⟨q, hq, hg⟩ := this
      exact h.cmp q (x + 1) hq hq hg (by omega) (by simpa using hL) (by simpa using hD)
    · obtain rfl : x = n - 1 := by omega
      exact h.lst
end
end Go.Proofs.YtpkgkppehefibaaGreatDoor.Sa

/- Plain theory, part 3: the right-to-left scan of the S's by ghosts. -/
namespace Go.Proofs.YtpkgkppehefibaaGreatDoor.Sa

/-- THE SCAN OF THE S's: the places from i on are worked on. D: the S's that take part; I: the L's that lie there -/
structure SInv (T : Nat → Nat) (n : Nat) (R : Nat → Nat → Prop) (D I : Nat → Prop) (i : Nat) (G : Nat → Option Nat) (b : Nat → Nat) : Prop where
  lo : ∀ c, lmid T n c ≤ b c
  hi : ∀ c, b c ≤ bmin T n (c + 1)
  sp : ∀ c p, b c ≤ p → p < bmin T n (c + 1) → ∃ x, G p = some x ∧ x < n ∧ T x = c ∧ sty T n x = true ∧ D x ∧ ∃ q, i ≤ q ∧ q < n ∧ G q = some (x + 1)
  em : ∀ c p, lmid T n c ≤ p → p < b c → G p = none
  lp : ∀ c p x, bmin T n c ≤ p → p < lmid T n c → G p = some x → x < n ∧ T x = c ∧ sty T n x = false ∧ I x
  srt : ∀ p q x y, p < q → q < n → G p = some x → G q = some y → R x y
  ini : ∀ x, I x → ∃ p, p < n ∧ G p = some x
  cmp : ∀ q y, i ≤ q → q < n → G q = some y → 0 < y → sty T n (y - 1) = true → D (y - 1) → ∃ p, p < n ∧ G p = some (y - 1)

section
variable {T : Nat → Nat} {n : Nat} {R : Nat → Nat → Prop} {D I : Nat → Prop} {i : Nat} {G : Nat → Option Nat} {b : Nat → Nat}

theorem SInv.at_ (h : SInv T n R D I i G b) {p x : Nat} (hp : p < n) (hx : G p = some x) :
    x < n ∧ bmin T n (T x) ≤ p ∧ p < bmin T n (T x + 1) ∧ ((sty T n x = true ∧ D x ∧ b (T x) ≤ p) ∨ (sty T n x = false ∧ I x ∧ p < lmid T n (T x))) := by
  obtain ⟨c, h1, h2⟩ := bucket_of (T := T) hp
  by_cases a : b c ≤ p
  · obtain ⟨y, hy, hyn, hc, hs, hd, _⟩ := h.sp c p a h2
    rw [hx] at hy
    obtain rfl : x = y := Option.some.inj hy
    subst hc
    exact ⟨hyn, h1, h2, .inl ⟨hs, hd, a⟩⟩
  · by_cases a' : p < lmid T n c
    · obtain ⟨hyn, hc, hs, hd⟩ := h.lp c p x h1 a' hx
      subst hc
      exact ⟨hyn, h1, h2, .inr ⟨hs, hd, a'⟩⟩
    · rw [h.em c p (by omega) (by omega)] at hx; cases hx

theorem SInv.inj (h : SInv T n R D I i G b) (ho : OrdS T n R) {p q x : Nat} (hp : p < n) (hq : q < n) (h1 : G p = some x) (h2 : G q = some x) : p = q := by
  rcases Nat.lt_trichotomy p q with a | a | a
  · exact absurd (h.srt p q x x a hq h1 h2) (ho.irr x)
  · exact a
  · exact absurd (h.srt q p x x a hp h2 h1) (ho.irr x)

theorem SInv.skip (h : SInv T n R D I (i + 1) G b) (hs : ∀ y, i < n → G i = some y → 0 < y → sty T n (y - 1) = true → ¬ D (y - 1)) : SInv T n R D I i G b where
  lo := h.lo
  hi := h.hi
  sp c p h1 h2 := by
    obtain ⟨x, a1, a2, a3, a4, a5, q, q1, q2, q3⟩ := h.sp c p h1 h2
    exact ⟨x, a1, a2, a3, a4, a5, q, by omega, q2, q3⟩
  em := h.em
  lp := h.lp
  srt := h.srt
  ini := h.ini
  cmp q y hq hn hy h0 h1 h2 := by
    by_cases e : q = i
    · subst e; exact absurd h2 (hs y hn hy h0 h1)
    · exact h.cmp q y (by omega) hn hy h0 h1 h2

theorem SInv.ins (h : SInv T n R D I (i + 1) G b) (ho : OrdS T n R) {k : Nat} (hi : i < n) (hG : G i = some (k + 1)) (hS : sty T n k = true) (hD : D k) :
    k + 1 < n ∧ lmid T n (T k) < b (T k) ∧ b (T k) ≤ n ∧ b (T k) - 1 < i ∧ G (b (T k) - 1) = none ∧ SInv T n R D I i (upd G (b (T k) - 1) (some k)) (upd b (T k) (b (T k) - 1)) := by
  obtain ⟨hjn, hj1, hj2, hj3⟩ := h.at_ hi hG
  have hkn : k < n := by omega
  have hle := S_le hS
  have hnew : ∀ p x, b (T x) ≤ p → p < bmin T n (T x + 1) → G p = some x → x ≠ k := by
    intro p x hp1 hp2 hx e
    subst e
    obtain ⟨y, hy, hyn, hyc, hys, hyd, q, hq1, hq2, hq3⟩ := h.sp (T x) p hp1 hp2
    rw [hx] at hy
    obtain rfl : x = y := Option.some.inj hy
    exact ho.irr _ (h.srt i q _ _ (by omega) hq2 hG hq3)
  have hroom : lmid T n (T k) < b (T k) := by
    have hlo := h.lo (T k)
    have hhi := h.hi (T k)
    have hbn := bmin_le (T := T) (n := n) (T k + 1)
    by_cases hc : lmid T n (T k) < b (T k)
    · exact hc
    exfalso
    have hb : b (T k) = lmid T n (T k) := by omega
    have hp := pigeon (P := fun i => decide (T i = T k) && sty T n i) (n := n) (a := b (T k)) (b := bmin T n (T k + 1) + 1) (fun p => if p < bmin T n (T k + 1) then (G p).getD 0 else k) (by
      intro p q h1 h2 h3
      obtain ⟨x, hx, _, hxc, _, _⟩ := h.sp (T k) p h1 (by omega)
      rw [if_pos (by omega), hx]
      by_cases hq : q < bmin T n (T k + 1)
      · obtain ⟨y, hy, _⟩ := h.sp (T k) q (by omega) hq
        rw [if_pos hq, hy]
        intro e
        have e' : x = y := e
        subst e'
        exact ho.irr x (h.srt p q x x h2 (by omega) hx hy)
      · rw [if_neg hq]; exact hnew p x (by rw [hxc]; exact h1) (by rw [hxc]; omega) hx) (by
      intro p h1 h2
      by_cases hq : p < bmin T n (T k + 1)
      · obtain ⟨x, hx, hxn, hc, hs, _, _⟩ := h.sp (T k) p h1 hq
        rw [if_pos hq, hx]
        exact ⟨hxn, by simp [hc, hs]⟩
      · rw [if_neg hq]
        exact ⟨hkn, by simp [hS]⟩)
    have := bmin_split (T := T) (n := n) (T k)
    omega
  have hbhi := h.hi (T k)
  have hbn : b (T k) ≤ n := Nat.le_trans hbhi (bmin_le _)
  have hbi : b (T k) - 1 < i := by
    by_cases e : T (k + 1) = T k
    · have hSj := S_of_eq hS e.symm
      rcases hj3 with ⟨_, _, hj3⟩ | ⟨hj3, _, _⟩
      · rw [e] at hj3; omega
      · rw [hSj] at hj3; cases hj3
    · have h1 := bmin_next (T := T) (n := n) (c := T k) (d := T (k + 1)) (by omega)
      omega
  have hnone : G (b (T k) - 1) = none := h.em (T k) _ (by omega) (by omega)
  have hbl : bmin T n (T k) ≤ b (T k) - 1 := by have := bmin_lmid (T := T) (n := n) (T k); omega
  have hbu : b (T k) - 1 < bmin T n (T k + 1) := by omega
  refine ⟨hjn, hroom, hbn, hbi, hnone, ?_⟩
  have old : ∀ p x, G p = some x → upd G (b (T k) - 1) (some k) p = some x := by
    intro p x hx
    rw [upd_other _ _ (fun e => by rw [e, hnone] at hx; cases hx)]; exact hx
  refine ⟨fun c => ?_, fun c => ?_, fun c p h1 h2 => ?_, fun c p h1 h2 => ?_, fun c p x h1 h2 hx => ?_, fun p q x y hpq hq hx hy => ?_, fun x hx => ?_, fun q y hq hqn hy h0 h1 h2 => ?_⟩
  · unfold upd; split
    · rename_i e; subst e; omega
    · exact h.lo c
  · unfold upd; split
    · rename_i e; subst e; omega
    · exact h.hi c
  · unfold upd at h1
    by_cases e : c = T k
    · subst e
      rw [if_pos rfl] at h1
      by_cases e' : p = b (T k) - 1
      · subst e'
        exact ⟨k, upd_same _ _ _, hkn, rfl, hS, hD, i, Nat.le_refl _, hi, old _ _ hG⟩
      · obtain ⟨x, a1, a2, a3, a4, a5, q, q1, q2, q3⟩ := h.sp (T k) p (by omega) h2
        exact ⟨x, old _ _ a1, a2, a3, a4, a5, q, by omega, q2, old _ _ q3⟩
    · rw [if_neg e] at h1
      obtain ⟨x, a1, a2, a3, a4, a5, q, q1, q2, q3⟩ := h.sp c p h1 h2
      exact ⟨x, old _ _ a1, a2, a3, a4, a5, q, by omega, q2, old _ _ q3⟩
  · unfold upd at h2
    by_cases e : c = T k
    · subst e
      rw [if_pos rfl] at h2
      rw [upd_other _ _ (by omega)]
      exact h.em (T k) p h1 (by omega)
    · rw [if_neg e] at h2
      rw [upd_other _ _ (fun e' => ?_)]
      · exact h.em c p h1 h2
      · have hm := bmin_lmid (T := T) (n := n) c
        have h0 := h.hi c
        subst e'
        exact e (bucket_eq (p := b (T k) - 1) (by omega) (by omega) hbl hbu)
  · rcases upd_some _ hx with ⟨e, _⟩ | ⟨_, hx'⟩
    · exfalso
      subst e
      have hm := lmid_bmin (T := T) (n := n) c
      have := bucket_eq (T := T) (n := n) (p := b (T k) - 1) (c := c) (d := T k) h1 (by omega) hbl hbu
      subst this
      omega
    · exact h.lp c p x h1 h2 hx'
  · have after : ∀ p x, b (T k) - 1 < p → p < n → G p = some x → R k x := by
      intro p x hp hpn hx
      obtain ⟨hxn, hx1, hx2, hx3⟩ := h.at_ hpn hx
      by_cases hlt : T k < T x
      · exact ho.chr k x hkn hxn hlt
      · have hxk : T k = T x := by
          rcases Nat.lt_trichotomy (T x) (T k) with a | a | a
          · have := bmin_next (T := T) (n := n) a; omega
          · exact a.symm
          · omega
        rcases hx3 with ⟨hxs, _, hxb⟩ | ⟨_, _, hxb⟩
        · obtain ⟨y, hy, hyn, hyc, hys, hyd, q, hq1, hq2, hq3⟩ := h.sp (T x) p hxb hx2
          rw [hx] at hy
          obtain rfl : x = y := Option.some.inj hy
          exact ho.ss k x hkn hxn hxk hS hxs (h.srt i q _ _ (by omega) hq2 hG hq3)
        · rw [← hxk] at hxb; omega
    have before : ∀ p x, p < b (T k) - 1 → G p = some x → R x k := by
      intro p x hp hx
      obtain ⟨hxn, hx1, hx2, hx3⟩ := h.at_ (by omega) hx
      by_cases hlt : T x < T k
      · exact ho.chr x k hxn hkn hlt
      · have hxk : T x = T k := by
          rcases Nat.lt_trichotomy (T x) (T k) with a | a | a
          · omega
          · exact a
          · have := bmin_next (T := T) (n := n) a; omega
        rcases hx3 with ⟨hxs, _, hxb⟩ | ⟨hxs, _, hxb⟩
        · rw [hxk] at hxb; omega
        · exact ho.typ x k hxn hkn hxk hxs hS
    rcases upd_some _ hx with ⟨e, e'⟩ | ⟨_, hx'⟩
    · subst e e'
      rcases upd_some _ hy with ⟨e, _⟩ | ⟨_, hy'⟩
      · omega
      · exact after q y hpq hq hy'
    · rcases upd_some _ hy with ⟨e, e'⟩ | ⟨_, hy'⟩
      · subst e e'; exact before p x hpq hx'
      · exact h.srt p q x y hpq hq hx' hy'
  · obtain ⟨p, hp, hx⟩ := h.ini x hx
    exact ⟨p, hp, old _ _ hx⟩
  · rcases upd_some _ hy with ⟨e, _⟩ | ⟨_, hy'⟩
    · omega
    · by_cases e : q = i
      · subst e
        rw [hG] at hy'
        obtain rfl : k + 1 = y := Option.some.inj hy'
        exact ⟨b (T k) - 1, by omega, by rw [upd_same]; simp⟩
      · obtain ⟨p, hp, hx⟩ := h.cmp q y (by omega) hqn hy' h0 h1 h2
        exact ⟨p, hp, old _ _ hx⟩

/-- THE START: only L's lie there -/
theorem SInv.start (hlp : ∀ c p x, bmin T n c ≤ p → p < lmid T n c → G p = some x → x < n ∧ T x = c ∧ sty T n x = false ∧ I x)
    (hem : ∀ c p, lmid T n c ≤ p → p < bmin T n (c + 1) → G p = none)
    (hsrt : ∀ p q x y, p < q → q < n → G p = some x → G q = some y → R x y) (hini : ∀ x, I x → ∃ p, p < n ∧ G p = some x) :
    SInv T n R D I n G (fun c => bmin T n (c + 1)) where
  lo := lmid_bmin
  hi _ := Nat.le_refl _
  sp c p h1 h2 := by omega
  em := hem
  lp := hlp
  srt := hsrt
  ini := hini
  cmp q y h1 h2 := by omega

theorem SInv.all (h : SInv T n R D I 0 G b) (hcl : ∀ x, D x → sty T n x = true → (sty T n (x + 1) = true ∧ D (x + 1)) ∨ I (x + 1)) {x : Nat} (hD : D x) (hS : sty T n x = true) :
    ∃ p, p < n ∧ G p = some x := by
  obtain ⟨d, hd⟩ : ∃ d, d = n - x := ⟨_, rfl⟩
  have hx := S_lt hS
  induction d generalizing x with
  | zero => omega
  | succ d ih =>
    have : ∃ q, q < n ∧ G q = some (x + 1) := by
      rcases hcl x hD hS with ⟨h1, h2⟩ | h1
      · exact ih h2 h1 (by omega) (S_lt h1)
      · exact h.ini _ h1
    obtain ⟨q, hq, hg⟩ := this
    exact h.cmp q (x + 1) (by omega) hq hg (by omega) (by simpa using hS) (by simpa using hD)
end

/-- every position is somewhere: so every place is filled -/
theorem all_filled {n : Nat} {G : Nat → Option Nat} (h : ∀ x, x < n → ∃ p, p < n ∧ G p = some x) : ∀ p, p < n → ∃ x, G p = some x := by
  intro p hp
  cases hG : G p with
  | some x => exact ⟨x, rfl⟩
  | none =>
    exfalso
    have h1 := pigeon_onto (P := fun _ => true) (n := n) (a := 0) (b := n - 1) (fun q => (G (if q < p then q else q + 1)).getD n) (fun x hx _ => by
      obtain ⟨q, hq, hg⟩ := h x hx
      have hne : q ≠ p := fun e => by rw [e, hG] at hg; cases hg
      by_cases hlt : q < p
      · exact ⟨q, by omega, by omega, by rw [if_pos hlt, hg]; rfl⟩
      · exact ⟨q - 1, by omega, by omega, by rw [if_neg (by omega), show q - 1 + 1 = q by omega, hg]; rfl⟩)
    rw [cn_true] at h1
    omega

/-- sa IS THE SUFFIX ARRAY -/
structure IsSA (T : Nat → Nat) (n : Nat) (sa : Nat → Nat) : Prop where
  lt : ∀ p, p < n → sa p < n
  srt : ∀ p q, p < q → q < n → slt T n (sa p) (sa q)
  onto : ∀ x, x < n → ∃ p, p < n ∧ sa p = x

theorem IsSA.inj {T : Nat → Nat} {n : Nat} {sa : Nat → Nat} (h : IsSA T n sa) {p q : Nat} (hp : p < n) (hq : q < n) (e : sa p = sa q) : p = q := by
  rcases Nat.lt_trichotomy p q with a | a | a
  · have := h.srt p q a hq; rw [e] at this; exact absurd this (slt_irrefl _)
  · exact a
  · have := h.srt q p a hp; rw [e] at this; exact absurd this (slt_irrefl _)
end Go.Proofs.YtpkgkppehefibaaGreatDoor.Sa

/- Plain theory, part 4: LMS positions, the next one, how many; the keys of LMS substrings and the two orders by them. -/
namespace Go.Proofs.YtpkgkppehefibaaGreatDoor.Sa
section
variable (T : Nat → Nat) (n : Nat)
/-- i is an LMS position: an S behind an L -/
def lms (i : Nat) : Bool := decide (0 < i) && sty T n i && !sty T n (i - 1)
def nxAux : Nat → Nat → Nat
  | 0, _ => 0
  | d + 1, i => if lms T n (i + 1) = true then i + 1 else nxAux d (i + 1)
/-- the next LMS position behind i; 0: there is none -/
def nx (i : Nat) : Nat := nxAux T n (n - 1 - i) i
def lcAux : Nat → Nat → Nat
  | 0, _ => 0
  | d + 1, i => lcAux d (i + 1) + if lms T n (i + 1) = true then 1 else 0
/-- how many LMS positions lie behind i -/
def lc (i : Nat) : Nat := lcAux T n (n - 1 - i) i

variable {T n}
theorem lms_succ (i : Nat) : lms T n (i + 1) = true ↔ sty T n (i + 1) = true ∧ sty T n i = false := by simp [lms]
theorem lms_iff {i : Nat} : lms T n (i + 1) = true ↔ sty T n (i + 1) = true ∧ T (i + 1) < T i := by
  rw [lms_succ]
  constructor
  · intro ⟨h1, h2⟩; exact ⟨h1, L_S_gt h2 h1⟩
  · intro ⟨h1, h2⟩; exact ⟨h1, sty_gt h2⟩
theorem lms_pos {i : Nat} (h : lms T n i = true) : 0 < i := by simp [lms] at h; omega
theorem lms_S {i : Nat} (h : lms T n i = true) : sty T n i = true := by simp [lms] at h; exact h.1.2
theorem lms_L {i : Nat} (h : lms T n i = true) : sty T n (i - 1) = false := by simp [lms] at h; exact h.2
theorem lms_lt {i : Nat} (h : lms T n i = true) : i + 1 < n := S_lt (lms_S h)
theorem lms_gt {i : Nat} (h : lms T n i = true) : T i < T (i - 1) := by
  have h0 := lms_pos h
  have := L_S_gt (i := i - 1) (lms_L h) (by rw [show i - 1 + 1 = i by omega]; exact lms_S h)
  rwa [show i - 1 + 1 = i by omega] at this
theorem lms_of {i : Nat} (h0 : 0 < i) (h1 : sty T n i = true) (h2 : sty T n (i - 1) = false) : lms T n i = true := by simp [lms, h0, h1, h2]
theorem lms_next {i : Nat} (h : lms T n i = true) : lms T n (i + 1) = false := by
  have := lms_S h
  simp [lms, this]
theorem lms_end {i : Nat} (h : n ≤ i + 1) : lms T n i = false := by simp [lms, sty_end h]

theorem nx_end {i : Nat} (h : n ≤ i + 1) : nx T n i = 0 := by
  unfold nx
  rw [show n - 1 - i = 0 by omega]
  rfl
theorem nx_step {i : Nat} (h : i + 1 < n) : nx T n i = if lms T n (i + 1) = true then i + 1 else nx T n (i + 1) := by
  unfold nx
  rw [show n - 1 - i = (n - 1 - (i + 1)) + 1 by omega]
  rfl
theorem lc_end {i : Nat} (h : n ≤ i + 1) : lc T n i = 0 := by
  unfold lc
  rw [show n - 1 - i = 0 by omega]
  rfl
theorem lc_step' {i : Nat} (h : i + 1 < n) : lc T n i = lc T n (i + 1) + if lms T n (i + 1) = true then 1 else 0 := by
  unfold lc
  rw [show n - 1 - i = (n - 1 - (i + 1)) + 1 by omega]
  rfl
theorem lc_step (i : Nat) : lc T n i = lc T n (i + 1) + if lms T n (i + 1) = true then 1 else 0 := by
  by_cases h : i + 1 < n
  · exact lc_step' h
  · rw [lc_end (by omega), lc_end (by omega), lms_end (by omega)]; rfl
theorem nx_succ (i : Nat) : nx T n i = if lms T n (i + 1) = true then i + 1 else nx T n (i + 1) := by
  by_cases h : i + 1 < n
  · exact nx_step h
  · rw [nx_end (by omega), nx_end (by omega), lms_end (by omega)]; rfl
theorem nx_of_lms {i : Nat} (h : lms T n (i + 1) = true) : nx T n i = i + 1 := by rw [nx_succ, if_pos h]
theorem nx_of_not {i : Nat} (h : lms T n (i + 1) = false) : nx T n i = nx T n (i + 1) := by rw [nx_succ, if_neg (by simp [h])]
theorem lc_of_lms {i : Nat} (h : lms T n (i + 1) = true) : lc T n i = lc T n (i + 1) + 1 := by rw [lc_step, if_pos h]
theorem lc_of_not {i : Nat} (h : lms T n (i + 1) = false) : lc T n i = lc T n (i + 1) := by rw [lc_step, if_neg (by simp [h])]; omega

/-- what the next one is -/
theorem nx_spec (i : Nat) : (nx T n i = 0 ∧ lc T n i = 0 ∧ ∀ j, i < j → lms T n j = false) ∨
    (i < nx T n i ∧ lms T n (nx T n i) = true ∧ lc T n i = lc T n (nx T n i) + 1 ∧ ∀ j, i < j → j < nx T n i → lms T n j = false) := by
  obtain ⟨d, hd⟩ : ∃ d, d = n - i := ⟨_, rfl⟩
  induction d generalizing i with
  | zero => exact .inl ⟨nx_end (by omega), lc_end (by omega), fun j hj => lms_end (by omega)⟩
  | succ d ih =>
    cases h : lms T n (i + 1) with
    | true => exact .inr (by rw [nx_of_lms h]; exact ⟨by omega, h, lc_of_lms h, fun j h1 h2 => by omega⟩)
    | false =>
      rw [nx_of_not h, lc_of_not h]
      rcases ih (i + 1) (by omega) with ⟨h1, h2, h3⟩ | ⟨h1, h2, h3, h4⟩
      · refine .inl ⟨h1, h2, fun j hj => ?_⟩
        by_cases e : j = i + 1
        · rw [e]; exact h
        · exact h3 j (by omega)
      · refine .inr ⟨by omega, h2, h3, fun j hj1 hj2 => ?_⟩
        by_cases e : j = i + 1
        · rw [e]; exact h
        · exact h4 j (by omega) hj2
theorem nx_none {i j : Nat} (h : nx T n i = 0) (hj : i < j) : lms T n j = false := by
  rcases nx_spec (T := T) (n := n) i with ⟨_, _, h3⟩ | ⟨h1, _⟩
  · exact h3 j hj
  · omega
theorem nx_some {i : Nat} (h : nx T n i ≠ 0) : i < nx T n i ∧ lms T n (nx T n i) = true ∧ lc T n i = lc T n (nx T n i) + 1 := by
  rcases nx_spec (T := T) (n := n) i with ⟨h1, _⟩ | ⟨h1, h2, h3, _⟩
  · exact absurd h1 h
  · exact ⟨h1, h2, h3⟩
theorem nx_le {i j : Nat} (hj : i < j) (h : lms T n j = true) : nx T n i ≠ 0 ∧ nx T n i ≤ j := by
  rcases nx_spec (T := T) (n := n) i with ⟨_, _, h3⟩ | ⟨h1, _, _, h4⟩
  · rw [h3 j hj] at h; cases h
  · refine ⟨by omega, ?_⟩
    by_cases c : nx T n i ≤ j
    · exact c
    · rw [h4 j hj (by omega)] at h; cases h
theorem nx_zero_iff (i : Nat) : nx T n i = 0 ↔ lc T n i = 0 := by
  rcases nx_spec (T := T) (n := n) i with ⟨h1, h2, _⟩ | ⟨h1, _, h3, _⟩
  · simp [h1, h2]
  · constructor <;> intro h <;> omega
theorem lc_anti {i j : Nat} (h : i ≤ j) : lc T n j ≤ lc T n i := by
  obtain ⟨d, rfl⟩ : ∃ d, j = i + d := ⟨j - i, by omega⟩
  clear h
  induction d with
  | zero => exact Nat.le_refl _
  | succ d ih =>
    have h1 := lc_step (T := T) (n := n) (i + d)
    rw [show i + (d + 1) = i + d + 1 by omega]
    omega
theorem lc_lt {i j : Nat} (h : i < j) (hj : lms T n j = true) : lc T n j < lc T n i := by
  have h1 := lc_anti (T := T) (n := n) (i := i) (j := j - 1) (by omega)
  have h2 := lc_of_lms (T := T) (n := n) (i := j - 1) (by rwa [show j - 1 + 1 = j by omega])
  rw [show j - 1 + 1 = j by omega] at h2
  omega
theorem lc_inj {i j : Nat} (hi : lms T n i = true) (hj : lms T n j = true) (e : lc T n i = lc T n j) : i = j := by
  rcases Nat.lt_trichotomy i j with h | h | h
  · have := lc_lt h hj; omega
  · exact h
  · have := lc_lt h hi; omega
/-- LMS positions are at least two apart -/
theorem lc_half {i : Nat} (hi : i < n) : 2 * lc T n i + i + 1 ≤ n := by
  obtain ⟨d, hd⟩ : ∃ d, d = n - i := ⟨_, rfl⟩
  induction d using Nat.strongRecOn generalizing i with
  | ind d ih =>
    by_cases h1 : i + 1 < n
    · cases h : lms T n (i + 1) with
      | true =>
        have h2 := lms_lt h
        have h3 := ih (n - (i + 2)) (by omega) (i := i + 2) (by omega) rfl
        have h4 := lc_of_lms h
        have h5 := lc_of_not (lms_next h)
        rw [show i + 1 + 1 = i + 2 by omega] at h5
        omega
      | false =>
        have h3 := ih (n - (i + 1)) (by omega) (i := i + 1) (by omega) rfl
        rw [lc_of_not h]
        omega
    · rw [lc_end (by omega)]; omega
theorem lc_cn {i : Nat} (hi : i < n) : lc T n i + cn (lms T n) (i + 1) = cn (lms T n) n := by
  obtain ⟨d, hd⟩ : ∃ d, d = n - i := ⟨_, rfl⟩
  induction d generalizing i with
  | zero => omega
  | succ d ih =>
    by_cases h1 : i + 1 < n
    · have h2 := ih h1 (by omega)
      rw [lc_step, ← h2, show cn (lms T n) (i + 1 + 1) = cn (lms T n) (i + 1) + (if lms T n (i + 1) = true then 1 else 0) from rfl]
      omega
    · obtain rfl : n = i + 1 := by omega
      rw [lc_end (by omega)]; omega
theorem lc_all (hn : 0 < n) : lc T n 0 = cn (lms T n) n := by
  rw [← lc_cn hn]
  simp [cn, lms]
/-- the t-th from behind -/
theorem lc_onto {i t : Nat} (h : t < lc T n i) : ∃ p, i < p ∧ lms T n p = true ∧ lc T n p = t := by
  obtain ⟨d, hd⟩ : ∃ d, d = lc T n i := ⟨_, rfl⟩
  induction d generalizing i with
  | zero => omega
  | succ d ih =>
    have h0 : nx T n i ≠ 0 := fun e => by have := (nx_zero_iff (T := T) (n := n) i).1 e; omega
    obtain ⟨h1, h2, h3⟩ := nx_some h0
    by_cases e : t = lc T n (nx T n i)
    · exact ⟨_, h1, h2, e.symm⟩
    · obtain ⟨p, hp1, hp2, hp3⟩ := ih (i := nx T n i) (by omega) (by omega)
      exact ⟨p, by omega, hp2, hp3⟩
end

/- THE KEYS -/
section
variable (T : Nat → Nat) (n : Nat)
def code (i : Nat) : Nat := 2 * T i + if sty T n i = true then 1 else 0
def lkAux : Nat → Nat → List Nat
  | 0, _ => []
  | d + 1, i => code T n i :: (if sty T n i = true then [] else lkAux d (i + 1))
/-- the key of an L, up to the next LMS position; of an LMS position: its char alone -/
def lk (i : Nat) : List Nat := lkAux T n (n - i) i
def skAux : Nat → Nat → List Nat
  | 0, _ => []
  | d + 1, i => if sty T n i = true then code T n i :: skAux d (i + 1) else lk T n i
/-- the key of a position, up to the next LMS position -/
def sk (i : Nat) : List Nat := skAux T n (n - i) i
/-- the order of the scan of the L's over LMS substrings -/
def rl (x y : Nat) : Prop := lk T n x < lk T n y ∨ (lk T n x = lk T n y ∧ x < y)
def rs (x y : Nat) : Prop := sk T n x < sk T n y ∨ (sk T n x = sk T n y ∧ x < y)
variable {T n}
theorem lk_end {i : Nat} (h : n ≤ i) : lk T n i = [] := by
  unfold lk
  rw [show n - i = 0 by omega]
  rfl
theorem lk_L {i : Nat} (hi : i < n) (h : sty T n i = false) : lk T n i = code T n i :: lk T n (i + 1) := by
  unfold lk
  rw [show n - i = (n - (i + 1)) + 1 by omega]
  simp [lkAux, h]
theorem lk_S {i : Nat} (h : sty T n i = true) : lk T n i = [code T n i] := by
  have := S_lt h
  unfold lk
  rw [show n - i = (n - (i + 1)) + 1 by omega]
  simp [lkAux, h]
theorem lk_cons {i : Nat} (hi : i < n) : ∃ l, lk T n i = code T n i :: l := by
  cases h : sty T n i with
  | true => exact ⟨_, lk_S h⟩
  | false => exact ⟨_, lk_L hi h⟩
theorem sk_L {i : Nat} (hi : i < n) (h : sty T n i = false) : sk T n i = lk T n i := by
  unfold sk
  rw [show n - i = (n - (i + 1)) + 1 by omega]
  simp [skAux, h]
theorem sk_S {i : Nat} (h : sty T n i = true) : sk T n i = code T n i :: sk T n (i + 1) := by
  have := S_lt h
  unfold sk
  rw [show n - i = (n - (i + 1)) + 1 by omega]
  simp [skAux, h]
theorem sk_cons {i : Nat} (hi : i < n) : ∃ l, sk T n i = code T n i :: l := by
  cases h : sty T n i with
  | true => exact ⟨_, sk_S h⟩
  | false => rw [sk_L hi h]; exact ⟨_, lk_L hi h⟩
theorem code_lt_of_chr {x y : Nat} (h : T x < T y) : code T n x < code T n y := by unfold code; split <;> split <;> omega
theorem code_lt_of_typ {x y : Nat} (h : T x = T y) (h1 : sty T n x = false) (h2 : sty T n y = true) : code T n x < code T n y := by simp [code, h1, h2, h]
theorem code_lt {x y : Nat} (h : code T n x < code T n y) : T x < T y ∨ (T x = T y ∧ sty T n x = false ∧ sty T n y = true) := by
  unfold code at h
  cases h1 : sty T n x <;> cases h2 : sty T n y <;> simp [h1, h2] at h ⊢ <;> omega
theorem code_eq {x y : Nat} (h : code T n x = code T n y) : T x = T y ∧ sty T n x = sty T n y := by
  unfold code at h
  cases h1 : sty T n x <;> cases h2 : sty T n y <;> simp [h1, h2] at h ⊢ <;> omega
theorem code_of {x y : Nat} (h : T x = T y) (h' : sty T n x = sty T n y) : code T n x = code T n y := by simp [code, h, h']

theorem ordL_rl : OrdL T n (rl T n) where
  irr x h := by
    rcases h with h | ⟨_, h⟩
    · exact List.lt_irrefl _ h
    · omega
  fst y hy := .inl (by
    rw [lk_end (Nat.le_refl _)]
    obtain ⟨l, hl⟩ := lk_cons (T := T) hy
    rw [hl]
    exact List.nil_lt_cons _ _)
  chr x y hx hy h := .inl (by
    obtain ⟨l, hl⟩ := lk_cons (T := T) hx
    obtain ⟨m, hm⟩ := lk_cons (T := T) hy
    rw [hl, hm, List.cons_lt_cons_iff]
    exact .inl (code_lt_of_chr h))
  typ x y hx hy e h1 h2 := .inl (by
    obtain ⟨l, hl⟩ := lk_cons (T := T) hx
    obtain ⟨m, hm⟩ := lk_cons (T := T) hy
    rw [hl, hm, List.cons_lt_cons_iff]
    exact .inl (code_lt_of_typ e h1 h2))
  ll x y hx hy e h1 h2 h := by
    have hc : code T n x = code T n y := code_of e (by rw [h1, h2])
    unfold rl
    rw [lk_L hx h1, lk_L hy h2, hc]
    rcases h with h | ⟨h, h'⟩
    · exact .inl (List.cons_lt_cons_iff.2 (.inr ⟨rfl, h⟩))
    · exact .inr ⟨by rw [h], by omega⟩
theorem ordS_rs : OrdS T n (rs T n) where
  irr x h := by
    rcases h with h | ⟨_, h⟩
    · exact List.lt_irrefl _ h
    · omega
  chr x y hx hy h := .inl (by
    obtain ⟨l, hl⟩ := sk_cons (T := T) hx
    obtain ⟨m, hm⟩ := sk_cons (T := T) hy
    rw [hl, hm, List.cons_lt_cons_iff]
    exact .inl (code_lt_of_chr h))
  typ x y hx hy e h1 h2 := .inl (by
    obtain ⟨l, hl⟩ := sk_cons (T := T) hx
    obtain ⟨m, hm⟩ := sk_cons (T := T) hy
    rw [hl, hm, List.cons_lt_cons_iff]
    exact .inl (code_lt_of_typ e h1 h2))
  ss x y _ _ e h1 h2 h := by
    have hc : code T n x = code T n y := code_of e (by rw [h1, h2])
    unfold rs
    rw [sk_S h1, sk_S h2, hc]
    rcases h with h | ⟨h, h'⟩
    · exact .inl (List.cons_lt_cons_iff.2 (.inr ⟨rfl, h⟩))
    · exact .inr ⟨by rw [h], by omega⟩
theorem rs_of_rl {x y : Nat} (hx : x < n) (hy : y < n) (h1 : sty T n x = false) (h2 : sty T n y = false) (h : rl T n x y) : rs T n x y := by
  unfold rs
  rw [sk_L hx h1, sk_L hy h2]
  exact h

/-- A SMALLER KEY: A SMALLER SUFFIX -/
theorem slt_of_lk {x y : Nat} (hy : y < n) (h : lk T n x < lk T n y) (hx : x ≤ n) : slt T n x y := by
  obtain ⟨d, hd⟩ : ∃ d, d = n - x := ⟨_, rfl⟩
  induction d generalizing x y with
  | zero =>
    obtain rfl : x = n := by omega
    exact slt_end hy
  | succ d ih =>
    have hxn : x < n := by omega
    rw [slt_cons hxn hy]
    by_cases hc : code T n x = code T n y
    · obtain ⟨e1, e2⟩ := code_eq hc
      refine .inr ⟨e1, ?_⟩
      cases hs : sty T n x with
      | true =>
        rw [hs] at e2
        rw [lk_S hs, lk_S e2.symm, hc] at h
        exact absurd h (List.lt_irrefl _)
      | false =>
        rw [hs] at e2
        rw [lk_L hxn hs, lk_L hy e2.symm, hc, List.cons_lt_cons_iff] at h
        rcases h with h | ⟨_, h⟩
        · omega
        · have hy1 : y + 1 < n := by
            by_cases c : y + 1 < n
            · exact c
            · rw [lk_end (i := y + 1) (by omega)] at h
              exact absurd h (List.not_lt_nil _)
          exact ih hy1 h (by omega) (by omega)
    · obtain ⟨l, hl⟩ := lk_cons (T := T) hxn
      obtain ⟨m, hm⟩ := lk_cons (T := T) hy
      rw [hl, hm, List.cons_lt_cons_iff] at h
      rcases h with h | ⟨h, _⟩
      · rcases code_lt h with h | ⟨h1, h2, h3⟩
        · exact .inl h
        · exact (slt_cons hxn hy).1 (slt_L_S hxn hy h1 h2 h3)
      · exact absurd h hc
theorem slt_of_sk {x y : Nat} (hx : x < n) (hy : y < n) (h : sk T n x < sk T n y) : slt T n x y := by
  obtain ⟨d, hd⟩ : ∃ d, d = n - x := ⟨_, rfl⟩
  induction d generalizing x y with
  | zero => omega
  | succ d ih =>
    by_cases hc : code T n x = code T n y
    · obtain ⟨e1, e2⟩ := code_eq hc
      cases hs : sty T n x with
      | true =>
        rw [hs] at e2
        rw [slt_cons hx hy]
        rw [sk_S hs, sk_S e2.symm, hc, List.cons_lt_cons_iff] at h
        rcases h with h | ⟨_, h⟩
        · omega
        · exact .inr ⟨e1, ih (S_lt hs) (S_lt e2.symm) h (by omega)⟩
      | false =>
        rw [hs] at e2
        rw [sk_L hx hs, sk_L hy e2.symm] at h
        exact slt_of_lk hy h (by omega)
    · obtain ⟨l, hl⟩ := sk_cons (T := T) hx
      obtain ⟨m, hm⟩ := sk_cons (T := T) hy
      rw [hl, hm, List.cons_lt_cons_iff] at h
      rcases h with h | ⟨h, _⟩
      · rw [slt_cons hx hy]
        rcases code_lt h with h | ⟨h1, h2, h3⟩
        · exact .inl h
        · exact (slt_cons hx hy).1 (slt_L_S hx hy h1 h2 h3)
      · exact absurd h hc

/- what equal keys say -/
/-- the last position of the substring from x on -/
def en (T : Nat → Nat) (n : Nat) (x : Nat) : Nat := if nx T n x = 0 then n - 1 else nx T n x
theorem en_ge {x : Nat} (hx : x < n) : x ≤ en T n x := by
  unfold en
  split
  · omega
  · rename_i h; have := (nx_some h).1; omega
theorem lk_list {x : Nat} (hx : x < n) (h : sty T n x = false) : lk T n x = (List.range' x (en T n x + 1 - x)).map (code T n) := by
  obtain ⟨d, hd⟩ : ∃ d, d = n - x := ⟨_, rfl⟩
  induction d generalizing x with
  | zero => omega
  | succ d ih =>
    rw [lk_L hx h]
    by_cases h1 : x + 1 < n
    · cases hs : sty T n (x + 1) with
      | true =>
        have hl : lms T n (x + 1) = true := (lms_succ x).2 ⟨hs, h⟩
        have he : en T n x = x + 1 := by unfold en; rw [nx_of_lms hl]; simp
        rw [he, lk_S hs, show x + 1 + 1 - x = 2 by omega]
        rfl
      | false =>
        have hl : lms T n (x + 1) = false := by
          cases hl : lms T n (x + 1) with
          | false => rfl
          | true => have := lms_S hl; rw [hs] at this; cases this
        have he : en T n x = en T n (x + 1) := by unfold en; rw [nx_of_not hl]
        have hge := en_ge (T := T) h1
        rw [he, ih h1 hs (by omega), show en T n (x + 1) + 1 - x = (en T n (x + 1) + 1 - (x + 1)) + 1 by omega, List.range'_succ, List.map_cons]
    · have he : en T n x = x := by unfold en; rw [nx_end (by omega)]; simp; omega
      rw [he, lk_end (by omega), show x + 1 - x = 1 by omega]
      rfl
theorem sk_list {x : Nat} (hx : x < n) : sk T n x = (List.range' x (en T n x + 1 - x)).map (code T n) := by
  obtain ⟨d, hd⟩ : ∃ d, d = n - x := ⟨_, rfl⟩
  induction d generalizing x with
  | zero => omega
  | succ d ih =>
    cases hs : sty T n x with
    | false => rw [sk_L hx hs]; exact lk_list hx hs
    | true =>
      have h1 := S_lt hs
      have hl : lms T n (x + 1) = false := by simp [lms, hs]
      have he : en T n x = en T n (x + 1) := by unfold en; rw [nx_of_not hl]
      have hge := en_ge (T := T) h1
      rw [sk_S hs, he, ih h1 (by omega), show en T n (x + 1) + 1 - x = (en T n (x + 1) + 1 - (x + 1)) + 1 by omega, List.range'_succ, List.map_cons]
theorem sk_eq_iff {x y : Nat} (hx : x < n) (hy : y < n) : sk T n x = sk T n y ↔ en T n x - x = en T n y - y ∧ ∀ t, t ≤ en T n x - x → code T n (x + t) = code T n (y + t) := by
  have ex := en_ge (T := T) hx
  have ey := en_ge (T := T) hy
  rw [sk_list hx, sk_list hy]
  constructor
  · intro h
    have hl := congrArg List.length h
    simp at hl
    refine ⟨by omega, fun t ht => ?_⟩
    have := congrArg (fun l => l[t]?) h
    simp only [List.getElem?_map] at this
    rw [List.getElem?_range' (by omega), List.getElem?_range' (by omega)] at this
    simpa using this
  · intro ⟨hl, hc⟩
    apply List.ext_getElem?
    intro t
    simp only [List.getElem?_map]
    by_cases ht : t ≤ en T n x - x
    · rw [List.getElem?_range' (by omega), List.getElem?_range' (by omega)]
      simpa using hc t ht
    · rw [List.getElem?_eq_none (by simp; omega), List.getElem?_eq_none (by simp; omega)]
/-- equal keys of two positions: neither is the last, and they are equal up to the next LMS positions -/
theorem sk_eq {x y : Nat} (hx : x < n) (hy : y < n) (h : sk T n x = sk T n y) (hne : x ≠ y) :
    nx T n x ≠ 0 ∧ nx T n y ≠ 0 ∧ nx T n x - x = nx T n y - y ∧ ∀ t, t ≤ nx T n x - x → T (x + t) = T (y + t) := by
  obtain ⟨h1, h2⟩ := (sk_eq_iff hx hy).1 h
  have ex := en_ge (T := T) hx
  have ey := en_ge (T := T) hy
  have hlast := h2 (en T n x - x) (Nat.le_refl _)
  rw [show x + (en T n x - x) = en T n x by omega, show y + (en T n x - x) = en T n y by omega] at hlast
  have hlast := (code_eq hlast).2
  by_cases hx0 : nx T n x = 0
  · have e1 : en T n x = n - 1 := by unfold en; rw [if_pos hx0]
    by_cases hy0 : nx T n y = 0
    · have e2 : en T n y = n - 1 := by unfold en; rw [if_pos hy0]
      omega
    · have e2 : en T n y = nx T n y := by unfold en; rw [if_neg hy0]
      have := lms_S (nx_some hy0).2.1
      rw [e1, e2, this, sty_end (by omega)] at hlast
      cases hlast
  · have e1 : en T n x = nx T n x := by unfold en; rw [if_neg hx0]
    by_cases hy0 : nx T n y = 0
    · have e2 : en T n y = n - 1 := by unfold en; rw [if_pos hy0]
      have := lms_S (nx_some hx0).2.1
      rw [e1, e2, this, sty_end (by omega)] at hlast
      cases hlast
    · have e2 : en T n y = nx T n y := by unfold en; rw [if_neg hy0]
      rw [e1] at h1 h2
      rw [e2] at h1
      exact ⟨hx0, hy0, h1, fun t ht => (code_eq (h2 t ht)).1⟩
/-- and the other way round -/
theorem sk_of {x y : Nat} (hx : nx T n x ≠ 0) (hy : nx T n y ≠ 0) (hl : nx T n x - x = nx T n y - y) (hc : ∀ t, t ≤ nx T n x - x → T (x + t) = T (y + t)) : sk T n x = sk T n y := by
  obtain ⟨a1, a2, _⟩ := nx_some hx
  obtain ⟨b1, b2, _⟩ := nx_some hy
  have hxn := lms_lt a2
  have hyn := lms_lt b2
  have e1 : en T n x = nx T n x := by unfold en; rw [if_neg hx]
  have e2 : en T n y = nx T n y := by unfold en; rw [if_neg hy]
  rw [sk_eq_iff (by omega) (by omega), e1, e2]
  refine ⟨hl, fun t ht => code_of (hc t ht) ?_⟩
  obtain ⟨d, hd⟩ : ∃ d, t + d = nx T n x - x := ⟨nx T n x - x - t, by omega⟩
  induction d generalizing t with
  | zero =>
    rw [show x + t = nx T n x by omega, show y + t = nx T n y by omega, lms_S a2, lms_S b2]
  | succ d ih =>
    have h1 := ih (t + 1) (by omega) (by omega)
    have c1 := hc t ht
    have c2 := hc (t + 1) (by omega)
    rw [sty_step (i := x + t) (by omega), sty_step (i := y + t) (by omega), show x + t + 1 = x + (t + 1) by omega, show y + t + 1 = y + (t + 1) by omega, c1, c2, h1]
end
end Go.Proofs.YtpkgkppehefibaaGreatDoor.Sa

/- Plain theory, part 5: what the arrays hold while LMS positions are placed and LMS substrings are sorted. -/
namespace Go.Proofs.YtpkgkppehefibaaGreatDoor.Sa
section
variable (T : Nat → Nat) (n : Nat)

/-- LMS positions behind i lie at the ends of their buckets -/
structure PInv (i : Nat) (A : Nat → Int) (b : Nat → Nat) : Prop where
  lo : ∀ c, lmid T n c ≤ b c
  hi : ∀ c, b c ≤ bmin T n (c + 1)
  sp : ∀ c p, b c ≤ p → p < bmin T n (c + 1) → ∃ x : Nat, A p = x ∧ lms T n x = true ∧ T x = c ∧ i < x
  em : ∀ c p, bmin T n c ≤ p → p < b c → A p = 0
  inc : ∀ c p q (x y : Nat), b c ≤ p → p < q → q < bmin T n (c + 1) → A p = x → A q = y → x < y
  all : ∀ x, lms T n x = true → i < x → ∃ p, b (T x) ≤ p ∧ p < bmin T n (T x + 1) ∧ A p = x

/-- what lies where, off an array without signs -/
def gA (A : Nat → Int) (p : Nat) : Option Nat := if A p = 0 then none else some (A p).toNat
/-- WHAT A SCAN OF THE L's BEGINS WITH -/
structure Start (R : Nat → Nat → Prop) (I : Nat → Prop) (A : Nat → Int) : Prop where
  nn : ∀ p, p < n → 0 ≤ A p
  em : ∀ c p, bmin T n c ≤ p → p < lmid T n c → A p = 0
  sp : ∀ c p (x : Nat), lmid T n c ≤ p → p < bmin T n (c + 1) → A p = x → 0 < x → x < n ∧ T x = c ∧ lms T n x = true ∧ I x
  srt : ∀ p q (x y : Nat), p < q → q < n → A p = x → A q = y → 0 < x → 0 < y → R x y
  ini : ∀ x, I x → lms T n x = true ∧ ∃ p, p < n ∧ A p = x

variable {T n}
section
variable {i : Nat} {A : Nat → Int} {b : Nat → Nat}
theorem PInv.start (h : ∀ p, p < n → A p = 0) : PInv T n n A (fun c => bmin T n (c + 1)) where
  lo := lmid_bmin
  hi _ := Nat.le_refl _
  sp c p h1 h2 := by omega
  em c p _ h2 := h p (Nat.lt_of_lt_of_le h2 (bmin_le _))
  inc c p q x y h1 h2 h3 := by omega
  all x h1 h2 := by have := lms_lt h1; omega
theorem PInv.skip (h : PInv T n (i + 1) A b) (hl : lms T n (i + 1) = false) : PInv T n i A b where
  lo := h.lo
  hi := h.hi
  sp c p h1 h2 := by
    obtain ⟨x, a1, a2, a3, a4⟩ := h.sp c p h1 h2
    exact ⟨x, a1, a2, a3, by omega⟩
  em := h.em
  inc := h.inc
  all x h1 h2 := h.all x h1 (by
    by_cases e : x = i + 1
    · subst e; rw [hl] at h1; cases h1
    · omega)
theorem PInv.ins (h : PInv T n (i + 1) A b) (hl : lms T n (i + 1) = true) :
    lmid T n (T (i + 1)) < b (T (i + 1)) ∧ b (T (i + 1)) ≤ n ∧ PInv T n i (upd A (b (T (i + 1)) - 1) ((i + 1 : Nat) : Int)) (upd b (T (i + 1)) (b (T (i + 1)) - 1)) := by
  have hln := lms_lt hl
  generalize hk : i + 1 = k at *
  have hroom : lmid T n (T k) < b (T k) := by
    have hlo := h.lo (T k)
    have hhi := h.hi (T k)
    by_cases hc : lmid T n (T k) < b (T k)
    · exact hc
    exfalso
    have hp := pigeon (P := fun i => decide (T i = T k) && sty T n i) (n := n) (a := b (T k)) (b := bmin T n (T k + 1) + 1) (fun p => if p < bmin T n (T k + 1) then (A p).toNat else k) (by
      intro p q h1 h2 h3
      obtain ⟨x, hx, _, _, hxi⟩ := h.sp (T k) p h1 (by omega)
      rw [if_pos (by omega), hx, Int.toNat_natCast]
      by_cases hq : q < bmin T n (T k + 1)
      · obtain ⟨y, hy, _⟩ := h.sp (T k) q (by omega) hq
        rw [if_pos hq, hy, Int.toNat_natCast]
        have := h.inc (T k) p q x y h1 h2 hq hx hy
        omega
      · rw [if_neg hq]; omega) (by
      intro p h1 h2
      by_cases hq : p < bmin T n (T k + 1)
      · obtain ⟨x, hx, hxl, hc, _⟩ := h.sp (T k) p h1 hq
        have := lms_lt hxl
        have hS := lms_S hxl
        rw [if_pos hq, hx, Int.toNat_natCast]
        exact ⟨by omega, by simp [hc, hS]⟩
      · rw [if_neg hq]
        have hS := lms_S hl
        exact ⟨by omega, by simp [hS]⟩)
    have := bmin_split (T := T) (n := n) (T k)
    omega
  have hbhi := h.hi (T k)
  have hbl : bmin T n (T k) ≤ b (T k) - 1 := by have := bmin_lmid (T := T) (n := n) (T k); omega
  have hbu : b (T k) - 1 < bmin T n (T k + 1) := by omega
  have far : ∀ c p, c ≠ T k → bmin T n c ≤ p → p < bmin T n (c + 1) → upd A (b (T k) - 1) (k : Int) p = A p := by
    intro c p hc h1 h2
    rw [upd_other]
    intro e
    subst e
    exact hc (bucket_eq h1 h2 hbl hbu)
  have blo : ∀ c, bmin T n c ≤ b c := fun c => Nat.le_trans (bmin_lmid c) (h.lo c)
  refine ⟨hroom, Nat.le_trans hbhi (bmin_le _), ?_⟩
  refine ⟨fun c => ?_, fun c => ?_, fun c p h1 h2 => ?_, fun c p h1 h2 => ?_, fun c p q x y h1 h2 h3 hx hy => ?_, fun x h1 h2 => ?_⟩
  · unfold upd; split
    · rename_i e; subst e; omega
    · exact h.lo c
  · unfold upd; split
    · rename_i e; subst e; omega
    · exact h.hi c
  · by_cases e : c = T k
    · subst e
      rw [upd_same] at h1
      by_cases e' : p = b (T k) - 1
      · subst e'
        exact ⟨k, upd_same _ _ _, hl, rfl, by omega⟩
      · obtain ⟨x, a1, a2, a3, a4⟩ := h.sp (T k) p (by omega) h2
        exact ⟨x, by rw [upd_other _ _ e']; exact a1, a2, a3, by omega⟩
    · rw [upd_other _ _ e] at h1
      obtain ⟨x, a1, a2, a3, a4⟩ := h.sp c p h1 h2
      exact ⟨x, by rw [far c p e (Nat.le_trans (blo c) h1) h2]; exact a1, a2, a3, by omega⟩
  · by_cases e : c = T k
    · subst e
      rw [upd_same] at h2
      rw [upd_other _ _ (by omega)]
      exact h.em (T k) p h1 (by omega)
    · rw [upd_other _ _ e] at h2
      rw [far c p e h1 (Nat.lt_of_lt_of_le h2 (h.hi c))]
      exact h.em c p h1 h2
  · by_cases e : c = T k
    · subst e
      rw [upd_same] at h1
      rw [upd_other _ _ (by omega)] at hy
      by_cases e' : p = b (T k) - 1
      · subst e'
        rw [upd_same] at hx
        obtain ⟨z, hz, _, _, hzi⟩ := h.sp (T k) q (by omega) h3
        omega
      · rw [upd_other _ _ e'] at hx
        exact h.inc (T k) p q x y (by omega) h2 h3 hx hy
    · rw [upd_other _ _ e] at h1
      have := blo c
      rw [far c p e (by omega) (by omega)] at hx
      rw [far c q e (by omega) h3] at hy
      exact h.inc c p q x y h1 h2 h3 hx hy
  · by_cases e : x = k
    · subst e
      exact ⟨b (T x) - 1, by rw [upd_same]; omega, by omega, upd_same _ _ _⟩
    · obtain ⟨p, a1, a2, a3⟩ := h.all x h1 (by omega)
      by_cases e' : T x = T k
      · rw [e'] at a1 a2 ⊢
        exact ⟨p, by rw [upd_same]; omega, a2, by rw [upd_other _ _ (by omega)]; exact a3⟩
      · exact ⟨p, by rw [upd_other _ _ e']; exact a1, a2, by rw [far (T x) p e' (Nat.le_trans (blo _) a1) a2]; exact a3⟩

theorem PInv.at_ (h : PInv T n i A b) {p : Nat} (hp : p < n) : A p = 0 ∨ ∃ x : Nat, A p = x ∧ lms T n x = true ∧ i < x ∧ b (T x) ≤ p ∧ p < bmin T n (T x + 1) := by
  obtain ⟨c, h1, h2⟩ := bucket_of (T := T) hp
  by_cases a : p < b c
  · exact .inl (h.em c p h1 a)
  · obtain ⟨x, a1, a2, a3, a4⟩ := h.sp c p (by omega) h2
    subst a3
    exact .inr ⟨x, a1, a2, a4, by omega, h2⟩

/-- two places that hold LMS positions: by chars, then by positions -/
theorem PInv.two (h : PInv T n i A b) {p q : Nat} {x y : Nat} (hpq : p < q) (hq : q < n) (hx : A p = x) (hy : A q = y) (hx0 : 0 < x) (hy0 : 0 < y) :
    lms T n x = true ∧ lms T n y = true ∧ (T x < T y ∨ (T x = T y ∧ x < y)) := by
  rcases h.at_ (p := p) (by omega) with e | ⟨x', e1, e2, e3, e4, e5⟩
  · omega
  obtain rfl : x = x' := by omega
  rcases h.at_ (p := q) hq with e | ⟨y', d1, d2, d3, d4, d5⟩
  · omega
  obtain rfl : y = y' := by omega
  refine ⟨e2, d2, ?_⟩
  rcases Nat.lt_trichotomy (T x) (T y) with a | a | a
  · exact .inl a
  · rw [← a] at d4 d5
    exact .inr ⟨a, h.inc (T x) p q x y e4 hpq d5 hx hy⟩
  · have h1 := bmin_next (T := T) (n := n) a
    have h2 := Nat.le_trans (bmin_lmid (T x)) (h.lo (T x))
    omega

/-- at most one LMS position: the sorting begins at once -/
theorem PInv.full (h : PInv T n 0 A b) (hm : lc T n 0 ≤ 1) : Start T n (slt T n) (fun x => lms T n x = true) A where
  nn p hp := by
    rcases h.at_ hp with e | ⟨x, e, _⟩ <;> omega
  em c p h1 h2 := h.em c p h1 (Nat.lt_of_lt_of_le h2 (h.lo c))
  sp c p x h1 h2 hx hx0 := by
    have hp := Nat.lt_of_lt_of_le h2 (bmin_le (T := T) (n := n) (c + 1))
    rcases h.at_ hp with e | ⟨y, e1, e2, e3, e4, e5⟩
    · omega
    · obtain rfl : x = y := by omega
      have := lms_lt e2
      have hb := Nat.le_trans (bmin_lmid (T x)) (h.lo (T x))
      have hc := bmin_lmid (T := T) (n := n) c
      exact ⟨by omega, bucket_eq (p := p) (by omega) e5 (by omega) h2, e2, e2⟩
  srt p q x y hpq hq hx hy hx0 hy0 := by
    obtain ⟨h1, h2, h3⟩ := h.two hpq hq hx hy hx0 hy0
    have l1 := lms_lt h1
    have l2 := lms_lt h2
    rcases h3 with h3 | ⟨_, h3⟩
    · exact (slt_cons (by omega) (by omega)).2 (.inl h3)
    · exfalso
      have := lc_lt h3 h2
      have := lc_lt (i := 0) hx0 h1
      omega
  ini x hx := by
    obtain ⟨p, _, a2, a3⟩ := h.all x hx (lms_pos hx)
    exact ⟨hx, p, Nat.lt_of_lt_of_le a2 (bmin_le _), a3⟩

/-- more of them: the first one is struck, and LMS substrings are sorted first -/
theorem PInv.subs (h : PInv T n 0 A b) {lb : Nat} (hlb : lb < n) (hf : A lb = (nx T n 0 : Nat)) (hf0 : nx T n 0 ≠ 0) : Start T n (rl T n) (fun x => lms T n x = true ∧ nx T n 0 < x) (upd A lb 0) := by
  have val : ∀ p (x : Nat), upd A lb 0 p = x → 0 < x → p ≠ lb ∧ A p = x := by
    intro p x hx hx0
    unfold upd at hx
    split at hx
    · omega
    · exact ⟨by assumption, hx⟩
  have ne : ∀ p (x : Nat), p < n → p ≠ lb → A p = x → x ≠ nx T n 0 := by
    intro p x hp hpl hx e
    subst e
    rcases Nat.lt_or_gt_of_ne hpl with a | a
    · have := (h.two a hlb hx hf (by omega) (by omega)).2.2; omega
    · have := (h.two a hp hf hx (by omega) (by omega)).2.2; omega
  have gt : ∀ p (x : Nat), p < n → p ≠ lb → A p = x → lms T n x = true → nx T n 0 < x := by
    intro p x hp hpl hx hl
    have h1 := (nx_le (i := 0) (lms_pos hl) hl).2
    have h2 := ne p x hp hpl hx
    omega
  refine ⟨fun p hp => ?_, fun c p h1 h2 => ?_, fun c p x h1 h2 hx hx0 => ?_, fun p q x y hpq hq hx hy hx0 hy0 => ?_, fun x ⟨hx, hx'⟩ => ?_⟩
  · unfold upd
    split
    · omega
    · rcases h.at_ hp with e | ⟨x, e, _⟩ <;> omega
  · unfold upd
    split
    · rfl
    · exact h.em c p h1 (Nat.lt_of_lt_of_le h2 (h.lo c))
  · obtain ⟨hpl, hx⟩ := val p x hx hx0
    have hp := Nat.lt_of_lt_of_le h2 (bmin_le (T := T) (n := n) (c + 1))
    rcases h.at_ hp with e | ⟨y, e1, e2, e3, e4, e5⟩
    · omega
    · obtain rfl : x = y := by omega
      have := lms_lt e2
      have hb := Nat.le_trans (bmin_lmid (T x)) (h.lo (T x))
      have hc := bmin_lmid (T := T) (n := n) c
      exact ⟨by omega, bucket_eq (p := p) (by omega) e5 (by omega) h2, e2, e2, gt p x hp hpl hx e2⟩
  · obtain ⟨_, hx⟩ := val p x hx hx0
    obtain ⟨_, hy⟩ := val q y hy hy0
    obtain ⟨h1, h2, h3⟩ := h.two hpq hq hx hy hx0 hy0
    have l1 := lms_lt h1
    have l2 := lms_lt h2
    rcases h3 with h3 | ⟨h3, h4⟩
    · exact ordL_rl.chr x y (by omega) (by omega) h3
    · refine .inr ⟨?_, h4⟩
      rw [lk_S (lms_S h1), lk_S (lms_S h2), code_of h3 (by rw [lms_S h1, lms_S h2])]
  · obtain ⟨p, a1, a2, a3⟩ := h.all x hx (lms_pos hx)
    refine ⟨hx, p, Nat.lt_of_lt_of_le a2 (bmin_le _), ?_⟩
    rw [upd_other]
    · exact a3
    · intro e
      subst e
      rw [hf] at a3
      omega
end

theorem Start.em' {R : Nat → Nat → Prop} {I : Nat → Prop} {A : Nat → Int} (h : Start T n R I A) (c p : Nat) (h1 : bmin T n c ≤ p) (h2 : p < lmid T n c) : gA A p = none := by
  unfold gA; rw [if_pos (h.em c p h1 h2)]
theorem gA_some {A : Nat → Int} {p x : Nat} (h : gA A p = some x) (hn : 0 ≤ A p) : A p = x ∧ 0 < x := by
  unfold gA at h
  split at h
  · cases h
  · have := Option.some.inj h; omega
theorem gA_of {A : Nat → Int} {p x : Nat} (h : A p = x) (h0 : 0 < x) : gA A p = some x := by
  unfold gA
  rw [if_neg (by omega), h, Int.toNat_natCast]
/-- the first L is laid -/
theorem Start.first {R : Nat → Nat → Prop} {D I : Nat → Prop} {A : Nat → Int} (h : Start T n R I A) (ho : OrdL T n R) (hn : 0 < n) (hD : D (n - 1)) :
    bmin T n (T (n - 1)) < n ∧ A (bmin T n (T (n - 1))) = 0 ∧ LInv T n R D I 0 (upd (gA A) (bmin T n (T (n - 1))) (some (n - 1))) (upd (bmin T n) (T (n - 1)) (bmin T n (T (n - 1)) + 1)) := by
  have hsrt : ∀ p q x y, p < q → q < n → gA A p = some x → gA A q = some y → R x y := by
    intro p q x y hpq hq hx hy
    obtain ⟨a1, a2⟩ := gA_some hx (h.nn p (by omega))
    obtain ⟨b1, b2⟩ := gA_some hy (h.nn q hq)
    exact h.srt p q x y hpq hq a1 b1 a2 b2
  obtain ⟨h1, h2⟩ := LInv.first (D := D) (G := gA A) (I := I) ho hn hD h.em' (fun c p x h1 h2 hx => by
    have hp := Nat.lt_of_lt_of_le h2 (bmin_le (T := T) (n := n) (c + 1))
    obtain ⟨a1, a2⟩ := gA_some hx (h.nn p hp)
    obtain ⟨b1, b2, b3, b4⟩ := h.sp c p x h1 h2 a1 a2
    exact ⟨b1, b2, lms_S b3, b4⟩) hsrt (fun x hx => by
    obtain ⟨hl, p, hp, hA⟩ := h.ini x hx
    exact ⟨p, hp, gA_of hA (lms_pos hl)⟩)
  refine ⟨h1, ?_, h2⟩
  have hL : sty T n (n - 1) = false := sty_end (by omega)
  exact h.em (T (n - 1)) _ (Nat.le_refl _) (LInv.room (b := bmin T n) (G := gA A) ho (n - 1) (by omega) hL (Nat.le_refl _) (bmin_lmid _) (fun p h1 h2 => by omega) hsrt)
end

/- THE SCAN OF THE L's OF LMS SUBSTRINGS -/
section
variable (T : Nat → Nat) (n : Nat)
/-- an L as it is laid: with a sign if an S stands ahead of it -/
def mk (x : Nat) : Int := if T (x - 1) < T x then -(x : Int) else x
def encU (G : Nat → Option Nat) (p : Nat) : Int := match G p with
  | none => 0
  | some x => mk T x
def encP (G : Nat → Option Nat) (p : Nat) : Int := match G p with
  | none => 0
  | some x => if T (x - 1) < T x then (x : Int) else 0
def SubL (i : Nat) (A : Nat → Int) (b : Nat → Nat) : Prop :=
  ∃ G, LInv T n (rl T n) (fun x => nx T n 0 < x) (fun x => lms T n x = true ∧ nx T n 0 < x) i G b ∧ (∀ p, p < i → p < n → A p = encP T G p) ∧ (∀ p, i ≤ p → p < n → A p = encU T G p)
variable {T n} {i : Nat} {A : Nat → Int} {b : Nat → Nat}

theorem mk_of_lms {x : Nat} (h : lms T n x = true) : mk T x = x := by
  have := lms_gt h
  unfold mk
  rw [if_neg (by omega)]

theorem SubL.first (h : Start T n (rl T n) (fun x => lms T n x = true ∧ nx T n 0 < x) A) (hf : nx T n 0 ≠ 0) :
    bmin T n (T (n - 1)) < n ∧ SubL T n 0 (upd A (bmin T n (T (n - 1))) (mk T (n - 1))) (upd (bmin T n) (T (n - 1)) (bmin T n (T (n - 1)) + 1)) := by
  have hfl := lms_lt (nx_some hf).2.1
  obtain ⟨h1, _, h2⟩ := h.first (D := fun x => nx T n 0 < x) ordL_rl (by omega) (by omega)
  refine ⟨h1, _, h2, fun p hp => by omega, fun p _ hp => ?_⟩
  unfold encU
  by_cases e : p = bmin T n (T (n - 1))
  · rw [e, upd_same, upd_same]
  · rw [upd_other _ _ e, upd_other _ _ e]
    cases hg : gA A p with
    | none =>
      unfold gA at hg
      split at hg
      · assumption
      · cases hg
    | some x =>
      obtain ⟨a1, a2⟩ := gA_some hg (h.nn p hp)
      obtain ⟨c, b1, b2⟩ := bucket_of (T := T) hp
      have : lmid T n c ≤ p := by
        by_cases hc : lmid T n c ≤ p
        · exact hc
        · have := h.em c p b1 (by omega); omega
      obtain ⟨_, _, b3, _⟩ := h.sp c p x this b2 a1 a2
      rw [a1]
      exact (mk_of_lms b3).symm

theorem SubL.at_ (h : SubL T n i A b) (hf : nx T n 0 ≠ 0) (hi : i < n) : ∃ G, LInv T n (rl T n) (fun x => nx T n 0 < x) (fun x => lms T n x = true ∧ nx T n 0 < x) i G b ∧ (∀ p, p < i → p < n → A p = encP T G p) ∧ (∀ p, i ≤ p → p < n → A p = encU T G p) ∧
    ((A i = 0 ∧ G i = none) ∨ ∃ k, G i = some (k + 1) ∧ A i = mk T (k + 1) ∧ nx T n 0 < k + 1 ∧ k + 1 < n ∧ (T k < T (k + 1) → sty T n k = true) ∧ (T (k + 1) ≤ T k → sty T n k = false ∧ nx T n 0 < k)) := by
  obtain ⟨G, h1, h2, h3⟩ := h
  refine ⟨G, h1, h2, h3, ?_⟩
  have hA := h3 i (Nat.le_refl _) hi
  unfold encU at hA
  cases hg : G i with
  | none => rw [hg] at hA; exact .inl ⟨hA, rfl⟩
  | some x =>
    rw [hg] at hA
    obtain ⟨a1, _, _, a4⟩ := h1.at_ hi hg
    have a5 : nx T n 0 < x := by
      rcases a4 with ⟨_, a4, _⟩ | ⟨_, ⟨_, a4⟩, _⟩ <;> exact a4
    obtain ⟨k, rfl⟩ : ∃ k, x = k + 1 := ⟨x - 1, by omega⟩
    refine .inr ⟨k, rfl, hA, a5, a1, sty_lt a1, fun hle => ?_⟩
    have hk : sty T n k = false := by
      rcases a4 with ⟨a4, _, _⟩ | ⟨_, ⟨a4, _⟩, _⟩
      · by_cases e : T (k + 1) < T k
        · exact sty_gt e
        · rw [sty_eq a1 (by omega)]; exact a4
      · exact lms_L a4
    refine ⟨hk, ?_⟩
    by_cases e : nx T n 0 = k
    · have := lms_S (nx_some hf).2.1
      rw [e, hk] at this
      cases this
    · omega

theorem SubL.zero (h : SubL T n i A b) (hf : nx T n 0 ≠ 0) (hi : i < n) (hA : A i = 0) : SubL T n (i + 1) A b := by
  obtain ⟨G, h1, h2, h3, h4⟩ := h.at_ hf hi
  rcases h4 with ⟨_, hg⟩ | ⟨k, _, hk, _⟩
  · refine ⟨G, h1.skip (fun y _ hy => by rw [hg] at hy; cases hy), fun p hp hpn => ?_, fun p hp hpn => h3 p (by omega) hpn⟩
    by_cases e : p = i
    · subst e
      unfold encP
      rw [hg, hA]
    · exact h2 p (by omega) hpn
  · rw [hA] at hk
    unfold mk at hk
    split at hk <;> omega
theorem SubL.neg (h : SubL T n i A b) (hf : nx T n 0 ≠ 0) (hi : i < n) (hA : A i < 0) : ∃ x : Nat, A i = -(x : Int) ∧ 0 < x ∧ x < n ∧ SubL T n (i + 1) (upd A i x) b := by
  obtain ⟨G, h1, h2, h3, h4⟩ := h.at_ hf hi
  rcases h4 with ⟨h4, _⟩ | ⟨k, hg, hk, hkf, hkn, hkS, _⟩
  · omega
  · unfold mk at hk
    have hlt : T k < T (k + 1) := by
      by_cases c : T (k + 1 - 1) < T (k + 1)
      · simpa using c
      · rw [if_neg c] at hk; omega
    rw [if_pos (by simpa using hlt)] at hk
    refine ⟨k + 1, hk, by omega, hkn, G, h1.skip (fun y _ hy _ hL => ?_), fun p hp hpn => ?_, fun p hp hpn => ?_⟩
    · rw [hg] at hy
      obtain rfl : k + 1 = y := Option.some.inj hy
      simp only [Nat.add_sub_cancel] at hL
      rw [hkS hlt] at hL
      cases hL
    · by_cases e : p = i
      · subst e
        unfold encP
        rw [upd_same, hg]
        simp [hlt]
      · rw [upd_other _ _ e]; exact h2 p (by omega) hpn
    · rw [upd_other _ _ (by omega)]; exact h3 p (by omega) hpn
theorem SubL.pos (h : SubL T n i A b) (hf : nx T n 0 ≠ 0) (hi : i < n) (hA : 0 < A i) : ∃ k : Nat, A i = ((k + 1 : Nat) : Int) ∧ 1 ≤ k ∧ k + 1 < n ∧ b (T k) < n ∧ i < b (T k) ∧
    SubL T n (i + 1) (upd (upd A i 0) (b (T k)) (mk T k)) (upd b (T k) (b (T k) + 1)) := by
  obtain ⟨G, h1, h2, h3, h4⟩ := h.at_ hf hi
  rcases h4 with ⟨h4, _⟩ | ⟨k, hg, hk, hkf, hkn, _, hkL⟩
  · omega
  · unfold mk at hk
    have hge : T (k + 1) ≤ T k := by
      by_cases c : T (k + 1 - 1) < T (k + 1)
      · rw [if_pos c] at hk; omega
      · simpa using c
    rw [if_neg (by simpa using hge)] at hk
    obtain ⟨hL, hD⟩ := hkL hge
    obtain ⟨a1, a2, a3, a4, a5, a6⟩ := h1.ins ordL_rl hi hg hL hD
    refine ⟨k, hk, by omega, hkn, a3, a4, _, a6, fun p hp hpn => ?_, fun p hp hpn => ?_⟩
    · have e0 : p ≠ b (T k) := by omega
      unfold encP
      rw [upd_other _ _ e0, upd_other _ _ e0]
      by_cases e : p = i
      · subst e
        rw [upd_same, hg]
        simp
        omega
      · rw [upd_other _ _ e]
        exact h2 p (by omega) hpn
    · unfold encU
      by_cases e : p = b (T k)
      · subst e
        rw [upd_same, upd_same]
      · rw [upd_other _ _ e, upd_other _ _ e, upd_other _ _ (by omega)]
        exact h3 p (by omega) hpn
end

/- THE SCAN OF THE S's OF LMS SUBSTRINGS -/
section
variable (T : Nat → Nat) (n : Nat)
/-- an S as it is laid: with a sign if an L stands ahead of it -/
def mkS (x : Nat) : Int := if T x < T (x - 1) then -(x : Int) else x
def encS (G : Nat → Option Nat) (p : Nat) : Int := match G p with
  | none => 0
  | some x => if sty T n x = true then mkS T x else if T (x - 1) < T x then (x : Int) else 0
structure SubSG (i top : Nat) (A : Nat → Int) (b : Nat → Nat) (G : Nat → Option Nat) : Prop where
  inv : SInv T n (rs T n) (fun x => nx T n 0 ≤ x) (fun x => sty T n x = false ∧ nx T n 0 < x ∧ x < n) i G b
  it : i ≤ top
  tn : top ≤ n
  un : ∀ p, p < i → A p = encS T n G p
  ze : ∀ p, i ≤ p → p < top → A p = 0
  get : ∀ p, top ≤ p → p < n → ∃ x q : Nat, A p = x ∧ lms T n x = true ∧ i ≤ q ∧ q < n ∧ G q = some x
  srt : ∀ p q (x y : Nat), top ≤ p → p < q → q < n → A p = x → A q = y → rs T n x y
  all : ∀ q x, i ≤ q → q < n → G q = some x → lms T n x = true → ∃ p, top ≤ p ∧ p < n ∧ A p = x
def SubS (i top : Nat) (A : Nat → Int) (b : Nat → Nat) : Prop := ∃ G, SubSG T n i top A b G
/-- LMS POSITIONS SORTED BY THEIR SUBSTRINGS AT THE END, zeros before them -/
structure Subs (m : Nat) (A : Nat → Int) : Prop where
  ze : ∀ p, p < n - m → A p = 0
  get : ∀ p, n - m ≤ p → p < n → ∃ x : Nat, A p = x ∧ lms T n x = true
  srt : ∀ p q (x y : Nat), n - m ≤ p → p < q → q < n → A p = x → A q = y → rs T n x y
  all : ∀ x, lms T n x = true → ∃ p, n - m ≤ p ∧ p < n ∧ A p = x
variable {T n} {i top : Nat} {A : Nat → Int} {b : Nat → Nat}

/-- the L's alone -/
def dropS (T : Nat → Nat) (n : Nat) (G : Nat → Option Nat) (p : Nat) : Option Nat := match G p with
  | none => none
  | some x => if sty T n x = true then none else some x
theorem dropS_some {G : Nat → Option Nat} {p x : Nat} (h : dropS T n G p = some x) : G p = some x ∧ sty T n x = false := by
  unfold dropS at h
  split at h
  · cases h
  · rename_i y hy
    split at h
    · cases h
    · rename_i hs
      obtain rfl : y = x := Option.some.inj h
      exact ⟨hy, by simpa using hs⟩
theorem dropS_of {G : Nat → Option Nat} {p x : Nat} (h : G p = some x) (hs : sty T n x = false) : dropS T n G p = some x := by
  unfold dropS
  rw [h]
  simp [hs]
theorem dropS_S {G : Nat → Option Nat} {p x : Nat} (h : G p = some x) (hs : sty T n x = true) : dropS T n G p = none := by
  unfold dropS
  rw [h]
  simp [hs]
theorem dropS_none {G : Nat → Option Nat} {p : Nat} (h : G p = none) : dropS T n G p = none := by
  unfold dropS
  rw [h]
theorem SubS.first (h : SubL T n n A b) : SubS T n n n A (fun c => bmin T n (c + 1)) := by
  obtain ⟨G, h1, h2, _⟩ := h
  refine ⟨dropS T n G, ?_⟩
  refine ⟨SInv.start ?_ ?_ ?_ ?_, Nat.le_refl _, Nat.le_refl _, fun p hp => ?_, fun p a b => by omega, fun p a b => by omega, fun p q x y a b c => by omega, fun q x a b => by omega⟩
  · intro c p x a1 a2 hx
    obtain ⟨hx, hs⟩ := dropS_some hx
    have hp : p < n := by
      have := lmid_bmin (T := T) (n := n) c
      have := bmin_le (T := T) (n := n) (c + 1)
      omega
    obtain ⟨b1, b2, b3, b4⟩ := h1.at_ hp hx
    have hb := lmid_bmin (T := T) (n := n) c
    refine ⟨b1, bucket_eq (p := p) b2 b3 a1 (by omega), hs, hs, ?_, b1⟩
    rcases b4 with ⟨_, b4, _⟩ | ⟨_, ⟨_, b4⟩, _⟩ <;> exact b4
  · intro c p a1 a2
    cases hg : G p with
    | none => exact dropS_none hg
    | some x =>
      obtain ⟨_, _, b3, _⟩ := h1.sp c p x a1 a2 hg
      exact dropS_S hg b3
  · intro p q x y hpq hq hx hy
    obtain ⟨hx, hxs⟩ := dropS_some hx
    obtain ⟨hy, hys⟩ := dropS_some hy
    exact rs_of_rl (h1.at_ (by omega) hx).1 (h1.at_ hq hy).1 hxs hys (h1.srt p q x y hpq hq hx hy)
  · intro x ⟨hs, hf, hx⟩
    obtain ⟨p, hp, hg⟩ := h1.all (fun x hD hL hn => by
      cases hs : sty T n (x + 1) with
      | false => exact .inl ⟨rfl, by omega⟩
      | true => exact .inr ⟨(lms_succ x).2 ⟨hs, hL⟩, by omega⟩) hx hf hs
    exact ⟨p, hp, dropS_of hg hs⟩
  · rw [h2 p hp hp]
    unfold encP encS
    cases hg : G p with
    | none => rw [dropS_none hg]
    | some x =>
      obtain ⟨b1, b2, b3, b4⟩ := h1.at_ hp hg
      rcases b4 with ⟨b4, _⟩ | ⟨b4, ⟨b5, _⟩, _⟩
      · rw [dropS_of hg b4]
        simp [b4]
      · have := lms_gt b5
        rw [dropS_S hg b4]
        simp
        omega

theorem SubSG.at_ {G : Nat → Option Nat} (h : SubSG T n (i + 1) top A b G) (hf : nx T n 0 ≠ 0) (hi : i < n) :
    (A i = 0 ∧ ∀ y, G i = some y → sty T n y = false ∧ T y ≤ T (y - 1) ∧ 0 < y) ∨
    (∃ x : Nat, G i = some x ∧ A i = -(x : Int) ∧ lms T n x = true) ∨
    (∃ k : Nat, G i = some (k + 1) ∧ A i = ((k + 1 : Nat) : Int) ∧ k + 1 < n ∧ sty T n k = true ∧ nx T n 0 ≤ k ∧ lms T n (k + 1) = false) := by
  have hA := h.un i (by omega)
  unfold encS at hA
  have hfl := (nx_some hf).2.1
  cases hg : G i with
  | none => rw [hg] at hA; exact .inl ⟨hA, fun y hy => by cases hy⟩
  | some x =>
    rw [hg] at hA
    simp only at hA
    obtain ⟨a1, a2, a3, a4⟩ := h.inv.at_ hi hg
    rcases a4 with ⟨a4, a5, _⟩ | ⟨a4, ⟨_, a5, _⟩, _⟩
    · rw [if_pos a4] at hA
      unfold mkS at hA
      by_cases hlt : T x < T (x - 1)
      · rw [if_pos hlt] at hA
        refine .inr (.inl ⟨x, rfl, hA, lms_of (by omega) a4 ?_⟩)
        have : T (x - 1 + 1) < T (x - 1) := by rwa [show x - 1 + 1 = x by omega]
        exact sty_gt this
      · rw [if_neg hlt] at hA
        have hne : x ≠ nx T n 0 := fun e => by rw [e] at hlt; exact hlt (lms_gt hfl)
        obtain ⟨k, rfl⟩ : ∃ k, x = k + 1 := ⟨x - 1, by omega⟩
        have hk : sty T n k = true := by
          simp only [Nat.add_sub_cancel] at hlt
          by_cases e : T k < T (k + 1)
          · exact sty_lt a1 e
          · rw [sty_eq a1 (by omega)]; exact a4
        refine .inr (.inr ⟨k, rfl, hA, a1, hk, by omega, ?_⟩)
        simp [lms, hk]
    · rw [if_neg (by simp [a4])] at hA
      by_cases hlt : T (x - 1) < T x
      · rw [if_pos hlt] at hA
        obtain ⟨k, rfl⟩ : ∃ k, x = k + 1 := ⟨x - 1, by omega⟩
        simp only [Nat.add_sub_cancel] at hlt
        refine .inr (.inr ⟨k, rfl, hA, a1, sty_lt a1 hlt, by omega, ?_⟩)
        simp [lms, a4]
      · rw [if_neg hlt] at hA
        refine .inl ⟨hA, fun y hy => ?_⟩
        obtain rfl : x = y := Option.some.inj hy
        exact ⟨a4, by omega, by omega⟩

theorem SubS.zero (h : SubS T n (i + 1) top A b) (hf : nx T n 0 ≠ 0) (hi : i < n) (hA : A i = 0) : SubS T n i top A b := by
  obtain ⟨G, h⟩ := h
  rcases h.at_ hf hi with ⟨_, hg⟩ | ⟨x, _, hx, hl⟩ | ⟨k, _, hx, _⟩
  · have hit := h.it
    refine ⟨G, h.inv.skip (fun y _ hy h0 hS => ?_), by omega, h.tn, fun p hp => h.un p (by omega), fun p h1 h2 => ?_, fun p h1 h2 => ?_, h.srt, fun q x h1 h2 h3 h4 => ?_⟩
    · obtain ⟨a1, a2, a3⟩ := hg y hy
      exfalso
      have : sty T n (y - 1) = false := by
        have e : y - 1 + 1 = y := by omega
        by_cases hlt : T (y - 1 + 1) < T (y - 1)
        · exact sty_gt hlt
        · by_cases hn1 : y - 1 + 1 < n
          · rw [sty_eq hn1 (by rw [e] at hlt ⊢; omega), e]; exact a1
          · exact sty_end (by omega)
      rw [this] at hS
      cases hS
    · by_cases e : p = i
      · subst e; exact hA
      · exact h.ze p (by omega) h2
    · obtain ⟨x, q, a1, a2, a3, a4, a5⟩ := h.get p h1 h2
      exact ⟨x, q, a1, a2, by omega, a4, a5⟩
    · by_cases e : q = i
      · subst e
        obtain ⟨a1, _, _⟩ := hg x h3
        rw [lms_S h4] at a1
        cases a1
      · exact h.all q x (by omega) h2 h3 h4
  · have := lms_pos hl; omega
  · omega
theorem SubS.neg (h : SubS T n (i + 1) top A b) (hf : nx T n 0 ≠ 0) (hi : i < n) (hA : A i < 0) : ∃ x : Nat, A i = -(x : Int) ∧ 0 < x ∧ x < n ∧ i < top ∧ top ≤ n ∧ SubS T n i (top - 1) (upd (upd A i 0) (top - 1) x) b := by
  obtain ⟨G, h⟩ := h
  rcases h.at_ hf hi with ⟨h0, _⟩ | ⟨x, hg, hx, hl⟩ | ⟨k, _, hx, _⟩
  · omega
  · have hit := h.it
    have htn := h.tn
    have hxl := lms_lt hl
    refine ⟨x, hx, lms_pos hl, by omega, by omega, htn, G, h.inv.skip (fun y _ hy _ hS => ?_), by omega, by omega, fun p hp => ?_, fun p h1 h2 => ?_, fun p h1 h2 => ?_, fun p q y z h1 h2 h3 hy hz => ?_, fun q y h1 h2 h3 h4 => ?_⟩
    · rw [hg] at hy
      obtain rfl : x = y := Option.some.inj hy
      rw [lms_L hl] at hS
      cases hS
    · rw [upd_other _ _ (by omega), upd_other _ _ (by omega)]
      exact h.un p (by omega)
    · rw [upd_other _ _ (by omega)]
      by_cases e : p = i
      · rw [e, upd_same]
      · rw [upd_other _ _ e]; exact h.ze p (by omega) (by omega)
    · by_cases e : p = top - 1
      · exact ⟨x, i, by rw [e, upd_same], hl, Nat.le_refl _, hi, hg⟩
      · rw [upd_other _ _ e, upd_other _ _ (by omega)]
        obtain ⟨y, q, a1, a2, a3, a4, a5⟩ := h.get p (by omega) h2
        exact ⟨y, q, a1, a2, by omega, a4, a5⟩
    · rw [upd_other _ _ (by omega), upd_other _ _ (by omega)] at hz
      by_cases e : p = top - 1
      · rw [e, upd_same] at hy
        obtain rfl : x = y := by omega
        obtain ⟨z', r, a1, a2, a3, a4, a5⟩ := h.get q (by omega) h3
        obtain rfl : z = z' := by omega
        exact h.inv.srt i r x z (by omega) a4 hg a5
      · rw [upd_other _ _ e, upd_other _ _ (by omega)] at hy
        exact h.srt p q y z (by omega) h2 h3 hy hz
    · by_cases e : q = i
      · subst e
        rw [hg] at h3
        obtain rfl : x = y := Option.some.inj h3
        exact ⟨top - 1, Nat.le_refl _, by omega, upd_same _ _ _⟩
      · obtain ⟨p, a1, a2, a3⟩ := h.all q y (by omega) h2 h3 h4
        exact ⟨p, by omega, a2, by rw [upd_other _ _ (by omega), upd_other _ _ (by omega)]; exact a3⟩
  · omega
theorem SubS.pos (h : SubS T n (i + 1) top A b) (hf : nx T n 0 ≠ 0) (hi : i < n) (hA : 0 < A i) : ∃ k : Nat, A i = ((k + 1 : Nat) : Int) ∧ 1 ≤ k ∧ k + 1 < n ∧ 0 < b (T k) ∧ b (T k) ≤ n ∧ b (T k) - 1 < i ∧
    SubS T n i top (upd (upd A i 0) (b (T k) - 1) (mkS T k)) (upd b (T k) (b (T k) - 1)) := by
  obtain ⟨G, h⟩ := h
  rcases h.at_ hf hi with ⟨h0, _⟩ | ⟨x, _, hx, hl⟩ | ⟨k, hg, hx, hkn, hkS, hkf, hnl⟩
  · omega
  · have := lms_pos hl; omega
  · have hit := h.it
    have htn := h.tn
    obtain ⟨a1, a2, a3, a4, a5, a6⟩ := h.inv.ins ordS_rs hi hg hkS hkf
    have old : ∀ q x, q ≠ b (T k) - 1 → upd G (b (T k) - 1) (some k) q = some x → G q = some x := fun q x hq hx => by rwa [upd_other _ _ hq] at hx
    refine ⟨k, hx, by omega, hkn, by omega, a3, a4, _, a6, by omega, htn, fun p hp => ?_, fun p h1 h2 => ?_, fun p h1 h2 => ?_, fun p q y z h1 h2 h3 hy hz => ?_, fun q y h1 h2 h3 h4 => ?_⟩
    · unfold encS
      by_cases e : p = b (T k) - 1
      · rw [e, upd_same, upd_same]
        simp [hkS]
      · rw [upd_other _ _ e, upd_other _ _ e, upd_other _ _ (by omega)]
        exact h.un p (by omega)
    · rw [upd_other _ _ (by omega)]
      by_cases e : p = i
      · rw [e, upd_same]
      · rw [upd_other _ _ e]; exact h.ze p (by omega) h2
    · rw [upd_other _ _ (by omega), upd_other _ _ (by omega)]
      obtain ⟨x, q, b1, b2, b3, b4, b5⟩ := h.get p h1 h2
      exact ⟨x, q, b1, b2, by omega, b4, by rw [upd_other _ _ (by omega)]; exact b5⟩
    · rw [upd_other _ _ (by omega), upd_other _ _ (by omega)] at hy hz
      exact h.srt p q y z h1 h2 h3 hy hz
    · have h3 := old q y (by omega) h3
      by_cases e : q = i
      · subst e
        rw [hg] at h3
        obtain rfl : k + 1 = y := Option.some.inj h3
        rw [hnl] at h4
        cases h4
      · obtain ⟨p, b1, b2, b3⟩ := h.all q y (by omega) h2 h3 h4
        exact ⟨p, b1, b2, by rw [upd_other _ _ (by omega), upd_other _ _ (by omega)]; exact b3⟩

theorem SubS.final (h : SubS T n 0 top A b) (hn : 0 < n) : top = n - lc T n 0 ∧ lc T n 0 ≤ n ∧ Subs T n (lc T n 0) A := by
  obtain ⟨G, h⟩ := h
  have hall : ∀ x, lms T n x = true → ∃ p, top ≤ p ∧ p < n ∧ A p = x := by
    intro x hx
    obtain ⟨q, hq, hg⟩ := h.inv.all (fun x hD hS => by
      have h1 := S_lt hS
      cases hs : sty T n (x + 1) with
      | true => exact .inl ⟨rfl, by omega⟩
      | false => exact .inr ⟨rfl, by omega, h1⟩) (x := x) (nx_le (i := 0) (lms_pos hx) hx).2 (lms_S hx)
    exact h.all q x (by omega) hq hg hx
  have htn := h.tn
  have e1 : cn (lms T n) n ≤ n - top := by
    refine pigeon_onto (fun p => (A p).toNat) fun x _ hx => ?_
    obtain ⟨p, a1, a2, a3⟩ := hall x hx
    exact ⟨p, a1, a2, by rw [a3]; rfl⟩
  have e2 : n - top ≤ cn (lms T n) n := by
    refine pigeon (fun p => (A p).toNat) (fun p q h1 h2 h3 => ?_) (fun p h1 h2 => ?_)
    · obtain ⟨x, _, hx, _⟩ := h.get p h1 (by omega)
      obtain ⟨y, _, hy, _⟩ := h.get q (by omega) h3
      have := h.srt p q x y h1 h2 h3 hx hy
      rw [hx, hy, Int.toNat_natCast, Int.toNat_natCast]
      intro e
      subst e
      exact ordS_rs.irr _ this
    · obtain ⟨x, _, hx, hl, _⟩ := h.get p h1 h2
      have := lms_lt hl
      rw [hx, Int.toNat_natCast]
      exact ⟨by omega, hl⟩
  have e3 := lc_all (T := T) hn
  obtain rfl : top = n - lc T n 0 := by omega
  refine ⟨rfl, by omega, fun p hp => h.ze p (by omega) hp, fun p h1 h2 => ?_, h.srt, hall⟩
  obtain ⟨x, _, hx, hl, _⟩ := h.get p h1 h2
  exact ⟨x, hx, hl⟩
end
end Go.Proofs.YtpkgkppehefibaaGreatDoor.Sa
