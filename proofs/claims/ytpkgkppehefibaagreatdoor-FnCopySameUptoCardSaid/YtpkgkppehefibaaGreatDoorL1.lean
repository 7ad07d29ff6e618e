/- Plain theory of the search: what stands where in a suffix array. -/
import Derived.Test.YtpkgkppehefibaaGreatDoorP2
import Derived.Lib.Bytealg
namespace Go.Proofs.YtpkgkppehefibaaGreatDoor.Sa

/-- s stands in T from p on -/
def stands (T : Nat → Nat) (n : Nat) (S : Nat → Nat) (m p : Nat) : Prop := p + m ≤ n ∧ ∀ k, k < m → T (p + k) = S k
instance (T : Nat → Nat) (n : Nat) (S : Nat → Nat) (m p : Nat) : Decidable (stands T n S m p) := by unfold stands; infer_instance

theorem len_suf {T : Nat → Nat} {n : Nat} : ∀ i, (suf T n i).length = n - i := by
  have : ∀ d i, (sufAux T d i).length = d := by
    intro d
    induction d with
    | zero => intro i; rfl
    | succ d ih => intro i; simp [sufAux, ih]
  intro i; exact this _ i
theorem get_suf {T : Nat → Nat} {n : Nat} {i k : Nat} (h : k < n - i) : (suf T n i)[k]? = some (T (i + k)) := by
  have : ∀ d i k, k < d → (sufAux T d i)[k]? = some (T (i + k)) := by
    intro d
    induction d with
    | zero => intro i k h; omega
    | succ d ih =>
      intro i k h
      cases k with
      | zero => simp [sufAux]
      | succ k => simp only [sufAux, List.getElem?_cons_succ]; rw [ih _ _ (by omega)]; congr 2; omega
  exact this _ _ _ h

theorem prefix_iff {T S : Nat → Nat} {n m p : Nat} (hp : p ≤ n) : suf S m 0 <+: suf T n p ↔ stands T n S m p := by
  constructor
  · intro h
    have hl := h.length_le
    rw [len_suf, len_suf] at hl
    refine ⟨by omega, fun k hk => ?_⟩
    have h1 := List.prefix_iff_getElem?.1 h k (by rw [len_suf]; omega)
    rw [get_suf (by omega)] at h1
    have h2 : (suf S m 0)[k]? = some (S (0 + k)) := get_suf (by omega)
    rw [List.getElem?_eq_getElem (by rw [len_suf]; omega)] at h2
    rw [Option.some.inj h2] at h1
    simpa using h1
  · rintro ⟨h1, h2⟩
    refine List.prefix_iff_getElem?.2 fun k hk => ?_
    rw [len_suf] at hk
    rw [get_suf (by omega), h2 k (by omega)]
    have h2 : (suf S m 0)[k]? = some (S (0 + k)) := get_suf (by omega)
    rw [List.getElem?_eq_getElem (by rw [len_suf]; omega)] at h2
    rw [Option.some.inj h2, Nat.zero_add]

theorem pre_not_lt : ∀ (s L : List Nat), s <+: L → ¬ L < s
  | [], _, _ => List.not_lt_nil _
  | a :: s, [], h => by simp at h
  | a :: s, b :: L, h => by
    rw [List.cons_prefix_cons] at h
    obtain ⟨rfl, h⟩ := h
    rw [List.cons_lt_cons_iff]
    rintro (h1 | ⟨_, h1⟩)
    · omega
    · exact pre_not_lt s L h h1
theorem pre_mid : ∀ (s L M : List Nat), ¬ L < s → L < M → s <+: M → s <+: L
  | [], _, _, _, _, _ => List.nil_prefix
  | a :: s, L, [], _, _, h => by simp at h
  | a :: s, [], b :: M, h, _, _ => absurd (List.nil_lt_cons a s) h
  | a :: s, c :: L, b :: M, h1, h2, h3 => by
    rw [List.cons_prefix_cons] at h3
    obtain ⟨rfl, h3⟩ := h3
    rw [List.cons_lt_cons_iff] at h1 h2
    rcases h2 with h2 | ⟨rfl, h2⟩
    · exact absurd (.inl h2) h1
    · rw [List.cons_prefix_cons]
      exact ⟨rfl, pre_mid s L M (fun h => h1 (.inr ⟨rfl, h⟩)) h2 h3⟩

/-- THE RANGE THAT THE TWO SEARCHES FIND -/
theorem range_found {T S d : Nat → Nat} {n m r q : Nat} (h : IsSA T n d) (hr : r ≤ n) (h1 : 0 < r → suf T n (d (r - 1)) < suf S m 0) (h2 : r < n → ¬ suf T n (d r) < suf S m 0) (hq : r + q ≤ n)
    (h3 : 0 < q → stands T n S m (d (r + (q - 1)))) (h4 : r + q < n → ¬ stands T n S m (d (r + q))) :
    ∀ k, k < n → (stands T n S m (d k) ↔ r ≤ k ∧ k < r + q) := by
  intro k hk
  have dk := h.lt k hk
  have low : ∀ j, j < r → ¬ stands T n S m (d j) := fun j hj hs => by
    have a := h1 (by omega)
    have dj := h.lt j (by omega)
    have hp := (prefix_iff (by omega)).2 hs
    rcases Nat.lt_or_ge j (r - 1) with c | c
    · exact pre_not_lt _ _ hp (List.lt_trans (h.srt j (r - 1) c (by omega)) a)
    · obtain rfl : j = r - 1 := by omega
      exact pre_not_lt _ _ hp a
  have high : ∀ j, r ≤ j → j < n → ¬ suf T n (d j) < suf S m 0 := fun j hj hjn hs => by
    have a := h2 (by omega)
    rcases Nat.lt_or_ge r j with c | c
    · exact a (List.lt_trans (h.srt r j c hjn) hs)
    · obtain rfl : j = r := by omega
      exact a hs
  constructor
  · intro hs
    refine ⟨?_, ?_⟩
    · rcases Nat.lt_or_ge k r with c | c
      · exact absurd hs (low k c)
      · exact c
    · rcases Nat.lt_or_ge k (r + q) with c | c
      · exact c
      · have hn := h4 (by omega)
        rcases Nat.lt_or_ge (r + q) k with c' | c'
        · refine absurd ((prefix_iff (by have := h.lt (r + q) (by omega); omega)).1 (pre_mid _ _ _ (high (r + q) (by omega) (by omega)) (h.srt (r + q) k c' hk) ((prefix_iff (by omega)).2 hs))) hn
        · obtain rfl : k = r + q := by omega
          exact absurd hs hn
  · rintro ⟨c1, c2⟩
    have hs := h3 (by omega)
    rcases Nat.lt_or_ge k (r + (q - 1)) with c | c
    · have dl := h.lt (r + (q - 1)) (by omega)
      exact (prefix_iff (by omega)).1 (pre_mid _ _ _ (high k c1 hk) (h.srt k _ c (by omega)) ((prefix_iff (by omega)).2 hs))
    · obtain rfl : k = r + (q - 1) := by omega
      exact hs

/-- behind the first that is not less, what stands stands in one piece -/
theorem stands_down {T S d : Nat → Nat} {n m r : Nat} (h : IsSA T n d) (h2 : r < n → ¬ suf T n (d r) < suf S m 0) {a b : Nat} (ha : r ≤ a) (hab : a ≤ b) (hb : b < n) (hs : stands T n S m (d b)) : stands T n S m (d a) := by
  have db := h.lt b hb
  have da := h.lt a (by omega)
  have high : ¬ suf T n (d a) < suf S m 0 := fun hs => by
    have a' := h2 (by omega)
    rcases Nat.lt_or_ge r a with c | c
    · exact a' (List.lt_trans (h.srt r a c (by omega)) hs)
    · obtain rfl : a = r := by omega
      exact a' hs
  rcases Nat.lt_or_ge a b with c | c
  · exact (prefix_iff (by omega)).1 (pre_mid _ _ _ high (h.srt a b c hb) ((prefix_iff (by omega)).2 hs))
  · obtain rfl : a = b := by omega
    exact hs
/-- where a search ends -/
structure First (p : Nat → Bool) (n r : Nat) : Prop where
  le : r ≤ n
  low : 0 < r → p (r - 1) = false
  at_ : r < n → p r = true
theorem First.exists (p : Nat → Bool) (n : Nat) : ∃ r, First p n r := by
  have : ∃ r, r ≤ n ∧ (∀ k, k < r → p k = false) ∧ (r < n → p r = true) := by
    induction n with
    | zero => exact ⟨0, Nat.le_refl _, fun k h => by omega, fun h => by omega⟩
    | succ n ih =>
      obtain ⟨r, h1, h2, h3⟩ := ih
      rcases Nat.lt_or_ge r n with c | c
      · exact ⟨r, by omega, h2, fun _ => h3 c⟩
      · obtain rfl : r = n := by omega
        cases hp : p r with
        | true => exact ⟨r, by omega, h2, fun _ => hp⟩
        | false => exact ⟨r + 1, Nat.le_refl _, fun k hk => by
            rcases Nat.lt_or_ge k r with c | c
            · exact h2 k c
            · obtain rfl : k = r := by omega
              exact hp, fun h => by omega⟩
  obtain ⟨r, h1, h2, h3⟩ := this
  exact ⟨r, h1, fun h => h2 _ (by omega), h3⟩
theorem First.uniq {p : Nat → Bool} {n r q : Nat} (hm : ∀ a b, a ≤ b → b < n → p a = true → p b = true) (h : First p n r) (k : First p n q) : r = q := by
  have one : ∀ r q, First p n r → First p n q → ¬ r < q := fun r q h k c => by
    have h1 := k.low (by omega)
    have kl := k.le
    have h2 := hm r (q - 1) (by omega) (by omega) (h.at_ (by omega))
    rw [h1] at h2; cases h2
  have a := one r q h k
  have b := one q r k h
  omega

theorem lex_skip {T S : Nat → Nat} {n m : Nat} : ∀ t, t ≤ n → t ≤ m → (∀ u, u < t → T u = S u) → (suf T n 0 < suf S m 0 ↔ suf T n t < suf S m t)
  | 0, _, _, _ => Iff.rfl
  | t + 1, h1, h2, h => by
    rw [lex_skip t (by omega) (by omega) (fun u hu => h u (by omega)), suf_cons (show t < n by omega), suf_cons (show t < m by omega), h t (by omega), List.cons_lt_cons_iff]
    constructor
    · rintro (a | ⟨_, a⟩)
      · omega
      · exact a
    · exact fun a => .inr ⟨rfl, a⟩
theorem lex_lt {T S : Nat → Nat} {n m t : Nat} (h1 : t < n) (h2 : t < m) (h : ∀ u, u < t → T u = S u) (hne : T t ≠ S t) : suf T n 0 < suf S m 0 ↔ T t < S t := by
  rw [lex_skip t (by omega) (by omega) h, suf_cons h1, suf_cons h2, List.cons_lt_cons_iff]
  constructor
  · rintro (a | ⟨a, _⟩)
    · exact a
    · exact absurd a hne
  · exact .inl
theorem lex_end {T S : Nat → Nat} {n m : Nat} (h1 : n ≤ m) (h : ∀ u, u < n → T u = S u) : suf T n 0 < suf S m 0 ↔ n < m := by
  rw [lex_skip n (Nat.le_refl _) h1 h, suf_end (Nat.le_refl _)]
  constructor
  · intro a
    rcases Nat.lt_or_ge n m with c | c
    · exact c
    · rw [suf_end c] at a; exact absurd a (List.not_lt_nil _)
  · intro a; rw [suf_cons a]; exact List.nil_lt_cons _ _
theorem lex_end' {T S : Nat → Nat} {n m : Nat} (h1 : m ≤ n) (h : ∀ u, u < m → T u = S u) : ¬ suf T n 0 < suf S m 0 := by
  rw [lex_skip m h1 (Nat.le_refl _) h, suf_end (Nat.le_refl _)]
  exact List.not_lt_nil _

/-- bytes of a list of numbers -/
def u8s (l : List Nat) : List UInt8 := l.map fun x => UInt8.ofNat x
theorem cmp_lt : ∀ (L s : List Nat), (∀ x ∈ L, x < 256) → (∀ x ∈ s, x < 256) → (Lib.compareBytes (u8s L) (u8s s) < 0 ↔ L < s)
  | [], [], _, _ => by simp [u8s, Lib.compareBytes]
  | [], b :: s, _, _ => by simp [u8s, Lib.compareBytes]
  | a :: L, [], _, _ => by simp [u8s, Lib.compareBytes]
  | a :: L, b :: s, h1, h2 => by
    have ha := h1 a (by simp)
    have hb := h2 b (by simp)
    have ih := cmp_lt L s (fun x hx => h1 x (by simp [hx])) (fun x hx => h2 x (by simp [hx]))
    simp only [u8s] at ih
    simp only [u8s, List.map_cons, Lib.compareBytes, List.cons_lt_cons_iff]
    have e : ∀ x y : Nat, x < 256 → y < 256 → (UInt8.ofNat x < UInt8.ofNat y ↔ x < y) := fun x y hx hy => by
      rw [UInt8.lt_iff_toNat_lt, UInt8.toNat_ofNat', UInt8.toNat_ofNat', Nat.mod_eq_of_lt hx, Nat.mod_eq_of_lt hy]
    simp only [e a b ha hb, e b a hb ha]
    by_cases c : a < b
    · simp [c]
    · by_cases c' : b < a
      · have : a ≠ b := by omega
        simp [c, c', this]
      · obtain rfl : a = b := by omega
        simpa using ih
end Go.Proofs.YtpkgkppehefibaaGreatDoor.Sa
