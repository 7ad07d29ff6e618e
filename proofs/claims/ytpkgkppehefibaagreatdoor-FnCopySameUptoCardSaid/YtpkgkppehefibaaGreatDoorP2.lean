/- Plain theory, second half: arrays, the reduction, the map and its way back. (Printed by merge.py out of parts.) -/
import Derived.Test.YtpkgkppehefibaaGreatDoorP1
/- Plain theory, part 6: the two scans that sort all suffixes. -/
namespace Go.Proofs.YtpkgkppehefibaaGreatDoor.Sa
section
variable (T : Nat → Nat) (n : Nat)
def FullL (i : Nat) (A : Nat → Int) (b : Nat → Nat) : Prop :=
  ∃ G, LInv T n (slt T n) (fun _ => True) (fun x => lms T n x = true) i G b ∧ ∀ p, p < n → A p = encU T G p
variable {T n} {i : Nat} {A : Nat → Int} {b : Nat → Nat}

theorem FullL.first (h : Start T n (slt T n) (fun x => lms T n x = true) A) (hn : 0 < n) :
    bmin T n (T (n - 1)) < n ∧ FullL T n 0 (upd A (bmin T n (T (n - 1))) (mk T (n - 1))) (upd (bmin T n) (T (n - 1)) (bmin T n (T (n - 1)) + 1)) := by
  obtain ⟨h1, _, h2⟩ := h.first (D := fun _ => True) (ordL_slt T n) hn trivial
  refine ⟨h1, _, h2, fun p hp => ?_⟩
  unfold encU
  by_cases e : p = bmin T n (T (n - 1))
  · rw [e, upd_same, upd_same]
  · rw [upd_other _ _ e, upd_other _ _ e]
    cases hg : gA A p with
    | none =>
      unfold gA at hg
      split at hg
      · assumption
      · cases hg
    | some x =>
      obtain ⟨a1, a2⟩ := gA_some hg (h.nn p hp)
      obtain ⟨c, b1, b2⟩ := bucket_of (T := T) hp
      have : lmid T n c ≤ p := by
        by_cases hc : lmid T n c ≤ p
        · exact hc
        · have := h.em c p b1 (by omega); omega
      obtain ⟨_, _, b3, _⟩ := h.sp c p x this b2 a1 a2
      rw [a1]
      exact (mk_of_lms b3).symm

theorem FullL.skip (h : FullL T n i A b) (hi : i < n) (hA : A i ≤ 0) : FullL T n (i + 1) A b := by
  obtain ⟨G, h1, h2⟩ := h
  refine ⟨G, h1.skip (fun y _ hy h0 hL _ => ?_), h2⟩
  have h3 := h2 i hi
  unfold encU at h3
  rw [hy] at h3
  simp only [mk] at h3
  obtain ⟨k, rfl⟩ : ∃ k, y = k + 1 := ⟨y - 1, by omega⟩
  simp only [Nat.add_sub_cancel] at h3 hL
  split at h3
  · rename_i hlt
    rw [sty_lt (h1.at_ hi hy).1 hlt] at hL
    cases hL
  · omega
theorem FullL.pos (h : FullL T n i A b) (hi : i < n) (hA : 0 < A i) : ∃ k : Nat, A i = ((k + 1 : Nat) : Int) ∧ k + 1 < n ∧ b (T k) < n ∧ i < b (T k) ∧
    FullL T n (i + 1) (upd A (b (T k)) (mk T k)) (upd b (T k) (b (T k) + 1)) := by
  obtain ⟨G, h1, h2⟩ := h
  have h3 := h2 i hi
  unfold encU at h3
  cases hg : G i with
  | none => rw [hg] at h3; simp only at h3; omega
  | some x =>
    rw [hg] at h3
    simp only [mk] at h3
    obtain ⟨a1, _, _, a4⟩ := h1.at_ hi hg
    have hge : ¬ T (x - 1) < T x := fun hlt => by rw [if_pos hlt] at h3; omega
    rw [if_neg hge] at h3
    obtain ⟨k, rfl⟩ : ∃ k, x = k + 1 := ⟨x - 1, by omega⟩
    simp only [Nat.add_sub_cancel] at hge
    have hL : sty T n k = false := by
      rcases a4 with ⟨a4, _, _⟩ | ⟨_, a4, _⟩
      · by_cases e : T (k + 1) < T k
        · exact sty_gt e
        · rw [sty_eq a1 (by omega)]; exact a4
      · exact lms_L a4
    obtain ⟨b1, b2, b3, b4, b5, b6⟩ := h1.ins (ordL_slt T n) hi hg hL trivial
    refine ⟨k, h3, a1, b3, b4, _, b6, fun p hp => ?_⟩
    unfold encU
    by_cases e : p = b (T k)
    · subst e
      rw [upd_same, upd_same]
    · rw [upd_other _ _ e, upd_other _ _ e]
      exact h2 p hp
end

section
variable (T : Nat → Nat) (n : Nat)
/-- an S as it is laid in the last scan: with a sign if an S stands ahead of it -/
def mkT (x : Nat) : Int := if 0 < x ∧ T (x - 1) ≤ T x then -(x : Int) else x
def mkQ (x : Nat) : Int := if sty T n x = true then mkT T x else mk T x
structure FullSG (i : Nat) (A : Nat → Int) (b : Nat → Nat) (G : Nat → Option Nat) : Prop where
  inv : SInv T n (slt T n) (fun _ => True) (fun x => sty T n x = false ∧ x < n) i G b
  done : ∀ p x, i ≤ p → p < n → G p = some x → A p = x
  un : ∀ p x, p < i → p < n → G p = some x → A p = mkQ T n x
  nn : ∀ p, p < i → p < n → G p = none → 0 ≤ A p ∧ A p < (n : Int)
def FullS (i : Nat) (A : Nat → Int) (b : Nat → Nat) : Prop := ∃ G, FullSG T n i A b G
variable {T n} {i : Nat} {A : Nat → Int} {b : Nat → Nat}

theorem FullS.first (h : FullL T n n A b) : FullS T n n A (fun c => bmin T n (c + 1)) := by
  obtain ⟨G, h1, h2⟩ := h
  refine ⟨dropS T n G, SInv.start ?_ ?_ ?_ ?_, fun p x a b => by omega, fun p x _ hp hx => ?_, fun p _ hp hx => ?_⟩
  · intro c p x a1 a2 hx
    obtain ⟨hx, hs⟩ := dropS_some hx
    have hp : p < n := by
      have := lmid_bmin (T := T) (n := n) c
      have := bmin_le (T := T) (n := n) (c + 1)
      omega
    obtain ⟨b1, b2, b3, b4⟩ := h1.at_ hp hx
    have hb := lmid_bmin (T := T) (n := n) c
    exact ⟨b1, bucket_eq (p := p) b2 b3 a1 (by omega), hs, hs, b1⟩
  · intro c p a1 a2
    cases hg : G p with
    | none => exact dropS_none hg
    | some x =>
      obtain ⟨_, _, b3, _⟩ := h1.sp c p x a1 a2 hg
      exact dropS_S hg b3
  · intro p q x y hpq hq hx hy
    exact h1.srt p q x y hpq hq (dropS_some hx).1 (dropS_some hy).1
  · intro x ⟨hs, hx⟩
    obtain ⟨p, hp, hg⟩ := h1.all (fun x _ hL hn => by
      cases hs : sty T n (x + 1) with
      | false => exact .inl ⟨rfl, trivial⟩
      | true => exact .inr ((lms_succ x).2 ⟨hs, hL⟩)) hx trivial hs
    exact ⟨p, hp, dropS_of hg hs⟩
  · obtain ⟨hx, hs⟩ := dropS_some hx
    rw [h2 p hp]
    unfold encU mkQ
    rw [hx, hs]
    rfl
  · rw [h2 p hp]
    unfold encU
    cases hg : G p with
    | none => simp only; omega
    | some y =>
      obtain ⟨b1, _, _, b4⟩ := h1.at_ hp hg
      rcases b4 with ⟨b4, _⟩ | ⟨_, b4, _⟩
      · rw [dropS_of hg b4] at hx; cases hx
      · simp only [mk_of_lms b4]; omega

theorem FullS.skip (h : FullS T n (i + 1) A b) (hi : i < n) (hA : 0 ≤ A i) : FullS T n i A b := by
  obtain ⟨G, h⟩ := h
  refine ⟨G, h.inv.skip (fun y _ hy h0 hS _ => ?_), fun p x h1 h2 hx => ?_, fun p x h1 h2 => h.un p x (by omega) h2, fun p h1 => h.nn p (by omega)⟩
  · have h3 := h.un i y (by omega) hi hy
    obtain ⟨a1, _, _, a4⟩ := h.inv.at_ hi hy
    obtain ⟨k, rfl⟩ : ∃ k, y = k + 1 := ⟨y - 1, by omega⟩
    simp only [Nat.add_sub_cancel] at hS
    have hle := S_le hS
    rcases a4 with ⟨a4, _⟩ | ⟨a4, _⟩
    · simp only [mkQ, a4, if_true, mkT, Nat.add_sub_cancel] at h3
      rw [if_pos ⟨by omega, hle⟩] at h3
      omega
    · have := S_L_lt hS a4
      simp only [mkQ, a4, mk, Nat.add_sub_cancel] at h3
      rw [if_neg (by simp), if_pos this] at h3
      omega
  · by_cases e : p = i
    · subst e
      rw [h.un p x (by omega) h2 hx] at hA ⊢
      unfold mkQ mkT mk at hA ⊢
      by_cases hs : sty T n x = true
      · rw [if_pos hs] at hA ⊢
        split at hA <;> rename_i hc
        · obtain rfl : x = 0 := by omega
          omega
        · rw [if_neg hc]
      · rw [if_neg hs] at hA ⊢
        split at hA <;> rename_i hc
        · obtain rfl : x = 0 := by omega
          simp at hc
        · rw [if_neg hc]
    · exact h.done p x (by omega) h2 hx
theorem FullS.neg (h : FullS T n (i + 1) A b) (hi : i < n) (hA : A i < 0) : ∃ k : Nat, A i = -((k + 1 : Nat) : Int) ∧ k + 1 < n ∧ 0 < b (T k) ∧ b (T k) ≤ n ∧ b (T k) - 1 < i ∧
    FullS T n i (upd (upd A i ((k + 1 : Nat) : Int)) (b (T k) - 1) (mkT T k)) (upd b (T k) (b (T k) - 1)) := by
  obtain ⟨G, h⟩ := h
  cases hg : G i with
  | none => have := h.nn i (by omega) hi hg; omega
  | some x =>
    have h3 := h.un i x (by omega) hi hg
    obtain ⟨a1, _, _, a4⟩ := h.inv.at_ hi hg
    have hx0 : 0 < x := by
      by_cases e : x = 0
      · subst e
        rw [h3] at hA
        unfold mkQ mkT mk at hA
        simp at hA
      · omega
    obtain ⟨k, rfl⟩ : ∃ k, x = k + 1 := ⟨x - 1, by omega⟩
    have hS : sty T n k = true ∧ A i = -((k + 1 : Nat) : Int) := by
      rcases a4 with ⟨a4, _⟩ | ⟨a4, _⟩
      · simp only [mkQ, a4, if_true, mkT, Nat.add_sub_cancel] at h3
        split at h3 <;> rename_i hc
        · refine ⟨?_, h3⟩
          by_cases e : T k < T (k + 1)
          · exact sty_lt a1 e
          · rw [sty_eq a1 (by omega)]; exact a4
        · omega
      · simp only [mkQ, a4, mk, Nat.add_sub_cancel] at h3
        rw [if_neg (by simp)] at h3
        split at h3 <;> rename_i hc
        · exact ⟨sty_lt a1 hc, h3⟩
        · omega
    obtain ⟨hkS, hAk⟩ := hS
    obtain ⟨b1, b2, b3, b4, b5, b6⟩ := h.inv.ins (ordS_slt T n) hi hg hkS trivial
    refine ⟨k, hAk, a1, by omega, b3, b4, _, b6, fun p x h1 h2 hx => ?_, fun p x h1 h2 hx => ?_, fun p h1 h2 hx => ?_⟩
    · rw [upd_other _ _ (by omega)] at hx ⊢
      by_cases e : p = i
      · subst e
        rw [hg] at hx
        obtain rfl : k + 1 = x := Option.some.inj hx
        rw [upd_same]
      · rw [upd_other _ _ e]
        exact h.done p x (by omega) h2 hx
    · by_cases e : p = b (T k) - 1
      · rw [e, upd_same] at hx ⊢
        obtain rfl : k = x := Option.some.inj hx
        simp [mkQ, hkS]
      · rw [upd_other _ _ e] at hx ⊢
        rw [upd_other _ _ (by omega)]
        exact h.un p x (by omega) h2 hx
    · by_cases e : p = b (T k) - 1
      · rw [e, upd_same] at hx; cases hx
      · rw [upd_other _ _ e] at hx ⊢
        rw [upd_other _ _ (by omega)]
        exact h.nn p (by omega) h2 hx
theorem FullS.final (h : FullS T n 0 A b) : (∀ p, p < n → A p = ((A p).toNat : Int)) ∧ IsSA T n (fun p => (A p).toNat) := by
  obtain ⟨G, h⟩ := h
  have hall : ∀ x, x < n → ∃ p, p < n ∧ G p = some x := by
    intro x hx
    cases hs : sty T n x with
    | false => exact h.inv.ini x ⟨hs, hx⟩
    | true =>
      exact h.inv.all (fun x _ hS => by
        have h1 := S_lt hS
        cases hs : sty T n (x + 1) with
        | true => exact .inl ⟨rfl, trivial⟩
        | false => exact .inr ⟨rfl, h1⟩) trivial hs
  have hf := all_filled hall
  have val : ∀ p, p < n → ∃ x, G p = some x ∧ A p = (x : Int) ∧ x < n := by
    intro p hp
    obtain ⟨x, hx⟩ := hf p hp
    exact ⟨x, hx, h.done p x (by omega) hp hx, (h.inv.at_ hp hx).1⟩
  refine ⟨fun p hp => ?_, fun p hp => ?_, fun p q hpq hq => ?_, fun x hx => ?_⟩
  · obtain ⟨x, _, e, _⟩ := val p hp
    rw [e]; rfl
  · obtain ⟨x, _, e, hx⟩ := val p hp
    simp only [e]; exact hx
  · obtain ⟨x, hx, e, _⟩ := val p (by omega)
    obtain ⟨y, hy, e', _⟩ := val q hq
    simp only [e, e']
    exact h.inv.srt p q x y hpq hq hx hy
  · obtain ⟨p, hp, hg⟩ := hall x hx
    refine ⟨p, hp, ?_⟩
    have := h.done p x (by omega) hp hg
    simp only [this]; rfl
end
end Go.Proofs.YtpkgkppehefibaaGreatDoor.Sa

/- Plain theory, part 7: the lengths, the numbering of LMS substrings, the smaller problem, and back. -/
namespace Go.Proofs.YtpkgkppehefibaaGreatDoor.Sa

theorem lms_half {T : Nat → Nat} {n x y : Nat} (hx : lms T n x = true) (hy : lms T n y = true) (e : x / 2 = y / 2) : x = y := by
  by_cases h1 : x = y
  · exact h1
  · exfalso
    by_cases h2 : y = x + 1
    · rw [h2, lms_next hx] at hy; cases hy
    · have h3 : x = y + 1 := by omega
      rw [h3, lms_next hy] at hx; cases hx

section
variable (T : Nat → Nat) (n : Nat) (C : Nat → Int)
/-- the LMS positions behind i have their code at half their index; A0: what was there -/
structure LenI (A0 : Nat → Int) (i : Nat) (A : Nat → Int) : Prop where
  has : ∀ x, lms T n x = true → i < x → A (x / 2) = C x
  ze : ∀ p, p < n - lc T n 0 → (∀ x, lms T n x = true → i < x → x / 2 ≠ p) → A p = 0
  top : ∀ p, n - lc T n 0 ≤ p → p < n → A p = A0 p
variable {T n C} {A0 A : Nat → Int} {i : Nat}
theorem half_lt {x : Nat} (hx : lms T n x = true) : x / 2 < n - lc T n 0 := by
  have h1 := lms_lt hx
  have h2 := lc_half (T := T) (n := n) (i := 0) (by omega)
  omega
theorem LenI.start (h : Subs T n (lc T n 0) A) : LenI T n C A n A where
  has x h1 h2 := by have := lms_lt h1; omega
  ze p h1 _ := h.ze p h1
  top p _ _ := rfl
theorem LenI.skip (h : LenI T n C A0 (i + 1) A) (hl : lms T n (i + 1) = false) : LenI T n C A0 i A where
  has x h1 h2 := h.has x h1 (by
    by_cases e : x = i + 1
    · rw [e, hl] at h1; cases h1
    · omega)
  ze p h1 h2 := h.ze p h1 (fun x hx hi => h2 x hx (by omega))
  top := h.top
theorem LenI.ins (h : LenI T n C A0 (i + 1) A) (hl : lms T n (i + 1) = true) : (i + 1) / 2 < n ∧ LenI T n C A0 i (upd A ((i + 1) / 2) (C (i + 1))) := by
  have hh := half_lt hl
  refine ⟨by omega, fun x h1 h2 => ?_, fun p h1 h2 => ?_, fun p h1 h2 => ?_⟩
  · by_cases e : x = i + 1
    · rw [e, upd_same]
    · rw [upd_other _ _ (fun e' => e (lms_half h1 hl e'))]
      exact h.has x h1 (by omega)
  · rw [upd_other _ _ (fun e => h2 (i + 1) hl (by omega) e.symm)]
    exact h.ze p h1 (fun x hx hi => h2 x hx (by omega))
  · rw [upd_other _ _ (by omega)]
    exact h.top p h1 h2

/-- WHAT A CODE OF THE LENGTH (OR OF THE WHOLE TEXT) MUST GIVE -/
structure CodeOK (T : Nat → Nat) (n : Nat) (C : Nat → Int) : Prop where
  rng : ∀ x, lms T n x = true → -2147483648 ≤ C x ∧ C x ≤ 2147483647
  m1 : ∀ x, lms T n x = true → C x ≠ -1
  same : ∀ x y, lms T n x = true → lms T n y = true → sk T n x = sk T n y → C x = C y
  big : ∀ x y, lms T n x = true → lms T n y = true → x ≠ y → C x = C y → (C x < 0 ∨ (n : Int) ≤ C x) → sk T n x = sk T n y
  len : ∀ x y, lms T n x = true → lms T n y = true → x ≠ y → C x = C y → 0 ≤ C x → C x < n →
    nx T n x ≠ 0 ∧ nx T n y ≠ 0 ∧ C x = ((nx T n x + 1 - x : Nat) : Int) ∧ C y = ((nx T n y + 1 - y : Nat) : Int)
end

/-- the code of the version over int32: the length; 0 for the last one -/
def C32 (T : Nat → Nat) (n : Nat) (x : Nat) : Int := if nx T n x = 0 then 0 else ((nx T n x + 1 - x : Nat) : Int)
theorem nx_zero_inj {T : Nat → Nat} {n x y : Nat} (hx : lms T n x = true) (hy : lms T n y = true) (h1 : nx T n x = 0) (h2 : nx T n y = 0) : x = y := by
  refine lc_inj hx hy ?_
  rw [(nx_zero_iff x).1 h1, (nx_zero_iff y).1 h2]
theorem codeOK_32 {T : Nat → Nat} {n : Nat} (hn : n ≤ 2147483647) : CodeOK T n (C32 T n) where
  rng x hx := by
    have h1 := lms_lt hx
    unfold C32
    split
    · omega
    · rename_i h
      have := (nx_some h).2.1
      have := lms_lt this
      omega
  m1 x hx := by
    unfold C32
    split <;> omega
  same x y hx hy h := by
    by_cases e : x = y
    · rw [e]
    · obtain ⟨h1, h2, h3, _⟩ := sk_eq (by have := lms_lt hx; omega) (by have := lms_lt hy; omega) h e
      have a1 := (nx_some h1).1
      have a2 := (nx_some h2).1
      unfold C32
      rw [if_neg h1, if_neg h2]
      omega
  big x y hx hy hne e h := by
    exfalso
    have h1 := lms_lt hx
    unfold C32 at h
    split at h
    · omega
    · rename_i h0
      have a1 := (nx_some h0).1
      have a2 := lms_lt (nx_some h0).2.1
      omega
  len x y hx hy hne e h0 hlt := by
    unfold C32 at e ⊢
    by_cases h1 : nx T n x = 0
    · exfalso
      rw [if_pos h1] at e
      by_cases h2 : nx T n y = 0
      · exact hne (nx_zero_inj hx hy h1 h2)
      · rw [if_neg h2] at e
        have := (nx_some h2).1
        omega
    · rw [if_neg h1] at e ⊢
      by_cases h2 : nx T n y = 0
      · exfalso
        rw [if_pos h2] at e
        have := (nx_some h1).1
        omega
      · rw [if_neg h2]
        exact ⟨h1, h2, rfl, rfl⟩

/- NUMBERING -/
section
variable (T : Nat → Nat) (n : Nat)
/-- does the t-th of the sorted list begin a new class? -/
def fresh (X : Nat → Nat) (t : Nat) : Bool := decide (t = 0) || decide (sk T n (X t) ≠ sk T n (X (t - 1)))
/-- the number of classes among the first s -/
def cls (X : Nat → Nat) (s : Nat) : Nat := cn (fresh T n X) s
variable {T n}
theorem cls_succ (X : Nat → Nat) (s : Nat) : cls T n X (s + 1) = cls T n X s + if fresh T n X s = true then 1 else 0 := rfl
theorem cls_mono {X : Nat → Nat} {s t : Nat} (h : s ≤ t) : cls T n X s ≤ cls T n X t := by
  obtain ⟨d, rfl⟩ : ∃ d, t = s + d := ⟨t - s, by omega⟩
  clear h
  induction d with
  | zero => exact Nat.le_refl _
  | succ d ih => rw [show s + (d + 1) = (s + d) + 1 by omega, cls_succ]; omega
theorem cls_le (X : Nat → Nat) (s : Nat) : cls T n X s ≤ s := cn_le _ _
theorem cls_one (X : Nat → Nat) : cls T n X 1 = 1 := by simp [cls, cn, fresh]
theorem cls_pos (X : Nat → Nat) (s : Nat) : 1 ≤ cls T n X (s + 1) := by
  have h := cls_mono (T := T) (n := n) (X := X) (s := 1) (t := s + 1) (by omega)
  rwa [cls_one] at h
/-- the sorted list of the LMS positions, by their substrings -/
structure Lst (T : Nat → Nat) (n : Nat) (X : Nat → Nat) : Prop where
  lms : ∀ t, t < lc T n 0 → lms T n (X t) = true
  srt : ∀ s t, s < t → t < lc T n 0 → rs T n (X s) (X t)
  all : ∀ x, Sa.lms T n x = true → ∃ t, t < lc T n 0 ∧ X t = x
variable {X : Nat → Nat}
theorem Lst.inj (h : Lst T n X) {s t : Nat} (hs : s < lc T n 0) (ht : t < lc T n 0) (e : X s = X t) : s = t := by
  rcases Nat.lt_trichotomy s t with a | a | a
  · have := h.srt s t a ht; rw [e] at this; exact absurd this (ordS_rs.irr _)
  · exact a
  · have := h.srt t s a hs; rw [e] at this; exact absurd this (ordS_rs.irr _)
theorem Lst.sk_le (h : Lst T n X) {s t : Nat} (hst : s ≤ t) (ht : t < lc T n 0) : ¬ sk T n (X t) < sk T n (X s) := by
  intro hlt
  by_cases e : s = t
  · subst e; exact List.lt_irrefl _ hlt
  · rcases h.srt s t (by omega) ht with a | ⟨a, _⟩
    · exact List.lt_irrefl _ (List.lt_trans a hlt)
    · rw [a] at hlt; exact List.lt_irrefl _ hlt
theorem Lst.cls_eq (_h : Lst T n X) {s t : Nat} (hst : s ≤ t) (ht : t < lc T n 0) (e : cls T n X (s + 1) = cls T n X (t + 1)) : sk T n (X s) = sk T n (X t) := by
  obtain ⟨d, rfl⟩ : ∃ d, t = s + d := ⟨t - s, by omega⟩
  clear hst
  induction d with
  | zero => rfl
  | succ d ih =>
    have h1 := cls_mono (T := T) (n := n) (X := X) (s := s + 1) (t := s + d + 1) (by omega)
    have h2 := cls_succ (T := T) (n := n) X (s + (d + 1))
    rw [show s + (d + 1) = s + d + 1 by omega] at h2 e ⊢
    have hf : ¬ fresh T n X (s + d + 1) = true := fun hf => by rw [if_pos hf] at h2; omega
    rw [if_neg hf] at h2
    rw [ih (by omega) (by omega)]
    simp [fresh] at hf
    exact hf.symm
theorem Lst.eq_cls (h : Lst T n X) {s t : Nat} (hst : s ≤ t) (ht : t < lc T n 0) (e : sk T n (X s) = sk T n (X t)) : cls T n X (s + 1) = cls T n X (t + 1) := by
  obtain ⟨d, rfl⟩ : ∃ d, t = s + d := ⟨t - s, by omega⟩
  clear hst
  induction d with
  | zero => rfl
  | succ d ih =>
    have h2 := cls_succ (T := T) (n := n) X (s + (d + 1))
    rw [show s + (d + 1) = s + d + 1 by omega] at h2 e ⊢
    have e1 : sk T n (X (s + d)) = sk T n (X (s + d + 1)) := by
      have a1 := h.sk_le (s := s + d) (t := s + d + 1) (by omega) (by omega)
      have a2 := h.sk_le (s := s) (t := s + d) (by omega) (by omega)
      rw [e] at a2
      exact List.le_antisymm (List.not_lt.1 a1) (List.not_lt.1 a2)
    have hf : ¬ fresh T n X (s + d + 1) = true := by simp [fresh, e1]
    rw [if_neg hf] at h2
    rw [ih (by omega) (by rw [e, e1]), h2]
    omega
theorem Lst.cls_lt (h : Lst T n X) {s t : Nat} (_hs : s < lc T n 0) (ht : t < lc T n 0) (e : cls T n X (s + 1) < cls T n X (t + 1)) : sk T n (X s) < sk T n (X t) := by
  have hst : s < t := by
    by_cases c : s < t
    · exact c
    · have := cls_mono (T := T) (n := n) (X := X) (s := t + 1) (t := s + 1) (by omega); omega
  rcases h.srt s t hst ht with a | ⟨a, _⟩
  · exact a
  · have := h.eq_cls (by omega) ht a; omega

/-- equal beginnings -/
theorem slt_pre {x y d : Nat} (hx : x + d ≤ n) (hy : y + d ≤ n) (h : ∀ t, t < d → T (x + t) = T (y + t)) (hs : slt T n (x + d) (y + d)) : slt T n x y := by
  induction d generalizing x y with
  | zero => exact hs
  | succ d ih =>
    rw [slt_cons (by omega) (by omega)]
    refine .inr ⟨by simpa using h 0 (by omega), ih (by omega) (by omega) (fun t ht => ?_) (by rwa [show x + 1 + d = x + (d + 1) by omega, show y + 1 + d = y + (d + 1) by omega])⟩
    have := h (t + 1) (by omega)
    rwa [show x + 1 + t = x + (t + 1) by omega, show y + 1 + t = y + (t + 1) by omega]

/-- THE SMALLER PROBLEM: its text, by ranks -/
structure Red (T : Nat → Nat) (n : Nat) (X : Nat → Nat) (Rt : Nat → Nat) : Prop where
  val : ∀ t, t < lc T n 0 → Rt (lc T n 0 - 1 - lc T n (X t)) = cls T n X (t + 1) - 1
/-- ITS ORDER IS THE ORDER OF THE LMS SUFFIXES -/
theorem Red.slt (hL : Lst T n X) {Rt : Nat → Nat} (h : Red T n X Rt) {x y : Nat} (hx : lms T n x = true) (hy : lms T n y = true)
    (hs : slt Rt (lc T n 0) (lc T n 0 - 1 - lc T n x) (lc T n 0 - 1 - lc T n y)) : slt T n x y := by
  obtain ⟨d, hd⟩ : ∃ d, d = lc T n x := ⟨_, rfl⟩
  induction d generalizing x y with
  | zero => exact go hx hy hs (fun h0 => by have := (nx_zero_iff (T := T) (n := n) x).2 hd.symm; exact absurd this h0)
  | succ d ih =>
    exact go hx hy hs (fun h0 h1 hs' => by
      obtain ⟨a1, a2, a3⟩ := nx_some h0
      obtain ⟨b1, b2, b3⟩ := nx_some h1
      exact ih a2 b2 hs' (by omega))
where
  go {x y : Nat} (hx : Sa.lms T n x = true) (hy : Sa.lms T n y = true) (hs : Sa.slt Rt (lc T n 0) (lc T n 0 - 1 - lc T n x) (lc T n 0 - 1 - lc T n y))
      (ih : nx T n x ≠ 0 → nx T n y ≠ 0 → Sa.slt Rt (lc T n 0) (lc T n 0 - 1 - lc T n (nx T n x)) (lc T n 0 - 1 - lc T n (nx T n y)) → Sa.slt T n (nx T n x) (nx T n y)) : Sa.slt T n x y := by
    have hxn := lms_lt hx
    have hyn := lms_lt hy
    have x1 := lc_lt (lms_pos hx) hx
    have y1 := lc_lt (lms_pos hy) hy
    obtain ⟨s, hs1, rfl⟩ := hL.all x hx
    obtain ⟨t, ht1, rfl⟩ := hL.all y hy
    have cs := cls_pos (T := T) (n := n) X s
    have ct := cls_pos (T := T) (n := n) X t
    rw [slt_cons (by omega) (by omega), h.val s hs1, h.val t ht1] at hs
    rcases hs with hlt | ⟨he, hs⟩
    · exact slt_of_sk (by omega) (by omega) (hL.cls_lt hs1 ht1 (by omega))
    · have hsk : sk T n (X s) = sk T n (X t) := by
        by_cases c : s ≤ t
        · exact hL.cls_eq c ht1 (by omega)
        · exact (hL.cls_eq (s := t) (t := s) (by omega) hs1 (by omega)).symm
      by_cases hne : X s = X t
      · rw [hne] at hs; exact absurd hs (slt_irrefl _)
      · obtain ⟨h1, h2, h3, h4⟩ := sk_eq (by omega) (by omega) hsk hne
        obtain ⟨a1, a2, a3⟩ := nx_some h1
        obtain ⟨b1, b2, b3⟩ := nx_some h2
        have a4 := lms_lt a2
        have b4 := lms_lt b2
        have := ih h1 h2 (by
          rw [show lc T n 0 - 1 - lc T n (nx T n (X s)) = lc T n 0 - 1 - lc T n (X s) + 1 by omega, show lc T n 0 - 1 - lc T n (nx T n (X t)) = lc T n 0 - 1 - lc T n (X t) + 1 by omega]
          exact hs)
        refine slt_pre (d := nx T n (X s) - X s) (by omega) (by omega) (fun u hu => h4 u (by omega)) ?_
        rw [show X s + (nx T n (X s) - X s) = nx T n (X s) by omega, show X t + (nx T n (X s) - X s) = nx T n (X t) by omega]
        exact this

/-- the LMS positions in the order of their suffixes -/
structure LSort (T : Nat → Nat) (n : Nat) (Y : Nat → Nat) : Prop where
  lms : ∀ s, s < lc T n 0 → lms T n (Y s) = true
  srt : ∀ s t, s < t → t < lc T n 0 → slt T n (Y s) (Y t)
  all : ∀ x, Sa.lms T n x = true → ∃ s, s < lc T n 0 ∧ Y s = x
/-- all classes are single: the list is sorted already -/
theorem Lst.single (h : Lst T n X) (e : cls T n X (lc T n 0) = lc T n 0) : LSort T n X where
  lms := h.lms
  all := h.all
  srt s t hst ht := by
    have all_fresh : ∀ k u, u < k → cls T n X k = k → fresh T n X u = true := by
      intro k
      induction k with
      | zero => intro u hu; omega
      | succ k ih =>
        intro u hu hk
        rw [cls_succ] at hk
        have := cls_le (T := T) (n := n) X k
        split at hk
        · by_cases e : u = k
          · subst e; assumption
          · exact ih u (by omega) (by omega)
        · omega
    have h1 := h.lms s (by omega)
    have h2 := h.lms t ht
    refine slt_of_sk (by have := lms_lt h1; omega) (by have := lms_lt h2; omega) (h.cls_lt (by omega) ht ?_)
    have h3 := cls_succ (T := T) (n := n) X t
    rw [if_pos (all_fresh _ t ht e)] at h3
    have := cls_mono (T := T) (n := n) (X := X) (s := s + 1) (t := t) (by omega)
    omega
/-- FROM THE SMALLER PROBLEM's SUFFIX ARRAY -/
theorem Red.back (hL : Lst T n X) {Rt d Y : Nat → Nat} (h : Red T n X Rt) (hd : IsSA Rt (lc T n 0) d) (hY : ∀ s, s < lc T n 0 → lms T n (Y s) = true ∧ lc T n 0 - 1 - lc T n (Y s) = d s) : LSort T n Y where
  lms s hs := (hY s hs).1
  srt s t hst ht := by
    refine h.slt hL (hY s (by omega)).1 (hY t ht).1 ?_
    rw [(hY s (by omega)).2, (hY t ht).2]
    exact hd.srt s t hst ht
  all x hx := by
    have x1 := lc_lt (lms_pos hx) hx
    obtain ⟨s, hs, e⟩ := hd.onto (lc T n 0 - 1 - lc T n x) (by omega)
    refine ⟨s, hs, ?_⟩
    obtain ⟨h1, h2⟩ := hY s hs
    have y1 := lc_lt (lms_pos h1) h1
    exact lc_inj h1 hx (by omega)
theorem Red.lt (hL : Lst T n X) {Rt : Nat → Nat} (h : Red T n X Rt) {r : Nat} (hr : r < lc T n 0) : Rt r < cls T n X (lc T n 0) := by
  obtain ⟨x, h0, hx, e⟩ := lc_onto (T := T) (n := n) (i := 0) (t := lc T n 0 - 1 - r) (by omega)
  obtain ⟨t, ht, rfl⟩ := hL.all x hx
  have := h.val t ht
  rw [e, show lc T n 0 - 1 - (lc T n 0 - 1 - r) = r by omega] at this
  have c1 := cls_pos (T := T) (n := n) X t
  have c2 := cls_mono (T := T) (n := n) (X := X) (s := t + 1) (t := lc T n 0) (by omega)
  omega
end
end Go.Proofs.YtpkgkppehefibaaGreatDoor.Sa

/- Plain theory, part 8: what the arrays hold while LMS substrings are numbered, mapped, mapped back and spread into the buckets. -/
namespace Go.Proofs.YtpkgkppehefibaaGreatDoor.Sa

theorem cn_inj {P Q : Nat → Bool} {m n : Nat} (f : Nat → Nat) (hinj : ∀ i j, i < m → j < m → Q i = true → Q j = true → f i = f j → i = j) (hP : ∀ i, i < m → Q i = true → f i < n ∧ P (f i) = true) : cn Q m ≤ cn P n := by
  have nd : ∀ l : List Nat, l.Nodup → (∀ x, x ∈ l → x < m ∧ Q x = true) → (l.map f).Nodup := by
    intro l
    induction l with
    | nil => intro _ _; simp
    | cons a l ih =>
      intro h1 h2
      rw [List.nodup_cons] at h1
      rw [List.map_cons, List.nodup_cons]
      refine ⟨fun hm => ?_, ih h1.2 (fun x hx => h2 x (by simp [hx]))⟩
      obtain ⟨x, hx, e⟩ := List.mem_map.1 hm
      obtain ⟨x1, x2⟩ := h2 x (by simp [hx])
      obtain ⟨a1, a2⟩ := h2 a (by simp)
      exact h1.1 (hinj x a x1 a1 x2 a2 e ▸ hx)
  have h := nodup_length_le ((pick Q m).map f) (pick P n) (nd _ (by unfold pick; exact List.Pairwise.filter _ List.nodup_range) (fun x hx => mem_pick.1 hx)) (fun x hx => by
    obtain ⟨i, hi, rfl⟩ := List.mem_map.1 hx
    obtain ⟨i1, i2⟩ := mem_pick.1 hi
    exact mem_pick.2 (hP i i1 i2))
  rw [List.length_map, length_pick, length_pick] at h
  exact h

section
variable {T : Nat → Nat} {n : Nat} {C : Nat → Int} {A0 A : Nat → Int} {X : Nat → Nat}

/-- the sorted list at the end of an array -/
def lstOf (T : Nat → Nat) (n : Nat) (A : Nat → Int) (t : Nat) : Nat := (A (n - lc T n 0 + t)).toNat
theorem Subs.lst (h : Subs T n (lc T n 0) A) (hn : lc T n 0 ≤ n) : Lst T n (lstOf T n A) where
  lms t ht := by
    obtain ⟨x, e, hx⟩ := h.get (n - lc T n 0 + t) (by omega) (by omega)
    unfold lstOf
    rw [e]; exact hx
  srt s t hst ht := by
    obtain ⟨x, e, hx⟩ := h.get (n - lc T n 0 + s) (by omega) (by omega)
    obtain ⟨y, e', hy⟩ := h.get (n - lc T n 0 + t) (by omega) (by omega)
    unfold lstOf
    rw [e, e']
    exact h.srt _ _ x y (by omega) (by omega) (by omega) e e'
  all x hx := by
    obtain ⟨p, h1, h2, h3⟩ := h.all x hx
    exact ⟨p - (n - lc T n 0), by omega, by unfold lstOf; rw [show n - lc T n 0 + (p - (n - lc T n 0)) = p by omega, h3]; rfl⟩
theorem Subs.lst_val (h : Subs T n (lc T n 0) A) (hn : lc T n 0 ≤ n) {t : Nat} (ht : t < lc T n 0) : A (n - lc T n 0 + t) = (lstOf T n A t : Nat) := by
  obtain ⟨x, e, hx⟩ := h.get (n - lc T n 0 + t) (by omega) (by omega)
  unfold lstOf
  rw [e]; rfl

/-- NUMBERING: the first s of the sorted list have their numbers -/
structure IdI (T : Nat → Nat) (n : Nat) (C : Nat → Int) (X : Nat → Nat) (A0 : Nat → Int) (s : Nat) (A : Nat → Int) : Prop where
  old : ∀ t, t < s → t < lc T n 0 → A (X t / 2) = (cls T n X (t + 1) : Nat)
  new : ∀ t, s ≤ t → t < lc T n 0 → A (X t / 2) = C (X t)
  ze : ∀ p, p < n - lc T n 0 → (∀ x, lms T n x = true → x / 2 ≠ p) → A p = 0
  top : ∀ p, n - lc T n 0 ≤ p → p < n → A p = A0 p
theorem IdI.start (h : LenI T n C A0 0 A) (hX : Lst T n X) : IdI T n C X A0 0 A where
  old t ht := by omega
  new t _ ht := h.has _ (hX.lms t ht) (lms_pos (hX.lms t ht))
  ze p h1 h2 := h.ze p h1 (fun x hx _ => h2 x hx)
  top := h.top
theorem IdI.step {s : Nat} (h : IdI T n C X A0 s A) (hX : Lst T n X) (hs : s < lc T n 0) : X s / 2 < n ∧ IdI T n C X A0 (s + 1) (upd A (X s / 2) (cls T n X (s + 1) : Nat)) := by
  have hh := half_lt (hX.lms s hs)
  have inj : ∀ t, t < lc T n 0 → t ≠ s → X t / 2 ≠ X s / 2 := fun t ht hne e => hne (hX.inj ht hs (lms_half (hX.lms t ht) (hX.lms s hs) e))
  refine ⟨by omega, fun t h1 h2 => ?_, fun t h1 h2 => ?_, fun p h1 h2 => ?_, fun p h1 h2 => ?_⟩
  · by_cases e : t = s
    · rw [e, upd_same]
    · rw [upd_other _ _ (inj t h2 e)]; exact h.old t (by omega) h2
  · rw [upd_other _ _ (inj t h2 (by omega))]; exact h.new t (by omega) h2
  · rw [upd_other _ _ (fun e => h2 _ (hX.lms s hs) e.symm)]; exact h.ze p h1 h2
  · rw [upd_other _ _ (by omega)]; exact h.top p h1 h2

/-- the last class seen, by its first position -/
structure LastI (T : Nat → Nat) (n : Nat) (C : Nat → Int) (X : Nat → Nat) (s id lp : Nat) (ll : Int) : Prop where
  id : id = cls T n X s
  z : s = 0 → ll = -1
  p : 0 < s → ∃ t, t < s ∧ lp = X t ∧ sk T n lp = sk T n (X (s - 1)) ∧ ll = C lp
theorem LastI.start : LastI T n C X 0 0 0 (-1) := ⟨rfl, fun _ => rfl, fun h => by omega⟩
theorem LastI.fresh {s id lp : Nat} {ll : Int} (h : LastI T n C X s id lp ll) (hf : fresh T n X s = true) : cls T n X (s + 1) = id + 1 ∧ LastI T n C X (s + 1) (id + 1) (X s) (C (X s)) := by
  have e : cls T n X (s + 1) = id + 1 := by rw [cls_succ, if_pos hf, h.id]
  exact ⟨e, e.symm, fun h => by omega, fun _ => ⟨s, by omega, rfl, by simp, rfl⟩⟩
theorem LastI.same {s id lp : Nat} {ll : Int} (h : LastI T n C X s id lp ll) (hf : Sa.fresh T n X s = false) : cls T n X (s + 1) = id ∧ LastI T n C X (s + 1) id lp ll := by
  have e : cls T n X (s + 1) = id := by rw [cls_succ, if_neg (by simp [hf]), h.id]; rfl
  have hs : 0 < s := by
    by_cases c : s = 0
    · subst c; simp [Sa.fresh] at hf
    · omega
  obtain ⟨t, h1, h2, h3, h4⟩ := h.p hs
  refine ⟨e, e.symm, fun h => by omega, fun _ => ⟨t, by omega, h2, ?_, h4⟩⟩
  simp [Sa.fresh] at hf
  rw [h3, show s + 1 - 1 = s by omega, hf.2]
theorem LastI.ne {s id lp : Nat} {ll : Int} (h : LastI T n C X s id lp ll) (hC : CodeOK T n C) (hX : Lst T n X) (hs : s < lc T n 0) (e : C (X s) ≠ ll) : Sa.fresh T n X s = true := by
  by_cases c : s = 0
  · subst c; rfl
  · obtain ⟨t, h1, h2, h3, h4⟩ := h.p (by omega)
    simp only [Sa.fresh, Bool.or_eq_true, decide_eq_true_eq]
    refine .inr fun e' => e ?_
    rw [h4, h2]
    exact hC.same _ _ (hX.lms s hs) (hX.lms t (by omega)) (by rw [e', ← h3, h2])
/-- the same code: not the first one; the position compared with is another -/
theorem LastI.eq {s id lp : Nat} {ll : Int} (h : LastI T n C X s id lp ll) (hC : CodeOK T n C) (hX : Lst T n X) (hs : s < lc T n 0) (e : C (X s) = ll) :
    lms T n lp = true ∧ C (X s) = C lp ∧ X s ≠ lp ∧ (Sa.fresh T n X s = true ↔ sk T n (X s) ≠ sk T n lp) := by
  have c : s ≠ 0 := fun c => hC.m1 _ (hX.lms s hs) (by rw [e, h.z c])
  obtain ⟨t, h1, h2, h3, h4⟩ := h.p (by omega)
  refine ⟨by rw [h2]; exact hX.lms t (by omega), by rw [e, h4], fun e' => ?_, ?_⟩
  · rw [h2] at e'
    have := hX.inj hs (by omega) e'
    omega
  · simp [Sa.fresh, c, h3]
theorem LastI.big {s id lp : Nat} {ll : Int} (h : LastI T n C X s id lp ll) (hC : CodeOK T n C) (hX : Lst T n X) (hs : s < lc T n 0) (e : C (X s) = ll) (hb : C (X s) < 0 ∨ (n : Int) ≤ C (X s)) : Sa.fresh T n X s = false := by
  obtain ⟨h1, h2, h3, h4⟩ := h.eq hC hX hs e
  have := hC.big _ _ (hX.lms s hs) h1 h3 h2 hb
  cases hf : Sa.fresh T n X s with
  | false => rfl
  | true => exact absurd this (h4.1 hf)
theorem LastI.len {s id lp : Nat} {ll : Int} (h : LastI T n C X s id lp ll) (hC : CodeOK T n C) (hX : Lst T n X) (hs : s < lc T n 0) (e : C (X s) = ll) (h0 : 0 ≤ C (X s)) (hlt : C (X s) < n) :
    ∃ L : Nat, C (X s) = L ∧ X s + L ≤ n ∧ lp + L ≤ n ∧ ((∀ t, t < L → T (X s + t) = T (lp + t)) → Sa.fresh T n X s = false) ∧ (∀ t, t < L → T (X s + t) ≠ T (lp + t) → Sa.fresh T n X s = true) := by
  obtain ⟨h1, h2, h3, h4⟩ := h.eq hC hX hs e
  obtain ⟨g1, g2, g3, g4⟩ := hC.len _ _ (hX.lms s hs) h1 h3 h2 h0 hlt
  obtain ⟨a1, a2, _⟩ := nx_some g1
  obtain ⟨b1, b2, _⟩ := nx_some g2
  have a3 := lms_lt a2
  have b3 := lms_lt b2
  refine ⟨nx T n (X s) + 1 - X s, g3, by omega, by omega, fun ht => ?_, fun t ht hne => ?_⟩
  · have := sk_of g1 g2 (by omega) (fun t ht' => ht t (by omega))
    cases hf : Sa.fresh T n X s with
    | false => rfl
    | true => exact absurd this (h4.1 hf)
  · refine h4.2 fun e' => hne ?_
    obtain ⟨_, _, _, c4⟩ := sk_eq (by have := lms_lt (hX.lms s hs); omega) (by have := lms_lt h1; omega) e' h3
    exact c4 t (by omega)

/-- MAPPING: indices from i on are worked on -/
structure MapI (T : Nat → Nat) (n : Nat) (X : Nat → Nat) (i : Nat) (A : Nat → Int) : Prop where
  has : ∀ t, t < lc T n 0 → 2 * i - 1 < X t → A (n - 1 - lc T n (X t)) = ((cls T n X (t + 1) - 1 : Nat) : Int)
  lowX : ∀ t, t < lc T n 0 → A (X t / 2) = (cls T n X (t + 1) : Nat)
  lowZ : ∀ p, p < n - lc T n 0 → (∀ x, lms T n x = true → x / 2 ≠ p) → A p = 0
theorem MapI.start (h : IdI T n C X A0 (lc T n 0) A) (hX : Lst T n X) : MapI T n X (n / 2 + 1) A where
  has t ht h2 := by have := lms_lt (hX.lms t ht); omega
  lowX t ht := h.old t ht ht
  lowZ := h.ze
theorem lc_pred (i : Nat) (h1 : lms T n (2 * i) = false) (h2 : lms T n (2 * i + 1) = false) : lc T n (2 * i - 1) = lc T n (2 * (i + 1) - 1) := by
  rw [show 2 * (i + 1) - 1 = 2 * i + 1 by omega, ← lc_of_not h2]
  by_cases c : i = 0
  · subst c; rfl
  · have := lc_of_not (i := 2 * i - 1) (by rwa [show 2 * i - 1 + 1 = 2 * i by omega])
    rwa [show 2 * i - 1 + 1 = 2 * i by omega] at this
theorem MapI.at_ {i : Nat} (h : MapI T n X (i + 1) A) (hX : Lst T n X) (hi : i < n - lc T n 0) :
    (A i = 0 ∧ lc T n (2 * i - 1) = lc T n (2 * (i + 1) - 1) ∧ MapI T n X i A) ∨
    (∃ r : Nat, 0 < r ∧ r ≤ lc T n 0 ∧ A i = r ∧ lc T n (2 * i - 1) = lc T n (2 * (i + 1) - 1) + 1 ∧ lc T n (2 * (i + 1) - 1) < lc T n 0 ∧ MapI T n X i (upd A (n - 1 - lc T n (2 * (i + 1) - 1)) ((r : Int) - 1))) := by
  by_cases hc : ∃ x, lms T n x = true ∧ x / 2 = i
  · obtain ⟨x, hx, rfl⟩ := hc
    obtain ⟨t, ht, rfl⟩ := hX.all x hx
    have c1 := cls_pos (T := T) (n := n) X t
    have c2 := cls_le (T := T) (n := n) X (t + 1)
    have hpos := lms_pos hx
    have hlc : lc T n (X t) = lc T n (2 * (X t / 2 + 1) - 1) ∧ lc T n (2 * (X t / 2) - 1) = lc T n (X t) + 1 := by
      have up := lc_of_lms (i := X t - 1) (by rwa [show X t - 1 + 1 = X t by omega])
      rw [show X t - 1 + 1 = X t by omega] at up
      rcases Nat.mod_two_eq_zero_or_one (X t) with e | e
      · have := lc_of_not (lms_next hx)
        rw [show 2 * (X t / 2 + 1) - 1 = X t + 1 by omega, show 2 * (X t / 2) - 1 = X t - 1 by omega]
        exact ⟨this, up⟩
      · rw [show 2 * (X t / 2 + 1) - 1 = X t by omega]
        refine ⟨rfl, ?_⟩
        by_cases c : X t = 1
        · rw [c] at up ⊢; exact up
        · have hn2 : lms T n (X t - 1) = false := by
            cases hh : lms T n (X t - 1) with
            | false => rfl
            | true => have := lms_next hh; rw [show X t - 1 + 1 = X t by omega, hx] at this; cases this
          have := lc_of_not (i := X t - 1 - 1) (by rwa [show X t - 1 - 1 + 1 = X t - 1 by omega])
          rw [show X t - 1 - 1 + 1 = X t - 1 by omega] at this
          rw [show 2 * (X t / 2) - 1 = X t - 1 - 1 by omega, this, up]
    have hlt := lc_lt (i := 0) hpos hx
    rw [← hlc.1]
    refine .inr ⟨cls T n X (t + 1), c1, by omega, h.lowX t ht, hlc.2, hlt, fun u hu h2 => ?_, fun u hu => ?_, fun p hp hz => ?_⟩
    · by_cases e : u = t
      · subst e
        rw [upd_same]; omega
      · have hne : X u ≠ X t := fun e' => e (hX.inj hu ht e')
        have hgt : X t < X u := by
          by_cases c : X t < X u
          · exact c
          · exact absurd (lms_half (hX.lms u hu) hx (by omega)) hne
        have l1 := lc_lt hgt (hX.lms u hu)
        have l2 := lc_lt (i := 0) (lms_pos (hX.lms u hu)) (hX.lms u hu)
        have n1 := lc_half (T := T) (n := n) (i := 0) (by have := lms_lt hx; omega)
        rw [upd_other _ _ (by omega)]
        refine h.has u hu ?_
        have : X u / 2 ≠ X t / 2 := fun e' => hne (lms_half (hX.lms u hu) hx e')
        omega
    · have := half_lt (hX.lms u hu)
      have n1 := lc_half (T := T) (n := n) (i := 0) (by have := lms_lt hx; omega)
      rw [upd_other _ _ (by omega)]
      exact h.lowX u hu
    · have n1 := lc_half (T := T) (n := n) (i := 0) (by have := lms_lt hx; omega)
      rw [upd_other _ _ (by omega)]
      exact h.lowZ p hp hz
  · have no : ∀ x, x / 2 = i → lms T n x = false := fun x hx => by
      cases hh : lms T n x with
      | false => rfl
      | true => exact absurd ⟨x, hh, hx⟩ hc
    refine .inl ⟨h.lowZ i hi (fun x hx e => hc ⟨x, hx, e⟩), lc_pred i (no _ (by omega)) (no _ (by omega)), fun t ht h2 => h.has t ht ?_, h.lowX, h.lowZ⟩
    have h3 : X t / 2 ≠ i := fun e => hc ⟨X t, hX.lms t ht, e⟩
    have := lms_pos (hX.lms t ht)
    omega
theorem MapI.red (h : MapI T n X 0 A) (hX : Lst T n X) : Red T n X (fun r => (A (n - lc T n 0 + r)).toNat) ∧ ∀ r, r < lc T n 0 → A (n - lc T n 0 + r) = ((A (n - lc T n 0 + r)).toNat : Int) := by
  have key : ∀ t, t < lc T n 0 → A (n - lc T n 0 + (lc T n 0 - 1 - lc T n (X t))) = ((cls T n X (t + 1) - 1 : Nat) : Int) := by
    intro t ht
    have hx := hX.lms t ht
    have l1 := lc_lt (i := 0) (lms_pos hx) hx
    have n1 := lc_half (T := T) (n := n) (i := 0) (by have := lms_lt hx; omega)
    rw [show n - lc T n 0 + (lc T n 0 - 1 - lc T n (X t)) = n - 1 - lc T n (X t) by omega]
    exact h.has t ht (by have := lms_pos hx; omega)
  refine ⟨⟨fun t ht => by rw [key t ht]; rfl⟩, fun r hr => ?_⟩
  obtain ⟨x, h0, hx, e⟩ := lc_onto (T := T) (n := n) (i := 0) (t := lc T n 0 - 1 - r) (by omega)
  obtain ⟨t, ht, rfl⟩ := hX.all x hx
  have := key t ht
  rw [e, show lc T n 0 - 1 - (lc T n 0 - 1 - r) = r by omega] at this
  rw [this]; rfl

/-- MAPPING BACK, first the list of LMS positions in the order of the text -/
structure UnI (T : Nat → Nat) (n : Nat) (A0 : Nat → Int) (i : Nat) (A : Nat → Int) : Prop where
  has : ∀ x, lms T n x = true → i < x → A (n - 1 - lc T n x) = (x : Nat)
  low : ∀ p, p < n - lc T n 0 → A p = A0 p
theorem UnI.start (A : Nat → Int) : UnI T n A n A where
  has x h1 h2 := by have := lms_lt h1; omega
  low _ _ := rfl
theorem UnI.skip {i : Nat} (h : UnI T n A0 (i + 1) A) (hl : lms T n (i + 1) = false) : UnI T n A0 i A where
  has x h1 h2 := h.has x h1 (by
    by_cases e : x = i + 1
    · rw [e, hl] at h1; cases h1
    · omega)
  low := h.low
theorem UnI.ins {i : Nat} (h : UnI T n A0 (i + 1) A) (hl : lms T n (i + 1) = true) : lc T n (i + 1) < lc T n 0 ∧ UnI T n A0 i (upd A (n - 1 - lc T n (i + 1)) ((i + 1 : Nat) : Int)) := by
  have l1 := lc_lt (i := 0) (by omega) hl
  have n1 := lc_half (T := T) (n := n) (i := 0) (by have := lms_lt hl; omega)
  refine ⟨l1, fun x h1 h2 => ?_, fun p hp => ?_⟩
  · by_cases e : x = i + 1
    · rw [e, upd_same]
    · have l2 := lc_lt (i := i + 1) (j := x) (by omega) h1
      rw [upd_other _ _ (by omega)]
      exact h.has x h1 (by omega)
  · rw [upd_other _ _ (by omega)]; exact h.low p hp
/-- then through the list; d: the smaller problem's suffix array -/
structure UmI (T : Nat → Nat) (n : Nat) (d : Nat → Nat) (s : Nat) (A : Nat → Int) : Prop where
  top : ∀ x, lms T n x = true → A (n - 1 - lc T n x) = (x : Nat)
  old : ∀ t, t < s → t < lc T n 0 → ∃ x : Nat, A t = x ∧ lms T n x = true ∧ lc T n 0 - 1 - lc T n x = d t
  new : ∀ t, s ≤ t → t < lc T n 0 → A t = (d t : Nat)
theorem UmI.start {d : Nat → Nat} (h : UnI T n A0 0 A) (hd : ∀ t, t < lc T n 0 → A0 t = (d t : Nat)) (hn : 2 * lc T n 0 + 1 ≤ n) : UmI T n d 0 A where
  top x hx := h.has x hx (lms_pos hx)
  old t ht := by omega
  new t _ ht := by rw [h.low t (by omega)]; exact hd t ht
theorem UmI.step {d : Nat → Nat} {s : Nat} (h : UmI T n d s A) (hn : 2 * lc T n 0 + 1 ≤ n) (hs : s < lc T n 0) (hd : d s < lc T n 0) :
    ∃ x : Nat, A (n - lc T n 0 + d s) = x ∧ x < n ∧ UmI T n d (s + 1) (upd A s x) := by
  obtain ⟨x, h0, hx, e⟩ := lc_onto (T := T) (n := n) (i := 0) (t := lc T n 0 - 1 - d s) (by omega)
  have := h.top x hx
  have hxl := lms_lt hx
  rw [show n - 1 - lc T n x = n - lc T n 0 + d s by omega] at this
  refine ⟨x, this, by omega, fun y hy => ?_, fun t h1 h2 => ?_, fun t h1 h2 => ?_⟩
  · have l1 := lc_lt (i := 0) (lms_pos hy) hy
    rw [upd_other _ _ (by omega)]
    exact h.top y hy
  · by_cases e' : t = s
    · subst e'
      exact ⟨x, upd_same _ _ _, hx, by omega⟩
    · rw [upd_other _ _ e']; exact h.old t (by omega) h2
  · rw [upd_other _ _ (by omega)]; exact h.new t (by omega) h2
/-- the front of an array holds the LMS positions in the order of their suffixes -/
structure Front (T : Nat → Nat) (n : Nat) (A : Nat → Int) : Prop where
  val : ∀ s, s < lc T n 0 → A s = ((A s).toNat : Int)
  srt : LSort T n (fun s => (A s).toNat)
theorem UmI.final {d Rt : Nat → Nat} (h : UmI T n d (lc T n 0) A) (hL : Lst T n X) (hR : Red T n X Rt) (hd : IsSA Rt (lc T n 0) d) : Front T n A where
  val s hs := by
    obtain ⟨x, e, _⟩ := h.old s hs hs
    rw [e]; rfl
  srt := hR.back hL hd fun s hs => by
    obtain ⟨x, e, h1, h2⟩ := h.old s hs hs
    rw [e]
    exact ⟨h1, h2⟩
theorem Front.of_single (h : Lst T n X) (e : cls T n X (lc T n 0) = lc T n 0) (hA : ∀ s, s < lc T n 0 → A s = (X s : Nat)) : Front T n A := by
  have h' := h.single e
  have v : ∀ s, s < lc T n 0 → (A s).toNat = X s := fun s hs => by rw [hA s hs]; rfl
  refine ⟨fun s hs => by rw [hA s hs]; rfl, fun s hs => ?_, fun s t hst ht => ?_, fun x hx => ?_⟩
  · show lms T n (A s).toNat = true
    rw [v s hs]; exact h'.lms s hs
  · show slt T n (A s).toNat (A t).toNat
    rw [v s (by omega), v t ht]; exact h'.srt s t hst ht
  · obtain ⟨s, hs, e⟩ := h'.all x hx
    exact ⟨s, hs, by show (A s).toNat = x; rw [v s hs]; exact e⟩
end

/- SPREADING -/
section
variable (T : Nat → Nat) (n : Nat) (Y : Nat → Nat)
/-- so many of the sorted LMS positions from y on have the char c -/
def from_ (y c : Nat) : Nat := cn (fun s => decide (y ≤ s) && decide (T (Y s) = c)) (lc T n 0)
/-- where the s-th goes -/
def loc (s : Nat) : Nat := bmin T n (T (Y s) + 1) - from_ T n Y s (T (Y s))
variable {T n Y}
theorem from_le (h : LSort T n Y) (y c : Nat) : lmid T n c + from_ T n Y y c ≤ bmin T n (c + 1) := by
  rw [bmin_split]
  refine Nat.add_le_add_left (cn_inj Y (fun i j hi hj _ _ e => ?_) (fun i hi hq => ?_)) _
  · rcases Nat.lt_trichotomy i j with a | a | a
    · have := h.srt i j a hj; rw [e] at this; exact absurd this (slt_irrefl _)
    · exact a
    · have := h.srt j i a hi; rw [e] at this; exact absurd this (slt_irrefl _)
  · have hl := h.lms i hi
    have := lms_lt hl
    simp at hq
    exact ⟨by omega, by simp [hq.2, lms_S hl]⟩
theorem from_succ {y c : Nat} (hy : y < lc T n 0) : from_ T n Y y c = from_ T n Y (y + 1) c + if T (Y y) = c then 1 else 0 := by
  unfold from_
  have h1 : cn (fun s => decide (y ≤ s) && decide (T (Y s) = c)) (lc T n 0) = cn (fun s => decide (y + 1 ≤ s) && decide (T (Y s) = c)) (lc T n 0) + cn (fun s => decide (s = y) && decide (T (Y s) = c)) (lc T n 0) := by
    refine cn_add fun i _ => ⟨?_, ?_⟩
    · rw [Bool.eq_iff_iff]; simp; omega
    · simp; omega
  rw [h1]
  congr 1
  have h2 : ∀ k, cn (fun s => decide (s = y) && decide (T (Y s) = c)) k = if y < k ∧ T (Y y) = c then 1 else 0 := by
    intro k
    induction k with
    | zero => simp [cn]
    | succ k ih =>
      simp only [cn, ih]
      by_cases e : k = y
      · subst e
        by_cases e' : T (Y k) = c <;> simp [e']
      · by_cases e' : T (Y y) = c
        · simp only [e', and_true]
          by_cases h3 : y < k
          · rw [if_pos h3, if_neg (by simp [e]), if_pos (by omega)]
          · rw [if_neg h3, if_neg (by simp [e]), if_neg (by omega)]
        · simp [e, e']
  rw [h2]
  simp [hy]
theorem from_end (c : Nat) : from_ T n Y (lc T n 0) c = 0 := by
  unfold from_
  rw [cn_congr (Q := fun _ => false) (fun i hi => by simp; omega)]
  exact cn_false _
theorem from_pos {s : Nat} (hs : s < lc T n 0) : 0 < from_ T n Y s (T (Y s)) := by
  rw [from_succ hs, if_pos rfl]; omega
theorem loc_in (h : LSort T n Y) {s : Nat} (hs : s < lc T n 0) : lmid T n (T (Y s)) ≤ loc T n Y s ∧ loc T n Y s < bmin T n (T (Y s) + 1) := by
  have h1 := from_le h s (T (Y s))
  have h2 := from_pos (T := T) (n := n) (Y := Y) hs
  unfold loc
  omega
theorem from_anti {y z c : Nat} (h : y ≤ z) : from_ T n Y z c ≤ from_ T n Y y c := by
  unfold from_
  exact cn_mono fun i _ hi => by simp at hi ⊢; omega
theorem loc_mono (h : LSort T n Y) {s t : Nat} (hst : s < t) (ht : t < lc T n 0) : loc T n Y s < loc T n Y t := by
  obtain ⟨s1, s2⟩ := loc_in h (s := s) (by omega)
  obtain ⟨t1, t2⟩ := loc_in h ht
  have hl1 := lms_lt (h.lms s (by omega))
  have hl2 := lms_lt (h.lms t ht)
  have hc : T (Y s) ≤ T (Y t) := by
    rcases (slt_cons (by omega) (by omega)).1 (h.srt s t hst ht) with a | ⟨a, _⟩ <;> omega
  by_cases e : T (Y s) = T (Y t)
  · have f1 := from_succ (T := T) (n := n) (Y := Y) (y := s) (c := T (Y s)) (by omega)
    rw [if_pos rfl] at f1
    have f2 := from_anti (T := T) (n := n) (Y := Y) (y := s + 1) (z := t) (c := T (Y s)) (by omega)
    have f3 := from_le h s (T (Y s))
    unfold loc
    rw [← e]
    omega
  · have := bmin_next (T := T) (n := n) (c := T (Y s)) (d := T (Y t)) (by omega)
    have := bmin_lmid (T := T) (n := n) (T (Y t))
    omega
theorem loc_ge (h : LSort T n Y) {s : Nat} (hs : s < lc T n 0) : s ≤ loc T n Y s := by
  induction s with
  | zero => omega
  | succ s ih => have := ih (by omega); have := loc_mono h (s := s) (t := s + 1) (by omega) hs; omega
theorem loc_lt (h : LSort T n Y) {s : Nat} (hs : s < lc T n 0) : loc T n Y s < n := Nat.lt_of_lt_of_le (loc_in h hs).2 (bmin_le _)

/-- the places from i on are done; y of the positions are still to be laid -/
structure ExI (T : Nat → Nat) (n : Nat) (Y : Nat → Nat) (i y : Nat) (A : Nat → Int) : Prop where
  le : y ≤ lc T n 0
  put : ∀ s, y ≤ s → s < lc T n 0 → i ≤ loc T n Y s ∧ A (loc T n Y s) = (Y s : Nat)
  ze : ∀ p, i ≤ p → p < n → (∀ s, y ≤ s → s < lc T n 0 → loc T n Y s ≠ p) → A p = 0
  lt : ∀ s, s < y → loc T n Y s < i
  un : ∀ s, s < y → A s = (Y s : Nat)
theorem ExI.start {A : Nat → Int} (h : LSort T n Y) (hA : ∀ s, s < lc T n 0 → A s = (Y s : Nat)) : ExI T n Y n (lc T n 0) A where
  le := Nat.le_refl _
  put s h1 h2 := by omega
  ze p h1 h2 := by omega
  lt s hs := loc_lt h hs
  un := hA
theorem ExI.zero {i y : Nat} {A : Nat → Int} (h : ExI T n Y (i + 1) y A) (hY : LSort T n Y) (hne : i ≠ loc T n Y (y - 1)) : ExI T n Y i y (upd A i 0) := by
  have hle := h.le
  have big : 0 < y → loc T n Y (y - 1) < i := fun h0 => by have := h.lt (y - 1) (by omega); omega
  refine ⟨hle, fun s h1 h2 => ?_, fun p h1 h2 h3 => ?_, fun s hs => ?_, fun s hs => ?_⟩
  · obtain ⟨a1, a2⟩ := h.put s h1 h2
    exact ⟨by omega, by rw [upd_other _ _ (by omega)]; exact a2⟩
  · by_cases e : p = i
    · rw [e, upd_same]
    · rw [upd_other _ _ e]; exact h.ze p (by omega) h2 h3
  · have h1 := h.lt s hs
    have h2 := big (by omega)
    by_cases e : s = y - 1
    · rw [e]; exact h2
    · have := loc_mono hY (s := s) (t := y - 1) (by omega) (by omega); omega
  · have h2 := big (by omega)
    have := loc_ge hY (s := y - 1) (by omega)
    rw [upd_other _ _ (by omega)]; exact h.un s hs
theorem ExI.put_ {i y : Nat} {A : Nat → Int} (h : ExI T n Y (i + 1) y A) (hY : LSort T n Y) (he : i = loc T n Y (y - 1)) : (0 < lc T n 0 → 0 < y) ∧ (0 < y → ExI T n Y i (y - 1) (upd A i (Y (y - 1) : Nat))) := by
  have hle := h.le
  refine ⟨fun hm => ?_, fun h0 => ?_⟩
  · by_cases c : y = 0
    · subst c
      have := (h.put 0 (by omega) hm).1
      simp only [Nat.zero_sub] at he
      omega
    · omega
  · have ge := loc_ge hY (s := y - 1) (by omega)
    refine ⟨by omega, fun s h1 h2 => ?_, fun p h1 h2 h3 => ?_, fun s hs => ?_, fun s hs => ?_⟩
    · by_cases e : s = y - 1
      · subst e
        rw [← he, upd_same]
        exact ⟨Nat.le_refl _, rfl⟩
      · obtain ⟨a1, a2⟩ := h.put s (by omega) h2
        exact ⟨by omega, by rw [upd_other _ _ (by omega)]; exact a2⟩
    · have hp : p ≠ i := fun e => h3 (y - 1) (Nat.le_refl _) (by omega) (by rw [e]; exact he.symm)
      rw [upd_other _ _ hp]
      exact h.ze p (by omega) h2 (fun s a b => h3 s (by omega) b)
    · have := loc_mono hY (s := s) (t := y - 1) hs (by omega); omega
    · rw [upd_other _ _ (by omega)]; exact h.un s (by omega)
theorem ExI.final {A : Nat → Int} (h : ExI T n Y 0 0 A) (hY : LSort T n Y) : Start T n (slt T n) (fun x => lms T n x = true) A := by
  have dec : ∀ p, p < n → A p = 0 ∨ ∃ s, s < lc T n 0 ∧ loc T n Y s = p ∧ A p = (Y s : Nat) := by
    intro p hp
    by_cases hc : ∃ s, s < lc T n 0 ∧ loc T n Y s = p
    · obtain ⟨s, hs, rfl⟩ := hc
      exact .inr ⟨s, hs, rfl, (h.put s (by omega) hs).2⟩
    · exact .inl (h.ze p (by omega) hp (fun s _ hs e => hc ⟨s, hs, e⟩))
  refine ⟨fun p hp => ?_, fun c p h1 h2 => ?_, fun c p x h1 h2 hx hx0 => ?_, fun p q x y hpq hq hx hy hx0 hy0 => ?_, fun x hx => ⟨hx, ?_⟩⟩
  · rcases dec p hp with e | ⟨s, _, _, e⟩ <;> omega
  · have hb := lmid_bmin (T := T) (n := n) c
    have hn := bmin_le (T := T) (n := n) (c + 1)
    rcases dec p (by omega) with e | ⟨s, hs, e1, _⟩
    · exact e
    · exfalso
      obtain ⟨a1, a2⟩ := loc_in hY hs
      have hb' := bmin_lmid (T := T) (n := n) (T (Y s))
      have := bucket_eq (T := T) (n := n) (p := p) (c := c) (d := T (Y s)) h1 (by omega) (by omega) (by omega)
      subst this
      omega
  · have hn := bmin_le (T := T) (n := n) (c + 1)
    rcases dec p (by omega) with e | ⟨s, hs, e1, e2⟩
    · omega
    · obtain rfl : x = Y s := by omega
      have hl := hY.lms s hs
      have := lms_lt hl
      obtain ⟨a1, a2⟩ := loc_in hY hs
      have hb := bmin_lmid (T := T) (n := n) c
      have hb' := bmin_lmid (T := T) (n := n) (T (Y s))
      exact ⟨by omega, bucket_eq (T := T) (n := n) (p := p) (by omega) (by omega) (by omega) h2, hl, hl⟩
  · rcases dec p (by omega) with e | ⟨s, hs, e1, e2⟩
    · omega
    · rcases dec q hq with e | ⟨t, ht, d1, d2⟩
      · omega
      · obtain rfl : x = Y s := by omega
        obtain rfl : y = Y t := by omega
        refine hY.srt s t ?_ ht
        rcases Nat.lt_trichotomy s t with a | a | a
        · exact a
        · subst a; omega
        · have := loc_mono hY a hs; omega
  · obtain ⟨s, hs, rfl⟩ := hY.all x hx
    exact ⟨loc T n Y s, loc_lt hY hs, (h.put s (by omega) hs).2⟩
end
end Go.Proofs.YtpkgkppehefibaaGreatDoor.Sa

/- Plain theory, part 9: the code of short LMS substrings of bytes, packed into a word. -/
namespace Go.Proofs.YtpkgkppehefibaaGreatDoor.Sa
section
variable (T : Nat → Nat) (n : Nat)
/-- a byte as it is packed -/
def byt (i : Nat) : Nat := (T i + 1) % 256
/-- the bytes x .. x + d, the first one lowest -/
def pk : Nat → Nat → Nat
  | x, 0 => byt T x
  | x, d + 1 => byt T x + 256 * pk (x + 1) d
/-- a word of 32 bits as an int32 -/
def s32 (v : Nat) : Int := if v < 2147483648 then (v : Int) else (v : Int) - 4294967296
/-- the code of the version over bytes -/
def C8 (x : Nat) : Int :=
  if nx T n x = 0 then 0
  else if nx T n x + 1 - x ≤ 4 ∧ n ≤ 4294967295 - pk T x (nx T n x - x) then s32 (4294967295 - pk T x (nx T n x - x))
  else ((nx T n x + 1 - x : Nat) : Int)
/-- the word while the text is scanned from behind: LMS positions behind i are met -/
structure CxI (i cx : Nat) : Prop where
  lt : cx < 4294967296
  val : nx T n i ≠ 0 → cx = pk T (i + 1) (nx T n i - (i + 1)) % 4294967296

variable {T n}
theorem byt_lt (i : Nat) : byt T i < 256 := Nat.mod_lt _ (by omega)
theorem pk_lt (x d : Nat) : pk T x d < 256 ^ (d + 1) := by
  induction d generalizing x with
  | zero => exact byt_lt x
  | succ d ih =>
    have h1 := ih (x + 1)
    have h2 := byt_lt (T := T) x
    rw [Nat.pow_succ]
    simp only [pk]
    omega
theorem pk_pos {x d : Nat} (h : byt T (x + d) ≠ 0) : 0 < pk T x d := by
  induction d generalizing x with
  | zero => simp only [pk]; rw [Nat.add_zero] at h; omega
  | succ d ih =>
    have := ih (x := x + 1) (by rwa [show x + 1 + d = x + (d + 1) by omega])
    simp only [pk]
    omega
theorem pk_inj {x y d e : Nat} (h1 : byt T (x + d) ≠ 0) (h2 : byt T (y + e) ≠ 0) (h : pk T x d = pk T y e) : d = e ∧ ∀ t, t ≤ d → byt T (x + t) = byt T (y + t) := by
  induction d generalizing x y e with
  | zero =>
    cases e with
    | zero =>
      refine ⟨rfl, fun t ht => ?_⟩
      obtain rfl : t = 0 := by omega
      exact h
    | succ e =>
      have := pk_pos (T := T) (x := y + 1) (d := e) (by rwa [show y + 1 + e = y + (e + 1) by omega])
      have := byt_lt (T := T) x
      simp only [pk] at h
      omega
  | succ d ih =>
    have b1 := byt_lt (T := T) x
    have b2 := byt_lt (T := T) y
    cases e with
    | zero =>
      have := pk_pos (T := T) (x := x + 1) (d := d) (by rwa [show x + 1 + d = x + (d + 1) by omega])
      simp only [pk] at h
      omega
    | succ e =>
      simp only [pk] at h
      obtain ⟨i1, i2⟩ := ih (x := x + 1) (y := y + 1) (e := e) (by rwa [show x + 1 + d = x + (d + 1) by omega]) (by rwa [show y + 1 + e = y + (e + 1) by omega]) (by omega)
      refine ⟨by omega, fun t ht => ?_⟩
      by_cases c : t = 0
      · subst c; simp only [Nat.add_zero]; omega
      · have := i2 (t - 1) (by omega)
        rwa [show x + 1 + (t - 1) = x + t by omega, show y + 1 + (t - 1) = y + t by omega] at this
theorem pk_congr {x y d : Nat} (h : ∀ t, t ≤ d → T (x + t) = T (y + t)) : pk T x d = pk T y d := by
  induction d generalizing x y with
  | zero => have := h 0 (by omega); simp only [Nat.add_zero] at this; simp [pk, byt, this]
  | succ d ih =>
    have h0 := h 0 (by omega)
    simp only [Nat.add_zero] at h0
    rw [pk, pk, ih (x := x + 1) (y := y + 1) (fun t ht => ?_)]
    · simp [byt, h0]
    · have := h (t + 1) (by omega)
      rwa [show x + 1 + t = x + (t + 1) by omega, show y + 1 + t = y + (t + 1) by omega]
theorem S_small (hT : ∀ i, i < n → T i < 256) {x : Nat} (h : sty T n x = true) : T x < 255 := by
  obtain ⟨d, hd⟩ : ∃ d, d = n - x := ⟨_, rfl⟩
  have h1 := S_lt h
  induction d generalizing x with
  | zero => omega
  | succ d ih =>
    have h2 := S_le h
    by_cases e : T x = T (x + 1)
    · have h3 := S_of_eq h e
      have := ih h3 (by omega) (S_lt h3)
      omega
    · have := hT (x + 1) h1
      omega
theorem byt_S (hT : ∀ i, i < n → T i < 256) {x : Nat} (h : sty T n x = true) : byt T x ≠ 0 := by
  have := S_small hT h
  unfold byt
  omega
theorem byt_inj {x y : Nat} (hx : T x < 256) (hy : T y < 256) (h : byt T x = byt T y) : T x = T y := by
  unfold byt at h
  omega
theorem s32_neg_or {v : Nat} (hv : v < 4294967296) : (v < 2147483648 ∧ s32 v = v) ∨ (2147483648 ≤ v ∧ s32 v = (v : Int) - 4294967296) := by
  unfold s32
  by_cases c : v < 2147483648
  · exact .inl ⟨c, by rw [if_pos c]⟩
  · exact .inr ⟨by omega, by rw [if_neg c]⟩

/-- what the code is, by cases -/
theorem C8_cases {x : Nat} (hx : lms T n x = true) :
    (nx T n x = 0 ∧ C8 T n x = 0) ∨
    (nx T n x ≠ 0 ∧ nx T n x - x ≤ 3 ∧ n ≤ 4294967295 - pk T x (nx T n x - x) ∧ pk T x (nx T n x - x) < 4294967296 ∧ C8 T n x = s32 (4294967295 - pk T x (nx T n x - x))) ∨
    (nx T n x ≠ 0 ∧ ¬ (nx T n x + 1 - x ≤ 4 ∧ n ≤ 4294967295 - pk T x (nx T n x - x)) ∧ C8 T n x = ((nx T n x + 1 - x : Nat) : Int) ∧ nx T n x + 1 - x < n ∧ 2 ≤ nx T n x + 1 - x) := by
  unfold C8
  by_cases h0 : nx T n x = 0
  · exact .inl ⟨h0, by rw [if_pos h0]⟩
  · rw [if_neg h0]
    obtain ⟨a1, a2, _⟩ := nx_some h0
    have a3 := lms_lt a2
    have a4 := lms_pos hx
    by_cases c : nx T n x + 1 - x ≤ 4 ∧ n ≤ 4294967295 - pk T x (nx T n x - x)
    · rw [if_pos c]
      have h1 := pk_lt (T := T) x (nx T n x - x)
      have h2 : 256 ^ (nx T n x - x + 1) ≤ 256 ^ 4 := Nat.pow_le_pow_right (by omega) (by omega)
      exact .inr (.inl ⟨h0, by omega, c.2, by omega, rfl⟩)
    · rw [if_neg c]
      exact .inr (.inr ⟨h0, c, rfl, by omega, by omega⟩)
theorem codeOK_8 (hT : ∀ i, i < n → T i < 256) (hn : n ≤ 2147483647) : CodeOK T n (C8 T n) where
  rng x hx := by
    rcases C8_cases hx with ⟨_, e⟩ | ⟨_, _, _, h, e⟩ | ⟨_, _, e, h, _⟩
    · omega
    · rw [e]
      rcases s32_neg_or (v := 4294967295 - pk T x (nx T n x - x)) (by omega) with ⟨_, e⟩ | ⟨_, e⟩ <;> omega
    · omega
  m1 x hx := by
    rcases C8_cases hx with ⟨_, e⟩ | ⟨h0, _, _, h, e⟩ | ⟨_, _, e, h, _⟩
    · omega
    · rw [e]
      have hp : 0 < pk T x (nx T n x - x) := pk_pos (by
        have a := (nx_some h0).1
        rw [show x + (nx T n x - x) = nx T n x by omega]
        exact byt_S hT (lms_S (nx_some h0).2.1))
      rcases s32_neg_or (v := 4294967295 - pk T x (nx T n x - x)) (by omega) with ⟨_, e⟩ | ⟨_, e⟩ <;> omega
    · omega
  same x y hx hy h := by
    by_cases e : x = y
    · rw [e]
    · obtain ⟨h1, h2, h3, h4⟩ := sk_eq (by have := lms_lt hx; omega) (by have := lms_lt hy; omega) h e
      have a1 := (nx_some h1).1
      have a2 := (nx_some h2).1
      have hp : pk T x (nx T n x - x) = pk T y (nx T n y - y) := by rw [← h3]; exact pk_congr h4
      unfold C8
      rw [if_neg h1, if_neg h2, ← hp, show nx T n x + 1 - x = nx T n y + 1 - y by omega]
  big x y hx hy hne e h := by
    have both : ∀ z, lms T n z = true → (C8 T n z < 0 ∨ (n : Int) ≤ C8 T n z) → nx T n z ≠ 0 ∧ pk T z (nx T n z - z) < 4294967296 ∧ C8 T n z = s32 (4294967295 - pk T z (nx T n z - z)) := by
      intro z hz hc
      have := lms_lt hz
      rcases C8_cases hz with ⟨_, e⟩ | ⟨h0, _, _, h, e⟩ | ⟨_, _, e, h, _⟩
      · omega
      · exact ⟨h0, h, e⟩
      · omega
    obtain ⟨x1, x2, x3⟩ := both x hx h
    obtain ⟨y1, y2, y3⟩ := both y hy (by rw [← e]; exact h)
    have hp : pk T x (nx T n x - x) = pk T y (nx T n y - y) := by
      rw [x3, y3] at e
      rcases s32_neg_or (v := 4294967295 - pk T x (nx T n x - x)) (by omega) with ⟨_, e1⟩ | ⟨_, e1⟩ <;> rcases s32_neg_or (v := 4294967295 - pk T y (nx T n y - y)) (by omega) with ⟨_, e2⟩ | ⟨_, e2⟩ <;> omega
    obtain ⟨a1, a2, _⟩ := nx_some x1
    obtain ⟨b1, b2, _⟩ := nx_some y1
    have a3 := lms_lt a2
    have b3 := lms_lt b2
    obtain ⟨g1, g2⟩ := pk_inj (by rw [show x + (nx T n x - x) = nx T n x by omega]; exact byt_S hT (lms_S a2)) (by rw [show y + (nx T n y - y) = nx T n y by omega]; exact byt_S hT (lms_S b2)) hp
    exact sk_of x1 y1 g1 (fun t ht => byt_inj (hT _ (by omega)) (hT _ (by omega)) (g2 t ht))
  len x y hx hy hne e h0 hlt := by
    have cs : ∀ z, lms T n z = true → 0 ≤ C8 T n z → C8 T n z < n → (nx T n z = 0 ∧ C8 T n z = 0) ∨ (nx T n z ≠ 0 ∧ C8 T n z = ((nx T n z + 1 - z : Nat) : Int) ∧ 2 ≤ nx T n z + 1 - z) := by
      intro z hz c0 c1
      rcases C8_cases hz with ⟨h, e⟩ | ⟨h0, _, hb, h, e⟩ | ⟨h, _, e, _, h2⟩
      · exact .inl ⟨h, e⟩
      · rw [e] at c0 c1
        rcases s32_neg_or (v := 4294967295 - pk T z (nx T n z - z)) (by omega) with ⟨_, e1⟩ | ⟨_, e1⟩ <;> omega
      · exact .inr ⟨h, e, h2⟩
    rcases cs x hx h0 hlt with ⟨x1, x2⟩ | ⟨x1, x2, x3⟩
    · rcases cs y hy (by omega) (by omega) with ⟨y1, y2⟩ | ⟨y1, y2, y3⟩
      · exact absurd (nx_zero_inj hx hy x1 y1) hne
      · omega
    · rcases cs y hy (by omega) (by omega) with ⟨y1, y2⟩ | ⟨y1, y2, y3⟩
      · omega
      · exact ⟨x1, y1, x2, y2⟩
/- the scan -/
theorem CxI.start : CxI T n n 0 := ⟨by omega, fun h => absurd (nx_end (by omega)) h⟩
/-- what is packed when position i + 1 is met -/
theorem CxI.shift {i cx : Nat} (h : CxI T n (i + 1) cx) : (cx * 256 % 4294967296 + byt T (i + 1)) < 4294967296 ∧
    (nx T n (i + 1) ≠ 0 → cx * 256 % 4294967296 + byt T (i + 1) = pk T (i + 1) (nx T n (i + 1) - (i + 1)) % 4294967296) := by
  have hb := byt_lt (T := T) (i + 1)
  refine ⟨by omega, fun h0 => ?_⟩
  have h1 := h.val h0
  have h2 := (nx_some h0).1
  rw [show nx T n (i + 1) - (i + 1) = (nx T n (i + 1) - (i + 1 + 1)) + 1 by omega, pk, h1]
  omega
theorem CxI.skip {i cx : Nat} (h : CxI T n (i + 1) cx) (hl : lms T n (i + 1) = false) : CxI T n i (cx * 256 % 4294967296 + byt T (i + 1)) :=
  ⟨h.shift.1, fun h0 => by rw [nx_of_not hl] at h0 ⊢; exact h.shift.2 h0⟩
theorem CxI.ins {i : Nat} (hl : lms T n (i + 1) = true) : CxI T n i (byt T (i + 1)) :=
  ⟨by have := byt_lt (T := T) (i + 1); omega, fun _ => by rw [nx_of_lms hl, Nat.sub_self, pk]; have := byt_lt (T := T) (i + 1); omega⟩
/-- the code that is stored: as Go reckons it -/
theorem C8_eq {x : Nat} (hx : lms T n x = true) (h0 : nx T n x ≠ 0) (cx : Nat) (hcx : cx = pk T x (nx T n x - x) % 4294967296) :
    C8 T n x = if nx T n x + 1 - x ≤ 4 ∧ n ≤ 4294967295 - cx then s32 (4294967295 - cx) else ((nx T n x + 1 - x : Nat) : Int) := by
  unfold C8
  rw [if_neg h0]
  by_cases c : nx T n x + 1 - x ≤ 4
  · have h1 := pk_lt (T := T) x (nx T n x - x)
    have h2 : 256 ^ (nx T n x - x + 1) ≤ 256 ^ 4 := Nat.pow_le_pow_right (by omega) (by have := lms_pos hx; omega)
    rw [show pk T x (nx T n x - x) = cx by rw [hcx]; omega]
  · rw [if_neg (fun h => c h.1), if_neg (fun h => c h.1)]
end
end Go.Proofs.YtpkgkppehefibaaGreatDoor.Sa

/- Plain theory, part 10: one step of the scan of the text from behind. -/
namespace Go.Proofs.YtpkgkppehefibaaGreatDoor.Sa
section
variable {T : Nat → Nat} {n j : Nat}
theorem scan_lt (h0 : T n = 0) (hj : j < n) (h : T j < T (j + 1)) : sty T n j = true ∧ lms T n (j + 1) = false := by
  have h1 : j + 1 < n := by
    by_cases c : j + 1 < n
    · exact c
    · have e : n = j + 1 := by omega
      rw [e] at h0
      omega
  have h2 := sty_lt h1 h
  exact ⟨h2, by simp [lms, h2]⟩
theorem scan_gt (h : T (j + 1) < T j) : sty T n j = false ∧ lms T n (j + 1) = sty T n (j + 1) := by
  have h1 : sty T n j = false := sty_gt h
  exact ⟨h1, by simp [lms, h1]⟩
theorem scan_eq (hj : j < n) (h : T j = T (j + 1)) : sty T n j = sty T n (j + 1) ∧ lms T n (j + 1) = false := by
  have h1 : sty T n j = sty T n (j + 1) := by
    by_cases c : j + 1 < n
    · exact sty_eq c h
    · rw [sty_end (by omega), sty_end (by omega)]
  refine ⟨h1, ?_⟩
  simp only [lms, Nat.add_sub_cancel, h1]
  cases sty T n (j + 1) <;> simp
/-- nothing is met at j + 1 -/
theorem scan_not (h : lms T n (j + 1) = false) : lc T n j = lc T n (j + 1) ∧ nx T n j = nx T n (j + 1) := ⟨lc_of_not h, nx_of_not h⟩
end
/-- entries are not far below zero -/
theorem FullL.low {T : Nat → Nat} {n i : Nat} {A : Nat → Int} {b : Nat → Nat} (h : FullL T n i A b) {p : Nat} (hp : p < n) : -(n : Int) < A p := by
  obtain ⟨G, h1, h2⟩ := h
  rw [h2 p hp]
  unfold encU
  cases hg : G p with
  | none => simp only; omega
  | some x =>
    have := (h1.at_ hp hg).1
    simp only [mk]
    split <;> omega
theorem FullL.high {T : Nat → Nat} {n i : Nat} {A : Nat → Int} {b : Nat → Nat} (h : FullL T n i A b) {p : Nat} (hp : p < n) : A p < (n : Int) := by
  obtain ⟨G, h1, h2⟩ := h
  rw [h2 p hp]
  unfold encU
  cases hg : G p with
  | none => simp only; omega
  | some x =>
    have := (h1.at_ hp hg).1
    simp only [mk]
    split <;> omega
theorem FullS.rng {T : Nat → Nat} {n i : Nat} {A : Nat → Int} {b : Nat → Nat} (h : FullS T n i A b) {p : Nat} (hi : p < i) (hp : p < n) : -(n : Int) < A p ∧ A p < (n : Int) := by
  obtain ⟨G, h⟩ := h
  cases hg : G p with
  | none => have := h.nn p hi hp hg; omega
  | some x =>
    have h1 := (h.inv.at_ hp hg).1
    rw [h.un p x hi hp hg]
    unfold mkQ mkT mk
    split <;> split <;> omega
end Go.Proofs.YtpkgkppehefibaaGreatDoor.Sa
