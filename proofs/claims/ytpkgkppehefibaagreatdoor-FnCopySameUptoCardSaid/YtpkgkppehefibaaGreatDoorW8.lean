/- What Write writes, in plain form; what Varint and Uvarint read back of it. -/
import Derived.Test.YtpkgkppehefibaaGreatDoorW6
import Derived.Lib.VarintDec
namespace Go.Proofs.YtpkgkppehefibaaGreatDoor
open Go.RowKit Sa

theorem Ints.kept {P : Nat → Prop} {w w' : World} {p po bs os k c : Nat} {d : Nat → Nat} (h : Ints w p po bs os k c d) (kp : Kept P w w') (hp : ¬ P p) (hb : ¬ P bs) : Ints w' p po bs os k c d := by
  have e : ∀ b o, b < w.heap.size → ¬ P b → w'.cell? ⟨b, o, none⟩ = w.cell? ⟨b, o, none⟩ := fun b o h1 h2 => by simp only [World.cell?, kp.block b h1 h2]
  have l1 := cell_lt h.c0
  refine ⟨by rw [e _ _ l1 hp]; exact h.c0, by rw [e _ _ l1 hp]; exact h.c1, fun i hi => ?_, h.dl, h.kl, h.kc⟩
  have l2 := cell_lt (h.sa i hi)
  rw [e _ _ l2 hb]; exact h.sa i hi
theorem Chunk.pos {d : Nat → Nat} {i : Nat} (hd : ∀ j, j < i → d j < 1073741824) (h : ∀ j, j < i → (enL d j).length + 20 ≤ 16384) : 10 + (enL d i).length ≤ 16384 := by
  cases i with
  | zero => simp [enL]
  | succ i =>
    have h1 := h i (by omega)
    have h2 := uvarint10 (d i) (by have := hd i (by omega); omega)
    simp only [enL, List.length_append]; omega

theorem toU8 {x : Nat} (h : x < 256) : (x.toUInt8).toNat = x := by
  simp only [Nat.toUInt8, UInt8.toNat_ofNat']; omega
theorem dec_from : ∀ (k x i acc : Nat) (rest : List UInt8), x < 128 ^ (k + 1) → i + (k + 1) ≤ 9 → Lib.uvarintFrom i acc (Lib.uvarint x ++ rest) = (acc + x * 2 ^ (7 * i), ((i + (Lib.uvarint x).length : Nat) : Int))
  | k, x, i, acc, rest, hx, hi => by
    by_cases hs : x < 128
    · rw [Lib.uvarint_small hs]
      simp only [List.cons_append, List.nil_append, Lib.uvarintFrom, List.length_cons, List.length_nil]
      rw [if_neg (by omega), toU8 (by omega), if_pos hs, if_neg (by omega)]
      simp
    · match k, hx, hi with
      | 0, hx, _ => exact absurd hx (by simpa using hs)
      | k + 1, hx, hi =>
        rw [Lib.uvarint_big (by omega)]
        simp only [List.cons_append, Lib.uvarintFrom, List.length_cons]
        rw [if_neg (by omega), toU8 (by omega), if_neg (by omega), dec_from k (x / 128) (i + 1) _ rest (by rw [Nat.pow_succ] at hx; exact Nat.div_lt_of_lt_mul (by rw [Nat.mul_comm]; exact hx)) (by omega)]
        have e : 2 ^ (7 * (i + 1)) = 128 * 2 ^ (7 * i) := by rw [Nat.mul_add, Nat.pow_add, Nat.mul_comm]
        have e2 : (x % 128 + 128) % 128 = x % 128 := by omega
        rw [e, e2]
        have e3 : x % 128 * 2 ^ (7 * i) + x / 128 * (128 * 2 ^ (7 * i)) = x * 2 ^ (7 * i) := by
          rw [← Nat.mul_assoc, ← Nat.add_mul]
          congr 1; omega
        ext1
        · show acc + _ + _ = _
          omega
        · show ((_ : Nat) : Int) = _
          congr 1; omega
theorem dec_u (x : Nat) (hx : x < 9223372036854775808) (rest : List UInt8) : Lib.uvarintDec (Lib.uvarint x ++ rest) = (x, (((Lib.uvarint x).length : Nat) : Int)) := by
  have := dec_from 8 x 0 0 rest (Nat.lt_of_lt_of_le hx (by decide)) (by omega)
  unfold Lib.uvarintDec
  rw [this]
  simp
theorem dec_v (p : Nat) (hp : p < 4611686018427387904) (rest : List UInt8) : (Lib.varintDec (Lib.uvarint (Lib.zigzag (p : Int)) ++ rest)).1 = (p : Int) := by
  have hz : Lib.zigzag (p : Int) = 2 * p := by unfold Lib.zigzag; rw [if_pos (by omega)]; omega
  unfold Lib.varintDec
  rw [hz, dec_u _ (by omega)]
  simp only [Lib.unzigzag]
  rw [if_pos (by omega)]; omega
/-- the bytes of L stand in f from o on -/
def At (f : Nat → Nat) (o : Nat) (L : List UInt8) : Prop := ∀ j, j < L.length → f (o + j) = (L.getD j 0).toNat
theorem At.uniq {f : Nat → Nat} {o p p' : Nat} (hp : p < 4611686018427387904) (hp' : p' < 4611686018427387904) (h : At f o (Lib.uvarint (Lib.zigzag (p : Int)))) (h' : At f o (Lib.uvarint (Lib.zigzag (p' : Int)))) : p = p' := by
  have key : ∀ (L M : List UInt8), L.length ≤ M.length → At f o L → At f o M → ∃ rest, M = L ++ rest := fun L M hl h h' => ⟨M.drop L.length, by
    apply List.ext_getElem?
    intro j
    rcases Nat.lt_or_ge j L.length with c | c
    · rw [List.getElem?_append_left c]
      have e := (h j c).symm.trans (h' j (by omega))
      rw [List.getD_eq_getElem?_getD, List.getD_eq_getElem?_getD, List.getElem?_eq_getElem c, List.getElem?_eq_getElem (by omega : j < M.length)] at e
      rw [List.getElem?_eq_getElem c, List.getElem?_eq_getElem (by omega : j < M.length)]
      simp only [Option.getD_some] at e
      rw [UInt8.toNat_inj.1 e]
    · rw [List.getElem?_append_right c, List.getElem?_drop]; congr 1; omega⟩
  rcases Nat.le_total (Lib.uvarint (Lib.zigzag (p : Int))).length (Lib.uvarint (Lib.zigzag (p' : Int))).length with c | c
  · obtain ⟨r, e⟩ := key _ _ c h h'
    have h1 := dec_v p hp r
    have h2 := dec_v p' hp' []
    rw [List.append_nil, e] at h2
    omega
  · obtain ⟨r, e⟩ := key _ _ c h' h
    have h1 := dec_v p' hp' r
    have h2 := dec_v p hp []
    rw [List.append_nil, e] at h2
    omega
/-- n bytes of B from o on, as a list -/
def bl (B : Nat → Nat) (o n : Nat) : List UInt8 := (List.range n).map fun j => (B (o + j)).toUInt8
theorem bl_len (B : Nat → Nat) (o n : Nat) : (bl B o n).length = n := by simp [bl]
theorem bl_get {B : Nat → Nat} {o n : Nat} (j : Nat) (hj : j < (bl B o n).length) (hB : B (o + j) < 256) : ((bl B o n)[j]).toNat = B (o + j) := by
  simp only [bl, List.getElem_map, List.getElem_range]; exact toU8 hB
theorem bl_pre {B : Nat → Nat} {o n : Nat} {L : List UInt8} (h : At B o L) (hn : L.length ≤ n) : ∃ rest, bl B o n = L ++ rest := ⟨(bl B o n).drop L.length, by
  apply List.ext_getElem?
  intro j
  rcases Nat.lt_or_ge j L.length with c | c
  · rw [List.getElem?_append_left c]
    unfold bl
    rw [List.getElem?_map, List.getElem?_range (by omega), List.getElem?_eq_getElem c]
    have e := h j c
    rw [List.getD_eq_getElem?_getD, List.getElem?_eq_getElem c] at e
    simp only [Option.getD_some] at e
    simp [e]
  · rw [List.getElem?_append_right c, List.getElem?_drop]; congr 1; omega⟩
theorem lay_lt {B : Nat → Nat} (h : ∀ i, B i < 256) (o : Nat) (L : List UInt8) (i : Nat) : lay B o L i < 256 := by
  unfold lay; split
  · exact (L.getD (i - o) 0).toNat_lt
  · exact h i
theorem lay_at (B : Nat → Nat) (o : Nat) (L : List UInt8) : At (lay B o L) o L := fun j hj => by
  unfold lay; rw [if_pos (by omega)]; congr 2; omega
/-- what the buffer holds when a chunk of i numbers is written -/
def outB (B d : Nat → Nat) (i : Nat) : Nat → Nat := lay (lay B 10 (enL d i)) 0 (Lib.uvarint (Lib.zigzag ((10 + (enL d i).length : Nat) : Int)))
/-- WHAT Write WRITES: l bytes f stand, the buffer holds B, k numbers d are to come; in the end l' bytes f' stand -/
inductive Wrote : Nat → (Nat → Nat) → (Nat → Nat) → (Nat → Nat) → Nat → Nat → (Nat → Nat) → Prop
  | done (l : Nat) (f B d : Nat → Nat) : Wrote l f B d 0 l f
  | more (l : Nat) (f B d : Nat → Nat) (k i l' : Nat) (f' : Nat → Nat) : 0 < k → Chunk d k i → Wrote (l + (10 + (enL d i).length)) (cat f l (outB B d i)) (outB B d i) (fun j => d (i + j)) (k - i) l' f' → Wrote l f B d k l' f'
theorem Chunk.pos1 {d : Nat → Nat} {k i : Nat} (h : Chunk d k i) (hk : 0 < k) : 0 < i := by
  rcases Nat.eq_zero_or_pos i with rfl | c
  · have := h.stop; simp only [enL, List.length_nil] at this; omega
  · exact c
theorem enL_congr {d e : Nat → Nat} : ∀ {k : Nat}, (∀ j, j < k → d j = e j) → enL d k = enL e k
  | 0, _ => rfl
  | k + 1, h => by simp only [enL]; rw [enL_congr (k := k) fun j hj => h j (by omega), h k (by omega)]
theorem Chunk.uniq {d e : Nat → Nat} {k i j : Nat} (h : Chunk d k i) (h' : Chunk e k j) (he : ∀ j, j < k → d j = e j) : i = j := by
  rcases Nat.lt_trichotomy i j with c | c | c
  · have h1 := h'.fit i c
    rw [← enL_congr (k := i) fun q hq => he q (by have := h.le; omega)] at h1
    have := h.stop; have := h'.le; omega
  · exact c
  · have h1 := h.fit j c
    rw [enL_congr (k := j) fun q hq => he q (by have := h'.le; omega)] at h1
    have := h'.stop; have := h.le; omega
theorem Wrote.uniq {l l1 l2 k : Nat} {f B d f1 f2 : Nat → Nat} (h : Wrote l f B d k l1 f1) : ∀ {g e : Nat → Nat}, Wrote l g B e k l2 f2 → (∀ j, j < k → d j = e j) → (∀ j, j < l → f j = g j) → l1 = l2 ∧ ∀ j, j < l1 → f1 j = f2 j := by
  induction h with
  | done l f B d => intro g e h' _ hf; cases h' with
    | done => exact ⟨rfl, hf⟩
    | more _ _ _ _ _ i _ _ h0 => exact absurd h0 (by omega)
  | more l f B d k i l' f' h0 hc _ ih =>
    intro g e h' hd hf
    cases h' with
    | done => exact absurd h0 (by omega)
    | more _ _ _ _ _ j _ _ _ hc' h' =>
      obtain rfl := hc.uniq hc' hd
      have e1 : enL e i = enL d i := (enL_congr fun q hq => hd q (by have := hc.le; omega)).symm
      have e2 : outB B e i = outB B d i := by unfold outB; rw [e1]
      rw [e1, e2] at h'
      refine ih h' (fun q hq => hd (i + q) (by omega)) (fun q hq => ?_)
      unfold cat; split
      · exact hf q (by assumption)
      · rfl
theorem Wrote.old {l l' k : Nat} {f B d f' : Nat → Nat} (h : Wrote l f B d k l' f') : l ≤ l' ∧ ∀ j, j < l → f' j = f j := by
  induction h with
  | done => exact ⟨Nat.le_refl _, fun _ _ => rfl⟩
  | more l f B d k i l' f' h0 hc _ ih =>
    refine ⟨by omega, fun j hj => ?_⟩
    rw [ih.2 j (by omega)]; unfold cat; rw [if_pos hj]
theorem outB_lt {B : Nat → Nat} (h : ∀ i, B i < 256) (d : Nat → Nat) (k i : Nat) : outB B d k i < 256 := lay_lt (lay_lt h _ _) _ _ _
theorem Wrote.lt {l l' k : Nat} {f B d f' : Nat → Nat} (h : Wrote l f B d k l' f') : (∀ i, B i < 256) → (∀ i, i < l → f i < 256) → ∀ i, i < l' → f' i < 256 := by
  induction h with
  | done => exact fun _ h => h
  | more l f B d k i l' f' h0 hc _ ih =>
    intro hB hf
    refine ih (outB_lt hB d i) (fun j hj => ?_)
    unfold cat; split
    · exact hf j (by assumption)
    · exact outB_lt hB d i _
theorem enL_len {d : Nat → Nat} : ∀ {k : Nat}, (∀ j, j < k → d j < 1073741824) → (enL d k).length ≤ 10 * k
  | 0, _ => by simp [enL]
  | k + 1, h => by
    simp only [enL, List.length_append]
    have h1 := enL_len (k := k) fun j hj => h j (by omega)
    have h2 := uvarint10 (d k) (by have := h k (by omega); omega)
    omega
theorem Wrote.len {l l' k : Nat} {f B d f' : Nat → Nat} (h : Wrote l f B d k l' f') : (∀ j, j < k → d j < 1073741824) → l' ≤ l + 20 * k := by
  induction h with
  | done => intro _; omega
  | more l f B d k i l' f' h0 hc _ ih =>
    intro hd
    have h1 := ih fun j hj => hd (i + j) (by omega)
    have h2 := enL_len (k := i) fun j hj => hd j (by have := hc.le; omega)
    have h3 := hc.pos1 h0
    have h4 := hc.le
    omega
/-- a stream of chunks, as it is read -/
inductive Strm (f : Nat → Nat) : Nat → (Nat → Nat) → Nat → Nat → Prop
  | done (o : Nat) (d : Nat → Nat) : Strm f o d 0 o
  | more (o : Nat) (d : Nat → Nat) (k i e : Nat) : 0 < k → Chunk d k i → At f o (Lib.uvarint (Lib.zigzag ((10 + (enL d i).length : Nat) : Int))) → At f (o + 10) (enL d i) → o + (10 + (enL d i).length) ≤ e → Strm f (o + (10 + (enL d i).length)) (fun j => d (i + j)) (k - i) e → Strm f o d k e
theorem Wrote.strm {l l' k : Nat} {f B d f' : Nat → Nat} (h : Wrote l f B d k l' f') (hd : ∀ j, j < k → d j < 1073741824) : Strm f' l d k l' := by
  induction h with
  | done l f B d => exact .done l d
  | more l f B d k i l' f' h0 hc hw ih =>
    have hm := uvarint10 (Lib.zigzag ((10 + (enL d i).length : Nat) : Int)) (by
      have h2 := enL_len (k := i) fun j hj => hd j (by have := hc.le; omega)
      have h3 := Chunk.pos (fun j hj => hd j (by have := hc.le; omega)) hc.fit
      unfold Lib.zigzag; split <;> omega)
    have ho := hw.old
    have hcat : ∀ j, j < 10 + (enL d i).length → f' (l + j) = outB B d i j := fun j hj => by
      rw [ho.2 (l + j) (by omega)]; unfold cat; rw [if_neg (by omega)]; congr 1; omega
    refine .more l d k i l' h0 hc (fun j hj => ?_) (fun j hj => ?_) ho.1 (ih fun j hj => hd (i + j) (by omega))
    · rw [hcat j (by omega)]
      have := lay_at (lay B 10 (enL d i)) 0 (Lib.uvarint (Lib.zigzag ((10 + (enL d i).length : Nat) : Int))) j hj
      rw [Nat.zero_add] at this; exact this
    · rw [Nat.add_assoc, hcat (10 + j) (by omega)]
      unfold outB
      have e : ∀ L, L.length ≤ 10 → lay (lay B 10 (enL d i)) 0 L (10 + j) = lay B 10 (enL d i) (10 + j) := fun L hL => by
        conv => lhs; unfold lay
        rw [if_neg (by omega)]; rfl
      rw [e _ hm]
      exact lay_at B 10 (enL d i) j hj
end Go.Proofs.YtpkgkppehefibaaGreatDoor
