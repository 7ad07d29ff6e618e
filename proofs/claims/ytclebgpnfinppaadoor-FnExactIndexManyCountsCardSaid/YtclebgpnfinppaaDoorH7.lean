/- The exact law over lists of byte strings: its helpers. -/
import Derived.Test.YtclebgpnfinppaaDoorH5
import Derived.Test.YtclebgpnfinppaaDoorH6
namespace Go.Proofs.YtclebgpnfinppaaDoor
open Go.RowKit Sa

set_option maxRecDepth 100000 in
/-- two lists of ints of one length -/
theorem eqint_any (A B : Option Addr) (n c d lo hi lo' hi' : Nat) (T U : Nat → Int) (w : World) (hn : n < 1073741824) (hA : Rd w lo hi A n (iv T)) (hB : Rd w lo' hi' B n (iv U)) (he : ∀ i, i < n → T i = U i) :
    Calls Tryd.prog 36 #[.slice A n c, .slice B n d] w fun e w' => e = .returned (.bool true) ∧ ∃ nq, w' = w.drewN nq := by
  have H1 := Lib.hid hA; have H2 := Lib.hid hB; have HE := Lib.hid he
  clear hA hB he
  go_enter Tryd.func36, Tryd.ntmps36
  go_wp2_with fail
  go_loopg [5] (n + 1) (fun gk i wr => (∃ k nq : Nat, k ≤ n ∧ i = .int .i64 k ∧ wr = w.drewN nq) ∧ n - (intOf i).toNat < gk)
  case atStart => exact ⟨⟨0, 0, by omega, rfl, rfl⟩, by simp [intOf]⟩
  case round =>
    obtain ⟨⟨k, nq0, hk, rfl, rfl⟩, hgk⟩ := hrel
    simp only [intOf, Int.toNat_natCast] at hgk
    by_cases hlt : k < n
    · obtain ⟨g, o, rfl, hg1, hg2, hg3⟩ := H1.out.c (by omega)
      obtain ⟨g', o', rfl, hg1', hg2', hg3'⟩ := H2.out.c (by omega)
      have hc1 := hg3 k hlt
      have hc2 := hg3' k hlt
      unfold iv at hc1 hc2
      rw [← HE.out k hlt] at hc2
      clear hg1 hg2 hg3 hg1' hg2' hg3' H1 H2 HE
      go_wp2
      go_quiet (fail)
      go_wp2
      go_roundg (n - (k + 1) + 1)
      case rel => exact ⟨⟨k + 1, _, by omega, by go_num, rfl⟩, by simp only [intOf]; omega⟩
      case measure => omega
    · obtain rfl : k = n := by omega
      go_wp2
      go_ret
      exact ⟨rfl, _, rfl⟩

set_option maxRecDepth 100000 in
/-- a list of ints gets the numbers from k0 on -/
theorem markint_any (A : Option Addr) (n c lo hi k0 : Nat) (f : Nat → Value) (w : World) (hn : n < 1073741824) (hk0 : k0 < 1073741824) (hA : Wr w lo hi A n f) (hf : ∀ i, i < n → ∃ x, f i = .int .i64 x) :
    Calls Tryd.prog 39 #[.slice A n c, .int .i64 k0] w fun e w' => e = .returned (.int .i64 ((k0 + n : Nat) : Int)) ∧ Wr w' lo hi A n (iv fun i => ((k0 + i : Nat) : Int)) ∧ Chg (fun b _ => lo ≤ b ∧ b < hi) w w' := by
  have hs : Hid (Wr w lo hi A n (fun j => if j < 0 then iv (fun i => ((k0 + i : Nat) : Int)) j else f j)) := hA.congr (fun i _ => by simp)
  have HF := Lib.hid hf
  clear hA hf
  go_enter Tryd.func39, Tryd.ntmps39
  go_wp2_with fail
  go_loopg [1, 5] (n + 1) (fun gk kv i wr => (∃ k : Nat, k ≤ n ∧ i = .int .i64 k ∧ kv = .int .i64 ((k0 + k : Nat) : Int) ∧ Wr wr lo hi A n (fun j => if j < k then iv (fun i => ((k0 + i : Nat) : Int)) j else f j) ∧ Chg (fun b _ => lo ≤ b ∧ b < hi) w wr) ∧ n - (intOf i).toNat < gk)
  case atStart => exact ⟨⟨0, by omega, rfl, by simp, hs.out, Chg.refl _ _⟩, by simp [intOf]⟩
  case round =>
    clear hs
    obtain ⟨⟨k, hk, rfl, rfl, hwr, hch⟩, hgk⟩ := hrel
    simp only [intOf, Int.toNat_natCast] at hgk
    by_cases hlt : k < n
    · obtain ⟨g, o, rfl, hg1, hg2, hg3⟩ := hwr.c (by omega)
      have hc1 := hg3 k hlt
      simp only [Nat.lt_irrefl, if_false] at hc1
      obtain ⟨x, hx⟩ := HF.out k hlt
      rw [hx] at hc1
      have hz1 := hwr.z _ _ rfl k hlt
      have HW := Lib.hid hwr; have HC := Lib.hid hch
      have HG1 := Lib.hid hg1; have HG2 := Lib.hid hg2
      clear hwr hch hg1 hg2 hg3 hx
      go_wp2
      go_roundg (n - (k + 1) + 1)
      case rel =>
        refine ⟨⟨k + 1, by omega, by go_num, by go_num, ?_, HC.out.setCell (fun _ => ⟨HG1.out, HG2.out⟩) _⟩, by simp only [intOf]; omega⟩
        have := HW.out.set hlt (iv (fun i => ((k0 + i : Nat) : Int)) k)
        refine this.congr fun j _ => ?_
        unfold updV
        by_cases c : j = k
        · subst c; simp
        · by_cases c' : j < k
          · simp only [if_neg c, if_pos c', if_pos (show j < k + 1 by omega)]
          · simp only [if_neg c, if_neg c', if_neg (show ¬ j < k + 1 by omega)]
      case measure => omega
    · obtain rfl : k = n := by omega
      have HW := Lib.hid hwr; have HC := Lib.hid hch
      clear hwr hch
      go_wp2
      go_ret
      exact ⟨rfl, HW.out.congr fun i hi => by rw [if_pos hi], HC.out⟩

set_option maxRecDepth 100000 in
/-- .. and holds them -/
theorem heldint_any (A : Option Addr) (n c lo hi k0 : Nat) (w : World) (hn : n < 1073741824) (hk0 : k0 < 1073741824) (hA : Rd w lo hi A n (iv fun i => ((k0 + i : Nat) : Int))) :
    Calls Tryd.prog 40 #[.slice A n c, .int .i64 k0] w fun e w' => e = .returned (.int .i64 ((k0 + n : Nat) : Int)) ∧ w = w' := by
  have H1 := Lib.hid hA
  clear hA
  go_enter Tryd.func40, Tryd.ntmps40
  go_wp2_with fail
  go_loopg [1, 5] (n + 1) (fun gk kv i wr => (∃ k : Nat, k ≤ n ∧ i = .int .i64 k ∧ kv = .int .i64 ((k0 + k : Nat) : Int) ∧ wr = w) ∧ n - (intOf i).toNat < gk)
  case atStart => exact ⟨⟨0, by omega, rfl, by simp, rfl⟩, by simp [intOf]⟩
  case round =>
    obtain ⟨⟨k, hk, rfl, rfl, rfl⟩, hgk⟩ := hrel
    simp only [intOf, Int.toNat_natCast] at hgk
    by_cases hlt : k < n
    · obtain ⟨g, o, rfl, hg1, hg2, hg3⟩ := H1.out.c (by omega)
      have hc1 := hg3 k hlt
      unfold iv at hc1
      clear hg1 hg2 hg3 H1
      go_wp2
      go_roundg (n - (k + 1) + 1)
      case rel => exact ⟨⟨k + 1, by omega, by go_num, by go_num, rfl⟩, by simp only [intOf]; omega⟩
      case measure => omega
    · obtain rfl : k = n := by omega
      go_wp2
      go_ret
      exact ⟨rfl, rfl⟩

set_option maxRecDepth 100000 in
theorem szByteS_any (A : Option Addr) (n c : Nat) (left : Int) (w : World) (hn : n < 9223372036854775808) (h0 : 0 ≤ left) (h1 : left ≤ 1048576) :
    Calls Tryd.prog 53 #[.slice A n c, .int .i64 left] w fun e w' => e = .returned (.int .i64 (if (n : Int) ≤ left then left - n else -1)) ∧ w' = w := by
  by_cases h : (n : Int) ≤ left
  · rw [if_pos h]
    have h2 : ¬ left - (n : Int) < 0 := by omega
    go_enter Tryd.func53, Tryd.ntmps53
    go_wp2
    go_ret
    exact ⟨rfl, rfl⟩
  · rw [if_neg h]
    have h2 : left - (n : Int) < 0 := by omega
    go_enter Tryd.func53, Tryd.ntmps53
    go_wp2
    go_ret
    exact ⟨rfl, rfl⟩
set_option maxRecDepth 100000 in
/-- how much is left of 2^20 behind a list: negative, or all is small -/
theorem szByteSS_any (A : Option Addr) (n c : Nat) (B : Nat → Option Addr) (m e : Nat → Nat) (w : World) (hn : n < 9223372036854775808) (h : R0 w A n (fun j => .slice (B j) (m j) (e j))) (hm : ∀ j, j < n → m j < 9223372036854775808) :
    Calls Tryd.prog 32 #[.slice A n c, .int .i64 1048576] w fun e w' => ∃ r : Int, e = .returned (.int .i64 r) ∧ -1 ≤ r ∧ r ≤ 1048576 ∧ (0 ≤ r → n + sumN m n ≤ 1048576) ∧ w' = w := by
  have H := Lib.hid h; have HM := Lib.hid hm
  clear h hm
  by_cases hbig : 1048576 < n
  · have h2 : (1048576 : Int) - (n : Int) < 0 := by omega
    clear H HM
    go_enter Tryd.func32, Tryd.ntmps32
    go_wp2
    go_ret
    exact ⟨-1, rfl, by omega, by omega, fun h => by omega, rfl⟩
  have h2 : ¬ (1048576 : Int) - (n : Int) < 0 := by omega
  go_enter Tryd.func32, Tryd.ntmps32
  go_wp2_with fail
  go_loopg [1, 5] (n + 1) (fun gk lv' i wr => (∃ (t : Nat) (l : Int), t ≤ n ∧ i = .int .i64 t ∧ lv' = .int .i64 l ∧ 0 ≤ l ∧ l ≤ 1048576 ∧ l = 1048576 - (n : Int) - ((sumN m t : Nat) : Int) ∧ wr = w) ∧ n - (intOf i).toNat < gk)
  case atStart => exact ⟨⟨0, (1048576 : Int) - (n : Int), by omega, rfl, by first | rfl | go_num, by omega, by omega, by simp [sumN], rfl⟩, by simp [intOf]⟩
  case round =>
    obtain ⟨⟨t, l, ht, rfl, rfl, hl0, hl1, hall, rfl⟩, hgk⟩ := hrel
    simp only [intOf, Int.toNat_natCast] at hgk
    have HA := Lib.hid hall
    clear hall
    by_cases hlt : t < n
    · obtain ⟨g, o, rfl, _, _, hg3⟩ := Rd.c H.out (by omega)
      have hc1 := hg3 t hlt
      clear hg3 H
      have hmt := HM.out t hlt
      go_wp2_with fail
      refine (szByteS_any (B t) (m t) (e t) l wr hmt hl0 hl1).mono ?_
      rintro _ _ ⟨rfl, rfl⟩
      by_cases hfit : (m t : Int) ≤ l
      · rw [if_pos hfit]
        have h3 : ¬ l - (m t : Int) < 0 := by omega
        go_wp2
        go_roundg (n - (t + 1) + 1)
        case rel => exact ⟨⟨t + 1, l - (m t : Int), by omega, by go_num, by first | rfl | go_num, by omega, by omega, by have h5 := HA.out; have h6 : sumN m (t + 1) = sumN m t + m t := rfl; omega, rfl⟩, by simp only [intOf]; omega⟩
        case measure => omega
      · rw [if_neg hfit]
        go_wp2
        go_ret
        exact ⟨-1, rfl, by omega, by omega, fun h => by omega, rfl⟩
    · obtain rfl : t = n := by omega
      go_wp2
      go_ret
      exact ⟨l, rfl, by omega, by omega, fun _ => by have := HA.out; omega, rfl⟩

/-- a list of byte strings that can be written: the row in block lo, its elements behind it, below hi, one behind the other -/
structure Wss (w : World) (lo hi : Nat) (A : Option Addr) (n : Nat) (B : Nat → Option Addr) (m e : Nat → Nat) (S : Nat → Nat → Nat) (p : Nat → Nat) : Prop where
  row : Wr w lo (lo + 1) A n (fun j => .slice (B j) (m j) (e j))
  p0 : lo + 1 ≤ p 0
  mo : ∀ j, j < n → p j ≤ p (j + 1)
  ph : p n ≤ hi
  el : ∀ j, j < n → Wr w (p j) (p (j + 1)) (B j) (m j) (bv (S j)) ∧ m j ≤ e j
theorem chain_le {p : Nat → Nat} {n : Nat} (h : ∀ j, j < n → p j ≤ p (j + 1)) : ∀ i j, i ≤ j → j ≤ n → p i ≤ p j := by
  intro i j hij hj
  induction j with
  | zero => rw [show i = 0 by omega]; exact Nat.le_refl _
  | succ j ih =>
    rcases Nat.lt_or_ge i (j + 1) with c | c
    · exact Nat.le_trans (ih (by omega) (by omega)) (h j (by omega))
    · rw [show i = j + 1 by omega]; exact Nat.le_refl _
section
variable {w w' : World} {lo hi n : Nat} {A : Option Addr} {B : Nat → Option Addr} {m e : Nat → Nat} {S : Nat → Nat → Nat} {p : Nat → Nat}
theorem Wss.inn (h : Wss w lo hi A n B m e S p) {j : Nat} (hj : j < n) : lo + 1 ≤ p j ∧ p (j + 1) ≤ hi :=
  ⟨Nat.le_trans h.p0 (chain_le h.mo 0 j (by omega) (by omega)), Nat.le_trans (chain_le h.mo (j + 1) n (by omega) (Nat.le_refl _)) h.ph⟩
theorem Wss.below (h : Wss w lo hi A n B m e S p) {C : Nat} (hb : Below C w w') (h1 : hi ≤ C) (h2 : lo + 1 ≤ C) : Wss w' lo hi A n B m e S p :=
  ⟨h.row.below hb h2, h.p0, h.mo, h.ph, fun j hj => ⟨(h.el j hj).1.below hb (by have := (h.inn hj).2; omega), (h.el j hj).2⟩⟩
theorem Wss.chg {P : Nat → Nat → Prop} (h : Wss w lo hi A n B m e S p) (h1 : hi ≤ w.heap.size) (h2 : lo + 1 ≤ w.heap.size) (hc : Chg P w w') (hP : ∀ b o, lo ≤ b → b < max hi (lo + 1) → ¬ P b o) : Wss w' lo hi A n B m e S p :=
  ⟨h.row.chg h2 hc (fun b o a1 a2 => hP b o a1 (by omega)), h.p0, h.mo, h.ph, fun j hj => ⟨(h.el j hj).1.chg (by have := (h.inn hj).2; omega) hc (fun b o a1 a2 => hP b o (by have := (h.inn hj).1; omega) (by have := (h.inn hj).2; omega)), (h.el j hj).2⟩⟩
/-- read from anywhere -/
theorem Wss.bss {c : Nat} (h : Wss w lo hi A n B m e S p) (h1 : hi ≤ w.heap.size) (h2 : lo + 1 ≤ w.heap.size) (hS : ∀ j, j < n → ∀ i, i < m j → S j i < 256) (hm : ∀ j, j < n → m j < 1073741824) (hc : n ≤ c) (hn : n < 1073741824) : Bss w A n c B m e S :=
  ⟨h.row.toRd.mono (Nat.zero_le _) h2, fun j hj => ⟨(h.el j hj).1.toRd.mono (Nat.zero_le _) (by have := (h.inn hj).2; omega), hS j hj, (h.el j hj).2, hm j hj⟩, hc, hn⟩
end
/-- make([][]byte, k) -/
theorem run_makeSB (k : Nat) (hk : k < 1073741824) (w : World) : (Instr.makeSlice 39 (.int .i64 (k : Int)) (.int .i64 (k : Int))).run Tryd.prog w = .ok (.slice (some ⟨w.heap.size, 0, none⟩) k k) (w.alloc (.cells (madeCells #[.slice none 0 0] k) 22)) := by
  obtain ⟨i0, hi, hz0, hz1, hz2⟩ := info_parts infoSB
  have hr := run_make (P := Tryd.prog) w 39 22 i0 (.slice none 0 0) Tryd.underlying39 hi hz0 .i64 .i64 k k (by omega) (by omega) (by rw [hz2]; omega) (by omega)
  simp only [Int.toNat_natCast, hz1, Nat.mul_one] at hr
  exact hr
set_option maxHeartbeats 1000000 in
set_option maxRecDepth 100000 in
/-- a copy of a list of byte strings -/
theorem toByteSS_any {L : Option Addr} {nl cl : Nat} {B : Nat → Option Addr} {m e : Nat → Nat} {S : Nat → Nat → Nat} {w : World} (h' : Bss w L nl cl B m e S) :
    Calls Tryd.prog 34 #[.slice L nl cl] w fun e w' => ∃ B' e' p, e = .returned (.slice (some ⟨w.heap.size, 0, none⟩) nl nl) ∧ Wss w' w.heap.size w'.heap.size (some ⟨w.heap.size, 0, none⟩) nl B' m e' S p ∧ w.heap.size + 1 ≤ w'.heap.size ∧ Le w w' := by
  have hn := h'.sm
  have hmk : ∀ W, (Instr.makeSlice 39 (.int .i64 (nl : Int)) (.int .i64 (nl : Int))).run Tryd.prog W = .ok (.slice (some ⟨W.heap.size, 0, none⟩) nl nl) (W.alloc (.cells (madeCells #[.slice none 0 0] nl) 22)) := fun W => run_makeSB nl hn W
  have H' := Lib.hid h'
  have h0 : Hid (Wr (w.alloc (.cells (madeCells #[.slice none 0 0] nl) 22)) w.heap.size (w.heap.size + 1) (some ⟨w.heap.size, 0, none⟩) nl (fun j => if j < 0 then .slice none (m j) 0 else .slice none 0 0)) := (wr_made w nl _ _).congr (fun i _ => by simp)
  have HB : Hid (Below w.heap.size w (w.alloc (.cells (madeCells #[.slice none 0 0] nl) 22))) := (Below.refl _ _).alloc (Nat.le_refl _) _
  clear h'
  go_enter Tryd.func34, Tryd.ntmps34
  go_wp2_with fail
  go_loopg [4] (nl + 1) (fun gk i wr => (∃ (t : Nat) (B' : Nat → Option Addr) (e' p : Nat → Nat), t ≤ nl ∧ i = .int .i64 t ∧ w.heap.size + 1 ≤ wr.heap.size ∧ Wr wr w.heap.size (w.heap.size + 1) (some ⟨w.heap.size, 0, none⟩) nl (fun j => if j < t then .slice (B' j) (m j) (e' j) else .slice none 0 0) ∧
    w.heap.size + 1 ≤ p 0 ∧ (∀ j, j < t → p j ≤ p (j + 1)) ∧ p t ≤ wr.heap.size ∧ (∀ j, j < t → Wr wr (p j) (p (j + 1)) (B' j) (m j) (bv (S j)) ∧ m j ≤ e' j) ∧ Below w.heap.size w wr) ∧ nl - (intOf i).toNat < gk)
  case atStart => exact ⟨⟨0, fun _ => none, fun _ => 0, fun _ => w.heap.size + 1, by omega, rfl, by simp, h0.out.congr (fun j _ => by simp), Nat.le_refl _, fun j hj => by omega, by simp, fun j hj => by omega, HB.out⟩, by simp [intOf]⟩
  case round =>
    clear h0 HB hmk
    obtain ⟨⟨t, B', e', p, ht, rfl, hsz, hwr, hp0, hmo, hph, hel, hbl⟩, hgk⟩ := hrel
    simp only [intOf, Int.toNat_natCast] at hgk
    have HS := Lib.hid hsz; have HW := Lib.hid hwr; have HP0 := Lib.hid hp0; have HMO := Lib.hid hmo; have HPH := Lib.hid hph; have HEL := Lib.hid hel; have HB := Lib.hid hbl
    clear hsz hwr hp0 hmo hph hel hbl
    by_cases hlt : t < nl
    · obtain ⟨g, o, rfl, _, _, hg3⟩ := Rd.c (Rd.below H'.out.rd HB.out (Nat.le_refl _)) (by omega)
      have hc1 := hg3 t hlt
      clear hg3
      have helt := H'.out.el t hlt
      have HELT := Lib.hid helt
      have hms := helt.sm
      clear helt
      go_wp2_with fail
      refine (tobyte_any (B t) (m t) (e t) 0 _ (S t) wr hms HB.out.size (Rd.below HELT.out.rd HB.out (Nat.le_refl _))).mono ?_
      rintro _ w1 ⟨A1, c1, rfl, hc, hw1, hb1⟩
      have HW1 := Lib.hid (HW.out.below hb1 HS.out)
      have hc2 := HW1.out.at_ hlt
      have hz2 := HW1.out.z _ _ rfl t hlt
      simp only [Nat.lt_irrefl, if_false, Nat.zero_add] at hc2 hz2
      have HC := Lib.hid hc; have HWN := Lib.hid hw1; have HB1 := Lib.hid hb1
      clear hc hw1 hb1
      go_wp2
      go_roundg (nl - (t + 1) + 1)
      case rel =>
        refine ⟨⟨t + 1, fun j => if j = t then A1 else B' j, fun j => if j = t then c1 else e' j, fun j => if j ≤ t then p j else w1.heap.size, by omega, by go_num, ?_, ?_, ?_, ?_, ?_, ?_, ?_⟩, by simp only [intOf]; omega⟩
        · have := HS.out; have := HB1.out.size; simpa [World.setCell] using (by omega : w.heap.size + 1 ≤ w1.heap.size)
        · have := HW1.out.set hlt (.slice A1 (m t) c1)
          rw [Nat.zero_add] at this
          refine this.congr fun j _ => ?_
          unfold updV
          by_cases c : j = t
          · subst c; simp
          · by_cases c' : j < t
            · simp only [if_neg c, if_pos c', if_pos (show j < t + 1 by omega)]
            · simp only [if_neg c, if_neg c', if_neg (show ¬ j < t + 1 by omega)]
        · simp only [Nat.zero_le, if_true]; exact HP0.out
        · intro j hj
          by_cases c : j + 1 ≤ t
          · simp only [if_pos (show j ≤ t by omega), if_pos c]; exact HMO.out j (by omega)
          · simp only [if_pos (show j ≤ t by omega), if_neg c]
            rw [show j = t by omega]
            exact Nat.le_trans HPH.out HB1.out.size
        · simp only [if_neg (show ¬ t + 1 ≤ t by omega)]
          simp [World.setCell]
        · intro j hj
          have hset : Chg (fun b _ => b = w.heap.size) w1 (w1.setCell ⟨w.heap.size, t, none⟩ (.slice A1 (m t) c1)) := Chg.setCell (S := fun b _ => b = w.heap.size) (Chg.refl _ _) (fun _ => rfl) _
          by_cases c : j = t
          · subst c
            simp only [if_true, if_pos (Nat.le_refl j), if_neg (show ¬ j + 1 ≤ j by omega)]
            refine ⟨(HWN.out.chg (Nat.le_refl _) hset (fun b o h1 h2 h3 => by have := HS.out; omega)).mono HPH.out (Nat.le_refl _), HC.out⟩
          · have hjt : j < t := by omega
            simp only [if_neg c, if_pos (show j ≤ t by omega), if_pos (show j + 1 ≤ t by omega)]
            obtain ⟨h5, h6⟩ := HEL.out j hjt
            have hle : p (j + 1) ≤ wr.heap.size := Nat.le_trans (chain_le HMO.out (j + 1) t (by omega) (Nat.le_refl _)) HPH.out
            have hge : w.heap.size + 1 ≤ p j := Nat.le_trans HP0.out (chain_le HMO.out 0 j (by omega) (by omega))
            exact ⟨(h5.below HB1.out hle).chg (Nat.le_trans hle HB1.out.size) hset (fun b o h1 h2 h3 => by omega), h6⟩
        · exact (HB.out.trans (HB1.out.mono (by have := HS.out; omega))).setCell (Nat.le_refl _) _
      case measure => omega
    · obtain rfl : nl = t := by omega
      go_wp2
      go_ret
      refine ⟨B', e', p, rfl, ⟨HW.out.congr (fun j hj => by rw [if_pos hj]), HP0.out, HMO.out, HPH.out, HEL.out⟩, HS.out, HB.out⟩
set_option maxRecDepth 100000 in
theorem eqByteSS_any {A A' : Option Addr} {n c c' : Nat} {B B' : Nat → Option Addr} {m e e' : Nat → Nat} {S : Nat → Nat → Nat} {w : World} (h : Bss w A n c B m e S) (h' : Bss w A' n c' B' m e' S) :
    Calls Tryd.prog 37 #[.slice A n c, .slice A' n c'] w fun e w' => e = .returned (.bool true) ∧ Le w w' := by
  have H := Lib.hid h; have H' := Lib.hid h'
  have hn := h.sm
  clear h h'
  go_enter Tryd.func37, Tryd.ntmps37
  go_wp2_with fail
  go_loopg [5] (n + 1) (fun gk i wr => (∃ t : Nat, t ≤ n ∧ i = .int .i64 t ∧ Le w wr) ∧ n - (intOf i).toNat < gk)
  case atStart => exact ⟨⟨0, by omega, rfl, Le.refl _⟩, by simp [intOf]⟩
  case round =>
    obtain ⟨⟨t, ht, rfl, hl⟩, hgk⟩ := hrel
    simp only [intOf, Int.toNat_natCast] at hgk
    have HL := Lib.hid hl
    clear hl
    by_cases hlt : t < n
    · have e1 := (H.out.le HL.out).el t hlt
      have e2 := (H'.out.le HL.out).el t hlt
      have hcl := fun k => eqbyte_any (B t) (B' t) (m t) (e t) (e' t) 0 _ 0 _ (S t) (S t) (wr.drewN k) e1.sm (Rd.drewN e1.rd k) (Rd.drewN e2.rd k) (fun _ _ => rfl)
      have HCL := Lib.hid hcl
      clear hcl e1 e2
      obtain ⟨g, o, rfl, _, _, hg3⟩ := Rd.c (H.out.le HL.out).rd (by omega)
      obtain ⟨g', o', rfl, _, _, hg3'⟩ := Rd.c (H'.out.le HL.out).rd (by omega)
      have hc1 := hg3 t hlt
      have hc2 := hg3' t hlt
      clear hg3 hg3'
      go_wp2_with fail
      go_quiet ((go_at_call 28; exact Calls.quiet_of (HCL.out _)))
      go_wp2
      go_roundg (n - (t + 1) + 1)
      case rel => exact ⟨⟨t + 1, by omega, by go_num, HL.out.trans (Le.drew _ _)⟩, by simp only [intOf]; omega⟩
      case measure => omega
    · obtain rfl : t = n := by omega
      go_wp2
      go_ret
      exact ⟨rfl, HL.out⟩
set_option maxRecDepth 100000 in
/-- every byte of a list gets a mark -/
theorem markByteSS_any {A : Option Addr} {n c lo hi k0 : Nat} {B : Nat → Option Addr} {m e : Nat → Nat} {S : Nat → Nat → Nat} {p : Nat → Nat} {w : World} (hn : n ≤ 1048576) (hm : ∀ j, j < n → m j ≤ 1048576) (hs : sumN m n ≤ 1048576) (hk0 : k0 ≤ 1048577) (h : Wss w lo hi A n B m e S p) (h1 : hi ≤ w.heap.size) (h2 : lo + 1 ≤ w.heap.size) :
    Calls Tryd.prog 38 #[.slice A n c, .int .i64 (k0 : Int)] w fun e w' => e = .returned (.int .i64 ((k0 + sumN m n : Nat) : Int)) ∧ Chg (fun b _ => lo + 1 ≤ b ∧ b < hi) w w' := by
  have H := Lib.hid h; have HM := Lib.hid hm
  have hss : ∀ t, t ≤ n → sumN m t ≤ 1048576 := fun t ht => Nat.le_trans (sumN_mono ht) hs
  have HSS := Lib.hid hss
  clear h hm hss
  go_enter Tryd.func38, Tryd.ntmps38
  go_wp2_with fail
  go_loopg [1, 5] (n + 1) (fun gk kv i wr => (∃ t : Nat, t ≤ n ∧ i = .int .i64 t ∧ kv = .int .i64 ((k0 + sumN m t : Nat) : Int) ∧ Chg (fun b _ => lo + 1 ≤ b ∧ b < p t) w wr) ∧ n - (intOf i).toNat < gk)
  case atStart => exact ⟨⟨0, by omega, rfl, by simp [sumN], Chg.refl _ _⟩, by simp [intOf]⟩
  case round =>
    obtain ⟨⟨t, ht, rfl, rfl, hch⟩, hgk⟩ := hrel
    simp only [intOf, Int.toNat_natCast] at hgk
    have HC := Lib.hid hch
    clear hch
    have hst := HSS.out t ht
    by_cases hlt : t < n
    · have hst1 := HSS.out (t + 1) (by omega)
      have hsu : sumN m (t + 1) = sumN m t + m t := rfl
      have hmt := HM.out t hlt
      have hrow := H.out.row.chg h2 HC.out (fun b o a1 a2 a3 => by omega)
      obtain ⟨g, o, rfl, _, _, hg3⟩ := hrow.c (by omega)
      have hc1 := hg3 t hlt
      obtain ⟨i1, i2⟩ := H.out.inn hlt
      have hel := (H.out.el t hlt).1.chg (by omega) HC.out (fun b o a1 a2 a3 => by omega)
      have HELT := Lib.hid hel
      have HMO := Lib.hid (H.out.mo t hlt)
      have HI1 := Lib.hid i1
      have HSU := Lib.hid hsu
      clear hg3 hrow hel i1 i2 hsu
      go_wp2_with fail
      have hk1 : k0 + sumN m t < 1073741824 := by omega
      generalize hx : sumN m t = x at *
      have HXX := Lib.hid hx
      clear hx
      first
        | refine (markbyte_any (B t) (m t) (e t) _ _ (k0 + x) _ wr (by omega) hk1 HELT.out (fun i _ => ⟨_, rfl⟩)).mono ?_
        | (rw [← Int.natCast_add]; refine (markbyte_any (B t) (m t) (e t) _ _ (k0 + x) _ wr (by omega) hk1 HELT.out (fun i _ => ⟨_, rfl⟩)).mono ?_)
      rintro _ w1 ⟨rfl, _, hch1⟩
      have HC1 := Lib.hid hch1
      clear hch1
      go_wp2
      go_roundg (n - (t + 1) + 1)
      case rel => exact ⟨⟨t + 1, by omega, by go_num, by rw [HSU.out]; congr 1; omega, (HC.out.mono (fun b o _ a => ⟨a.1, by have := HMO.out; omega⟩)).trans (HC1.out.mono (fun b o _ a => ⟨by have := HI1.out; omega, a.2⟩))⟩, by simp only [intOf]; omega⟩
      case measure => omega
    · obtain rfl : n = t := by omega
      go_wp2
      go_ret
      exact ⟨by first | rfl | (congr 2), HC.out.mono (fun b o _ a => ⟨a.1, by have := H.out.ph; omega⟩)⟩
set_option maxHeartbeats 1000000 in
set_option maxRecDepth 100000 in
/-- spec.IndexManyCounts -/
theorem specManyCounts_any {A : Option Addr} {n c : Nat} {T : Nat → Nat} {L : Option Addr} {nl cl : Nat} {B : Nat → Option Addr} {m e : Nat → Nat} {S : Nat → Nat → Nat} {w : World} (h : Bs w A n c T) (h' : Bss w L nl cl B m e S) (hnl : nl < 1048577) :
    Calls Tryd.prog 33 #[.slice A n c, .slice L nl cl] w fun e w' => ∃ A' c', e = .returned (.slice A' nl c') ∧ nl ≤ c' ∧ Wr w' w.heap.size w'.heap.size A' nl (iv fun j => (occ T n (S j) (m j) n : Nat)) ∧ Le w w' := by
  have H := Lib.hid h; have H' := Lib.hid h'
  have hn := h.sm
  clear h h'
  go_enter Tryd.func33, Tryd.ntmps33
  go_wp2_with fail
  go_loopg [5, 10] (nl + 1) (fun gk ov iv wr => (∃ (t : Nat), t ≤ nl ∧ iv = .int .i64 (t : Int) ∧ wr.ownsRow w.heap.size 3 1 ov t ((List.range t).map (Go.Proofs.YtclebgpnfinppaaDoor.iv fun j => (occ T n (S j) (m j) n : Nat))) ∧ Below w.heap.size w wr) ∧ nl - (intOf iv).toNat < gk)
  case atStart => exact ⟨⟨0, by omega, rfl, nil_own w _ _, Below.refl _ _⟩, by simp [intOf]⟩
  case round =>
    obtain ⟨⟨t, ht, rfl, hrow, hbl⟩, hgk⟩ := hrel
    simp only [intOf, Int.toNat_natCast] at hgk
    have HR := Lib.hid hrow; have HB := Lib.hid hbl
    clear hrow hbl
    by_cases hlt : t < nl
    · obtain ⟨g, o, rfl, _, _, hg3⟩ := Rd.c (Rd.below H'.out.rd HB.out (Nat.le_refl _)) (by omega)
      have hc1 := hg3 t hlt
      clear hg3
      have HEL := Lib.hid (H'.out.el t hlt)
      go_wp2_with fail
      refine (occurrences0 (H.out.le HB.out) (HEL.out.le HB.out)).mono ?_
      rintro _ w3 ⟨A3, c3, rfl, hb3⟩
      have hol : occ T n (S t) (m t) n ≤ n := occ_le
      have HR3 := Lib.hid (own_le HR.out hb3)
      have HB3 : Hid (Below w.heap.size w w3) := Lib.hid (HB.out.trans (Below.mono hb3 HB.out.size))
      clear hb3 HR HB
      obtain ⟨v', w5, hr, ho5, hb5⟩ := appendOneI w3 w.heap.size u5 t _ HR3.out (by omega) HB3.out.size ((occ T n (S t) (m t) n : Nat) : Int)
      have hl : (List.range t).map (Go.Proofs.YtclebgpnfinppaaDoor.iv fun j => ((occ T n (S j) (m j) n : Nat) : Int)) ++ [.int .i64 ((occ T n (S t) (m t) n : Nat) : Int)] = (List.range (t + 1)).map (Go.Proofs.YtclebgpnfinppaaDoor.iv fun j => ((occ T n (S j) (m j) n : Nat) : Int)) := by
        rw [List.range_succ, List.map_append, List.map_singleton]; rfl
      rw [hl] at ho5
      have HRUN := Lib.hid hr
      have HR5 := Lib.hid ho5
      have HB5 := Lib.hid (HB3.out.trans hb5)
      clear hr ho5 hb5 hl HR3 HB3
      go_wp2_with (at_builtin; refine wpList_append_run rfl rfl rfl rfl HRUN.out ?_)
      go_roundg (nl - (t + 1) + 1)
      case rel => exact ⟨⟨t + 1, by omega, by go_num, HR5.out, HB5.out⟩, by simp only [intOf]; omega⟩
      case measure => omega
    · obtain rfl : nl = t := by omega
      obtain ⟨A', c', he, h3, h4⟩ := Wr.of_own (f := Go.Proofs.YtclebgpnfinppaaDoor.iv fun j => ((occ T n (S j) (m j) n : Nat) : Int)) HR.out map_range
      have H4 := Lib.hid h4; have HE := Lib.hid he; have H3 := Lib.hid h3
      clear h3 h4 he
      go_wp2
      go_ret
      exact ⟨A', c', congrArg Ending.returned HE.out, H3.out, H4.out, HB.out⟩
theorem le_sumN {m : Nat → Nat} {n j : Nat} (h : j < n) : m j ≤ sumN m n := by
  have h1 := sumN_mono (f := m) (j := j + 1) (k := n) (by omega)
  have h2 : sumN m (j + 1) = sumN m j + m j := rfl
  omega
/-- a list of byte strings that came in, of whatever size -/
structure Bsq (w : World) (A : Option Addr) (n c : Nat) (B : Nat → Option Addr) (m e : Nat → Nat) (S : Nat → Nat → Nat) : Prop where
  rd : R0 w A n (fun j => .slice (B j) (m j) (e j))
  el : ∀ j, j < n → Bq w (B j) (m j) (e j) (S j)
  nc : n ≤ c
  sz : n < 9223372036854775808
end Go.Proofs.YtclebgpnfinppaaDoor
