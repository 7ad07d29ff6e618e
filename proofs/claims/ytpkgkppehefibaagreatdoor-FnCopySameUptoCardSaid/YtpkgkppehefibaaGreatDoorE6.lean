/- Lookup. -/
import Derived.Test.YtpkgkppehefibaaGreatDoorE5
namespace Go.Proofs.YtpkgkppehefibaaGreatDoor
open Go.RowKit Sa

/-- WHAT Lookup FINDS: of the suffix array d the places r .. r + q; k of them are handed out -/
structure Found (T : Nat → Nat) (n : Nat) (S : Nat → Nat) (m : Nat) (d : Nat → Nat) (N : Int) (r q k : Nat) : Prop where
  le : r + q ≤ n
  iff : ∀ j, j < n → ((0 < m ∧ stands T n S m (d j)) ↔ r ≤ j ∧ j < r + q)
  k : k = if N < 0 ∨ (q : Int) < N then q else N.toNat
theorem found_zero {T S d : Nat → Nat} {n : Nat} {N : Int} : Found T n S 0 d N 0 0 0 := ⟨by omega, fun j _ => by simp, by split <;> omega⟩
theorem range_exists {T S d : Nat → Nat} {n m : Nat} (h : IsSA T n d) : ∃ r q, r + q ≤ n ∧ ∀ j, j < n → (stands T n S m (d j) ↔ r ≤ j ∧ j < r + q) := by
  obtain ⟨r, hr⟩ := First.exists (fun k => decide (¬ suf T n (d k) < suf S m 0)) n
  obtain ⟨q, hq⟩ := First.exists (fun k => !decide (stands T n S m (d (r + k)))) (n - r)
  have h1 := hr.le
  have h2 := hq.le
  exact ⟨r, q, by omega, range_found h (by omega) (fun h => by have := hr.low h; simpa using this) (fun h => by have := hr.at_ h; simpa using this) (by omega) (fun h => by have := hq.low h; simpa using this) (fun h => by have := hq.at_ (by omega); simpa using this)⟩

/-- make([]int, k) -/
theorem run_makeI (k : Nat) (hk : k < 1073741824) (w : World) : (Instr.makeSlice 37 (.int .i64 (k : Int)) (.int .i64 (k : Int))).run Tryz.prog w = .ok (.slice (some ⟨w.heap.size, 0, none⟩) k k) (w.alloc (.cells (madeCells #[.int .i64 0] k) 3)) := by
  obtain ⟨i0, hi, hz0, hz1, hz2⟩ := info_parts infoInt
  have hr := run_make (P := Tryz.prog) w 37 3 i0 (.int .i64 0) Tryz.underlying37 hi hz0 .i64 .i64 k k (by omega) (by omega) (by rw [hz2]; omega) (by omega)
  simp only [Int.toNat_natCast, hz1, Nat.mul_one] at hr
  exact hr

set_option maxRecDepth 100000 in
theorem len_at (b o q c : Nat) (A : Option Addr) (w : World) (hq : q < 1073741824) (h1 : w.cell? ⟨b, o, none⟩ = some (.slice A q c)) (h2 : w.cell? ⟨b, o + 1, none⟩ = some (.slice none 0 0)) :
    Calls Tryz.prog 43 #[.pointer (some ⟨b, o, none⟩)] w fun e w' => e = .returned (.int .i64 (q : Int)) ∧ ∃ q, w' = w.drewN q := by
  go_enter Tryz.func43, Tryz.ntmps43
  go_wp2
  go_quiet (fail)
  go_wp2
  go_ret
  exact ⟨rfl, nq, rfl⟩

set_option maxRecDepth 100000 in
set_option maxHeartbeats 1000000 in
theorem lookup_any (ix n ct bs os cs : Nat) (A : Option Addr) (d T : Nat → Nat) (B : Option Addr) (m e : Nat) (S : Nat → Nat) (N : Int) (w : World) (h : Ix w ix A n ct bs os cs d) (hbs : bs < w.heap.size) (hsa : IsSA T n d)
    (tx : Rd w 0 w.heap.size A n (bv T)) (sx : Rd w 0 w.heap.size B m (bv S)) (tl : ∀ i, i < n → T i < 256) (sl : ∀ i, i < m → S i < 256) (hm : m < 1073741824) (hN1 : -9223372036854775808 ≤ N) (hN2 : N ≤ 9223372036854775807) :
    Calls Tryz.prog 32 #[.pointer (some ⟨ix, 0, none⟩), .slice B m e, .int .i64 N] w fun e w' =>
      ∃ r q k A' c', e = .returned (.slice A' k c') ∧ k ≤ c' ∧ Found T n S m d N r q k ∧ (k = 0 → A' = none) ∧ Wr w' w.heap.size w'.heap.size A' k (iv fun i => (d (r + i) : Nat)) ∧ Below w.heap.size w w' := by
  have hsm := h.sm
  have hix : ix < w.heap.size := cell_lt h.c0
  by_cases hm0 : m = 0
  · subst hm0
    clear h hsa tx sx tl sl
    go_enter Tryz.func32, Tryz.ntmps32
    go_wp2
    go_ret
    exact ⟨0, 0, 0, _, _, rfl, Nat.le_refl _, found_zero, fun _ => rfl, Wr.zero, Below.refl _ _⟩
  have hm1 : (0 : Int) < (m : Int) := by omega
  by_cases hN0 : N = 0
  · subst hN0
    obtain ⟨r, q, hr1, hr2⟩ := range_exists (S := S) (m := m) hsa
    have HR := Lib.hid hr2
    clear h hsa tx sx tl sl hr2
    go_enter Tryz.func32, Tryz.ntmps32
    go_wp2
    go_ret
    exact ⟨r, q, 0, _, _, rfl, Nat.le_refl _, ⟨hr1, fun j hj => by rw [← HR.out j hj]; exact ⟨fun h => h.2, fun h => ⟨by omega, h⟩⟩, by simp; omega⟩, fun _ => rfl, Wr.zero, Below.refl _ _⟩
  have hc := lookupAll_any ix n ct bs os cs A d T B m e S w h hbs hsa tx sx tl sl hm
  have HC := Lib.hid hc
  have HI := Lib.hid h
  clear h hsa tx sx tl sl hc
  go_enter Tryz.func32, Tryz.ntmps32
  go_wp2_with fail
  refine HC.out.mono ?_
  rintro _ w1 ⟨r, q', o', rfl, hrq, hiff, ho', hb1⟩
  have HF : Hid (∀ j, j < n → ((0 < m ∧ stands T n S m (d j)) ↔ r ≤ j ∧ j < r + q')) := fun j hj => by rw [← hiff j hj]; exact ⟨fun h => h.2, fun h => ⟨by omega, h⟩⟩
  have HO := Lib.hid ho'; have HB1 := Lib.hid hb1
  clear hiff ho' hb1 HC
  have hq1 : q' < 1073741824 := by omega
  have g0 : ∀ v1 v2 : Value, (w1.alloc (.cells #[v1, v2] 47)).cell? ⟨w1.heap.size, 0, none⟩ = some v1 := fun v1 v2 => by rw [World.cell?_alloc_at _ _ _ _ rfl]; rfl
  have g1 : ∀ v1 v2 : Value, (w1.alloc (.cells #[v1, v2] 47)).cell? ⟨w1.heap.size, 0 + 1, none⟩ = some v2 := fun v1 v2 => by rw [World.cell?_alloc_at _ _ _ _ rfl]; rfl
  have HLN := Lib.hid (len_at w1.heap.size 0 q' (cs - r) (some ⟨bs, o', none⟩) (w1.alloc (.cells #[.slice (some ⟨bs, o', none⟩) q' (cs - r), .slice none 0 0] 47)) hq1 (g0 _ _) (g1 _ _))
  clear g0 g1
  go_wp2_with fail
  refine HLN.out.mono ?_
  rintro _ w2 ⟨rfl, q2, rfl⟩
  clear HLN
  obtain ⟨w3, hw3⟩ : ∃ w3, w3 = (w1.alloc (.cells #[.slice (some ⟨bs, o', none⟩) q' (cs - r), .slice none 0 0] 47)).drewN q2 := ⟨_, rfl⟩
  have h3a : w3.cell? ⟨w1.heap.size, 0, none⟩ = some (.slice (some ⟨bs, o', none⟩) q' (cs - r)) := by
    rw [hw3]; show (w1.alloc _).cell? _ = _; rw [World.cell?_alloc_at _ _ _ _ rfl]; rfl
  have HB3 : Hid (Below w.heap.size w w3) := by rw [hw3]; exact (HB1.out.alloc HB1.out.size _).trans ⟨rfl, rfl, rfl, Nat.le_refl _, fun _ _ => rfl⟩
  have HZ3 : Hid (w3.heap.size = w1.heap.size + 1) := by rw [hw3]; show (w1.alloc _).heap.size = _; simp
  rw [← hw3]
  clear hw3
  have hnn := fun W => run_neq_slice_nil_any (P := Tryz.prog) W 44 21 (some ⟨bs, o', none⟩) q' (cs - r) 0 0 Tryz.underlying44
  by_cases hneg : N < 0
  · have HFD : Hid (∀ k, k = q' → Found T n S m d N r q' k) := fun k hk => ⟨hrq, HF.out, by rw [if_pos (.inl hneg)]; exact hk⟩
    by_cases hk0 : q' = 0
    · subst hk0
      go_wp2
      go_ret
      exact ⟨r, 0, 0, _, _, rfl, Nat.le_refl _, HFD.out 0 rfl, fun _ => rfl, Wr.zero, HB3.out⟩
    · have hk1 : 0 < q' := by omega
      have hkq' : q' ≤ q' := Nat.le_refl _
      have hkc : q' < 1073741824 := by omega
      have hmk : ∀ W, (Instr.makeSlice 37 (.int .i64 (q' : Int)) (.int .i64 (q' : Int))).run Tryz.prog W = .ok (.slice (some ⟨W.heap.size, 0, none⟩) q' q') (W.alloc (.cells (madeCells #[.int .i64 0] q') 3)) := fun W => run_makeI q' hkc W
      have hwa : Hid (Wr (w3.alloc (.cells (madeCells #[.int .i64 0] q') 3)) w3.heap.size (w3.heap.size + 1) (some ⟨w3.heap.size, 0, none⟩) q' (fun j => if j < 0 then iv (fun i => (d (r + i) : Nat)) j else .int .i64 0)) := (wr_made w3 q' _ _).congr (fun i _ => by simp)
      have hba : Hid (Below w3.heap.size w3 (w3.alloc (.cells (madeCells #[.int .i64 0] q') 3))) := (Below.refl _ _).alloc (Nat.le_refl _) _
      have hc0 : ∀ ob, (w3.alloc ob).cell? ⟨w1.heap.size, 0, none⟩ = some (.slice (some ⟨bs, o', none⟩) q' (cs - r)) := fun ob => by rw [World.cell?_alloc_past _ _ _ (by have := HZ3.out; show w1.heap.size < w3.heap.size; omega)]; exact h3a
      obtain rfl : o' = os + r := HO.out (by omega)
      have HX3 : Hid (Ix w3 ix A n ct bs os cs d) := HI.out.below HB3.out hix hbs
      have hbs3 : bs < w3.heap.size := by have := HB3.out.size; omega
      have HH3 := Lib.hid h3a
      clear h3a
      go_wp2_with fail
      clear hc0 hmk
      go_loopg [39] (q' + 1) (fun gk i wr => (∃ t : Nat, t ≤ q' ∧ i = .int .i64 t ∧ wr.heap.size = w3.heap.size + 1 ∧ Wr wr w3.heap.size (w3.heap.size + 1) (some ⟨w3.heap.size, 0, none⟩) q' (fun j => if j < t then iv (fun i => (d (r + i) : Nat)) j else .int .i64 0) ∧ Below w3.heap.size w3 wr) ∧ q' - (intOf i).toNat < gk)
      case atStart => exact ⟨⟨0, by omega, rfl, by simp, hwa.out, hba.out⟩, by simp [intOf]⟩
      case round =>
        clear hwa hba
        obtain ⟨⟨t, ht, rfl, hsz, hwr, hbl⟩, hgk⟩ := hrel
        simp only [intOf, Int.toNat_natCast] at hgk
        have HS := Lib.hid hsz
        clear hsz
        by_cases hlt' : t < q'
        · have hc1 : wr.cell? ⟨w1.heap.size, 0, none⟩ = some (.slice (some ⟨bs, os + r, none⟩) q' (cs - r)) := by rw [hbl.cell (p := ⟨w1.heap.size, 0, none⟩) (by have := HZ3.out; show w1.heap.size < w3.heap.size; omega)]; exact HH3.out
          have hc2 : wr.cell? ⟨bs, os + r + t, none⟩ = some (.int .i32 (d (r + t) : Nat)) := by rw [hbl.cell (p := ⟨bs, os + r + t, none⟩) hbs3, Nat.add_assoc]; exact HX3.out.sa _ (by omega)
          have hdl : d (r + t) < 1073741824 := by have := HX3.out.dl (r + t) (by omega); omega
          have hc3 := hwr.at_ hlt'
          have hz3 := hwr.z _ _ rfl t hlt'
          simp only [Nat.lt_irrefl, if_false, Nat.zero_add] at hc3 hz3
          have htq : t < q' := by omega
          have HW := Lib.hid hwr; have HL := Lib.hid hbl
          clear hwr hbl
          go_wp2
          go_roundg (q' - (t + 1) + 1)
          case rel =>
            refine ⟨⟨t + 1, by omega, by go_num, by simpa [World.setCell] using HS.out, ?_, HL.out.setCell (Nat.le_refl _) _⟩, by simp only [intOf]; omega⟩
            have := HW.out.set hlt' (iv (fun i => (d (r + i) : Nat)) t)
            rw [Nat.zero_add] at this
            refine this.congr fun j _ => ?_
            unfold updV
            by_cases c : j = t
            · subst c; simp
            · by_cases c' : j < t
              · simp only [if_neg c, if_pos c', if_pos (show j < t + 1 by omega)]
              · simp only [if_neg c, if_neg c', if_neg (show ¬ j < t + 1 by omega)]
          case measure => omega
        · obtain rfl : t = q' := by omega
          have HW := Lib.hid hwr; have HL := Lib.hid hbl
          clear hwr hbl
          go_wp2
          go_ret
          refine ⟨r, _, _, _, _, rfl, Nat.le_refl _, HFD.out _ rfl, fun h => absurd h hk0, ?_, HB3.out.trans (HL.out.mono HB3.out.size)⟩
          rw [HS.out]
          exact (HW.out.congr fun i hi => by rw [if_pos hi]).mono HB3.out.size (Nat.le_refl _)
  · by_cases hlt : (q' : Int) < N
    · have HFD : Hid (∀ k, k = q' → Found T n S m d N r q' k) := fun k hk => ⟨hrq, HF.out, by rw [if_pos (.inr hlt)]; exact hk⟩
      by_cases hk0 : q' = 0
      · subst hk0
        go_wp2
        go_ret
        exact ⟨r, 0, 0, _, _, rfl, Nat.le_refl _, HFD.out 0 rfl, fun _ => rfl, Wr.zero, HB3.out⟩
      · have hk1 : 0 < q' := by omega
        have hkq' : q' ≤ q' := Nat.le_refl _
        have hkc : q' < 1073741824 := by omega
        have hmk : ∀ W, (Instr.makeSlice 37 (.int .i64 (q' : Int)) (.int .i64 (q' : Int))).run Tryz.prog W = .ok (.slice (some ⟨W.heap.size, 0, none⟩) q' q') (W.alloc (.cells (madeCells #[.int .i64 0] q') 3)) := fun W => run_makeI q' hkc W
        have hwa : Hid (Wr (w3.alloc (.cells (madeCells #[.int .i64 0] q') 3)) w3.heap.size (w3.heap.size + 1) (some ⟨w3.heap.size, 0, none⟩) q' (fun j => if j < 0 then iv (fun i => (d (r + i) : Nat)) j else .int .i64 0)) := (wr_made w3 q' _ _).congr (fun i _ => by simp)
        have hba : Hid (Below w3.heap.size w3 (w3.alloc (.cells (madeCells #[.int .i64 0] q') 3))) := (Below.refl _ _).alloc (Nat.le_refl _) _
        have hc0 : ∀ ob, (w3.alloc ob).cell? ⟨w1.heap.size, 0, none⟩ = some (.slice (some ⟨bs, o', none⟩) q' (cs - r)) := fun ob => by rw [World.cell?_alloc_past _ _ _ (by have := HZ3.out; show w1.heap.size < w3.heap.size; omega)]; exact h3a
        obtain rfl : o' = os + r := HO.out (by omega)
        have HX3 : Hid (Ix w3 ix A n ct bs os cs d) := HI.out.below HB3.out hix hbs
        have hbs3 : bs < w3.heap.size := by have := HB3.out.size; omega
        have HH3 := Lib.hid h3a
        clear h3a
        go_wp2_with fail
        clear hc0 hmk
        go_loopg [39] (q' + 1) (fun gk i wr => (∃ t : Nat, t ≤ q' ∧ i = .int .i64 t ∧ wr.heap.size = w3.heap.size + 1 ∧ Wr wr w3.heap.size (w3.heap.size + 1) (some ⟨w3.heap.size, 0, none⟩) q' (fun j => if j < t then iv (fun i => (d (r + i) : Nat)) j else .int .i64 0) ∧ Below w3.heap.size w3 wr) ∧ q' - (intOf i).toNat < gk)
        case atStart => exact ⟨⟨0, by omega, rfl, by simp, hwa.out, hba.out⟩, by simp [intOf]⟩
        case round =>
          clear hwa hba
          obtain ⟨⟨t, ht, rfl, hsz, hwr, hbl⟩, hgk⟩ := hrel
          simp only [intOf, Int.toNat_natCast] at hgk
          have HS := Lib.hid hsz
          clear hsz
          by_cases hlt' : t < q'
          · have hc1 : wr.cell? ⟨w1.heap.size, 0, none⟩ = some (.slice (some ⟨bs, os + r, none⟩) q' (cs - r)) := by rw [hbl.cell (p := ⟨w1.heap.size, 0, none⟩) (by have := HZ3.out; show w1.heap.size < w3.heap.size; omega)]; exact HH3.out
            have hc2 : wr.cell? ⟨bs, os + r + t, none⟩ = some (.int .i32 (d (r + t) : Nat)) := by rw [hbl.cell (p := ⟨bs, os + r + t, none⟩) hbs3, Nat.add_assoc]; exact HX3.out.sa _ (by omega)
            have hdl : d (r + t) < 1073741824 := by have := HX3.out.dl (r + t) (by omega); omega
            have hc3 := hwr.at_ hlt'
            have hz3 := hwr.z _ _ rfl t hlt'
            simp only [Nat.lt_irrefl, if_false, Nat.zero_add] at hc3 hz3
            have htq : t < q' := by omega
            have HW := Lib.hid hwr; have HL := Lib.hid hbl
            clear hwr hbl
            go_wp2
            go_roundg (q' - (t + 1) + 1)
            case rel =>
              refine ⟨⟨t + 1, by omega, by go_num, by simpa [World.setCell] using HS.out, ?_, HL.out.setCell (Nat.le_refl _) _⟩, by simp only [intOf]; omega⟩
              have := HW.out.set hlt' (iv (fun i => (d (r + i) : Nat)) t)
              rw [Nat.zero_add] at this
              refine this.congr fun j _ => ?_
              unfold updV
              by_cases c : j = t
              · subst c; simp
              · by_cases c' : j < t
                · simp only [if_neg c, if_pos c', if_pos (show j < t + 1 by omega)]
                · simp only [if_neg c, if_neg c', if_neg (show ¬ j < t + 1 by omega)]
            case measure => omega
          · obtain rfl : t = q' := by omega
            have HW := Lib.hid hwr; have HL := Lib.hid hbl
            clear hwr hbl
            go_wp2
            go_ret
            refine ⟨r, _, _, _, _, rfl, Nat.le_refl _, HFD.out _ rfl, fun h => absurd h hk0, ?_, HB3.out.trans (HL.out.mono HB3.out.size)⟩
            rw [HS.out]
            exact (HW.out.congr fun i hi => by rw [if_pos hi]).mono HB3.out.size (Nat.le_refl _)
    · obtain ⟨k, rfl⟩ : ∃ k : Nat, N = k := ⟨N.toNat, by omega⟩
      have hkq : k ≤ q' := by omega
      have hlt2 : ¬ q' < k := by omega
      have HFD : Hid (Found T n S m d (k : Int) r q' k) := ⟨hrq, HF.out, by rw [if_neg (by omega)]; omega⟩
      by_cases hk0 : k = 0
      · exact absurd (by omega) hN0
      · have hk1 : 0 < k := by omega
        have hkq' : k ≤ q' := hkq
        have hkc : k < 1073741824 := by omega
        have hmk : ∀ W, (Instr.makeSlice 37 (.int .i64 (k : Int)) (.int .i64 (k : Int))).run Tryz.prog W = .ok (.slice (some ⟨W.heap.size, 0, none⟩) k k) (W.alloc (.cells (madeCells #[.int .i64 0] k) 3)) := fun W => run_makeI k hkc W
        have hwa : Hid (Wr (w3.alloc (.cells (madeCells #[.int .i64 0] k) 3)) w3.heap.size (w3.heap.size + 1) (some ⟨w3.heap.size, 0, none⟩) k (fun j => if j < 0 then iv (fun i => (d (r + i) : Nat)) j else .int .i64 0)) := (wr_made w3 k _ _).congr (fun i _ => by simp)
        have hba : Hid (Below w3.heap.size w3 (w3.alloc (.cells (madeCells #[.int .i64 0] k) 3))) := (Below.refl _ _).alloc (Nat.le_refl _) _
        have hc0 : ∀ ob, (w3.alloc ob).cell? ⟨w1.heap.size, 0, none⟩ = some (.slice (some ⟨bs, o', none⟩) q' (cs - r)) := fun ob => by rw [World.cell?_alloc_past _ _ _ (by have := HZ3.out; show w1.heap.size < w3.heap.size; omega)]; exact h3a
        obtain rfl : o' = os + r := HO.out (by omega)
        have HX3 : Hid (Ix w3 ix A n ct bs os cs d) := HI.out.below HB3.out hix hbs
        have hbs3 : bs < w3.heap.size := by have := HB3.out.size; omega
        have HH3 := Lib.hid h3a
        clear h3a
        go_wp2_with fail
        clear hc0 hmk
        go_loopg [39] (k + 1) (fun gk i wr => (∃ t : Nat, t ≤ k ∧ i = .int .i64 t ∧ wr.heap.size = w3.heap.size + 1 ∧ Wr wr w3.heap.size (w3.heap.size + 1) (some ⟨w3.heap.size, 0, none⟩) k (fun j => if j < t then iv (fun i => (d (r + i) : Nat)) j else .int .i64 0) ∧ Below w3.heap.size w3 wr) ∧ k - (intOf i).toNat < gk)
        case atStart => exact ⟨⟨0, by omega, rfl, by simp, hwa.out, hba.out⟩, by simp [intOf]⟩
        case round =>
          clear hwa hba
          obtain ⟨⟨t, ht, rfl, hsz, hwr, hbl⟩, hgk⟩ := hrel
          simp only [intOf, Int.toNat_natCast] at hgk
          have HS := Lib.hid hsz
          clear hsz
          by_cases hlt' : t < k
          · have hc1 : wr.cell? ⟨w1.heap.size, 0, none⟩ = some (.slice (some ⟨bs, os + r, none⟩) q' (cs - r)) := by rw [hbl.cell (p := ⟨w1.heap.size, 0, none⟩) (by have := HZ3.out; show w1.heap.size < w3.heap.size; omega)]; exact HH3.out
            have hc2 : wr.cell? ⟨bs, os + r + t, none⟩ = some (.int .i32 (d (r + t) : Nat)) := by rw [hbl.cell (p := ⟨bs, os + r + t, none⟩) hbs3, Nat.add_assoc]; exact HX3.out.sa _ (by omega)
            have hdl : d (r + t) < 1073741824 := by have := HX3.out.dl (r + t) (by omega); omega
            have hc3 := hwr.at_ hlt'
            have hz3 := hwr.z _ _ rfl t hlt'
            simp only [Nat.lt_irrefl, if_false, Nat.zero_add] at hc3 hz3
            have htq : t < q' := by omega
            have HW := Lib.hid hwr; have HL := Lib.hid hbl
            clear hwr hbl
            go_wp2
            go_roundg (k - (t + 1) + 1)
            case rel =>
              refine ⟨⟨t + 1, by omega, by go_num, by simpa [World.setCell] using HS.out, ?_, HL.out.setCell (Nat.le_refl _) _⟩, by simp only [intOf]; omega⟩
              have := HW.out.set hlt' (iv (fun i => (d (r + i) : Nat)) t)
              rw [Nat.zero_add] at this
              refine this.congr fun j _ => ?_
              unfold updV
              by_cases c : j = t
              · subst c; simp
              · by_cases c' : j < t
                · simp only [if_neg c, if_pos c', if_pos (show j < t + 1 by omega)]
                · simp only [if_neg c, if_neg c', if_neg (show ¬ j < t + 1 by omega)]
            case measure => omega
          · obtain rfl : t = k := by omega
            have HW := Lib.hid hwr; have HL := Lib.hid hbl
            clear hwr hbl
            go_wp2
            go_ret
            refine ⟨r, _, _, _, _, rfl, Nat.le_refl _, HFD.out, fun h => absurd h hk0, ?_, HB3.out.trans (HL.out.mono HB3.out.size)⟩
            rw [HS.out]
            exact (HW.out.congr fun i hi => by rw [if_pos hi]).mono HB3.out.size (Nat.le_refl _)
end Go.Proofs.YtpkgkppehefibaaGreatDoor
