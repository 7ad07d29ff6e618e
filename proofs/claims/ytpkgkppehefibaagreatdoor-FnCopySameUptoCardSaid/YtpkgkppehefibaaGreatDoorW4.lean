/- bytes.Buffer: Write at an empty buffer; Write of nothing; Write at any buffer. -/
import Derived.Test.YtpkgkppehefibaaGreatDoorW3
namespace Go.Proofs.YtpkgkppehefibaaGreatDoor
open Go.RowKit Sa

set_option maxHeartbeats 6400000 in
set_option maxRecDepth 100000 in
/-- Write, where there is no row -/
theorem bufwrite_nil (b n c lo hi : Nat) (f S : Nat → Nat) (A : Option Addr) (w : World) (h : Hd w b (.slice none 0 0) 0)
    (hp : Rd w lo hi A n (bv S)) (hh : hi ≤ w.heap.size) (hdis : ∀ k, lo ≤ k → k < hi → k ≠ b) (hn1 : 1 ≤ n) (hn64 : n ≤ 64) :
    Calls Tryz.prog 142 #[.pointer (some ⟨b, 0, none⟩), .slice A n c] w fun e w' => e = .returned (.tuple #[.int .i64 (n : Int), .nilIface]) ∧ Buf w' b (some w.heap.size) (0 + n) (cat f 0 S) 0 ∧ Kept (fun k => k = b ∨ some k = none) w w' := by
  obtain ⟨lr, c2⟩ := h.c2
  have f2 := h.z 2
  obtain ⟨w1, hw1⟩ : ∃ w1, w1 = w.setCell ⟨b, 2, none⟩ (.int .i8 0) := ⟨_, rfl⟩
  have h1 : Hd w1 b (.slice none 0 0) 0 := by rw [hw1]; exact h.set2 0
  have hk1 : Kept (fun k => k = b) w w1 := by rw [hw1]; exact Kept.setCell (P := fun k => k = b) (Kept.refl _ _) (fun _ => rfl) _
  have hs1 : w1.heap.size = w.heap.size := by rw [hw1]; simp [World.setCell]
  have hblt := h.lt
  have HT := Lib.hid (Tryz.Buffer_tryGrow_none b none 0 0 n w1 h1.c0 (by omega) (by simp only [maxLen]; omega) (by omega))
  have HGR := Lib.hid (bufgrow_nil b n w1 h1 hn1 hn64)
  have HP := Lib.hid hp; have HW1 := Lib.hid hw1; have HK1 := Lib.hid hk1; have HDIS := Lib.hid hdis; have HS1 := Lib.hid hs1
  clear h h1 hp hw1 hk1 hdis hs1
  go_enter Tryz.func142, Tryz.ntmps142
  go_wp2_with fail
  rw [← HW1.out]
  refine HT.out.mono ?_
  rintro _ w1' ⟨rfl, hw1'⟩
  have hw2' := hw1'.symm
  clear hw1'
  subst hw2'
  go_wp2_with fail
  refine HGR.out.mono ?_
  rintro _ w2 ⟨rfl, cells, hd2, hN, hcsz, hk2⟩
  rw [HS1.out] at hd2 hN
  have hk : Kept (fun k => k = b) w w2 := HK1.out.trans hk2 (fun _ _ h => h)
  have hp2 : Rd w2 lo hi A n (bv S) := HP.out.kept hk hh HDIS.out
  obtain ⟨ad, rfl, hsrc⟩ := hp2.list (by omega)
  have hcp := run_copy_row (P := Tryz.prog) w2 22 22 3 5 w.heap.size 0 n 64 ad n c cells 5 ((List.range n).map (bv S)) Tryz.underlying22 info8s hN (by simp) (fun j v hj => hsrc j v hj) (by simp; omega) (fun v hv => by obtain ⟨j, _, rfl⟩ := List.mem_map.1 hv; rfl)
  simp only [List.length_map, List.length_range] at hcp
  have hend := buf_end (w := w) (r := none) (f := f) (S := S) (l := 0) (n := n) (by rw [Nat.zero_add]; exact hd2) hN (by omega) hcsz (by omega) (by omega) (by simp only [maxLen]; omega) (fun i hi' => absurd hi' (by omega)) (hk.mono fun _ _ h => .inl h) (.inr (Nat.le_refl _))
  simp only [List.take_zero, List.nil_append, Nat.zero_add] at hend
  have HEND := Lib.hid hend
  have d0 := hd2.c0
  clear hend hd2 hN hk hk2 hp2 hsrc hcsz HT HGR
  go_wp2
  go_ret2
  exact ⟨rfl, by rw [Nat.zero_add]; exact HEND.out.1, HEND.out.2⟩

set_option maxHeartbeats 6400000 in
set_option maxRecDepth 100000 in
/-- Write of nothing, where there is a row -/
theorem bufwrite_zero (b g l c k0 : Nat) (cur : Array Value) (f S : Nat → Nat) (A : Option Addr) (w : World) (h : Hd w b (.slice (some ⟨g, 0, none⟩) l k0) 0) (hg : w.heap[g]? = some (.cells cur 5 (0, 0))) (hgb : g ≠ b) (hcs : cur.size = k0) (hl : 1 ≤ l) (hroom : l ≤ k0) (hcm : k0 ≤ maxLen)
    (hf : ∀ i, i < l → cur[i]? = some (.int .u8 ((f i : Nat) : Int))) :
    Calls Tryz.prog 142 #[.pointer (some ⟨b, 0, none⟩), .slice A 0 c] w fun e w' => e = .returned (.tuple #[.int .i64 0, .nilIface]) ∧ Buf w' b (some g) l (cat f l S) 0 ∧ Kept (fun k => k = b ∨ some k = some g) w w' := by
  obtain ⟨lr, c2⟩ := h.c2
  have f2 := h.z 2
  obtain ⟨w1, hw1⟩ : ∃ w1, w1 = w.setCell ⟨b, 2, none⟩ (.int .i8 0) := ⟨_, rfl⟩
  have h1 : Hd w1 b (.slice (some ⟨g, 0, none⟩) l k0) 0 := by rw [hw1]; exact h.set2 0
  obtain ⟨w2, hw2⟩ : ∃ w2, w2 = w1.setCell ⟨b, 0, none⟩ (.slice (some ⟨g, 0, none⟩) (l + 0) k0) := ⟨_, rfl⟩
  have h2 : Hd w2 b (.slice (some ⟨g, 0, none⟩) l k0) 0 := by rw [hw2]; exact h1.set0 _
  have hk : Kept (fun k => k = b) w w2 := by rw [hw2, hw1]; exact Kept.setCell (P := fun k => k = b) (Kept.setCell (P := fun k => k = b) (Kept.refl _ _) (fun _ => rfl) _) (fun _ => rfl) _
  have hglt : g < w.heap.size := by
    rcases Nat.lt_or_ge g w.heap.size with c' | c'
    · exact c'
    · rw [Array.getElem?_eq_none c'] at hg; cases hg
  have hg2 : w2.heap[g]? = some (.cells cur 5 (0, 0)) := by rw [hk.block g hglt hgb]; exact hg
  have hce : ∀ d dLen dCap W, (Builtin.copy_ #[22, 22] 3 #[.slice d dLen dCap, .slice A 0 c]).run Tryz.prog W = .ok (goInt 0) W := fun d dLen dCap W => run_copy_none W 22 22 3 5 d A dLen dCap 0 c Tryz.underlying22 info8s (by simp)
  have hend : Buf w2 b (some g) l (cat f l S) 0 ∧ Kept (fun k => k = b ∨ some k = some g) w w2 := by
    refine ⟨⟨.inr ⟨g, k0, cur, rfl, hgb, h2, hg2, hcs, hl, hroom, hcm, fun i hi => ?_⟩⟩, hk.mono fun _ _ h => .inl h⟩
    rw [hf i hi]; unfold cat; rw [if_pos hi]
  have HEND := Lib.hid hend
  have d0 := h2.c0
  have HT := Lib.hid (Tryz.Buffer_tryGrow_room b (some ⟨g, 0, none⟩) l k0 0 w1 h1.c0 (h1.z 0) (by omega) hcm (by omega))
  rw [← hw2] at HT
  have HW1 := Lib.hid hw1
  clear hend h h1 h2 hk hg hg2 hf hw1 hw2
  unfold maxLen at hcm
  go_enter Tryz.func142, Tryz.ntmps142
  go_wp2_with fail
  rw [← HW1.out]
  refine HT.out.mono ?_
  rintro _ w3 ⟨rfl, hw3⟩
  subst hw3
  go_wp2
  all_goals (
    go_ret2
    exact ⟨rfl, HEND.out.1, HEND.out.2.mono fun _ _ h => by simpa using h⟩)

/-- WRITE, at any buffer that was not read -/
theorem bufwrite_any (b l n c lo hi : Nat) (r : Option Nat) (f S : Nat → Nat) (A : Option Addr) (w : World) (h : Buf w b r l f 0)
    (hp : Rd w lo hi A n (bv S)) (hh : hi ≤ w.heap.size) (hdis : ∀ k, lo ≤ k → k < hi → k ≠ b) (hn0 : r = none → 1 ≤ n ∧ n ≤ 64) (hlim : l + n ≤ 70368744177664) :
    Calls Tryz.prog 142 #[.pointer (some ⟨b, 0, none⟩), .slice A n c] w fun e w' => e = .returned (.tuple #[.int .i64 (n : Int), .nilIface]) ∧ ∃ g, Buf w' b (some g) (l + n) (cat f l S) 0 ∧ (some g = r ∨ g = w.heap.size) ∧ Kept (fun k => k = b ∨ some k = r) w w' := by
  rcases h.c with ⟨rfl, rfl, hd⟩ | ⟨g, k0, cur, rfl, hgb, hd, hg, hcs, hl, hlc, hcm, hf⟩
  · obtain ⟨h1, h2⟩ := hn0 rfl
    exact (bufwrite_nil b n c lo hi f S A w hd hp hh hdis h1 h2).mono fun e w' ⟨he, hb, hk⟩ => ⟨he, _, hb, .inr rfl, hk⟩
  · rcases Nat.eq_zero_or_pos n with rfl | hn
    · exact (bufwrite_zero b g l c k0 cur f S A w hd hg hgb hcs hl hlc hcm hf).mono fun e w' ⟨he, hb, hk⟩ => ⟨he, _, hb, .inl rfl, hk⟩
    · rcases Nat.lt_or_ge k0 (l + n) with c' | c'
      · exact (bufwrite_grow b g l n c k0 lo hi cur f S A w hd hg hgb hcs hl hlc c' hcm hf hp hh hdis hlim).mono fun e w' ⟨he, hb, hk⟩ => ⟨he, _, hb, .inr rfl, hk⟩
      · exact (bufwrite_room b g l n c k0 lo hi cur f S A w hd hg hgb hcs hl c' hcm hf hp hh hdis hn).mono fun e w' ⟨he, hb, hk⟩ => ⟨he, _, hb, .inl rfl, hk⟩
end Go.Proofs.YtpkgkppehefibaaGreatDoor
