/- bytes.Buffer: Write. -/
import Derived.Test.YtpkgkppehefibaaGreatDoorW2
namespace Go.Proofs.YtpkgkppehefibaaGreatDoor
open Go.RowKit Sa

theorem info8s : (Tryz.prog.info? 5).map (·.size) = some 1 := by
  obtain ⟨i0, hi, -, hz1, -⟩ := info_parts info8
  rw [hi]; simp [hz1]
/-- the end of Write: the row has its place, the bytes are copied into it -/
theorem buf_end {w w2 : World} {b g l n c : Nat} {r : Option Nat} {cur : Array Value} {f S : Nat → Nat} (hd : Hd w2 b (.slice (some ⟨g, 0, none⟩) (l + n) c) 0) (hg : w2.heap[g]? = some (.cells cur 5 (0, 0))) (hgb : g ≠ b) (hcs : cur.size = c) (h1 : 1 ≤ l + n) (hlc : l + n ≤ c) (hcm : c ≤ maxLen)
    (hf : ∀ i, i < l → cur[i]? = some (.int .u8 ((f i : Nat) : Int))) (hk : Kept (fun k => k = b ∨ some k = r) w w2) (hr : some g = r ∨ w.heap.size ≤ g) :
    Buf (w2.setRow g (cur.toList.take l ++ (List.range n).map (bv S) ++ cur.toList.drop (l + n)).toArray) b (some g) (l + n) (cat f l S) 0 ∧ Kept (fun k => k = b ∨ some k = r) w (w2.setRow g (cur.toList.take l ++ (List.range n).map (bv S) ++ cur.toList.drop (l + n)).toArray) := by
  obtain ⟨q1, q2⟩ := row_written (S := S) hf (show l + n ≤ cur.size by omega)
  refine ⟨⟨.inr ⟨g, c, _, rfl, hgb, ?_, setRow_heap _ _ _ _ _ _ hg, by rw [q1, hcs], h1, hlc, hcm, q2⟩⟩, ?_⟩
  · obtain ⟨lr, hh⟩ := hd
    exact ⟨lr, by rw [setRow_other _ _ _ _ (Ne.symm hgb)]; exact hh⟩
  · refine ⟨hk.os, hk.tape, hk.output, by rw [setRow_size]; exact hk.size, fun k hkl hkp => ?_⟩
    rw [setRow_other _ _ _ _ (fun e => by
      subst e
      rcases hr with h | h
      · exact hkp (.inr h)
      · omega)]
    exact hk.block k hkl hkp
theorem Rd.kept {P : Nat → Prop} {w w' : World} {lo hi n : Nat} {A : Option Addr} {f : Nat → Value} (h : Rd w lo hi A n f) (k : Kept P w w') (hh : hi ≤ w.heap.size) (hP : ∀ j, lo ≤ j → j < hi → ¬ P j) : Rd w' lo hi A n f :=
  h.keep fun b o h1 h2 => by
    have := k.block b (by omega) (hP b h1 h2)
    simp only [World.cell?, this]
set_option maxHeartbeats 6400000 in
set_option maxRecDepth 100000 in
/-- Write, where there is room -/
theorem bufwrite_room (b g l n c k0 lo hi : Nat) (cur : Array Value) (f S : Nat → Nat) (A : Option Addr) (w : World) (h : Hd w b (.slice (some ⟨g, 0, none⟩) l k0) 0) (hg : w.heap[g]? = some (.cells cur 5 (0, 0))) (hgb : g ≠ b) (hcs : cur.size = k0) (hl : 1 ≤ l) (hroom : l + n ≤ k0) (hcm : k0 ≤ maxLen)
    (hf : ∀ i, i < l → cur[i]? = some (.int .u8 ((f i : Nat) : Int))) (hp : Rd w lo hi A n (bv S)) (hh : hi ≤ w.heap.size) (hdis : ∀ k, lo ≤ k → k < hi → k ≠ b) (hn : 1 ≤ n) :
    Calls Tryz.prog 142 #[.pointer (some ⟨b, 0, none⟩), .slice A n c] w fun e w' => e = .returned (.tuple #[.int .i64 (n : Int), .nilIface]) ∧ Buf w' b (some g) (l + n) (cat f l S) 0 ∧ Kept (fun k => k = b ∨ some k = some g) w w' := by
  obtain ⟨lr, c2⟩ := h.c2
  have f2 := h.z 2
  obtain ⟨w1, hw1⟩ : ∃ w1, w1 = w.setCell ⟨b, 2, none⟩ (.int .i8 0) := ⟨_, rfl⟩
  have h1 : Hd w1 b (.slice (some ⟨g, 0, none⟩) l k0) 0 := by rw [hw1]; exact h.set2 0
  obtain ⟨w2, hw2⟩ : ∃ w2, w2 = w1.setCell ⟨b, 0, none⟩ (.slice (some ⟨g, 0, none⟩) (l + n) k0) := ⟨_, rfl⟩
  have h2 : Hd w2 b (.slice (some ⟨g, 0, none⟩) (l + n) k0) 0 := by rw [hw2]; exact h1.set0 _
  have hk : Kept (fun k => k = b) w w2 := by rw [hw2, hw1]; exact Kept.setCell (P := fun k => k = b) (Kept.setCell (P := fun k => k = b) (Kept.refl _ _) (fun _ => rfl) _) (fun _ => rfl) _
  have hglt : g < w.heap.size := by
    rcases Nat.lt_or_ge g w.heap.size with c' | c'
    · exact c'
    · rw [Array.getElem?_eq_none c'] at hg; cases hg
  have hg2 : w2.heap[g]? = some (.cells cur 5 (0, 0)) := by rw [hk.block g hglt hgb]; exact hg
  have hp2 : Rd w2 lo hi A n (bv S) := hp.kept hk hh hdis
  obtain ⟨ad, rfl, hsrc⟩ := hp2.list (by omega)
  have hcp := run_copy_row (P := Tryz.prog) w2 22 22 3 5 g l n (k0 - l) ad n c cur 5 ((List.range n).map (bv S)) Tryz.underlying22 info8s hg2 (by simp) (fun j v hj => hsrc j v hj) (by simp; omega) (fun v hv => by obtain ⟨j, _, rfl⟩ := List.mem_map.1 hv; rfl)
  simp only [List.length_map, List.length_range] at hcp
  have hend := buf_end (w := w) (r := some g) (S := S) h2 hg2 hgb hcs (by omega) hroom hcm hf (hk.mono fun _ _ h => .inl h) (.inl rfl)
  simp only [List.append_assoc] at hend
  have HEND := Lib.hid hend
  have d0 := h2.c0
  have hne : ¬ k0 = l := by omega
  have HT := Lib.hid (Tryz.Buffer_tryGrow_room b (some ⟨g, 0, none⟩) l k0 n w1 h1.c0 (h1.z 0) (by omega) hcm (by omega))
  rw [← hw2] at HT
  have HW1 := Lib.hid hw1
  clear hend h h1 h2 hk hg hg2 hp hp2 hf hw1 hw2 hsrc hdis
  unfold maxLen at hcm
  go_enter Tryz.func142, Tryz.ntmps142
  go_wp2_with fail
  rw [← HW1.out]
  refine HT.out.mono ?_
  rintro _ w3 ⟨rfl, hw3⟩
  subst hw3
  go_wp2
  go_ret2
  exact ⟨rfl, HEND.out.1, HEND.out.2⟩

set_option maxHeartbeats 6400000 in
set_option maxRecDepth 100000 in
/-- Write, where the row has no room -/
theorem bufwrite_grow (b g l n c k0 lo hi : Nat) (cur : Array Value) (f S : Nat → Nat) (A : Option Addr) (w : World) (h : Hd w b (.slice (some ⟨g, 0, none⟩) l k0) 0) (hg : w.heap[g]? = some (.cells cur 5 (0, 0))) (hgb : g ≠ b) (hcs : cur.size = k0) (hl : 1 ≤ l) (hlc : l ≤ k0) (hroom : k0 < l + n) (hcm : k0 ≤ maxLen)
    (hf : ∀ i, i < l → cur[i]? = some (.int .u8 ((f i : Nat) : Int))) (hp : Rd w lo hi A n (bv S)) (hh : hi ≤ w.heap.size) (hdis : ∀ k, lo ≤ k → k < hi → k ≠ b) (hlim : l + n ≤ 70368744177664) :
    Calls Tryz.prog 142 #[.pointer (some ⟨b, 0, none⟩), .slice A n c] w fun e w' => e = .returned (.tuple #[.int .i64 (n : Int), .nilIface]) ∧ Buf w' b (some w.heap.size) (l + n) (cat f l S) 0 ∧ Kept (fun k => k = b ∨ some k = some g) w w' := by
  obtain ⟨lr, c2⟩ := h.c2
  have f2 := h.z 2
  obtain ⟨w1, hw1⟩ : ∃ w1, w1 = w.setCell ⟨b, 2, none⟩ (.int .i8 0) := ⟨_, rfl⟩
  have h1 : Hd w1 b (.slice (some ⟨g, 0, none⟩) l k0) 0 := by rw [hw1]; exact h.set2 0
  have hk1 : Kept (fun k => k = b) w w1 := by rw [hw1]; exact Kept.setCell (P := fun k => k = b) (Kept.refl _ _) (fun _ => rfl) _
  have hs1 : w1.heap.size = w.heap.size := by rw [hw1]; simp [World.setCell]
  have hglt : g < w.heap.size := by
    rcases Nat.lt_or_ge g w.heap.size with c' | c'
    · exact c'
    · rw [Array.getElem?_eq_none c'] at hg; cases hg
  have hblt := h.lt
  have hg1 : w1.heap[g]? = some (.cells cur 5 (0, 0)) := by rw [hk1.block g hglt hgb]; exact hg
  have hone : ∀ v ∈ cur.toList.take l, v.oneCell' = true := fun v hv => by
    obtain ⟨i, hi', e⟩ := List.getElem_of_mem hv
    have hil : i < l := by rw [List.length_take] at hi'; omega
    have := hf i hil
    rw [← Array.getElem?_toList] at this
    have e2 : (cur.toList.take l)[i]? = some v := by rw [List.getElem?_eq_getElem hi', e]
    rw [List.getElem?_take, if_pos hil, this] at e2
    rw [← Option.some.inj e2]; rfl
  have HT := Lib.hid (Tryz.Buffer_tryGrow_none b (some ⟨g, 0, none⟩) l k0 n w1 h1.c0 hlc hcm (by omega))
  have HGR := Lib.hid (bufgrow_row b g l k0 n cur w1 h1 hg1 hcs hl hlc hcm hone (by omega) (by omega) hlim)
  have HP := Lib.hid hp; have HW1 := Lib.hid hw1; have HK1 := Lib.hid hk1; have HF := Lib.hid hf; have HDIS := Lib.hid hdis; have HS1 := Lib.hid hs1
  clear h h1 hg hg1 hp hf hw1 hk1 hone hdis hs1
  go_enter Tryz.func142, Tryz.ntmps142
  go_wp2_with fail
  rw [← HW1.out]
  refine HT.out.mono ?_
  rintro _ w1' ⟨rfl, hw1'⟩
  have hw2' := hw1'.symm
  clear hw1'
  subst hw2'
  go_wp2_with fail
  refine HGR.out.mono ?_
  rintro _ w2 ⟨rfl, cap2, cells, hd2, hN, hcsz, htk, hcap2, hcm2, hk2⟩
  rw [HS1.out] at hd2 hN
  have hk : Kept (fun k => k = b) w w2 := HK1.out.trans hk2 (fun _ _ h => h)
  have hp2 : Rd w2 lo hi A n (bv S) := HP.out.kept hk hh HDIS.out
  obtain ⟨ad, rfl, hsrc⟩ := hp2.list (by omega)
  have hcp := run_copy_row (P := Tryz.prog) w2 22 22 3 5 w.heap.size l n (cap2 - l) ad n c cells 5 ((List.range n).map (bv S)) Tryz.underlying22 info8s hN (by simp) (fun j v hj => hsrc j v hj) (by simp; omega) (fun v hv => by obtain ⟨j, _, rfl⟩ := List.mem_map.1 hv; rfl)
  simp only [List.length_map, List.length_range] at hcp
  have hf2 : ∀ i, i < l → cells[i]? = some (.int .u8 ((f i : Nat) : Int)) := fun i hi' => by
    have e1 := congrArg (fun L : List Value => L[i]?) htk
    simp only [List.getElem?_take, if_pos hi', Array.getElem?_toList] at e1
    rw [e1]; exact HF.out i hi'
  have hend := buf_end (w := w) (r := some g) (S := S) hd2 hN (by omega) hcsz (by omega) hcap2 hcm2 hf2 (hk.mono fun _ _ h => .inl h) (.inr (Nat.le_refl _))
  simp only [List.append_assoc] at hend
  have HEND := Lib.hid hend
  have d0 := hd2.c0
  have hne : ¬ cap2 = l := by omega
  have hcm3 := hcm2
  unfold maxLen at hcm3
  clear hend hd2 hN htk hk hk2 hp2 hf2 hsrc hcsz HT HGR
  go_wp2
  go_ret2
  exact ⟨rfl, HEND.out.1, HEND.out.2⟩
end Go.Proofs.YtpkgkppehefibaaGreatDoor
