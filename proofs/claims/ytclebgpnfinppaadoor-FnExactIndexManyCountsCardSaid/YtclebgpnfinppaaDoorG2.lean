/- From a walk to the card: a list of byte strings that came in. -/
import Derived.Test.YtclebgpnfinppaaDoorG1
import Derived.Test.YtclebgpnfinppaaDoorH3
import Derived.Deep.Matrix
namespace Go.Proofs.YtclebgpnfinppaaDoor
open Go.ChangeShapes Go.WideShapes Go.ChangeAt Go.RowKit

theorem cellsSB : Tryd.prog.cellsOf 22 = 1 := by kernel_rfl
section
variable {H : Type} {enc : TypeId × Value → H}
theorem bulk_pos (x : DataW H) : 1 ≤ Rows.uptoBulk x := by
  cases x with
  | lit l => cases l <;> simp [Rows.uptoBulk]
  | nil => simp [Rows.uptoBulk]
  | ptr d => simp [Rows.uptoBulk]
  | slice elems spare => simp [Rows.uptoBulk]
  | agg parts => simp [Rows.uptoBulk]
  | iface t d => simp [Rows.uptoBulk]
  | map entries => simp [Rows.uptoBulk]
  | held h => simp [Rows.uptoBulk]
theorem bulk_len : ∀ l : List (DataW H), l.length ≤ Rows.uptoBulkAll l
  | [] => by simp [Rows.uptoBulkAll]
  | x :: r => by
    have := bulk_len r; have := bulk_pos x
    simp only [Rows.uptoBulkAll, List.length_cons]; omega
theorem bulk_mem : ∀ (l : List (DataW H)) (x : DataW H), x ∈ l → Rows.uptoBulk x ≤ Rows.uptoBulkAll l
  | [], _, h => by cases h
  | y :: r, x, h => by
    simp only [Rows.uptoBulkAll]
    rcases List.mem_cons.1 h with rfl | h
    · omega
    · have := bulk_mem r x h; omega
set_option maxRecDepth 100000 in
/-- A LIST OF BYTE STRINGS THAT CAME IN -/
theorem open_lists {W : World} {base : Nat} {v : Value} {d : DataW H} {p : List MemPlace} (hval : Value.okWide Tryd.prog W .any base 39 v) (h1 : DataW.Trod enc Tryd.prog W 0 (fun _ => true) true 39 v d p) :
    ∃ (A : Option Addr) (n c : Nat) (B : Nat → Option Addr) (m e : Nat → Nat) (S : Nat → Nat → Nat), v = .slice A n c ∧ R0 W A n (fun j => .slice (B j) (m j) (e j)) ∧ (∀ j, j < n → R0 W (B j) (m j) (bv (S j)) ∧ (∀ i, i < m j → S j i < 256) ∧ m j ≤ e j ∧ m j + 1 ≤ Rows.uptoBulk d ∧ m j < 9223372036854775808) ∧ n ≤ c ∧ n < 9223372036854775808 ∧ n + 1 ≤ Rows.uptoBulk d := by
  obtain ⟨a1, len, cap, rfl⟩ := okWide_slice Tryd.underlying39 hval
  obtain ⟨fuel, hf⟩ := h1
  rcases Go.Deep.open_int_rows Tryd.underlying39 Tryd.underlying22 Tryd.underlying5 cellsSB cells8 hf with ⟨hcs, hx⟩ | ⟨a, len', cap', A, L, C, Z, hcs, _, hl, hm, hx, hcell⟩
  · simp [Value.cells] at hcs
    obtain ⟨rfl, rfl, rfl⟩ := hcs
    simp only [Prod.mk.injEq] at hx
    obtain ⟨rfl, rfl⟩ := hx
    exact ⟨none, 0, 0, fun _ => none, fun _ => 0, fun _ => 0, fun _ _ => 0, rfl, R0.zero, fun j hj => by omega, Nat.le_refl _, by omega, by simp [Rows.uptoBulk]⟩
  · simp [Value.cells] at hcs
    obtain ⟨rfl, rfl, rfl⟩ := hcs
    simp only [Prod.mk.injEq] at hx
    obtain ⟨rfl, rfl⟩ := hx
    simp only [maxLen] at hm
    have hlen : ((List.range len).map fun r => Go.Deep.intRow (H := H) .u8 (A r) (L r) (Z r)).length = len := by simp
    have hbl := bulk_len ((List.range len).map fun r => Go.Deep.intRow (H := H) .u8 (A r) (L r) (Z r))
    rw [hlen] at hbl
    refine ⟨some a, len, cap, A, L, C, fun j i => ((Z j).getD i 0).toNat, rfl, ⟨fun hn => ?_⟩, fun j hj => ?_, hl, by omega, by simp only [Rows.uptoBulk]; omega⟩
    · obtain ⟨ab, ao, spot⟩ := a
      have hspot : spot = none := by simpa [Addr.add] using World.cell?_spot (hcell 0 (by omega)).1
      subst hspot
      have hc : ∀ i, i < len → W.cell? ⟨ab, ao + i, none⟩ = some (.slice (A i) (L i) (C i)) := fun i hi => by
        have := (hcell i (by omega)).1
        rwa [Addr.add_lit] at this
      exact ⟨ab, ao, rfl, Nat.zero_le _, cell_lt (hc 0 hn), hc⟩
    · obtain ⟨h1, h2, h3, h4, h5, h6, h7⟩ := hcell j (by omega)
      simp only [maxLen] at h3
      have hb := bulk_mem ((List.range len).map fun r => Go.Deep.intRow (H := H) .u8 (A r) (L r) (Z r)) (Go.Deep.intRow .u8 (A j) (L j) (Z j)) (List.mem_map.2 ⟨j, List.mem_range.2 hj, rfl⟩)
      have hrow : L j + 1 ≤ Rows.uptoBulk (Go.Deep.intRow (H := H) .u8 (A j) (L j) (Z j)) := by
        cases hA : A j with
        | none => have := h6 hA; simp only [Go.Deep.intRow, Rows.uptoBulk]; omega
        | some a' =>
          have h8 := bulk_len (lits (H := H) .u8 ((Z j).take (L j)))
          have h9 : (lits (H := H) .u8 ((Z j).take (L j))).length = L j := by simp [lits]; omega
          simp only [Go.Deep.intRow, Rows.uptoBulk]
          omega
      have hrange : ∀ i, 0 ≤ (Z j).getD i 0 ∧ (Z j).getD i 0 ≤ 255 := fun i => by
        have := range_u8 h5 i
        rwa [← List.getD_eq_getElem?_getD] at this
      refine ⟨⟨fun hn => ?_⟩, fun i _ => ?_, h2, by simp only [Rows.uptoBulk]; omega, by omega⟩
      · cases hA : A j with
        | none => have := h6 hA; omega
        | some a' =>
          obtain ⟨_, h8⟩ := h7 a' hA
          obtain ⟨ab, ao, spot⟩ := a'
          have hspot : spot = none := by simpa [Addr.add] using World.cell?_spot (h8 0 (by omega))
          subst hspot
          have hc : ∀ i, i < L j → W.cell? ⟨ab, ao + i, none⟩ = some (bv (fun i => ((Z j).getD i 0).toNat) i) := fun i hi => by
            have := h8 i (by omega)
            rw [Addr.add_lit] at this
            rw [this]
            unfold bv
            simp only [Int.toNat_of_nonneg (hrange i).1]
          exact ⟨ab, ao, rfl, Nat.zero_le _, cell_lt (hc 0 hn), hc⟩
      · have := hrange i
        show ((Z j).getD i 0).toNat < 256
        omega
end
end Go.Proofs.YtclebgpnfinppaaDoor
