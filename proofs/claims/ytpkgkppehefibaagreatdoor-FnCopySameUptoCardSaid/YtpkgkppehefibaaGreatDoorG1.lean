/- From a walk to the card: what every law's proof shares. -/
import Derived.Test.YtpkgkppehefibaaGreatDoorCards
import Derived.Test.YtpkgkppehefibaaGreatDoorTie
import Derived.Test.YtpkgkppehefibaaGreatDoorE1
import Derived.WalkKit
import Derived.ProofKit
import Derived.OpenShut
import Derived.Carry
import Derived.Deep.DeepHandedRow
import Derived.Lib.LaidTab
namespace Go.Proofs.YtpkgkppehefibaaGreatDoor
open Go.ChangeShapes Go.WideShapes Go.ChangeAt Go.RowKit

theorem own : ownKnob Tryz.prog.godebug = none := by kernel_rfl
theorem laidOut1 : laidOutB Tryz.prog = true := by kernel_rfl
theorem gMax : Tryz.prog.globalNamed "index/suffixarray.maxData32" = some 0 := by kernel_rfl
theorem gMaxType : (Tryz.prog.globals[0]?).map (·.type) = some 3 := by kernel_rfl
theorem cells8 : Tryz.prog.cellsOf 5 = 1 := by kernel_rfl

set_option maxRecDepth 100000 in
/-- the rows' list gives the variable -/
theorem maxOk {W : World} (h : laidMet Tryz.prog [("index/suffixarray.maxData32", Rows.laid_index_suffixarray_maxData32)] W) : MaxOk W := by
  obtain ⟨ps, ⟨g', t', cs, fuel, p, q, hg', ht', hvar, hd, _, _⟩, _⟩ := h
  obtain rfl := Option.some.inj (gMax.symm.trans hg')
  obtain rfl := Option.some.inj (gMaxType.symm.trans ht')
  obtain ⟨n, h1, h2, _⟩ := DataW.trod_int Tryz.underlying3 hd
  have := World.var?_cell gMax hvar 0
  unfold MaxOk
  rw [this, ← Array.getElem?_toList, h1]
  have h3 : (Rows.laid_index_suffixarray_maxData32 : DataW Unit) = .lit (.int .i64 n) := (Prod.mk.inj h2).1
  unfold Rows.laid_index_suffixarray_maxData32 at h3
  injection h3 with h3; injection h3 with _ h3
  rw [← h3]; rfl

section
variable {H : Type} {enc : TypeId × Value → H}
set_option maxRecDepth 100000 in
/-- A SLICE OF BYTES THAT CAME IN -/
theorem open_bytes {W : World} {base : Nat} {v : Value} {d : DataW H} {p : List MemPlace} (hval : Value.okWide Tryz.prog W .any base 22 v) (h1 : DataW.Trod enc Tryz.prog W 0 (fun _ => true) true 22 v d p) :
    ∃ A n c T, v = .slice A n c ∧ Rd W 0 W.heap.size A n (bv T) ∧ (∀ i, i < n → T i < 256) ∧ n ≤ c ∧ n < 9223372036854775808 ∧ n + 1 ≤ Rows.uptoBulk d ∧ (A = none → c = 0) := by
  obtain ⟨a1, len, cap, rfl⟩ := okWide_slice Tryz.underlying22 hval
  obtain ⟨fuel, hf⟩ := h1
  rcases open_ints Tryz.underlying22 Tryz.underlying5 cells8 hf with ⟨hcs, hx⟩ | ⟨a, len', cap', zs, hcs, _, hl, hm, hz, hx, hcell, hwz⟩
  · simp [Value.cells] at hcs
    obtain ⟨rfl, rfl, rfl⟩ := hcs
    simp only [Prod.mk.injEq] at hx
    obtain ⟨rfl, rfl⟩ := hx
    exact ⟨none, 0, 0, fun _ => 0, rfl, Rd.zero, fun _ h => by omega, Nat.le_refl _, by omega, by simp [Rows.uptoBulk], fun _ => rfl⟩
  · simp [Value.cells] at hcs
    obtain ⟨rfl, rfl, rfl⟩ := hcs
    simp only [Prod.mk.injEq] at hx
    obtain ⟨rfl, rfl⟩ := hx
    simp only [if_true] at hz
    refine ⟨some a, len, cap, fun i => (zs.getD i 0).toNat, rfl, ⟨fun hn => ?_⟩, fun i hi => ?_, hl, by simp only [maxLen] at hm; omega, ?_, fun h => by cases h⟩
    · obtain ⟨ab, ao, spot⟩ := a
      have hspot : spot = none := by simpa [Addr.add] using World.cell?_spot (hcell 0 (by omega))
      subst hspot
      have hc : ∀ i, i < len → W.cell? ⟨ab, ao + i, none⟩ = some (bv (fun i => (zs.getD i 0).toNat) i) := fun i hi => by
        have := hcell i (by omega)
        rw [Addr.add_lit] at this
        rw [this]
        have hb := range_u8 hwz i
        rw [← List.getD_eq_getElem?_getD] at hb
        unfold bv
        simp only [Int.toNat_of_nonneg hb.1]
      exact ⟨ab, ao, rfl, Nat.zero_le _, cell_lt (hc 0 hn), hc⟩
    · have hb := range_u8 hwz i
      rw [← List.getD_eq_getElem?_getD] at hb
      show (zs.getD i 0).toNat < 256
      omega
    · have h1 : ∀ l : List (DataW H), l.length ≤ Rows.uptoBulkAll l := by
        intro l
        induction l with
        | nil => simp [Rows.uptoBulkAll]
        | cons x r ih =>
          have : 1 ≤ Rows.uptoBulk x := by
            cases x with
            | lit l => cases l <;> simp [Rows.uptoBulk]
            | nil => simp [Rows.uptoBulk]
            | ptr d => simp [Rows.uptoBulk]
            | slice elems spare => simp [Rows.uptoBulk]
            | agg parts => simp [Rows.uptoBulk]
            | iface t d => simp [Rows.uptoBulk]
            | map entries => simp [Rows.uptoBulk]
            | held h => simp [Rows.uptoBulk]
          simp only [Rows.uptoBulkAll, List.length_cons]; omega
      have h2 := h1 (lits (H := H) .u8 (zs.take len))
      have h3 : (lits (H := H) .u8 (zs.take len)).length = len := by simp [lits]; omega
      simp only [Rows.uptoBulk]
      omega
end
end Go.Proofs.YtpkgkppehefibaaGreatDoor
