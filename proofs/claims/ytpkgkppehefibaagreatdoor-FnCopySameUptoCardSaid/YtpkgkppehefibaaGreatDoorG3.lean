/- The rows that list five variables: maxData32 and four errors. -/
import Derived.Test.YtpkgkppehefibaaGreatDoorG1
namespace Go.Proofs.YtpkgkppehefibaaGreatDoor
open Go.ChangeShapes Go.WideShapes Go.ChangeAt Go.RowKit

set_option maxRecDepth 100000 in
theorem maxOkL {W : World} {r : List (String × DataW Unit)} {ps : List MemPlace} (h : DataW.LaidVars Tryz.prog W (("index/suffixarray.maxData32", Rows.laid_index_suffixarray_maxData32) :: r) ps) : MaxOk W := by
  obtain ⟨g', t', cs, fuel, p, q, hg', ht', hvar, hd, _, _⟩ := h
  obtain rfl := Option.some.inj (gMax.symm.trans hg')
  obtain rfl := Option.some.inj (gMaxType.symm.trans ht')
  obtain ⟨n, h1, h2, _⟩ := DataW.trod_int Tryz.underlying3 hd
  have := World.var?_cell gMax hvar 0
  unfold MaxOk
  rw [this, ← Array.getElem?_toList, h1]
  have h3 : (Rows.laid_index_suffixarray_maxData32 : DataW Unit) = .lit (.int .i64 n) := (Prod.mk.inj h2).1
  unfold Rows.laid_index_suffixarray_maxData32 at h3
  injection h3 with h3; injection h3 with _ h3
  rw [← h3]; rfl
/-- the five -/
def laid5 : List (String × DataW Unit) := [("io.ErrShortBuffer", Rows.laid_io_ErrShortBuffer), ("io.EOF", Rows.laid_io_EOF), ("io.ErrUnexpectedEOF", Rows.laid_io_ErrUnexpectedEOF), ("index/suffixarray.maxData32", Rows.laid_index_suffixarray_maxData32), ("index/suffixarray.errCorrupted", Rows.laid_index_suffixarray_errCorrupted)]
theorem maxOk5 {W : World} (h : laidMetH Tryz.prog laid5 W) : MaxOk W := by
  have e : (laid5.filter fun x => x.2.handleName?.isSome) = [] := by kernel_rfl
  unfold laidMetH at h
  rw [e] at h
  have h' : laidMet Tryz.prog laid5 W := h
  unfold laid5 at h'
  obtain ⟨ps, hv, -⟩ := h'
  obtain ⟨_, _, _, _, _, _, _, _, _, _, hv, -⟩ := hv
  obtain ⟨_, _, _, _, _, _, _, _, _, _, hv, -⟩ := hv
  obtain ⟨_, _, _, _, _, _, _, _, _, _, hv, -⟩ := hv
  exact maxOkL hv
noncomputable def low5 : Nat := (World.holding Tryz.prog default ⟨#[], #[], []⟩).heap.size
noncomputable def errCell (k : Nat) : Obj → Obj
  | .cells _ t frozen => .cells #[.iface 137 (.pointer (some ⟨low5 + k, 0, none⟩))] t frozen
  | o => o
/-- a world in which the five lie as their initialisers lay them -/
noncomputable def laidWorld5 (os : Os) : World :=
  let w0 := World.holding Tryz.prog os ⟨#[.cells #[.string { data := #[115, 104, 111, 114, 116, 32, 98, 117, 102, 102, 101, 114] }] 158, .cells #[.string { data := #[69, 79, 70] }] 158,
    .cells #[.string { data := #[117, 110, 101, 120, 112, 101, 99, 116, 101, 100, 32, 69, 79, 70] }] 158, .cells #[.string { data := #[115, 117, 102, 102, 105, 120, 97, 114, 114, 97, 121, 58, 32, 100, 97, 116, 97, 32, 99, 111, 114, 114, 117, 112, 116, 101, 100] }] 158], #[], []⟩
  { w0 with heap := ((((w0.heap.modify 0 fun
      | .cells _ t frozen => .cells #[.int .i64 2147483647] t frozen
      | o => o).modify 2 (errCell 0)).modify 3 (errCell 1)).modify 4 (errCell 2)).modify 1 (errCell 3) }
end Go.Proofs.YtpkgkppehefibaaGreatDoor
