/-
  NARROWER THAN 'FOR EVERY INPUT', by the rows' own cells (each row's printed sentence says how): FnExactIndexCopyMarks: laid · FnExactIndexExactMarks: laid · FnExactForgets: laid · FnCopyMost: laid · FnCopyAll: laid · FnCopySame: laid.
  DERIVED. THE GIVEN ROWS OF THIS SEAT. 6 by the template 'for every input the law returns true; each argument reads behind the call as it read before'; 0 by the template 'total and deterministic' (their statements: YtpkgkppehefibaaGreatDoorTotals.lean).
  GIVEN WITH THE SEED: the statements are not yours to turn. If you find one false, say at which input.
  Laid BY PROGRAM, IN A SANDBOX (cutbox-rows.mjs): the forced cells as the released guide's own fill.sh prints them over the translation 267951c019dc5dee… (all of the seat's roots in one cut). By AI agents, Wed Nov 11 2026. No macro, syntax, notation, axiom, sorry.
-/
import Derived.Test.YtpkgkppehefibaaGreatDoorChecked
import GoSem.Claim
import GoSem.ClaimJoined
import GoSem.ClaimMapViews
import Derived.JoinedTies
import Derived.KernelRfl
namespace Go.Proofs.YtpkgkppehefibaaGreatDoor
/- THE CELL 'sum', in the pinned program and in every row, IS THE sha256 OF THE DUMP (.gsa) THAT YtpkgkppehefibaaGreatDoorProg.lean LOADS. Nothing in Lean hashes anything: it is a label: what it is worth is what the hold of that sum in a sandbox is worth. -/
noncomputable def Tryz.pinned : Pinned := { name := "ytpkgkppehefibaagreatdoor", sum := "267951c019dc5deeb3a1d6bb661fb0a4484941022a13c669cfbd399634a0ec6f", checked := Tryz.checked }
namespace Rows
def none {H : Type} : Left H := { results := [], args := [] }

/- WHAT THE LISTED PACKAGE-LEVEL VARIABLES READ AS WHEN THE CALL BEGINS. Each datum BY PROGRAM (the guide's laid-datum.mjs) off the statement by which the dump's own 'gosem.cut.vars' lays the variable. In a bare row this is a premise. The card (YtpkgkppehefibaaGreatDoorCards.lean) ties it to the program's text. -/
def laid_io_ErrShortBuffer {H : Type} : DataW H := .iface "*errors.errorString" (.ptr (.agg [.lit (.string [115, 104, 111, 114, 116, 32, 98, 117, 102, 102, 101, 114])]))
def laid_io_EOF {H : Type} : DataW H := .iface "*errors.errorString" (.ptr (.agg [.lit (.string [69, 79, 70])]))
def laid_io_ErrUnexpectedEOF {H : Type} : DataW H := .iface "*errors.errorString" (.ptr (.agg [.lit (.string [117, 110, 101, 120, 112, 101, 99, 116, 101, 100, 32, 69, 79, 70])]))
def laid_index_suffixarray_maxData32 {H : Type} : DataW H := .lit (.int .i64 2147483647)
def laid_index_suffixarray_errCorrupted {H : Type} : DataW H := .iface "*errors.errorString" (.ptr (.agg [.lit (.string [115, 117, 102, 102, 105, 120, 97, 114, 114, 97, 121, 58, 32, 100, 97, 116, 97, 32, 99, 111, 114, 114, 117, 112, 116, 101, 100])]))

/-- 'laws.FnExactIndexCopyMarks': WHATEVER THE INPUT: true; the input reads as it did. -/
def fnExactIndexCopyMarksSpec : ChangeSpec := { name := "fnExactIndexCopyMarks", fn := fun _ => fun
  | [d1, d2] => { results := [.lit (.bool true)], args := [d1, d2] }
  | _ => none }
def fnExactIndexCopyMarksRow : OpenClaim := { program := "ytpkgkppehefibaagreatdoor", sum := "267951c019dc5deeb3a1d6bb661fb0a4484941022a13c669cfbd399634a0ec6f", func := "loop.example/lib-g01090/laws.FnExactIndexCopyMarks", spec := "fnExactIndexCopyMarks", inPlace := ["internal/bytealg.Compare"], unfollowed := true, recurses := true, named := ["index/suffixarray.maxData32", "index/suffixarray.errCorrupted", "io.ErrShortBuffer", "io.EOF", "io.ErrUnexpectedEOF"], apart := false, laid := [("io.ErrShortBuffer", laid_io_ErrShortBuffer), ("io.EOF", laid_io_EOF), ("io.ErrUnexpectedEOF", laid_io_ErrUnexpectedEOF), ("index/suffixarray.maxData32", laid_index_suffixarray_maxData32), ("index/suffixarray.errCorrupted", laid_index_suffixarray_errCorrupted)] }
def FnExactIndexCopyMarksSaid : Prop := fnExactIndexCopyMarksRow.holds Tryz.pinned (OpenSpec.ofChange fnExactIndexCopyMarksSpec)

/-- ITS FALSE NEIGHBOUR: 'it returns false'. Refute it at one input. -/
def fnExactIndexCopyMarksWrong : ChangeSpec := { name := "fnExactIndexCopyMarks", fn := fun _ => fun
  | [d1, d2] => { results := [.lit (.bool false)], args := [d1, d2] }
  | _ => none }
def FnExactIndexCopyMarksWrongFalsely : Prop := fnExactIndexCopyMarksRow.holds Tryz.pinned (OpenSpec.ofChange fnExactIndexCopyMarksWrong)

/-- 'laws.FnExactIndexExactMarks': WHATEVER THE INPUT: true; the input reads as it did. -/
def fnExactIndexExactMarksSpec : ChangeSpec := { name := "fnExactIndexExactMarks", fn := fun _ => fun
  | [d1, d2, d3] => { results := [.lit (.bool true)], args := [d1, d2, d3] }
  | _ => none }
def fnExactIndexExactMarksRow : OpenClaim := { program := "ytpkgkppehefibaagreatdoor", sum := "267951c019dc5deeb3a1d6bb661fb0a4484941022a13c669cfbd399634a0ec6f", func := "loop.example/lib-g01090/laws.FnExactIndexExactMarks", spec := "fnExactIndexExactMarks", inPlace := ["internal/bytealg.Compare"], unfollowed := true, recurses := true, named := ["index/suffixarray.maxData32", "index/suffixarray.errCorrupted", "io.ErrShortBuffer", "io.EOF", "io.ErrUnexpectedEOF"], apart := false, laid := [("io.ErrShortBuffer", laid_io_ErrShortBuffer), ("io.EOF", laid_io_EOF), ("io.ErrUnexpectedEOF", laid_io_ErrUnexpectedEOF), ("index/suffixarray.maxData32", laid_index_suffixarray_maxData32), ("index/suffixarray.errCorrupted", laid_index_suffixarray_errCorrupted)] }
def FnExactIndexExactMarksSaid : Prop := fnExactIndexExactMarksRow.holds Tryz.pinned (OpenSpec.ofChange fnExactIndexExactMarksSpec)

/-- ITS FALSE NEIGHBOUR: 'it returns false'. Refute it at one input. -/
def fnExactIndexExactMarksWrong : ChangeSpec := { name := "fnExactIndexExactMarks", fn := fun _ => fun
  | [d1, d2, d3] => { results := [.lit (.bool false)], args := [d1, d2, d3] }
  | _ => none }
def FnExactIndexExactMarksWrongFalsely : Prop := fnExactIndexExactMarksRow.holds Tryz.pinned (OpenSpec.ofChange fnExactIndexExactMarksWrong)

/-- 'laws.FnExactForgets': WHATEVER THE INPUT: true; the input reads as it did. -/
def fnExactForgetsSpec : ChangeSpec := { name := "fnExactForgets", fn := fun _ => fun
  | [d1, d2, d3, d4] => { results := [.lit (.bool true)], args := [d1, d2, d3, d4] }
  | _ => none }
def fnExactForgetsRow : OpenClaim := { program := "ytpkgkppehefibaagreatdoor", sum := "267951c019dc5deeb3a1d6bb661fb0a4484941022a13c669cfbd399634a0ec6f", func := "loop.example/lib-g01090/laws.FnExactForgets", spec := "fnExactForgets", inPlace := ["internal/bytealg.Compare"], unfollowed := true, recurses := true, named := ["index/suffixarray.maxData32", "index/suffixarray.errCorrupted", "io.ErrShortBuffer", "io.EOF", "io.ErrUnexpectedEOF"], apart := false, laid := [("io.ErrShortBuffer", laid_io_ErrShortBuffer), ("io.EOF", laid_io_EOF), ("io.ErrUnexpectedEOF", laid_io_ErrUnexpectedEOF), ("index/suffixarray.maxData32", laid_index_suffixarray_maxData32), ("index/suffixarray.errCorrupted", laid_index_suffixarray_errCorrupted)] }
def FnExactForgetsSaid : Prop := fnExactForgetsRow.holds Tryz.pinned (OpenSpec.ofChange fnExactForgetsSpec)

/-- ITS FALSE NEIGHBOUR: 'it returns false'. Refute it at one input. -/
def fnExactForgetsWrong : ChangeSpec := { name := "fnExactForgets", fn := fun _ => fun
  | [d1, d2, d3, d4] => { results := [.lit (.bool false)], args := [d1, d2, d3, d4] }
  | _ => none }
def FnExactForgetsWrongFalsely : Prop := fnExactForgetsRow.holds Tryz.pinned (OpenSpec.ofChange fnExactForgetsWrong)

/-- 'laws.FnCopyMost': WHATEVER THE INPUT: true; the input reads as it did. -/
def fnCopyMostSpec : ChangeSpec := { name := "fnCopyMost", fn := fun _ => fun
  | [d1, d2, d3] => { results := [.lit (.bool true)], args := [d1, d2, d3] }
  | _ => none }
def fnCopyMostRow : OpenClaim := { program := "ytpkgkppehefibaagreatdoor", sum := "267951c019dc5deeb3a1d6bb661fb0a4484941022a13c669cfbd399634a0ec6f", func := "loop.example/lib-g01090/laws.FnCopyMost", spec := "fnCopyMost", inPlace := ["internal/bytealg.Compare"], unfollowed := true, recurses := true, named := ["index/suffixarray.maxData32", "index/suffixarray.errCorrupted", "io.ErrShortBuffer", "io.EOF", "io.ErrUnexpectedEOF"], apart := false, laid := [("io.ErrShortBuffer", laid_io_ErrShortBuffer), ("io.EOF", laid_io_EOF), ("io.ErrUnexpectedEOF", laid_io_ErrUnexpectedEOF), ("index/suffixarray.maxData32", laid_index_suffixarray_maxData32), ("index/suffixarray.errCorrupted", laid_index_suffixarray_errCorrupted)] }
def FnCopyMostSaid : Prop := fnCopyMostRow.holds Tryz.pinned (OpenSpec.ofChange fnCopyMostSpec)

/-- ITS FALSE NEIGHBOUR: 'it returns false'. Refute it at one input. -/
def fnCopyMostWrong : ChangeSpec := { name := "fnCopyMost", fn := fun _ => fun
  | [d1, d2, d3] => { results := [.lit (.bool false)], args := [d1, d2, d3] }
  | _ => none }
def FnCopyMostWrongFalsely : Prop := fnCopyMostRow.holds Tryz.pinned (OpenSpec.ofChange fnCopyMostWrong)

/-- 'laws.FnCopyAll': WHATEVER THE INPUT: true; the input reads as it did. -/
def fnCopyAllSpec : ChangeSpec := { name := "fnCopyAll", fn := fun _ => fun
  | [d1, d2] => { results := [.lit (.bool true)], args := [d1, d2] }
  | _ => none }
def fnCopyAllRow : OpenClaim := { program := "ytpkgkppehefibaagreatdoor", sum := "267951c019dc5deeb3a1d6bb661fb0a4484941022a13c669cfbd399634a0ec6f", func := "loop.example/lib-g01090/laws.FnCopyAll", spec := "fnCopyAll", inPlace := ["internal/bytealg.Compare"], unfollowed := true, recurses := true, named := ["index/suffixarray.maxData32", "index/suffixarray.errCorrupted", "io.ErrShortBuffer", "io.EOF", "io.ErrUnexpectedEOF"], apart := false, laid := [("io.ErrShortBuffer", laid_io_ErrShortBuffer), ("io.EOF", laid_io_EOF), ("io.ErrUnexpectedEOF", laid_io_ErrUnexpectedEOF), ("index/suffixarray.maxData32", laid_index_suffixarray_maxData32), ("index/suffixarray.errCorrupted", laid_index_suffixarray_errCorrupted)] }
def FnCopyAllSaid : Prop := fnCopyAllRow.holds Tryz.pinned (OpenSpec.ofChange fnCopyAllSpec)

/-- ITS FALSE NEIGHBOUR: 'it returns false'. Refute it at one input. -/
def fnCopyAllWrong : ChangeSpec := { name := "fnCopyAll", fn := fun _ => fun
  | [d1, d2] => { results := [.lit (.bool false)], args := [d1, d2] }
  | _ => none }
def FnCopyAllWrongFalsely : Prop := fnCopyAllRow.holds Tryz.pinned (OpenSpec.ofChange fnCopyAllWrong)

/-- 'laws.FnCopySame': WHATEVER THE INPUT: true; the input reads as it did. -/
def fnCopySameSpec : ChangeSpec := { name := "fnCopySame", fn := fun _ => fun
  | [d1, d2, d3] => { results := [.lit (.bool true)], args := [d1, d2, d3] }
  | _ => none }
def fnCopySameRow : OpenClaim := { program := "ytpkgkppehefibaagreatdoor", sum := "267951c019dc5deeb3a1d6bb661fb0a4484941022a13c669cfbd399634a0ec6f", func := "loop.example/lib-g01090/laws.FnCopySame", spec := "fnCopySame", inPlace := ["internal/bytealg.Compare"], unfollowed := true, recurses := true, named := ["index/suffixarray.maxData32", "index/suffixarray.errCorrupted", "io.ErrShortBuffer", "io.EOF", "io.ErrUnexpectedEOF"], apart := false, laid := [("io.ErrShortBuffer", laid_io_ErrShortBuffer), ("io.EOF", laid_io_EOF), ("io.ErrUnexpectedEOF", laid_io_ErrUnexpectedEOF), ("index/suffixarray.maxData32", laid_index_suffixarray_maxData32), ("index/suffixarray.errCorrupted", laid_index_suffixarray_errCorrupted)] }
def FnCopySameSaid : Prop := fnCopySameRow.holds Tryz.pinned (OpenSpec.ofChange fnCopySameSpec)

/-- ITS FALSE NEIGHBOUR: 'it returns false'. Refute it at one input. -/
def fnCopySameWrong : ChangeSpec := { name := "fnCopySame", fn := fun _ => fun
  | [d1, d2, d3] => { results := [.lit (.bool false)], args := [d1, d2, d3] }
  | _ => none }
def FnCopySameWrongFalsely : Prop := fnCopySameRow.holds Tryz.pinned (OpenSpec.ofChange fnCopySameWrong)

/- THE SECOND FORM. 'bulk': how many values and letters a reading holds, each counted each time it is reached (what is shared counts as often as it is met; a slice's spare places count too). A statement '..UptoSaid' is the law's where the arguments, and the package variables that the reading takes, are together of bulk at most 1048576: NARROWER than '..Said'. Prove '..Said' where nothing that the law and all that it calls make is longer than what came in: it says more and counts as full. Else prove '..UptoSaid'. A law counts once. -/
mutual
def uptoBulk {H : Type} : DataW H → Nat
  | .lit (.string bytes) => bytes.length + 1
  | .lit _ => 1
  | .nil => 1
  | .ptr d => uptoBulk d + 1
  | .slice elems spare => uptoBulkAll elems + uptoBulkAll spare + 1
  | .agg parts => uptoBulkAll parts + 1
  | .iface _ d => uptoBulk d + 1
  | .map entries => uptoBulkEntries entries + 1
  | .held _ => 1
def uptoBulkAll {H : Type} : List (DataW H) → Nat
  | [] => 0
  | d :: r => uptoBulk d + uptoBulkAll r
def uptoBulkEntries {H : Type} : List (Lit × DataW H) → Nat
  | [] => 0
  | x :: r => uptoBulkEntry x + uptoBulkEntries r
def uptoBulkEntry {H : Type} : Lit × DataW H → Nat
  | (.string bytes, d) => bytes.length + uptoBulk d + 1
  | (_, d) => uptoBulk d + 1
 end
def uptoSmall : (H : Type) → List (DataW H) → Bool := fun _ ds => decide (uptoBulkAll ds ≤ 1048576)
def OpenSpec.upto (s : _root_.Go.ChangeSpec) : _root_.Go.OpenSpec := { _root_.Go.OpenSpec.ofChange s with cond := some uptoSmall }

/-- 'laws.FnExactIndexCopyMarks', WHERE WHAT IT READS IS OF BULK AT MOST 1048576: true; the input reads as it did. -/
def fnExactIndexCopyMarksUptoRow : OpenClaim := { program := "ytpkgkppehefibaagreatdoor", sum := "267951c019dc5deeb3a1d6bb661fb0a4484941022a13c669cfbd399634a0ec6f", func := "loop.example/lib-g01090/laws.FnExactIndexCopyMarks", spec := "fnExactIndexCopyMarks", inPlace := ["internal/bytealg.Compare"], unfollowed := true, recurses := true, named := ["index/suffixarray.maxData32", "index/suffixarray.errCorrupted", "io.ErrShortBuffer", "io.EOF", "io.ErrUnexpectedEOF"], apart := false, laid := [("io.ErrShortBuffer", laid_io_ErrShortBuffer), ("io.EOF", laid_io_EOF), ("io.ErrUnexpectedEOF", laid_io_ErrUnexpectedEOF), ("index/suffixarray.maxData32", laid_index_suffixarray_maxData32), ("index/suffixarray.errCorrupted", laid_index_suffixarray_errCorrupted)], narrowed := true }
def FnExactIndexCopyMarksUptoSaid : Prop := fnExactIndexCopyMarksUptoRow.holds Tryz.pinned (OpenSpec.upto fnExactIndexCopyMarksSpec)

/-- 'laws.FnExactIndexExactMarks', WHERE WHAT IT READS IS OF BULK AT MOST 1048576: true; the input reads as it did. -/
def fnExactIndexExactMarksUptoRow : OpenClaim := { program := "ytpkgkppehefibaagreatdoor", sum := "267951c019dc5deeb3a1d6bb661fb0a4484941022a13c669cfbd399634a0ec6f", func := "loop.example/lib-g01090/laws.FnExactIndexExactMarks", spec := "fnExactIndexExactMarks", inPlace := ["internal/bytealg.Compare"], unfollowed := true, recurses := true, named := ["index/suffixarray.maxData32", "index/suffixarray.errCorrupted", "io.ErrShortBuffer", "io.EOF", "io.ErrUnexpectedEOF"], apart := false, laid := [("io.ErrShortBuffer", laid_io_ErrShortBuffer), ("io.EOF", laid_io_EOF), ("io.ErrUnexpectedEOF", laid_io_ErrUnexpectedEOF), ("index/suffixarray.maxData32", laid_index_suffixarray_maxData32), ("index/suffixarray.errCorrupted", laid_index_suffixarray_errCorrupted)], narrowed := true }
def FnExactIndexExactMarksUptoSaid : Prop := fnExactIndexExactMarksUptoRow.holds Tryz.pinned (OpenSpec.upto fnExactIndexExactMarksSpec)

/-- 'laws.FnExactForgets', WHERE WHAT IT READS IS OF BULK AT MOST 1048576: true; the input reads as it did. -/
def fnExactForgetsUptoRow : OpenClaim := { program := "ytpkgkppehefibaagreatdoor", sum := "267951c019dc5deeb3a1d6bb661fb0a4484941022a13c669cfbd399634a0ec6f", func := "loop.example/lib-g01090/laws.FnExactForgets", spec := "fnExactForgets", inPlace := ["internal/bytealg.Compare"], unfollowed := true, recurses := true, named := ["index/suffixarray.maxData32", "index/suffixarray.errCorrupted", "io.ErrShortBuffer", "io.EOF", "io.ErrUnexpectedEOF"], apart := false, laid := [("io.ErrShortBuffer", laid_io_ErrShortBuffer), ("io.EOF", laid_io_EOF), ("io.ErrUnexpectedEOF", laid_io_ErrUnexpectedEOF), ("index/suffixarray.maxData32", laid_index_suffixarray_maxData32), ("index/suffixarray.errCorrupted", laid_index_suffixarray_errCorrupted)], narrowed := true }
def FnExactForgetsUptoSaid : Prop := fnExactForgetsUptoRow.holds Tryz.pinned (OpenSpec.upto fnExactForgetsSpec)

/-- 'laws.FnCopyMost', WHERE WHAT IT READS IS OF BULK AT MOST 1048576: true; the input reads as it did. -/
def fnCopyMostUptoRow : OpenClaim := { program := "ytpkgkppehefibaagreatdoor", sum := "267951c019dc5deeb3a1d6bb661fb0a4484941022a13c669cfbd399634a0ec6f", func := "loop.example/lib-g01090/laws.FnCopyMost", spec := "fnCopyMost", inPlace := ["internal/bytealg.Compare"], unfollowed := true, recurses := true, named := ["index/suffixarray.maxData32", "index/suffixarray.errCorrupted", "io.ErrShortBuffer", "io.EOF", "io.ErrUnexpectedEOF"], apart := false, laid := [("io.ErrShortBuffer", laid_io_ErrShortBuffer), ("io.EOF", laid_io_EOF), ("io.ErrUnexpectedEOF", laid_io_ErrUnexpectedEOF), ("index/suffixarray.maxData32", laid_index_suffixarray_maxData32), ("index/suffixarray.errCorrupted", laid_index_suffixarray_errCorrupted)], narrowed := true }
def FnCopyMostUptoSaid : Prop := fnCopyMostUptoRow.holds Tryz.pinned (OpenSpec.upto fnCopyMostSpec)

/-- 'laws.FnCopyAll', WHERE WHAT IT READS IS OF BULK AT MOST 1048576: true; the input reads as it did. -/
def fnCopyAllUptoRow : OpenClaim := { program := "ytpkgkppehefibaagreatdoor", sum := "267951c019dc5deeb3a1d6bb661fb0a4484941022a13c669cfbd399634a0ec6f", func := "loop.example/lib-g01090/laws.FnCopyAll", spec := "fnCopyAll", inPlace := ["internal/bytealg.Compare"], unfollowed := true, recurses := true, named := ["index/suffixarray.maxData32", "index/suffixarray.errCorrupted", "io.ErrShortBuffer", "io.EOF", "io.ErrUnexpectedEOF"], apart := false, laid := [("io.ErrShortBuffer", laid_io_ErrShortBuffer), ("io.EOF", laid_io_EOF), ("io.ErrUnexpectedEOF", laid_io_ErrUnexpectedEOF), ("index/suffixarray.maxData32", laid_index_suffixarray_maxData32), ("index/suffixarray.errCorrupted", laid_index_suffixarray_errCorrupted)], narrowed := true }
def FnCopyAllUptoSaid : Prop := fnCopyAllUptoRow.holds Tryz.pinned (OpenSpec.upto fnCopyAllSpec)

/-- 'laws.FnCopySame', WHERE WHAT IT READS IS OF BULK AT MOST 1048576: true; the input reads as it did. -/
def fnCopySameUptoRow : OpenClaim := { program := "ytpkgkppehefibaagreatdoor", sum := "267951c019dc5deeb3a1d6bb661fb0a4484941022a13c669cfbd399634a0ec6f", func := "loop.example/lib-g01090/laws.FnCopySame", spec := "fnCopySame", inPlace := ["internal/bytealg.Compare"], unfollowed := true, recurses := true, named := ["index/suffixarray.maxData32", "index/suffixarray.errCorrupted", "io.ErrShortBuffer", "io.EOF", "io.ErrUnexpectedEOF"], apart := false, laid := [("io.ErrShortBuffer", laid_io_ErrShortBuffer), ("io.EOF", laid_io_EOF), ("io.ErrUnexpectedEOF", laid_io_ErrUnexpectedEOF), ("index/suffixarray.maxData32", laid_index_suffixarray_maxData32), ("index/suffixarray.errCorrupted", laid_index_suffixarray_errCorrupted)], narrowed := true }
def FnCopySameUptoSaid : Prop := fnCopySameUptoRow.holds Tryz.pinned (OpenSpec.upto fnCopySameSpec)

end Rows
end Go.Proofs.YtpkgkppehefibaaGreatDoor
