/-
  NARROWER THAN 'FOR EVERY INPUT', by the rows' own cells (each row's printed sentence says how): FnPrefixes: laid · FnSuffixes: laid · FnWrittenAgain: laid · FnWrittenTells: laid · FnExactIndexCopyBytes: laid · FnExactIndexExactBytes: laid.
  DERIVED. THE GIVEN ROWS OF THIS SEAT. 6 by the template 'for every input the law returns true; each argument reads behind the call as it read before'; 0 by the template 'total and deterministic' (their statements: YtpkgkppehefibaaDoorTotals.lean).
  GIVEN WITH THE SEED: the statements are not yours to turn. If you find one false, say at which input.
  Laid BY PROGRAM, IN A SANDBOX (cutbox-rows.mjs): the forced cells as the released guide's own fill.sh prints them over the translation ec5dcb552f6b5cb5… (all of the seat's roots in one cut). By AI agents, Wed Nov 11 2026. No macro, syntax, notation, axiom, sorry.
-/
import Derived.Test.YtpkgkppehefibaaDoorChecked
import GoSem.Claim
import GoSem.ClaimJoined
import GoSem.ClaimMapViews
import Derived.JoinedTies
import Derived.KernelRfl
namespace Go.Proofs.YtpkgkppehefibaaDoor
/- THE CELL 'sum', in the pinned program and in every row, IS THE sha256 OF THE DUMP (.gsa) THAT YtpkgkppehefibaaDoorProg.lean LOADS. Nothing in Lean hashes anything: it is a label: what it is worth is what the hold of that sum in a sandbox is worth. -/
noncomputable def Tryd.pinned : Pinned := { name := "ytpkgkppehefibaadoor", sum := "ec5dcb552f6b5cb50e661743ccde4457974afe881af4422171cf2015d858ea94", checked := Tryd.checked }
namespace Rows
def none {H : Type} : Left H := { results := [], args := [] }

/- WHAT THE LISTED PACKAGE-LEVEL VARIABLES READ AS WHEN THE CALL BEGINS. Each datum BY PROGRAM (the guide's laid-datum.mjs) off the statement by which the dump's own 'gosem.cut.vars' lays the variable. In a bare row this is a premise. The card (YtpkgkppehefibaaDoorCards.lean) ties it to the program's text. -/
def laid_index_suffixarray_maxData32 {H : Type} : DataW H := .lit (.int .i64 2147483647)
def laid_io_ErrShortBuffer {H : Type} : DataW H := .iface "*errors.errorString" (.ptr (.agg [.lit (.string [115, 104, 111, 114, 116, 32, 98, 117, 102, 102, 101, 114])]))
def laid_io_EOF {H : Type} : DataW H := .iface "*errors.errorString" (.ptr (.agg [.lit (.string [69, 79, 70])]))
def laid_io_ErrUnexpectedEOF {H : Type} : DataW H := .iface "*errors.errorString" (.ptr (.agg [.lit (.string [117, 110, 101, 120, 112, 101, 99, 116, 101, 100, 32, 69, 79, 70])]))
def laid_index_suffixarray_errCorrupted {H : Type} : DataW H := .iface "*errors.errorString" (.ptr (.agg [.lit (.string [115, 117, 102, 102, 105, 120, 97, 114, 114, 97, 121, 58, 32, 100, 97, 116, 97, 32, 99, 111, 114, 114, 117, 112, 116, 101, 100])]))

/-- 'laws.FnPrefixes': WHATEVER THE INPUT: true; the input reads as it did. -/
def fnPrefixesSpec : ChangeSpec := { name := "fnPrefixes", fn := fun _ => fun
  | [d] => { results := [.lit (.bool true)], args := [d] }
  | _ => none }
def fnPrefixesRow : OpenClaim := { program := "ytpkgkppehefibaadoor", sum := "ec5dcb552f6b5cb50e661743ccde4457974afe881af4422171cf2015d858ea94", func := "loop.example/lib-g01090/laws.FnPrefixes", spec := "fnPrefixes", inPlace := ["internal/bytealg.Compare"], unfollowed := true, recurses := true, named := ["index/suffixarray.maxData32"], apart := false, laid := [("index/suffixarray.maxData32", laid_index_suffixarray_maxData32)] }
def FnPrefixesSaid : Prop := fnPrefixesRow.holds Tryd.pinned (OpenSpec.ofChange fnPrefixesSpec)

/-- ITS FALSE NEIGHBOUR: 'it returns false'. Refute it at one input. -/
def fnPrefixesWrong : ChangeSpec := { name := "fnPrefixes", fn := fun _ => fun
  | [d] => { results := [.lit (.bool false)], args := [d] }
  | _ => none }
def FnPrefixesWrongFalsely : Prop := fnPrefixesRow.holds Tryd.pinned (OpenSpec.ofChange fnPrefixesWrong)

/-- 'laws.FnSuffixes': WHATEVER THE INPUT: true; the input reads as it did. -/
def fnSuffixesSpec : ChangeSpec := { name := "fnSuffixes", fn := fun _ => fun
  | [d] => { results := [.lit (.bool true)], args := [d] }
  | _ => none }
def fnSuffixesRow : OpenClaim := { program := "ytpkgkppehefibaadoor", sum := "ec5dcb552f6b5cb50e661743ccde4457974afe881af4422171cf2015d858ea94", func := "loop.example/lib-g01090/laws.FnSuffixes", spec := "fnSuffixes", inPlace := ["internal/bytealg.Compare"], unfollowed := true, recurses := true, named := ["index/suffixarray.maxData32"], apart := false, laid := [("index/suffixarray.maxData32", laid_index_suffixarray_maxData32)] }
def FnSuffixesSaid : Prop := fnSuffixesRow.holds Tryd.pinned (OpenSpec.ofChange fnSuffixesSpec)

/-- ITS FALSE NEIGHBOUR: 'it returns false'. Refute it at one input. -/
def fnSuffixesWrong : ChangeSpec := { name := "fnSuffixes", fn := fun _ => fun
  | [d] => { results := [.lit (.bool false)], args := [d] }
  | _ => none }
def FnSuffixesWrongFalsely : Prop := fnSuffixesRow.holds Tryd.pinned (OpenSpec.ofChange fnSuffixesWrong)

/-- 'laws.FnWrittenAgain': WHATEVER THE INPUT: true; the input reads as it did. -/
def fnWrittenAgainSpec : ChangeSpec := { name := "fnWrittenAgain", fn := fun _ => fun
  | [d] => { results := [.lit (.bool true)], args := [d] }
  | _ => none }
def fnWrittenAgainRow : OpenClaim := { program := "ytpkgkppehefibaadoor", sum := "ec5dcb552f6b5cb50e661743ccde4457974afe881af4422171cf2015d858ea94", func := "loop.example/lib-g01090/laws.FnWrittenAgain", spec := "fnWrittenAgain", unfollowed := true, recurses := true, named := ["index/suffixarray.maxData32"], apart := false, laid := [("index/suffixarray.maxData32", laid_index_suffixarray_maxData32)] }
def FnWrittenAgainSaid : Prop := fnWrittenAgainRow.holds Tryd.pinned (OpenSpec.ofChange fnWrittenAgainSpec)

/-- ITS FALSE NEIGHBOUR: 'it returns false'. Refute it at one input. -/
def fnWrittenAgainWrong : ChangeSpec := { name := "fnWrittenAgain", fn := fun _ => fun
  | [d] => { results := [.lit (.bool false)], args := [d] }
  | _ => none }
def FnWrittenAgainWrongFalsely : Prop := fnWrittenAgainRow.holds Tryd.pinned (OpenSpec.ofChange fnWrittenAgainWrong)

/-- 'laws.FnWrittenTells': WHATEVER THE INPUT: true; the input reads as it did. -/
def fnWrittenTellsSpec : ChangeSpec := { name := "fnWrittenTells", fn := fun _ => fun
  | [d1, d2] => { results := [.lit (.bool true)], args := [d1, d2] }
  | _ => none }
def fnWrittenTellsRow : OpenClaim := { program := "ytpkgkppehefibaadoor", sum := "ec5dcb552f6b5cb50e661743ccde4457974afe881af4422171cf2015d858ea94", func := "loop.example/lib-g01090/laws.FnWrittenTells", spec := "fnWrittenTells", unfollowed := true, recurses := true, named := ["index/suffixarray.maxData32"], apart := false, laid := [("index/suffixarray.maxData32", laid_index_suffixarray_maxData32)] }
def FnWrittenTellsSaid : Prop := fnWrittenTellsRow.holds Tryd.pinned (OpenSpec.ofChange fnWrittenTellsSpec)

/-- ITS FALSE NEIGHBOUR: 'it returns false'. Refute it at one input. -/
def fnWrittenTellsWrong : ChangeSpec := { name := "fnWrittenTells", fn := fun _ => fun
  | [d1, d2] => { results := [.lit (.bool false)], args := [d1, d2] }
  | _ => none }
def FnWrittenTellsWrongFalsely : Prop := fnWrittenTellsRow.holds Tryd.pinned (OpenSpec.ofChange fnWrittenTellsWrong)

/-- 'laws.FnExactIndexCopyBytes': WHATEVER THE INPUT: true; the input reads as it did. -/
def fnExactIndexCopyBytesSpec : ChangeSpec := { name := "fnExactIndexCopyBytes", fn := fun _ => fun
  | [d] => { results := [.lit (.bool true)], args := [d] }
  | _ => none }
def fnExactIndexCopyBytesRow : OpenClaim := { program := "ytpkgkppehefibaadoor", sum := "ec5dcb552f6b5cb50e661743ccde4457974afe881af4422171cf2015d858ea94", func := "loop.example/lib-g01090/laws.FnExactIndexCopyBytes", spec := "fnExactIndexCopyBytes", unfollowed := true, recurses := true, named := ["index/suffixarray.maxData32", "index/suffixarray.errCorrupted", "io.ErrShortBuffer", "io.EOF", "io.ErrUnexpectedEOF"], apart := false, laid := [("io.ErrShortBuffer", laid_io_ErrShortBuffer), ("io.EOF", laid_io_EOF), ("io.ErrUnexpectedEOF", laid_io_ErrUnexpectedEOF), ("index/suffixarray.maxData32", laid_index_suffixarray_maxData32), ("index/suffixarray.errCorrupted", laid_index_suffixarray_errCorrupted)] }
def FnExactIndexCopyBytesSaid : Prop := fnExactIndexCopyBytesRow.holds Tryd.pinned (OpenSpec.ofChange fnExactIndexCopyBytesSpec)

/-- ITS FALSE NEIGHBOUR: 'it returns false'. Refute it at one input. -/
def fnExactIndexCopyBytesWrong : ChangeSpec := { name := "fnExactIndexCopyBytes", fn := fun _ => fun
  | [d] => { results := [.lit (.bool false)], args := [d] }
  | _ => none }
def FnExactIndexCopyBytesWrongFalsely : Prop := fnExactIndexCopyBytesRow.holds Tryd.pinned (OpenSpec.ofChange fnExactIndexCopyBytesWrong)

/-- 'laws.FnExactIndexExactBytes': WHATEVER THE INPUT: true; the input reads as it did. -/
def fnExactIndexExactBytesSpec : ChangeSpec := { name := "fnExactIndexExactBytes", fn := fun _ => fun
  | [d1, d2] => { results := [.lit (.bool true)], args := [d1, d2] }
  | _ => none }
def fnExactIndexExactBytesRow : OpenClaim := { program := "ytpkgkppehefibaadoor", sum := "ec5dcb552f6b5cb50e661743ccde4457974afe881af4422171cf2015d858ea94", func := "loop.example/lib-g01090/laws.FnExactIndexExactBytes", spec := "fnExactIndexExactBytes", unfollowed := true, recurses := true, named := ["index/suffixarray.maxData32", "index/suffixarray.errCorrupted", "io.ErrShortBuffer", "io.EOF", "io.ErrUnexpectedEOF"], apart := false, laid := [("io.ErrShortBuffer", laid_io_ErrShortBuffer), ("io.EOF", laid_io_EOF), ("io.ErrUnexpectedEOF", laid_io_ErrUnexpectedEOF), ("index/suffixarray.maxData32", laid_index_suffixarray_maxData32), ("index/suffixarray.errCorrupted", laid_index_suffixarray_errCorrupted)] }
def FnExactIndexExactBytesSaid : Prop := fnExactIndexExactBytesRow.holds Tryd.pinned (OpenSpec.ofChange fnExactIndexExactBytesSpec)

/-- ITS FALSE NEIGHBOUR: 'it returns false'. Refute it at one input. -/
def fnExactIndexExactBytesWrong : ChangeSpec := { name := "fnExactIndexExactBytes", fn := fun _ => fun
  | [d1, d2] => { results := [.lit (.bool false)], args := [d1, d2] }
  | _ => none }
def FnExactIndexExactBytesWrongFalsely : Prop := fnExactIndexExactBytesRow.holds Tryd.pinned (OpenSpec.ofChange fnExactIndexExactBytesWrong)

/- THE SECOND FORM. 'bulk': how many values and letters a reading holds, each counted each time it is reached (what is shared counts as often as it is met; a slice's spare places count too). A statement '..UptoSaid' is the law's where the arguments, and the package variables that the reading takes, are together of bulk at most 1048576: NARROWER than '..Said'. Prove '..Said' where nothing that the law and all that it calls make is longer than what came in: it says more and counts as full. Else prove '..UptoSaid'. A law counts once. -/
mutual
def uptoBulk {H : Type} : DataW H → Nat
  | .lit (.string bytes) => bytes.length + 1
  | .lit _ => 1
  | .nil => 1
  | .ptr d => uptoBulk d + 1
  | .slice elems spare => uptoBulkAll elems + uptoBulkAll spare + 1
  | .agg parts => uptoBulkAll parts + 1
  | .iface _ d => uptoBulk d + 1
  | .map entries => uptoBulkEntries entries + 1
  | .held _ => 1
def uptoBulkAll {H : Type} : List (DataW H) → Nat
  | [] => 0
  | d :: r => uptoBulk d + uptoBulkAll r
def uptoBulkEntries {H : Type} : List (Lit × DataW H) → Nat
  | [] => 0
  | x :: r => uptoBulkEntry x + uptoBulkEntries r
def uptoBulkEntry {H : Type} : Lit × DataW H → Nat
  | (.string bytes, d) => bytes.length + uptoBulk d + 1
  | (_, d) => uptoBulk d + 1
 end
def uptoSmall : (H : Type) → List (DataW H) → Bool := fun _ ds => decide (uptoBulkAll ds ≤ 1048576)
def OpenSpec.upto (s : _root_.Go.ChangeSpec) : _root_.Go.OpenSpec := { _root_.Go.OpenSpec.ofChange s with cond := some uptoSmall }

/-- 'laws.FnPrefixes', WHERE WHAT IT READS IS OF BULK AT MOST 1048576: true; the input reads as it did. -/
def fnPrefixesUptoRow : OpenClaim := { program := "ytpkgkppehefibaadoor", sum := "ec5dcb552f6b5cb50e661743ccde4457974afe881af4422171cf2015d858ea94", func := "loop.example/lib-g01090/laws.FnPrefixes", spec := "fnPrefixes", inPlace := ["internal/bytealg.Compare"], unfollowed := true, recurses := true, named := ["index/suffixarray.maxData32"], apart := false, laid := [("index/suffixarray.maxData32", laid_index_suffixarray_maxData32)], narrowed := true }
def FnPrefixesUptoSaid : Prop := fnPrefixesUptoRow.holds Tryd.pinned (OpenSpec.upto fnPrefixesSpec)

/-- 'laws.FnSuffixes', WHERE WHAT IT READS IS OF BULK AT MOST 1048576: true; the input reads as it did. -/
def fnSuffixesUptoRow : OpenClaim := { program := "ytpkgkppehefibaadoor", sum := "ec5dcb552f6b5cb50e661743ccde4457974afe881af4422171cf2015d858ea94", func := "loop.example/lib-g01090/laws.FnSuffixes", spec := "fnSuffixes", inPlace := ["internal/bytealg.Compare"], unfollowed := true, recurses := true, named := ["index/suffixarray.maxData32"], apart := false, laid := [("index/suffixarray.maxData32", laid_index_suffixarray_maxData32)], narrowed := true }
def FnSuffixesUptoSaid : Prop := fnSuffixesUptoRow.holds Tryd.pinned (OpenSpec.upto fnSuffixesSpec)

/-- 'laws.FnWrittenAgain', WHERE WHAT IT READS IS OF BULK AT MOST 1048576: true; the input reads as it did. -/
def fnWrittenAgainUptoRow : OpenClaim := { program := "ytpkgkppehefibaadoor", sum := "ec5dcb552f6b5cb50e661743ccde4457974afe881af4422171cf2015d858ea94", func := "loop.example/lib-g01090/laws.FnWrittenAgain", spec := "fnWrittenAgain", unfollowed := true, recurses := true, named := ["index/suffixarray.maxData32"], apart := false, laid := [("index/suffixarray.maxData32", laid_index_suffixarray_maxData32)], narrowed := true }
def FnWrittenAgainUptoSaid : Prop := fnWrittenAgainUptoRow.holds Tryd.pinned (OpenSpec.upto fnWrittenAgainSpec)

/-- 'laws.FnWrittenTells', WHERE WHAT IT READS IS OF BULK AT MOST 1048576: true; the input reads as it did. -/
def fnWrittenTellsUptoRow : OpenClaim := { program := "ytpkgkppehefibaadoor", sum := "ec5dcb552f6b5cb50e661743ccde4457974afe881af4422171cf2015d858ea94", func := "loop.example/lib-g01090/laws.FnWrittenTells", spec := "fnWrittenTells", unfollowed := true, recurses := true, named := ["index/suffixarray.maxData32"], apart := false, laid := [("index/suffixarray.maxData32", laid_index_suffixarray_maxData32)], narrowed := true }
def FnWrittenTellsUptoSaid : Prop := fnWrittenTellsUptoRow.holds Tryd.pinned (OpenSpec.upto fnWrittenTellsSpec)

/-- 'laws.FnExactIndexCopyBytes', WHERE WHAT IT READS IS OF BULK AT MOST 1048576: true; the input reads as it did. -/
def fnExactIndexCopyBytesUptoRow : OpenClaim := { program := "ytpkgkppehefibaadoor", sum := "ec5dcb552f6b5cb50e661743ccde4457974afe881af4422171cf2015d858ea94", func := "loop.example/lib-g01090/laws.FnExactIndexCopyBytes", spec := "fnExactIndexCopyBytes", unfollowed := true, recurses := true, named := ["index/suffixarray.maxData32", "index/suffixarray.errCorrupted", "io.ErrShortBuffer", "io.EOF", "io.ErrUnexpectedEOF"], apart := false, laid := [("io.ErrShortBuffer", laid_io_ErrShortBuffer), ("io.EOF", laid_io_EOF), ("io.ErrUnexpectedEOF", laid_io_ErrUnexpectedEOF), ("index/suffixarray.maxData32", laid_index_suffixarray_maxData32), ("index/suffixarray.errCorrupted", laid_index_suffixarray_errCorrupted)], narrowed := true }
def FnExactIndexCopyBytesUptoSaid : Prop := fnExactIndexCopyBytesUptoRow.holds Tryd.pinned (OpenSpec.upto fnExactIndexCopyBytesSpec)

/-- 'laws.FnExactIndexExactBytes', WHERE WHAT IT READS IS OF BULK AT MOST 1048576: true; the input reads as it did. -/
def fnExactIndexExactBytesUptoRow : OpenClaim := { program := "ytpkgkppehefibaadoor", sum := "ec5dcb552f6b5cb50e661743ccde4457974afe881af4422171cf2015d858ea94", func := "loop.example/lib-g01090/laws.FnExactIndexExactBytes", spec := "fnExactIndexExactBytes", unfollowed := true, recurses := true, named := ["index/suffixarray.maxData32", "index/suffixarray.errCorrupted", "io.ErrShortBuffer", "io.EOF", "io.ErrUnexpectedEOF"], apart := false, laid := [("io.ErrShortBuffer", laid_io_ErrShortBuffer), ("io.EOF", laid_io_EOF), ("io.ErrUnexpectedEOF", laid_io_ErrUnexpectedEOF), ("index/suffixarray.maxData32", laid_index_suffixarray_maxData32), ("index/suffixarray.errCorrupted", laid_index_suffixarray_errCorrupted)], narrowed := true }
def FnExactIndexExactBytesUptoSaid : Prop := fnExactIndexExactBytesUptoRow.holds Tryd.pinned (OpenSpec.upto fnExactIndexExactBytesSpec)

end Rows
end Go.Proofs.YtpkgkppehefibaaDoor
