/-
  NARROWER THAN 'FOR EVERY INPUT', by the rows' own cells (each row's printed sentence says how): FnLonger: laid · FnJoined: laid · FnCutData: laid · FnTailData: laid · FnTwoData: laid · FnReversed: laid · FnRenamed: laid · FnDoubled: laid · FnInnerPart: laid · FnPart: laid · FnSingleByte: laid · FnOverlapping: laid.
  DERIVED. THE GIVEN ROWS OF THIS SEAT. 12 by the template 'for every input the law returns true; each argument reads behind the call as it read before'; 0 by the template 'total and deterministic' (their statements: YtihegdecaocbgaaDoorTotals.lean).
  GIVEN WITH THE SEED: the statements are not yours to turn. If you find one false, say at which input.
  Laid BY PROGRAM, IN A SANDBOX (cutbox-rows.mjs): the forced cells as the released guide's own fill.sh prints them over the translation 95204706872145c8… (all of the seat's roots in one cut). By AI agents, Wed Nov 11 2026. No macro, syntax, notation, axiom, sorry.
-/
import Derived.Test.YtihegdecaocbgaaDoorChecked
import GoSem.Claim
import GoSem.ClaimJoined
import GoSem.ClaimMapViews
import Derived.JoinedTies
import Derived.KernelRfl
namespace Go.Proofs.YtihegdecaocbgaaDoor
/- THE CELL 'sum', in the pinned program and in every row, IS THE sha256 OF THE DUMP (.gsa) THAT YtihegdecaocbgaaDoorProg.lean LOADS. Nothing in Lean hashes anything: it is a label: what it is worth is what the hold of that sum in a sandbox is worth. -/
noncomputable def Tryd.pinned : Pinned := { name := "ytihegdecaocbgaadoor", sum := "95204706872145c8853fe62fcf15598f34864111805c03dceb3ce39a537510f3", checked := Tryd.checked }
namespace Rows
def none {H : Type} : Left H := { results := [], args := [] }

/- WHAT THE LISTED PACKAGE-LEVEL VARIABLES READ AS WHEN THE CALL BEGINS. Each datum BY PROGRAM (the guide's laid-datum.mjs) off the statement by which the dump's own 'gosem.cut.vars' lays the variable. In a bare row this is a premise. The card (YtihegdecaocbgaaDoorCards.lean) ties it to the program's text. -/
def laid_index_suffixarray_maxData32 {H : Type} : DataW H := .lit (.int .i64 2147483647)

/-- 'laws.FnLonger': WHATEVER THE INPUT: true; the input reads as it did. -/
def fnLongerSpec : ChangeSpec := { name := "fnLonger", fn := fun _ => fun
  | [d1, d2, d3] => { results := [.lit (.bool true)], args := [d1, d2, d3] }
  | _ => none }
def fnLongerRow : OpenClaim := { program := "ytihegdecaocbgaadoor", sum := "95204706872145c8853fe62fcf15598f34864111805c03dceb3ce39a537510f3", func := "loop.example/lib-g01090/laws.FnLonger", spec := "fnLonger", inPlace := ["internal/bytealg.Compare"], unfollowed := true, recurses := true, named := ["index/suffixarray.maxData32"], apart := false, laid := [("index/suffixarray.maxData32", laid_index_suffixarray_maxData32)] }
def FnLongerSaid : Prop := fnLongerRow.holds Tryd.pinned (OpenSpec.ofChange fnLongerSpec)

/-- ITS FALSE NEIGHBOUR: 'it returns false'. Refute it at one input. -/
def fnLongerWrong : ChangeSpec := { name := "fnLonger", fn := fun _ => fun
  | [d1, d2, d3] => { results := [.lit (.bool false)], args := [d1, d2, d3] }
  | _ => none }
def FnLongerWrongFalsely : Prop := fnLongerRow.holds Tryd.pinned (OpenSpec.ofChange fnLongerWrong)

/-- 'laws.FnJoined': WHATEVER THE INPUT: true; the input reads as it did. -/
def fnJoinedSpec : ChangeSpec := { name := "fnJoined", fn := fun _ => fun
  | [d1, d2, d3] => { results := [.lit (.bool true)], args := [d1, d2, d3] }
  | _ => none }
def fnJoinedRow : OpenClaim := { program := "ytihegdecaocbgaadoor", sum := "95204706872145c8853fe62fcf15598f34864111805c03dceb3ce39a537510f3", func := "loop.example/lib-g01090/laws.FnJoined", spec := "fnJoined", inPlace := ["internal/bytealg.Compare"], unfollowed := true, recurses := true, named := ["index/suffixarray.maxData32"], apart := false, laid := [("index/suffixarray.maxData32", laid_index_suffixarray_maxData32)] }
def FnJoinedSaid : Prop := fnJoinedRow.holds Tryd.pinned (OpenSpec.ofChange fnJoinedSpec)

/-- ITS FALSE NEIGHBOUR: 'it returns false'. Refute it at one input. -/
def fnJoinedWrong : ChangeSpec := { name := "fnJoined", fn := fun _ => fun
  | [d1, d2, d3] => { results := [.lit (.bool false)], args := [d1, d2, d3] }
  | _ => none }
def FnJoinedWrongFalsely : Prop := fnJoinedRow.holds Tryd.pinned (OpenSpec.ofChange fnJoinedWrong)

/-- 'laws.FnCutData': WHATEVER THE INPUT: true; the input reads as it did. -/
def fnCutDataSpec : ChangeSpec := { name := "fnCutData", fn := fun _ => fun
  | [d1, d2, d3] => { results := [.lit (.bool true)], args := [d1, d2, d3] }
  | _ => none }
def fnCutDataRow : OpenClaim := { program := "ytihegdecaocbgaadoor", sum := "95204706872145c8853fe62fcf15598f34864111805c03dceb3ce39a537510f3", func := "loop.example/lib-g01090/laws.FnCutData", spec := "fnCutData", inPlace := ["internal/bytealg.Compare"], unfollowed := true, recurses := true, named := ["index/suffixarray.maxData32"], apart := false, laid := [("index/suffixarray.maxData32", laid_index_suffixarray_maxData32)] }
def FnCutDataSaid : Prop := fnCutDataRow.holds Tryd.pinned (OpenSpec.ofChange fnCutDataSpec)

/-- ITS FALSE NEIGHBOUR: 'it returns false'. Refute it at one input. -/
def fnCutDataWrong : ChangeSpec := { name := "fnCutData", fn := fun _ => fun
  | [d1, d2, d3] => { results := [.lit (.bool false)], args := [d1, d2, d3] }
  | _ => none }
def FnCutDataWrongFalsely : Prop := fnCutDataRow.holds Tryd.pinned (OpenSpec.ofChange fnCutDataWrong)

/-- 'laws.FnTailData': WHATEVER THE INPUT: true; the input reads as it did. -/
def fnTailDataSpec : ChangeSpec := { name := "fnTailData", fn := fun _ => fun
  | [d1, d2, d3] => { results := [.lit (.bool true)], args := [d1, d2, d3] }
  | _ => none }
def fnTailDataRow : OpenClaim := { program := "ytihegdecaocbgaadoor", sum := "95204706872145c8853fe62fcf15598f34864111805c03dceb3ce39a537510f3", func := "loop.example/lib-g01090/laws.FnTailData", spec := "fnTailData", inPlace := ["internal/bytealg.Compare"], unfollowed := true, recurses := true, named := ["index/suffixarray.maxData32"], apart := false, laid := [("index/suffixarray.maxData32", laid_index_suffixarray_maxData32)] }
def FnTailDataSaid : Prop := fnTailDataRow.holds Tryd.pinned (OpenSpec.ofChange fnTailDataSpec)

/-- ITS FALSE NEIGHBOUR: 'it returns false'. Refute it at one input. -/
def fnTailDataWrong : ChangeSpec := { name := "fnTailData", fn := fun _ => fun
  | [d1, d2, d3] => { results := [.lit (.bool false)], args := [d1, d2, d3] }
  | _ => none }
def FnTailDataWrongFalsely : Prop := fnTailDataRow.holds Tryd.pinned (OpenSpec.ofChange fnTailDataWrong)

/-- 'laws.FnTwoData': WHATEVER THE INPUT: true; the input reads as it did. -/
def fnTwoDataSpec : ChangeSpec := { name := "fnTwoData", fn := fun _ => fun
  | [d1, d2, d3] => { results := [.lit (.bool true)], args := [d1, d2, d3] }
  | _ => none }
def fnTwoDataRow : OpenClaim := { program := "ytihegdecaocbgaadoor", sum := "95204706872145c8853fe62fcf15598f34864111805c03dceb3ce39a537510f3", func := "loop.example/lib-g01090/laws.FnTwoData", spec := "fnTwoData", inPlace := ["internal/bytealg.Compare"], unfollowed := true, recurses := true, named := ["index/suffixarray.maxData32"], apart := false, laid := [("index/suffixarray.maxData32", laid_index_suffixarray_maxData32)] }
def FnTwoDataSaid : Prop := fnTwoDataRow.holds Tryd.pinned (OpenSpec.ofChange fnTwoDataSpec)

/-- ITS FALSE NEIGHBOUR: 'it returns false'. Refute it at one input. -/
def fnTwoDataWrong : ChangeSpec := { name := "fnTwoData", fn := fun _ => fun
  | [d1, d2, d3] => { results := [.lit (.bool false)], args := [d1, d2, d3] }
  | _ => none }
def FnTwoDataWrongFalsely : Prop := fnTwoDataRow.holds Tryd.pinned (OpenSpec.ofChange fnTwoDataWrong)

/-- 'laws.FnReversed': WHATEVER THE INPUT: true; the input reads as it did. -/
def fnReversedSpec : ChangeSpec := { name := "fnReversed", fn := fun _ => fun
  | [d1, d2] => { results := [.lit (.bool true)], args := [d1, d2] }
  | _ => none }
def fnReversedRow : OpenClaim := { program := "ytihegdecaocbgaadoor", sum := "95204706872145c8853fe62fcf15598f34864111805c03dceb3ce39a537510f3", func := "loop.example/lib-g01090/laws.FnReversed", spec := "fnReversed", inPlace := ["internal/bytealg.Compare"], unfollowed := true, recurses := true, named := ["index/suffixarray.maxData32"], apart := false, laid := [("index/suffixarray.maxData32", laid_index_suffixarray_maxData32)] }
def FnReversedSaid : Prop := fnReversedRow.holds Tryd.pinned (OpenSpec.ofChange fnReversedSpec)

/-- ITS FALSE NEIGHBOUR: 'it returns false'. Refute it at one input. -/
def fnReversedWrong : ChangeSpec := { name := "fnReversed", fn := fun _ => fun
  | [d1, d2] => { results := [.lit (.bool false)], args := [d1, d2] }
  | _ => none }
def FnReversedWrongFalsely : Prop := fnReversedRow.holds Tryd.pinned (OpenSpec.ofChange fnReversedWrong)

/-- 'laws.FnRenamed': WHATEVER THE INPUT: true; the input reads as it did. -/
def fnRenamedSpec : ChangeSpec := { name := "fnRenamed", fn := fun _ => fun
  | [d1, d2, d3, d4] => { results := [.lit (.bool true)], args := [d1, d2, d3, d4] }
  | _ => none }
def fnRenamedRow : OpenClaim := { program := "ytihegdecaocbgaadoor", sum := "95204706872145c8853fe62fcf15598f34864111805c03dceb3ce39a537510f3", func := "loop.example/lib-g01090/laws.FnRenamed", spec := "fnRenamed", inPlace := ["internal/bytealg.Compare"], unfollowed := true, recurses := true, named := ["index/suffixarray.maxData32"], apart := false, laid := [("index/suffixarray.maxData32", laid_index_suffixarray_maxData32)] }
def FnRenamedSaid : Prop := fnRenamedRow.holds Tryd.pinned (OpenSpec.ofChange fnRenamedSpec)

/-- ITS FALSE NEIGHBOUR: 'it returns false'. Refute it at one input. -/
def fnRenamedWrong : ChangeSpec := { name := "fnRenamed", fn := fun _ => fun
  | [d1, d2, d3, d4] => { results := [.lit (.bool false)], args := [d1, d2, d3, d4] }
  | _ => none }
def FnRenamedWrongFalsely : Prop := fnRenamedRow.holds Tryd.pinned (OpenSpec.ofChange fnRenamedWrong)

/-- 'laws.FnDoubled': WHATEVER THE INPUT: true; the input reads as it did. -/
def fnDoubledSpec : ChangeSpec := { name := "fnDoubled", fn := fun _ => fun
  | [d1, d2] => { results := [.lit (.bool true)], args := [d1, d2] }
  | _ => none }
def fnDoubledRow : OpenClaim := { program := "ytihegdecaocbgaadoor", sum := "95204706872145c8853fe62fcf15598f34864111805c03dceb3ce39a537510f3", func := "loop.example/lib-g01090/laws.FnDoubled", spec := "fnDoubled", inPlace := ["internal/bytealg.Compare"], unfollowed := true, recurses := true, named := ["index/suffixarray.maxData32"], apart := false, laid := [("index/suffixarray.maxData32", laid_index_suffixarray_maxData32)] }
def FnDoubledSaid : Prop := fnDoubledRow.holds Tryd.pinned (OpenSpec.ofChange fnDoubledSpec)

/-- ITS FALSE NEIGHBOUR: 'it returns false'. Refute it at one input. -/
def fnDoubledWrong : ChangeSpec := { name := "fnDoubled", fn := fun _ => fun
  | [d1, d2] => { results := [.lit (.bool false)], args := [d1, d2] }
  | _ => none }
def FnDoubledWrongFalsely : Prop := fnDoubledRow.holds Tryd.pinned (OpenSpec.ofChange fnDoubledWrong)

/-- 'laws.FnInnerPart': WHATEVER THE INPUT: true; the input reads as it did. -/
def fnInnerPartSpec : ChangeSpec := { name := "fnInnerPart", fn := fun _ => fun
  | [d1, d2, d3, d4] => { results := [.lit (.bool true)], args := [d1, d2, d3, d4] }
  | _ => none }
def fnInnerPartRow : OpenClaim := { program := "ytihegdecaocbgaadoor", sum := "95204706872145c8853fe62fcf15598f34864111805c03dceb3ce39a537510f3", func := "loop.example/lib-g01090/laws.FnInnerPart", spec := "fnInnerPart", inPlace := ["internal/bytealg.Compare"], unfollowed := true, recurses := true, named := ["index/suffixarray.maxData32"], apart := false, laid := [("index/suffixarray.maxData32", laid_index_suffixarray_maxData32)] }
def FnInnerPartSaid : Prop := fnInnerPartRow.holds Tryd.pinned (OpenSpec.ofChange fnInnerPartSpec)

/-- ITS FALSE NEIGHBOUR: 'it returns false'. Refute it at one input. -/
def fnInnerPartWrong : ChangeSpec := { name := "fnInnerPart", fn := fun _ => fun
  | [d1, d2, d3, d4] => { results := [.lit (.bool false)], args := [d1, d2, d3, d4] }
  | _ => none }
def FnInnerPartWrongFalsely : Prop := fnInnerPartRow.holds Tryd.pinned (OpenSpec.ofChange fnInnerPartWrong)

/-- 'laws.FnPart': WHATEVER THE INPUT: true; the input reads as it did. -/
def fnPartSpec : ChangeSpec := { name := "fnPart", fn := fun _ => fun
  | [d1, d2, d3] => { results := [.lit (.bool true)], args := [d1, d2, d3] }
  | _ => none }
def fnPartRow : OpenClaim := { program := "ytihegdecaocbgaadoor", sum := "95204706872145c8853fe62fcf15598f34864111805c03dceb3ce39a537510f3", func := "loop.example/lib-g01090/laws.FnPart", spec := "fnPart", inPlace := ["internal/bytealg.Compare"], unfollowed := true, recurses := true, named := ["index/suffixarray.maxData32"], apart := false, laid := [("index/suffixarray.maxData32", laid_index_suffixarray_maxData32)] }
def FnPartSaid : Prop := fnPartRow.holds Tryd.pinned (OpenSpec.ofChange fnPartSpec)

/-- ITS FALSE NEIGHBOUR: 'it returns false'. Refute it at one input. -/
def fnPartWrong : ChangeSpec := { name := "fnPart", fn := fun _ => fun
  | [d1, d2, d3] => { results := [.lit (.bool false)], args := [d1, d2, d3] }
  | _ => none }
def FnPartWrongFalsely : Prop := fnPartRow.holds Tryd.pinned (OpenSpec.ofChange fnPartWrong)

/-- 'laws.FnSingleByte': WHATEVER THE INPUT: true; the input reads as it did. -/
def fnSingleByteSpec : ChangeSpec := { name := "fnSingleByte", fn := fun _ => fun
  | [d1, d2] => { results := [.lit (.bool true)], args := [d1, d2] }
  | _ => none }
def fnSingleByteRow : OpenClaim := { program := "ytihegdecaocbgaadoor", sum := "95204706872145c8853fe62fcf15598f34864111805c03dceb3ce39a537510f3", func := "loop.example/lib-g01090/laws.FnSingleByte", spec := "fnSingleByte", inPlace := ["internal/bytealg.Compare"], unfollowed := true, recurses := true, named := ["index/suffixarray.maxData32"], apart := false, laid := [("index/suffixarray.maxData32", laid_index_suffixarray_maxData32)] }
def FnSingleByteSaid : Prop := fnSingleByteRow.holds Tryd.pinned (OpenSpec.ofChange fnSingleByteSpec)

/-- ITS FALSE NEIGHBOUR: 'it returns false'. Refute it at one input. -/
def fnSingleByteWrong : ChangeSpec := { name := "fnSingleByte", fn := fun _ => fun
  | [d1, d2] => { results := [.lit (.bool false)], args := [d1, d2] }
  | _ => none }
def FnSingleByteWrongFalsely : Prop := fnSingleByteRow.holds Tryd.pinned (OpenSpec.ofChange fnSingleByteWrong)

/-- 'laws.FnOverlapping': WHATEVER THE INPUT: true; the input reads as it did. -/
def fnOverlappingSpec : ChangeSpec := { name := "fnOverlapping", fn := fun _ => fun
  | [d1, d2, d3] => { results := [.lit (.bool true)], args := [d1, d2, d3] }
  | _ => none }
def fnOverlappingRow : OpenClaim := { program := "ytihegdecaocbgaadoor", sum := "95204706872145c8853fe62fcf15598f34864111805c03dceb3ce39a537510f3", func := "loop.example/lib-g01090/laws.FnOverlapping", spec := "fnOverlapping", inPlace := ["internal/bytealg.Compare"], unfollowed := true, recurses := true, named := ["index/suffixarray.maxData32"], apart := false, laid := [("index/suffixarray.maxData32", laid_index_suffixarray_maxData32)] }
def FnOverlappingSaid : Prop := fnOverlappingRow.holds Tryd.pinned (OpenSpec.ofChange fnOverlappingSpec)

/-- ITS FALSE NEIGHBOUR: 'it returns false'. Refute it at one input. -/
def fnOverlappingWrong : ChangeSpec := { name := "fnOverlapping", fn := fun _ => fun
  | [d1, d2, d3] => { results := [.lit (.bool false)], args := [d1, d2, d3] }
  | _ => none }
def FnOverlappingWrongFalsely : Prop := fnOverlappingRow.holds Tryd.pinned (OpenSpec.ofChange fnOverlappingWrong)

/- THE SECOND FORM. 'bulk': how many values and letters a reading holds, each counted each time it is reached (what is shared counts as often as it is met; a slice's spare places count too). A statement '..UptoSaid' is the law's where the arguments, and the package variables that the reading takes, are together of bulk at most 1048576: NARROWER than '..Said'. Prove '..Said' where nothing that the law and all that it calls make is longer than what came in: it says more and counts as full. Else prove '..UptoSaid'. A law counts once. -/
mutual
def uptoBulk {H : Type} : DataW H → Nat
  | .lit (.string bytes) => bytes.length + 1
  | .lit _ => 1
  | .nil => 1
  | .ptr d => uptoBulk d + 1
  | .slice elems spare => uptoBulkAll elems + uptoBulkAll spare + 1
  | .agg parts => uptoBulkAll parts + 1
  | .iface _ d => uptoBulk d + 1
  | .map entries => uptoBulkEntries entries + 1
  | .held _ => 1
def uptoBulkAll {H : Type} : List (DataW H) → Nat
  | [] => 0
  | d :: r => uptoBulk d + uptoBulkAll r
def uptoBulkEntries {H : Type} : List (Lit × DataW H) → Nat
  | [] => 0
  | x :: r => uptoBulkEntry x + uptoBulkEntries r
def uptoBulkEntry {H : Type} : Lit × DataW H → Nat
  | (.string bytes, d) => bytes.length + uptoBulk d + 1
  | (_, d) => uptoBulk d + 1
 end
def uptoSmall : (H : Type) → List (DataW H) → Bool := fun _ ds => decide (uptoBulkAll ds ≤ 1048576)
def OpenSpec.upto (s : _root_.Go.ChangeSpec) : _root_.Go.OpenSpec := { _root_.Go.OpenSpec.ofChange s with cond := some uptoSmall }

/-- 'laws.FnLonger', WHERE WHAT IT READS IS OF BULK AT MOST 1048576: true; the input reads as it did. -/
def fnLongerUptoRow : OpenClaim := { program := "ytihegdecaocbgaadoor", sum := "95204706872145c8853fe62fcf15598f34864111805c03dceb3ce39a537510f3", func := "loop.example/lib-g01090/laws.FnLonger", spec := "fnLonger", inPlace := ["internal/bytealg.Compare"], unfollowed := true, recurses := true, named := ["index/suffixarray.maxData32"], apart := false, laid := [("index/suffixarray.maxData32", laid_index_suffixarray_maxData32)], narrowed := true }
def FnLongerUptoSaid : Prop := fnLongerUptoRow.holds Tryd.pinned (OpenSpec.upto fnLongerSpec)

/-- 'laws.FnJoined', WHERE WHAT IT READS IS OF BULK AT MOST 1048576: true; the input reads as it did. -/
def fnJoinedUptoRow : OpenClaim := { program := "ytihegdecaocbgaadoor", sum := "95204706872145c8853fe62fcf15598f34864111805c03dceb3ce39a537510f3", func := "loop.example/lib-g01090/laws.FnJoined", spec := "fnJoined", inPlace := ["internal/bytealg.Compare"], unfollowed := true, recurses := true, named := ["index/suffixarray.maxData32"], apart := false, laid := [("index/suffixarray.maxData32", laid_index_suffixarray_maxData32)], narrowed := true }
def FnJoinedUptoSaid : Prop := fnJoinedUptoRow.holds Tryd.pinned (OpenSpec.upto fnJoinedSpec)

/-- 'laws.FnCutData', WHERE WHAT IT READS IS OF BULK AT MOST 1048576: true; the input reads as it did. -/
def fnCutDataUptoRow : OpenClaim := { program := "ytihegdecaocbgaadoor", sum := "95204706872145c8853fe62fcf15598f34864111805c03dceb3ce39a537510f3", func := "loop.example/lib-g01090/laws.FnCutData", spec := "fnCutData", inPlace := ["internal/bytealg.Compare"], unfollowed := true, recurses := true, named := ["index/suffixarray.maxData32"], apart := false, laid := [("index/suffixarray.maxData32", laid_index_suffixarray_maxData32)], narrowed := true }
def FnCutDataUptoSaid : Prop := fnCutDataUptoRow.holds Tryd.pinned (OpenSpec.upto fnCutDataSpec)

/-- 'laws.FnTailData', WHERE WHAT IT READS IS OF BULK AT MOST 1048576: true; the input reads as it did. -/
def fnTailDataUptoRow : OpenClaim := { program := "ytihegdecaocbgaadoor", sum := "95204706872145c8853fe62fcf15598f34864111805c03dceb3ce39a537510f3", func := "loop.example/lib-g01090/laws.FnTailData", spec := "fnTailData", inPlace := ["internal/bytealg.Compare"], unfollowed := true, recurses := true, named := ["index/suffixarray.maxData32"], apart := false, laid := [("index/suffixarray.maxData32", laid_index_suffixarray_maxData32)], narrowed := true }
def FnTailDataUptoSaid : Prop := fnTailDataUptoRow.holds Tryd.pinned (OpenSpec.upto fnTailDataSpec)

/-- 'laws.FnTwoData', WHERE WHAT IT READS IS OF BULK AT MOST 1048576: true; the input reads as it did. -/
def fnTwoDataUptoRow : OpenClaim := { program := "ytihegdecaocbgaadoor", sum := "95204706872145c8853fe62fcf15598f34864111805c03dceb3ce39a537510f3", func := "loop.example/lib-g01090/laws.FnTwoData", spec := "fnTwoData", inPlace := ["internal/bytealg.Compare"], unfollowed := true, recurses := true, named := ["index/suffixarray.maxData32"], apart := false, laid := [("index/suffixarray.maxData32", laid_index_suffixarray_maxData32)], narrowed := true }
def FnTwoDataUptoSaid : Prop := fnTwoDataUptoRow.holds Tryd.pinned (OpenSpec.upto fnTwoDataSpec)

/-- 'laws.FnReversed', WHERE WHAT IT READS IS OF BULK AT MOST 1048576: true; the input reads as it did. -/
def fnReversedUptoRow : OpenClaim := { program := "ytihegdecaocbgaadoor", sum := "95204706872145c8853fe62fcf15598f34864111805c03dceb3ce39a537510f3", func := "loop.example/lib-g01090/laws.FnReversed", spec := "fnReversed", inPlace := ["internal/bytealg.Compare"], unfollowed := true, recurses := true, named := ["index/suffixarray.maxData32"], apart := false, laid := [("index/suffixarray.maxData32", laid_index_suffixarray_maxData32)], narrowed := true }
def FnReversedUptoSaid : Prop := fnReversedUptoRow.holds Tryd.pinned (OpenSpec.upto fnReversedSpec)

/-- 'laws.FnRenamed', WHERE WHAT IT READS IS OF BULK AT MOST 1048576: true; the input reads as it did. -/
def fnRenamedUptoRow : OpenClaim := { program := "ytihegdecaocbgaadoor", sum := "95204706872145c8853fe62fcf15598f34864111805c03dceb3ce39a537510f3", func := "loop.example/lib-g01090/laws.FnRenamed", spec := "fnRenamed", inPlace := ["internal/bytealg.Compare"], unfollowed := true, recurses := true, named := ["index/suffixarray.maxData32"], apart := false, laid := [("index/suffixarray.maxData32", laid_index_suffixarray_maxData32)], narrowed := true }
def FnRenamedUptoSaid : Prop := fnRenamedUptoRow.holds Tryd.pinned (OpenSpec.upto fnRenamedSpec)

/-- 'laws.FnDoubled', WHERE WHAT IT READS IS OF BULK AT MOST 1048576: true; the input reads as it did. -/
def fnDoubledUptoRow : OpenClaim := { program := "ytihegdecaocbgaadoor", sum := "95204706872145c8853fe62fcf15598f34864111805c03dceb3ce39a537510f3", func := "loop.example/lib-g01090/laws.FnDoubled", spec := "fnDoubled", inPlace := ["internal/bytealg.Compare"], unfollowed := true, recurses := true, named := ["index/suffixarray.maxData32"], apart := false, laid := [("index/suffixarray.maxData32", laid_index_suffixarray_maxData32)], narrowed := true }
def FnDoubledUptoSaid : Prop := fnDoubledUptoRow.holds Tryd.pinned (OpenSpec.upto fnDoubledSpec)

/-- 'laws.FnInnerPart', WHERE WHAT IT READS IS OF BULK AT MOST 1048576: true; the input reads as it did. -/
def fnInnerPartUptoRow : OpenClaim := { program := "ytihegdecaocbgaadoor", sum := "95204706872145c8853fe62fcf15598f34864111805c03dceb3ce39a537510f3", func := "loop.example/lib-g01090/laws.FnInnerPart", spec := "fnInnerPart", inPlace := ["internal/bytealg.Compare"], unfollowed := true, recurses := true, named := ["index/suffixarray.maxData32"], apart := false, laid := [("index/suffixarray.maxData32", laid_index_suffixarray_maxData32)], narrowed := true }
def FnInnerPartUptoSaid : Prop := fnInnerPartUptoRow.holds Tryd.pinned (OpenSpec.upto fnInnerPartSpec)

/-- 'laws.FnPart', WHERE WHAT IT READS IS OF BULK AT MOST 1048576: true; the input reads as it did. -/
def fnPartUptoRow : OpenClaim := { program := "ytihegdecaocbgaadoor", sum := "95204706872145c8853fe62fcf15598f34864111805c03dceb3ce39a537510f3", func := "loop.example/lib-g01090/laws.FnPart", spec := "fnPart", inPlace := ["internal/bytealg.Compare"], unfollowed := true, recurses := true, named := ["index/suffixarray.maxData32"], apart := false, laid := [("index/suffixarray.maxData32", laid_index_suffixarray_maxData32)], narrowed := true }
def FnPartUptoSaid : Prop := fnPartUptoRow.holds Tryd.pinned (OpenSpec.upto fnPartSpec)

/-- 'laws.FnSingleByte', WHERE WHAT IT READS IS OF BULK AT MOST 1048576: true; the input reads as it did. -/
def fnSingleByteUptoRow : OpenClaim := { program := "ytihegdecaocbgaadoor", sum := "95204706872145c8853fe62fcf15598f34864111805c03dceb3ce39a537510f3", func := "loop.example/lib-g01090/laws.FnSingleByte", spec := "fnSingleByte", inPlace := ["internal/bytealg.Compare"], unfollowed := true, recurses := true, named := ["index/suffixarray.maxData32"], apart := false, laid := [("index/suffixarray.maxData32", laid_index_suffixarray_maxData32)], narrowed := true }
def FnSingleByteUptoSaid : Prop := fnSingleByteUptoRow.holds Tryd.pinned (OpenSpec.upto fnSingleByteSpec)

/-- 'laws.FnOverlapping', WHERE WHAT IT READS IS OF BULK AT MOST 1048576: true; the input reads as it did. -/
def fnOverlappingUptoRow : OpenClaim := { program := "ytihegdecaocbgaadoor", sum := "95204706872145c8853fe62fcf15598f34864111805c03dceb3ce39a537510f3", func := "loop.example/lib-g01090/laws.FnOverlapping", spec := "fnOverlapping", inPlace := ["internal/bytealg.Compare"], unfollowed := true, recurses := true, named := ["index/suffixarray.maxData32"], apart := false, laid := [("index/suffixarray.maxData32", laid_index_suffixarray_maxData32)], narrowed := true }
def FnOverlappingUptoSaid : Prop := fnOverlappingUptoRow.holds Tryd.pinned (OpenSpec.upto fnOverlappingSpec)

end Rows
end Go.Proofs.YtihegdecaocbgaaDoor
