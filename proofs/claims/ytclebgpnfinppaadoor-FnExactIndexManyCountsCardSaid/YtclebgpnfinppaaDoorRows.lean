/-
  NARROWER THAN 'FOR EVERY INPUT', by the rows' own cells (each row's printed sentence says how): FnLookupTwice: laid · FnTooLong: laid · FnStrangeByte: laid · FnLookupSome: laid · FnEmpty: laid · FnExactIndexMarks: laid · FnExactIndexManyCounts: laid · FnContinued: laid · FnManyAll: laid · FnManySame: laid · FnEveryByte: laid · FnAllSuffixes: laid.
  DERIVED. THE GIVEN ROWS OF THIS SEAT. 12 by the template 'for every input the law returns true; each argument reads behind the call as it read before'; 0 by the template 'total and deterministic' (their statements: YtclebgpnfinppaaDoorTotals.lean).
  GIVEN WITH THE SEED: the statements are not yours to turn. If you find one false, say at which input.
  Laid BY PROGRAM, IN A SANDBOX (cutbox-rows.mjs): the forced cells as the released guide's own fill.sh prints them over the translation dd71afb68872d4d7… (all of the seat's roots in one cut). By AI agents, Wed Nov 11 2026. No macro, syntax, notation, axiom, sorry.
-/
import Derived.Test.YtclebgpnfinppaaDoorChecked
import GoSem.Claim
import GoSem.ClaimJoined
import GoSem.ClaimMapViews
import Derived.JoinedTies
import Derived.KernelRfl
namespace Go.Proofs.YtclebgpnfinppaaDoor
/- THE CELL 'sum', in the pinned program and in every row, IS THE sha256 OF THE DUMP (.gsa) THAT YtclebgpnfinppaaDoorProg.lean LOADS. Nothing in Lean hashes anything: it is a label: what it is worth is what the hold of that sum in a sandbox is worth. -/
noncomputable def Tryd.pinned : Pinned := { name := "ytclebgpnfinppaadoor", sum := "dd71afb68872d4d7923c2547afe06551849a9b45417b32cafe6d606f8019deae", checked := Tryd.checked }
namespace Rows
def none {H : Type} : Left H := { results := [], args := [] }

/- WHAT THE LISTED PACKAGE-LEVEL VARIABLES READ AS WHEN THE CALL BEGINS. Each datum BY PROGRAM (the guide's laid-datum.mjs) off the statement by which the dump's own 'gosem.cut.vars' lays the variable. In a bare row this is a premise. The card (YtclebgpnfinppaaDoorCards.lean) ties it to the program's text. -/
def laid_index_suffixarray_maxData32 {H : Type} : DataW H := .lit (.int .i64 2147483647)

/-- 'laws.FnLookupTwice': WHATEVER THE INPUT: true; the input reads as it did. -/
def fnLookupTwiceSpec : ChangeSpec := { name := "fnLookupTwice", fn := fun _ => fun
  | [d1, d2, d3] => { results := [.lit (.bool true)], args := [d1, d2, d3] }
  | _ => none }
def fnLookupTwiceRow : OpenClaim := { program := "ytclebgpnfinppaadoor", sum := "dd71afb68872d4d7923c2547afe06551849a9b45417b32cafe6d606f8019deae", func := "loop.example/lib-g01090/laws.FnLookupTwice", spec := "fnLookupTwice", inPlace := ["internal/bytealg.Compare"], unfollowed := true, recurses := true, named := ["index/suffixarray.maxData32"], apart := false, laid := [("index/suffixarray.maxData32", laid_index_suffixarray_maxData32)] }
def FnLookupTwiceSaid : Prop := fnLookupTwiceRow.holds Tryd.pinned (OpenSpec.ofChange fnLookupTwiceSpec)

/-- ITS FALSE NEIGHBOUR: 'it returns false'. Refute it at one input. -/
def fnLookupTwiceWrong : ChangeSpec := { name := "fnLookupTwice", fn := fun _ => fun
  | [d1, d2, d3] => { results := [.lit (.bool false)], args := [d1, d2, d3] }
  | _ => none }
def FnLookupTwiceWrongFalsely : Prop := fnLookupTwiceRow.holds Tryd.pinned (OpenSpec.ofChange fnLookupTwiceWrong)

/-- 'laws.FnTooLong': WHATEVER THE INPUT: true; the input reads as it did. -/
def fnTooLongSpec : ChangeSpec := { name := "fnTooLong", fn := fun _ => fun
  | [d1, d2] => { results := [.lit (.bool true)], args := [d1, d2] }
  | _ => none }
def fnTooLongRow : OpenClaim := { program := "ytclebgpnfinppaadoor", sum := "dd71afb68872d4d7923c2547afe06551849a9b45417b32cafe6d606f8019deae", func := "loop.example/lib-g01090/laws.FnTooLong", spec := "fnTooLong", inPlace := ["internal/bytealg.Compare"], unfollowed := true, recurses := true, named := ["index/suffixarray.maxData32"], apart := false, laid := [("index/suffixarray.maxData32", laid_index_suffixarray_maxData32)] }
def FnTooLongSaid : Prop := fnTooLongRow.holds Tryd.pinned (OpenSpec.ofChange fnTooLongSpec)

/-- ITS FALSE NEIGHBOUR: 'it returns false'. Refute it at one input. -/
def fnTooLongWrong : ChangeSpec := { name := "fnTooLong", fn := fun _ => fun
  | [d1, d2] => { results := [.lit (.bool false)], args := [d1, d2] }
  | _ => none }
def FnTooLongWrongFalsely : Prop := fnTooLongRow.holds Tryd.pinned (OpenSpec.ofChange fnTooLongWrong)

/-- 'laws.FnStrangeByte': WHATEVER THE INPUT: true; the input reads as it did. -/
def fnStrangeByteSpec : ChangeSpec := { name := "fnStrangeByte", fn := fun _ => fun
  | [d1, d2, d3] => { results := [.lit (.bool true)], args := [d1, d2, d3] }
  | _ => none }
def fnStrangeByteRow : OpenClaim := { program := "ytclebgpnfinppaadoor", sum := "dd71afb68872d4d7923c2547afe06551849a9b45417b32cafe6d606f8019deae", func := "loop.example/lib-g01090/laws.FnStrangeByte", spec := "fnStrangeByte", inPlace := ["internal/bytealg.Compare"], unfollowed := true, recurses := true, named := ["index/suffixarray.maxData32"], apart := false, laid := [("index/suffixarray.maxData32", laid_index_suffixarray_maxData32)] }
def FnStrangeByteSaid : Prop := fnStrangeByteRow.holds Tryd.pinned (OpenSpec.ofChange fnStrangeByteSpec)

/-- ITS FALSE NEIGHBOUR: 'it returns false'. Refute it at one input. -/
def fnStrangeByteWrong : ChangeSpec := { name := "fnStrangeByte", fn := fun _ => fun
  | [d1, d2, d3] => { results := [.lit (.bool false)], args := [d1, d2, d3] }
  | _ => none }
def FnStrangeByteWrongFalsely : Prop := fnStrangeByteRow.holds Tryd.pinned (OpenSpec.ofChange fnStrangeByteWrong)

/-- 'laws.FnLookupSome': WHATEVER THE INPUT: true; the input reads as it did. -/
def fnLookupSomeSpec : ChangeSpec := { name := "fnLookupSome", fn := fun _ => fun
  | [d1, d2, d3] => { results := [.lit (.bool true)], args := [d1, d2, d3] }
  | _ => none }
def fnLookupSomeRow : OpenClaim := { program := "ytclebgpnfinppaadoor", sum := "dd71afb68872d4d7923c2547afe06551849a9b45417b32cafe6d606f8019deae", func := "loop.example/lib-g01090/laws.FnLookupSome", spec := "fnLookupSome", inPlace := ["internal/bytealg.Compare"], unfollowed := true, recurses := true, named := ["index/suffixarray.maxData32"], apart := false, laid := [("index/suffixarray.maxData32", laid_index_suffixarray_maxData32)] }
def FnLookupSomeSaid : Prop := fnLookupSomeRow.holds Tryd.pinned (OpenSpec.ofChange fnLookupSomeSpec)

/-- ITS FALSE NEIGHBOUR: 'it returns false'. Refute it at one input. -/
def fnLookupSomeWrong : ChangeSpec := { name := "fnLookupSome", fn := fun _ => fun
  | [d1, d2, d3] => { results := [.lit (.bool false)], args := [d1, d2, d3] }
  | _ => none }
def FnLookupSomeWrongFalsely : Prop := fnLookupSomeRow.holds Tryd.pinned (OpenSpec.ofChange fnLookupSomeWrong)

/-- 'laws.FnEmpty': WHATEVER THE INPUT: true; the input reads as it did. -/
def fnEmptySpec : ChangeSpec := { name := "fnEmpty", fn := fun _ => fun
  | [d1, d2, d3] => { results := [.lit (.bool true)], args := [d1, d2, d3] }
  | _ => none }
def fnEmptyRow : OpenClaim := { program := "ytclebgpnfinppaadoor", sum := "dd71afb68872d4d7923c2547afe06551849a9b45417b32cafe6d606f8019deae", func := "loop.example/lib-g01090/laws.FnEmpty", spec := "fnEmpty", inPlace := ["internal/bytealg.Compare"], unfollowed := true, recurses := true, named := ["index/suffixarray.maxData32"], apart := false, laid := [("index/suffixarray.maxData32", laid_index_suffixarray_maxData32)] }
def FnEmptySaid : Prop := fnEmptyRow.holds Tryd.pinned (OpenSpec.ofChange fnEmptySpec)

/-- ITS FALSE NEIGHBOUR: 'it returns false'. Refute it at one input. -/
def fnEmptyWrong : ChangeSpec := { name := "fnEmpty", fn := fun _ => fun
  | [d1, d2, d3] => { results := [.lit (.bool false)], args := [d1, d2, d3] }
  | _ => none }
def FnEmptyWrongFalsely : Prop := fnEmptyRow.holds Tryd.pinned (OpenSpec.ofChange fnEmptyWrong)

/-- 'laws.FnExactIndexMarks': WHATEVER THE INPUT: true; the input reads as it did. -/
def fnExactIndexMarksSpec : ChangeSpec := { name := "fnExactIndexMarks", fn := fun _ => fun
  | [d1, d2] => { results := [.lit (.bool true)], args := [d1, d2] }
  | _ => none }
def fnExactIndexMarksRow : OpenClaim := { program := "ytclebgpnfinppaadoor", sum := "dd71afb68872d4d7923c2547afe06551849a9b45417b32cafe6d606f8019deae", func := "loop.example/lib-g01090/laws.FnExactIndexMarks", spec := "fnExactIndexMarks", inPlace := ["internal/bytealg.Compare"], unfollowed := true, recurses := true, named := ["index/suffixarray.maxData32"], apart := false, laid := [("index/suffixarray.maxData32", laid_index_suffixarray_maxData32)] }
def FnExactIndexMarksSaid : Prop := fnExactIndexMarksRow.holds Tryd.pinned (OpenSpec.ofChange fnExactIndexMarksSpec)

/-- ITS FALSE NEIGHBOUR: 'it returns false'. Refute it at one input. -/
def fnExactIndexMarksWrong : ChangeSpec := { name := "fnExactIndexMarks", fn := fun _ => fun
  | [d1, d2] => { results := [.lit (.bool false)], args := [d1, d2] }
  | _ => none }
def FnExactIndexMarksWrongFalsely : Prop := fnExactIndexMarksRow.holds Tryd.pinned (OpenSpec.ofChange fnExactIndexMarksWrong)

/-- 'laws.FnExactIndexManyCounts': WHATEVER THE INPUT: true; the input reads as it did. -/
def fnExactIndexManyCountsSpec : ChangeSpec := { name := "fnExactIndexManyCounts", fn := fun _ => fun
  | [d1, d2] => { results := [.lit (.bool true)], args := [d1, d2] }
  | _ => none }
def fnExactIndexManyCountsRow : OpenClaim := { program := "ytclebgpnfinppaadoor", sum := "dd71afb68872d4d7923c2547afe06551849a9b45417b32cafe6d606f8019deae", func := "loop.example/lib-g01090/laws.FnExactIndexManyCounts", spec := "fnExactIndexManyCounts", inPlace := ["internal/bytealg.Compare"], unfollowed := true, recurses := true, named := ["index/suffixarray.maxData32"], apart := false, laid := [("index/suffixarray.maxData32", laid_index_suffixarray_maxData32)] }
def FnExactIndexManyCountsSaid : Prop := fnExactIndexManyCountsRow.holds Tryd.pinned (OpenSpec.ofChange fnExactIndexManyCountsSpec)

/-- ITS FALSE NEIGHBOUR: 'it returns false'. Refute it at one input. -/
def fnExactIndexManyCountsWrong : ChangeSpec := { name := "fnExactIndexManyCounts", fn := fun _ => fun
  | [d1, d2] => { results := [.lit (.bool false)], args := [d1, d2] }
  | _ => none }
def FnExactIndexManyCountsWrongFalsely : Prop := fnExactIndexManyCountsRow.holds Tryd.pinned (OpenSpec.ofChange fnExactIndexManyCountsWrong)

/-- 'laws.FnContinued': WHATEVER THE INPUT: true; the input reads as it did. -/
def fnContinuedSpec : ChangeSpec := { name := "fnContinued", fn := fun _ => fun
  | [d1, d2] => { results := [.lit (.bool true)], args := [d1, d2] }
  | _ => none }
def fnContinuedRow : OpenClaim := { program := "ytclebgpnfinppaadoor", sum := "dd71afb68872d4d7923c2547afe06551849a9b45417b32cafe6d606f8019deae", func := "loop.example/lib-g01090/laws.FnContinued", spec := "fnContinued", inPlace := ["internal/bytealg.Compare"], unfollowed := true, recurses := true, named := ["index/suffixarray.maxData32"], apart := false, laid := [("index/suffixarray.maxData32", laid_index_suffixarray_maxData32)] }
def FnContinuedSaid : Prop := fnContinuedRow.holds Tryd.pinned (OpenSpec.ofChange fnContinuedSpec)

/-- ITS FALSE NEIGHBOUR: 'it returns false'. Refute it at one input. -/
def fnContinuedWrong : ChangeSpec := { name := "fnContinued", fn := fun _ => fun
  | [d1, d2] => { results := [.lit (.bool false)], args := [d1, d2] }
  | _ => none }
def FnContinuedWrongFalsely : Prop := fnContinuedRow.holds Tryd.pinned (OpenSpec.ofChange fnContinuedWrong)

/-- 'laws.FnManyAll': WHATEVER THE INPUT: true; the input reads as it did. -/
def fnManyAllSpec : ChangeSpec := { name := "fnManyAll", fn := fun _ => fun
  | [d1, d2] => { results := [.lit (.bool true)], args := [d1, d2] }
  | _ => none }
def fnManyAllRow : OpenClaim := { program := "ytclebgpnfinppaadoor", sum := "dd71afb68872d4d7923c2547afe06551849a9b45417b32cafe6d606f8019deae", func := "loop.example/lib-g01090/laws.FnManyAll", spec := "fnManyAll", inPlace := ["internal/bytealg.Compare"], unfollowed := true, recurses := true, named := ["index/suffixarray.maxData32"], apart := false, laid := [("index/suffixarray.maxData32", laid_index_suffixarray_maxData32)] }
def FnManyAllSaid : Prop := fnManyAllRow.holds Tryd.pinned (OpenSpec.ofChange fnManyAllSpec)

/-- ITS FALSE NEIGHBOUR: 'it returns false'. Refute it at one input. -/
def fnManyAllWrong : ChangeSpec := { name := "fnManyAll", fn := fun _ => fun
  | [d1, d2] => { results := [.lit (.bool false)], args := [d1, d2] }
  | _ => none }
def FnManyAllWrongFalsely : Prop := fnManyAllRow.holds Tryd.pinned (OpenSpec.ofChange fnManyAllWrong)

/-- 'laws.FnManySame': WHATEVER THE INPUT: true; the input reads as it did. -/
def fnManySameSpec : ChangeSpec := { name := "fnManySame", fn := fun _ => fun
  | [d1, d2, d3] => { results := [.lit (.bool true)], args := [d1, d2, d3] }
  | _ => none }
def fnManySameRow : OpenClaim := { program := "ytclebgpnfinppaadoor", sum := "dd71afb68872d4d7923c2547afe06551849a9b45417b32cafe6d606f8019deae", func := "loop.example/lib-g01090/laws.FnManySame", spec := "fnManySame", inPlace := ["internal/bytealg.Compare"], unfollowed := true, recurses := true, named := ["index/suffixarray.maxData32"], apart := false, laid := [("index/suffixarray.maxData32", laid_index_suffixarray_maxData32)] }
def FnManySameSaid : Prop := fnManySameRow.holds Tryd.pinned (OpenSpec.ofChange fnManySameSpec)

/-- ITS FALSE NEIGHBOUR: 'it returns false'. Refute it at one input. -/
def fnManySameWrong : ChangeSpec := { name := "fnManySame", fn := fun _ => fun
  | [d1, d2, d3] => { results := [.lit (.bool false)], args := [d1, d2, d3] }
  | _ => none }
def FnManySameWrongFalsely : Prop := fnManySameRow.holds Tryd.pinned (OpenSpec.ofChange fnManySameWrong)

/-- 'laws.FnEveryByte': WHATEVER THE INPUT: true; the input reads as it did. -/
def fnEveryByteSpec : ChangeSpec := { name := "fnEveryByte", fn := fun _ => fun
  | [d] => { results := [.lit (.bool true)], args := [d] }
  | _ => none }
def fnEveryByteRow : OpenClaim := { program := "ytclebgpnfinppaadoor", sum := "dd71afb68872d4d7923c2547afe06551849a9b45417b32cafe6d606f8019deae", func := "loop.example/lib-g01090/laws.FnEveryByte", spec := "fnEveryByte", inPlace := ["internal/bytealg.Compare"], unfollowed := true, recurses := true, named := ["index/suffixarray.maxData32"], apart := false, laid := [("index/suffixarray.maxData32", laid_index_suffixarray_maxData32)] }
def FnEveryByteSaid : Prop := fnEveryByteRow.holds Tryd.pinned (OpenSpec.ofChange fnEveryByteSpec)

/-- ITS FALSE NEIGHBOUR: 'it returns false'. Refute it at one input. -/
def fnEveryByteWrong : ChangeSpec := { name := "fnEveryByte", fn := fun _ => fun
  | [d] => { results := [.lit (.bool false)], args := [d] }
  | _ => none }
def FnEveryByteWrongFalsely : Prop := fnEveryByteRow.holds Tryd.pinned (OpenSpec.ofChange fnEveryByteWrong)

/-- 'laws.FnAllSuffixes': WHATEVER THE INPUT: true; the input reads as it did. -/
def fnAllSuffixesSpec : ChangeSpec := { name := "fnAllSuffixes", fn := fun _ => fun
  | [d] => { results := [.lit (.bool true)], args := [d] }
  | _ => none }
def fnAllSuffixesRow : OpenClaim := { program := "ytclebgpnfinppaadoor", sum := "dd71afb68872d4d7923c2547afe06551849a9b45417b32cafe6d606f8019deae", func := "loop.example/lib-g01090/laws.FnAllSuffixes", spec := "fnAllSuffixes", inPlace := ["internal/bytealg.Compare"], unfollowed := true, recurses := true, named := ["index/suffixarray.maxData32"], apart := false, laid := [("index/suffixarray.maxData32", laid_index_suffixarray_maxData32)] }
def FnAllSuffixesSaid : Prop := fnAllSuffixesRow.holds Tryd.pinned (OpenSpec.ofChange fnAllSuffixesSpec)

/-- ITS FALSE NEIGHBOUR: 'it returns false'. Refute it at one input. -/
def fnAllSuffixesWrong : ChangeSpec := { name := "fnAllSuffixes", fn := fun _ => fun
  | [d] => { results := [.lit (.bool false)], args := [d] }
  | _ => none }
def FnAllSuffixesWrongFalsely : Prop := fnAllSuffixesRow.holds Tryd.pinned (OpenSpec.ofChange fnAllSuffixesWrong)

/- THE SECOND FORM. 'bulk': how many values and letters a reading holds, each counted each time it is reached (what is shared counts as often as it is met; a slice's spare places count too). A statement '..UptoSaid' is the law's where the arguments, and the package variables that the reading takes, are together of bulk at most 1048576: NARROWER than '..Said'. Prove '..Said' where nothing that the law and all that it calls make is longer than what came in: it says more and counts as full. Else prove '..UptoSaid'. A law counts once. -/
mutual
def uptoBulk {H : Type} : DataW H → Nat
  | .lit (.string bytes) => bytes.length + 1
  | .lit _ => 1
  | .nil => 1
  | .ptr d => uptoBulk d + 1
  | .slice elems spare => uptoBulkAll elems + uptoBulkAll spare + 1
  | .agg parts => uptoBulkAll parts + 1
  | .iface _ d => uptoBulk d + 1
  | .map entries => uptoBulkEntries entries + 1
  | .held _ => 1
def uptoBulkAll {H : Type} : List (DataW H) → Nat
  | [] => 0
  | d :: r => uptoBulk d + uptoBulkAll r
def uptoBulkEntries {H : Type} : List (Lit × DataW H) → Nat
  | [] => 0
  | x :: r => uptoBulkEntry x + uptoBulkEntries r
def uptoBulkEntry {H : Type} : Lit × DataW H → Nat
  | (.string bytes, d) => bytes.length + uptoBulk d + 1
  | (_, d) => uptoBulk d + 1
 end
def uptoSmall : (H : Type) → List (DataW H) → Bool := fun _ ds => decide (uptoBulkAll ds ≤ 1048576)
def OpenSpec.upto (s : _root_.Go.ChangeSpec) : _root_.Go.OpenSpec := { _root_.Go.OpenSpec.ofChange s with cond := some uptoSmall }

/-- 'laws.FnLookupTwice', WHERE WHAT IT READS IS OF BULK AT MOST 1048576: true; the input reads as it did. -/
def fnLookupTwiceUptoRow : OpenClaim := { program := "ytclebgpnfinppaadoor", sum := "dd71afb68872d4d7923c2547afe06551849a9b45417b32cafe6d606f8019deae", func := "loop.example/lib-g01090/laws.FnLookupTwice", spec := "fnLookupTwice", inPlace := ["internal/bytealg.Compare"], unfollowed := true, recurses := true, named := ["index/suffixarray.maxData32"], apart := false, laid := [("index/suffixarray.maxData32", laid_index_suffixarray_maxData32)], narrowed := true }
def FnLookupTwiceUptoSaid : Prop := fnLookupTwiceUptoRow.holds Tryd.pinned (OpenSpec.upto fnLookupTwiceSpec)

/-- 'laws.FnTooLong', WHERE WHAT IT READS IS OF BULK AT MOST 1048576: true; the input reads as it did. -/
def fnTooLongUptoRow : OpenClaim := { program := "ytclebgpnfinppaadoor", sum := "dd71afb68872d4d7923c2547afe06551849a9b45417b32cafe6d606f8019deae", func := "loop.example/lib-g01090/laws.FnTooLong", spec := "fnTooLong", inPlace := ["internal/bytealg.Compare"], unfollowed := true, recurses := true, named := ["index/suffixarray.maxData32"], apart := false, laid := [("index/suffixarray.maxData32", laid_index_suffixarray_maxData32)], narrowed := true }
def FnTooLongUptoSaid : Prop := fnTooLongUptoRow.holds Tryd.pinned (OpenSpec.upto fnTooLongSpec)

/-- 'laws.FnStrangeByte', WHERE WHAT IT READS IS OF BULK AT MOST 1048576: true; the input reads as it did. -/
def fnStrangeByteUptoRow : OpenClaim := { program := "ytclebgpnfinppaadoor", sum := "dd71afb68872d4d7923c2547afe06551849a9b45417b32cafe6d606f8019deae", func := "loop.example/lib-g01090/laws.FnStrangeByte", spec := "fnStrangeByte", inPlace := ["internal/bytealg.Compare"], unfollowed := true, recurses := true, named := ["index/suffixarray.maxData32"], apart := false, laid := [("index/suffixarray.maxData32", laid_index_suffixarray_maxData32)], narrowed := true }
def FnStrangeByteUptoSaid : Prop := fnStrangeByteUptoRow.holds Tryd.pinned (OpenSpec.upto fnStrangeByteSpec)

/-- 'laws.FnLookupSome', WHERE WHAT IT READS IS OF BULK AT MOST 1048576: true; the input reads as it did. -/
def fnLookupSomeUptoRow : OpenClaim := { program := "ytclebgpnfinppaadoor", sum := "dd71afb68872d4d7923c2547afe06551849a9b45417b32cafe6d606f8019deae", func := "loop.example/lib-g01090/laws.FnLookupSome", spec := "fnLookupSome", inPlace := ["internal/bytealg.Compare"], unfollowed := true, recurses := true, named := ["index/suffixarray.maxData32"], apart := false, laid := [("index/suffixarray.maxData32", laid_index_suffixarray_maxData32)], narrowed := true }
def FnLookupSomeUptoSaid : Prop := fnLookupSomeUptoRow.holds Tryd.pinned (OpenSpec.upto fnLookupSomeSpec)

/-- 'laws.FnEmpty', WHERE WHAT IT READS IS OF BULK AT MOST 1048576: true; the input reads as it did. -/
def fnEmptyUptoRow : OpenClaim := { program := "ytclebgpnfinppaadoor", sum := "dd71afb68872d4d7923c2547afe06551849a9b45417b32cafe6d606f8019deae", func := "loop.example/lib-g01090/laws.FnEmpty", spec := "fnEmpty", inPlace := ["internal/bytealg.Compare"], unfollowed := true, recurses := true, named := ["index/suffixarray.maxData32"], apart := false, laid := [("index/suffixarray.maxData32", laid_index_suffixarray_maxData32)], narrowed := true }
def FnEmptyUptoSaid : Prop := fnEmptyUptoRow.holds Tryd.pinned (OpenSpec.upto fnEmptySpec)

/-- 'laws.FnExactIndexMarks', WHERE WHAT IT READS IS OF BULK AT MOST 1048576: true; the input reads as it did. -/
def fnExactIndexMarksUptoRow : OpenClaim := { program := "ytclebgpnfinppaadoor", sum := "dd71afb68872d4d7923c2547afe06551849a9b45417b32cafe6d606f8019deae", func := "loop.example/lib-g01090/laws.FnExactIndexMarks", spec := "fnExactIndexMarks", inPlace := ["internal/bytealg.Compare"], unfollowed := true, recurses := true, named := ["index/suffixarray.maxData32"], apart := false, laid := [("index/suffixarray.maxData32", laid_index_suffixarray_maxData32)], narrowed := true }
def FnExactIndexMarksUptoSaid : Prop := fnExactIndexMarksUptoRow.holds Tryd.pinned (OpenSpec.upto fnExactIndexMarksSpec)

/-- 'laws.FnExactIndexManyCounts', WHERE WHAT IT READS IS OF BULK AT MOST 1048576: true; the input reads as it did. -/
def fnExactIndexManyCountsUptoRow : OpenClaim := { program := "ytclebgpnfinppaadoor", sum := "dd71afb68872d4d7923c2547afe06551849a9b45417b32cafe6d606f8019deae", func := "loop.example/lib-g01090/laws.FnExactIndexManyCounts", spec := "fnExactIndexManyCounts", inPlace := ["internal/bytealg.Compare"], unfollowed := true, recurses := true, named := ["index/suffixarray.maxData32"], apart := false, laid := [("index/suffixarray.maxData32", laid_index_suffixarray_maxData32)], narrowed := true }
def FnExactIndexManyCountsUptoSaid : Prop := fnExactIndexManyCountsUptoRow.holds Tryd.pinned (OpenSpec.upto fnExactIndexManyCountsSpec)

/-- 'laws.FnContinued', WHERE WHAT IT READS IS OF BULK AT MOST 1048576: true; the input reads as it did. -/
def fnContinuedUptoRow : OpenClaim := { program := "ytclebgpnfinppaadoor", sum := "dd71afb68872d4d7923c2547afe06551849a9b45417b32cafe6d606f8019deae", func := "loop.example/lib-g01090/laws.FnContinued", spec := "fnContinued", inPlace := ["internal/bytealg.Compare"], unfollowed := true, recurses := true, named := ["index/suffixarray.maxData32"], apart := false, laid := [("index/suffixarray.maxData32", laid_index_suffixarray_maxData32)], narrowed := true }
def FnContinuedUptoSaid : Prop := fnContinuedUptoRow.holds Tryd.pinned (OpenSpec.upto fnContinuedSpec)

/-- 'laws.FnManyAll', WHERE WHAT IT READS IS OF BULK AT MOST 1048576: true; the input reads as it did. -/
def fnManyAllUptoRow : OpenClaim := { program := "ytclebgpnfinppaadoor", sum := "dd71afb68872d4d7923c2547afe06551849a9b45417b32cafe6d606f8019deae", func := "loop.example/lib-g01090/laws.FnManyAll", spec := "fnManyAll", inPlace := ["internal/bytealg.Compare"], unfollowed := true, recurses := true, named := ["index/suffixarray.maxData32"], apart := false, laid := [("index/suffixarray.maxData32", laid_index_suffixarray_maxData32)], narrowed := true }
def FnManyAllUptoSaid : Prop := fnManyAllUptoRow.holds Tryd.pinned (OpenSpec.upto fnManyAllSpec)

/-- 'laws.FnManySame', WHERE WHAT IT READS IS OF BULK AT MOST 1048576: true; the input reads as it did. -/
def fnManySameUptoRow : OpenClaim := { program := "ytclebgpnfinppaadoor", sum := "dd71afb68872d4d7923c2547afe06551849a9b45417b32cafe6d606f8019deae", func := "loop.example/lib-g01090/laws.FnManySame", spec := "fnManySame", inPlace := ["internal/bytealg.Compare"], unfollowed := true, recurses := true, named := ["index/suffixarray.maxData32"], apart := false, laid := [("index/suffixarray.maxData32", laid_index_suffixarray_maxData32)], narrowed := true }
def FnManySameUptoSaid : Prop := fnManySameUptoRow.holds Tryd.pinned (OpenSpec.upto fnManySameSpec)

/-- 'laws.FnEveryByte', WHERE WHAT IT READS IS OF BULK AT MOST 1048576: true; the input reads as it did. -/
def fnEveryByteUptoRow : OpenClaim := { program := "ytclebgpnfinppaadoor", sum := "dd71afb68872d4d7923c2547afe06551849a9b45417b32cafe6d606f8019deae", func := "loop.example/lib-g01090/laws.FnEveryByte", spec := "fnEveryByte", inPlace := ["internal/bytealg.Compare"], unfollowed := true, recurses := true, named := ["index/suffixarray.maxData32"], apart := false, laid := [("index/suffixarray.maxData32", laid_index_suffixarray_maxData32)], narrowed := true }
def FnEveryByteUptoSaid : Prop := fnEveryByteUptoRow.holds Tryd.pinned (OpenSpec.upto fnEveryByteSpec)

/-- 'laws.FnAllSuffixes', WHERE WHAT IT READS IS OF BULK AT MOST 1048576: true; the input reads as it did. -/
def fnAllSuffixesUptoRow : OpenClaim := { program := "ytclebgpnfinppaadoor", sum := "dd71afb68872d4d7923c2547afe06551849a9b45417b32cafe6d606f8019deae", func := "loop.example/lib-g01090/laws.FnAllSuffixes", spec := "fnAllSuffixes", inPlace := ["internal/bytealg.Compare"], unfollowed := true, recurses := true, named := ["index/suffixarray.maxData32"], apart := false, laid := [("index/suffixarray.maxData32", laid_index_suffixarray_maxData32)], narrowed := true }
def FnAllSuffixesUptoSaid : Prop := fnAllSuffixesUptoRow.holds Tryd.pinned (OpenSpec.upto fnAllSuffixesSpec)

end Rows
end Go.Proofs.YtclebgpnfinppaaDoor
