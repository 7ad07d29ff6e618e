/-
  NARROWER THAN 'FOR EVERY INPUT', by the rows' own cells (each row's printed sentence says how): FnExactIndexBytes: laid · FnExactIndexCount: laid · FnLookupNil: laid · FnFirstResults: laid · FnLookupAll: laid · FnLookupAsMany: laid · FnLookupAtMost: laid · FnLookupOnce: laid · FnLookupStands: laid · FnNarrower: laid · FnSuffixOrder: laid · FnWhole: laid.
  DERIVED. THE GIVEN ROWS OF THIS SEAT. 12 by the template 'for every input the law returns true; each argument reads behind the call as it read before'; 0 by the template 'total and deterministic' (their statements: YtncoihekfmponaaDoorTotals.lean).
  GIVEN WITH THE SEED: the statements are not yours to turn. If you find one false, say at which input.
  Laid BY PROGRAM, IN A SANDBOX (cutbox-rows.mjs): the forced cells as the released guide's own fill.sh prints them over the translation b330e3071462392c… (all of the seat's roots in one cut). By AI agents, Wed Nov 11 2026. No macro, syntax, notation, axiom, sorry.
-/
import Derived.Test.YtncoihekfmponaaDoorChecked
import GoSem.Claim
import GoSem.ClaimJoined
import GoSem.ClaimMapViews
import Derived.JoinedTies
import Derived.KernelRfl
namespace Go.Proofs.YtncoihekfmponaaDoor
/- THE CELL 'sum', in the pinned program and in every row, IS THE sha256 OF THE DUMP (.gsa) THAT YtncoihekfmponaaDoorProg.lean LOADS. Nothing in Lean hashes anything: it is a label: what it is worth is what the hold of that sum in a sandbox is worth. -/
noncomputable def Tryd.pinned : Pinned := { name := "ytncoihekfmponaadoor", sum := "b330e3071462392cd41589b1ba453bd37a4bbbfcf1b5762d5276397e772d031d", checked := Tryd.checked }
namespace Rows
def none {H : Type} : Left H := { results := [], args := [] }

/- WHAT THE LISTED PACKAGE-LEVEL VARIABLES READ AS WHEN THE CALL BEGINS. Each datum BY PROGRAM (the guide's laid-datum.mjs) off the statement by which the dump's own 'gosem.cut.vars' lays the variable. In a bare row this is a premise. The card (YtncoihekfmponaaDoorCards.lean) ties it to the program's text. -/
def laid_index_suffixarray_maxData32 {H : Type} : DataW H := .lit (.int .i64 2147483647)

/-- 'laws.FnExactIndexBytes': WHATEVER THE INPUT: true; the input reads as it did. -/
def fnExactIndexBytesSpec : ChangeSpec := { name := "fnExactIndexBytes", fn := fun _ => fun
  | [d] => { results := [.lit (.bool true)], args := [d] }
  | _ => none }
def fnExactIndexBytesRow : OpenClaim := { program := "ytncoihekfmponaadoor", sum := "b330e3071462392cd41589b1ba453bd37a4bbbfcf1b5762d5276397e772d031d", func := "loop.example/lib-g01090/laws.FnExactIndexBytes", spec := "fnExactIndexBytes", recurses := true, named := ["index/suffixarray.maxData32"], apart := false, laid := [("index/suffixarray.maxData32", laid_index_suffixarray_maxData32)] }
def FnExactIndexBytesSaid : Prop := fnExactIndexBytesRow.holds Tryd.pinned (OpenSpec.ofChange fnExactIndexBytesSpec)

/-- ITS FALSE NEIGHBOUR: 'it returns false'. Refute it at one input. -/
def fnExactIndexBytesWrong : ChangeSpec := { name := "fnExactIndexBytes", fn := fun _ => fun
  | [d] => { results := [.lit (.bool false)], args := [d] }
  | _ => none }
def FnExactIndexBytesWrongFalsely : Prop := fnExactIndexBytesRow.holds Tryd.pinned (OpenSpec.ofChange fnExactIndexBytesWrong)

/-- 'laws.FnExactIndexCount': WHATEVER THE INPUT: true; the input reads as it did. -/
def fnExactIndexCountSpec : ChangeSpec := { name := "fnExactIndexCount", fn := fun _ => fun
  | [d1, d2] => { results := [.lit (.bool true)], args := [d1, d2] }
  | _ => none }
def fnExactIndexCountRow : OpenClaim := { program := "ytncoihekfmponaadoor", sum := "b330e3071462392cd41589b1ba453bd37a4bbbfcf1b5762d5276397e772d031d", func := "loop.example/lib-g01090/laws.FnExactIndexCount", spec := "fnExactIndexCount", inPlace := ["internal/bytealg.Compare"], unfollowed := true, recurses := true, named := ["index/suffixarray.maxData32"], apart := false, laid := [("index/suffixarray.maxData32", laid_index_suffixarray_maxData32)] }
def FnExactIndexCountSaid : Prop := fnExactIndexCountRow.holds Tryd.pinned (OpenSpec.ofChange fnExactIndexCountSpec)

/-- ITS FALSE NEIGHBOUR: 'it returns false'. Refute it at one input. -/
def fnExactIndexCountWrong : ChangeSpec := { name := "fnExactIndexCount", fn := fun _ => fun
  | [d1, d2] => { results := [.lit (.bool false)], args := [d1, d2] }
  | _ => none }
def FnExactIndexCountWrongFalsely : Prop := fnExactIndexCountRow.holds Tryd.pinned (OpenSpec.ofChange fnExactIndexCountWrong)

/-- 'laws.FnLookupNil': WHATEVER THE INPUT: true; the input reads as it did. -/
def fnLookupNilSpec : ChangeSpec := { name := "fnLookupNil", fn := fun _ => fun
  | [d1, d2, d3] => { results := [.lit (.bool true)], args := [d1, d2, d3] }
  | _ => none }
def fnLookupNilRow : OpenClaim := { program := "ytncoihekfmponaadoor", sum := "b330e3071462392cd41589b1ba453bd37a4bbbfcf1b5762d5276397e772d031d", func := "loop.example/lib-g01090/laws.FnLookupNil", spec := "fnLookupNil", inPlace := ["internal/bytealg.Compare"], unfollowed := true, recurses := true, named := ["index/suffixarray.maxData32"], apart := false, laid := [("index/suffixarray.maxData32", laid_index_suffixarray_maxData32)] }
def FnLookupNilSaid : Prop := fnLookupNilRow.holds Tryd.pinned (OpenSpec.ofChange fnLookupNilSpec)

/-- ITS FALSE NEIGHBOUR: 'it returns false'. Refute it at one input. -/
def fnLookupNilWrong : ChangeSpec := { name := "fnLookupNil", fn := fun _ => fun
  | [d1, d2, d3] => { results := [.lit (.bool false)], args := [d1, d2, d3] }
  | _ => none }
def FnLookupNilWrongFalsely : Prop := fnLookupNilRow.holds Tryd.pinned (OpenSpec.ofChange fnLookupNilWrong)

/-- 'laws.FnFirstResults': WHATEVER THE INPUT: true; the input reads as it did. -/
def fnFirstResultsSpec : ChangeSpec := { name := "fnFirstResults", fn := fun _ => fun
  | [d1, d2, d3] => { results := [.lit (.bool true)], args := [d1, d2, d3] }
  | _ => none }
def fnFirstResultsRow : OpenClaim := { program := "ytncoihekfmponaadoor", sum := "b330e3071462392cd41589b1ba453bd37a4bbbfcf1b5762d5276397e772d031d", func := "loop.example/lib-g01090/laws.FnFirstResults", spec := "fnFirstResults", inPlace := ["internal/bytealg.Compare"], unfollowed := true, recurses := true, named := ["index/suffixarray.maxData32"], apart := false, laid := [("index/suffixarray.maxData32", laid_index_suffixarray_maxData32)] }
def FnFirstResultsSaid : Prop := fnFirstResultsRow.holds Tryd.pinned (OpenSpec.ofChange fnFirstResultsSpec)

/-- ITS FALSE NEIGHBOUR: 'it returns false'. Refute it at one input. -/
def fnFirstResultsWrong : ChangeSpec := { name := "fnFirstResults", fn := fun _ => fun
  | [d1, d2, d3] => { results := [.lit (.bool false)], args := [d1, d2, d3] }
  | _ => none }
def FnFirstResultsWrongFalsely : Prop := fnFirstResultsRow.holds Tryd.pinned (OpenSpec.ofChange fnFirstResultsWrong)

/-- 'laws.FnLookupAll': WHATEVER THE INPUT: true; the input reads as it did. -/
def fnLookupAllSpec : ChangeSpec := { name := "fnLookupAll", fn := fun _ => fun
  | [d1, d2, d3] => { results := [.lit (.bool true)], args := [d1, d2, d3] }
  | _ => none }
def fnLookupAllRow : OpenClaim := { program := "ytncoihekfmponaadoor", sum := "b330e3071462392cd41589b1ba453bd37a4bbbfcf1b5762d5276397e772d031d", func := "loop.example/lib-g01090/laws.FnLookupAll", spec := "fnLookupAll", inPlace := ["internal/bytealg.Compare"], unfollowed := true, recurses := true, named := ["index/suffixarray.maxData32"], apart := false, laid := [("index/suffixarray.maxData32", laid_index_suffixarray_maxData32)] }
def FnLookupAllSaid : Prop := fnLookupAllRow.holds Tryd.pinned (OpenSpec.ofChange fnLookupAllSpec)

/-- ITS FALSE NEIGHBOUR: 'it returns false'. Refute it at one input. -/
def fnLookupAllWrong : ChangeSpec := { name := "fnLookupAll", fn := fun _ => fun
  | [d1, d2, d3] => { results := [.lit (.bool false)], args := [d1, d2, d3] }
  | _ => none }
def FnLookupAllWrongFalsely : Prop := fnLookupAllRow.holds Tryd.pinned (OpenSpec.ofChange fnLookupAllWrong)

/-- 'laws.FnLookupAsMany': WHATEVER THE INPUT: true; the input reads as it did. -/
def fnLookupAsManySpec : ChangeSpec := { name := "fnLookupAsMany", fn := fun _ => fun
  | [d1, d2, d3] => { results := [.lit (.bool true)], args := [d1, d2, d3] }
  | _ => none }
def fnLookupAsManyRow : OpenClaim := { program := "ytncoihekfmponaadoor", sum := "b330e3071462392cd41589b1ba453bd37a4bbbfcf1b5762d5276397e772d031d", func := "loop.example/lib-g01090/laws.FnLookupAsMany", spec := "fnLookupAsMany", inPlace := ["internal/bytealg.Compare"], unfollowed := true, recurses := true, named := ["index/suffixarray.maxData32"], apart := false, laid := [("index/suffixarray.maxData32", laid_index_suffixarray_maxData32)] }
def FnLookupAsManySaid : Prop := fnLookupAsManyRow.holds Tryd.pinned (OpenSpec.ofChange fnLookupAsManySpec)

/-- ITS FALSE NEIGHBOUR: 'it returns false'. Refute it at one input. -/
def fnLookupAsManyWrong : ChangeSpec := { name := "fnLookupAsMany", fn := fun _ => fun
  | [d1, d2, d3] => { results := [.lit (.bool false)], args := [d1, d2, d3] }
  | _ => none }
def FnLookupAsManyWrongFalsely : Prop := fnLookupAsManyRow.holds Tryd.pinned (OpenSpec.ofChange fnLookupAsManyWrong)

/-- 'laws.FnLookupAtMost': WHATEVER THE INPUT: true; the input reads as it did. -/
def fnLookupAtMostSpec : ChangeSpec := { name := "fnLookupAtMost", fn := fun _ => fun
  | [d1, d2, d3] => { results := [.lit (.bool true)], args := [d1, d2, d3] }
  | _ => none }
def fnLookupAtMostRow : OpenClaim := { program := "ytncoihekfmponaadoor", sum := "b330e3071462392cd41589b1ba453bd37a4bbbfcf1b5762d5276397e772d031d", func := "loop.example/lib-g01090/laws.FnLookupAtMost", spec := "fnLookupAtMost", inPlace := ["internal/bytealg.Compare"], unfollowed := true, recurses := true, named := ["index/suffixarray.maxData32"], apart := false, laid := [("index/suffixarray.maxData32", laid_index_suffixarray_maxData32)] }
def FnLookupAtMostSaid : Prop := fnLookupAtMostRow.holds Tryd.pinned (OpenSpec.ofChange fnLookupAtMostSpec)

/-- ITS FALSE NEIGHBOUR: 'it returns false'. Refute it at one input. -/
def fnLookupAtMostWrong : ChangeSpec := { name := "fnLookupAtMost", fn := fun _ => fun
  | [d1, d2, d3] => { results := [.lit (.bool false)], args := [d1, d2, d3] }
  | _ => none }
def FnLookupAtMostWrongFalsely : Prop := fnLookupAtMostRow.holds Tryd.pinned (OpenSpec.ofChange fnLookupAtMostWrong)

/-- 'laws.FnLookupOnce': WHATEVER THE INPUT: true; the input reads as it did. -/
def fnLookupOnceSpec : ChangeSpec := { name := "fnLookupOnce", fn := fun _ => fun
  | [d1, d2, d3] => { results := [.lit (.bool true)], args := [d1, d2, d3] }
  | _ => none }
def fnLookupOnceRow : OpenClaim := { program := "ytncoihekfmponaadoor", sum := "b330e3071462392cd41589b1ba453bd37a4bbbfcf1b5762d5276397e772d031d", func := "loop.example/lib-g01090/laws.FnLookupOnce", spec := "fnLookupOnce", inPlace := ["internal/bytealg.Compare"], unfollowed := true, recurses := true, named := ["index/suffixarray.maxData32"], apart := false, laid := [("index/suffixarray.maxData32", laid_index_suffixarray_maxData32)] }
def FnLookupOnceSaid : Prop := fnLookupOnceRow.holds Tryd.pinned (OpenSpec.ofChange fnLookupOnceSpec)

/-- ITS FALSE NEIGHBOUR: 'it returns false'. Refute it at one input. -/
def fnLookupOnceWrong : ChangeSpec := { name := "fnLookupOnce", fn := fun _ => fun
  | [d1, d2, d3] => { results := [.lit (.bool false)], args := [d1, d2, d3] }
  | _ => none }
def FnLookupOnceWrongFalsely : Prop := fnLookupOnceRow.holds Tryd.pinned (OpenSpec.ofChange fnLookupOnceWrong)

/-- 'laws.FnLookupStands': WHATEVER THE INPUT: true; the input reads as it did. -/
def fnLookupStandsSpec : ChangeSpec := { name := "fnLookupStands", fn := fun _ => fun
  | [d1, d2, d3] => { results := [.lit (.bool true)], args := [d1, d2, d3] }
  | _ => none }
def fnLookupStandsRow : OpenClaim := { program := "ytncoihekfmponaadoor", sum := "b330e3071462392cd41589b1ba453bd37a4bbbfcf1b5762d5276397e772d031d", func := "loop.example/lib-g01090/laws.FnLookupStands", spec := "fnLookupStands", inPlace := ["internal/bytealg.Compare"], unfollowed := true, recurses := true, named := ["index/suffixarray.maxData32"], apart := false, laid := [("index/suffixarray.maxData32", laid_index_suffixarray_maxData32)] }
def FnLookupStandsSaid : Prop := fnLookupStandsRow.holds Tryd.pinned (OpenSpec.ofChange fnLookupStandsSpec)

/-- ITS FALSE NEIGHBOUR: 'it returns false'. Refute it at one input. -/
def fnLookupStandsWrong : ChangeSpec := { name := "fnLookupStands", fn := fun _ => fun
  | [d1, d2, d3] => { results := [.lit (.bool false)], args := [d1, d2, d3] }
  | _ => none }
def FnLookupStandsWrongFalsely : Prop := fnLookupStandsRow.holds Tryd.pinned (OpenSpec.ofChange fnLookupStandsWrong)

/-- 'laws.FnNarrower': WHATEVER THE INPUT: true; the input reads as it did. -/
def fnNarrowerSpec : ChangeSpec := { name := "fnNarrower", fn := fun _ => fun
  | [d1, d2, d3] => { results := [.lit (.bool true)], args := [d1, d2, d3] }
  | _ => none }
def fnNarrowerRow : OpenClaim := { program := "ytncoihekfmponaadoor", sum := "b330e3071462392cd41589b1ba453bd37a4bbbfcf1b5762d5276397e772d031d", func := "loop.example/lib-g01090/laws.FnNarrower", spec := "fnNarrower", inPlace := ["internal/bytealg.Compare"], unfollowed := true, recurses := true, named := ["index/suffixarray.maxData32"], apart := false, laid := [("index/suffixarray.maxData32", laid_index_suffixarray_maxData32)] }
def FnNarrowerSaid : Prop := fnNarrowerRow.holds Tryd.pinned (OpenSpec.ofChange fnNarrowerSpec)

/-- ITS FALSE NEIGHBOUR: 'it returns false'. Refute it at one input. -/
def fnNarrowerWrong : ChangeSpec := { name := "fnNarrower", fn := fun _ => fun
  | [d1, d2, d3] => { results := [.lit (.bool false)], args := [d1, d2, d3] }
  | _ => none }
def FnNarrowerWrongFalsely : Prop := fnNarrowerRow.holds Tryd.pinned (OpenSpec.ofChange fnNarrowerWrong)

/-- 'laws.FnSuffixOrder': WHATEVER THE INPUT: true; the input reads as it did. -/
def fnSuffixOrderSpec : ChangeSpec := { name := "fnSuffixOrder", fn := fun _ => fun
  | [d1, d2] => { results := [.lit (.bool true)], args := [d1, d2] }
  | _ => none }
def fnSuffixOrderRow : OpenClaim := { program := "ytncoihekfmponaadoor", sum := "b330e3071462392cd41589b1ba453bd37a4bbbfcf1b5762d5276397e772d031d", func := "loop.example/lib-g01090/laws.FnSuffixOrder", spec := "fnSuffixOrder", inPlace := ["internal/bytealg.Compare"], unfollowed := true, recurses := true, named := ["index/suffixarray.maxData32"], apart := false, laid := [("index/suffixarray.maxData32", laid_index_suffixarray_maxData32)] }
def FnSuffixOrderSaid : Prop := fnSuffixOrderRow.holds Tryd.pinned (OpenSpec.ofChange fnSuffixOrderSpec)

/-- ITS FALSE NEIGHBOUR: 'it returns false'. Refute it at one input. -/
def fnSuffixOrderWrong : ChangeSpec := { name := "fnSuffixOrder", fn := fun _ => fun
  | [d1, d2] => { results := [.lit (.bool false)], args := [d1, d2] }
  | _ => none }
def FnSuffixOrderWrongFalsely : Prop := fnSuffixOrderRow.holds Tryd.pinned (OpenSpec.ofChange fnSuffixOrderWrong)

/-- 'laws.FnWhole': WHATEVER THE INPUT: true; the input reads as it did. -/
def fnWholeSpec : ChangeSpec := { name := "fnWhole", fn := fun _ => fun
  | [d] => { results := [.lit (.bool true)], args := [d] }
  | _ => none }
def fnWholeRow : OpenClaim := { program := "ytncoihekfmponaadoor", sum := "b330e3071462392cd41589b1ba453bd37a4bbbfcf1b5762d5276397e772d031d", func := "loop.example/lib-g01090/laws.FnWhole", spec := "fnWhole", inPlace := ["internal/bytealg.Compare"], unfollowed := true, recurses := true, named := ["index/suffixarray.maxData32"], apart := false, laid := [("index/suffixarray.maxData32", laid_index_suffixarray_maxData32)] }
def FnWholeSaid : Prop := fnWholeRow.holds Tryd.pinned (OpenSpec.ofChange fnWholeSpec)

/-- ITS FALSE NEIGHBOUR: 'it returns false'. Refute it at one input. -/
def fnWholeWrong : ChangeSpec := { name := "fnWhole", fn := fun _ => fun
  | [d] => { results := [.lit (.bool false)], args := [d] }
  | _ => none }
def FnWholeWrongFalsely : Prop := fnWholeRow.holds Tryd.pinned (OpenSpec.ofChange fnWholeWrong)

/- THE SECOND FORM. 'bulk': how many values and letters a reading holds, each counted each time it is reached (what is shared counts as often as it is met; a slice's spare places count too). A statement '..UptoSaid' is the law's where the arguments, and the package variables that the reading takes, are together of bulk at most 1048576: NARROWER than '..Said'. Prove '..Said' where nothing that the law and all that it calls make is longer than what came in: it says more and counts as full. Else prove '..UptoSaid'. A law counts once. -/
mutual
def uptoBulk {H : Type} : DataW H → Nat
  | .lit (.string bytes) => bytes.length + 1
  | .lit _ => 1
  | .nil => 1
  | .ptr d => uptoBulk d + 1
  | .slice elems spare => uptoBulkAll elems + uptoBulkAll spare + 1
  | .agg parts => uptoBulkAll parts + 1
  | .iface _ d => uptoBulk d + 1
  | .map entries => uptoBulkEntries entries + 1
  | .held _ => 1
def uptoBulkAll {H : Type} : List (DataW H) → Nat
  | [] => 0
  | d :: r => uptoBulk d + uptoBulkAll r
def uptoBulkEntries {H : Type} : List (Lit × DataW H) → Nat
  | [] => 0
  | x :: r => uptoBulkEntry x + uptoBulkEntries r
def uptoBulkEntry {H : Type} : Lit × DataW H → Nat
  | (.string bytes, d) => bytes.length + uptoBulk d + 1
  | (_, d) => uptoBulk d + 1
 end
def uptoSmall : (H : Type) → List (DataW H) → Bool := fun _ ds => decide (uptoBulkAll ds ≤ 1048576)
def OpenSpec.upto (s : _root_.Go.ChangeSpec) : _root_.Go.OpenSpec := { _root_.Go.OpenSpec.ofChange s with cond := some uptoSmall }

/-- 'laws.FnExactIndexBytes', WHERE WHAT IT READS IS OF BULK AT MOST 1048576: true; the input reads as it did. -/
def fnExactIndexBytesUptoRow : OpenClaim := { program := "ytncoihekfmponaadoor", sum := "b330e3071462392cd41589b1ba453bd37a4bbbfcf1b5762d5276397e772d031d", func := "loop.example/lib-g01090/laws.FnExactIndexBytes", spec := "fnExactIndexBytes", recurses := true, named := ["index/suffixarray.maxData32"], apart := false, laid := [("index/suffixarray.maxData32", laid_index_suffixarray_maxData32)], narrowed := true }
def FnExactIndexBytesUptoSaid : Prop := fnExactIndexBytesUptoRow.holds Tryd.pinned (OpenSpec.upto fnExactIndexBytesSpec)

/-- 'laws.FnExactIndexCount', WHERE WHAT IT READS IS OF BULK AT MOST 1048576: true; the input reads as it did. -/
def fnExactIndexCountUptoRow : OpenClaim := { program := "ytncoihekfmponaadoor", sum := "b330e3071462392cd41589b1ba453bd37a4bbbfcf1b5762d5276397e772d031d", func := "loop.example/lib-g01090/laws.FnExactIndexCount", spec := "fnExactIndexCount", inPlace := ["internal/bytealg.Compare"], unfollowed := true, recurses := true, named := ["index/suffixarray.maxData32"], apart := false, laid := [("index/suffixarray.maxData32", laid_index_suffixarray_maxData32)], narrowed := true }
def FnExactIndexCountUptoSaid : Prop := fnExactIndexCountUptoRow.holds Tryd.pinned (OpenSpec.upto fnExactIndexCountSpec)

/-- 'laws.FnLookupNil', WHERE WHAT IT READS IS OF BULK AT MOST 1048576: true; the input reads as it did. -/
def fnLookupNilUptoRow : OpenClaim := { program := "ytncoihekfmponaadoor", sum := "b330e3071462392cd41589b1ba453bd37a4bbbfcf1b5762d5276397e772d031d", func := "loop.example/lib-g01090/laws.FnLookupNil", spec := "fnLookupNil", inPlace := ["internal/bytealg.Compare"], unfollowed := true, recurses := true, named := ["index/suffixarray.maxData32"], apart := false, laid := [("index/suffixarray.maxData32", laid_index_suffixarray_maxData32)], narrowed := true }
def FnLookupNilUptoSaid : Prop := fnLookupNilUptoRow.holds Tryd.pinned (OpenSpec.upto fnLookupNilSpec)

/-- 'laws.FnFirstResults', WHERE WHAT IT READS IS OF BULK AT MOST 1048576: true; the input reads as it did. -/
def fnFirstResultsUptoRow : OpenClaim := { program := "ytncoihekfmponaadoor", sum := "b330e3071462392cd41589b1ba453bd37a4bbbfcf1b5762d5276397e772d031d", func := "loop.example/lib-g01090/laws.FnFirstResults", spec := "fnFirstResults", inPlace := ["internal/bytealg.Compare"], unfollowed := true, recurses := true, named := ["index/suffixarray.maxData32"], apart := false, laid := [("index/suffixarray.maxData32", laid_index_suffixarray_maxData32)], narrowed := true }
def FnFirstResultsUptoSaid : Prop := fnFirstResultsUptoRow.holds Tryd.pinned (OpenSpec.upto fnFirstResultsSpec)

/-- 'laws.FnLookupAll', WHERE WHAT IT READS IS OF BULK AT MOST 1048576: true; the input reads as it did. -/
def fnLookupAllUptoRow : OpenClaim := { program := "ytncoihekfmponaadoor", sum := "b330e3071462392cd41589b1ba453bd37a4bbbfcf1b5762d5276397e772d031d", func := "loop.example/lib-g01090/laws.FnLookupAll", spec := "fnLookupAll", inPlace := ["internal/bytealg.Compare"], unfollowed := true, recurses := true, named := ["index/suffixarray.maxData32"], apart := false, laid := [("index/suffixarray.maxData32", laid_index_suffixarray_maxData32)], narrowed := true }
def FnLookupAllUptoSaid : Prop := fnLookupAllUptoRow.holds Tryd.pinned (OpenSpec.upto fnLookupAllSpec)

/-- 'laws.FnLookupAsMany', WHERE WHAT IT READS IS OF BULK AT MOST 1048576: true; the input reads as it did. -/
def fnLookupAsManyUptoRow : OpenClaim := { program := "ytncoihekfmponaadoor", sum := "b330e3071462392cd41589b1ba453bd37a4bbbfcf1b5762d5276397e772d031d", func := "loop.example/lib-g01090/laws.FnLookupAsMany", spec := "fnLookupAsMany", inPlace := ["internal/bytealg.Compare"], unfollowed := true, recurses := true, named := ["index/suffixarray.maxData32"], apart := false, laid := [("index/suffixarray.maxData32", laid_index_suffixarray_maxData32)], narrowed := true }
def FnLookupAsManyUptoSaid : Prop := fnLookupAsManyUptoRow.holds Tryd.pinned (OpenSpec.upto fnLookupAsManySpec)

/-- 'laws.FnLookupAtMost', WHERE WHAT IT READS IS OF BULK AT MOST 1048576: true; the input reads as it did. -/
def fnLookupAtMostUptoRow : OpenClaim := { program := "ytncoihekfmponaadoor", sum := "b330e3071462392cd41589b1ba453bd37a4bbbfcf1b5762d5276397e772d031d", func := "loop.example/lib-g01090/laws.FnLookupAtMost", spec := "fnLookupAtMost", inPlace := ["internal/bytealg.Compare"], unfollowed := true, recurses := true, named := ["index/suffixarray.maxData32"], apart := false, laid := [("index/suffixarray.maxData32", laid_index_suffixarray_maxData32)], narrowed := true }
def FnLookupAtMostUptoSaid : Prop := fnLookupAtMostUptoRow.holds Tryd.pinned (OpenSpec.upto fnLookupAtMostSpec)

/-- 'laws.FnLookupOnce', WHERE WHAT IT READS IS OF BULK AT MOST 1048576: true; the input reads as it did. -/
def fnLookupOnceUptoRow : OpenClaim := { program := "ytncoihekfmponaadoor", sum := "b330e3071462392cd41589b1ba453bd37a4bbbfcf1b5762d5276397e772d031d", func := "loop.example/lib-g01090/laws.FnLookupOnce", spec := "fnLookupOnce", inPlace := ["internal/bytealg.Compare"], unfollowed := true, recurses := true, named := ["index/suffixarray.maxData32"], apart := false, laid := [("index/suffixarray.maxData32", laid_index_suffixarray_maxData32)], narrowed := true }
def FnLookupOnceUptoSaid : Prop := fnLookupOnceUptoRow.holds Tryd.pinned (OpenSpec.upto fnLookupOnceSpec)

/-- 'laws.FnLookupStands', WHERE WHAT IT READS IS OF BULK AT MOST 1048576: true; the input reads as it did. -/
def fnLookupStandsUptoRow : OpenClaim := { program := "ytncoihekfmponaadoor", sum := "b330e3071462392cd41589b1ba453bd37a4bbbfcf1b5762d5276397e772d031d", func := "loop.example/lib-g01090/laws.FnLookupStands", spec := "fnLookupStands", inPlace := ["internal/bytealg.Compare"], unfollowed := true, recurses := true, named := ["index/suffixarray.maxData32"], apart := false, laid := [("index/suffixarray.maxData32", laid_index_suffixarray_maxData32)], narrowed := true }
def FnLookupStandsUptoSaid : Prop := fnLookupStandsUptoRow.holds Tryd.pinned (OpenSpec.upto fnLookupStandsSpec)

/-- 'laws.FnNarrower', WHERE WHAT IT READS IS OF BULK AT MOST 1048576: true; the input reads as it did. -/
def fnNarrowerUptoRow : OpenClaim := { program := "ytncoihekfmponaadoor", sum := "b330e3071462392cd41589b1ba453bd37a4bbbfcf1b5762d5276397e772d031d", func := "loop.example/lib-g01090/laws.FnNarrower", spec := "fnNarrower", inPlace := ["internal/bytealg.Compare"], unfollowed := true, recurses := true, named := ["index/suffixarray.maxData32"], apart := false, laid := [("index/suffixarray.maxData32", laid_index_suffixarray_maxData32)], narrowed := true }
def FnNarrowerUptoSaid : Prop := fnNarrowerUptoRow.holds Tryd.pinned (OpenSpec.upto fnNarrowerSpec)

/-- 'laws.FnSuffixOrder', WHERE WHAT IT READS IS OF BULK AT MOST 1048576: true; the input reads as it did. -/
def fnSuffixOrderUptoRow : OpenClaim := { program := "ytncoihekfmponaadoor", sum := "b330e3071462392cd41589b1ba453bd37a4bbbfcf1b5762d5276397e772d031d", func := "loop.example/lib-g01090/laws.FnSuffixOrder", spec := "fnSuffixOrder", inPlace := ["internal/bytealg.Compare"], unfollowed := true, recurses := true, named := ["index/suffixarray.maxData32"], apart := false, laid := [("index/suffixarray.maxData32", laid_index_suffixarray_maxData32)], narrowed := true }
def FnSuffixOrderUptoSaid : Prop := fnSuffixOrderUptoRow.holds Tryd.pinned (OpenSpec.upto fnSuffixOrderSpec)

/-- 'laws.FnWhole', WHERE WHAT IT READS IS OF BULK AT MOST 1048576: true; the input reads as it did. -/
def fnWholeUptoRow : OpenClaim := { program := "ytncoihekfmponaadoor", sum := "b330e3071462392cd41589b1ba453bd37a4bbbfcf1b5762d5276397e772d031d", func := "loop.example/lib-g01090/laws.FnWhole", spec := "fnWhole", inPlace := ["internal/bytealg.Compare"], unfollowed := true, recurses := true, named := ["index/suffixarray.maxData32"], apart := false, laid := [("index/suffixarray.maxData32", laid_index_suffixarray_maxData32)], narrowed := true }
def FnWholeUptoSaid : Prop := fnWholeUptoRow.holds Tryd.pinned (OpenSpec.upto fnWholeSpec)

end Rows
end Go.Proofs.YtncoihekfmponaaDoor
