/-
  DERIVED. GIVEN WITH THE SEED: THE CARDS: each row of YtpkgkppehefibaaDoorRows.lean that lists a variable, with what it lists TIED to the program's text (the seventh form; the later family's looks); each row that meets fmt, with fmt's text TOLD by the authors' own Lean function (tested against real Go, not proved from fmt's source: count such statements apart). THE CARD IS WHAT COUNTS. Prove the row's statement (the work); the ties are given (YtpkgkppehefibaaDoorTie.lean); close each card by the builder's one call (the guide's Derived/Test/ToyasCard.lean, 'card_holds'). Laid BY PROGRAM, IN A SANDBOX (cutbox-door.mjs). By AI agents, Wed Nov 11 2026. No macro, syntax, notation, axiom, sorry.
-/
import Derived.Test.YtpkgkppehefibaaDoorRows
import GoSem.ClaimSeven
namespace Go.Proofs.YtpkgkppehefibaaDoor
namespace Rows

/-- THE TIED CARD OF 'laws.FnPrefixes'. -/
def fnPrefixesCard : Claim7 := { stood := { row := fnPrefixesRow, standIns := [], harness := (true, "87add753f4230208e2d58a5ef5a485cad29a7ce23dd7080b48eae8859f8bdd47"), looks := true }, kinds := [], alts := [], laidByText := true, laidKinds := [.data], laidTests := true, laidLooks := .later }
def FnPrefixesCardSaid : Prop := Claim7.holds Tryd.pinned (.plain (OpenSpec.ofChange fnPrefixesSpec)) fnPrefixesCard

/-- THE TIED CARD OF 'laws.FnSuffixes'. -/
def fnSuffixesCard : Claim7 := { stood := { row := fnSuffixesRow, standIns := [], harness := (true, "87add753f4230208e2d58a5ef5a485cad29a7ce23dd7080b48eae8859f8bdd47"), looks := true }, kinds := [], alts := [], laidByText := true, laidKinds := [.data], laidTests := true, laidLooks := .later }
def FnSuffixesCardSaid : Prop := Claim7.holds Tryd.pinned (.plain (OpenSpec.ofChange fnSuffixesSpec)) fnSuffixesCard

/-- THE TIED CARD OF 'laws.FnWrittenAgain'. -/
def fnWrittenAgainCard : Claim7 := { stood := { row := fnWrittenAgainRow, standIns := [], harness := (true, "87add753f4230208e2d58a5ef5a485cad29a7ce23dd7080b48eae8859f8bdd47"), looks := true }, kinds := [], alts := [], laidByText := true, laidKinds := [.data], laidTests := true, laidLooks := .later }
def FnWrittenAgainCardSaid : Prop := Claim7.holds Tryd.pinned (.plain (OpenSpec.ofChange fnWrittenAgainSpec)) fnWrittenAgainCard

/-- THE TIED CARD OF 'laws.FnWrittenTells'. -/
def fnWrittenTellsCard : Claim7 := { stood := { row := fnWrittenTellsRow, standIns := [], harness := (true, "87add753f4230208e2d58a5ef5a485cad29a7ce23dd7080b48eae8859f8bdd47"), looks := true }, kinds := [], alts := [], laidByText := true, laidKinds := [.data], laidTests := true, laidLooks := .later }
def FnWrittenTellsCardSaid : Prop := Claim7.holds Tryd.pinned (.plain (OpenSpec.ofChange fnWrittenTellsSpec)) fnWrittenTellsCard

/-- THE TIED CARD OF 'laws.FnExactIndexCopyBytes'. -/
def fnExactIndexCopyBytesCard : Claim7 := { stood := { row := fnExactIndexCopyBytesRow, standIns := [], harness := (true, "87add753f4230208e2d58a5ef5a485cad29a7ce23dd7080b48eae8859f8bdd47"), looks := true }, kinds := [], alts := [], laidByText := true, laidKinds := [.sentinel, .sentinel, .sentinel, .data, .sentinel], laidTests := true, laidLooks := .later }
def FnExactIndexCopyBytesCardSaid : Prop := Claim7.holds Tryd.pinned (.plain (OpenSpec.ofChange fnExactIndexCopyBytesSpec)) fnExactIndexCopyBytesCard

/-- THE TIED CARD OF 'laws.FnExactIndexExactBytes'. -/
def fnExactIndexExactBytesCard : Claim7 := { stood := { row := fnExactIndexExactBytesRow, standIns := [], harness := (true, "87add753f4230208e2d58a5ef5a485cad29a7ce23dd7080b48eae8859f8bdd47"), looks := true }, kinds := [], alts := [], laidByText := true, laidKinds := [.sentinel, .sentinel, .sentinel, .data, .sentinel], laidTests := true, laidLooks := .later }
def FnExactIndexExactBytesCardSaid : Prop := Claim7.holds Tryd.pinned (.plain (OpenSpec.ofChange fnExactIndexExactBytesSpec)) fnExactIndexExactBytesCard

/-- THE SECOND FORM's CARD OF 'laws.FnPrefixes'. -/
def fnPrefixesUptoCard : Claim7 := { stood := { row := fnPrefixesUptoRow, standIns := [], harness := (true, "87add753f4230208e2d58a5ef5a485cad29a7ce23dd7080b48eae8859f8bdd47"), looks := true }, kinds := [], alts := [], laidByText := true, laidKinds := [.data], laidTests := true, laidLooks := .later }
def FnPrefixesUptoCardSaid : Prop := Claim7.holds Tryd.pinned (.plain (OpenSpec.upto fnPrefixesSpec)) fnPrefixesUptoCard

/-- THE SECOND FORM's CARD OF 'laws.FnSuffixes'. -/
def fnSuffixesUptoCard : Claim7 := { stood := { row := fnSuffixesUptoRow, standIns := [], harness := (true, "87add753f4230208e2d58a5ef5a485cad29a7ce23dd7080b48eae8859f8bdd47"), looks := true }, kinds := [], alts := [], laidByText := true, laidKinds := [.data], laidTests := true, laidLooks := .later }
def FnSuffixesUptoCardSaid : Prop := Claim7.holds Tryd.pinned (.plain (OpenSpec.upto fnSuffixesSpec)) fnSuffixesUptoCard

/-- THE SECOND FORM's CARD OF 'laws.FnWrittenAgain'. -/
def fnWrittenAgainUptoCard : Claim7 := { stood := { row := fnWrittenAgainUptoRow, standIns := [], harness := (true, "87add753f4230208e2d58a5ef5a485cad29a7ce23dd7080b48eae8859f8bdd47"), looks := true }, kinds := [], alts := [], laidByText := true, laidKinds := [.data], laidTests := true, laidLooks := .later }
def FnWrittenAgainUptoCardSaid : Prop := Claim7.holds Tryd.pinned (.plain (OpenSpec.upto fnWrittenAgainSpec)) fnWrittenAgainUptoCard

/-- THE SECOND FORM's CARD OF 'laws.FnWrittenTells'. -/
def fnWrittenTellsUptoCard : Claim7 := { stood := { row := fnWrittenTellsUptoRow, standIns := [], harness := (true, "87add753f4230208e2d58a5ef5a485cad29a7ce23dd7080b48eae8859f8bdd47"), looks := true }, kinds := [], alts := [], laidByText := true, laidKinds := [.data], laidTests := true, laidLooks := .later }
def FnWrittenTellsUptoCardSaid : Prop := Claim7.holds Tryd.pinned (.plain (OpenSpec.upto fnWrittenTellsSpec)) fnWrittenTellsUptoCard

/-- THE SECOND FORM's CARD OF 'laws.FnExactIndexCopyBytes'. -/
def fnExactIndexCopyBytesUptoCard : Claim7 := { stood := { row := fnExactIndexCopyBytesUptoRow, standIns := [], harness := (true, "87add753f4230208e2d58a5ef5a485cad29a7ce23dd7080b48eae8859f8bdd47"), looks := true }, kinds := [], alts := [], laidByText := true, laidKinds := [.sentinel, .sentinel, .sentinel, .data, .sentinel], laidTests := true, laidLooks := .later }
def FnExactIndexCopyBytesUptoCardSaid : Prop := Claim7.holds Tryd.pinned (.plain (OpenSpec.upto fnExactIndexCopyBytesSpec)) fnExactIndexCopyBytesUptoCard

/-- THE SECOND FORM's CARD OF 'laws.FnExactIndexExactBytes'. -/
def fnExactIndexExactBytesUptoCard : Claim7 := { stood := { row := fnExactIndexExactBytesUptoRow, standIns := [], harness := (true, "87add753f4230208e2d58a5ef5a485cad29a7ce23dd7080b48eae8859f8bdd47"), looks := true }, kinds := [], alts := [], laidByText := true, laidKinds := [.sentinel, .sentinel, .sentinel, .data, .sentinel], laidTests := true, laidLooks := .later }
def FnExactIndexExactBytesUptoCardSaid : Prop := Claim7.holds Tryd.pinned (.plain (OpenSpec.upto fnExactIndexExactBytesSpec)) fnExactIndexExactBytesUptoCard
end Rows
end Go.Proofs.YtpkgkppehefibaaDoor
