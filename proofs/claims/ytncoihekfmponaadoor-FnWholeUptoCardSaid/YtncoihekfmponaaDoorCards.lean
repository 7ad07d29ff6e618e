/-
  DERIVED. GIVEN WITH THE SEED: THE CARDS: each row of YtncoihekfmponaaDoorRows.lean that lists a variable, with what it lists TIED to the program's text (the seventh form; the later family's looks); each row that meets fmt, with fmt's text TOLD by the authors' own Lean function (tested against real Go, not proved from fmt's source: count such statements apart). THE CARD IS WHAT COUNTS. Prove the row's statement (the work); the ties are given (YtncoihekfmponaaDoorTie.lean); close each card by the builder's one call (the guide's Derived/Test/ToyasCard.lean, 'card_holds'). Laid BY PROGRAM, IN A SANDBOX (cutbox-door.mjs). By AI agents, Wed Nov 11 2026. No macro, syntax, notation, axiom, sorry.
-/
import Derived.Test.YtncoihekfmponaaDoorRows
import GoSem.ClaimSeven
namespace Go.Proofs.YtncoihekfmponaaDoor
namespace Rows

/-- THE TIED CARD OF 'laws.FnExactIndexBytes'. -/
def fnExactIndexBytesCard : Claim7 := { stood := { row := fnExactIndexBytesRow, standIns := [], harness := (true, "bb19bd582d6de5abc604a4f66dd887ee1a0a3c01b7be2fd5a6903cbe72a5402c"), looks := false }, kinds := [], alts := [], laidByText := true, laidKinds := [.data], laidTests := true, laidLooks := .later }
def FnExactIndexBytesCardSaid : Prop := Claim7.holds Tryd.pinned (.plain (OpenSpec.ofChange fnExactIndexBytesSpec)) fnExactIndexBytesCard

/-- THE TIED CARD OF 'laws.FnExactIndexCount'. -/
def fnExactIndexCountCard : Claim7 := { stood := { row := fnExactIndexCountRow, standIns := [], harness := (true, "bb19bd582d6de5abc604a4f66dd887ee1a0a3c01b7be2fd5a6903cbe72a5402c"), looks := false }, kinds := [], alts := [], laidByText := true, laidKinds := [.data], laidTests := true, laidLooks := .later }
def FnExactIndexCountCardSaid : Prop := Claim7.holds Tryd.pinned (.plain (OpenSpec.ofChange fnExactIndexCountSpec)) fnExactIndexCountCard

/-- THE TIED CARD OF 'laws.FnLookupNil'. -/
def fnLookupNilCard : Claim7 := { stood := { row := fnLookupNilRow, standIns := [], harness := (true, "bb19bd582d6de5abc604a4f66dd887ee1a0a3c01b7be2fd5a6903cbe72a5402c"), looks := false }, kinds := [], alts := [], laidByText := true, laidKinds := [.data], laidTests := true, laidLooks := .later }
def FnLookupNilCardSaid : Prop := Claim7.holds Tryd.pinned (.plain (OpenSpec.ofChange fnLookupNilSpec)) fnLookupNilCard

/-- THE TIED CARD OF 'laws.FnFirstResults'. -/
def fnFirstResultsCard : Claim7 := { stood := { row := fnFirstResultsRow, standIns := [], harness := (true, "bb19bd582d6de5abc604a4f66dd887ee1a0a3c01b7be2fd5a6903cbe72a5402c"), looks := false }, kinds := [], alts := [], laidByText := true, laidKinds := [.data], laidTests := true, laidLooks := .later }
def FnFirstResultsCardSaid : Prop := Claim7.holds Tryd.pinned (.plain (OpenSpec.ofChange fnFirstResultsSpec)) fnFirstResultsCard

/-- THE TIED CARD OF 'laws.FnLookupAll'. -/
def fnLookupAllCard : Claim7 := { stood := { row := fnLookupAllRow, standIns := [], harness := (true, "bb19bd582d6de5abc604a4f66dd887ee1a0a3c01b7be2fd5a6903cbe72a5402c"), looks := false }, kinds := [], alts := [], laidByText := true, laidKinds := [.data], laidTests := true, laidLooks := .later }
def FnLookupAllCardSaid : Prop := Claim7.holds Tryd.pinned (.plain (OpenSpec.ofChange fnLookupAllSpec)) fnLookupAllCard

/-- THE TIED CARD OF 'laws.FnLookupAsMany'. -/
def fnLookupAsManyCard : Claim7 := { stood := { row := fnLookupAsManyRow, standIns := [], harness := (true, "bb19bd582d6de5abc604a4f66dd887ee1a0a3c01b7be2fd5a6903cbe72a5402c"), looks := false }, kinds := [], alts := [], laidByText := true, laidKinds := [.data], laidTests := true, laidLooks := .later }
def FnLookupAsManyCardSaid : Prop := Claim7.holds Tryd.pinned (.plain (OpenSpec.ofChange fnLookupAsManySpec)) fnLookupAsManyCard

/-- THE TIED CARD OF 'laws.FnLookupAtMost'. -/
def fnLookupAtMostCard : Claim7 := { stood := { row := fnLookupAtMostRow, standIns := [], harness := (true, "bb19bd582d6de5abc604a4f66dd887ee1a0a3c01b7be2fd5a6903cbe72a5402c"), looks := false }, kinds := [], alts := [], laidByText := true, laidKinds := [.data], laidTests := true, laidLooks := .later }
def FnLookupAtMostCardSaid : Prop := Claim7.holds Tryd.pinned (.plain (OpenSpec.ofChange fnLookupAtMostSpec)) fnLookupAtMostCard

/-- THE TIED CARD OF 'laws.FnLookupOnce'. -/
def fnLookupOnceCard : Claim7 := { stood := { row := fnLookupOnceRow, standIns := [], harness := (true, "bb19bd582d6de5abc604a4f66dd887ee1a0a3c01b7be2fd5a6903cbe72a5402c"), looks := false }, kinds := [], alts := [], laidByText := true, laidKinds := [.data], laidTests := true, laidLooks := .later }
def FnLookupOnceCardSaid : Prop := Claim7.holds Tryd.pinned (.plain (OpenSpec.ofChange fnLookupOnceSpec)) fnLookupOnceCard

/-- THE TIED CARD OF 'laws.FnLookupStands'. -/
def fnLookupStandsCard : Claim7 := { stood := { row := fnLookupStandsRow, standIns := [], harness := (true, "bb19bd582d6de5abc604a4f66dd887ee1a0a3c01b7be2fd5a6903cbe72a5402c"), looks := false }, kinds := [], alts := [], laidByText := true, laidKinds := [.data], laidTests := true, laidLooks := .later }
def FnLookupStandsCardSaid : Prop := Claim7.holds Tryd.pinned (.plain (OpenSpec.ofChange fnLookupStandsSpec)) fnLookupStandsCard

/-- THE TIED CARD OF 'laws.FnNarrower'. -/
def fnNarrowerCard : Claim7 := { stood := { row := fnNarrowerRow, standIns := [], harness := (true, "bb19bd582d6de5abc604a4f66dd887ee1a0a3c01b7be2fd5a6903cbe72a5402c"), looks := false }, kinds := [], alts := [], laidByText := true, laidKinds := [.data], laidTests := true, laidLooks := .later }
def FnNarrowerCardSaid : Prop := Claim7.holds Tryd.pinned (.plain (OpenSpec.ofChange fnNarrowerSpec)) fnNarrowerCard

/-- THE TIED CARD OF 'laws.FnSuffixOrder'. -/
def fnSuffixOrderCard : Claim7 := { stood := { row := fnSuffixOrderRow, standIns := [], harness := (true, "bb19bd582d6de5abc604a4f66dd887ee1a0a3c01b7be2fd5a6903cbe72a5402c"), looks := false }, kinds := [], alts := [], laidByText := true, laidKinds := [.data], laidTests := true, laidLooks := .later }
def FnSuffixOrderCardSaid : Prop := Claim7.holds Tryd.pinned (.plain (OpenSpec.ofChange fnSuffixOrderSpec)) fnSuffixOrderCard

/-- THE TIED CARD OF 'laws.FnWhole'. -/
def fnWholeCard : Claim7 := { stood := { row := fnWholeRow, standIns := [], harness := (true, "bb19bd582d6de5abc604a4f66dd887ee1a0a3c01b7be2fd5a6903cbe72a5402c"), looks := false }, kinds := [], alts := [], laidByText := true, laidKinds := [.data], laidTests := true, laidLooks := .later }
def FnWholeCardSaid : Prop := Claim7.holds Tryd.pinned (.plain (OpenSpec.ofChange fnWholeSpec)) fnWholeCard

/-- THE SECOND FORM's CARD OF 'laws.FnExactIndexBytes'. -/
def fnExactIndexBytesUptoCard : Claim7 := { stood := { row := fnExactIndexBytesUptoRow, standIns := [], harness := (true, "bb19bd582d6de5abc604a4f66dd887ee1a0a3c01b7be2fd5a6903cbe72a5402c"), looks := false }, kinds := [], alts := [], laidByText := true, laidKinds := [.data], laidTests := true, laidLooks := .later }
def FnExactIndexBytesUptoCardSaid : Prop := Claim7.holds Tryd.pinned (.plain (OpenSpec.upto fnExactIndexBytesSpec)) fnExactIndexBytesUptoCard

/-- THE SECOND FORM's CARD OF 'laws.FnExactIndexCount'. -/
def fnExactIndexCountUptoCard : Claim7 := { stood := { row := fnExactIndexCountUptoRow, standIns := [], harness := (true, "bb19bd582d6de5abc604a4f66dd887ee1a0a3c01b7be2fd5a6903cbe72a5402c"), looks := false }, kinds := [], alts := [], laidByText := true, laidKinds := [.data], laidTests := true, laidLooks := .later }
def FnExactIndexCountUptoCardSaid : Prop := Claim7.holds Tryd.pinned (.plain (OpenSpec.upto fnExactIndexCountSpec)) fnExactIndexCountUptoCard

/-- THE SECOND FORM's CARD OF 'laws.FnLookupNil'. -/
def fnLookupNilUptoCard : Claim7 := { stood := { row := fnLookupNilUptoRow, standIns := [], harness := (true, "bb19bd582d6de5abc604a4f66dd887ee1a0a3c01b7be2fd5a6903cbe72a5402c"), looks := false }, kinds := [], alts := [], laidByText := true, laidKinds := [.data], laidTests := true, laidLooks := .later }
def FnLookupNilUptoCardSaid : Prop := Claim7.holds Tryd.pinned (.plain (OpenSpec.upto fnLookupNilSpec)) fnLookupNilUptoCard

/-- THE SECOND FORM's CARD OF 'laws.FnFirstResults'. -/
def fnFirstResultsUptoCard : Claim7 := { stood := { row := fnFirstResultsUptoRow, standIns := [], harness := (true, "bb19bd582d6de5abc604a4f66dd887ee1a0a3c01b7be2fd5a6903cbe72a5402c"), looks := false }, kinds := [], alts := [], laidByText := true, laidKinds := [.data], laidTests := true, laidLooks := .later }
def FnFirstResultsUptoCardSaid : Prop := Claim7.holds Tryd.pinned (.plain (OpenSpec.upto fnFirstResultsSpec)) fnFirstResultsUptoCard

/-- THE SECOND FORM's CARD OF 'laws.FnLookupAll'. -/
def fnLookupAllUptoCard : Claim7 := { stood := { row := fnLookupAllUptoRow, standIns := [], harness := (true, "bb19bd582d6de5abc604a4f66dd887ee1a0a3c01b7be2fd5a6903cbe72a5402c"), looks := false }, kinds := [], alts := [], laidByText := true, laidKinds := [.data], laidTests := true, laidLooks := .later }
def FnLookupAllUptoCardSaid : Prop := Claim7.holds Tryd.pinned (.plain (OpenSpec.upto fnLookupAllSpec)) fnLookupAllUptoCard

/-- THE SECOND FORM's CARD OF 'laws.FnLookupAsMany'. -/
def fnLookupAsManyUptoCard : Claim7 := { stood := { row := fnLookupAsManyUptoRow, standIns := [], harness := (true, "bb19bd582d6de5abc604a4f66dd887ee1a0a3c01b7be2fd5a6903cbe72a5402c"), looks := false }, kinds := [], alts := [], laidByText := true, laidKinds := [.data], laidTests := true, laidLooks := .later }
def FnLookupAsManyUptoCardSaid : Prop := Claim7.holds Tryd.pinned (.plain (OpenSpec.upto fnLookupAsManySpec)) fnLookupAsManyUptoCard

/-- THE SECOND FORM's CARD OF 'laws.FnLookupAtMost'. -/
def fnLookupAtMostUptoCard : Claim7 := { stood := { row := fnLookupAtMostUptoRow, standIns := [], harness := (true, "bb19bd582d6de5abc604a4f66dd887ee1a0a3c01b7be2fd5a6903cbe72a5402c"), looks := false }, kinds := [], alts := [], laidByText := true, laidKinds := [.data], laidTests := true, laidLooks := .later }
def FnLookupAtMostUptoCardSaid : Prop := Claim7.holds Tryd.pinned (.plain (OpenSpec.upto fnLookupAtMostSpec)) fnLookupAtMostUptoCard

/-- THE SECOND FORM's CARD OF 'laws.FnLookupOnce'. -/
def fnLookupOnceUptoCard : Claim7 := { stood := { row := fnLookupOnceUptoRow, standIns := [], harness := (true, "bb19bd582d6de5abc604a4f66dd887ee1a0a3c01b7be2fd5a6903cbe72a5402c"), looks := false }, kinds := [], alts := [], laidByText := true, laidKinds := [.data], laidTests := true, laidLooks := .later }
def FnLookupOnceUptoCardSaid : Prop := Claim7.holds Tryd.pinned (.plain (OpenSpec.upto fnLookupOnceSpec)) fnLookupOnceUptoCard

/-- THE SECOND FORM's CARD OF 'laws.FnLookupStands'. -/
def fnLookupStandsUptoCard : Claim7 := { stood := { row := fnLookupStandsUptoRow, standIns := [], harness := (true, "bb19bd582d6de5abc604a4f66dd887ee1a0a3c01b7be2fd5a6903cbe72a5402c"), looks := false }, kinds := [], alts := [], laidByText := true, laidKinds := [.data], laidTests := true, laidLooks := .later }
def FnLookupStandsUptoCardSaid : Prop := Claim7.holds Tryd.pinned (.plain (OpenSpec.upto fnLookupStandsSpec)) fnLookupStandsUptoCard

/-- THE SECOND FORM's CARD OF 'laws.FnNarrower'. -/
def fnNarrowerUptoCard : Claim7 := { stood := { row := fnNarrowerUptoRow, standIns := [], harness := (true, "bb19bd582d6de5abc604a4f66dd887ee1a0a3c01b7be2fd5a6903cbe72a5402c"), looks := false }, kinds := [], alts := [], laidByText := true, laidKinds := [.data], laidTests := true, laidLooks := .later }
def FnNarrowerUptoCardSaid : Prop := Claim7.holds Tryd.pinned (.plain (OpenSpec.upto fnNarrowerSpec)) fnNarrowerUptoCard

/-- THE SECOND FORM's CARD OF 'laws.FnSuffixOrder'. -/
def fnSuffixOrderUptoCard : Claim7 := { stood := { row := fnSuffixOrderUptoRow, standIns := [], harness := (true, "bb19bd582d6de5abc604a4f66dd887ee1a0a3c01b7be2fd5a6903cbe72a5402c"), looks := false }, kinds := [], alts := [], laidByText := true, laidKinds := [.data], laidTests := true, laidLooks := .later }
def FnSuffixOrderUptoCardSaid : Prop := Claim7.holds Tryd.pinned (.plain (OpenSpec.upto fnSuffixOrderSpec)) fnSuffixOrderUptoCard

/-- THE SECOND FORM's CARD OF 'laws.FnWhole'. -/
def fnWholeUptoCard : Claim7 := { stood := { row := fnWholeUptoRow, standIns := [], harness := (true, "bb19bd582d6de5abc604a4f66dd887ee1a0a3c01b7be2fd5a6903cbe72a5402c"), looks := false }, kinds := [], alts := [], laidByText := true, laidKinds := [.data], laidTests := true, laidLooks := .later }
def FnWholeUptoCardSaid : Prop := Claim7.holds Tryd.pinned (.plain (OpenSpec.upto fnWholeSpec)) fnWholeUptoCard
end Rows
end Go.Proofs.YtncoihekfmponaaDoor
