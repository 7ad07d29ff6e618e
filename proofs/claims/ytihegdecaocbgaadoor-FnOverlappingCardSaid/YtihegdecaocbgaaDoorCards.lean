/-
  DERIVED. GIVEN WITH THE SEED: THE CARDS: each row of YtihegdecaocbgaaDoorRows.lean that lists a variable, with what it lists TIED to the program's text (the seventh form; the later family's looks); each row that meets fmt, with fmt's text TOLD by the authors' own Lean function (tested against real Go, not proved from fmt's source: count such statements apart). THE CARD IS WHAT COUNTS. Prove the row's statement (the work); the ties are given (YtihegdecaocbgaaDoorTie.lean); close each card by the builder's one call (the guide's Derived/Test/ToyasCard.lean, 'card_holds'). Laid BY PROGRAM, IN A SANDBOX (cutbox-door.mjs). By AI agents, Wed Nov 11 2026. No macro, syntax, notation, axiom, sorry.
-/
import Derived.Test.YtihegdecaocbgaaDoorRows
import GoSem.ClaimSeven
namespace Go.Proofs.YtihegdecaocbgaaDoor
namespace Rows

/-- THE TIED CARD OF 'laws.FnLonger'. -/
def fnLongerCard : Claim7 := { stood := { row := fnLongerRow, standIns := [], harness := (true, "4eab59a30d50a6ff345da7234a7cf293baa50f4cca300421650b6d7e2bf02720"), looks := false }, kinds := [], alts := [], laidByText := true, laidKinds := [.data], laidTests := true, laidLooks := .later }
def FnLongerCardSaid : Prop := Claim7.holds Tryd.pinned (.plain (OpenSpec.ofChange fnLongerSpec)) fnLongerCard

/-- THE TIED CARD OF 'laws.FnJoined'. -/
def fnJoinedCard : Claim7 := { stood := { row := fnJoinedRow, standIns := [], harness := (true, "4eab59a30d50a6ff345da7234a7cf293baa50f4cca300421650b6d7e2bf02720"), looks := false }, kinds := [], alts := [], laidByText := true, laidKinds := [.data], laidTests := true, laidLooks := .later }
def FnJoinedCardSaid : Prop := Claim7.holds Tryd.pinned (.plain (OpenSpec.ofChange fnJoinedSpec)) fnJoinedCard

/-- THE TIED CARD OF 'laws.FnCutData'. -/
def fnCutDataCard : Claim7 := { stood := { row := fnCutDataRow, standIns := [], harness := (true, "4eab59a30d50a6ff345da7234a7cf293baa50f4cca300421650b6d7e2bf02720"), looks := false }, kinds := [], alts := [], laidByText := true, laidKinds := [.data], laidTests := true, laidLooks := .later }
def FnCutDataCardSaid : Prop := Claim7.holds Tryd.pinned (.plain (OpenSpec.ofChange fnCutDataSpec)) fnCutDataCard

/-- THE TIED CARD OF 'laws.FnTailData'. -/
def fnTailDataCard : Claim7 := { stood := { row := fnTailDataRow, standIns := [], harness := (true, "4eab59a30d50a6ff345da7234a7cf293baa50f4cca300421650b6d7e2bf02720"), looks := false }, kinds := [], alts := [], laidByText := true, laidKinds := [.data], laidTests := true, laidLooks := .later }
def FnTailDataCardSaid : Prop := Claim7.holds Tryd.pinned (.plain (OpenSpec.ofChange fnTailDataSpec)) fnTailDataCard

/-- THE TIED CARD OF 'laws.FnTwoData'. -/
def fnTwoDataCard : Claim7 := { stood := { row := fnTwoDataRow, standIns := [], harness := (true, "4eab59a30d50a6ff345da7234a7cf293baa50f4cca300421650b6d7e2bf02720"), looks := false }, kinds := [], alts := [], laidByText := true, laidKinds := [.data], laidTests := true, laidLooks := .later }
def FnTwoDataCardSaid : Prop := Claim7.holds Tryd.pinned (.plain (OpenSpec.ofChange fnTwoDataSpec)) fnTwoDataCard

/-- THE TIED CARD OF 'laws.FnReversed'. -/
def fnReversedCard : Claim7 := { stood := { row := fnReversedRow, standIns := [], harness := (true, "4eab59a30d50a6ff345da7234a7cf293baa50f4cca300421650b6d7e2bf02720"), looks := false }, kinds := [], alts := [], laidByText := true, laidKinds := [.data], laidTests := true, laidLooks := .later }
def FnReversedCardSaid : Prop := Claim7.holds Tryd.pinned (.plain (OpenSpec.ofChange fnReversedSpec)) fnReversedCard

/-- THE TIED CARD OF 'laws.FnRenamed'. -/
def fnRenamedCard : Claim7 := { stood := { row := fnRenamedRow, standIns := [], harness := (true, "4eab59a30d50a6ff345da7234a7cf293baa50f4cca300421650b6d7e2bf02720"), looks := false }, kinds := [], alts := [], laidByText := true, laidKinds := [.data], laidTests := true, laidLooks := .later }
def FnRenamedCardSaid : Prop := Claim7.holds Tryd.pinned (.plain (OpenSpec.ofChange fnRenamedSpec)) fnRenamedCard

/-- THE TIED CARD OF 'laws.FnDoubled'. -/
def fnDoubledCard : Claim7 := { stood := { row := fnDoubledRow, standIns := [], harness := (true, "4eab59a30d50a6ff345da7234a7cf293baa50f4cca300421650b6d7e2bf02720"), looks := false }, kinds := [], alts := [], laidByText := true, laidKinds := [.data], laidTests := true, laidLooks := .later }
def FnDoubledCardSaid : Prop := Claim7.holds Tryd.pinned (.plain (OpenSpec.ofChange fnDoubledSpec)) fnDoubledCard

/-- THE TIED CARD OF 'laws.FnInnerPart'. -/
def fnInnerPartCard : Claim7 := { stood := { row := fnInnerPartRow, standIns := [], harness := (true, "4eab59a30d50a6ff345da7234a7cf293baa50f4cca300421650b6d7e2bf02720"), looks := false }, kinds := [], alts := [], laidByText := true, laidKinds := [.data], laidTests := true, laidLooks := .later }
def FnInnerPartCardSaid : Prop := Claim7.holds Tryd.pinned (.plain (OpenSpec.ofChange fnInnerPartSpec)) fnInnerPartCard

/-- THE TIED CARD OF 'laws.FnPart'. -/
def fnPartCard : Claim7 := { stood := { row := fnPartRow, standIns := [], harness := (true, "4eab59a30d50a6ff345da7234a7cf293baa50f4cca300421650b6d7e2bf02720"), looks := false }, kinds := [], alts := [], laidByText := true, laidKinds := [.data], laidTests := true, laidLooks := .later }
def FnPartCardSaid : Prop := Claim7.holds Tryd.pinned (.plain (OpenSpec.ofChange fnPartSpec)) fnPartCard

/-- THE TIED CARD OF 'laws.FnSingleByte'. -/
def fnSingleByteCard : Claim7 := { stood := { row := fnSingleByteRow, standIns := [], harness := (true, "4eab59a30d50a6ff345da7234a7cf293baa50f4cca300421650b6d7e2bf02720"), looks := false }, kinds := [], alts := [], laidByText := true, laidKinds := [.data], laidTests := true, laidLooks := .later }
def FnSingleByteCardSaid : Prop := Claim7.holds Tryd.pinned (.plain (OpenSpec.ofChange fnSingleByteSpec)) fnSingleByteCard

/-- THE TIED CARD OF 'laws.FnOverlapping'. -/
def fnOverlappingCard : Claim7 := { stood := { row := fnOverlappingRow, standIns := [], harness := (true, "4eab59a30d50a6ff345da7234a7cf293baa50f4cca300421650b6d7e2bf02720"), looks := false }, kinds := [], alts := [], laidByText := true, laidKinds := [.data], laidTests := true, laidLooks := .later }
def FnOverlappingCardSaid : Prop := Claim7.holds Tryd.pinned (.plain (OpenSpec.ofChange fnOverlappingSpec)) fnOverlappingCard

/-- THE SECOND FORM's CARD OF 'laws.FnLonger'. -/
def fnLongerUptoCard : Claim7 := { stood := { row := fnLongerUptoRow, standIns := [], harness := (true, "4eab59a30d50a6ff345da7234a7cf293baa50f4cca300421650b6d7e2bf02720"), looks := false }, kinds := [], alts := [], laidByText := true, laidKinds := [.data], laidTests := true, laidLooks := .later }
def FnLongerUptoCardSaid : Prop := Claim7.holds Tryd.pinned (.plain (OpenSpec.upto fnLongerSpec)) fnLongerUptoCard

/-- THE SECOND FORM's CARD OF 'laws.FnJoined'. -/
def fnJoinedUptoCard : Claim7 := { stood := { row := fnJoinedUptoRow, standIns := [], harness := (true, "4eab59a30d50a6ff345da7234a7cf293baa50f4cca300421650b6d7e2bf02720"), looks := false }, kinds := [], alts := [], laidByText := true, laidKinds := [.data], laidTests := true, laidLooks := .later }
def FnJoinedUptoCardSaid : Prop := Claim7.holds Tryd.pinned (.plain (OpenSpec.upto fnJoinedSpec)) fnJoinedUptoCard

/-- THE SECOND FORM's CARD OF 'laws.FnCutData'. -/
def fnCutDataUptoCard : Claim7 := { stood := { row := fnCutDataUptoRow, standIns := [], harness := (true, "4eab59a30d50a6ff345da7234a7cf293baa50f4cca300421650b6d7e2bf02720"), looks := false }, kinds := [], alts := [], laidByText := true, laidKinds := [.data], laidTests := true, laidLooks := .later }
def FnCutDataUptoCardSaid : Prop := Claim7.holds Tryd.pinned (.plain (OpenSpec.upto fnCutDataSpec)) fnCutDataUptoCard

/-- THE SECOND FORM's CARD OF 'laws.FnTailData'. -/
def fnTailDataUptoCard : Claim7 := { stood := { row := fnTailDataUptoRow, standIns := [], harness := (true, "4eab59a30d50a6ff345da7234a7cf293baa50f4cca300421650b6d7e2bf02720"), looks := false }, kinds := [], alts := [], laidByText := true, laidKinds := [.data], laidTests := true, laidLooks := .later }
def FnTailDataUptoCardSaid : Prop := Claim7.holds Tryd.pinned (.plain (OpenSpec.upto fnTailDataSpec)) fnTailDataUptoCard

/-- THE SECOND FORM's CARD OF 'laws.FnTwoData'. -/
def fnTwoDataUptoCard : Claim7 := { stood := { row := fnTwoDataUptoRow, standIns := [], harness := (true, "4eab59a30d50a6ff345da7234a7cf293baa50f4cca300421650b6d7e2bf02720"), looks := false }, kinds := [], alts := [], laidByText := true, laidKinds := [.data], laidTests := true, laidLooks := .later }
def FnTwoDataUptoCardSaid : Prop := Claim7.holds Tryd.pinned (.plain (OpenSpec.upto fnTwoDataSpec)) fnTwoDataUptoCard

/-- THE SECOND FORM's CARD OF 'laws.FnReversed'. -/
def fnReversedUptoCard : Claim7 := { stood := { row := fnReversedUptoRow, standIns := [], harness := (true, "4eab59a30d50a6ff345da7234a7cf293baa50f4cca300421650b6d7e2bf02720"), looks := false }, kinds := [], alts := [], laidByText := true, laidKinds := [.data], laidTests := true, laidLooks := .later }
def FnReversedUptoCardSaid : Prop := Claim7.holds Tryd.pinned (.plain (OpenSpec.upto fnReversedSpec)) fnReversedUptoCard

/-- THE SECOND FORM's CARD OF 'laws.FnRenamed'. -/
def fnRenamedUptoCard : Claim7 := { stood := { row := fnRenamedUptoRow, standIns := [], harness := (true, "4eab59a30d50a6ff345da7234a7cf293baa50f4cca300421650b6d7e2bf02720"), looks := false }, kinds := [], alts := [], laidByText := true, laidKinds := [.data], laidTests := true, laidLooks := .later }
def FnRenamedUptoCardSaid : Prop := Claim7.holds Tryd.pinned (.plain (OpenSpec.upto fnRenamedSpec)) fnRenamedUptoCard

/-- THE SECOND FORM's CARD OF 'laws.FnDoubled'. -/
def fnDoubledUptoCard : Claim7 := { stood := { row := fnDoubledUptoRow, standIns := [], harness := (true, "4eab59a30d50a6ff345da7234a7cf293baa50f4cca300421650b6d7e2bf02720"), looks := false }, kinds := [], alts := [], laidByText := true, laidKinds := [.data], laidTests := true, laidLooks := .later }
def FnDoubledUptoCardSaid : Prop := Claim7.holds Tryd.pinned (.plain (OpenSpec.upto fnDoubledSpec)) fnDoubledUptoCard

/-- THE SECOND FORM's CARD OF 'laws.FnInnerPart'. -/
def fnInnerPartUptoCard : Claim7 := { stood := { row := fnInnerPartUptoRow, standIns := [], harness := (true, "4eab59a30d50a6ff345da7234a7cf293baa50f4cca300421650b6d7e2bf02720"), looks := false }, kinds := [], alts := [], laidByText := true, laidKinds := [.data], laidTests := true, laidLooks := .later }
def FnInnerPartUptoCardSaid : Prop := Claim7.holds Tryd.pinned (.plain (OpenSpec.upto fnInnerPartSpec)) fnInnerPartUptoCard

/-- THE SECOND FORM's CARD OF 'laws.FnPart'. -/
def fnPartUptoCard : Claim7 := { stood := { row := fnPartUptoRow, standIns := [], harness := (true, "4eab59a30d50a6ff345da7234a7cf293baa50f4cca300421650b6d7e2bf02720"), looks := false }, kinds := [], alts := [], laidByText := true, laidKinds := [.data], laidTests := true, laidLooks := .later }
def FnPartUptoCardSaid : Prop := Claim7.holds Tryd.pinned (.plain (OpenSpec.upto fnPartSpec)) fnPartUptoCard

/-- THE SECOND FORM's CARD OF 'laws.FnSingleByte'. -/
def fnSingleByteUptoCard : Claim7 := { stood := { row := fnSingleByteUptoRow, standIns := [], harness := (true, "4eab59a30d50a6ff345da7234a7cf293baa50f4cca300421650b6d7e2bf02720"), looks := false }, kinds := [], alts := [], laidByText := true, laidKinds := [.data], laidTests := true, laidLooks := .later }
def FnSingleByteUptoCardSaid : Prop := Claim7.holds Tryd.pinned (.plain (OpenSpec.upto fnSingleByteSpec)) fnSingleByteUptoCard

/-- THE SECOND FORM's CARD OF 'laws.FnOverlapping'. -/
def fnOverlappingUptoCard : Claim7 := { stood := { row := fnOverlappingUptoRow, standIns := [], harness := (true, "4eab59a30d50a6ff345da7234a7cf293baa50f4cca300421650b6d7e2bf02720"), looks := false }, kinds := [], alts := [], laidByText := true, laidKinds := [.data], laidTests := true, laidLooks := .later }
def FnOverlappingUptoCardSaid : Prop := Claim7.holds Tryd.pinned (.plain (OpenSpec.upto fnOverlappingSpec)) fnOverlappingUptoCard
end Rows
end Go.Proofs.YtihegdecaocbgaaDoor
