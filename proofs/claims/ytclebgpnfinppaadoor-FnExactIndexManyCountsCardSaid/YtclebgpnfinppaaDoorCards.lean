/-
  DERIVED. GIVEN WITH THE SEED: THE CARDS: each row of YtclebgpnfinppaaDoorRows.lean that lists a variable, with what it lists TIED to the program's text (the seventh form; the later family's looks); each row that meets fmt, with fmt's text TOLD by the authors' own Lean function (tested against real Go, not proved from fmt's source: count such statements apart). THE CARD IS WHAT COUNTS. Prove the row's statement (the work); the ties are given (YtclebgpnfinppaaDoorTie.lean); close each card by the builder's one call (the guide's Derived/Test/ToyasCard.lean, 'card_holds'). Laid BY PROGRAM, IN A SANDBOX (cutbox-door.mjs). By AI agents, Wed Nov 11 2026. No macro, syntax, notation, axiom, sorry.
-/
import Derived.Test.YtclebgpnfinppaaDoorRows
import GoSem.ClaimSeven
namespace Go.Proofs.YtclebgpnfinppaaDoor
namespace Rows

/-- THE TIED CARD OF 'laws.FnLookupTwice'. -/
def fnLookupTwiceCard : Claim7 := { stood := { row := fnLookupTwiceRow, standIns := [], harness := (true, "438670295609fb2fbecac16011ad133ef0a1511647eab41857955df5ebf6f4d8"), looks := false }, kinds := [], alts := [], laidByText := true, laidKinds := [.data], laidTests := true, laidLooks := .later }
def FnLookupTwiceCardSaid : Prop := Claim7.holds Tryd.pinned (.plain (OpenSpec.ofChange fnLookupTwiceSpec)) fnLookupTwiceCard

/-- THE TIED CARD OF 'laws.FnTooLong'. -/
def fnTooLongCard : Claim7 := { stood := { row := fnTooLongRow, standIns := [], harness := (true, "438670295609fb2fbecac16011ad133ef0a1511647eab41857955df5ebf6f4d8"), looks := false }, kinds := [], alts := [], laidByText := true, laidKinds := [.data], laidTests := true, laidLooks := .later }
def FnTooLongCardSaid : Prop := Claim7.holds Tryd.pinned (.plain (OpenSpec.ofChange fnTooLongSpec)) fnTooLongCard

/-- THE TIED CARD OF 'laws.FnStrangeByte'. -/
def fnStrangeByteCard : Claim7 := { stood := { row := fnStrangeByteRow, standIns := [], harness := (true, "438670295609fb2fbecac16011ad133ef0a1511647eab41857955df5ebf6f4d8"), looks := false }, kinds := [], alts := [], laidByText := true, laidKinds := [.data], laidTests := true, laidLooks := .later }
def FnStrangeByteCardSaid : Prop := Claim7.holds Tryd.pinned (.plain (OpenSpec.ofChange fnStrangeByteSpec)) fnStrangeByteCard

/-- THE TIED CARD OF 'laws.FnLookupSome'. -/
def fnLookupSomeCard : Claim7 := { stood := { row := fnLookupSomeRow, standIns := [], harness := (true, "438670295609fb2fbecac16011ad133ef0a1511647eab41857955df5ebf6f4d8"), looks := false }, kinds := [], alts := [], laidByText := true, laidKinds := [.data], laidTests := true, laidLooks := .later }
def FnLookupSomeCardSaid : Prop := Claim7.holds Tryd.pinned (.plain (OpenSpec.ofChange fnLookupSomeSpec)) fnLookupSomeCard

/-- THE TIED CARD OF 'laws.FnEmpty'. -/
def fnEmptyCard : Claim7 := { stood := { row := fnEmptyRow, standIns := [], harness := (true, "438670295609fb2fbecac16011ad133ef0a1511647eab41857955df5ebf6f4d8"), looks := false }, kinds := [], alts := [], laidByText := true, laidKinds := [.data], laidTests := true, laidLooks := .later }
def FnEmptyCardSaid : Prop := Claim7.holds Tryd.pinned (.plain (OpenSpec.ofChange fnEmptySpec)) fnEmptyCard

/-- THE TIED CARD OF 'laws.FnExactIndexMarks'. -/
def fnExactIndexMarksCard : Claim7 := { stood := { row := fnExactIndexMarksRow, standIns := [], harness := (true, "438670295609fb2fbecac16011ad133ef0a1511647eab41857955df5ebf6f4d8"), looks := false }, kinds := [], alts := [], laidByText := true, laidKinds := [.data], laidTests := true, laidLooks := .later }
def FnExactIndexMarksCardSaid : Prop := Claim7.holds Tryd.pinned (.plain (OpenSpec.ofChange fnExactIndexMarksSpec)) fnExactIndexMarksCard

/-- THE TIED CARD OF 'laws.FnExactIndexManyCounts'. -/
def fnExactIndexManyCountsCard : Claim7 := { stood := { row := fnExactIndexManyCountsRow, standIns := [], harness := (true, "438670295609fb2fbecac16011ad133ef0a1511647eab41857955df5ebf6f4d8"), looks := false }, kinds := [], alts := [], laidByText := true, laidKinds := [.data], laidTests := true, laidLooks := .later }
def FnExactIndexManyCountsCardSaid : Prop := Claim7.holds Tryd.pinned (.plain (OpenSpec.ofChange fnExactIndexManyCountsSpec)) fnExactIndexManyCountsCard

/-- THE TIED CARD OF 'laws.FnContinued'. -/
def fnContinuedCard : Claim7 := { stood := { row := fnContinuedRow, standIns := [], harness := (true, "438670295609fb2fbecac16011ad133ef0a1511647eab41857955df5ebf6f4d8"), looks := false }, kinds := [], alts := [], laidByText := true, laidKinds := [.data], laidTests := true, laidLooks := .later }
def FnContinuedCardSaid : Prop := Claim7.holds Tryd.pinned (.plain (OpenSpec.ofChange fnContinuedSpec)) fnContinuedCard

/-- THE TIED CARD OF 'laws.FnManyAll'. -/
def fnManyAllCard : Claim7 := { stood := { row := fnManyAllRow, standIns := [], harness := (true, "438670295609fb2fbecac16011ad133ef0a1511647eab41857955df5ebf6f4d8"), looks := false }, kinds := [], alts := [], laidByText := true, laidKinds := [.data], laidTests := true, laidLooks := .later }
def FnManyAllCardSaid : Prop := Claim7.holds Tryd.pinned (.plain (OpenSpec.ofChange fnManyAllSpec)) fnManyAllCard

/-- THE TIED CARD OF 'laws.FnManySame'. -/
def fnManySameCard : Claim7 := { stood := { row := fnManySameRow, standIns := [], harness := (true, "438670295609fb2fbecac16011ad133ef0a1511647eab41857955df5ebf6f4d8"), looks := false }, kinds := [], alts := [], laidByText := true, laidKinds := [.data], laidTests := true, laidLooks := .later }
def FnManySameCardSaid : Prop := Claim7.holds Tryd.pinned (.plain (OpenSpec.ofChange fnManySameSpec)) fnManySameCard

/-- THE TIED CARD OF 'laws.FnEveryByte'. -/
def fnEveryByteCard : Claim7 := { stood := { row := fnEveryByteRow, standIns := [], harness := (true, "438670295609fb2fbecac16011ad133ef0a1511647eab41857955df5ebf6f4d8"), looks := false }, kinds := [], alts := [], laidByText := true, laidKinds := [.data], laidTests := true, laidLooks := .later }
def FnEveryByteCardSaid : Prop := Claim7.holds Tryd.pinned (.plain (OpenSpec.ofChange fnEveryByteSpec)) fnEveryByteCard

/-- THE TIED CARD OF 'laws.FnAllSuffixes'. -/
def fnAllSuffixesCard : Claim7 := { stood := { row := fnAllSuffixesRow, standIns := [], harness := (true, "438670295609fb2fbecac16011ad133ef0a1511647eab41857955df5ebf6f4d8"), looks := false }, kinds := [], alts := [], laidByText := true, laidKinds := [.data], laidTests := true, laidLooks := .later }
def FnAllSuffixesCardSaid : Prop := Claim7.holds Tryd.pinned (.plain (OpenSpec.ofChange fnAllSuffixesSpec)) fnAllSuffixesCard

/-- THE SECOND FORM's CARD OF 'laws.FnLookupTwice'. -/
def fnLookupTwiceUptoCard : Claim7 := { stood := { row := fnLookupTwiceUptoRow, standIns := [], harness := (true, "438670295609fb2fbecac16011ad133ef0a1511647eab41857955df5ebf6f4d8"), looks := false }, kinds := [], alts := [], laidByText := true, laidKinds := [.data], laidTests := true, laidLooks := .later }
def FnLookupTwiceUptoCardSaid : Prop := Claim7.holds Tryd.pinned (.plain (OpenSpec.upto fnLookupTwiceSpec)) fnLookupTwiceUptoCard

/-- THE SECOND FORM's CARD OF 'laws.FnTooLong'. -/
def fnTooLongUptoCard : Claim7 := { stood := { row := fnTooLongUptoRow, standIns := [], harness := (true, "438670295609fb2fbecac16011ad133ef0a1511647eab41857955df5ebf6f4d8"), looks := false }, kinds := [], alts := [], laidByText := true, laidKinds := [.data], laidTests := true, laidLooks := .later }
def FnTooLongUptoCardSaid : Prop := Claim7.holds Tryd.pinned (.plain (OpenSpec.upto fnTooLongSpec)) fnTooLongUptoCard

/-- THE SECOND FORM's CARD OF 'laws.FnStrangeByte'. -/
def fnStrangeByteUptoCard : Claim7 := { stood := { row := fnStrangeByteUptoRow, standIns := [], harness := (true, "438670295609fb2fbecac16011ad133ef0a1511647eab41857955df5ebf6f4d8"), looks := false }, kinds := [], alts := [], laidByText := true, laidKinds := [.data], laidTests := true, laidLooks := .later }
def FnStrangeByteUptoCardSaid : Prop := Claim7.holds Tryd.pinned (.plain (OpenSpec.upto fnStrangeByteSpec)) fnStrangeByteUptoCard

/-- THE SECOND FORM's CARD OF 'laws.FnLookupSome'. -/
def fnLookupSomeUptoCard : Claim7 := { stood := { row := fnLookupSomeUptoRow, standIns := [], harness := (true, "438670295609fb2fbecac16011ad133ef0a1511647eab41857955df5ebf6f4d8"), looks := false }, kinds := [], alts := [], laidByText := true, laidKinds := [.data], laidTests := true, laidLooks := .later }
def FnLookupSomeUptoCardSaid : Prop := Claim7.holds Tryd.pinned (.plain (OpenSpec.upto fnLookupSomeSpec)) fnLookupSomeUptoCard

/-- THE SECOND FORM's CARD OF 'laws.FnEmpty'. -/
def fnEmptyUptoCard : Claim7 := { stood := { row := fnEmptyUptoRow, standIns := [], harness := (true, "438670295609fb2fbecac16011ad133ef0a1511647eab41857955df5ebf6f4d8"), looks := false }, kinds := [], alts := [], laidByText := true, laidKinds := [.data], laidTests := true, laidLooks := .later }
def FnEmptyUptoCardSaid : Prop := Claim7.holds Tryd.pinned (.plain (OpenSpec.upto fnEmptySpec)) fnEmptyUptoCard

/-- THE SECOND FORM's CARD OF 'laws.FnExactIndexMarks'. -/
def fnExactIndexMarksUptoCard : Claim7 := { stood := { row := fnExactIndexMarksUptoRow, standIns := [], harness := (true, "438670295609fb2fbecac16011ad133ef0a1511647eab41857955df5ebf6f4d8"), looks := false }, kinds := [], alts := [], laidByText := true, laidKinds := [.data], laidTests := true, laidLooks := .later }
def FnExactIndexMarksUptoCardSaid : Prop := Claim7.holds Tryd.pinned (.plain (OpenSpec.upto fnExactIndexMarksSpec)) fnExactIndexMarksUptoCard

/-- THE SECOND FORM's CARD OF 'laws.FnExactIndexManyCounts'. -/
def fnExactIndexManyCountsUptoCard : Claim7 := { stood := { row := fnExactIndexManyCountsUptoRow, standIns := [], harness := (true, "438670295609fb2fbecac16011ad133ef0a1511647eab41857955df5ebf6f4d8"), looks := false }, kinds := [], alts := [], laidByText := true, laidKinds := [.data], laidTests := true, laidLooks := .later }
def FnExactIndexManyCountsUptoCardSaid : Prop := Claim7.holds Tryd.pinned (.plain (OpenSpec.upto fnExactIndexManyCountsSpec)) fnExactIndexManyCountsUptoCard

/-- THE SECOND FORM's CARD OF 'laws.FnContinued'. -/
def fnContinuedUptoCard : Claim7 := { stood := { row := fnContinuedUptoRow, standIns := [], harness := (true, "438670295609fb2fbecac16011ad133ef0a1511647eab41857955df5ebf6f4d8"), looks := false }, kinds := [], alts := [], laidByText := true, laidKinds := [.data], laidTests := true, laidLooks := .later }
def FnContinuedUptoCardSaid : Prop := Claim7.holds Tryd.pinned (.plain (OpenSpec.upto fnContinuedSpec)) fnContinuedUptoCard

/-- THE SECOND FORM's CARD OF 'laws.FnManyAll'. -/
def fnManyAllUptoCard : Claim7 := { stood := { row := fnManyAllUptoRow, standIns := [], harness := (true, "438670295609fb2fbecac16011ad133ef0a1511647eab41857955df5ebf6f4d8"), looks := false }, kinds := [], alts := [], laidByText := true, laidKinds := [.data], laidTests := true, laidLooks := .later }
def FnManyAllUptoCardSaid : Prop := Claim7.holds Tryd.pinned (.plain (OpenSpec.upto fnManyAllSpec)) fnManyAllUptoCard

/-- THE SECOND FORM's CARD OF 'laws.FnManySame'. -/
def fnManySameUptoCard : Claim7 := { stood := { row := fnManySameUptoRow, standIns := [], harness := (true, "438670295609fb2fbecac16011ad133ef0a1511647eab41857955df5ebf6f4d8"), looks := false }, kinds := [], alts := [], laidByText := true, laidKinds := [.data], laidTests := true, laidLooks := .later }
def FnManySameUptoCardSaid : Prop := Claim7.holds Tryd.pinned (.plain (OpenSpec.upto fnManySameSpec)) fnManySameUptoCard

/-- THE SECOND FORM's CARD OF 'laws.FnEveryByte'. -/
def fnEveryByteUptoCard : Claim7 := { stood := { row := fnEveryByteUptoRow, standIns := [], harness := (true, "438670295609fb2fbecac16011ad133ef0a1511647eab41857955df5ebf6f4d8"), looks := false }, kinds := [], alts := [], laidByText := true, laidKinds := [.data], laidTests := true, laidLooks := .later }
def FnEveryByteUptoCardSaid : Prop := Claim7.holds Tryd.pinned (.plain (OpenSpec.upto fnEveryByteSpec)) fnEveryByteUptoCard

/-- THE SECOND FORM's CARD OF 'laws.FnAllSuffixes'. -/
def fnAllSuffixesUptoCard : Claim7 := { stood := { row := fnAllSuffixesUptoRow, standIns := [], harness := (true, "438670295609fb2fbecac16011ad133ef0a1511647eab41857955df5ebf6f4d8"), looks := false }, kinds := [], alts := [], laidByText := true, laidKinds := [.data], laidTests := true, laidLooks := .later }
def FnAllSuffixesUptoCardSaid : Prop := Claim7.holds Tryd.pinned (.plain (OpenSpec.upto fnAllSuffixesSpec)) fnAllSuffixesUptoCard
end Rows
end Go.Proofs.YtclebgpnfinppaaDoor
