/-
  DERIVED. GIVEN WITH THE SEED: THE CARDS: each row of YtpkgkppehefibaaGreatDoorRows.lean that lists a variable, with what it lists TIED to the program's text (the seventh form; the later family's looks); each row that meets fmt, with fmt's text TOLD by the authors' own Lean function (tested against real Go, not proved from fmt's source: count such statements apart). THE CARD IS WHAT COUNTS. Prove the row's statement (the work); the ties are given (YtpkgkppehefibaaGreatDoorTie.lean); close each card by the builder's one call (the guide's Derived/Test/ToyasCard.lean, 'card_holds'). Laid BY PROGRAM, IN A SANDBOX (cutbox-door.mjs). By AI agents, Wed Nov 11 2026. No macro, syntax, notation, axiom, sorry.
-/
import Derived.Test.YtpkgkppehefibaaGreatDoorRows
import GoSem.ClaimSeven
namespace Go.Proofs.YtpkgkppehefibaaGreatDoor
namespace Rows

/-- THE TIED CARD OF 'laws.FnExactIndexCopyMarks'. -/
def fnExactIndexCopyMarksCard : Claim7 := { stood := { row := fnExactIndexCopyMarksRow, standIns := [], harness := (true, "5f23b9999aecb6382f0fe728af61600f9299cf74199d1c7bcaaabc8b8e1525dd"), looks := true }, kinds := [], alts := [], laidByText := true, laidKinds := [.sentinel, .sentinel, .sentinel, .data, .sentinel], laidTests := true, laidLooks := .later }
def FnExactIndexCopyMarksCardSaid : Prop := Claim7.holds Tryz.pinned (.plain (OpenSpec.ofChange fnExactIndexCopyMarksSpec)) fnExactIndexCopyMarksCard

/-- THE TIED CARD OF 'laws.FnExactIndexExactMarks'. -/
def fnExactIndexExactMarksCard : Claim7 := { stood := { row := fnExactIndexExactMarksRow, standIns := [], harness := (true, "5f23b9999aecb6382f0fe728af61600f9299cf74199d1c7bcaaabc8b8e1525dd"), looks := true }, kinds := [], alts := [], laidByText := true, laidKinds := [.sentinel, .sentinel, .sentinel, .data, .sentinel], laidTests := true, laidLooks := .later }
def FnExactIndexExactMarksCardSaid : Prop := Claim7.holds Tryz.pinned (.plain (OpenSpec.ofChange fnExactIndexExactMarksSpec)) fnExactIndexExactMarksCard

/-- THE TIED CARD OF 'laws.FnExactForgets'. -/
def fnExactForgetsCard : Claim7 := { stood := { row := fnExactForgetsRow, standIns := [], harness := (true, "5f23b9999aecb6382f0fe728af61600f9299cf74199d1c7bcaaabc8b8e1525dd"), looks := true }, kinds := [], alts := [], laidByText := true, laidKinds := [.sentinel, .sentinel, .sentinel, .data, .sentinel], laidTests := true, laidLooks := .later }
def FnExactForgetsCardSaid : Prop := Claim7.holds Tryz.pinned (.plain (OpenSpec.ofChange fnExactForgetsSpec)) fnExactForgetsCard

/-- THE TIED CARD OF 'laws.FnCopyMost'. -/
def fnCopyMostCard : Claim7 := { stood := { row := fnCopyMostRow, standIns := [], harness := (true, "5f23b9999aecb6382f0fe728af61600f9299cf74199d1c7bcaaabc8b8e1525dd"), looks := true }, kinds := [], alts := [], laidByText := true, laidKinds := [.sentinel, .sentinel, .sentinel, .data, .sentinel], laidTests := true, laidLooks := .later }
def FnCopyMostCardSaid : Prop := Claim7.holds Tryz.pinned (.plain (OpenSpec.ofChange fnCopyMostSpec)) fnCopyMostCard

/-- THE TIED CARD OF 'laws.FnCopyAll'. -/
def fnCopyAllCard : Claim7 := { stood := { row := fnCopyAllRow, standIns := [], harness := (true, "5f23b9999aecb6382f0fe728af61600f9299cf74199d1c7bcaaabc8b8e1525dd"), looks := true }, kinds := [], alts := [], laidByText := true, laidKinds := [.sentinel, .sentinel, .sentinel, .data, .sentinel], laidTests := true, laidLooks := .later }
def FnCopyAllCardSaid : Prop := Claim7.holds Tryz.pinned (.plain (OpenSpec.ofChange fnCopyAllSpec)) fnCopyAllCard

/-- THE TIED CARD OF 'laws.FnCopySame'. -/
def fnCopySameCard : Claim7 := { stood := { row := fnCopySameRow, standIns := [], harness := (true, "5f23b9999aecb6382f0fe728af61600f9299cf74199d1c7bcaaabc8b8e1525dd"), looks := true }, kinds := [], alts := [], laidByText := true, laidKinds := [.sentinel, .sentinel, .sentinel, .data, .sentinel], laidTests := true, laidLooks := .later }
def FnCopySameCardSaid : Prop := Claim7.holds Tryz.pinned (.plain (OpenSpec.ofChange fnCopySameSpec)) fnCopySameCard

/-- THE SECOND FORM's CARD OF 'laws.FnExactIndexCopyMarks'. -/
def fnExactIndexCopyMarksUptoCard : Claim7 := { stood := { row := fnExactIndexCopyMarksUptoRow, standIns := [], harness := (true, "5f23b9999aecb6382f0fe728af61600f9299cf74199d1c7bcaaabc8b8e1525dd"), looks := true }, kinds := [], alts := [], laidByText := true, laidKinds := [.sentinel, .sentinel, .sentinel, .data, .sentinel], laidTests := true, laidLooks := .later }
def FnExactIndexCopyMarksUptoCardSaid : Prop := Claim7.holds Tryz.pinned (.plain (OpenSpec.upto fnExactIndexCopyMarksSpec)) fnExactIndexCopyMarksUptoCard

/-- THE SECOND FORM's CARD OF 'laws.FnExactIndexExactMarks'. -/
def fnExactIndexExactMarksUptoCard : Claim7 := { stood := { row := fnExactIndexExactMarksUptoRow, standIns := [], harness := (true, "5f23b9999aecb6382f0fe728af61600f9299cf74199d1c7bcaaabc8b8e1525dd"), looks := true }, kinds := [], alts := [], laidByText := true, laidKinds := [.sentinel, .sentinel, .sentinel, .data, .sentinel], laidTests := true, laidLooks := .later }
def FnExactIndexExactMarksUptoCardSaid : Prop := Claim7.holds Tryz.pinned (.plain (OpenSpec.upto fnExactIndexExactMarksSpec)) fnExactIndexExactMarksUptoCard

/-- THE SECOND FORM's CARD OF 'laws.FnExactForgets'. -/
def fnExactForgetsUptoCard : Claim7 := { stood := { row := fnExactForgetsUptoRow, standIns := [], harness := (true, "5f23b9999aecb6382f0fe728af61600f9299cf74199d1c7bcaaabc8b8e1525dd"), looks := true }, kinds := [], alts := [], laidByText := true, laidKinds := [.sentinel, .sentinel, .sentinel, .data, .sentinel], laidTests := true, laidLooks := .later }
def FnExactForgetsUptoCardSaid : Prop := Claim7.holds Tryz.pinned (.plain (OpenSpec.upto fnExactForgetsSpec)) fnExactForgetsUptoCard

/-- THE SECOND FORM's CARD OF 'laws.FnCopyMost'. -/
def fnCopyMostUptoCard : Claim7 := { stood := { row := fnCopyMostUptoRow, standIns := [], harness := (true, "5f23b9999aecb6382f0fe728af61600f9299cf74199d1c7bcaaabc8b8e1525dd"), looks := true }, kinds := [], alts := [], laidByText := true, laidKinds := [.sentinel, .sentinel, .sentinel, .data, .sentinel], laidTests := true, laidLooks := .later }
def FnCopyMostUptoCardSaid : Prop := Claim7.holds Tryz.pinned (.plain (OpenSpec.upto fnCopyMostSpec)) fnCopyMostUptoCard

/-- THE SECOND FORM's CARD OF 'laws.FnCopyAll'. -/
def fnCopyAllUptoCard : Claim7 := { stood := { row := fnCopyAllUptoRow, standIns := [], harness := (true, "5f23b9999aecb6382f0fe728af61600f9299cf74199d1c7bcaaabc8b8e1525dd"), looks := true }, kinds := [], alts := [], laidByText := true, laidKinds := [.sentinel, .sentinel, .sentinel, .data, .sentinel], laidTests := true, laidLooks := .later }
def FnCopyAllUptoCardSaid : Prop := Claim7.holds Tryz.pinned (.plain (OpenSpec.upto fnCopyAllSpec)) fnCopyAllUptoCard

/-- THE SECOND FORM's CARD OF 'laws.FnCopySame'. -/
def fnCopySameUptoCard : Claim7 := { stood := { row := fnCopySameUptoRow, standIns := [], harness := (true, "5f23b9999aecb6382f0fe728af61600f9299cf74199d1c7bcaaabc8b8e1525dd"), looks := true }, kinds := [], alts := [], laidByText := true, laidKinds := [.sentinel, .sentinel, .sentinel, .data, .sentinel], laidTests := true, laidLooks := .later }
def FnCopySameUptoCardSaid : Prop := Claim7.holds Tryz.pinned (.plain (OpenSpec.upto fnCopySameSpec)) fnCopySameUptoCard
end Rows
end Go.Proofs.YtpkgkppehefibaaGreatDoor
