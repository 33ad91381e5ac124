/-
  DERIVED. GIVEN WITH THE SEED: THE CARDS: each row of YtifnodoffgfpbaaGreatDoorRows.lean that lists a variable, with what it lists TIED to the program's text (the seventh form; the later family's looks); each row that meets fmt, with fmt's text TOLD by the authors' own Lean function (tested against real Go, not proved from fmt's source: count such statements apart). THE CARD IS WHAT COUNTS. Prove the row's statement (the work); the ties are given (YtifnodoffgfpbaaGreatDoorTie.lean); close each card by the builder's one call (the guide's Derived/Test/ToyasCard.lean, 'card_holds'). Laid BY PROGRAM, IN A SANDBOX (cutbox-door.mjs). By AI agents, Wed Nov 11 2026. No macro, syntax, notation, axiom, sorry.
-/
import Derived.Test.YtifnodoffgfpbaaGreatDoorRows
import GoSem.ClaimSeven
namespace Go.Proofs.YtifnodoffgfpbaaGreatDoor
namespace Rows

/-- THE TIED CARD OF 'laws.FnPack'. -/
def fnPackCard : Claim7 := { stood := { row := fnPackRow, standIns := [], harness := (true, "f4c12fb374c96989620c8a0f2f95470248e5fabdce6a431cd7c09c5926a6dba5"), looks := true }, kinds := [], alts := [], laidByText := true, laidKinds := [.sentinel, .sentinel, .sentinel, .sentinel, .sentinel, .sentinel, .sentinel, .sentinel, .sentinel, .sentinel], laidTests := true, laidLooks := .later }
def FnPackCardSaid : Prop := Claim7.holds Tryz.pinned (.plain (OpenSpec.ofChange fnPackSpec)) fnPackCard

/-- THE TIED CARD OF 'laws.FnPackBehind'. -/
def fnPackBehindCard : Claim7 := { stood := { row := fnPackBehindRow, standIns := [], harness := (true, "f4c12fb374c96989620c8a0f2f95470248e5fabdce6a431cd7c09c5926a6dba5"), looks := true }, kinds := [], alts := [], laidByText := true, laidKinds := [.sentinel, .sentinel, .sentinel, .sentinel, .sentinel, .sentinel, .sentinel, .sentinel, .sentinel, .sentinel], laidTests := true, laidLooks := .later }
def FnPackBehindCardSaid : Prop := Claim7.holds Tryz.pinned (.plain (OpenSpec.ofChange fnPackBehindSpec)) fnPackBehindCard

/-- THE TIED CARD OF 'laws.FnCut'. -/
def fnCutCard : Claim7 := { stood := { row := fnCutRow, standIns := [], harness := (true, "f4c12fb374c96989620c8a0f2f95470248e5fabdce6a431cd7c09c5926a6dba5"), looks := true }, kinds := [], alts := [], laidByText := true, laidKinds := [.sentinel, .sentinel, .sentinel, .sentinel, .sentinel, .sentinel, .sentinel, .sentinel, .sentinel, .sentinel, .sentinel, .mapped], laidTests := true, laidLooks := .later }
def FnCutCardSaid : Prop := Claim7.holds Tryz.pinned (.plain (OpenSpec.ofChange fnCutSpec)) fnCutCard

/-- THE TIED CARD OF 'laws.FnUnpack'. -/
def fnUnpackCard : Claim7 := { stood := { row := fnUnpackRow, standIns := [], harness := (true, "f4c12fb374c96989620c8a0f2f95470248e5fabdce6a431cd7c09c5926a6dba5"), looks := true }, kinds := [], alts := [], laidByText := true, laidKinds := [.sentinel, .sentinel, .sentinel, .sentinel, .sentinel, .sentinel, .sentinel, .sentinel, .sentinel, .sentinel, .sentinel, .mapped], laidTests := true, laidLooks := .later }
def FnUnpackCardSaid : Prop := Claim7.holds Tryz.pinned (.plain (OpenSpec.ofChange fnUnpackSpec)) fnUnpackCard

/-- THE TIED CARD OF 'laws.FnUnpackShort'. -/
def fnUnpackShortCard : Claim7 := { stood := { row := fnUnpackShortRow, standIns := [], harness := (true, "f4c12fb374c96989620c8a0f2f95470248e5fabdce6a431cd7c09c5926a6dba5"), looks := true }, kinds := [], alts := [], laidByText := true, laidKinds := [.sentinel, .sentinel, .sentinel, .sentinel, .sentinel, .sentinel, .sentinel, .sentinel, .sentinel, .sentinel, .sentinel, .mapped], laidTests := true, laidLooks := .later }
def FnUnpackShortCardSaid : Prop := Claim7.holds Tryz.pinned (.plain (OpenSpec.ofChange fnUnpackShortSpec)) fnUnpackShortCard

/-- THE TIED CARD OF 'laws.FnParse'. -/
def fnParseCard : Claim7 := { stood := { row := fnParseRow, standIns := [], harness := (true, "f4c12fb374c96989620c8a0f2f95470248e5fabdce6a431cd7c09c5926a6dba5"), looks := true }, kinds := [], alts := [], laidByText := true, laidKinds := [.sentinel, .sentinel, .sentinel, .sentinel, .sentinel, .sentinel, .sentinel, .sentinel, .sentinel, .sentinel, .sentinel, .mapped], laidTests := true, laidLooks := .later }
def FnParseCardSaid : Prop := Claim7.holds Tryz.pinned (.plain (OpenSpec.ofChange fnParseSpec)) fnParseCard

/-- THE TIED CARD OF 'laws.FnSkip'. -/
def fnSkipCard : Claim7 := { stood := { row := fnSkipRow, standIns := [], harness := (true, "f4c12fb374c96989620c8a0f2f95470248e5fabdce6a431cd7c09c5926a6dba5"), looks := true }, kinds := [], alts := [], laidByText := true, laidKinds := [.sentinel, .sentinel, .sentinel, .sentinel, .sentinel, .sentinel, .sentinel, .sentinel, .sentinel, .sentinel, .sentinel, .mapped], laidTests := true, laidLooks := .later }
def FnSkipCardSaid : Prop := Claim7.holds Tryz.pinned (.plain (OpenSpec.ofChange fnSkipSpec)) fnSkipCard

/-- THE TIED CARD OF 'laws.FnBuild'. -/
def fnBuildCard : Claim7 := { stood := { row := fnBuildRow, standIns := [], harness := (true, "f4c12fb374c96989620c8a0f2f95470248e5fabdce6a431cd7c09c5926a6dba5"), looks := true }, kinds := [], alts := [], laidByText := true, laidKinds := [.sentinel, .sentinel, .sentinel, .sentinel, .sentinel, .sentinel, .sentinel, .sentinel, .sentinel, .sentinel, .sentinel, .sentinel, .sentinel, .sentinel], laidTests := true, laidLooks := .later }
def FnBuildCardSaid : Prop := Claim7.holds Tryz.pinned (.plain (OpenSpec.ofChange fnBuildSpec)) fnBuildCard

/-- THE TIED CARD OF 'laws.FnBuildShort'. -/
def fnBuildShortCard : Claim7 := { stood := { row := fnBuildShortRow, standIns := [], harness := (true, "f4c12fb374c96989620c8a0f2f95470248e5fabdce6a431cd7c09c5926a6dba5"), looks := true }, kinds := [], alts := [], laidByText := true, laidKinds := [.sentinel, .sentinel, .sentinel, .sentinel, .sentinel, .sentinel, .sentinel, .sentinel, .sentinel, .sentinel, .sentinel, .sentinel, .sentinel, .sentinel], laidTests := true, laidLooks := .later }
def FnBuildShortCardSaid : Prop := Claim7.holds Tryz.pinned (.plain (OpenSpec.ofChange fnBuildShortSpec)) fnBuildShortCard

/-- THE SECOND FORM's CARD OF 'laws.FnPack'. -/
def fnPackUptoCard : Claim7 := { stood := { row := fnPackUptoRow, standIns := [], harness := (true, "f4c12fb374c96989620c8a0f2f95470248e5fabdce6a431cd7c09c5926a6dba5"), looks := true }, kinds := [], alts := [], laidByText := true, laidKinds := [.sentinel, .sentinel, .sentinel, .sentinel, .sentinel, .sentinel, .sentinel, .sentinel, .sentinel, .sentinel], laidTests := true, laidLooks := .later }
def FnPackUptoCardSaid : Prop := Claim7.holds Tryz.pinned (.plain (OpenSpec.upto fnPackSpec)) fnPackUptoCard

/-- THE SECOND FORM's CARD OF 'laws.FnPackBehind'. -/
def fnPackBehindUptoCard : Claim7 := { stood := { row := fnPackBehindUptoRow, standIns := [], harness := (true, "f4c12fb374c96989620c8a0f2f95470248e5fabdce6a431cd7c09c5926a6dba5"), looks := true }, kinds := [], alts := [], laidByText := true, laidKinds := [.sentinel, .sentinel, .sentinel, .sentinel, .sentinel, .sentinel, .sentinel, .sentinel, .sentinel, .sentinel], laidTests := true, laidLooks := .later }
def FnPackBehindUptoCardSaid : Prop := Claim7.holds Tryz.pinned (.plain (OpenSpec.upto fnPackBehindSpec)) fnPackBehindUptoCard

/-- THE SECOND FORM's CARD OF 'laws.FnCut'. -/
def fnCutUptoCard : Claim7 := { stood := { row := fnCutUptoRow, standIns := [], harness := (true, "f4c12fb374c96989620c8a0f2f95470248e5fabdce6a431cd7c09c5926a6dba5"), looks := true }, kinds := [], alts := [], laidByText := true, laidKinds := [.sentinel, .sentinel, .sentinel, .sentinel, .sentinel, .sentinel, .sentinel, .sentinel, .sentinel, .sentinel, .sentinel, .mapped], laidTests := true, laidLooks := .later }
def FnCutUptoCardSaid : Prop := Claim7.holds Tryz.pinned (.plain (OpenSpec.upto fnCutSpec)) fnCutUptoCard

/-- THE SECOND FORM's CARD OF 'laws.FnUnpack'. -/
def fnUnpackUptoCard : Claim7 := { stood := { row := fnUnpackUptoRow, standIns := [], harness := (true, "f4c12fb374c96989620c8a0f2f95470248e5fabdce6a431cd7c09c5926a6dba5"), looks := true }, kinds := [], alts := [], laidByText := true, laidKinds := [.sentinel, .sentinel, .sentinel, .sentinel, .sentinel, .sentinel, .sentinel, .sentinel, .sentinel, .sentinel, .sentinel, .mapped], laidTests := true, laidLooks := .later }
def FnUnpackUptoCardSaid : Prop := Claim7.holds Tryz.pinned (.plain (OpenSpec.upto fnUnpackSpec)) fnUnpackUptoCard

/-- THE SECOND FORM's CARD OF 'laws.FnUnpackShort'. -/
def fnUnpackShortUptoCard : Claim7 := { stood := { row := fnUnpackShortUptoRow, standIns := [], harness := (true, "f4c12fb374c96989620c8a0f2f95470248e5fabdce6a431cd7c09c5926a6dba5"), looks := true }, kinds := [], alts := [], laidByText := true, laidKinds := [.sentinel, .sentinel, .sentinel, .sentinel, .sentinel, .sentinel, .sentinel, .sentinel, .sentinel, .sentinel, .sentinel, .mapped], laidTests := true, laidLooks := .later }
def FnUnpackShortUptoCardSaid : Prop := Claim7.holds Tryz.pinned (.plain (OpenSpec.upto fnUnpackShortSpec)) fnUnpackShortUptoCard

/-- THE SECOND FORM's CARD OF 'laws.FnParse'. -/
def fnParseUptoCard : Claim7 := { stood := { row := fnParseUptoRow, standIns := [], harness := (true, "f4c12fb374c96989620c8a0f2f95470248e5fabdce6a431cd7c09c5926a6dba5"), looks := true }, kinds := [], alts := [], laidByText := true, laidKinds := [.sentinel, .sentinel, .sentinel, .sentinel, .sentinel, .sentinel, .sentinel, .sentinel, .sentinel, .sentinel, .sentinel, .mapped], laidTests := true, laidLooks := .later }
def FnParseUptoCardSaid : Prop := Claim7.holds Tryz.pinned (.plain (OpenSpec.upto fnParseSpec)) fnParseUptoCard

/-- THE SECOND FORM's CARD OF 'laws.FnSkip'. -/
def fnSkipUptoCard : Claim7 := { stood := { row := fnSkipUptoRow, standIns := [], harness := (true, "f4c12fb374c96989620c8a0f2f95470248e5fabdce6a431cd7c09c5926a6dba5"), looks := true }, kinds := [], alts := [], laidByText := true, laidKinds := [.sentinel, .sentinel, .sentinel, .sentinel, .sentinel, .sentinel, .sentinel, .sentinel, .sentinel, .sentinel, .sentinel, .mapped], laidTests := true, laidLooks := .later }
def FnSkipUptoCardSaid : Prop := Claim7.holds Tryz.pinned (.plain (OpenSpec.upto fnSkipSpec)) fnSkipUptoCard

/-- THE SECOND FORM's CARD OF 'laws.FnBuild'. -/
def fnBuildUptoCard : Claim7 := { stood := { row := fnBuildUptoRow, standIns := [], harness := (true, "f4c12fb374c96989620c8a0f2f95470248e5fabdce6a431cd7c09c5926a6dba5"), looks := true }, kinds := [], alts := [], laidByText := true, laidKinds := [.sentinel, .sentinel, .sentinel, .sentinel, .sentinel, .sentinel, .sentinel, .sentinel, .sentinel, .sentinel, .sentinel, .sentinel, .sentinel, .sentinel], laidTests := true, laidLooks := .later }
def FnBuildUptoCardSaid : Prop := Claim7.holds Tryz.pinned (.plain (OpenSpec.upto fnBuildSpec)) fnBuildUptoCard

/-- THE SECOND FORM's CARD OF 'laws.FnBuildShort'. -/
def fnBuildShortUptoCard : Claim7 := { stood := { row := fnBuildShortUptoRow, standIns := [], harness := (true, "f4c12fb374c96989620c8a0f2f95470248e5fabdce6a431cd7c09c5926a6dba5"), looks := true }, kinds := [], alts := [], laidByText := true, laidKinds := [.sentinel, .sentinel, .sentinel, .sentinel, .sentinel, .sentinel, .sentinel, .sentinel, .sentinel, .sentinel, .sentinel, .sentinel, .sentinel, .sentinel], laidTests := true, laidLooks := .later }
def FnBuildShortUptoCardSaid : Prop := Claim7.holds Tryz.pinned (.plain (OpenSpec.upto fnBuildShortSpec)) fnBuildShortUptoCard
end Rows
end Go.Proofs.YtifnodoffgfpbaaGreatDoor
