/-
  DERIVED. GIVEN WITH THE SEED: THE CARDS: each row of YtmgfajamanakcaaGreatDoorRows.lean that lists a variable, with what it lists TIED to the program's text (the seventh form; the later family's looks); each row that meets fmt, with fmt's text TOLD by the authors' own Lean function (tested against real Go, not proved from fmt's source: count such statements apart). THE CARD IS WHAT COUNTS. Prove the row's statement (the work); the ties are given (YtmgfajamanakcaaGreatDoorTie.lean); close each card by the builder's one call (the guide's Derived/Test/ToyasCard.lean, 'card_holds'). Laid BY PROGRAM, IN A SANDBOX (cutbox-door.mjs). By AI agents, Wed Nov 11 2026. No macro, syntax, notation, axiom, sorry.
-/
import Derived.Test.YtmgfajamanakcaaGreatDoorRows
import GoSem.ClaimSeven
namespace Go.Proofs.YtmgfajamanakcaaGreatDoor
namespace Rows

/-- THE TIED CARD OF 'laws.FnRealRat'. -/
def fnRealRatCard : Claim7 := { stood := { row := fnRealRatRow, standIns := [], harness := (true, "afd8faaed94fe7cf717e9c1444daa084e5465dd580c5b40265b1581e65e19822"), looks := true }, kinds := [], alts := [], laidByText := true, laidKinds := [.data, .data, .data, .data, .data, .data], laidTests := true, laidLooks := .later }
def FnRealRatCardSaid : Prop := Claim7.holds Tryz.pinned (.plain (OpenSpec.ofChange fnRealRatSpec)) fnRealRatCard

/-- THE TIED CARD OF 'laws.FnRatText'. -/
def fnRatTextCard : Claim7 := { stood := { row := fnRatTextRow, standIns := [], harness := (true, "afd8faaed94fe7cf717e9c1444daa084e5465dd580c5b40265b1581e65e19822"), looks := true }, kinds := [], alts := [], laidByText := true, laidKinds := [.data, .data, .data, .data, .data, .data, .data], laidTests := true, laidLooks := .later }
def FnRatTextCardSaid : Prop := Claim7.holds Tryz.pinned (.plain (OpenSpec.ofChange fnRatTextSpec)) fnRatTextCard

/-- THE TIED CARD OF 'laws.FnRatDecimal'. -/
def fnRatDecimalCard : Claim7 := { stood := { row := fnRatDecimalRow, standIns := [], harness := (true, "afd8faaed94fe7cf717e9c1444daa084e5465dd580c5b40265b1581e65e19822"), looks := true }, kinds := [], alts := [], laidByText := true, laidKinds := [.data, .data, .data, .data, .data, .data, .data], laidTests := true, laidLooks := .later }
def FnRatDecimalCardSaid : Prop := Claim7.holds Tryz.pinned (.plain (OpenSpec.ofChange fnRatDecimalSpec)) fnRatDecimalCard

/-- THE TIED CARD OF 'laws.FnParse'. -/
def fnParseCard : Claim7 := { stood := { row := fnParseRow, standIns := [], harness := (true, "afd8faaed94fe7cf717e9c1444daa084e5465dd580c5b40265b1581e65e19822"), looks := true }, kinds := [], alts := [], laidByText := true, laidKinds := [.data, .data, .data, .sentinel, .sentinel, .sentinel, .data, .sentinel, .sentinel, .data, .data, .data, .data], laidTests := true, laidLooks := .later }
def FnParseCardSaid : Prop := Claim7.holds Tryz.pinned (.plain (OpenSpec.ofChange fnParseSpec)) fnParseCard

/-- THE TIED CARD OF 'laws.FnParseFails'. -/
def fnParseFailsCard : Claim7 := { stood := { row := fnParseFailsRow, standIns := [], harness := (true, "afd8faaed94fe7cf717e9c1444daa084e5465dd580c5b40265b1581e65e19822"), looks := true }, kinds := [], alts := [], laidByText := true, laidKinds := [.data, .data, .data, .sentinel, .sentinel, .sentinel, .data, .sentinel, .sentinel, .data, .data, .data, .data], laidTests := true, laidLooks := .later }
def FnParseFailsCardSaid : Prop := Claim7.holds Tryz.pinned (.plain (OpenSpec.ofChange fnParseFailsSpec)) fnParseFailsCard

/-- THE TIED CARD OF 'laws.FnParseInf'. -/
def fnParseInfCard : Claim7 := { stood := { row := fnParseInfRow, standIns := [], harness := (true, "afd8faaed94fe7cf717e9c1444daa084e5465dd580c5b40265b1581e65e19822"), looks := true }, kinds := [], alts := [], laidByText := true, laidKinds := [.data, .data, .data, .sentinel, .sentinel, .sentinel, .data, .sentinel, .sentinel, .data, .data, .data, .data], laidTests := true, laidLooks := .later }
def FnParseInfCardSaid : Prop := Claim7.holds Tryz.pinned (.plain (OpenSpec.ofChange fnParseInfSpec)) fnParseInfCard

/-- THE TIED CARD OF 'laws.FnRatParse'. -/
def fnRatParseCard : Claim7 := { stood := { row := fnRatParseRow, standIns := [], harness := (true, "afd8faaed94fe7cf717e9c1444daa084e5465dd580c5b40265b1581e65e19822"), looks := true }, kinds := [], alts := [], laidByText := true, laidKinds := [.data, .data, .data, .sentinel, .sentinel, .sentinel, .sentinel, .sentinel, .data, .data, .data, .data], laidTests := true, laidLooks := .later }
def FnRatParseCardSaid : Prop := Claim7.holds Tryz.pinned (.plain (OpenSpec.ofChange fnRatParseSpec)) fnRatParseCard

/-- THE TIED CARD OF 'laws.FnRatParseFails'. -/
def fnRatParseFailsCard : Claim7 := { stood := { row := fnRatParseFailsRow, standIns := [], harness := (true, "afd8faaed94fe7cf717e9c1444daa084e5465dd580c5b40265b1581e65e19822"), looks := true }, kinds := [], alts := [], laidByText := true, laidKinds := [.data, .data, .data, .sentinel, .sentinel, .sentinel, .sentinel, .sentinel, .data, .data, .data, .data], laidTests := true, laidLooks := .later }
def FnRatParseFailsCardSaid : Prop := Claim7.holds Tryz.pinned (.plain (OpenSpec.ofChange fnRatParseFailsSpec)) fnRatParseFailsCard

/-- THE SECOND FORM's CARD OF 'laws.FnRealRat'. -/
def fnRealRatUptoCard : Claim7 := { stood := { row := fnRealRatUptoRow, standIns := [], harness := (true, "afd8faaed94fe7cf717e9c1444daa084e5465dd580c5b40265b1581e65e19822"), looks := true }, kinds := [], alts := [], laidByText := true, laidKinds := [.data, .data, .data, .data, .data, .data], laidTests := true, laidLooks := .later }
def FnRealRatUptoCardSaid : Prop := Claim7.holds Tryz.pinned (.plain (OpenSpec.upto fnRealRatSpec)) fnRealRatUptoCard

/-- THE SECOND FORM's CARD OF 'laws.FnRatText'. -/
def fnRatTextUptoCard : Claim7 := { stood := { row := fnRatTextUptoRow, standIns := [], harness := (true, "afd8faaed94fe7cf717e9c1444daa084e5465dd580c5b40265b1581e65e19822"), looks := true }, kinds := [], alts := [], laidByText := true, laidKinds := [.data, .data, .data, .data, .data, .data, .data], laidTests := true, laidLooks := .later }
def FnRatTextUptoCardSaid : Prop := Claim7.holds Tryz.pinned (.plain (OpenSpec.upto fnRatTextSpec)) fnRatTextUptoCard

/-- THE SECOND FORM's CARD OF 'laws.FnRatDecimal'. -/
def fnRatDecimalUptoCard : Claim7 := { stood := { row := fnRatDecimalUptoRow, standIns := [], harness := (true, "afd8faaed94fe7cf717e9c1444daa084e5465dd580c5b40265b1581e65e19822"), looks := true }, kinds := [], alts := [], laidByText := true, laidKinds := [.data, .data, .data, .data, .data, .data, .data], laidTests := true, laidLooks := .later }
def FnRatDecimalUptoCardSaid : Prop := Claim7.holds Tryz.pinned (.plain (OpenSpec.upto fnRatDecimalSpec)) fnRatDecimalUptoCard

/-- THE SECOND FORM's CARD OF 'laws.FnParse'. -/
def fnParseUptoCard : Claim7 := { stood := { row := fnParseUptoRow, standIns := [], harness := (true, "afd8faaed94fe7cf717e9c1444daa084e5465dd580c5b40265b1581e65e19822"), looks := true }, kinds := [], alts := [], laidByText := true, laidKinds := [.data, .data, .data, .sentinel, .sentinel, .sentinel, .data, .sentinel, .sentinel, .data, .data, .data, .data], laidTests := true, laidLooks := .later }
def FnParseUptoCardSaid : Prop := Claim7.holds Tryz.pinned (.plain (OpenSpec.upto fnParseSpec)) fnParseUptoCard

/-- THE SECOND FORM's CARD OF 'laws.FnParseFails'. -/
def fnParseFailsUptoCard : Claim7 := { stood := { row := fnParseFailsUptoRow, standIns := [], harness := (true, "afd8faaed94fe7cf717e9c1444daa084e5465dd580c5b40265b1581e65e19822"), looks := true }, kinds := [], alts := [], laidByText := true, laidKinds := [.data, .data, .data, .sentinel, .sentinel, .sentinel, .data, .sentinel, .sentinel, .data, .data, .data, .data], laidTests := true, laidLooks := .later }
def FnParseFailsUptoCardSaid : Prop := Claim7.holds Tryz.pinned (.plain (OpenSpec.upto fnParseFailsSpec)) fnParseFailsUptoCard

/-- THE SECOND FORM's CARD OF 'laws.FnParseInf'. -/
def fnParseInfUptoCard : Claim7 := { stood := { row := fnParseInfUptoRow, standIns := [], harness := (true, "afd8faaed94fe7cf717e9c1444daa084e5465dd580c5b40265b1581e65e19822"), looks := true }, kinds := [], alts := [], laidByText := true, laidKinds := [.data, .data, .data, .sentinel, .sentinel, .sentinel, .data, .sentinel, .sentinel, .data, .data, .data, .data], laidTests := true, laidLooks := .later }
def FnParseInfUptoCardSaid : Prop := Claim7.holds Tryz.pinned (.plain (OpenSpec.upto fnParseInfSpec)) fnParseInfUptoCard

/-- THE SECOND FORM's CARD OF 'laws.FnRatParse'. -/
def fnRatParseUptoCard : Claim7 := { stood := { row := fnRatParseUptoRow, standIns := [], harness := (true, "afd8faaed94fe7cf717e9c1444daa084e5465dd580c5b40265b1581e65e19822"), looks := true }, kinds := [], alts := [], laidByText := true, laidKinds := [.data, .data, .data, .sentinel, .sentinel, .sentinel, .sentinel, .sentinel, .data, .data, .data, .data], laidTests := true, laidLooks := .later }
def FnRatParseUptoCardSaid : Prop := Claim7.holds Tryz.pinned (.plain (OpenSpec.upto fnRatParseSpec)) fnRatParseUptoCard

/-- THE SECOND FORM's CARD OF 'laws.FnRatParseFails'. -/
def fnRatParseFailsUptoCard : Claim7 := { stood := { row := fnRatParseFailsUptoRow, standIns := [], harness := (true, "afd8faaed94fe7cf717e9c1444daa084e5465dd580c5b40265b1581e65e19822"), looks := true }, kinds := [], alts := [], laidByText := true, laidKinds := [.data, .data, .data, .sentinel, .sentinel, .sentinel, .sentinel, .sentinel, .data, .data, .data, .data], laidTests := true, laidLooks := .later }
def FnRatParseFailsUptoCardSaid : Prop := Claim7.holds Tryz.pinned (.plain (OpenSpec.upto fnRatParseFailsSpec)) fnRatParseFailsUptoCard
end Rows
end Go.Proofs.YtmgfajamanakcaaGreatDoor
