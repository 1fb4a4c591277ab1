/-
  DERIVED. GIVEN WITH THE SEED: THE CARDS: each row of YtnggkkdcddpjlaaGreatDoorRows.lean that lists a variable, with what it lists TIED to the program's text (the seventh form; the later family's looks); each row that meets fmt, with fmt's text TOLD by the authors' own Lean function (tested against real Go, not proved from fmt's source: count such statements apart). THE CARD IS WHAT COUNTS. Prove the row's statement (the work); the ties are given (YtnggkkdcddpjlaaGreatDoorTie.lean); close each card by the builder's one call (the guide's Derived/Test/ToyasCard.lean, 'card_holds'). Laid BY PROGRAM, IN A SANDBOX (cutbox-door.mjs). By AI agents, Wed Nov 11 2026. No macro, syntax, notation, axiom, sorry.
-/
import Derived.Test.YtnggkkdcddpjlaaGreatDoorRows
import GoSem.ClaimSeven
namespace Go.Proofs.YtnggkkdcddpjlaaGreatDoor
namespace Rows

/-- THE TIED CARD OF 'laws.FnCastMapBools'. -/
def fnCastMapBoolsCard : Claim7 := { stood := { row := fnCastMapBoolsRow, standIns := [], harness := (true, "70903a8e6a2d3c2bc32bdeb8bd66cbe75d604746cad9275675057b63ecfdd86e"), looks := true }, kinds := [], alts := [], laidByText := true, laidKinds := [.data, .data, .data, .data, .sentinel, .sentinel, .pinned, .pinned], laidTests := true, laidLooks := .later }
def FnCastMapBoolsCardSaid : Prop := Claim7.holds Tryz.pinned (.plain (OpenSpec.ofChange fnCastMapBoolsSpec)) fnCastMapBoolsCard

/-- THE TIED CARD OF 'laws.FnCastIntText'. -/
def fnCastIntTextCard : Claim7 := { stood := { row := fnCastIntTextRow, standIns := [], harness := (true, "70903a8e6a2d3c2bc32bdeb8bd66cbe75d604746cad9275675057b63ecfdd86e"), looks := true }, kinds := [], alts := [], laidByText := true, laidKinds := [.data, .data, .data, .data, .sentinel, .sentinel, .pinned, .pinned], laidTests := true, laidLooks := .later }
def FnCastIntTextCardSaid : Prop := Claim7.holds Tryz.pinned (.plain (OpenSpec.ofChange fnCastIntTextSpec)) fnCastIntTextCard

/-- THE TIED CARD OF 'laws.FnCastMapSame'. -/
def fnCastMapSameCard : Claim7 := { stood := { row := fnCastMapSameRow, standIns := [], harness := (true, "70903a8e6a2d3c2bc32bdeb8bd66cbe75d604746cad9275675057b63ecfdd86e"), looks := true }, kinds := [], alts := [], laidByText := true, laidKinds := [.data, .data, .data, .data, .sentinel, .sentinel, .pinned, .pinned], laidTests := true, laidLooks := .later }
def FnCastMapSameCardSaid : Prop := Claim7.holds Tryz.pinned (.plain (OpenSpec.ofChange fnCastMapSameSpec)) fnCastMapSameCard

/-- THE TIED CARD OF 'laws.FnCastNumber'. -/
def fnCastNumberCard : Claim7 := { stood := { row := fnCastNumberRow, standIns := [], harness := (true, "70903a8e6a2d3c2bc32bdeb8bd66cbe75d604746cad9275675057b63ecfdd86e"), looks := true }, kinds := [], alts := [], laidByText := true, laidKinds := [.data, .data, .widerDeep, .widerDeep, .data, .data, .data, .data, .data, .sentinel, .sentinel, .pinned, .pinned], laidTests := true, laidLooks := .later }
def FnCastNumberCardSaid : Prop := Claim7.holds Tryz.pinned (.plain (OpenSpec.ofChange fnCastNumberSpec)) fnCastNumberCard

/-- THE TIED CARD OF 'laws.FnGetFloats'. -/
def fnGetFloatsCard : Claim7 := { stood := { row := fnGetFloatsRow, standIns := [], harness := (true, "70903a8e6a2d3c2bc32bdeb8bd66cbe75d604746cad9275675057b63ecfdd86e"), looks := true }, kinds := [], alts := [], laidByText := true, laidKinds := [.data, .data, .widerDeep, .widerDeep, .data, .data, .data, .data, .data, .sentinel, .sentinel, .pinned, .pinned], laidTests := true, laidLooks := .later }
def FnGetFloatsCardSaid : Prop := Claim7.holds Tryz.pinned (.plain (OpenSpec.ofChange fnGetFloatsSpec)) fnGetFloatsCard

/-- THE SECOND FORM's CARD OF 'laws.FnCastMapBools'. -/
def fnCastMapBoolsUptoCard : Claim7 := { stood := { row := fnCastMapBoolsUptoRow, standIns := [], harness := (true, "70903a8e6a2d3c2bc32bdeb8bd66cbe75d604746cad9275675057b63ecfdd86e"), looks := true }, kinds := [], alts := [], laidByText := true, laidKinds := [.data, .data, .data, .data, .sentinel, .sentinel, .pinned, .pinned], laidTests := true, laidLooks := .later }
def FnCastMapBoolsUptoCardSaid : Prop := Claim7.holds Tryz.pinned (.plain (OpenSpec.upto fnCastMapBoolsSpec)) fnCastMapBoolsUptoCard

/-- THE SECOND FORM's CARD OF 'laws.FnCastIntText'. -/
def fnCastIntTextUptoCard : Claim7 := { stood := { row := fnCastIntTextUptoRow, standIns := [], harness := (true, "70903a8e6a2d3c2bc32bdeb8bd66cbe75d604746cad9275675057b63ecfdd86e"), looks := true }, kinds := [], alts := [], laidByText := true, laidKinds := [.data, .data, .data, .data, .sentinel, .sentinel, .pinned, .pinned], laidTests := true, laidLooks := .later }
def FnCastIntTextUptoCardSaid : Prop := Claim7.holds Tryz.pinned (.plain (OpenSpec.upto fnCastIntTextSpec)) fnCastIntTextUptoCard

/-- THE SECOND FORM's CARD OF 'laws.FnCastMapSame'. -/
def fnCastMapSameUptoCard : Claim7 := { stood := { row := fnCastMapSameUptoRow, standIns := [], harness := (true, "70903a8e6a2d3c2bc32bdeb8bd66cbe75d604746cad9275675057b63ecfdd86e"), looks := true }, kinds := [], alts := [], laidByText := true, laidKinds := [.data, .data, .data, .data, .sentinel, .sentinel, .pinned, .pinned], laidTests := true, laidLooks := .later }
def FnCastMapSameUptoCardSaid : Prop := Claim7.holds Tryz.pinned (.plain (OpenSpec.upto fnCastMapSameSpec)) fnCastMapSameUptoCard

/-- THE SECOND FORM's CARD OF 'laws.FnCastNumber'. -/
def fnCastNumberUptoCard : Claim7 := { stood := { row := fnCastNumberUptoRow, standIns := [], harness := (true, "70903a8e6a2d3c2bc32bdeb8bd66cbe75d604746cad9275675057b63ecfdd86e"), looks := true }, kinds := [], alts := [], laidByText := true, laidKinds := [.data, .data, .widerDeep, .widerDeep, .data, .data, .data, .data, .data, .sentinel, .sentinel, .pinned, .pinned], laidTests := true, laidLooks := .later }
def FnCastNumberUptoCardSaid : Prop := Claim7.holds Tryz.pinned (.plain (OpenSpec.upto fnCastNumberSpec)) fnCastNumberUptoCard

/-- THE SECOND FORM's CARD OF 'laws.FnGetFloats'. -/
def fnGetFloatsUptoCard : Claim7 := { stood := { row := fnGetFloatsUptoRow, standIns := [], harness := (true, "70903a8e6a2d3c2bc32bdeb8bd66cbe75d604746cad9275675057b63ecfdd86e"), looks := true }, kinds := [], alts := [], laidByText := true, laidKinds := [.data, .data, .widerDeep, .widerDeep, .data, .data, .data, .data, .data, .sentinel, .sentinel, .pinned, .pinned], laidTests := true, laidLooks := .later }
def FnGetFloatsUptoCardSaid : Prop := Claim7.holds Tryz.pinned (.plain (OpenSpec.upto fnGetFloatsSpec)) fnGetFloatsUptoCard
end Rows
end Go.Proofs.YtnggkkdcddpjlaaGreatDoor
