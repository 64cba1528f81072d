/-
  DERIVED. GIVEN WITH THE SEED: THE CARDS: each row of YtikgnpachlgakaaGreatDoorRows.lean that lists a variable, with what it lists TIED to the program's text (the seventh form; the later family's looks); each row that meets fmt, with fmt's text TOLD by the authors' own Lean function (tested against real Go, not proved from fmt's source: count such statements apart). THE CARD IS WHAT COUNTS. Prove the row's statement (the work); the ties are given (YtikgnpachlgakaaGreatDoorTie.lean); close each card by the builder's one call (the guide's Derived/Test/ToyasCard.lean, 'card_holds'). Laid BY PROGRAM, IN A SANDBOX (cutbox-door.mjs). By AI agents, Wed Nov 11 2026. No macro, syntax, notation, axiom, sorry.
-/
import Derived.Test.YtikgnpachlgakaaGreatDoorRows
import GoSem.ClaimSeven
namespace Go.Proofs.YtikgnpachlgakaaGreatDoor
namespace Rows

/-- THE TIED CARD OF 'laws.FnCronBlanks'. -/
def fnCronBlanksCard : Claim7 := { stood := { row := fnCronBlanksRow, standIns := [], harness := (true, "f19acbe327cb5b2c2b1d7fcbeb1022085bdbf26be130676081d7b9ab93e5747b"), looks := true }, kinds := [], alts := [], laidByText := true, laidKinds := [.data, .data, .data, .data, .sentinel, .sentinel, .sentinel, .sentinel, .pinned], laidTests := true, laidLooks := .later }
def FnCronBlanksCardSaid : Prop := Claim7.holds Tryz.pinned (.plain (OpenSpec.ofChange fnCronBlanksSpec)) fnCronBlanksCard

/-- THE TIED CARD OF 'laws.FnCronParse'. -/
def fnCronParseCard : Claim7 := { stood := { row := fnCronParseRow, standIns := [], harness := (true, "f19acbe327cb5b2c2b1d7fcbeb1022085bdbf26be130676081d7b9ab93e5747b"), looks := true }, kinds := [], alts := [], laidByText := true, laidKinds := [.data, .data, .data, .data, .sentinel, .sentinel, .sentinel, .sentinel, .pinned], laidTests := true, laidLooks := .later }
def FnCronParseCardSaid : Prop := Claim7.holds Tryz.pinned (.plain (OpenSpec.ofChange fnCronParseSpec)) fnCronParseCard

/-- THE SECOND FORM's CARD OF 'laws.FnCronBlanks'. -/
def fnCronBlanksUptoCard : Claim7 := { stood := { row := fnCronBlanksUptoRow, standIns := [], harness := (true, "f19acbe327cb5b2c2b1d7fcbeb1022085bdbf26be130676081d7b9ab93e5747b"), looks := true }, kinds := [], alts := [], laidByText := true, laidKinds := [.data, .data, .data, .data, .sentinel, .sentinel, .sentinel, .sentinel, .pinned], laidTests := true, laidLooks := .later }
def FnCronBlanksUptoCardSaid : Prop := Claim7.holds Tryz.pinned (.plain (OpenSpec.upto fnCronBlanksSpec)) fnCronBlanksUptoCard

/-- THE SECOND FORM's CARD OF 'laws.FnCronParse'. -/
def fnCronParseUptoCard : Claim7 := { stood := { row := fnCronParseUptoRow, standIns := [], harness := (true, "f19acbe327cb5b2c2b1d7fcbeb1022085bdbf26be130676081d7b9ab93e5747b"), looks := true }, kinds := [], alts := [], laidByText := true, laidKinds := [.data, .data, .data, .data, .sentinel, .sentinel, .sentinel, .sentinel, .pinned], laidTests := true, laidLooks := .later }
def FnCronParseUptoCardSaid : Prop := Claim7.holds Tryz.pinned (.plain (OpenSpec.upto fnCronParseSpec)) fnCronParseUptoCard
end Rows
end Go.Proofs.YtikgnpachlgakaaGreatDoor
