/-
  DERIVED. GIVEN WITH THE SEED: THE CARDS: each row of YtmecbmgfacpecaaGreatDoorRows.lean that lists a variable, with what it lists TIED to the program's text (the seventh form; the later family's looks); each row that meets fmt, with fmt's text TOLD by the authors' own Lean function (tested against real Go, not proved from fmt's source: count such statements apart). THE CARD IS WHAT COUNTS. Prove the row's statement (the work); the ties are given (YtmecbmgfacpecaaGreatDoorTie.lean); close each card by the builder's one call (the guide's Derived/Test/ToyasCard.lean, 'card_holds'). Laid BY PROGRAM, IN A SANDBOX (cutbox-door.mjs). By AI agents, Wed Nov 11 2026. No macro, syntax, notation, axiom, sorry.
-/
import Derived.Test.YtmecbmgfacpecaaGreatDoorRows
import GoSem.ClaimSeven
namespace Go.Proofs.YtmecbmgfacpecaaGreatDoor
namespace Rows

/-- THE TIED CARD OF 'laws.FnCronParse'. -/
def fnCronParseCard : Claim7 := { stood := { row := fnCronParseRow, standIns := [], harness := (true, "2c8b9cb43f7129fe50b2c518ffce1ae2a5467ac2f6b99bedc3344eff5a77f46e"), looks := true }, kinds := [], alts := [], laidByText := true, laidKinds := [.data, .data, .data, .data, .sentinel, .sentinel, .sentinel, .sentinel, .pinned], laidTests := true, laidLooks := .later }
def FnCronParseCardSaid : Prop := Claim7.holds Tryz.pinned (.plain (OpenSpec.ofChange fnCronParseSpec)) fnCronParseCard

/-- THE TIED CARD OF 'laws.FnCronEntries'. -/
def fnCronEntriesCard : Claim7 := { stood := { row := fnCronEntriesRow, standIns := [], harness := (true, "2c8b9cb43f7129fe50b2c518ffce1ae2a5467ac2f6b99bedc3344eff5a77f46e"), looks := true }, kinds := [], alts := [], laidByText := true, laidKinds := [.data, .data, .data, .data, .sentinel, .sentinel, .sentinel, .sentinel, .pinned], laidTests := true, laidLooks := .later }
def FnCronEntriesCardSaid : Prop := Claim7.holds Tryz.pinned (.plain (OpenSpec.ofChange fnCronEntriesSpec)) fnCronEntriesCard

/-- THE TIED CARD OF 'laws.FnCronTextEitherDay'. -/
def fnCronTextEitherDayCard : Claim7 := { stood := { row := fnCronTextEitherDayRow, standIns := [], harness := (true, "2c8b9cb43f7129fe50b2c518ffce1ae2a5467ac2f6b99bedc3344eff5a77f46e"), looks := true }, kinds := [], alts := [], laidByText := true, laidKinds := [.data, .data, .data, .data, .sentinel, .sentinel, .sentinel, .sentinel, .pinned], laidTests := true, laidLooks := .later }
def FnCronTextEitherDayCardSaid : Prop := Claim7.holds Tryz.pinned (.plain (OpenSpec.ofChange fnCronTextEitherDaySpec)) fnCronTextEitherDayCard

/-- THE TIED CARD OF 'laws.FnCronYearlyAt'. -/
def fnCronYearlyAtCard : Claim7 := { stood := { row := fnCronYearlyAtRow, standIns := [], harness := (true, "2c8b9cb43f7129fe50b2c518ffce1ae2a5467ac2f6b99bedc3344eff5a77f46e"), looks := true }, kinds := [], alts := [], laidByText := true, laidKinds := [.data, .data, .data, .data, .sentinel, .sentinel, .sentinel, .sentinel, .pinned], laidTests := true, laidLooks := .later }
def FnCronYearlyAtCardSaid : Prop := Claim7.holds Tryz.pinned (.plain (OpenSpec.ofChange fnCronYearlyAtSpec)) fnCronYearlyAtCard

/-- THE TIED CARD OF 'laws.FnCronSpelledNext'. -/
def fnCronSpelledNextCard : Claim7 := { stood := { row := fnCronSpelledNextRow, standIns := [], harness := (true, "2c8b9cb43f7129fe50b2c518ffce1ae2a5467ac2f6b99bedc3344eff5a77f46e"), looks := true }, kinds := [], alts := [], laidByText := true, laidKinds := [.data, .data, .data, .data, .sentinel, .sentinel, .sentinel, .sentinel, .pinned], laidTests := true, laidLooks := .later }
def FnCronSpelledNextCardSaid : Prop := Claim7.holds Tryz.pinned (.plain (OpenSpec.ofChange fnCronSpelledNextSpec)) fnCronSpelledNextCard

/-- THE SECOND FORM's CARD OF 'laws.FnCronParse'. -/
def fnCronParseUptoCard : Claim7 := { stood := { row := fnCronParseUptoRow, standIns := [], harness := (true, "2c8b9cb43f7129fe50b2c518ffce1ae2a5467ac2f6b99bedc3344eff5a77f46e"), looks := true }, kinds := [], alts := [], laidByText := true, laidKinds := [.data, .data, .data, .data, .sentinel, .sentinel, .sentinel, .sentinel, .pinned], laidTests := true, laidLooks := .later }
def FnCronParseUptoCardSaid : Prop := Claim7.holds Tryz.pinned (.plain (OpenSpec.upto fnCronParseSpec)) fnCronParseUptoCard

/-- THE SECOND FORM's CARD OF 'laws.FnCronEntries'. -/
def fnCronEntriesUptoCard : Claim7 := { stood := { row := fnCronEntriesUptoRow, standIns := [], harness := (true, "2c8b9cb43f7129fe50b2c518ffce1ae2a5467ac2f6b99bedc3344eff5a77f46e"), looks := true }, kinds := [], alts := [], laidByText := true, laidKinds := [.data, .data, .data, .data, .sentinel, .sentinel, .sentinel, .sentinel, .pinned], laidTests := true, laidLooks := .later }
def FnCronEntriesUptoCardSaid : Prop := Claim7.holds Tryz.pinned (.plain (OpenSpec.upto fnCronEntriesSpec)) fnCronEntriesUptoCard

/-- THE SECOND FORM's CARD OF 'laws.FnCronTextEitherDay'. -/
def fnCronTextEitherDayUptoCard : Claim7 := { stood := { row := fnCronTextEitherDayUptoRow, standIns := [], harness := (true, "2c8b9cb43f7129fe50b2c518ffce1ae2a5467ac2f6b99bedc3344eff5a77f46e"), looks := true }, kinds := [], alts := [], laidByText := true, laidKinds := [.data, .data, .data, .data, .sentinel, .sentinel, .sentinel, .sentinel, .pinned], laidTests := true, laidLooks := .later }
def FnCronTextEitherDayUptoCardSaid : Prop := Claim7.holds Tryz.pinned (.plain (OpenSpec.upto fnCronTextEitherDaySpec)) fnCronTextEitherDayUptoCard

/-- THE SECOND FORM's CARD OF 'laws.FnCronYearlyAt'. -/
def fnCronYearlyAtUptoCard : Claim7 := { stood := { row := fnCronYearlyAtUptoRow, standIns := [], harness := (true, "2c8b9cb43f7129fe50b2c518ffce1ae2a5467ac2f6b99bedc3344eff5a77f46e"), looks := true }, kinds := [], alts := [], laidByText := true, laidKinds := [.data, .data, .data, .data, .sentinel, .sentinel, .sentinel, .sentinel, .pinned], laidTests := true, laidLooks := .later }
def FnCronYearlyAtUptoCardSaid : Prop := Claim7.holds Tryz.pinned (.plain (OpenSpec.upto fnCronYearlyAtSpec)) fnCronYearlyAtUptoCard

/-- THE SECOND FORM's CARD OF 'laws.FnCronSpelledNext'. -/
def fnCronSpelledNextUptoCard : Claim7 := { stood := { row := fnCronSpelledNextUptoRow, standIns := [], harness := (true, "2c8b9cb43f7129fe50b2c518ffce1ae2a5467ac2f6b99bedc3344eff5a77f46e"), looks := true }, kinds := [], alts := [], laidByText := true, laidKinds := [.data, .data, .data, .data, .sentinel, .sentinel, .sentinel, .sentinel, .pinned], laidTests := true, laidLooks := .later }
def FnCronSpelledNextUptoCardSaid : Prop := Claim7.holds Tryz.pinned (.plain (OpenSpec.upto fnCronSpelledNextSpec)) fnCronSpelledNextUptoCard
end Rows
end Go.Proofs.YtmecbmgfacpecaaGreatDoor
