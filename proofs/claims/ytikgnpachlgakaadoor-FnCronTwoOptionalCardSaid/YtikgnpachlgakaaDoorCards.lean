/-
  DERIVED. GIVEN WITH THE SEED: THE CARDS: each row of YtikgnpachlgakaaDoorRows.lean that lists a variable, with what it lists TIED to the program's text (the seventh form; the later family's looks); each row that meets fmt, with fmt's text TOLD by the authors' own Lean function (tested against real Go, not proved from fmt's source: count such statements apart). THE CARD IS WHAT COUNTS. Prove the row's statement (the work); the ties are given (YtikgnpachlgakaaDoorTie.lean); close each card by the builder's one call (the guide's Derived/Test/ToyasCard.lean, 'card_holds'). Laid BY PROGRAM, IN A SANDBOX (cutbox-door.mjs). By AI agents, Wed Nov 11 2026. No macro, syntax, notation, axiom, sorry.
-/
import Derived.Test.YtikgnpachlgakaaDoorRows
import GoSem.ClaimSeven
namespace Go.Proofs.YtikgnpachlgakaaDoor
namespace Rows

/-- THE TIED CARD OF 'laws.FnCronValue'. -/
def fnCronValueCard : Claim7 := { stood := { row := fnCronValueRow, standIns := [], harness := (true, "8bf9f54bfd87308d60be919417cb7fdbbe120647696be60404f98928a8b65e3c"), looks := true }, kinds := [], alts := [], laidByText := true, laidKinds := [.data, .data, .data, .sentinel, .sentinel], laidTests := true, laidLooks := .later }
def FnCronValueCardSaid : Prop := Claim7.holds Tryd.pinned (.plain (OpenSpec.ofChange fnCronValueSpec)) fnCronValueCard

/-- THE TIED CARD OF 'laws.FnCronItemIn'. -/
def fnCronItemInCard : Claim7 := { stood := { row := fnCronItemInRow, standIns := [], harness := (true, "8bf9f54bfd87308d60be919417cb7fdbbe120647696be60404f98928a8b65e3c"), looks := true }, kinds := [], alts := [], laidByText := true, laidKinds := [.data, .data, .data, .sentinel, .sentinel], laidTests := true, laidLooks := .later }
def FnCronItemInCardSaid : Prop := Claim7.holds Tryd.pinned (.plain (OpenSpec.ofChange fnCronItemInSpec)) fnCronItemInCard

/-- THE TIED CARD OF 'laws.FnCronRangeParted'. -/
def fnCronRangePartedCard : Claim7 := { stood := { row := fnCronRangePartedRow, standIns := [], harness := (true, "8bf9f54bfd87308d60be919417cb7fdbbe120647696be60404f98928a8b65e3c"), looks := true }, kinds := [], alts := [], laidByText := true, laidKinds := [.data, .data, .data, .sentinel, .sentinel], laidTests := true, laidLooks := .later }
def FnCronRangePartedCardSaid : Prop := Claim7.holds Tryd.pinned (.plain (OpenSpec.ofChange fnCronRangePartedSpec)) fnCronRangePartedCard

/-- THE TIED CARD OF 'laws.FnCronFieldOfKind'. -/
def fnCronFieldOfKindCard : Claim7 := { stood := { row := fnCronFieldOfKindRow, standIns := [], harness := (true, "8bf9f54bfd87308d60be919417cb7fdbbe120647696be60404f98928a8b65e3c"), looks := true }, kinds := [], alts := [], laidByText := true, laidKinds := [.data, .data, .data, .sentinel, .sentinel], laidTests := true, laidLooks := .later }
def FnCronFieldOfKindCardSaid : Prop := Claim7.holds Tryd.pinned (.plain (OpenSpec.ofChange fnCronFieldOfKindSpec)) fnCronFieldOfKindCard

/-- THE TIED CARD OF 'laws.FnCronTwoOptional'. -/
def fnCronTwoOptionalCard : Claim7 := { stood := { row := fnCronTwoOptionalRow, standIns := [], harness := (true, "8bf9f54bfd87308d60be919417cb7fdbbe120647696be60404f98928a8b65e3c"), looks := true }, kinds := [], alts := [], laidByText := true, laidKinds := [.data, .data, .data, .data, .sentinel, .sentinel, .sentinel, .sentinel, .pinned], laidTests := true, laidLooks := .later }
def FnCronTwoOptionalCardSaid : Prop := Claim7.holds Tryd.pinned (.plain (OpenSpec.ofChange fnCronTwoOptionalSpec)) fnCronTwoOptionalCard

/-- THE SECOND FORM's CARD OF 'laws.FnCronValue'. -/
def fnCronValueUptoCard : Claim7 := { stood := { row := fnCronValueUptoRow, standIns := [], harness := (true, "8bf9f54bfd87308d60be919417cb7fdbbe120647696be60404f98928a8b65e3c"), looks := true }, kinds := [], alts := [], laidByText := true, laidKinds := [.data, .data, .data, .sentinel, .sentinel], laidTests := true, laidLooks := .later }
def FnCronValueUptoCardSaid : Prop := Claim7.holds Tryd.pinned (.plain (OpenSpec.upto fnCronValueSpec)) fnCronValueUptoCard

/-- THE SECOND FORM's CARD OF 'laws.FnCronItemIn'. -/
def fnCronItemInUptoCard : Claim7 := { stood := { row := fnCronItemInUptoRow, standIns := [], harness := (true, "8bf9f54bfd87308d60be919417cb7fdbbe120647696be60404f98928a8b65e3c"), looks := true }, kinds := [], alts := [], laidByText := true, laidKinds := [.data, .data, .data, .sentinel, .sentinel], laidTests := true, laidLooks := .later }
def FnCronItemInUptoCardSaid : Prop := Claim7.holds Tryd.pinned (.plain (OpenSpec.upto fnCronItemInSpec)) fnCronItemInUptoCard

/-- THE SECOND FORM's CARD OF 'laws.FnCronRangeParted'. -/
def fnCronRangePartedUptoCard : Claim7 := { stood := { row := fnCronRangePartedUptoRow, standIns := [], harness := (true, "8bf9f54bfd87308d60be919417cb7fdbbe120647696be60404f98928a8b65e3c"), looks := true }, kinds := [], alts := [], laidByText := true, laidKinds := [.data, .data, .data, .sentinel, .sentinel], laidTests := true, laidLooks := .later }
def FnCronRangePartedUptoCardSaid : Prop := Claim7.holds Tryd.pinned (.plain (OpenSpec.upto fnCronRangePartedSpec)) fnCronRangePartedUptoCard

/-- THE SECOND FORM's CARD OF 'laws.FnCronFieldOfKind'. -/
def fnCronFieldOfKindUptoCard : Claim7 := { stood := { row := fnCronFieldOfKindUptoRow, standIns := [], harness := (true, "8bf9f54bfd87308d60be919417cb7fdbbe120647696be60404f98928a8b65e3c"), looks := true }, kinds := [], alts := [], laidByText := true, laidKinds := [.data, .data, .data, .sentinel, .sentinel], laidTests := true, laidLooks := .later }
def FnCronFieldOfKindUptoCardSaid : Prop := Claim7.holds Tryd.pinned (.plain (OpenSpec.upto fnCronFieldOfKindSpec)) fnCronFieldOfKindUptoCard

/-- THE SECOND FORM's CARD OF 'laws.FnCronTwoOptional'. -/
def fnCronTwoOptionalUptoCard : Claim7 := { stood := { row := fnCronTwoOptionalUptoRow, standIns := [], harness := (true, "8bf9f54bfd87308d60be919417cb7fdbbe120647696be60404f98928a8b65e3c"), looks := true }, kinds := [], alts := [], laidByText := true, laidKinds := [.data, .data, .data, .data, .sentinel, .sentinel, .sentinel, .sentinel, .pinned], laidTests := true, laidLooks := .later }
def FnCronTwoOptionalUptoCardSaid : Prop := Claim7.holds Tryd.pinned (.plain (OpenSpec.upto fnCronTwoOptionalSpec)) fnCronTwoOptionalUptoCard
end Rows
end Go.Proofs.YtikgnpachlgakaaDoor
