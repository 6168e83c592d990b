/-
  DERIVED. GIVEN WITH THE SEED: THE CARDS: each row of YtnajekpckbfcdaaGreatDoorRows.lean that lists a variable, with what it lists TIED to the program's text (the seventh form; the later family's looks); each row that meets fmt, with fmt's text TOLD by the authors' own Lean function (tested against real Go, not proved from fmt's source: count such statements apart). THE CARD IS WHAT COUNTS. Prove the row's statement (the work); the ties are given (YtnajekpckbfcdaaGreatDoorTie.lean); close each card by the builder's one call (the guide's Derived/Test/ToyasCard.lean, 'card_holds'). Laid BY PROGRAM, IN A SANDBOX (cutbox-door.mjs). By AI agents, Wed Nov 11 2026. No macro, syntax, notation, axiom, sorry.
-/
import Derived.Test.YtnajekpckbfcdaaGreatDoorRows
import GoSem.ClaimSeven
namespace Go.Proofs.YtnajekpckbfcdaaGreatDoor
namespace Rows

/-- THE TIED CARD OF 'laws.FnParseDecs'. -/
def fnParseDecsCard : Claim7 := { stood := { row := fnParseDecsRow, standIns := [], harness := (true, "529803a9cc0df5f65b77e8f4aa3765fb16e1c7ba67c527308cfc0e6a9c635b7d"), looks := true }, kinds := [], alts := [], laidByText := true, laidKinds := [.data, .data, .sentinel, .sentinel, .sentinel, .data, .data, .data, .data, .sentinel, .sentinel, .sentinel], laidTests := true, laidLooks := .later }
def FnParseDecsCardSaid : Prop := Claim7.holds Tryz.pinned (.plain (OpenSpec.ofChange fnParseDecsSpec)) fnParseDecsCard

/-- THE TIED CARD OF 'laws.FnParseEmpty'. -/
def fnParseEmptyCard : Claim7 := { stood := { row := fnParseEmptyRow, standIns := [], harness := (true, "529803a9cc0df5f65b77e8f4aa3765fb16e1c7ba67c527308cfc0e6a9c635b7d"), looks := true }, kinds := [], alts := [], laidByText := true, laidKinds := [.data, .data, .sentinel, .sentinel, .sentinel, .data, .data, .data, .data, .sentinel, .sentinel, .sentinel], laidTests := true, laidLooks := .later }
def FnParseEmptyCardSaid : Prop := Claim7.holds Tryz.pinned (.plain (OpenSpec.ofChange fnParseEmptySpec)) fnParseEmptyCard

/-- THE TIED CARD OF 'laws.FnTextDecs'. -/
def fnTextDecsCard : Claim7 := { stood := { row := fnTextDecsRow, standIns := [], harness := (true, "529803a9cc0df5f65b77e8f4aa3765fb16e1c7ba67c527308cfc0e6a9c635b7d"), looks := true }, kinds := [], alts := [], laidByText := true, laidKinds := [.data, .data, .sentinel, .sentinel, .sentinel, .data, .data, .data, .data, .data, .sentinel, .sentinel, .sentinel], laidTests := true, laidLooks := .later }
def FnTextDecsCardSaid : Prop := Claim7.holds Tryz.pinned (.plain (OpenSpec.ofChange fnTextDecsSpec)) fnTextDecsCard

/-- THE TIED CARD OF 'laws.FnTextCoins'. -/
def fnTextCoinsCard : Claim7 := { stood := { row := fnTextCoinsRow, standIns := [], harness := (true, "529803a9cc0df5f65b77e8f4aa3765fb16e1c7ba67c527308cfc0e6a9c635b7d"), looks := true }, kinds := [], alts := [], laidByText := true, laidKinds := [.data, .data, .sentinel, .sentinel, .sentinel, .data, .data, .data, .data, .data, .sentinel, .sentinel, .sentinel], laidTests := true, laidLooks := .later }
def FnTextCoinsCardSaid : Prop := Claim7.holds Tryz.pinned (.plain (OpenSpec.ofChange fnTextCoinsSpec)) fnTextCoinsCard

/-- THE SECOND FORM's CARD OF 'laws.FnParseDecs'. -/
def fnParseDecsUptoCard : Claim7 := { stood := { row := fnParseDecsUptoRow, standIns := [], harness := (true, "529803a9cc0df5f65b77e8f4aa3765fb16e1c7ba67c527308cfc0e6a9c635b7d"), looks := true }, kinds := [], alts := [], laidByText := true, laidKinds := [.data, .data, .sentinel, .sentinel, .sentinel, .data, .data, .data, .data, .sentinel, .sentinel, .sentinel], laidTests := true, laidLooks := .later }
def FnParseDecsUptoCardSaid : Prop := Claim7.holds Tryz.pinned (.plain (OpenSpec.upto fnParseDecsSpec)) fnParseDecsUptoCard

/-- THE SECOND FORM's CARD OF 'laws.FnParseEmpty'. -/
def fnParseEmptyUptoCard : Claim7 := { stood := { row := fnParseEmptyUptoRow, standIns := [], harness := (true, "529803a9cc0df5f65b77e8f4aa3765fb16e1c7ba67c527308cfc0e6a9c635b7d"), looks := true }, kinds := [], alts := [], laidByText := true, laidKinds := [.data, .data, .sentinel, .sentinel, .sentinel, .data, .data, .data, .data, .sentinel, .sentinel, .sentinel], laidTests := true, laidLooks := .later }
def FnParseEmptyUptoCardSaid : Prop := Claim7.holds Tryz.pinned (.plain (OpenSpec.upto fnParseEmptySpec)) fnParseEmptyUptoCard

/-- THE SECOND FORM's CARD OF 'laws.FnTextDecs'. -/
def fnTextDecsUptoCard : Claim7 := { stood := { row := fnTextDecsUptoRow, standIns := [], harness := (true, "529803a9cc0df5f65b77e8f4aa3765fb16e1c7ba67c527308cfc0e6a9c635b7d"), looks := true }, kinds := [], alts := [], laidByText := true, laidKinds := [.data, .data, .sentinel, .sentinel, .sentinel, .data, .data, .data, .data, .data, .sentinel, .sentinel, .sentinel], laidTests := true, laidLooks := .later }
def FnTextDecsUptoCardSaid : Prop := Claim7.holds Tryz.pinned (.plain (OpenSpec.upto fnTextDecsSpec)) fnTextDecsUptoCard

/-- THE SECOND FORM's CARD OF 'laws.FnTextCoins'. -/
def fnTextCoinsUptoCard : Claim7 := { stood := { row := fnTextCoinsUptoRow, standIns := [], harness := (true, "529803a9cc0df5f65b77e8f4aa3765fb16e1c7ba67c527308cfc0e6a9c635b7d"), looks := true }, kinds := [], alts := [], laidByText := true, laidKinds := [.data, .data, .sentinel, .sentinel, .sentinel, .data, .data, .data, .data, .data, .sentinel, .sentinel, .sentinel], laidTests := true, laidLooks := .later }
def FnTextCoinsUptoCardSaid : Prop := Claim7.holds Tryz.pinned (.plain (OpenSpec.upto fnTextCoinsSpec)) fnTextCoinsUptoCard
end Rows
end Go.Proofs.YtnajekpckbfcdaaGreatDoor
