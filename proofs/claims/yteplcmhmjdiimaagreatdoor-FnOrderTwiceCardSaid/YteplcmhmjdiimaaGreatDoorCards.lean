/-
  DERIVED. GIVEN WITH THE SEED: THE CARDS: each row of YteplcmhmjdiimaaGreatDoorRows.lean that lists a variable, with what it lists TIED to the program's text (the seventh form; the later family's looks); each row that meets fmt, with fmt's text TOLD by the authors' own Lean function (tested against real Go, not proved from fmt's source: count such statements apart). THE CARD IS WHAT COUNTS. Prove the row's statement (the work); the ties are given (YteplcmhmjdiimaaGreatDoorTie.lean); close each card by the builder's one call (the guide's Derived/Test/ToyasCard.lean, 'card_holds'). Laid BY PROGRAM, IN A SANDBOX (cutbox-door.mjs). By AI agents, Wed Nov 11 2026. No macro, syntax, notation, axiom, sorry.
-/
import Derived.Test.YteplcmhmjdiimaaGreatDoorRows
import GoSem.ClaimSeven
namespace Go.Proofs.YteplcmhmjdiimaaGreatDoor
namespace Rows

/-- THE TIED CARD OF 'laws.FnOrder'. -/
def fnOrderCard : Claim7 := { stood := { row := fnOrderRow, standIns := [], harness := (true, "0d57ec5b75770513e694f24d3b254cf384ff57ef36cd38bc41fe6100a55fa5b5"), looks := true }, kinds := [], alts := [], laidByText := true, laidKinds := [.data, .data, .widerDeep, .widerDeep, .data, .data, .data, .data, .data, .data, .sentinel, .sentinel, .pinned, .pinned, .pinned, .pinned], laidTests := true, laidLooks := .later }
def FnOrderCardSaid : Prop := Claim7.holds Tryz.pinned (.plain (OpenSpec.ofChange fnOrderSpec)) fnOrderCard

/-- THE TIED CARD OF 'laws.FnOrderTwice'. -/
def fnOrderTwiceCard : Claim7 := { stood := { row := fnOrderTwiceRow, standIns := [], harness := (true, "0d57ec5b75770513e694f24d3b254cf384ff57ef36cd38bc41fe6100a55fa5b5"), looks := true }, kinds := [], alts := [], laidByText := true, laidKinds := [.data, .data, .widerDeep, .widerDeep, .data, .data, .data, .data, .data, .data, .sentinel, .sentinel, .pinned, .pinned, .pinned, .pinned], laidTests := true, laidLooks := .later }
def FnOrderTwiceCardSaid : Prop := Claim7.holds Tryz.pinned (.plain (OpenSpec.ofChange fnOrderTwiceSpec)) fnOrderTwiceCard

/-- THE SECOND FORM's CARD OF 'laws.FnOrder'. -/
def fnOrderUptoCard : Claim7 := { stood := { row := fnOrderUptoRow, standIns := [], harness := (true, "0d57ec5b75770513e694f24d3b254cf384ff57ef36cd38bc41fe6100a55fa5b5"), looks := true }, kinds := [], alts := [], laidByText := true, laidKinds := [.data, .data, .widerDeep, .widerDeep, .data, .data, .data, .data, .data, .data, .sentinel, .sentinel, .pinned, .pinned, .pinned, .pinned], laidTests := true, laidLooks := .later }
def FnOrderUptoCardSaid : Prop := Claim7.holds Tryz.pinned (.plain (OpenSpec.upto fnOrderSpec)) fnOrderUptoCard

/-- THE SECOND FORM's CARD OF 'laws.FnOrderTwice'. -/
def fnOrderTwiceUptoCard : Claim7 := { stood := { row := fnOrderTwiceUptoRow, standIns := [], harness := (true, "0d57ec5b75770513e694f24d3b254cf384ff57ef36cd38bc41fe6100a55fa5b5"), looks := true }, kinds := [], alts := [], laidByText := true, laidKinds := [.data, .data, .widerDeep, .widerDeep, .data, .data, .data, .data, .data, .data, .sentinel, .sentinel, .pinned, .pinned, .pinned, .pinned], laidTests := true, laidLooks := .later }
def FnOrderTwiceUptoCardSaid : Prop := Claim7.holds Tryz.pinned (.plain (OpenSpec.upto fnOrderTwiceSpec)) fnOrderTwiceUptoCard
end Rows
end Go.Proofs.YteplcmhmjdiimaaGreatDoor
