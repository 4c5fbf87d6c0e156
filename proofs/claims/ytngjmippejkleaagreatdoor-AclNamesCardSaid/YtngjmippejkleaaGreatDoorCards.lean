/-
  DERIVED. GIVEN WITH THE SEED: THE CARDS: each row of YtngjmippejkleaaGreatDoorRows.lean that lists a variable, with what it lists TIED to the program's text (the seventh form; the later family's looks); each row that meets fmt, with fmt's text TOLD by the authors' own Lean function (tested against real Go, not proved from fmt's source: count such statements apart). THE CARD IS WHAT COUNTS. Prove the row's statement (the work); the ties are given (YtngjmippejkleaaGreatDoorTie.lean); close each card by the builder's one call (the guide's Derived/Test/ToyasCard.lean, 'card_holds'). Laid BY PROGRAM, IN A SANDBOX (cutbox-door.mjs). By AI agents, Wed Nov 11 2026. No macro, syntax, notation, axiom, sorry.
-/
import Derived.Test.YtngjmippejkleaaGreatDoorRows
import GoSem.ClaimSeven
namespace Go.Proofs.YtngjmippejkleaaGreatDoor
namespace Rows

/-- THE TIED CARD OF 'wlvlaw19.AclNames'. -/
def aclNamesCard : Claim7 := { stood := { row := aclNamesRow, standIns := [], harness := (true, "691a6f65dc434e6a620d2b761ef0b2a6898d4f08b141ac500aa849b56118ea03"), looks := true }, kinds := [], alts := [], laidByText := true, laidKinds := [.data, .data, .data, .data, .sentinel, .sentinel, .pinned], laidTests := true, laidLooks := .later }
def AclNamesCardSaid : Prop := Claim7.holds Tryz.pinned (.plain (OpenSpec.ofChange aclNamesSpec)) aclNamesCard

/-- THE TIED CARD OF 'wlvlaw19.AclOrder'. -/
def aclOrderCard : Claim7 := { stood := { row := aclOrderRow, standIns := [], harness := (true, "691a6f65dc434e6a620d2b761ef0b2a6898d4f08b141ac500aa849b56118ea03"), looks := true }, kinds := [], alts := [], laidByText := true, laidKinds := [.data, .data, .data, .data, .sentinel, .sentinel, .pinned], laidTests := true, laidLooks := .later }
def AclOrderCardSaid : Prop := Claim7.holds Tryz.pinned (.plain (OpenSpec.ofChange aclOrderSpec)) aclOrderCard

/-- THE SECOND FORM's CARD OF 'wlvlaw19.AclNames'. -/
def aclNamesUptoCard : Claim7 := { stood := { row := aclNamesUptoRow, standIns := [], harness := (true, "691a6f65dc434e6a620d2b761ef0b2a6898d4f08b141ac500aa849b56118ea03"), looks := true }, kinds := [], alts := [], laidByText := true, laidKinds := [.data, .data, .data, .data, .sentinel, .sentinel, .pinned], laidTests := true, laidLooks := .later }
def AclNamesUptoCardSaid : Prop := Claim7.holds Tryz.pinned (.plain (OpenSpec.upto aclNamesSpec)) aclNamesUptoCard

/-- THE SECOND FORM's CARD OF 'wlvlaw19.AclOrder'. -/
def aclOrderUptoCard : Claim7 := { stood := { row := aclOrderUptoRow, standIns := [], harness := (true, "691a6f65dc434e6a620d2b761ef0b2a6898d4f08b141ac500aa849b56118ea03"), looks := true }, kinds := [], alts := [], laidByText := true, laidKinds := [.data, .data, .data, .data, .sentinel, .sentinel, .pinned], laidTests := true, laidLooks := .later }
def AclOrderUptoCardSaid : Prop := Claim7.holds Tryz.pinned (.plain (OpenSpec.upto aclOrderSpec)) aclOrderUptoCard
end Rows
end Go.Proofs.YtngjmippejkleaaGreatDoor
