/-
  DERIVED. GIVEN WITH THE SEED: THE CARDS: each row of YtniilnnhpcpccaaDoorRows.lean that lists a variable, with what it lists TIED to the program's text (the seventh form; the later family's looks); each row that meets fmt, with fmt's text TOLD by the authors' own Lean function (tested against real Go, not proved from fmt's source: count such statements apart). THE CARD IS WHAT COUNTS. Prove the row's statement (the work); the ties are given (YtniilnnhpcpccaaDoorTie.lean); close each card by the builder's one call (the guide's Derived/Test/ToyasCard.lean, 'card_holds'). Laid BY PROGRAM, IN A SANDBOX (cutbox-door.mjs). By AI agents, Wed Nov 11 2026. No macro, syntax, notation, axiom, sorry.
-/
import Derived.Test.YtniilnnhpcpccaaDoorRows
import GoSem.ClaimSeven
namespace Go.Proofs.YtniilnnhpcpccaaDoor
namespace Rows

/-- THE TIED CARD OF 'wlvlaw17.CredOnce'. -/
def credOnceCard : Claim7 := { stood := { row := credOnceRow, standIns := [], harness := (true, "cc7e0e397d4c8eddf0ad49faae2d5c32193435289535ff0e7e91fe9bf2636c95"), looks := false }, kinds := [], alts := [], laidByText := true, laidKinds := [.data, .data, .data, .pinned, .pinned], laidTests := true, laidLooks := .later }
def CredOnceCardSaid : Prop := Claim7.holds Tryd.pinned (.plain (OpenSpec.ofChange credOnceSpec)) credOnceCard

/-- THE TIED CARD OF 'wlvlaw17.CredWho'. -/
def credWhoCard : Claim7 := { stood := { row := credWhoRow, standIns := [], harness := (true, "cc7e0e397d4c8eddf0ad49faae2d5c32193435289535ff0e7e91fe9bf2636c95"), looks := false }, kinds := [], alts := [], laidByText := true, laidKinds := [.data, .data, .data, .pinned, .pinned], laidTests := true, laidLooks := .later }
def CredWhoCardSaid : Prop := Claim7.holds Tryd.pinned (.plain (OpenSpec.ofChange credWhoSpec)) credWhoCard

/-- THE SECOND FORM's CARD OF 'wlvlaw17.CredOnce'. -/
def credOnceUptoCard : Claim7 := { stood := { row := credOnceUptoRow, standIns := [], harness := (true, "cc7e0e397d4c8eddf0ad49faae2d5c32193435289535ff0e7e91fe9bf2636c95"), looks := false }, kinds := [], alts := [], laidByText := true, laidKinds := [.data, .data, .data, .pinned, .pinned], laidTests := true, laidLooks := .later }
def CredOnceUptoCardSaid : Prop := Claim7.holds Tryd.pinned (.plain (OpenSpec.upto credOnceSpec)) credOnceUptoCard

/-- THE SECOND FORM's CARD OF 'wlvlaw17.CredWho'. -/
def credWhoUptoCard : Claim7 := { stood := { row := credWhoUptoRow, standIns := [], harness := (true, "cc7e0e397d4c8eddf0ad49faae2d5c32193435289535ff0e7e91fe9bf2636c95"), looks := false }, kinds := [], alts := [], laidByText := true, laidKinds := [.data, .data, .data, .pinned, .pinned], laidTests := true, laidLooks := .later }
def CredWhoUptoCardSaid : Prop := Claim7.holds Tryd.pinned (.plain (OpenSpec.upto credWhoSpec)) credWhoUptoCard
end Rows
end Go.Proofs.YtniilnnhpcpccaaDoor
