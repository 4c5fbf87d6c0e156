/-
  DERIVED. GIVEN WITH THE SEED: THE CARDS: each row of YtifbhefbhlbofaaDoorRows.lean that lists a variable, with what it lists TIED to the program's text (the seventh form; the later family's looks); each row that meets fmt, with fmt's text TOLD by the authors' own Lean function (tested against real Go, not proved from fmt's source: count such statements apart). THE CARD IS WHAT COUNTS. Prove the row's statement (the work); the ties are given (YtifbhefbhlbofaaDoorTie.lean); close each card by the builder's one call (the guide's Derived/Test/ToyasCard.lean, 'card_holds'). Laid BY PROGRAM, IN A SANDBOX (cutbox-door.mjs). By AI agents, Wed Nov 11 2026. No macro, syntax, notation, axiom, sorry.
-/
import Derived.Test.YtifbhefbhlbofaaDoorRows
import GoSem.ClaimSeven
namespace Go.Proofs.YtifbhefbhlbofaaDoor
namespace Rows

/-- THE TIED CARD OF 'wlvlaw27.WatchFinds'. -/
def watchFindsCard : Claim7 := { stood := { row := watchFindsRow, standIns := [], harness := (true, "cbb94c828999c0a157a0782c620773cf40fc9aa7d169be3d48cedb9b398dbc2a"), looks := false }, kinds := [], alts := [], laidByText := true, laidKinds := [.data, .pinned], laidTests := true, laidLooks := .later }
def WatchFindsCardSaid : Prop := Claim7.holds Tryd.pinned (.plain (OpenSpec.ofChange watchFindsSpec)) watchFindsCard

/-- THE TIED CARD OF 'wlvlaw27.WatchBlind'. -/
def watchBlindCard : Claim7 := { stood := { row := watchBlindRow, standIns := [], harness := (true, "cbb94c828999c0a157a0782c620773cf40fc9aa7d169be3d48cedb9b398dbc2a"), looks := false }, kinds := [], alts := [], laidByText := true, laidKinds := [.data, .pinned], laidTests := true, laidLooks := .later }
def WatchBlindCardSaid : Prop := Claim7.holds Tryd.pinned (.plain (OpenSpec.ofChange watchBlindSpec)) watchBlindCard

/-- THE TIED CARD OF 'wlvlaw27.WatchPieces'. -/
def watchPiecesCard : Claim7 := { stood := { row := watchPiecesRow, standIns := [], harness := (true, "cbb94c828999c0a157a0782c620773cf40fc9aa7d169be3d48cedb9b398dbc2a"), looks := false }, kinds := [], alts := [], laidByText := true, laidKinds := [.data, .pinned], laidTests := true, laidLooks := .later }
def WatchPiecesCardSaid : Prop := Claim7.holds Tryd.pinned (.plain (OpenSpec.ofChange watchPiecesSpec)) watchPiecesCard

/-- THE TIED CARD OF 'wlvlaw27.WatchRight'. -/
def watchRightCard : Claim7 := { stood := { row := watchRightRow, standIns := [], harness := (true, "cbb94c828999c0a157a0782c620773cf40fc9aa7d169be3d48cedb9b398dbc2a"), looks := false }, kinds := [], alts := [], laidByText := true, laidKinds := [.data, .pinned], laidTests := true, laidLooks := .later }
def WatchRightCardSaid : Prop := Claim7.holds Tryd.pinned (.plain (OpenSpec.ofChange watchRightSpec)) watchRightCard

/-- THE SECOND FORM's CARD OF 'wlvlaw27.WatchFinds'. -/
def watchFindsUptoCard : Claim7 := { stood := { row := watchFindsUptoRow, standIns := [], harness := (true, "cbb94c828999c0a157a0782c620773cf40fc9aa7d169be3d48cedb9b398dbc2a"), looks := false }, kinds := [], alts := [], laidByText := true, laidKinds := [.data, .pinned], laidTests := true, laidLooks := .later }
def WatchFindsUptoCardSaid : Prop := Claim7.holds Tryd.pinned (.plain (OpenSpec.upto watchFindsSpec)) watchFindsUptoCard

/-- THE SECOND FORM's CARD OF 'wlvlaw27.WatchBlind'. -/
def watchBlindUptoCard : Claim7 := { stood := { row := watchBlindUptoRow, standIns := [], harness := (true, "cbb94c828999c0a157a0782c620773cf40fc9aa7d169be3d48cedb9b398dbc2a"), looks := false }, kinds := [], alts := [], laidByText := true, laidKinds := [.data, .pinned], laidTests := true, laidLooks := .later }
def WatchBlindUptoCardSaid : Prop := Claim7.holds Tryd.pinned (.plain (OpenSpec.upto watchBlindSpec)) watchBlindUptoCard

/-- THE SECOND FORM's CARD OF 'wlvlaw27.WatchPieces'. -/
def watchPiecesUptoCard : Claim7 := { stood := { row := watchPiecesUptoRow, standIns := [], harness := (true, "cbb94c828999c0a157a0782c620773cf40fc9aa7d169be3d48cedb9b398dbc2a"), looks := false }, kinds := [], alts := [], laidByText := true, laidKinds := [.data, .pinned], laidTests := true, laidLooks := .later }
def WatchPiecesUptoCardSaid : Prop := Claim7.holds Tryd.pinned (.plain (OpenSpec.upto watchPiecesSpec)) watchPiecesUptoCard

/-- THE SECOND FORM's CARD OF 'wlvlaw27.WatchRight'. -/
def watchRightUptoCard : Claim7 := { stood := { row := watchRightUptoRow, standIns := [], harness := (true, "cbb94c828999c0a157a0782c620773cf40fc9aa7d169be3d48cedb9b398dbc2a"), looks := false }, kinds := [], alts := [], laidByText := true, laidKinds := [.data, .pinned], laidTests := true, laidLooks := .later }
def WatchRightUptoCardSaid : Prop := Claim7.holds Tryd.pinned (.plain (OpenSpec.upto watchRightSpec)) watchRightUptoCard
end Rows
end Go.Proofs.YtifbhefbhlbofaaDoor
