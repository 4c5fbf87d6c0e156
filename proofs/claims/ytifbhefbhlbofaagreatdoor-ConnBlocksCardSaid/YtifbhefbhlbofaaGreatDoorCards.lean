/-
  DERIVED. GIVEN WITH THE SEED: THE CARDS: each row of YtifbhefbhlbofaaGreatDoorRows.lean that lists a variable, with what it lists TIED to the program's text (the seventh form; the later family's looks); each row that meets fmt, with fmt's text TOLD by the authors' own Lean function (tested against real Go, not proved from fmt's source: count such statements apart). THE CARD IS WHAT COUNTS. Prove the row's statement (the work); the ties are given (YtifbhefbhlbofaaGreatDoorTie.lean); close each card by the builder's one call (the guide's Derived/Test/ToyasCard.lean, 'card_holds'). Laid BY PROGRAM, IN A SANDBOX (cutbox-door.mjs). By AI agents, Wed Nov 11 2026. No macro, syntax, notation, axiom, sorry.
-/
import Derived.Test.YtifbhefbhlbofaaGreatDoorRows
import GoSem.ClaimSeven
namespace Go.Proofs.YtifbhefbhlbofaaGreatDoor
namespace Rows

/-- THE TIED CARD OF 'wlvlaw28.TaleBlocks'. -/
def taleBlocksCard : Claim7 := { stood := { row := taleBlocksRow, standIns := [], harness := (true, "845fc6ebade96bfc9ca60069d95f52ef9c138a4bf34b71306e0f26b8f8377070"), looks := false }, kinds := [], alts := [], laidByText := true, laidKinds := [.data, .data, .data, .data, .pinned], laidTests := true, laidLooks := .later }
def TaleBlocksCardSaid : Prop := Claim7.holds Tryz.pinned (.plain (OpenSpec.ofChange taleBlocksSpec)) taleBlocksCard

/-- THE TIED CARD OF 'wlvlaw23.ConnPieces'. -/
def connPiecesCard : Claim7 := { stood := { row := connPiecesRow, standIns := [], harness := (true, "845fc6ebade96bfc9ca60069d95f52ef9c138a4bf34b71306e0f26b8f8377070"), looks := false }, kinds := [], alts := [], laidByText := true, laidKinds := [.data, .pinned], laidTests := true, laidLooks := .later }
def ConnPiecesCardSaid : Prop := Claim7.holds Tryz.pinned (.plain (OpenSpec.ofChange connPiecesSpec)) connPiecesCard

/-- THE TIED CARD OF 'wlvlaw23.ConnFlood'. -/
def connFloodCard : Claim7 := { stood := { row := connFloodRow, standIns := [], harness := (true, "845fc6ebade96bfc9ca60069d95f52ef9c138a4bf34b71306e0f26b8f8377070"), looks := false }, kinds := [], alts := [], laidByText := true, laidKinds := [.data, .pinned], laidTests := true, laidLooks := .later }
def ConnFloodCardSaid : Prop := Claim7.holds Tryz.pinned (.plain (OpenSpec.ofChange connFloodSpec)) connFloodCard

/-- THE TIED CARD OF 'wlvlaw23.ConnBlocks'. -/
def connBlocksCard : Claim7 := { stood := { row := connBlocksRow, standIns := [], harness := (true, "845fc6ebade96bfc9ca60069d95f52ef9c138a4bf34b71306e0f26b8f8377070"), looks := false }, kinds := [], alts := [], laidByText := true, laidKinds := [.data, .pinned], laidTests := true, laidLooks := .later }
def ConnBlocksCardSaid : Prop := Claim7.holds Tryz.pinned (.plain (OpenSpec.ofChange connBlocksSpec)) connBlocksCard

/-- THE TIED CARD OF 'wlvlaw23.ConnCalm'. -/
def connCalmCard : Claim7 := { stood := { row := connCalmRow, standIns := [], harness := (true, "845fc6ebade96bfc9ca60069d95f52ef9c138a4bf34b71306e0f26b8f8377070"), looks := false }, kinds := [], alts := [], laidByText := true, laidKinds := [.data, .pinned], laidTests := true, laidLooks := .later }
def ConnCalmCardSaid : Prop := Claim7.holds Tryz.pinned (.plain (OpenSpec.ofChange connCalmSpec)) connCalmCard

/-- THE TIED CARD OF 'wlvlaw23.ConnWindows'. -/
def connWindowsCard : Claim7 := { stood := { row := connWindowsRow, standIns := [], harness := (true, "845fc6ebade96bfc9ca60069d95f52ef9c138a4bf34b71306e0f26b8f8377070"), looks := false }, kinds := [], alts := [], laidByText := true, laidKinds := [.data, .pinned], laidTests := true, laidLooks := .later }
def ConnWindowsCardSaid : Prop := Claim7.holds Tryz.pinned (.plain (OpenSpec.ofChange connWindowsSpec)) connWindowsCard

/-- THE TIED CARD OF 'wlvlaw23.ConnFrames'. -/
def connFramesCard : Claim7 := { stood := { row := connFramesRow, standIns := [], harness := (true, "845fc6ebade96bfc9ca60069d95f52ef9c138a4bf34b71306e0f26b8f8377070"), looks := false }, kinds := [], alts := [], laidByText := true, laidKinds := [.data, .pinned], laidTests := true, laidLooks := .later }
def ConnFramesCardSaid : Prop := Claim7.holds Tryz.pinned (.plain (OpenSpec.ofChange connFramesSpec)) connFramesCard

/-- THE TIED CARD OF 'wlvlaw27.WatchConn'. -/
def watchConnCard : Claim7 := { stood := { row := watchConnRow, standIns := [], harness := (true, "845fc6ebade96bfc9ca60069d95f52ef9c138a4bf34b71306e0f26b8f8377070"), looks := false }, kinds := [], alts := [], laidByText := true, laidKinds := [.data, .pinned], laidTests := true, laidLooks := .later }
def WatchConnCardSaid : Prop := Claim7.holds Tryz.pinned (.plain (OpenSpec.ofChange watchConnSpec)) watchConnCard

/-- THE SECOND FORM's CARD OF 'wlvlaw28.TaleBlocks'. -/
def taleBlocksUptoCard : Claim7 := { stood := { row := taleBlocksUptoRow, standIns := [], harness := (true, "845fc6ebade96bfc9ca60069d95f52ef9c138a4bf34b71306e0f26b8f8377070"), looks := false }, kinds := [], alts := [], laidByText := true, laidKinds := [.data, .data, .data, .data, .pinned], laidTests := true, laidLooks := .later }
def TaleBlocksUptoCardSaid : Prop := Claim7.holds Tryz.pinned (.plain (OpenSpec.upto taleBlocksSpec)) taleBlocksUptoCard

/-- THE SECOND FORM's CARD OF 'wlvlaw23.ConnPieces'. -/
def connPiecesUptoCard : Claim7 := { stood := { row := connPiecesUptoRow, standIns := [], harness := (true, "845fc6ebade96bfc9ca60069d95f52ef9c138a4bf34b71306e0f26b8f8377070"), looks := false }, kinds := [], alts := [], laidByText := true, laidKinds := [.data, .pinned], laidTests := true, laidLooks := .later }
def ConnPiecesUptoCardSaid : Prop := Claim7.holds Tryz.pinned (.plain (OpenSpec.upto connPiecesSpec)) connPiecesUptoCard

/-- THE SECOND FORM's CARD OF 'wlvlaw23.ConnFlood'. -/
def connFloodUptoCard : Claim7 := { stood := { row := connFloodUptoRow, standIns := [], harness := (true, "845fc6ebade96bfc9ca60069d95f52ef9c138a4bf34b71306e0f26b8f8377070"), looks := false }, kinds := [], alts := [], laidByText := true, laidKinds := [.data, .pinned], laidTests := true, laidLooks := .later }
def ConnFloodUptoCardSaid : Prop := Claim7.holds Tryz.pinned (.plain (OpenSpec.upto connFloodSpec)) connFloodUptoCard

/-- THE SECOND FORM's CARD OF 'wlvlaw23.ConnBlocks'. -/
def connBlocksUptoCard : Claim7 := { stood := { row := connBlocksUptoRow, standIns := [], harness := (true, "845fc6ebade96bfc9ca60069d95f52ef9c138a4bf34b71306e0f26b8f8377070"), looks := false }, kinds := [], alts := [], laidByText := true, laidKinds := [.data, .pinned], laidTests := true, laidLooks := .later }
def ConnBlocksUptoCardSaid : Prop := Claim7.holds Tryz.pinned (.plain (OpenSpec.upto connBlocksSpec)) connBlocksUptoCard

/-- THE SECOND FORM's CARD OF 'wlvlaw23.ConnCalm'. -/
def connCalmUptoCard : Claim7 := { stood := { row := connCalmUptoRow, standIns := [], harness := (true, "845fc6ebade96bfc9ca60069d95f52ef9c138a4bf34b71306e0f26b8f8377070"), looks := false }, kinds := [], alts := [], laidByText := true, laidKinds := [.data, .pinned], laidTests := true, laidLooks := .later }
def ConnCalmUptoCardSaid : Prop := Claim7.holds Tryz.pinned (.plain (OpenSpec.upto connCalmSpec)) connCalmUptoCard

/-- THE SECOND FORM's CARD OF 'wlvlaw23.ConnWindows'. -/
def connWindowsUptoCard : Claim7 := { stood := { row := connWindowsUptoRow, standIns := [], harness := (true, "845fc6ebade96bfc9ca60069d95f52ef9c138a4bf34b71306e0f26b8f8377070"), looks := false }, kinds := [], alts := [], laidByText := true, laidKinds := [.data, .pinned], laidTests := true, laidLooks := .later }
def ConnWindowsUptoCardSaid : Prop := Claim7.holds Tryz.pinned (.plain (OpenSpec.upto connWindowsSpec)) connWindowsUptoCard

/-- THE SECOND FORM's CARD OF 'wlvlaw23.ConnFrames'. -/
def connFramesUptoCard : Claim7 := { stood := { row := connFramesUptoRow, standIns := [], harness := (true, "845fc6ebade96bfc9ca60069d95f52ef9c138a4bf34b71306e0f26b8f8377070"), looks := false }, kinds := [], alts := [], laidByText := true, laidKinds := [.data, .pinned], laidTests := true, laidLooks := .later }
def ConnFramesUptoCardSaid : Prop := Claim7.holds Tryz.pinned (.plain (OpenSpec.upto connFramesSpec)) connFramesUptoCard

/-- THE SECOND FORM's CARD OF 'wlvlaw27.WatchConn'. -/
def watchConnUptoCard : Claim7 := { stood := { row := watchConnUptoRow, standIns := [], harness := (true, "845fc6ebade96bfc9ca60069d95f52ef9c138a4bf34b71306e0f26b8f8377070"), looks := false }, kinds := [], alts := [], laidByText := true, laidKinds := [.data, .pinned], laidTests := true, laidLooks := .later }
def WatchConnUptoCardSaid : Prop := Claim7.holds Tryz.pinned (.plain (OpenSpec.upto watchConnSpec)) watchConnUptoCard
end Rows
end Go.Proofs.YtifbhefbhlbofaaGreatDoor
