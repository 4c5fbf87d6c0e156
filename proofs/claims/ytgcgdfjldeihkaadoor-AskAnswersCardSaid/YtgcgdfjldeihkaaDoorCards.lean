/-
  DERIVED. GIVEN WITH THE SEED: THE CARDS: each row of YtgcgdfjldeihkaaDoorRows.lean that lists a variable, with what it lists TIED to the program's text (the seventh form; the later family's looks); each row that meets fmt, with fmt's text TOLD by the authors' own Lean function (tested against real Go, not proved from fmt's source: count such statements apart). THE CARD IS WHAT COUNTS. Prove the row's statement (the work); the ties are given (YtgcgdfjldeihkaaDoorTie.lean); close each card by the builder's one call (the guide's Derived/Test/ToyasCard.lean, 'card_holds'). Laid BY PROGRAM, IN A SANDBOX (cutbox-door.mjs). By AI agents, Wed Nov 11 2026. No macro, syntax, notation, axiom, sorry.
-/
import Derived.Test.YtgcgdfjldeihkaaDoorRows
import GoSem.ClaimSeven
namespace Go.Proofs.YtgcgdfjldeihkaaDoor
namespace Rows

/-- THE TIED CARD OF 'wlvlaw2.B64Tells'. -/
def b64TellsCard : Claim7 := { stood := { row := b64TellsRow, standIns := [], harness := (true, "3056d7ac7652d76f74e53c06266f8e7db42f82495c49121bb5769f76e1df61ac"), looks := false }, kinds := [], alts := [], laidByText := true, laidKinds := [.data, .pinned], laidTests := true, laidLooks := .later }
def B64TellsCardSaid : Prop := Claim7.holds Tryd.pinned (.plain (OpenSpec.ofChange b64TellsSpec)) b64TellsCard

/-- THE TIED CARD OF 'wlvlaw2.B64Back'. -/
def b64BackCard : Claim7 := { stood := { row := b64BackRow, standIns := [], harness := (true, "3056d7ac7652d76f74e53c06266f8e7db42f82495c49121bb5769f76e1df61ac"), looks := false }, kinds := [], alts := [], laidByText := true, laidKinds := [.data, .pinned], laidTests := true, laidLooks := .later }
def B64BackCardSaid : Prop := Claim7.holds Tryd.pinned (.plain (OpenSpec.ofChange b64BackSpec)) b64BackCard

/-- THE TIED CARD OF 'wlvlaw2.B64Joins'. -/
def b64JoinsCard : Claim7 := { stood := { row := b64JoinsRow, standIns := [], harness := (true, "3056d7ac7652d76f74e53c06266f8e7db42f82495c49121bb5769f76e1df61ac"), looks := false }, kinds := [], alts := [], laidByText := true, laidKinds := [.data, .pinned], laidTests := true, laidLooks := .later }
def B64JoinsCardSaid : Prop := Claim7.holds Tryd.pinned (.plain (OpenSpec.ofChange b64JoinsSpec)) b64JoinsCard

/-- THE TIED CARD OF 'wlvlaw2.B64Signs'. -/
def b64SignsCard : Claim7 := { stood := { row := b64SignsRow, standIns := [], harness := (true, "3056d7ac7652d76f74e53c06266f8e7db42f82495c49121bb5769f76e1df61ac"), looks := false }, kinds := [], alts := [], laidByText := true, laidKinds := [.data, .pinned], laidTests := true, laidLooks := .later }
def B64SignsCardSaid : Prop := Claim7.holds Tryd.pinned (.plain (OpenSpec.ofChange b64SignsSpec)) b64SignsCard

/-- THE TIED CARD OF 'wlvlaw24.AskPseudo'. -/
def askPseudoCard : Claim7 := { stood := { row := askPseudoRow, standIns := [], harness := (true, "3056d7ac7652d76f74e53c06266f8e7db42f82495c49121bb5769f76e1df61ac"), looks := false }, kinds := [], alts := [], laidByText := true, laidKinds := [.data, .pinned], laidTests := true, laidLooks := .later }
def AskPseudoCardSaid : Prop := Claim7.holds Tryd.pinned (.plain (OpenSpec.ofChange askPseudoSpec)) askPseudoCard

/-- THE TIED CARD OF 'wlvlaw24.AskNames'. -/
def askNamesCard : Claim7 := { stood := { row := askNamesRow, standIns := [], harness := (true, "3056d7ac7652d76f74e53c06266f8e7db42f82495c49121bb5769f76e1df61ac"), looks := false }, kinds := [], alts := [], laidByText := true, laidKinds := [.data, .pinned], laidTests := true, laidLooks := .later }
def AskNamesCardSaid : Prop := Claim7.holds Tryd.pinned (.plain (OpenSpec.ofChange askNamesSpec)) askNamesCard

/-- THE TIED CARD OF 'wlvlaw24.AskOnce'. -/
def askOnceCard : Claim7 := { stood := { row := askOnceRow, standIns := [], harness := (true, "3056d7ac7652d76f74e53c06266f8e7db42f82495c49121bb5769f76e1df61ac"), looks := false }, kinds := [], alts := [], laidByText := true, laidKinds := [.data, .data, .data, .data, .pinned], laidTests := true, laidLooks := .later }
def AskOnceCardSaid : Prop := Claim7.holds Tryd.pinned (.plain (OpenSpec.ofChange askOnceSpec)) askOnceCard

/-- THE TIED CARD OF 'wlvlaw24.AskAnswers'. -/
def askAnswersCard : Claim7 := { stood := { row := askAnswersRow, standIns := [], harness := (true, "3056d7ac7652d76f74e53c06266f8e7db42f82495c49121bb5769f76e1df61ac"), looks := false }, kinds := [], alts := [], laidByText := true, laidKinds := [.data, .data, .data, .data, .pinned], laidTests := true, laidLooks := .later }
def AskAnswersCardSaid : Prop := Claim7.holds Tryd.pinned (.plain (OpenSpec.ofChange askAnswersSpec)) askAnswersCard

/-- THE SECOND FORM's CARD OF 'wlvlaw2.B64Tells'. -/
def b64TellsUptoCard : Claim7 := { stood := { row := b64TellsUptoRow, standIns := [], harness := (true, "3056d7ac7652d76f74e53c06266f8e7db42f82495c49121bb5769f76e1df61ac"), looks := false }, kinds := [], alts := [], laidByText := true, laidKinds := [.data, .pinned], laidTests := true, laidLooks := .later }
def B64TellsUptoCardSaid : Prop := Claim7.holds Tryd.pinned (.plain (OpenSpec.upto b64TellsSpec)) b64TellsUptoCard

/-- THE SECOND FORM's CARD OF 'wlvlaw2.B64Back'. -/
def b64BackUptoCard : Claim7 := { stood := { row := b64BackUptoRow, standIns := [], harness := (true, "3056d7ac7652d76f74e53c06266f8e7db42f82495c49121bb5769f76e1df61ac"), looks := false }, kinds := [], alts := [], laidByText := true, laidKinds := [.data, .pinned], laidTests := true, laidLooks := .later }
def B64BackUptoCardSaid : Prop := Claim7.holds Tryd.pinned (.plain (OpenSpec.upto b64BackSpec)) b64BackUptoCard

/-- THE SECOND FORM's CARD OF 'wlvlaw2.B64Joins'. -/
def b64JoinsUptoCard : Claim7 := { stood := { row := b64JoinsUptoRow, standIns := [], harness := (true, "3056d7ac7652d76f74e53c06266f8e7db42f82495c49121bb5769f76e1df61ac"), looks := false }, kinds := [], alts := [], laidByText := true, laidKinds := [.data, .pinned], laidTests := true, laidLooks := .later }
def B64JoinsUptoCardSaid : Prop := Claim7.holds Tryd.pinned (.plain (OpenSpec.upto b64JoinsSpec)) b64JoinsUptoCard

/-- THE SECOND FORM's CARD OF 'wlvlaw2.B64Signs'. -/
def b64SignsUptoCard : Claim7 := { stood := { row := b64SignsUptoRow, standIns := [], harness := (true, "3056d7ac7652d76f74e53c06266f8e7db42f82495c49121bb5769f76e1df61ac"), looks := false }, kinds := [], alts := [], laidByText := true, laidKinds := [.data, .pinned], laidTests := true, laidLooks := .later }
def B64SignsUptoCardSaid : Prop := Claim7.holds Tryd.pinned (.plain (OpenSpec.upto b64SignsSpec)) b64SignsUptoCard

/-- THE SECOND FORM's CARD OF 'wlvlaw24.AskPseudo'. -/
def askPseudoUptoCard : Claim7 := { stood := { row := askPseudoUptoRow, standIns := [], harness := (true, "3056d7ac7652d76f74e53c06266f8e7db42f82495c49121bb5769f76e1df61ac"), looks := false }, kinds := [], alts := [], laidByText := true, laidKinds := [.data, .pinned], laidTests := true, laidLooks := .later }
def AskPseudoUptoCardSaid : Prop := Claim7.holds Tryd.pinned (.plain (OpenSpec.upto askPseudoSpec)) askPseudoUptoCard

/-- THE SECOND FORM's CARD OF 'wlvlaw24.AskNames'. -/
def askNamesUptoCard : Claim7 := { stood := { row := askNamesUptoRow, standIns := [], harness := (true, "3056d7ac7652d76f74e53c06266f8e7db42f82495c49121bb5769f76e1df61ac"), looks := false }, kinds := [], alts := [], laidByText := true, laidKinds := [.data, .pinned], laidTests := true, laidLooks := .later }
def AskNamesUptoCardSaid : Prop := Claim7.holds Tryd.pinned (.plain (OpenSpec.upto askNamesSpec)) askNamesUptoCard

/-- THE SECOND FORM's CARD OF 'wlvlaw24.AskOnce'. -/
def askOnceUptoCard : Claim7 := { stood := { row := askOnceUptoRow, standIns := [], harness := (true, "3056d7ac7652d76f74e53c06266f8e7db42f82495c49121bb5769f76e1df61ac"), looks := false }, kinds := [], alts := [], laidByText := true, laidKinds := [.data, .data, .data, .data, .pinned], laidTests := true, laidLooks := .later }
def AskOnceUptoCardSaid : Prop := Claim7.holds Tryd.pinned (.plain (OpenSpec.upto askOnceSpec)) askOnceUptoCard

/-- THE SECOND FORM's CARD OF 'wlvlaw24.AskAnswers'. -/
def askAnswersUptoCard : Claim7 := { stood := { row := askAnswersUptoRow, standIns := [], harness := (true, "3056d7ac7652d76f74e53c06266f8e7db42f82495c49121bb5769f76e1df61ac"), looks := false }, kinds := [], alts := [], laidByText := true, laidKinds := [.data, .data, .data, .data, .pinned], laidTests := true, laidLooks := .later }
def AskAnswersUptoCardSaid : Prop := Claim7.holds Tryd.pinned (.plain (OpenSpec.upto askAnswersSpec)) askAnswersUptoCard
end Rows
end Go.Proofs.YtgcgdfjldeihkaaDoor
