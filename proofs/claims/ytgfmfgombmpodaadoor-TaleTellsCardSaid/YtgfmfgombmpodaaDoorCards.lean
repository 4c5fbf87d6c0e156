/-
  DERIVED. GIVEN WITH THE SEED: THE CARDS: each row of YtgfmfgombmpodaaDoorRows.lean that lists a variable, with what it lists TIED to the program's text (the seventh form; the later family's looks); each row that meets fmt, with fmt's text TOLD by the authors' own Lean function (tested against real Go, not proved from fmt's source: count such statements apart). THE CARD IS WHAT COUNTS. Prove the row's statement (the work); the ties are given (YtgfmfgombmpodaaDoorTie.lean); close each card by the builder's one call (the guide's Derived/Test/ToyasCard.lean, 'card_holds'). Laid BY PROGRAM, IN A SANDBOX (cutbox-door.mjs). By AI agents, Wed Nov 11 2026. No macro, syntax, notation, axiom, sorry.
-/
import Derived.Test.YtgfmfgombmpodaaDoorRows
import GoSem.ClaimSeven
namespace Go.Proofs.YtgfmfgombmpodaaDoor
namespace Rows

/-- THE TIED CARD OF 'wlvlaw28.TaleEvents'. -/
def taleEventsCard : Claim7 := { stood := { row := taleEventsRow, standIns := [], harness := (true, "bc67149fa61c2baab0ec3abdc4a93669aa20398a93aa2cc1dfe04e61abdbbbcc"), looks := false }, kinds := [], alts := [], laidByText := true, laidKinds := [.data, .data, .data], laidTests := true, laidLooks := .later }
def TaleEventsCardSaid : Prop := Claim7.holds Tryd.pinned (.plain (OpenSpec.ofChange taleEventsSpec)) taleEventsCard

/-- THE TIED CARD OF 'wlvlaw28.TaleParts'. -/
def talePartsCard : Claim7 := { stood := { row := talePartsRow, standIns := [], harness := (true, "bc67149fa61c2baab0ec3abdc4a93669aa20398a93aa2cc1dfe04e61abdbbbcc"), looks := false }, kinds := [], alts := [], laidByText := true, laidKinds := [.data, .data, .data], laidTests := true, laidLooks := .later }
def TalePartsCardSaid : Prop := Claim7.holds Tryd.pinned (.plain (OpenSpec.ofChange talePartsSpec)) talePartsCard

/-- THE TIED CARD OF 'wlvlaw28.TaleTells'. -/
def taleTellsCard : Claim7 := { stood := { row := taleTellsRow, standIns := [], harness := (true, "bc67149fa61c2baab0ec3abdc4a93669aa20398a93aa2cc1dfe04e61abdbbbcc"), looks := false }, kinds := [], alts := [], laidByText := true, laidKinds := [.data, .data, .data], laidTests := true, laidLooks := .later }
def TaleTellsCardSaid : Prop := Claim7.holds Tryd.pinned (.plain (OpenSpec.ofChange taleTellsSpec)) taleTellsCard

/-- THE SECOND FORM's CARD OF 'wlvlaw28.TaleEvents'. -/
def taleEventsUptoCard : Claim7 := { stood := { row := taleEventsUptoRow, standIns := [], harness := (true, "bc67149fa61c2baab0ec3abdc4a93669aa20398a93aa2cc1dfe04e61abdbbbcc"), looks := false }, kinds := [], alts := [], laidByText := true, laidKinds := [.data, .data, .data], laidTests := true, laidLooks := .later }
def TaleEventsUptoCardSaid : Prop := Claim7.holds Tryd.pinned (.plain (OpenSpec.upto taleEventsSpec)) taleEventsUptoCard

/-- THE SECOND FORM's CARD OF 'wlvlaw28.TaleParts'. -/
def talePartsUptoCard : Claim7 := { stood := { row := talePartsUptoRow, standIns := [], harness := (true, "bc67149fa61c2baab0ec3abdc4a93669aa20398a93aa2cc1dfe04e61abdbbbcc"), looks := false }, kinds := [], alts := [], laidByText := true, laidKinds := [.data, .data, .data], laidTests := true, laidLooks := .later }
def TalePartsUptoCardSaid : Prop := Claim7.holds Tryd.pinned (.plain (OpenSpec.upto talePartsSpec)) talePartsUptoCard

/-- THE SECOND FORM's CARD OF 'wlvlaw28.TaleTells'. -/
def taleTellsUptoCard : Claim7 := { stood := { row := taleTellsUptoRow, standIns := [], harness := (true, "bc67149fa61c2baab0ec3abdc4a93669aa20398a93aa2cc1dfe04e61abdbbbcc"), looks := false }, kinds := [], alts := [], laidByText := true, laidKinds := [.data, .data, .data], laidTests := true, laidLooks := .later }
def TaleTellsUptoCardSaid : Prop := Claim7.holds Tryd.pinned (.plain (OpenSpec.upto taleTellsSpec)) taleTellsUptoCard
end Rows
end Go.Proofs.YtgfmfgombmpodaaDoor
