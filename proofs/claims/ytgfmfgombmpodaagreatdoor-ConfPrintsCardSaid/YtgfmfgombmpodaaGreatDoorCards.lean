/-
  DERIVED. GIVEN WITH THE SEED: THE CARDS: each row of YtgfmfgombmpodaaGreatDoorRows.lean that lists a variable, with what it lists TIED to the program's text (the seventh form; the later family's looks); each row that meets fmt, with fmt's text TOLD by the authors' own Lean function (tested against real Go, not proved from fmt's source: count such statements apart). THE CARD IS WHAT COUNTS. Prove the row's statement (the work); the ties are given (YtgfmfgombmpodaaGreatDoorTie.lean); close each card by the builder's one call (the guide's Derived/Test/ToyasCard.lean, 'card_holds'). Laid BY PROGRAM, IN A SANDBOX (cutbox-door.mjs). By AI agents, Wed Nov 11 2026. No macro, syntax, notation, axiom, sorry.
-/
import Derived.Test.YtgfmfgombmpodaaGreatDoorRows
import GoSem.ClaimSeven
namespace Go.Proofs.YtgfmfgombmpodaaGreatDoor
namespace Rows

/-- THE TIED CARD OF 'wlvlaw28.TaleBlocks'. -/
def taleBlocksCard : Claim7 := { stood := { row := taleBlocksRow, standIns := [], harness := (true, "15f5e5de99211cf3c1c65b68d48048068ec2406bdfc69dcd8477ac17568b197d"), looks := true }, kinds := [], alts := [], laidByText := true, laidKinds := [.data, .data, .data, .data, .pinned], laidTests := true, laidLooks := .later }
def TaleBlocksCardSaid : Prop := Claim7.holds Tryz.pinned (.plain (OpenSpec.ofChange taleBlocksSpec)) taleBlocksCard

/-- THE TIED CARD OF 'wlvlaw18.ConfReads'. -/
def confReadsCard : Claim7 := { stood := { row := confReadsRow, standIns := [], harness := (true, "15f5e5de99211cf3c1c65b68d48048068ec2406bdfc69dcd8477ac17568b197d"), looks := true }, kinds := [], alts := [], laidByText := true, laidKinds := [.data, .data, .data, .data, .sentinel, .sentinel, .pinned], laidTests := true, laidLooks := .later }
def ConfReadsCardSaid : Prop := Claim7.holds Tryz.pinned (.plain (OpenSpec.ofChange confReadsSpec)) confReadsCard

/-- THE TIED CARD OF 'wlvlaw18.ConfRules'. -/
def confRulesCard : Claim7 := { stood := { row := confRulesRow, standIns := [], harness := (true, "15f5e5de99211cf3c1c65b68d48048068ec2406bdfc69dcd8477ac17568b197d"), looks := true }, kinds := [], alts := [], laidByText := true, laidKinds := [.data, .data, .data, .data, .sentinel, .sentinel, .pinned], laidTests := true, laidLooks := .later }
def ConfRulesCardSaid : Prop := Claim7.holds Tryz.pinned (.plain (OpenSpec.ofChange confRulesSpec)) confRulesCard

/-- THE TIED CARD OF 'wlvlaw18.ConfFull'. -/
def confFullCard : Claim7 := { stood := { row := confFullRow, standIns := [], harness := (true, "15f5e5de99211cf3c1c65b68d48048068ec2406bdfc69dcd8477ac17568b197d"), looks := true }, kinds := [], alts := [], laidByText := true, laidKinds := [.data, .data, .data, .data, .sentinel, .sentinel, .pinned], laidTests := true, laidLooks := .later }
def ConfFullCardSaid : Prop := Claim7.holds Tryz.pinned (.plain (OpenSpec.ofChange confFullSpec)) confFullCard

/-- THE TIED CARD OF 'wlvlaw18.ConfLimits'. -/
def confLimitsCard : Claim7 := { stood := { row := confLimitsRow, standIns := [], harness := (true, "15f5e5de99211cf3c1c65b68d48048068ec2406bdfc69dcd8477ac17568b197d"), looks := true }, kinds := [], alts := [], laidByText := true, laidKinds := [.data, .data, .data, .data, .sentinel, .sentinel, .pinned], laidTests := true, laidLooks := .later }
def ConfLimitsCardSaid : Prop := Claim7.holds Tryz.pinned (.plain (OpenSpec.ofChange confLimitsSpec)) confLimitsCard

/-- THE TIED CARD OF 'wlvlaw19.AclOrder'. -/
def aclOrderCard : Claim7 := { stood := { row := aclOrderRow, standIns := [], harness := (true, "15f5e5de99211cf3c1c65b68d48048068ec2406bdfc69dcd8477ac17568b197d"), looks := true }, kinds := [], alts := [], laidByText := true, laidKinds := [.data, .data, .data, .data, .sentinel, .sentinel, .pinned], laidTests := true, laidLooks := .later }
def AclOrderCardSaid : Prop := Claim7.holds Tryz.pinned (.plain (OpenSpec.ofChange aclOrderSpec)) aclOrderCard

/-- THE TIED CARD OF 'wlvlaw18.ConfPrints'. -/
def confPrintsCard : Claim7 := { stood := { row := confPrintsRow, standIns := [], harness := (true, "15f5e5de99211cf3c1c65b68d48048068ec2406bdfc69dcd8477ac17568b197d"), looks := true }, kinds := [], alts := [], laidByText := true, laidKinds := [.data, .data, .data, .data, .sentinel, .sentinel, .pinned], laidTests := true, laidLooks := .later }
def ConfPrintsCardSaid : Prop := Claim7.holds Tryz.pinned (.plain (OpenSpec.ofChange confPrintsSpec)) confPrintsCard

/-- THE TIED CARD OF 'wlvlaw18.ConfBack'. -/
def confBackCard : Claim7 := { stood := { row := confBackRow, standIns := [], harness := (true, "15f5e5de99211cf3c1c65b68d48048068ec2406bdfc69dcd8477ac17568b197d"), looks := true }, kinds := [], alts := [], laidByText := true, laidKinds := [.data, .data, .data, .data, .sentinel, .sentinel, .pinned], laidTests := true, laidLooks := .later }
def ConfBackCardSaid : Prop := Claim7.holds Tryz.pinned (.plain (OpenSpec.ofChange confBackSpec)) confBackCard

/-- THE TIED CARD OF 'wlvlaw28.TaleLines'. -/
def taleLinesCard : Claim7 := { stood := { row := taleLinesRow, standIns := [], harness := (true, "15f5e5de99211cf3c1c65b68d48048068ec2406bdfc69dcd8477ac17568b197d"), looks := true }, kinds := [], alts := [], laidByText := true, laidKinds := [.data, .data, .data, .data, .sentinel, .sentinel, .pinned], laidTests := true, laidLooks := .later }
def TaleLinesCardSaid : Prop := Claim7.holds Tryz.pinned (.plain (OpenSpec.ofChange taleLinesSpec)) taleLinesCard

/-- THE SECOND FORM's CARD OF 'wlvlaw28.TaleBlocks'. -/
def taleBlocksUptoCard : Claim7 := { stood := { row := taleBlocksUptoRow, standIns := [], harness := (true, "15f5e5de99211cf3c1c65b68d48048068ec2406bdfc69dcd8477ac17568b197d"), looks := true }, kinds := [], alts := [], laidByText := true, laidKinds := [.data, .data, .data, .data, .pinned], laidTests := true, laidLooks := .later }
def TaleBlocksUptoCardSaid : Prop := Claim7.holds Tryz.pinned (.plain (OpenSpec.upto taleBlocksSpec)) taleBlocksUptoCard

/-- THE SECOND FORM's CARD OF 'wlvlaw18.ConfReads'. -/
def confReadsUptoCard : Claim7 := { stood := { row := confReadsUptoRow, standIns := [], harness := (true, "15f5e5de99211cf3c1c65b68d48048068ec2406bdfc69dcd8477ac17568b197d"), looks := true }, kinds := [], alts := [], laidByText := true, laidKinds := [.data, .data, .data, .data, .sentinel, .sentinel, .pinned], laidTests := true, laidLooks := .later }
def ConfReadsUptoCardSaid : Prop := Claim7.holds Tryz.pinned (.plain (OpenSpec.upto confReadsSpec)) confReadsUptoCard

/-- THE SECOND FORM's CARD OF 'wlvlaw18.ConfRules'. -/
def confRulesUptoCard : Claim7 := { stood := { row := confRulesUptoRow, standIns := [], harness := (true, "15f5e5de99211cf3c1c65b68d48048068ec2406bdfc69dcd8477ac17568b197d"), looks := true }, kinds := [], alts := [], laidByText := true, laidKinds := [.data, .data, .data, .data, .sentinel, .sentinel, .pinned], laidTests := true, laidLooks := .later }
def ConfRulesUptoCardSaid : Prop := Claim7.holds Tryz.pinned (.plain (OpenSpec.upto confRulesSpec)) confRulesUptoCard

/-- THE SECOND FORM's CARD OF 'wlvlaw18.ConfFull'. -/
def confFullUptoCard : Claim7 := { stood := { row := confFullUptoRow, standIns := [], harness := (true, "15f5e5de99211cf3c1c65b68d48048068ec2406bdfc69dcd8477ac17568b197d"), looks := true }, kinds := [], alts := [], laidByText := true, laidKinds := [.data, .data, .data, .data, .sentinel, .sentinel, .pinned], laidTests := true, laidLooks := .later }
def ConfFullUptoCardSaid : Prop := Claim7.holds Tryz.pinned (.plain (OpenSpec.upto confFullSpec)) confFullUptoCard

/-- THE SECOND FORM's CARD OF 'wlvlaw18.ConfLimits'. -/
def confLimitsUptoCard : Claim7 := { stood := { row := confLimitsUptoRow, standIns := [], harness := (true, "15f5e5de99211cf3c1c65b68d48048068ec2406bdfc69dcd8477ac17568b197d"), looks := true }, kinds := [], alts := [], laidByText := true, laidKinds := [.data, .data, .data, .data, .sentinel, .sentinel, .pinned], laidTests := true, laidLooks := .later }
def ConfLimitsUptoCardSaid : Prop := Claim7.holds Tryz.pinned (.plain (OpenSpec.upto confLimitsSpec)) confLimitsUptoCard

/-- THE SECOND FORM's CARD OF 'wlvlaw19.AclOrder'. -/
def aclOrderUptoCard : Claim7 := { stood := { row := aclOrderUptoRow, standIns := [], harness := (true, "15f5e5de99211cf3c1c65b68d48048068ec2406bdfc69dcd8477ac17568b197d"), looks := true }, kinds := [], alts := [], laidByText := true, laidKinds := [.data, .data, .data, .data, .sentinel, .sentinel, .pinned], laidTests := true, laidLooks := .later }
def AclOrderUptoCardSaid : Prop := Claim7.holds Tryz.pinned (.plain (OpenSpec.upto aclOrderSpec)) aclOrderUptoCard

/-- THE SECOND FORM's CARD OF 'wlvlaw18.ConfPrints'. -/
def confPrintsUptoCard : Claim7 := { stood := { row := confPrintsUptoRow, standIns := [], harness := (true, "15f5e5de99211cf3c1c65b68d48048068ec2406bdfc69dcd8477ac17568b197d"), looks := true }, kinds := [], alts := [], laidByText := true, laidKinds := [.data, .data, .data, .data, .sentinel, .sentinel, .pinned], laidTests := true, laidLooks := .later }
def ConfPrintsUptoCardSaid : Prop := Claim7.holds Tryz.pinned (.plain (OpenSpec.upto confPrintsSpec)) confPrintsUptoCard

/-- THE SECOND FORM's CARD OF 'wlvlaw18.ConfBack'. -/
def confBackUptoCard : Claim7 := { stood := { row := confBackUptoRow, standIns := [], harness := (true, "15f5e5de99211cf3c1c65b68d48048068ec2406bdfc69dcd8477ac17568b197d"), looks := true }, kinds := [], alts := [], laidByText := true, laidKinds := [.data, .data, .data, .data, .sentinel, .sentinel, .pinned], laidTests := true, laidLooks := .later }
def ConfBackUptoCardSaid : Prop := Claim7.holds Tryz.pinned (.plain (OpenSpec.upto confBackSpec)) confBackUptoCard

/-- THE SECOND FORM's CARD OF 'wlvlaw28.TaleLines'. -/
def taleLinesUptoCard : Claim7 := { stood := { row := taleLinesUptoRow, standIns := [], harness := (true, "15f5e5de99211cf3c1c65b68d48048068ec2406bdfc69dcd8477ac17568b197d"), looks := true }, kinds := [], alts := [], laidByText := true, laidKinds := [.data, .data, .data, .data, .sentinel, .sentinel, .pinned], laidTests := true, laidLooks := .later }
def TaleLinesUptoCardSaid : Prop := Claim7.holds Tryz.pinned (.plain (OpenSpec.upto taleLinesSpec)) taleLinesUptoCard
end Rows
end Go.Proofs.YtgfmfgombmpodaaGreatDoor
