/-
  DERIVED. GIVEN WITH THE SEED: THE CARDS: each row of YtblngdnndkljoaaDoorRows.lean that lists a variable, with what it lists TIED to the program's text (the seventh form; the later family's looks); each row that meets fmt, with fmt's text TOLD by the authors' own Lean function (tested against real Go, not proved from fmt's source: count such statements apart). THE CARD IS WHAT COUNTS. Prove the row's statement (the work); the ties are given (YtblngdnndkljoaaDoorTie.lean); close each card by the builder's one call (the guide's Derived/Test/ToyasCard.lean, 'card_holds'). Laid BY PROGRAM, IN A SANDBOX (cutbox-door.mjs). By AI agents, Wed Nov 11 2026. No macro, syntax, notation, axiom, sorry.
-/
import Derived.Test.YtblngdnndkljoaaDoorRows
import GoSem.ClaimSeven
namespace Go.Proofs.YtblngdnndkljoaaDoor
namespace Rows

/-- THE TIED CARD OF 'wlvlaw17.CredOnce'. -/
def credOnceCard : Claim7 := { stood := { row := credOnceRow, standIns := [], harness := (true, "3e3cb9ba141830474c8a55ad7be268ac86ab8ab7e9ce3fc69b55cae726cea4df"), looks := true }, kinds := [], alts := [], laidByText := true, laidKinds := [.data, .data, .data, .pinned, .pinned], laidTests := true, laidLooks := .later }
def CredOnceCardSaid : Prop := Claim7.holds Tryd.pinned (.plain (OpenSpec.ofChange credOnceSpec)) credOnceCard

/-- THE TIED CARD OF 'wlvlaw17.CredReads'. -/
def credReadsCard : Claim7 := { stood := { row := credReadsRow, standIns := [], harness := (true, "3e3cb9ba141830474c8a55ad7be268ac86ab8ab7e9ce3fc69b55cae726cea4df"), looks := true }, kinds := [], alts := [], laidByText := true, laidKinds := [.data, .data, .data, .pinned, .pinned], laidTests := true, laidLooks := .later }
def CredReadsCardSaid : Prop := Claim7.holds Tryd.pinned (.plain (OpenSpec.ofChange credReadsSpec)) credReadsCard

/-- THE TIED CARD OF 'wlvlaw17.CredBack'. -/
def credBackCard : Claim7 := { stood := { row := credBackRow, standIns := [], harness := (true, "3e3cb9ba141830474c8a55ad7be268ac86ab8ab7e9ce3fc69b55cae726cea4df"), looks := true }, kinds := [], alts := [], laidByText := true, laidKinds := [.data, .data, .data, .pinned, .pinned], laidTests := true, laidLooks := .later }
def CredBackCardSaid : Prop := Claim7.holds Tryd.pinned (.plain (OpenSpec.ofChange credBackSpec)) credBackCard

/-- THE TIED CARD OF 'wlvlaw15.AddrShort'. -/
def addrShortCard : Claim7 := { stood := { row := addrShortRow, standIns := [], harness := (true, "3e3cb9ba141830474c8a55ad7be268ac86ab8ab7e9ce3fc69b55cae726cea4df"), looks := true }, kinds := [], alts := [], laidByText := true, laidKinds := [.data, .data, .data, .data, .sentinel, .sentinel, .pinned], laidTests := true, laidLooks := .later }
def AddrShortCardSaid : Prop := Claim7.holds Tryd.pinned (.plain (OpenSpec.ofChange addrShortSpec)) addrShortCard

/-- THE TIED CARD OF 'wlvlaw15.AddrNets'. -/
def addrNetsCard : Claim7 := { stood := { row := addrNetsRow, standIns := [], harness := (true, "3e3cb9ba141830474c8a55ad7be268ac86ab8ab7e9ce3fc69b55cae726cea4df"), looks := true }, kinds := [], alts := [], laidByText := true, laidKinds := [.data, .data, .data, .data, .sentinel, .sentinel, .pinned], laidTests := true, laidLooks := .later }
def AddrNetsCardSaid : Prop := Claim7.holds Tryd.pinned (.plain (OpenSpec.ofChange addrNetsSpec)) addrNetsCard

/-- THE TIED CARD OF 'wlvlaw16.HostReads'. -/
def hostReadsCard : Claim7 := { stood := { row := hostReadsRow, standIns := [], harness := (true, "3e3cb9ba141830474c8a55ad7be268ac86ab8ab7e9ce3fc69b55cae726cea4df"), looks := true }, kinds := [], alts := [], laidByText := true, laidKinds := [.data, .data, .data, .data, .sentinel, .sentinel, .pinned], laidTests := true, laidLooks := .later }
def HostReadsCardSaid : Prop := Claim7.holds Tryd.pinned (.plain (OpenSpec.ofChange hostReadsSpec)) hostReadsCard

/-- THE TIED CARD OF 'wlvlaw16.HostPorts'. -/
def hostPortsCard : Claim7 := { stood := { row := hostPortsRow, standIns := [], harness := (true, "3e3cb9ba141830474c8a55ad7be268ac86ab8ab7e9ce3fc69b55cae726cea4df"), looks := true }, kinds := [], alts := [], laidByText := true, laidKinds := [.data, .data, .data, .data, .sentinel, .sentinel, .pinned], laidTests := true, laidLooks := .later }
def HostPortsCardSaid : Prop := Claim7.holds Tryd.pinned (.plain (OpenSpec.ofChange hostPortsSpec)) hostPortsCard

/-- THE TIED CARD OF 'wlvlaw16.HostNames'. -/
def hostNamesCard : Claim7 := { stood := { row := hostNamesRow, standIns := [], harness := (true, "3e3cb9ba141830474c8a55ad7be268ac86ab8ab7e9ce3fc69b55cae726cea4df"), looks := true }, kinds := [], alts := [], laidByText := true, laidKinds := [.data, .data, .data, .data, .sentinel, .sentinel, .pinned], laidTests := true, laidLooks := .later }
def HostNamesCardSaid : Prop := Claim7.holds Tryd.pinned (.plain (OpenSpec.ofChange hostNamesSpec)) hostNamesCard

/-- THE TIED CARD OF 'wlvlaw15.AddrIn'. -/
def addrInCard : Claim7 := { stood := { row := addrInRow, standIns := [], harness := (true, "3e3cb9ba141830474c8a55ad7be268ac86ab8ab7e9ce3fc69b55cae726cea4df"), looks := true }, kinds := [], alts := [], laidByText := true, laidKinds := [.data, .data, .data, .data, .sentinel, .sentinel, .pinned], laidTests := true, laidLooks := .later }
def AddrInCardSaid : Prop := Claim7.holds Tryd.pinned (.plain (OpenSpec.ofChange addrInSpec)) addrInCard

/-- THE TIED CARD OF 'wlvlaw15.AddrReads'. -/
def addrReadsCard : Claim7 := { stood := { row := addrReadsRow, standIns := [], harness := (true, "3e3cb9ba141830474c8a55ad7be268ac86ab8ab7e9ce3fc69b55cae726cea4df"), looks := true }, kinds := [], alts := [], laidByText := true, laidKinds := [.data, .data, .data, .data, .sentinel, .sentinel, .pinned], laidTests := true, laidLooks := .later }
def AddrReadsCardSaid : Prop := Claim7.holds Tryd.pinned (.plain (OpenSpec.ofChange addrReadsSpec)) addrReadsCard

/-- THE TIED CARD OF 'wlvlaw15.AddrBack'. -/
def addrBackCard : Claim7 := { stood := { row := addrBackRow, standIns := [], harness := (true, "3e3cb9ba141830474c8a55ad7be268ac86ab8ab7e9ce3fc69b55cae726cea4df"), looks := true }, kinds := [], alts := [], laidByText := true, laidKinds := [.data, .data, .data, .data, .sentinel, .sentinel, .pinned], laidTests := true, laidLooks := .later }
def AddrBackCardSaid : Prop := Claim7.holds Tryd.pinned (.plain (OpenSpec.ofChange addrBackSpec)) addrBackCard

/-- THE TIED CARD OF 'wlvlaw16.HostBack'. -/
def hostBackCard : Claim7 := { stood := { row := hostBackRow, standIns := [], harness := (true, "3e3cb9ba141830474c8a55ad7be268ac86ab8ab7e9ce3fc69b55cae726cea4df"), looks := true }, kinds := [], alts := [], laidByText := true, laidKinds := [.data, .data, .data, .data, .sentinel, .sentinel, .pinned], laidTests := true, laidLooks := .later }
def HostBackCardSaid : Prop := Claim7.holds Tryd.pinned (.plain (OpenSpec.ofChange hostBackSpec)) hostBackCard

/-- THE SECOND FORM's CARD OF 'wlvlaw17.CredOnce'. -/
def credOnceUptoCard : Claim7 := { stood := { row := credOnceUptoRow, standIns := [], harness := (true, "3e3cb9ba141830474c8a55ad7be268ac86ab8ab7e9ce3fc69b55cae726cea4df"), looks := true }, kinds := [], alts := [], laidByText := true, laidKinds := [.data, .data, .data, .pinned, .pinned], laidTests := true, laidLooks := .later }
def CredOnceUptoCardSaid : Prop := Claim7.holds Tryd.pinned (.plain (OpenSpec.upto credOnceSpec)) credOnceUptoCard

/-- THE SECOND FORM's CARD OF 'wlvlaw17.CredReads'. -/
def credReadsUptoCard : Claim7 := { stood := { row := credReadsUptoRow, standIns := [], harness := (true, "3e3cb9ba141830474c8a55ad7be268ac86ab8ab7e9ce3fc69b55cae726cea4df"), looks := true }, kinds := [], alts := [], laidByText := true, laidKinds := [.data, .data, .data, .pinned, .pinned], laidTests := true, laidLooks := .later }
def CredReadsUptoCardSaid : Prop := Claim7.holds Tryd.pinned (.plain (OpenSpec.upto credReadsSpec)) credReadsUptoCard

/-- THE SECOND FORM's CARD OF 'wlvlaw17.CredBack'. -/
def credBackUptoCard : Claim7 := { stood := { row := credBackUptoRow, standIns := [], harness := (true, "3e3cb9ba141830474c8a55ad7be268ac86ab8ab7e9ce3fc69b55cae726cea4df"), looks := true }, kinds := [], alts := [], laidByText := true, laidKinds := [.data, .data, .data, .pinned, .pinned], laidTests := true, laidLooks := .later }
def CredBackUptoCardSaid : Prop := Claim7.holds Tryd.pinned (.plain (OpenSpec.upto credBackSpec)) credBackUptoCard

/-- THE SECOND FORM's CARD OF 'wlvlaw15.AddrShort'. -/
def addrShortUptoCard : Claim7 := { stood := { row := addrShortUptoRow, standIns := [], harness := (true, "3e3cb9ba141830474c8a55ad7be268ac86ab8ab7e9ce3fc69b55cae726cea4df"), looks := true }, kinds := [], alts := [], laidByText := true, laidKinds := [.data, .data, .data, .data, .sentinel, .sentinel, .pinned], laidTests := true, laidLooks := .later }
def AddrShortUptoCardSaid : Prop := Claim7.holds Tryd.pinned (.plain (OpenSpec.upto addrShortSpec)) addrShortUptoCard

/-- THE SECOND FORM's CARD OF 'wlvlaw15.AddrNets'. -/
def addrNetsUptoCard : Claim7 := { stood := { row := addrNetsUptoRow, standIns := [], harness := (true, "3e3cb9ba141830474c8a55ad7be268ac86ab8ab7e9ce3fc69b55cae726cea4df"), looks := true }, kinds := [], alts := [], laidByText := true, laidKinds := [.data, .data, .data, .data, .sentinel, .sentinel, .pinned], laidTests := true, laidLooks := .later }
def AddrNetsUptoCardSaid : Prop := Claim7.holds Tryd.pinned (.plain (OpenSpec.upto addrNetsSpec)) addrNetsUptoCard

/-- THE SECOND FORM's CARD OF 'wlvlaw16.HostReads'. -/
def hostReadsUptoCard : Claim7 := { stood := { row := hostReadsUptoRow, standIns := [], harness := (true, "3e3cb9ba141830474c8a55ad7be268ac86ab8ab7e9ce3fc69b55cae726cea4df"), looks := true }, kinds := [], alts := [], laidByText := true, laidKinds := [.data, .data, .data, .data, .sentinel, .sentinel, .pinned], laidTests := true, laidLooks := .later }
def HostReadsUptoCardSaid : Prop := Claim7.holds Tryd.pinned (.plain (OpenSpec.upto hostReadsSpec)) hostReadsUptoCard

/-- THE SECOND FORM's CARD OF 'wlvlaw16.HostPorts'. -/
def hostPortsUptoCard : Claim7 := { stood := { row := hostPortsUptoRow, standIns := [], harness := (true, "3e3cb9ba141830474c8a55ad7be268ac86ab8ab7e9ce3fc69b55cae726cea4df"), looks := true }, kinds := [], alts := [], laidByText := true, laidKinds := [.data, .data, .data, .data, .sentinel, .sentinel, .pinned], laidTests := true, laidLooks := .later }
def HostPortsUptoCardSaid : Prop := Claim7.holds Tryd.pinned (.plain (OpenSpec.upto hostPortsSpec)) hostPortsUptoCard

/-- THE SECOND FORM's CARD OF 'wlvlaw16.HostNames'. -/
def hostNamesUptoCard : Claim7 := { stood := { row := hostNamesUptoRow, standIns := [], harness := (true, "3e3cb9ba141830474c8a55ad7be268ac86ab8ab7e9ce3fc69b55cae726cea4df"), looks := true }, kinds := [], alts := [], laidByText := true, laidKinds := [.data, .data, .data, .data, .sentinel, .sentinel, .pinned], laidTests := true, laidLooks := .later }
def HostNamesUptoCardSaid : Prop := Claim7.holds Tryd.pinned (.plain (OpenSpec.upto hostNamesSpec)) hostNamesUptoCard

/-- THE SECOND FORM's CARD OF 'wlvlaw15.AddrIn'. -/
def addrInUptoCard : Claim7 := { stood := { row := addrInUptoRow, standIns := [], harness := (true, "3e3cb9ba141830474c8a55ad7be268ac86ab8ab7e9ce3fc69b55cae726cea4df"), looks := true }, kinds := [], alts := [], laidByText := true, laidKinds := [.data, .data, .data, .data, .sentinel, .sentinel, .pinned], laidTests := true, laidLooks := .later }
def AddrInUptoCardSaid : Prop := Claim7.holds Tryd.pinned (.plain (OpenSpec.upto addrInSpec)) addrInUptoCard

/-- THE SECOND FORM's CARD OF 'wlvlaw15.AddrReads'. -/
def addrReadsUptoCard : Claim7 := { stood := { row := addrReadsUptoRow, standIns := [], harness := (true, "3e3cb9ba141830474c8a55ad7be268ac86ab8ab7e9ce3fc69b55cae726cea4df"), looks := true }, kinds := [], alts := [], laidByText := true, laidKinds := [.data, .data, .data, .data, .sentinel, .sentinel, .pinned], laidTests := true, laidLooks := .later }
def AddrReadsUptoCardSaid : Prop := Claim7.holds Tryd.pinned (.plain (OpenSpec.upto addrReadsSpec)) addrReadsUptoCard

/-- THE SECOND FORM's CARD OF 'wlvlaw15.AddrBack'. -/
def addrBackUptoCard : Claim7 := { stood := { row := addrBackUptoRow, standIns := [], harness := (true, "3e3cb9ba141830474c8a55ad7be268ac86ab8ab7e9ce3fc69b55cae726cea4df"), looks := true }, kinds := [], alts := [], laidByText := true, laidKinds := [.data, .data, .data, .data, .sentinel, .sentinel, .pinned], laidTests := true, laidLooks := .later }
def AddrBackUptoCardSaid : Prop := Claim7.holds Tryd.pinned (.plain (OpenSpec.upto addrBackSpec)) addrBackUptoCard

/-- THE SECOND FORM's CARD OF 'wlvlaw16.HostBack'. -/
def hostBackUptoCard : Claim7 := { stood := { row := hostBackUptoRow, standIns := [], harness := (true, "3e3cb9ba141830474c8a55ad7be268ac86ab8ab7e9ce3fc69b55cae726cea4df"), looks := true }, kinds := [], alts := [], laidByText := true, laidKinds := [.data, .data, .data, .data, .sentinel, .sentinel, .pinned], laidTests := true, laidLooks := .later }
def HostBackUptoCardSaid : Prop := Claim7.holds Tryd.pinned (.plain (OpenSpec.upto hostBackSpec)) hostBackUptoCard
end Rows
end Go.Proofs.YtblngdnndkljoaaDoor
