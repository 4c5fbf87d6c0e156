/-
  NARROWER THAN 'FOR EVERY INPUT', by the rows' own cells (each row's printed sentence says how): TaleBlocks: laid · ConnPieces: laid · ConnFlood: laid · ConnBlocks: laid · ConnCalm: laid · ConnWindows: laid · ConnFrames: laid · WatchConn: laid.
  DERIVED. THE GIVEN ROWS OF THIS SEAT. 8 by the template 'for every input the law returns true; each argument reads behind the call as it read before'; 0 by the template 'total and deterministic' (their statements: YtifbhefbhlbofaaGreatDoorTotals.lean).
  GIVEN WITH THE SEED: the statements are not yours to turn. If you find one false, say at which input.
  Laid BY PROGRAM, IN A SANDBOX (cutbox-rows.mjs): the forced cells as the released guide's own fill.sh prints them over the translation 59caa0deab8b8bcf… (all of the seat's roots in one cut). By AI agents, Wed Nov 11 2026. No macro, syntax, notation, axiom, sorry.
-/
import Derived.Test.YtifbhefbhlbofaaGreatDoorChecked
import GoSem.PinnedTables
import GoSem.Claim
import GoSem.ClaimJoined
import GoSem.ClaimMapViews
import Derived.JoinedTies
import Derived.KernelRfl
namespace Go.Proofs.YtifbhefbhlbofaaGreatDoor
/- THE CELL 'sum', in the pinned program and in every row, IS THE sha256 OF THE DUMP (.gsa) THAT YtifbhefbhlbofaaGreatDoorProg.lean LOADS. Nothing in Lean hashes anything: it is a label: what it is worth is what the hold of that sum in a sandbox is worth. -/
noncomputable def Tryz.pinned : Pinned := { name := "ytifbhefbhlbofaagreatdoor", sum := "59caa0deab8b8bcfc4db20ed7362b9812cffbce74e0bd63c960349e1b1572ac4", checked := Tryz.checked }
namespace Rows
def none {H : Type} : Left H := { results := [], args := [] }

/- WHAT THE LISTED PACKAGE-LEVEL VARIABLES READ AS WHEN THE CALL BEGINS. Each datum BY PROGRAM (the guide's laid-datum.mjs) off the statement by which the dump's own 'gosem.cut.vars' lays the variable. In a bare row this is a premise. The card (YtifbhefbhlbofaaGreatDoorCards.lean) ties it to the program's text. -/
def laid_math_bits_deBruijn32tab {H : Type} : DataW H := .agg [.lit (.int .u8 0), .lit (.int .u8 1), .lit (.int .u8 28), .lit (.int .u8 2), .lit (.int .u8 29), .lit (.int .u8 14), .lit (.int .u8 24), .lit (.int .u8 3), .lit (.int .u8 30), .lit (.int .u8 22), .lit (.int .u8 20), .lit (.int .u8 15), .lit (.int .u8 25), .lit (.int .u8 17), .lit (.int .u8 4), .lit (.int .u8 8), .lit (.int .u8 31), .lit (.int .u8 27), .lit (.int .u8 13), .lit (.int .u8 23), .lit (.int .u8 21), .lit (.int .u8 19), .lit (.int .u8 16), .lit (.int .u8 7), .lit (.int .u8 26), .lit (.int .u8 12), .lit (.int .u8 18), .lit (.int .u8 6), .lit (.int .u8 11), .lit (.int .u8 5), .lit (.int .u8 10), .lit (.int .u8 9)]
def laid_math_bits_deBruijn64tab {H : Type} : DataW H := .agg [.lit (.int .u8 0), .lit (.int .u8 1), .lit (.int .u8 56), .lit (.int .u8 2), .lit (.int .u8 57), .lit (.int .u8 49), .lit (.int .u8 28), .lit (.int .u8 3), .lit (.int .u8 61), .lit (.int .u8 58), .lit (.int .u8 42), .lit (.int .u8 50), .lit (.int .u8 38), .lit (.int .u8 29), .lit (.int .u8 17), .lit (.int .u8 4), .lit (.int .u8 62), .lit (.int .u8 47), .lit (.int .u8 59), .lit (.int .u8 36), .lit (.int .u8 45), .lit (.int .u8 43), .lit (.int .u8 51), .lit (.int .u8 22), .lit (.int .u8 53), .lit (.int .u8 39), .lit (.int .u8 33), .lit (.int .u8 30), .lit (.int .u8 24), .lit (.int .u8 18), .lit (.int .u8 12), .lit (.int .u8 5), .lit (.int .u8 63), .lit (.int .u8 55), .lit (.int .u8 48), .lit (.int .u8 27), .lit (.int .u8 60), .lit (.int .u8 41), .lit (.int .u8 37), .lit (.int .u8 16), .lit (.int .u8 46), .lit (.int .u8 35), .lit (.int .u8 44), .lit (.int .u8 21), .lit (.int .u8 52), .lit (.int .u8 32), .lit (.int .u8 23), .lit (.int .u8 11), .lit (.int .u8 54), .lit (.int .u8 26), .lit (.int .u8 40), .lit (.int .u8 15), .lit (.int .u8 34), .lit (.int .u8 20), .lit (.int .u8 31), .lit (.int .u8 10), .lit (.int .u8 25), .lit (.int .u8 14), .lit (.int .u8 19), .lit (.int .u8 9), .lit (.int .u8 13), .lit (.int .u8 8), .lit (.int .u8 7), .lit (.int .u8 6)]
def laid_internal_strconv_uint64pow10 {H : Type} : DataW H := .agg [.lit (.int .u64 1), .lit (.int .u64 10), .lit (.int .u64 100), .lit (.int .u64 1000), .lit (.int .u64 10000), .lit (.int .u64 100000), .lit (.int .u64 1000000), .lit (.int .u64 10000000), .lit (.int .u64 100000000), .lit (.int .u64 1000000000), .lit (.int .u64 10000000000), .lit (.int .u64 100000000000), .lit (.int .u64 1000000000000), .lit (.int .u64 10000000000000), .lit (.int .u64 100000000000000), .lit (.int .u64 1000000000000000), .lit (.int .u64 10000000000000000), .lit (.int .u64 100000000000000000), .lit (.int .u64 1000000000000000000), .lit (.int .u64 10000000000000000000)]
def laid_unicode_utf8_acceptRanges {H : Type} : DataW H := .agg [.agg [.lit (.int .u8 128), .lit (.int .u8 191)], .agg [.lit (.int .u8 160), .lit (.int .u8 191)], .agg [.lit (.int .u8 128), .lit (.int .u8 159)], .agg [.lit (.int .u8 144), .lit (.int .u8 191)], .agg [.lit (.int .u8 128), .lit (.int .u8 143)], .agg [.lit (.int .u8 0), .lit (.int .u8 0)], .agg [.lit (.int .u8 0), .lit (.int .u8 0)], .agg [.lit (.int .u8 0), .lit (.int .u8 0)], .agg [.lit (.int .u8 0), .lit (.int .u8 0)], .agg [.lit (.int .u8 0), .lit (.int .u8 0)], .agg [.lit (.int .u8 0), .lit (.int .u8 0)], .agg [.lit (.int .u8 0), .lit (.int .u8 0)], .agg [.lit (.int .u8 0), .lit (.int .u8 0)], .agg [.lit (.int .u8 0), .lit (.int .u8 0)], .agg [.lit (.int .u8 0), .lit (.int .u8 0)], .agg [.lit (.int .u8 0), .lit (.int .u8 0)]]
/-- One of Go's own tables, pinned by name: the form's constant. -/
def laid_unicode_utf8_first : DataW Unit := Go.Pinned.utf8First

/-- 'wlvlaw28.TaleBlocks': WHATEVER THE INPUT: true; the input reads as it did. -/
def taleBlocksSpec : ChangeSpec := { name := "taleBlocks", fn := fun _ => fun
  | [d1, d2, d3, d4, d5] => { results := [.lit (.bool true)], args := [d1, d2, d3, d4, d5] }
  | _ => none }
def taleBlocksRow : OpenClaim := { program := "ytifbhefbhlbofaagreatdoor", sum := "59caa0deab8b8bcfc4db20ed7362b9812cffbce74e0bd63c960349e1b1572ac4", func := "wayleave/wlvlaw28.TaleBlocks", spec := "taleBlocks", inPlace := ["internal/abi.NoEscape", "internal/bytealg.CountString", "internal/bytealg.IndexByteString", "internal/bytealg.IndexString"], unfollowed := true, recurses := true, named := ["internal/strconv.uint64pow10", "math/bits.deBruijn32tab", "math/bits.deBruijn64tab", "unicode/utf8.first", "unicode/utf8.acceptRanges", "internal/bytealg.MaxLen"], apart := false, laid := [("math/bits.deBruijn32tab", laid_math_bits_deBruijn32tab), ("math/bits.deBruijn64tab", laid_math_bits_deBruijn64tab), ("internal/strconv.uint64pow10", laid_internal_strconv_uint64pow10), ("unicode/utf8.acceptRanges", laid_unicode_utf8_acceptRanges), ("unicode/utf8.first", laid_unicode_utf8_first)] }
def TaleBlocksSaid : Prop := taleBlocksRow.holds Tryz.pinned (OpenSpec.ofChange taleBlocksSpec)

/-- ITS FALSE NEIGHBOUR: 'it returns false'. Refute it at one input. -/
def taleBlocksWrong : ChangeSpec := { name := "taleBlocks", fn := fun _ => fun
  | [d1, d2, d3, d4, d5] => { results := [.lit (.bool false)], args := [d1, d2, d3, d4, d5] }
  | _ => none }
def TaleBlocksWrongFalsely : Prop := taleBlocksRow.holds Tryz.pinned (OpenSpec.ofChange taleBlocksWrong)

/-- 'wlvlaw23.ConnPieces': WHATEVER THE INPUT: true; the input reads as it did. -/
def connPiecesSpec : ChangeSpec := { name := "connPieces", fn := fun _ => fun
  | [d1, d2, d3, d4] => { results := [.lit (.bool true)], args := [d1, d2, d3, d4] }
  | _ => none }
def connPiecesRow : OpenClaim := { program := "ytifbhefbhlbofaagreatdoor", sum := "59caa0deab8b8bcfc4db20ed7362b9812cffbce74e0bd63c960349e1b1572ac4", func := "wayleave/wlvlaw23.ConnPieces", spec := "connPieces", inPlace := ["internal/bytealg.CountString", "internal/bytealg.IndexByteString", "internal/bytealg.IndexString"], unfollowed := true, recurses := true, named := ["unicode/utf8.first", "unicode/utf8.acceptRanges", "internal/bytealg.MaxLen"], apart := false, laid := [("unicode/utf8.acceptRanges", laid_unicode_utf8_acceptRanges), ("unicode/utf8.first", laid_unicode_utf8_first)] }
def ConnPiecesSaid : Prop := connPiecesRow.holds Tryz.pinned (OpenSpec.ofChange connPiecesSpec)

/-- ITS FALSE NEIGHBOUR: 'it returns false'. Refute it at one input. -/
def connPiecesWrong : ChangeSpec := { name := "connPieces", fn := fun _ => fun
  | [d1, d2, d3, d4] => { results := [.lit (.bool false)], args := [d1, d2, d3, d4] }
  | _ => none }
def ConnPiecesWrongFalsely : Prop := connPiecesRow.holds Tryz.pinned (OpenSpec.ofChange connPiecesWrong)

/-- 'wlvlaw23.ConnFlood': WHATEVER THE INPUT: true; the input reads as it did. -/
def connFloodSpec : ChangeSpec := { name := "connFlood", fn := fun _ => fun
  | [d] => { results := [.lit (.bool true)], args := [d] }
  | _ => none }
def connFloodRow : OpenClaim := { program := "ytifbhefbhlbofaagreatdoor", sum := "59caa0deab8b8bcfc4db20ed7362b9812cffbce74e0bd63c960349e1b1572ac4", func := "wayleave/wlvlaw23.ConnFlood", spec := "connFlood", inPlace := ["internal/bytealg.CountString", "internal/bytealg.IndexByteString", "internal/bytealg.IndexString"], unfollowed := true, recurses := true, named := ["unicode/utf8.first", "unicode/utf8.acceptRanges", "internal/bytealg.MaxLen"], apart := false, laid := [("unicode/utf8.acceptRanges", laid_unicode_utf8_acceptRanges), ("unicode/utf8.first", laid_unicode_utf8_first)] }
def ConnFloodSaid : Prop := connFloodRow.holds Tryz.pinned (OpenSpec.ofChange connFloodSpec)

/-- ITS FALSE NEIGHBOUR: 'it returns false'. Refute it at one input. -/
def connFloodWrong : ChangeSpec := { name := "connFlood", fn := fun _ => fun
  | [d] => { results := [.lit (.bool false)], args := [d] }
  | _ => none }
def ConnFloodWrongFalsely : Prop := connFloodRow.holds Tryz.pinned (OpenSpec.ofChange connFloodWrong)

/-- 'wlvlaw23.ConnBlocks': WHATEVER THE INPUT: true; the input reads as it did. -/
def connBlocksSpec : ChangeSpec := { name := "connBlocks", fn := fun _ => fun
  | [d1, d2] => { results := [.lit (.bool true)], args := [d1, d2] }
  | _ => none }
def connBlocksRow : OpenClaim := { program := "ytifbhefbhlbofaagreatdoor", sum := "59caa0deab8b8bcfc4db20ed7362b9812cffbce74e0bd63c960349e1b1572ac4", func := "wayleave/wlvlaw23.ConnBlocks", spec := "connBlocks", inPlace := ["internal/bytealg.CountString", "internal/bytealg.IndexByteString", "internal/bytealg.IndexString"], unfollowed := true, recurses := true, named := ["unicode/utf8.first", "unicode/utf8.acceptRanges", "internal/bytealg.MaxLen"], apart := false, laid := [("unicode/utf8.acceptRanges", laid_unicode_utf8_acceptRanges), ("unicode/utf8.first", laid_unicode_utf8_first)] }
def ConnBlocksSaid : Prop := connBlocksRow.holds Tryz.pinned (OpenSpec.ofChange connBlocksSpec)

/-- ITS FALSE NEIGHBOUR: 'it returns false'. Refute it at one input. -/
def connBlocksWrong : ChangeSpec := { name := "connBlocks", fn := fun _ => fun
  | [d1, d2] => { results := [.lit (.bool false)], args := [d1, d2] }
  | _ => none }
def ConnBlocksWrongFalsely : Prop := connBlocksRow.holds Tryz.pinned (OpenSpec.ofChange connBlocksWrong)

/-- 'wlvlaw23.ConnCalm': WHATEVER THE INPUT: true; the input reads as it did. -/
def connCalmSpec : ChangeSpec := { name := "connCalm", fn := fun _ => fun
  | [d] => { results := [.lit (.bool true)], args := [d] }
  | _ => none }
def connCalmRow : OpenClaim := { program := "ytifbhefbhlbofaagreatdoor", sum := "59caa0deab8b8bcfc4db20ed7362b9812cffbce74e0bd63c960349e1b1572ac4", func := "wayleave/wlvlaw23.ConnCalm", spec := "connCalm", inPlace := ["internal/bytealg.CountString", "internal/bytealg.IndexByteString", "internal/bytealg.IndexString"], unfollowed := true, recurses := true, named := ["unicode/utf8.first", "unicode/utf8.acceptRanges", "internal/bytealg.MaxLen"], apart := false, laid := [("unicode/utf8.acceptRanges", laid_unicode_utf8_acceptRanges), ("unicode/utf8.first", laid_unicode_utf8_first)] }
def ConnCalmSaid : Prop := connCalmRow.holds Tryz.pinned (OpenSpec.ofChange connCalmSpec)

/-- ITS FALSE NEIGHBOUR: 'it returns false'. Refute it at one input. -/
def connCalmWrong : ChangeSpec := { name := "connCalm", fn := fun _ => fun
  | [d] => { results := [.lit (.bool false)], args := [d] }
  | _ => none }
def ConnCalmWrongFalsely : Prop := connCalmRow.holds Tryz.pinned (OpenSpec.ofChange connCalmWrong)

/-- 'wlvlaw23.ConnWindows': WHATEVER THE INPUT: true; the input reads as it did. -/
def connWindowsSpec : ChangeSpec := { name := "connWindows", fn := fun _ => fun
  | [d1, d2] => { results := [.lit (.bool true)], args := [d1, d2] }
  | _ => none }
def connWindowsRow : OpenClaim := { program := "ytifbhefbhlbofaagreatdoor", sum := "59caa0deab8b8bcfc4db20ed7362b9812cffbce74e0bd63c960349e1b1572ac4", func := "wayleave/wlvlaw23.ConnWindows", spec := "connWindows", inPlace := ["internal/bytealg.CountString", "internal/bytealg.IndexByteString", "internal/bytealg.IndexString"], unfollowed := true, recurses := true, named := ["unicode/utf8.first", "unicode/utf8.acceptRanges", "internal/bytealg.MaxLen"], apart := false, laid := [("unicode/utf8.acceptRanges", laid_unicode_utf8_acceptRanges), ("unicode/utf8.first", laid_unicode_utf8_first)] }
def ConnWindowsSaid : Prop := connWindowsRow.holds Tryz.pinned (OpenSpec.ofChange connWindowsSpec)

/-- ITS FALSE NEIGHBOUR: 'it returns false'. Refute it at one input. -/
def connWindowsWrong : ChangeSpec := { name := "connWindows", fn := fun _ => fun
  | [d1, d2] => { results := [.lit (.bool false)], args := [d1, d2] }
  | _ => none }
def ConnWindowsWrongFalsely : Prop := connWindowsRow.holds Tryz.pinned (OpenSpec.ofChange connWindowsWrong)

/-- 'wlvlaw23.ConnFrames': WHATEVER THE INPUT: true; the input reads as it did. -/
def connFramesSpec : ChangeSpec := { name := "connFrames", fn := fun _ => fun
  | [d1, d2, d3] => { results := [.lit (.bool true)], args := [d1, d2, d3] }
  | _ => none }
def connFramesRow : OpenClaim := { program := "ytifbhefbhlbofaagreatdoor", sum := "59caa0deab8b8bcfc4db20ed7362b9812cffbce74e0bd63c960349e1b1572ac4", func := "wayleave/wlvlaw23.ConnFrames", spec := "connFrames", inPlace := ["internal/bytealg.CountString", "internal/bytealg.IndexByteString", "internal/bytealg.IndexString"], unfollowed := true, recurses := true, named := ["unicode/utf8.first", "unicode/utf8.acceptRanges", "internal/bytealg.MaxLen"], apart := false, laid := [("unicode/utf8.acceptRanges", laid_unicode_utf8_acceptRanges), ("unicode/utf8.first", laid_unicode_utf8_first)] }
def ConnFramesSaid : Prop := connFramesRow.holds Tryz.pinned (OpenSpec.ofChange connFramesSpec)

/-- ITS FALSE NEIGHBOUR: 'it returns false'. Refute it at one input. -/
def connFramesWrong : ChangeSpec := { name := "connFrames", fn := fun _ => fun
  | [d1, d2, d3] => { results := [.lit (.bool false)], args := [d1, d2, d3] }
  | _ => none }
def ConnFramesWrongFalsely : Prop := connFramesRow.holds Tryz.pinned (OpenSpec.ofChange connFramesWrong)

/-- 'wlvlaw27.WatchConn': WHATEVER THE INPUT: true; the input reads as it did. -/
def watchConnSpec : ChangeSpec := { name := "watchConn", fn := fun _ => fun
  | [d1, d2, d3] => { results := [.lit (.bool true)], args := [d1, d2, d3] }
  | _ => none }
def watchConnRow : OpenClaim := { program := "ytifbhefbhlbofaagreatdoor", sum := "59caa0deab8b8bcfc4db20ed7362b9812cffbce74e0bd63c960349e1b1572ac4", func := "wayleave/wlvlaw27.WatchConn", spec := "watchConn", inPlace := ["internal/bytealg.CountString", "internal/bytealg.IndexByteString", "internal/bytealg.IndexString"], unfollowed := true, recurses := true, named := ["unicode/utf8.first", "unicode/utf8.acceptRanges", "internal/bytealg.MaxLen"], apart := false, laid := [("unicode/utf8.acceptRanges", laid_unicode_utf8_acceptRanges), ("unicode/utf8.first", laid_unicode_utf8_first)] }
def WatchConnSaid : Prop := watchConnRow.holds Tryz.pinned (OpenSpec.ofChange watchConnSpec)

/-- ITS FALSE NEIGHBOUR: 'it returns false'. Refute it at one input. -/
def watchConnWrong : ChangeSpec := { name := "watchConn", fn := fun _ => fun
  | [d1, d2, d3] => { results := [.lit (.bool false)], args := [d1, d2, d3] }
  | _ => none }
def WatchConnWrongFalsely : Prop := watchConnRow.holds Tryz.pinned (OpenSpec.ofChange watchConnWrong)

/- THE SECOND FORM. 'bulk': how many values and letters a reading holds, each counted each time it is reached (what is shared counts as often as it is met; a slice's spare places count too). A statement '..UptoSaid' is the law's where the arguments, and the package variables that the reading takes, are together of bulk at most 1048576: NARROWER than '..Said'. Prove '..Said' where nothing that the law and all that it calls make is longer than what came in: it says more and counts as full. Else prove '..UptoSaid'. A law counts once. -/
mutual
def uptoBulk {H : Type} : DataW H → Nat
  | .lit (.string bytes) => bytes.length + 1
  | .lit _ => 1
  | .nil => 1
  | .ptr d => uptoBulk d + 1
  | .slice elems spare => uptoBulkAll elems + uptoBulkAll spare + 1
  | .agg parts => uptoBulkAll parts + 1
  | .iface _ d => uptoBulk d + 1
  | .map entries => uptoBulkEntries entries + 1
  | .held _ => 1
def uptoBulkAll {H : Type} : List (DataW H) → Nat
  | [] => 0
  | d :: r => uptoBulk d + uptoBulkAll r
def uptoBulkEntries {H : Type} : List (Lit × DataW H) → Nat
  | [] => 0
  | x :: r => uptoBulkEntry x + uptoBulkEntries r
def uptoBulkEntry {H : Type} : Lit × DataW H → Nat
  | (.string bytes, d) => bytes.length + uptoBulk d + 1
  | (_, d) => uptoBulk d + 1
 end
def uptoSmall : (H : Type) → List (DataW H) → Bool := fun _ ds => decide (uptoBulkAll ds ≤ 1048576)
def OpenSpec.upto (s : _root_.Go.ChangeSpec) : _root_.Go.OpenSpec := { _root_.Go.OpenSpec.ofChange s with cond := some uptoSmall }

/-- 'wlvlaw28.TaleBlocks', WHERE WHAT IT READS IS OF BULK AT MOST 1048576: true; the input reads as it did. -/
def taleBlocksUptoRow : OpenClaim := { program := "ytifbhefbhlbofaagreatdoor", sum := "59caa0deab8b8bcfc4db20ed7362b9812cffbce74e0bd63c960349e1b1572ac4", func := "wayleave/wlvlaw28.TaleBlocks", spec := "taleBlocks", inPlace := ["internal/abi.NoEscape", "internal/bytealg.CountString", "internal/bytealg.IndexByteString", "internal/bytealg.IndexString"], unfollowed := true, recurses := true, named := ["internal/strconv.uint64pow10", "math/bits.deBruijn32tab", "math/bits.deBruijn64tab", "unicode/utf8.first", "unicode/utf8.acceptRanges", "internal/bytealg.MaxLen"], apart := false, laid := [("math/bits.deBruijn32tab", laid_math_bits_deBruijn32tab), ("math/bits.deBruijn64tab", laid_math_bits_deBruijn64tab), ("internal/strconv.uint64pow10", laid_internal_strconv_uint64pow10), ("unicode/utf8.acceptRanges", laid_unicode_utf8_acceptRanges), ("unicode/utf8.first", laid_unicode_utf8_first)], narrowed := true }
def TaleBlocksUptoSaid : Prop := taleBlocksUptoRow.holds Tryz.pinned (OpenSpec.upto taleBlocksSpec)

/-- 'wlvlaw23.ConnPieces', WHERE WHAT IT READS IS OF BULK AT MOST 1048576: true; the input reads as it did. -/
def connPiecesUptoRow : OpenClaim := { program := "ytifbhefbhlbofaagreatdoor", sum := "59caa0deab8b8bcfc4db20ed7362b9812cffbce74e0bd63c960349e1b1572ac4", func := "wayleave/wlvlaw23.ConnPieces", spec := "connPieces", inPlace := ["internal/bytealg.CountString", "internal/bytealg.IndexByteString", "internal/bytealg.IndexString"], unfollowed := true, recurses := true, named := ["unicode/utf8.first", "unicode/utf8.acceptRanges", "internal/bytealg.MaxLen"], apart := false, laid := [("unicode/utf8.acceptRanges", laid_unicode_utf8_acceptRanges), ("unicode/utf8.first", laid_unicode_utf8_first)], narrowed := true }
def ConnPiecesUptoSaid : Prop := connPiecesUptoRow.holds Tryz.pinned (OpenSpec.upto connPiecesSpec)

/-- 'wlvlaw23.ConnFlood', WHERE WHAT IT READS IS OF BULK AT MOST 1048576: true; the input reads as it did. -/
def connFloodUptoRow : OpenClaim := { program := "ytifbhefbhlbofaagreatdoor", sum := "59caa0deab8b8bcfc4db20ed7362b9812cffbce74e0bd63c960349e1b1572ac4", func := "wayleave/wlvlaw23.ConnFlood", spec := "connFlood", inPlace := ["internal/bytealg.CountString", "internal/bytealg.IndexByteString", "internal/bytealg.IndexString"], unfollowed := true, recurses := true, named := ["unicode/utf8.first", "unicode/utf8.acceptRanges", "internal/bytealg.MaxLen"], apart := false, laid := [("unicode/utf8.acceptRanges", laid_unicode_utf8_acceptRanges), ("unicode/utf8.first", laid_unicode_utf8_first)], narrowed := true }
def ConnFloodUptoSaid : Prop := connFloodUptoRow.holds Tryz.pinned (OpenSpec.upto connFloodSpec)

/-- 'wlvlaw23.ConnBlocks', WHERE WHAT IT READS IS OF BULK AT MOST 1048576: true; the input reads as it did. -/
def connBlocksUptoRow : OpenClaim := { program := "ytifbhefbhlbofaagreatdoor", sum := "59caa0deab8b8bcfc4db20ed7362b9812cffbce74e0bd63c960349e1b1572ac4", func := "wayleave/wlvlaw23.ConnBlocks", spec := "connBlocks", inPlace := ["internal/bytealg.CountString", "internal/bytealg.IndexByteString", "internal/bytealg.IndexString"], unfollowed := true, recurses := true, named := ["unicode/utf8.first", "unicode/utf8.acceptRanges", "internal/bytealg.MaxLen"], apart := false, laid := [("unicode/utf8.acceptRanges", laid_unicode_utf8_acceptRanges), ("unicode/utf8.first", laid_unicode_utf8_first)], narrowed := true }
def ConnBlocksUptoSaid : Prop := connBlocksUptoRow.holds Tryz.pinned (OpenSpec.upto connBlocksSpec)

/-- 'wlvlaw23.ConnCalm', WHERE WHAT IT READS IS OF BULK AT MOST 1048576: true; the input reads as it did. -/
def connCalmUptoRow : OpenClaim := { program := "ytifbhefbhlbofaagreatdoor", sum := "59caa0deab8b8bcfc4db20ed7362b9812cffbce74e0bd63c960349e1b1572ac4", func := "wayleave/wlvlaw23.ConnCalm", spec := "connCalm", inPlace := ["internal/bytealg.CountString", "internal/bytealg.IndexByteString", "internal/bytealg.IndexString"], unfollowed := true, recurses := true, named := ["unicode/utf8.first", "unicode/utf8.acceptRanges", "internal/bytealg.MaxLen"], apart := false, laid := [("unicode/utf8.acceptRanges", laid_unicode_utf8_acceptRanges), ("unicode/utf8.first", laid_unicode_utf8_first)], narrowed := true }
def ConnCalmUptoSaid : Prop := connCalmUptoRow.holds Tryz.pinned (OpenSpec.upto connCalmSpec)

/-- 'wlvlaw23.ConnWindows', WHERE WHAT IT READS IS OF BULK AT MOST 1048576: true; the input reads as it did. -/
def connWindowsUptoRow : OpenClaim := { program := "ytifbhefbhlbofaagreatdoor", sum := "59caa0deab8b8bcfc4db20ed7362b9812cffbce74e0bd63c960349e1b1572ac4", func := "wayleave/wlvlaw23.ConnWindows", spec := "connWindows", inPlace := ["internal/bytealg.CountString", "internal/bytealg.IndexByteString", "internal/bytealg.IndexString"], unfollowed := true, recurses := true, named := ["unicode/utf8.first", "unicode/utf8.acceptRanges", "internal/bytealg.MaxLen"], apart := false, laid := [("unicode/utf8.acceptRanges", laid_unicode_utf8_acceptRanges), ("unicode/utf8.first", laid_unicode_utf8_first)], narrowed := true }
def ConnWindowsUptoSaid : Prop := connWindowsUptoRow.holds Tryz.pinned (OpenSpec.upto connWindowsSpec)

/-- 'wlvlaw23.ConnFrames', WHERE WHAT IT READS IS OF BULK AT MOST 1048576: true; the input reads as it did. -/
def connFramesUptoRow : OpenClaim := { program := "ytifbhefbhlbofaagreatdoor", sum := "59caa0deab8b8bcfc4db20ed7362b9812cffbce74e0bd63c960349e1b1572ac4", func := "wayleave/wlvlaw23.ConnFrames", spec := "connFrames", inPlace := ["internal/bytealg.CountString", "internal/bytealg.IndexByteString", "internal/bytealg.IndexString"], unfollowed := true, recurses := true, named := ["unicode/utf8.first", "unicode/utf8.acceptRanges", "internal/bytealg.MaxLen"], apart := false, laid := [("unicode/utf8.acceptRanges", laid_unicode_utf8_acceptRanges), ("unicode/utf8.first", laid_unicode_utf8_first)], narrowed := true }
def ConnFramesUptoSaid : Prop := connFramesUptoRow.holds Tryz.pinned (OpenSpec.upto connFramesSpec)

/-- 'wlvlaw27.WatchConn', WHERE WHAT IT READS IS OF BULK AT MOST 1048576: true; the input reads as it did. -/
def watchConnUptoRow : OpenClaim := { program := "ytifbhefbhlbofaagreatdoor", sum := "59caa0deab8b8bcfc4db20ed7362b9812cffbce74e0bd63c960349e1b1572ac4", func := "wayleave/wlvlaw27.WatchConn", spec := "watchConn", inPlace := ["internal/bytealg.CountString", "internal/bytealg.IndexByteString", "internal/bytealg.IndexString"], unfollowed := true, recurses := true, named := ["unicode/utf8.first", "unicode/utf8.acceptRanges", "internal/bytealg.MaxLen"], apart := false, laid := [("unicode/utf8.acceptRanges", laid_unicode_utf8_acceptRanges), ("unicode/utf8.first", laid_unicode_utf8_first)], narrowed := true }
def WatchConnUptoSaid : Prop := watchConnUptoRow.holds Tryz.pinned (OpenSpec.upto watchConnSpec)

end Rows
end Go.Proofs.YtifbhefbhlbofaaGreatDoor
