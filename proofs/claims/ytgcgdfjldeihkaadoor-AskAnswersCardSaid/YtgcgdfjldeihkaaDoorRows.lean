/-
  NARROWER THAN 'FOR EVERY INPUT', by the rows' own cells (each row's printed sentence says how): B64Tells: laid · B64Back: laid · B64Joins: laid · B64Signs: laid · AskPseudo: laid · AskNames: laid · AskOnce: laid · AskAnswers: laid.
  DERIVED. THE GIVEN ROWS OF THIS SEAT. 8 by the template 'for every input the law returns true; each argument reads behind the call as it read before'; 0 by the template 'total and deterministic' (their statements: YtgcgdfjldeihkaaDoorTotals.lean).
  GIVEN WITH THE SEED: the statements are not yours to turn. If you find one false, say at which input.
  Laid BY PROGRAM, IN A SANDBOX (cutbox-rows.mjs): the forced cells as the released guide's own fill.sh prints them over the translation e6dcaff15c4c9eda… (all of the seat's roots in one cut). By AI agents, Wed Nov 11 2026. No macro, syntax, notation, axiom, sorry.
-/
import Derived.Test.YtgcgdfjldeihkaaDoorChecked
import GoSem.PinnedTables
import GoSem.Claim
import GoSem.ClaimJoined
import GoSem.ClaimMapViews
import Derived.JoinedTies
import Derived.KernelRfl
namespace Go.Proofs.YtgcgdfjldeihkaaDoor
/- THE CELL 'sum', in the pinned program and in every row, IS THE sha256 OF THE DUMP (.gsa) THAT YtgcgdfjldeihkaaDoorProg.lean LOADS. Nothing in Lean hashes anything: it is a label: what it is worth is what the hold of that sum in a sandbox is worth. -/
noncomputable def Tryd.pinned : Pinned := { name := "ytgcgdfjldeihkaadoor", sum := "e6dcaff15c4c9eda016a03358bf5c99e390ddf5dc8cc431a5a0286f4dfa512bb", checked := Tryd.checked }
namespace Rows
def none {H : Type} : Left H := { results := [], args := [] }

/- WHAT THE LISTED PACKAGE-LEVEL VARIABLES READ AS WHEN THE CALL BEGINS. Each datum BY PROGRAM (the guide's laid-datum.mjs) off the statement by which the dump's own 'gosem.cut.vars' lays the variable. In a bare row this is a premise. The card (YtgcgdfjldeihkaaDoorCards.lean) ties it to the program's text. -/
def laid_unicode_utf8_acceptRanges {H : Type} : DataW H := .agg [.agg [.lit (.int .u8 128), .lit (.int .u8 191)], .agg [.lit (.int .u8 160), .lit (.int .u8 191)], .agg [.lit (.int .u8 128), .lit (.int .u8 159)], .agg [.lit (.int .u8 144), .lit (.int .u8 191)], .agg [.lit (.int .u8 128), .lit (.int .u8 143)], .agg [.lit (.int .u8 0), .lit (.int .u8 0)], .agg [.lit (.int .u8 0), .lit (.int .u8 0)], .agg [.lit (.int .u8 0), .lit (.int .u8 0)], .agg [.lit (.int .u8 0), .lit (.int .u8 0)], .agg [.lit (.int .u8 0), .lit (.int .u8 0)], .agg [.lit (.int .u8 0), .lit (.int .u8 0)], .agg [.lit (.int .u8 0), .lit (.int .u8 0)], .agg [.lit (.int .u8 0), .lit (.int .u8 0)], .agg [.lit (.int .u8 0), .lit (.int .u8 0)], .agg [.lit (.int .u8 0), .lit (.int .u8 0)], .agg [.lit (.int .u8 0), .lit (.int .u8 0)]]
/-- One of Go's own tables, pinned by name: the form's constant. -/
def laid_unicode_utf8_first : DataW Unit := Go.Pinned.utf8First
def laid_math_bits_deBruijn32tab {H : Type} : DataW H := .agg [.lit (.int .u8 0), .lit (.int .u8 1), .lit (.int .u8 28), .lit (.int .u8 2), .lit (.int .u8 29), .lit (.int .u8 14), .lit (.int .u8 24), .lit (.int .u8 3), .lit (.int .u8 30), .lit (.int .u8 22), .lit (.int .u8 20), .lit (.int .u8 15), .lit (.int .u8 25), .lit (.int .u8 17), .lit (.int .u8 4), .lit (.int .u8 8), .lit (.int .u8 31), .lit (.int .u8 27), .lit (.int .u8 13), .lit (.int .u8 23), .lit (.int .u8 21), .lit (.int .u8 19), .lit (.int .u8 16), .lit (.int .u8 7), .lit (.int .u8 26), .lit (.int .u8 12), .lit (.int .u8 18), .lit (.int .u8 6), .lit (.int .u8 11), .lit (.int .u8 5), .lit (.int .u8 10), .lit (.int .u8 9)]
def laid_math_bits_deBruijn64tab {H : Type} : DataW H := .agg [.lit (.int .u8 0), .lit (.int .u8 1), .lit (.int .u8 56), .lit (.int .u8 2), .lit (.int .u8 57), .lit (.int .u8 49), .lit (.int .u8 28), .lit (.int .u8 3), .lit (.int .u8 61), .lit (.int .u8 58), .lit (.int .u8 42), .lit (.int .u8 50), .lit (.int .u8 38), .lit (.int .u8 29), .lit (.int .u8 17), .lit (.int .u8 4), .lit (.int .u8 62), .lit (.int .u8 47), .lit (.int .u8 59), .lit (.int .u8 36), .lit (.int .u8 45), .lit (.int .u8 43), .lit (.int .u8 51), .lit (.int .u8 22), .lit (.int .u8 53), .lit (.int .u8 39), .lit (.int .u8 33), .lit (.int .u8 30), .lit (.int .u8 24), .lit (.int .u8 18), .lit (.int .u8 12), .lit (.int .u8 5), .lit (.int .u8 63), .lit (.int .u8 55), .lit (.int .u8 48), .lit (.int .u8 27), .lit (.int .u8 60), .lit (.int .u8 41), .lit (.int .u8 37), .lit (.int .u8 16), .lit (.int .u8 46), .lit (.int .u8 35), .lit (.int .u8 44), .lit (.int .u8 21), .lit (.int .u8 52), .lit (.int .u8 32), .lit (.int .u8 23), .lit (.int .u8 11), .lit (.int .u8 54), .lit (.int .u8 26), .lit (.int .u8 40), .lit (.int .u8 15), .lit (.int .u8 34), .lit (.int .u8 20), .lit (.int .u8 31), .lit (.int .u8 10), .lit (.int .u8 25), .lit (.int .u8 14), .lit (.int .u8 19), .lit (.int .u8 9), .lit (.int .u8 13), .lit (.int .u8 8), .lit (.int .u8 7), .lit (.int .u8 6)]
def laid_internal_strconv_uint64pow10 {H : Type} : DataW H := .agg [.lit (.int .u64 1), .lit (.int .u64 10), .lit (.int .u64 100), .lit (.int .u64 1000), .lit (.int .u64 10000), .lit (.int .u64 100000), .lit (.int .u64 1000000), .lit (.int .u64 10000000), .lit (.int .u64 100000000), .lit (.int .u64 1000000000), .lit (.int .u64 10000000000), .lit (.int .u64 100000000000), .lit (.int .u64 1000000000000), .lit (.int .u64 10000000000000), .lit (.int .u64 100000000000000), .lit (.int .u64 1000000000000000), .lit (.int .u64 10000000000000000), .lit (.int .u64 100000000000000000), .lit (.int .u64 1000000000000000000), .lit (.int .u64 10000000000000000000)]

/-- 'wlvlaw2.B64Tells': WHATEVER THE INPUT: true; the input reads as it did. -/
def b64TellsSpec : ChangeSpec := { name := "b64Tells", fn := fun _ => fun
  | [d1, d2] => { results := [.lit (.bool true)], args := [d1, d2] }
  | _ => none }
def b64TellsRow : OpenClaim := { program := "ytgcgdfjldeihkaadoor", sum := "e6dcaff15c4c9eda016a03358bf5c99e390ddf5dc8cc431a5a0286f4dfa512bb", func := "wayleave/wlvlaw2.B64Tells", spec := "b64Tells", inPlace := ["internal/bytealg.IndexByteString", "internal/bytealg.IndexString", "internal/abi.NoEscape"], named := ["unicode/utf8.first", "unicode/utf8.acceptRanges", "internal/bytealg.MaxLen"], apart := false, laid := [("unicode/utf8.acceptRanges", laid_unicode_utf8_acceptRanges), ("unicode/utf8.first", laid_unicode_utf8_first)] }
def B64TellsSaid : Prop := b64TellsRow.holds Tryd.pinned (OpenSpec.ofChange b64TellsSpec)

/-- ITS FALSE NEIGHBOUR: 'it returns false'. Refute it at one input. -/
def b64TellsWrong : ChangeSpec := { name := "b64Tells", fn := fun _ => fun
  | [d1, d2] => { results := [.lit (.bool false)], args := [d1, d2] }
  | _ => none }
def B64TellsWrongFalsely : Prop := b64TellsRow.holds Tryd.pinned (OpenSpec.ofChange b64TellsWrong)

/-- 'wlvlaw2.B64Back': WHATEVER THE INPUT: true; the input reads as it did. -/
def b64BackSpec : ChangeSpec := { name := "b64Back", fn := fun _ => fun
  | [d1, d2] => { results := [.lit (.bool true)], args := [d1, d2] }
  | _ => none }
def b64BackRow : OpenClaim := { program := "ytgcgdfjldeihkaadoor", sum := "e6dcaff15c4c9eda016a03358bf5c99e390ddf5dc8cc431a5a0286f4dfa512bb", func := "wayleave/wlvlaw2.B64Back", spec := "b64Back", inPlace := ["internal/bytealg.IndexByteString", "internal/bytealg.IndexString", "internal/abi.NoEscape"], named := ["unicode/utf8.first", "unicode/utf8.acceptRanges", "internal/bytealg.MaxLen"], apart := false, laid := [("unicode/utf8.acceptRanges", laid_unicode_utf8_acceptRanges), ("unicode/utf8.first", laid_unicode_utf8_first)] }
def B64BackSaid : Prop := b64BackRow.holds Tryd.pinned (OpenSpec.ofChange b64BackSpec)

/-- ITS FALSE NEIGHBOUR: 'it returns false'. Refute it at one input. -/
def b64BackWrong : ChangeSpec := { name := "b64Back", fn := fun _ => fun
  | [d1, d2] => { results := [.lit (.bool false)], args := [d1, d2] }
  | _ => none }
def B64BackWrongFalsely : Prop := b64BackRow.holds Tryd.pinned (OpenSpec.ofChange b64BackWrong)

/-- 'wlvlaw2.B64Joins': WHATEVER THE INPUT: true; the input reads as it did. -/
def b64JoinsSpec : ChangeSpec := { name := "b64Joins", fn := fun _ => fun
  | [d1, d2] => { results := [.lit (.bool true)], args := [d1, d2] }
  | _ => none }
def b64JoinsRow : OpenClaim := { program := "ytgcgdfjldeihkaadoor", sum := "e6dcaff15c4c9eda016a03358bf5c99e390ddf5dc8cc431a5a0286f4dfa512bb", func := "wayleave/wlvlaw2.B64Joins", spec := "b64Joins", inPlace := ["internal/bytealg.IndexByteString", "internal/bytealg.IndexString", "internal/abi.NoEscape"], named := ["unicode/utf8.first", "unicode/utf8.acceptRanges", "internal/bytealg.MaxLen"], apart := false, laid := [("unicode/utf8.acceptRanges", laid_unicode_utf8_acceptRanges), ("unicode/utf8.first", laid_unicode_utf8_first)] }
def B64JoinsSaid : Prop := b64JoinsRow.holds Tryd.pinned (OpenSpec.ofChange b64JoinsSpec)

/-- ITS FALSE NEIGHBOUR: 'it returns false'. Refute it at one input. -/
def b64JoinsWrong : ChangeSpec := { name := "b64Joins", fn := fun _ => fun
  | [d1, d2] => { results := [.lit (.bool false)], args := [d1, d2] }
  | _ => none }
def B64JoinsWrongFalsely : Prop := b64JoinsRow.holds Tryd.pinned (OpenSpec.ofChange b64JoinsWrong)

/-- 'wlvlaw2.B64Signs': WHATEVER THE INPUT: true; the input reads as it did. -/
def b64SignsSpec : ChangeSpec := { name := "b64Signs", fn := fun _ => fun
  | [d1, d2, d3] => { results := [.lit (.bool true)], args := [d1, d2, d3] }
  | _ => none }
def b64SignsRow : OpenClaim := { program := "ytgcgdfjldeihkaadoor", sum := "e6dcaff15c4c9eda016a03358bf5c99e390ddf5dc8cc431a5a0286f4dfa512bb", func := "wayleave/wlvlaw2.B64Signs", spec := "b64Signs", inPlace := ["internal/bytealg.IndexByteString", "internal/bytealg.IndexString", "internal/abi.NoEscape"], named := ["unicode/utf8.first", "unicode/utf8.acceptRanges", "internal/bytealg.MaxLen"], apart := false, laid := [("unicode/utf8.acceptRanges", laid_unicode_utf8_acceptRanges), ("unicode/utf8.first", laid_unicode_utf8_first)] }
def B64SignsSaid : Prop := b64SignsRow.holds Tryd.pinned (OpenSpec.ofChange b64SignsSpec)

/-- ITS FALSE NEIGHBOUR: 'it returns false'. Refute it at one input. -/
def b64SignsWrong : ChangeSpec := { name := "b64Signs", fn := fun _ => fun
  | [d1, d2, d3] => { results := [.lit (.bool false)], args := [d1, d2, d3] }
  | _ => none }
def B64SignsWrongFalsely : Prop := b64SignsRow.holds Tryd.pinned (OpenSpec.ofChange b64SignsWrong)

/-- 'wlvlaw24.AskPseudo': WHATEVER THE INPUT: true; the input reads as it did. -/
def askPseudoSpec : ChangeSpec := { name := "askPseudo", fn := fun _ => fun
  | [d1, d2, d3, d4, d5] => { results := [.lit (.bool true)], args := [d1, d2, d3, d4, d5] }
  | _ => none }
def askPseudoRow : OpenClaim := { program := "ytgcgdfjldeihkaadoor", sum := "e6dcaff15c4c9eda016a03358bf5c99e390ddf5dc8cc431a5a0286f4dfa512bb", func := "wayleave/wlvlaw24.AskPseudo", spec := "askPseudo", inPlace := ["internal/bytealg.IndexByteString", "internal/bytealg.IndexString"], unfollowed := true, recurses := true, named := ["unicode/utf8.first", "unicode/utf8.acceptRanges", "internal/bytealg.MaxLen"], apart := false, laid := [("unicode/utf8.acceptRanges", laid_unicode_utf8_acceptRanges), ("unicode/utf8.first", laid_unicode_utf8_first)] }
def AskPseudoSaid : Prop := askPseudoRow.holds Tryd.pinned (OpenSpec.ofChange askPseudoSpec)

/-- ITS FALSE NEIGHBOUR: 'it returns false'. Refute it at one input. -/
def askPseudoWrong : ChangeSpec := { name := "askPseudo", fn := fun _ => fun
  | [d1, d2, d3, d4, d5] => { results := [.lit (.bool false)], args := [d1, d2, d3, d4, d5] }
  | _ => none }
def AskPseudoWrongFalsely : Prop := askPseudoRow.holds Tryd.pinned (OpenSpec.ofChange askPseudoWrong)

/-- 'wlvlaw24.AskNames': WHATEVER THE INPUT: true; the input reads as it did. -/
def askNamesSpec : ChangeSpec := { name := "askNames", fn := fun _ => fun
  | [d] => { results := [.lit (.bool true)], args := [d] }
  | _ => none }
def askNamesRow : OpenClaim := { program := "ytgcgdfjldeihkaadoor", sum := "e6dcaff15c4c9eda016a03358bf5c99e390ddf5dc8cc431a5a0286f4dfa512bb", func := "wayleave/wlvlaw24.AskNames", spec := "askNames", inPlace := ["internal/bytealg.IndexByteString", "internal/bytealg.IndexString"], unfollowed := true, recurses := true, named := ["unicode/utf8.first", "unicode/utf8.acceptRanges", "internal/bytealg.MaxLen"], apart := false, laid := [("unicode/utf8.acceptRanges", laid_unicode_utf8_acceptRanges), ("unicode/utf8.first", laid_unicode_utf8_first)] }
def AskNamesSaid : Prop := askNamesRow.holds Tryd.pinned (OpenSpec.ofChange askNamesSpec)

/-- ITS FALSE NEIGHBOUR: 'it returns false'. Refute it at one input. -/
def askNamesWrong : ChangeSpec := { name := "askNames", fn := fun _ => fun
  | [d] => { results := [.lit (.bool false)], args := [d] }
  | _ => none }
def AskNamesWrongFalsely : Prop := askNamesRow.holds Tryd.pinned (OpenSpec.ofChange askNamesWrong)

/-- 'wlvlaw24.AskOnce': WHATEVER THE INPUT: true; the input reads as it did. -/
def askOnceSpec : ChangeSpec := { name := "askOnce", fn := fun _ => fun
  | [d1, d2, d3] => { results := [.lit (.bool true)], args := [d1, d2, d3] }
  | _ => none }
def askOnceRow : OpenClaim := { program := "ytgcgdfjldeihkaadoor", sum := "e6dcaff15c4c9eda016a03358bf5c99e390ddf5dc8cc431a5a0286f4dfa512bb", func := "wayleave/wlvlaw24.AskOnce", spec := "askOnce", inPlace := ["internal/bytealg.IndexByteString", "internal/bytealg.IndexString"], unfollowed := true, recurses := true, named := ["unicode/utf8.first", "unicode/utf8.acceptRanges", "internal/strconv.uint64pow10", "math/bits.deBruijn32tab", "math/bits.deBruijn64tab", "internal/bytealg.MaxLen"], apart := false, laid := [("math/bits.deBruijn32tab", laid_math_bits_deBruijn32tab), ("math/bits.deBruijn64tab", laid_math_bits_deBruijn64tab), ("internal/strconv.uint64pow10", laid_internal_strconv_uint64pow10), ("unicode/utf8.acceptRanges", laid_unicode_utf8_acceptRanges), ("unicode/utf8.first", laid_unicode_utf8_first)] }
def AskOnceSaid : Prop := askOnceRow.holds Tryd.pinned (OpenSpec.ofChange askOnceSpec)

/-- ITS FALSE NEIGHBOUR: 'it returns false'. Refute it at one input. -/
def askOnceWrong : ChangeSpec := { name := "askOnce", fn := fun _ => fun
  | [d1, d2, d3] => { results := [.lit (.bool false)], args := [d1, d2, d3] }
  | _ => none }
def AskOnceWrongFalsely : Prop := askOnceRow.holds Tryd.pinned (OpenSpec.ofChange askOnceWrong)

/-- 'wlvlaw24.AskAnswers': WHATEVER THE INPUT: true; the input reads as it did. -/
def askAnswersSpec : ChangeSpec := { name := "askAnswers", fn := fun _ => fun
  | [d1, d2] => { results := [.lit (.bool true)], args := [d1, d2] }
  | _ => none }
def askAnswersRow : OpenClaim := { program := "ytgcgdfjldeihkaadoor", sum := "e6dcaff15c4c9eda016a03358bf5c99e390ddf5dc8cc431a5a0286f4dfa512bb", func := "wayleave/wlvlaw24.AskAnswers", spec := "askAnswers", inPlace := ["internal/bytealg.IndexByteString", "internal/bytealg.IndexString"], unfollowed := true, recurses := true, named := ["unicode/utf8.first", "unicode/utf8.acceptRanges", "internal/strconv.uint64pow10", "math/bits.deBruijn32tab", "math/bits.deBruijn64tab", "internal/bytealg.MaxLen"], apart := false, laid := [("math/bits.deBruijn32tab", laid_math_bits_deBruijn32tab), ("math/bits.deBruijn64tab", laid_math_bits_deBruijn64tab), ("internal/strconv.uint64pow10", laid_internal_strconv_uint64pow10), ("unicode/utf8.acceptRanges", laid_unicode_utf8_acceptRanges), ("unicode/utf8.first", laid_unicode_utf8_first)] }
def AskAnswersSaid : Prop := askAnswersRow.holds Tryd.pinned (OpenSpec.ofChange askAnswersSpec)

/-- ITS FALSE NEIGHBOUR: 'it returns false'. Refute it at one input. -/
def askAnswersWrong : ChangeSpec := { name := "askAnswers", fn := fun _ => fun
  | [d1, d2] => { results := [.lit (.bool false)], args := [d1, d2] }
  | _ => none }
def AskAnswersWrongFalsely : Prop := askAnswersRow.holds Tryd.pinned (OpenSpec.ofChange askAnswersWrong)

/- THE SECOND FORM. 'bulk': how many values and letters a reading holds, each counted each time it is reached (what is shared counts as often as it is met; a slice's spare places count too). A statement '..UptoSaid' is the law's where the arguments, and the package variables that the reading takes, are together of bulk at most 1048576: NARROWER than '..Said'. Prove '..Said' where nothing that the law and all that it calls make is longer than what came in: it says more and counts as full. Else prove '..UptoSaid'. A law counts once. -/
mutual
def uptoBulk {H : Type} : DataW H → Nat
  | .lit (.string bytes) => bytes.length + 1
  | .lit _ => 1
  | .nil => 1
  | .ptr d => uptoBulk d + 1
  | .slice elems spare => uptoBulkAll elems + uptoBulkAll spare + 1
  | .agg parts => uptoBulkAll parts + 1
  | .iface _ d => uptoBulk d + 1
  | .map entries => uptoBulkEntries entries + 1
  | .held _ => 1
def uptoBulkAll {H : Type} : List (DataW H) → Nat
  | [] => 0
  | d :: r => uptoBulk d + uptoBulkAll r
def uptoBulkEntries {H : Type} : List (Lit × DataW H) → Nat
  | [] => 0
  | x :: r => uptoBulkEntry x + uptoBulkEntries r
def uptoBulkEntry {H : Type} : Lit × DataW H → Nat
  | (.string bytes, d) => bytes.length + uptoBulk d + 1
  | (_, d) => uptoBulk d + 1
 end
def uptoSmall : (H : Type) → List (DataW H) → Bool := fun _ ds => decide (uptoBulkAll ds ≤ 1048576)
def OpenSpec.upto (s : _root_.Go.ChangeSpec) : _root_.Go.OpenSpec := { _root_.Go.OpenSpec.ofChange s with cond := some uptoSmall }

/-- 'wlvlaw2.B64Tells', WHERE WHAT IT READS IS OF BULK AT MOST 1048576: true; the input reads as it did. -/
def b64TellsUptoRow : OpenClaim := { program := "ytgcgdfjldeihkaadoor", sum := "e6dcaff15c4c9eda016a03358bf5c99e390ddf5dc8cc431a5a0286f4dfa512bb", func := "wayleave/wlvlaw2.B64Tells", spec := "b64Tells", inPlace := ["internal/bytealg.IndexByteString", "internal/bytealg.IndexString", "internal/abi.NoEscape"], named := ["unicode/utf8.first", "unicode/utf8.acceptRanges", "internal/bytealg.MaxLen"], apart := false, laid := [("unicode/utf8.acceptRanges", laid_unicode_utf8_acceptRanges), ("unicode/utf8.first", laid_unicode_utf8_first)], narrowed := true }
def B64TellsUptoSaid : Prop := b64TellsUptoRow.holds Tryd.pinned (OpenSpec.upto b64TellsSpec)

/-- 'wlvlaw2.B64Back', WHERE WHAT IT READS IS OF BULK AT MOST 1048576: true; the input reads as it did. -/
def b64BackUptoRow : OpenClaim := { program := "ytgcgdfjldeihkaadoor", sum := "e6dcaff15c4c9eda016a03358bf5c99e390ddf5dc8cc431a5a0286f4dfa512bb", func := "wayleave/wlvlaw2.B64Back", spec := "b64Back", inPlace := ["internal/bytealg.IndexByteString", "internal/bytealg.IndexString", "internal/abi.NoEscape"], named := ["unicode/utf8.first", "unicode/utf8.acceptRanges", "internal/bytealg.MaxLen"], apart := false, laid := [("unicode/utf8.acceptRanges", laid_unicode_utf8_acceptRanges), ("unicode/utf8.first", laid_unicode_utf8_first)], narrowed := true }
def B64BackUptoSaid : Prop := b64BackUptoRow.holds Tryd.pinned (OpenSpec.upto b64BackSpec)

/-- 'wlvlaw2.B64Joins', WHERE WHAT IT READS IS OF BULK AT MOST 1048576: true; the input reads as it did. -/
def b64JoinsUptoRow : OpenClaim := { program := "ytgcgdfjldeihkaadoor", sum := "e6dcaff15c4c9eda016a03358bf5c99e390ddf5dc8cc431a5a0286f4dfa512bb", func := "wayleave/wlvlaw2.B64Joins", spec := "b64Joins", inPlace := ["internal/bytealg.IndexByteString", "internal/bytealg.IndexString", "internal/abi.NoEscape"], named := ["unicode/utf8.first", "unicode/utf8.acceptRanges", "internal/bytealg.MaxLen"], apart := false, laid := [("unicode/utf8.acceptRanges", laid_unicode_utf8_acceptRanges), ("unicode/utf8.first", laid_unicode_utf8_first)], narrowed := true }
def B64JoinsUptoSaid : Prop := b64JoinsUptoRow.holds Tryd.pinned (OpenSpec.upto b64JoinsSpec)

/-- 'wlvlaw2.B64Signs', WHERE WHAT IT READS IS OF BULK AT MOST 1048576: true; the input reads as it did. -/
def b64SignsUptoRow : OpenClaim := { program := "ytgcgdfjldeihkaadoor", sum := "e6dcaff15c4c9eda016a03358bf5c99e390ddf5dc8cc431a5a0286f4dfa512bb", func := "wayleave/wlvlaw2.B64Signs", spec := "b64Signs", inPlace := ["internal/bytealg.IndexByteString", "internal/bytealg.IndexString", "internal/abi.NoEscape"], named := ["unicode/utf8.first", "unicode/utf8.acceptRanges", "internal/bytealg.MaxLen"], apart := false, laid := [("unicode/utf8.acceptRanges", laid_unicode_utf8_acceptRanges), ("unicode/utf8.first", laid_unicode_utf8_first)], narrowed := true }
def B64SignsUptoSaid : Prop := b64SignsUptoRow.holds Tryd.pinned (OpenSpec.upto b64SignsSpec)

/-- 'wlvlaw24.AskPseudo', WHERE WHAT IT READS IS OF BULK AT MOST 1048576: true; the input reads as it did. -/
def askPseudoUptoRow : OpenClaim := { program := "ytgcgdfjldeihkaadoor", sum := "e6dcaff15c4c9eda016a03358bf5c99e390ddf5dc8cc431a5a0286f4dfa512bb", func := "wayleave/wlvlaw24.AskPseudo", spec := "askPseudo", inPlace := ["internal/bytealg.IndexByteString", "internal/bytealg.IndexString"], unfollowed := true, recurses := true, named := ["unicode/utf8.first", "unicode/utf8.acceptRanges", "internal/bytealg.MaxLen"], apart := false, laid := [("unicode/utf8.acceptRanges", laid_unicode_utf8_acceptRanges), ("unicode/utf8.first", laid_unicode_utf8_first)], narrowed := true }
def AskPseudoUptoSaid : Prop := askPseudoUptoRow.holds Tryd.pinned (OpenSpec.upto askPseudoSpec)

/-- 'wlvlaw24.AskNames', WHERE WHAT IT READS IS OF BULK AT MOST 1048576: true; the input reads as it did. -/
def askNamesUptoRow : OpenClaim := { program := "ytgcgdfjldeihkaadoor", sum := "e6dcaff15c4c9eda016a03358bf5c99e390ddf5dc8cc431a5a0286f4dfa512bb", func := "wayleave/wlvlaw24.AskNames", spec := "askNames", inPlace := ["internal/bytealg.IndexByteString", "internal/bytealg.IndexString"], unfollowed := true, recurses := true, named := ["unicode/utf8.first", "unicode/utf8.acceptRanges", "internal/bytealg.MaxLen"], apart := false, laid := [("unicode/utf8.acceptRanges", laid_unicode_utf8_acceptRanges), ("unicode/utf8.first", laid_unicode_utf8_first)], narrowed := true }
def AskNamesUptoSaid : Prop := askNamesUptoRow.holds Tryd.pinned (OpenSpec.upto askNamesSpec)

/-- 'wlvlaw24.AskOnce', WHERE WHAT IT READS IS OF BULK AT MOST 1048576: true; the input reads as it did. -/
def askOnceUptoRow : OpenClaim := { program := "ytgcgdfjldeihkaadoor", sum := "e6dcaff15c4c9eda016a03358bf5c99e390ddf5dc8cc431a5a0286f4dfa512bb", func := "wayleave/wlvlaw24.AskOnce", spec := "askOnce", inPlace := ["internal/bytealg.IndexByteString", "internal/bytealg.IndexString"], unfollowed := true, recurses := true, named := ["unicode/utf8.first", "unicode/utf8.acceptRanges", "internal/strconv.uint64pow10", "math/bits.deBruijn32tab", "math/bits.deBruijn64tab", "internal/bytealg.MaxLen"], apart := false, laid := [("math/bits.deBruijn32tab", laid_math_bits_deBruijn32tab), ("math/bits.deBruijn64tab", laid_math_bits_deBruijn64tab), ("internal/strconv.uint64pow10", laid_internal_strconv_uint64pow10), ("unicode/utf8.acceptRanges", laid_unicode_utf8_acceptRanges), ("unicode/utf8.first", laid_unicode_utf8_first)], narrowed := true }
def AskOnceUptoSaid : Prop := askOnceUptoRow.holds Tryd.pinned (OpenSpec.upto askOnceSpec)

/-- 'wlvlaw24.AskAnswers', WHERE WHAT IT READS IS OF BULK AT MOST 1048576: true; the input reads as it did. -/
def askAnswersUptoRow : OpenClaim := { program := "ytgcgdfjldeihkaadoor", sum := "e6dcaff15c4c9eda016a03358bf5c99e390ddf5dc8cc431a5a0286f4dfa512bb", func := "wayleave/wlvlaw24.AskAnswers", spec := "askAnswers", inPlace := ["internal/bytealg.IndexByteString", "internal/bytealg.IndexString"], unfollowed := true, recurses := true, named := ["unicode/utf8.first", "unicode/utf8.acceptRanges", "internal/strconv.uint64pow10", "math/bits.deBruijn32tab", "math/bits.deBruijn64tab", "internal/bytealg.MaxLen"], apart := false, laid := [("math/bits.deBruijn32tab", laid_math_bits_deBruijn32tab), ("math/bits.deBruijn64tab", laid_math_bits_deBruijn64tab), ("internal/strconv.uint64pow10", laid_internal_strconv_uint64pow10), ("unicode/utf8.acceptRanges", laid_unicode_utf8_acceptRanges), ("unicode/utf8.first", laid_unicode_utf8_first)], narrowed := true }
def AskAnswersUptoSaid : Prop := askAnswersUptoRow.holds Tryd.pinned (OpenSpec.upto askAnswersSpec)

end Rows
end Go.Proofs.YtgcgdfjldeihkaaDoor
