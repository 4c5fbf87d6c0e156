/-
  No cell of these rows narrows 'for every input' (looked for: loops, veiled, ifaces, maps, wideKeys, modest, calm, conditions, laid).
  DERIVED. THE GIVEN ROWS OF THIS SEAT. 4 by the template 'for every input the law returns true; each argument reads behind the call as it read before'; 0 by the template 'total and deterministic' (their statements: YtgcgdfjldeihkaaTotals.lean).
  GIVEN WITH THE SEED: the statements are not yours to turn. If you find one false, say at which input.
  Laid BY PROGRAM, IN A SANDBOX (cutbox-rows.mjs): the forced cells as the released guide's own fill.sh prints them over the translation 2814975bd87cae1f… (all of the seat's roots in one cut). By AI agents, Wed Nov 11 2026. No macro, syntax, notation, axiom, sorry.
-/
import Derived.Test.YtgcgdfjldeihkaaChecked
import GoSem.Claim
import GoSem.ClaimJoined
import GoSem.ClaimMapViews
import Derived.JoinedTies
import Derived.KernelRfl
namespace Go.Proofs.Ytgcgdfjldeihkaa
/- THE CELL 'sum', in the pinned program and in every row, IS THE sha256 OF THE DUMP (.gsa) THAT YtgcgdfjldeihkaaProg.lean LOADS. Nothing in Lean hashes anything: it is a label: what it is worth is what the hold of that sum in a sandbox is worth. -/
noncomputable def Try.pinned : Pinned := { name := "ytgcgdfjldeihkaa", sum := "2814975bd87cae1f517195d8e44c852c23c777a5f2aef75323bbc5f729cf8348", checked := Try.checked }
namespace Rows
def none {H : Type} : Left H := { results := [], args := [] }

/-- 'wlvlaw3.ShaApart': WHATEVER THE INPUT: true; the input reads as it did. -/
def shaApartSpec : ChangeSpec := { name := "shaApart", fn := fun _ => fun
  | [d1, d2, d3, d4] => { results := [.lit (.bool true)], args := [d1, d2, d3, d4] }
  | _ => none }
def shaApartRow : OpenClaim := { program := "ytgcgdfjldeihkaa", sum := "2814975bd87cae1f517195d8e44c852c23c777a5f2aef75323bbc5f729cf8348", func := "wayleave/wlvlaw3.ShaApart", spec := "shaApart", inPlace := ["math/bits.Add64"], unfollowed := true, recurses := true, apart := false }
def ShaApartSaid : Prop := shaApartRow.holds Try.pinned (OpenSpec.ofChange shaApartSpec)

/-- ITS FALSE NEIGHBOUR: 'it returns false'. Refute it at one input. -/
def shaApartWrong : ChangeSpec := { name := "shaApart", fn := fun _ => fun
  | [d1, d2, d3, d4] => { results := [.lit (.bool false)], args := [d1, d2, d3, d4] }
  | _ => none }
def ShaApartWrongFalsely : Prop := shaApartRow.holds Try.pinned (OpenSpec.ofChange shaApartWrong)

/-- 'wlvlaw3.ShaBlocks': WHATEVER THE INPUT: true; the input reads as it did. -/
def shaBlocksSpec : ChangeSpec := { name := "shaBlocks", fn := fun _ => fun
  | [d1, d2] => { results := [.lit (.bool true)], args := [d1, d2] }
  | _ => none }
def shaBlocksRow : OpenClaim := { program := "ytgcgdfjldeihkaa", sum := "2814975bd87cae1f517195d8e44c852c23c777a5f2aef75323bbc5f729cf8348", func := "wayleave/wlvlaw3.ShaBlocks", spec := "shaBlocks", inPlace := ["math/bits.Add64"], unfollowed := true, recurses := true, apart := false }
def ShaBlocksSaid : Prop := shaBlocksRow.holds Try.pinned (OpenSpec.ofChange shaBlocksSpec)

/-- ITS FALSE NEIGHBOUR: 'it returns false'. Refute it at one input. -/
def shaBlocksWrong : ChangeSpec := { name := "shaBlocks", fn := fun _ => fun
  | [d1, d2] => { results := [.lit (.bool false)], args := [d1, d2] }
  | _ => none }
def ShaBlocksWrongFalsely : Prop := shaBlocksRow.holds Try.pinned (OpenSpec.ofChange shaBlocksWrong)

/-- 'wlvlaw3.ShaTells': WHATEVER THE INPUT: true; the input reads as it did. -/
def shaTellsSpec : ChangeSpec := { name := "shaTells", fn := fun _ => fun
  | [d1, d2, d3] => { results := [.lit (.bool true)], args := [d1, d2, d3] }
  | _ => none }
def shaTellsRow : OpenClaim := { program := "ytgcgdfjldeihkaa", sum := "2814975bd87cae1f517195d8e44c852c23c777a5f2aef75323bbc5f729cf8348", func := "wayleave/wlvlaw3.ShaTells", spec := "shaTells", inPlace := ["math/bits.Add64"], unfollowed := true, recurses := true, apart := false }
def ShaTellsSaid : Prop := shaTellsRow.holds Try.pinned (OpenSpec.ofChange shaTellsSpec)

/-- ITS FALSE NEIGHBOUR: 'it returns false'. Refute it at one input. -/
def shaTellsWrong : ChangeSpec := { name := "shaTells", fn := fun _ => fun
  | [d1, d2, d3] => { results := [.lit (.bool false)], args := [d1, d2, d3] }
  | _ => none }
def ShaTellsWrongFalsely : Prop := shaTellsRow.holds Try.pinned (OpenSpec.ofChange shaTellsWrong)

/-- 'wlvlaw3.ShaOwn': WHATEVER THE INPUT: true; the input reads as it did. -/
def shaOwnSpec : ChangeSpec := { name := "shaOwn", fn := fun _ => fun
  | [d1, d2] => { results := [.lit (.bool true)], args := [d1, d2] }
  | _ => none }
def shaOwnRow : OpenClaim := { program := "ytgcgdfjldeihkaa", sum := "2814975bd87cae1f517195d8e44c852c23c777a5f2aef75323bbc5f729cf8348", func := "wayleave/wlvlaw3.ShaOwn", spec := "shaOwn", inPlace := ["math/bits.Add64"], unfollowed := true, recurses := true, apart := false }
def ShaOwnSaid : Prop := shaOwnRow.holds Try.pinned (OpenSpec.ofChange shaOwnSpec)

/-- ITS FALSE NEIGHBOUR: 'it returns false'. Refute it at one input. -/
def shaOwnWrong : ChangeSpec := { name := "shaOwn", fn := fun _ => fun
  | [d1, d2] => { results := [.lit (.bool false)], args := [d1, d2] }
  | _ => none }
def ShaOwnWrongFalsely : Prop := shaOwnRow.holds Try.pinned (OpenSpec.ofChange shaOwnWrong)

/- THE SECOND FORM. 'bulk': how many values and letters a reading holds, each counted each time it is reached (what is shared counts as often as it is met; a slice's spare places count too). A statement '..UptoSaid' is the law's where the arguments, and the package variables that the reading takes, are together of bulk at most 1048576: NARROWER than '..Said'. Prove '..Said' where nothing that the law and all that it calls make is longer than what came in: it says more and counts as full. Else prove '..UptoSaid'. A law counts once. -/
mutual
def uptoBulk {H : Type} : DataW H → Nat
  | .lit (.string bytes) => bytes.length + 1
  | .lit _ => 1
  | .nil => 1
  | .ptr d => uptoBulk d + 1
  | .slice elems spare => uptoBulkAll elems + uptoBulkAll spare + 1
  | .agg parts => uptoBulkAll parts + 1
  | .iface _ d => uptoBulk d + 1
  | .map entries => uptoBulkEntries entries + 1
  | .held _ => 1
def uptoBulkAll {H : Type} : List (DataW H) → Nat
  | [] => 0
  | d :: r => uptoBulk d + uptoBulkAll r
def uptoBulkEntries {H : Type} : List (Lit × DataW H) → Nat
  | [] => 0
  | x :: r => uptoBulkEntry x + uptoBulkEntries r
def uptoBulkEntry {H : Type} : Lit × DataW H → Nat
  | (.string bytes, d) => bytes.length + uptoBulk d + 1
  | (_, d) => uptoBulk d + 1
 end
def uptoSmall : (H : Type) → List (DataW H) → Bool := fun _ ds => decide (uptoBulkAll ds ≤ 1048576)
def OpenSpec.upto (s : _root_.Go.ChangeSpec) : _root_.Go.OpenSpec := { _root_.Go.OpenSpec.ofChange s with cond := some uptoSmall }

/-- 'wlvlaw3.ShaApart', WHERE WHAT IT READS IS OF BULK AT MOST 1048576: true; the input reads as it did. -/
def shaApartUptoRow : OpenClaim := { program := "ytgcgdfjldeihkaa", sum := "2814975bd87cae1f517195d8e44c852c23c777a5f2aef75323bbc5f729cf8348", func := "wayleave/wlvlaw3.ShaApart", spec := "shaApart", inPlace := ["math/bits.Add64"], unfollowed := true, recurses := true, apart := false, narrowed := true }
def ShaApartUptoSaid : Prop := shaApartUptoRow.holds Try.pinned (OpenSpec.upto shaApartSpec)

/-- 'wlvlaw3.ShaBlocks', WHERE WHAT IT READS IS OF BULK AT MOST 1048576: true; the input reads as it did. -/
def shaBlocksUptoRow : OpenClaim := { program := "ytgcgdfjldeihkaa", sum := "2814975bd87cae1f517195d8e44c852c23c777a5f2aef75323bbc5f729cf8348", func := "wayleave/wlvlaw3.ShaBlocks", spec := "shaBlocks", inPlace := ["math/bits.Add64"], unfollowed := true, recurses := true, apart := false, narrowed := true }
def ShaBlocksUptoSaid : Prop := shaBlocksUptoRow.holds Try.pinned (OpenSpec.upto shaBlocksSpec)

/-- 'wlvlaw3.ShaTells', WHERE WHAT IT READS IS OF BULK AT MOST 1048576: true; the input reads as it did. -/
def shaTellsUptoRow : OpenClaim := { program := "ytgcgdfjldeihkaa", sum := "2814975bd87cae1f517195d8e44c852c23c777a5f2aef75323bbc5f729cf8348", func := "wayleave/wlvlaw3.ShaTells", spec := "shaTells", inPlace := ["math/bits.Add64"], unfollowed := true, recurses := true, apart := false, narrowed := true }
def ShaTellsUptoSaid : Prop := shaTellsUptoRow.holds Try.pinned (OpenSpec.upto shaTellsSpec)

/-- 'wlvlaw3.ShaOwn', WHERE WHAT IT READS IS OF BULK AT MOST 1048576: true; the input reads as it did. -/
def shaOwnUptoRow : OpenClaim := { program := "ytgcgdfjldeihkaa", sum := "2814975bd87cae1f517195d8e44c852c23c777a5f2aef75323bbc5f729cf8348", func := "wayleave/wlvlaw3.ShaOwn", spec := "shaOwn", inPlace := ["math/bits.Add64"], unfollowed := true, recurses := true, apart := false, narrowed := true }
def ShaOwnUptoSaid : Prop := shaOwnUptoRow.holds Try.pinned (OpenSpec.upto shaOwnSpec)

end Rows
end Go.Proofs.Ytgcgdfjldeihkaa
