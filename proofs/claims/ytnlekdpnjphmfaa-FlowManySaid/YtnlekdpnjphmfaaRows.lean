/-
  No cell of these rows narrows 'for every input' (looked for: loops, veiled, ifaces, maps, wideKeys, modest, calm, conditions, laid).
  DERIVED. THE GIVEN ROWS OF THIS SEAT. 11 by the template 'for every input the law returns true; each argument reads behind the call as it read before'; 0 by the template 'total and deterministic' (their statements: YtnlekdpnjphmfaaTotals.lean).
  GIVEN WITH THE SEED: the statements are not yours to turn. If you find one false, say at which input.
  Laid BY PROGRAM, IN A SANDBOX (cutbox-rows.mjs): the forced cells as the released guide's own fill.sh prints them over the translation fec150865f556fb7… (all of the seat's roots in one cut). By AI agents, Wed Nov 11 2026. No macro, syntax, notation, axiom, sorry.
-/
import Derived.Test.YtnlekdpnjphmfaaChecked
import GoSem.Claim
import GoSem.ClaimJoined
import GoSem.ClaimMapViews
import Derived.JoinedTies
import Derived.KernelRfl
namespace Go.Proofs.Ytnlekdpnjphmfaa
/- THE CELL 'sum', in the pinned program and in every row, IS THE sha256 OF THE DUMP (.gsa) THAT YtnlekdpnjphmfaaProg.lean LOADS. Nothing in Lean hashes anything: it is a label: what it is worth is what the hold of that sum in a sandbox is worth. -/
noncomputable def Try.pinned : Pinned := { name := "ytnlekdpnjphmfaa", sum := "fec150865f556fb7fac4b9bd5bc9e6c29ef5e8fd55ae77bacb660630ed1aae16", checked := Try.checked }
namespace Rows
def none {H : Type} : Left H := { results := [], args := [] }

/-- 'wlvlaw12.FlowMany': WHATEVER THE INPUT: true; the input reads as it did. -/
def flowManySpec : ChangeSpec := { name := "flowMany", fn := fun _ => fun
  | [d1, d2, d3] => { results := [.lit (.bool true)], args := [d1, d2, d3] }
  | _ => none }
def flowManyRow : OpenClaim := { program := "ytnlekdpnjphmfaa", sum := "fec150865f556fb7fac4b9bd5bc9e6c29ef5e8fd55ae77bacb660630ed1aae16", func := "wayleave/wlvlaw12.FlowMany", spec := "flowMany", apart := false }
def FlowManySaid : Prop := flowManyRow.holds Try.pinned (OpenSpec.ofChange flowManySpec)

/-- ITS FALSE NEIGHBOUR: 'it returns false'. Refute it at one input. -/
def flowManyWrong : ChangeSpec := { name := "flowMany", fn := fun _ => fun
  | [d1, d2, d3] => { results := [.lit (.bool false)], args := [d1, d2, d3] }
  | _ => none }
def FlowManyWrongFalsely : Prop := flowManyRow.holds Try.pinned (OpenSpec.ofChange flowManyWrong)

/-- 'wlvlaw13.SetsTells': WHATEVER THE INPUT: true; the input reads as it did. -/
def setsTellsSpec : ChangeSpec := { name := "setsTells", fn := fun _ => fun
  | [d1, d2] => { results := [.lit (.bool true)], args := [d1, d2] }
  | _ => none }
def setsTellsRow : OpenClaim := { program := "ytnlekdpnjphmfaa", sum := "fec150865f556fb7fac4b9bd5bc9e6c29ef5e8fd55ae77bacb660630ed1aae16", func := "wayleave/wlvlaw13.SetsTells", spec := "setsTells", apart := false }
def SetsTellsSaid : Prop := setsTellsRow.holds Try.pinned (OpenSpec.ofChange setsTellsSpec)

/-- ITS FALSE NEIGHBOUR: 'it returns false'. Refute it at one input. -/
def setsTellsWrong : ChangeSpec := { name := "setsTells", fn := fun _ => fun
  | [d1, d2] => { results := [.lit (.bool false)], args := [d1, d2] }
  | _ => none }
def SetsTellsWrongFalsely : Prop := setsTellsRow.holds Try.pinned (OpenSpec.ofChange setsTellsWrong)

/-- 'wlvlaw13.SetsLast': WHATEVER THE INPUT: true; the input reads as it did. -/
def setsLastSpec : ChangeSpec := { name := "setsLast", fn := fun _ => fun
  | [d1, d2] => { results := [.lit (.bool true)], args := [d1, d2] }
  | _ => none }
def setsLastRow : OpenClaim := { program := "ytnlekdpnjphmfaa", sum := "fec150865f556fb7fac4b9bd5bc9e6c29ef5e8fd55ae77bacb660630ed1aae16", func := "wayleave/wlvlaw13.SetsLast", spec := "setsLast", apart := false }
def SetsLastSaid : Prop := setsLastRow.holds Try.pinned (OpenSpec.ofChange setsLastSpec)

/-- ITS FALSE NEIGHBOUR: 'it returns false'. Refute it at one input. -/
def setsLastWrong : ChangeSpec := { name := "setsLast", fn := fun _ => fun
  | [d1, d2] => { results := [.lit (.bool false)], args := [d1, d2] }
  | _ => none }
def SetsLastWrongFalsely : Prop := setsLastRow.holds Try.pinned (OpenSpec.ofChange setsLastWrong)

/-- 'wlvlaw13.SetsEach': WHATEVER THE INPUT: true; the input reads as it did. -/
def setsEachSpec : ChangeSpec := { name := "setsEach", fn := fun _ => fun
  | [d1, d2] => { results := [.lit (.bool true)], args := [d1, d2] }
  | _ => none }
def setsEachRow : OpenClaim := { program := "ytnlekdpnjphmfaa", sum := "fec150865f556fb7fac4b9bd5bc9e6c29ef5e8fd55ae77bacb660630ed1aae16", func := "wayleave/wlvlaw13.SetsEach", spec := "setsEach", apart := false }
def SetsEachSaid : Prop := setsEachRow.holds Try.pinned (OpenSpec.ofChange setsEachSpec)

/-- ITS FALSE NEIGHBOUR: 'it returns false'. Refute it at one input. -/
def setsEachWrong : ChangeSpec := { name := "setsEach", fn := fun _ => fun
  | [d1, d2] => { results := [.lit (.bool false)], args := [d1, d2] }
  | _ => none }
def SetsEachWrongFalsely : Prop := setsEachRow.holds Try.pinned (OpenSpec.ofChange setsEachWrong)

/-- 'wlvlaw13.SetsFault': WHATEVER THE INPUT: true; the input reads as it did. -/
def setsFaultSpec : ChangeSpec := { name := "setsFault", fn := fun _ => fun
  | [d1, d2] => { results := [.lit (.bool true)], args := [d1, d2] }
  | _ => none }
def setsFaultRow : OpenClaim := { program := "ytnlekdpnjphmfaa", sum := "fec150865f556fb7fac4b9bd5bc9e6c29ef5e8fd55ae77bacb660630ed1aae16", func := "wayleave/wlvlaw13.SetsFault", spec := "setsFault", apart := false }
def SetsFaultSaid : Prop := setsFaultRow.holds Try.pinned (OpenSpec.ofChange setsFaultSpec)

/-- ITS FALSE NEIGHBOUR: 'it returns false'. Refute it at one input. -/
def setsFaultWrong : ChangeSpec := { name := "setsFault", fn := fun _ => fun
  | [d1, d2] => { results := [.lit (.bool false)], args := [d1, d2] }
  | _ => none }
def SetsFaultWrongFalsely : Prop := setsFaultRow.holds Try.pinned (OpenSpec.ofChange setsFaultWrong)

/-- 'wlvlaw12.FlowTops': WHATEVER THE INPUT: true; the input reads as it did. -/
def flowTopsSpec : ChangeSpec := { name := "flowTops", fn := fun _ => fun
  | [d1, d2, d3, d4] => { results := [.lit (.bool true)], args := [d1, d2, d3, d4] }
  | _ => none }
def flowTopsRow : OpenClaim := { program := "ytnlekdpnjphmfaa", sum := "fec150865f556fb7fac4b9bd5bc9e6c29ef5e8fd55ae77bacb660630ed1aae16", func := "wayleave/wlvlaw12.FlowTops", spec := "flowTops", apart := false }
def FlowTopsSaid : Prop := flowTopsRow.holds Try.pinned (OpenSpec.ofChange flowTopsSpec)

/-- ITS FALSE NEIGHBOUR: 'it returns false'. Refute it at one input. -/
def flowTopsWrong : ChangeSpec := { name := "flowTops", fn := fun _ => fun
  | [d1, d2, d3, d4] => { results := [.lit (.bool false)], args := [d1, d2, d3, d4] }
  | _ => none }
def FlowTopsWrongFalsely : Prop := flowTopsRow.holds Try.pinned (OpenSpec.ofChange flowTopsWrong)

/-- 'wlvlaw12.FlowBack': WHATEVER THE INPUT: true; the input reads as it did. -/
def flowBackSpec : ChangeSpec := { name := "flowBack", fn := fun _ => fun
  | [d1, d2, d3, d4] => { results := [.lit (.bool true)], args := [d1, d2, d3, d4] }
  | _ => none }
def flowBackRow : OpenClaim := { program := "ytnlekdpnjphmfaa", sum := "fec150865f556fb7fac4b9bd5bc9e6c29ef5e8fd55ae77bacb660630ed1aae16", func := "wayleave/wlvlaw12.FlowBack", spec := "flowBack", apart := false }
def FlowBackSaid : Prop := flowBackRow.holds Try.pinned (OpenSpec.ofChange flowBackSpec)

/-- ITS FALSE NEIGHBOUR: 'it returns false'. Refute it at one input. -/
def flowBackWrong : ChangeSpec := { name := "flowBack", fn := fun _ => fun
  | [d1, d2, d3, d4] => { results := [.lit (.bool false)], args := [d1, d2, d3, d4] }
  | _ => none }
def FlowBackWrongFalsely : Prop := flowBackRow.holds Try.pinned (OpenSpec.ofChange flowBackWrong)

/-- 'wlvlaw12.FlowBelow': WHATEVER THE INPUT: true; the input reads as it did. -/
def flowBelowSpec : ChangeSpec := { name := "flowBelow", fn := fun _ => fun
  | [d1, d2, d3] => { results := [.lit (.bool true)], args := [d1, d2, d3] }
  | _ => none }
def flowBelowRow : OpenClaim := { program := "ytnlekdpnjphmfaa", sum := "fec150865f556fb7fac4b9bd5bc9e6c29ef5e8fd55ae77bacb660630ed1aae16", func := "wayleave/wlvlaw12.FlowBelow", spec := "flowBelow", apart := false }
def FlowBelowSaid : Prop := flowBelowRow.holds Try.pinned (OpenSpec.ofChange flowBelowSpec)

/-- ITS FALSE NEIGHBOUR: 'it returns false'. Refute it at one input. -/
def flowBelowWrong : ChangeSpec := { name := "flowBelow", fn := fun _ => fun
  | [d1, d2, d3] => { results := [.lit (.bool false)], args := [d1, d2, d3] }
  | _ => none }
def FlowBelowWrongFalsely : Prop := flowBelowRow.holds Try.pinned (OpenSpec.ofChange flowBelowWrong)

/-- 'wlvlaw14.LifeTells': WHATEVER THE INPUT: true; the input reads as it did. -/
def lifeTellsSpec : ChangeSpec := { name := "lifeTells", fn := fun _ => fun
  | [d1, d2, d3] => { results := [.lit (.bool true)], args := [d1, d2, d3] }
  | _ => none }
def lifeTellsRow : OpenClaim := { program := "ytnlekdpnjphmfaa", sum := "fec150865f556fb7fac4b9bd5bc9e6c29ef5e8fd55ae77bacb660630ed1aae16", func := "wayleave/wlvlaw14.LifeTells", spec := "lifeTells", apart := false }
def LifeTellsSaid : Prop := lifeTellsRow.holds Try.pinned (OpenSpec.ofChange lifeTellsSpec)

/-- ITS FALSE NEIGHBOUR: 'it returns false'. Refute it at one input. -/
def lifeTellsWrong : ChangeSpec := { name := "lifeTells", fn := fun _ => fun
  | [d1, d2, d3] => { results := [.lit (.bool false)], args := [d1, d2, d3] }
  | _ => none }
def LifeTellsWrongFalsely : Prop := lifeTellsRow.holds Try.pinned (OpenSpec.ofChange lifeTellsWrong)

/-- 'wlvlaw14.LifeEnds': WHATEVER THE INPUT: true; the input reads as it did. -/
def lifeEndsSpec : ChangeSpec := { name := "lifeEnds", fn := fun _ => fun
  | [d] => { results := [.lit (.bool true)], args := [d] }
  | _ => none }
def lifeEndsRow : OpenClaim := { program := "ytnlekdpnjphmfaa", sum := "fec150865f556fb7fac4b9bd5bc9e6c29ef5e8fd55ae77bacb660630ed1aae16", func := "wayleave/wlvlaw14.LifeEnds", spec := "lifeEnds", apart := false }
def LifeEndsSaid : Prop := lifeEndsRow.holds Try.pinned (OpenSpec.ofChange lifeEndsSpec)

/-- ITS FALSE NEIGHBOUR: 'it returns false'. Refute it at one input. -/
def lifeEndsWrong : ChangeSpec := { name := "lifeEnds", fn := fun _ => fun
  | [d] => { results := [.lit (.bool false)], args := [d] }
  | _ => none }
def LifeEndsWrongFalsely : Prop := lifeEndsRow.holds Try.pinned (OpenSpec.ofChange lifeEndsWrong)

/-- 'wlvlaw14.LifePairs': WHATEVER THE INPUT: true; the input reads as it did. -/
def lifePairsSpec : ChangeSpec := { name := "lifePairs", fn := fun _ => fun
  | [d1, d2, d3] => { results := [.lit (.bool true)], args := [d1, d2, d3] }
  | _ => none }
def lifePairsRow : OpenClaim := { program := "ytnlekdpnjphmfaa", sum := "fec150865f556fb7fac4b9bd5bc9e6c29ef5e8fd55ae77bacb660630ed1aae16", func := "wayleave/wlvlaw14.LifePairs", spec := "lifePairs", apart := false }
def LifePairsSaid : Prop := lifePairsRow.holds Try.pinned (OpenSpec.ofChange lifePairsSpec)

/-- ITS FALSE NEIGHBOUR: 'it returns false'. Refute it at one input. -/
def lifePairsWrong : ChangeSpec := { name := "lifePairs", fn := fun _ => fun
  | [d1, d2, d3] => { results := [.lit (.bool false)], args := [d1, d2, d3] }
  | _ => none }
def LifePairsWrongFalsely : Prop := lifePairsRow.holds Try.pinned (OpenSpec.ofChange lifePairsWrong)

/- THE SECOND FORM. 'bulk': how many values and letters a reading holds, each counted each time it is reached (what is shared counts as often as it is met; a slice's spare places count too). A statement '..UptoSaid' is the law's where the arguments, and the package variables that the reading takes, are together of bulk at most 1048576: NARROWER than '..Said'. Prove '..Said' where nothing that the law and all that it calls make is longer than what came in: it says more and counts as full. Else prove '..UptoSaid'. A law counts once. -/
mutual
def uptoBulk {H : Type} : DataW H → Nat
  | .lit (.string bytes) => bytes.length + 1
  | .lit _ => 1
  | .nil => 1
  | .ptr d => uptoBulk d + 1
  | .slice elems spare => uptoBulkAll elems + uptoBulkAll spare + 1
  | .agg parts => uptoBulkAll parts + 1
  | .iface _ d => uptoBulk d + 1
  | .map entries => uptoBulkEntries entries + 1
  | .held _ => 1
def uptoBulkAll {H : Type} : List (DataW H) → Nat
  | [] => 0
  | d :: r => uptoBulk d + uptoBulkAll r
def uptoBulkEntries {H : Type} : List (Lit × DataW H) → Nat
  | [] => 0
  | x :: r => uptoBulkEntry x + uptoBulkEntries r
def uptoBulkEntry {H : Type} : Lit × DataW H → Nat
  | (.string bytes, d) => bytes.length + uptoBulk d + 1
  | (_, d) => uptoBulk d + 1
 end
def uptoSmall : (H : Type) → List (DataW H) → Bool := fun _ ds => decide (uptoBulkAll ds ≤ 1048576)
def OpenSpec.upto (s : _root_.Go.ChangeSpec) : _root_.Go.OpenSpec := { _root_.Go.OpenSpec.ofChange s with cond := some uptoSmall }

/-- 'wlvlaw12.FlowMany', WHERE WHAT IT READS IS OF BULK AT MOST 1048576: true; the input reads as it did. -/
def flowManyUptoRow : OpenClaim := { program := "ytnlekdpnjphmfaa", sum := "fec150865f556fb7fac4b9bd5bc9e6c29ef5e8fd55ae77bacb660630ed1aae16", func := "wayleave/wlvlaw12.FlowMany", spec := "flowMany", apart := false, narrowed := true }
def FlowManyUptoSaid : Prop := flowManyUptoRow.holds Try.pinned (OpenSpec.upto flowManySpec)

/-- 'wlvlaw13.SetsTells', WHERE WHAT IT READS IS OF BULK AT MOST 1048576: true; the input reads as it did. -/
def setsTellsUptoRow : OpenClaim := { program := "ytnlekdpnjphmfaa", sum := "fec150865f556fb7fac4b9bd5bc9e6c29ef5e8fd55ae77bacb660630ed1aae16", func := "wayleave/wlvlaw13.SetsTells", spec := "setsTells", apart := false, narrowed := true }
def SetsTellsUptoSaid : Prop := setsTellsUptoRow.holds Try.pinned (OpenSpec.upto setsTellsSpec)

/-- 'wlvlaw13.SetsLast', WHERE WHAT IT READS IS OF BULK AT MOST 1048576: true; the input reads as it did. -/
def setsLastUptoRow : OpenClaim := { program := "ytnlekdpnjphmfaa", sum := "fec150865f556fb7fac4b9bd5bc9e6c29ef5e8fd55ae77bacb660630ed1aae16", func := "wayleave/wlvlaw13.SetsLast", spec := "setsLast", apart := false, narrowed := true }
def SetsLastUptoSaid : Prop := setsLastUptoRow.holds Try.pinned (OpenSpec.upto setsLastSpec)

/-- 'wlvlaw13.SetsEach', WHERE WHAT IT READS IS OF BULK AT MOST 1048576: true; the input reads as it did. -/
def setsEachUptoRow : OpenClaim := { program := "ytnlekdpnjphmfaa", sum := "fec150865f556fb7fac4b9bd5bc9e6c29ef5e8fd55ae77bacb660630ed1aae16", func := "wayleave/wlvlaw13.SetsEach", spec := "setsEach", apart := false, narrowed := true }
def SetsEachUptoSaid : Prop := setsEachUptoRow.holds Try.pinned (OpenSpec.upto setsEachSpec)

/-- 'wlvlaw13.SetsFault', WHERE WHAT IT READS IS OF BULK AT MOST 1048576: true; the input reads as it did. -/
def setsFaultUptoRow : OpenClaim := { program := "ytnlekdpnjphmfaa", sum := "fec150865f556fb7fac4b9bd5bc9e6c29ef5e8fd55ae77bacb660630ed1aae16", func := "wayleave/wlvlaw13.SetsFault", spec := "setsFault", apart := false, narrowed := true }
def SetsFaultUptoSaid : Prop := setsFaultUptoRow.holds Try.pinned (OpenSpec.upto setsFaultSpec)

/-- 'wlvlaw12.FlowTops', WHERE WHAT IT READS IS OF BULK AT MOST 1048576: true; the input reads as it did. -/
def flowTopsUptoRow : OpenClaim := { program := "ytnlekdpnjphmfaa", sum := "fec150865f556fb7fac4b9bd5bc9e6c29ef5e8fd55ae77bacb660630ed1aae16", func := "wayleave/wlvlaw12.FlowTops", spec := "flowTops", apart := false, narrowed := true }
def FlowTopsUptoSaid : Prop := flowTopsUptoRow.holds Try.pinned (OpenSpec.upto flowTopsSpec)

/-- 'wlvlaw12.FlowBack', WHERE WHAT IT READS IS OF BULK AT MOST 1048576: true; the input reads as it did. -/
def flowBackUptoRow : OpenClaim := { program := "ytnlekdpnjphmfaa", sum := "fec150865f556fb7fac4b9bd5bc9e6c29ef5e8fd55ae77bacb660630ed1aae16", func := "wayleave/wlvlaw12.FlowBack", spec := "flowBack", apart := false, narrowed := true }
def FlowBackUptoSaid : Prop := flowBackUptoRow.holds Try.pinned (OpenSpec.upto flowBackSpec)

/-- 'wlvlaw12.FlowBelow', WHERE WHAT IT READS IS OF BULK AT MOST 1048576: true; the input reads as it did. -/
def flowBelowUptoRow : OpenClaim := { program := "ytnlekdpnjphmfaa", sum := "fec150865f556fb7fac4b9bd5bc9e6c29ef5e8fd55ae77bacb660630ed1aae16", func := "wayleave/wlvlaw12.FlowBelow", spec := "flowBelow", apart := false, narrowed := true }
def FlowBelowUptoSaid : Prop := flowBelowUptoRow.holds Try.pinned (OpenSpec.upto flowBelowSpec)

/-- 'wlvlaw14.LifeTells', WHERE WHAT IT READS IS OF BULK AT MOST 1048576: true; the input reads as it did. -/
def lifeTellsUptoRow : OpenClaim := { program := "ytnlekdpnjphmfaa", sum := "fec150865f556fb7fac4b9bd5bc9e6c29ef5e8fd55ae77bacb660630ed1aae16", func := "wayleave/wlvlaw14.LifeTells", spec := "lifeTells", apart := false, narrowed := true }
def LifeTellsUptoSaid : Prop := lifeTellsUptoRow.holds Try.pinned (OpenSpec.upto lifeTellsSpec)

/-- 'wlvlaw14.LifeEnds', WHERE WHAT IT READS IS OF BULK AT MOST 1048576: true; the input reads as it did. -/
def lifeEndsUptoRow : OpenClaim := { program := "ytnlekdpnjphmfaa", sum := "fec150865f556fb7fac4b9bd5bc9e6c29ef5e8fd55ae77bacb660630ed1aae16", func := "wayleave/wlvlaw14.LifeEnds", spec := "lifeEnds", apart := false, narrowed := true }
def LifeEndsUptoSaid : Prop := lifeEndsUptoRow.holds Try.pinned (OpenSpec.upto lifeEndsSpec)

/-- 'wlvlaw14.LifePairs', WHERE WHAT IT READS IS OF BULK AT MOST 1048576: true; the input reads as it did. -/
def lifePairsUptoRow : OpenClaim := { program := "ytnlekdpnjphmfaa", sum := "fec150865f556fb7fac4b9bd5bc9e6c29ef5e8fd55ae77bacb660630ed1aae16", func := "wayleave/wlvlaw14.LifePairs", spec := "lifePairs", apart := false, narrowed := true }
def LifePairsUptoSaid : Prop := lifePairsUptoRow.holds Try.pinned (OpenSpec.upto lifePairsSpec)

end Rows
end Go.Proofs.Ytnlekdpnjphmfaa
