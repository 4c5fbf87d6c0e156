/- Tables of the library: from a row's condition to a contract's fact. -/
import Derived.Test.YtgcgdfjldeihkaaQl
import Derived.Lib.LaidTab
import Derived.LaidSub
import Derived.MakeChecks
import Derived.Sort.Grow
import Derived.Deep.Draws
namespace Go.Proofs.Ytgcgdfjldeihkaa
open Go.RowKit
namespace Pv
set_option linter.unusedVariables false
def tabOf (g : Nat) (k : IntKind) (zs : List Int) : Nat × Array Value := (g, (zs.map fun z => Value.int k z).toArray)
theorem tabIs_now {P : Program} {w : World} {T : Tab} {name : String} {g : Nat} {k : IntKind} {zs : List Int} (hT : ∀ p ∈ T, ∃ ty fr, w.heap[p.1]? = some (.cells p.2 ty fr)) (hm : tabOf g k zs ∈ T) (hg : P.globalNamed name = some g) : Lib.TabIs P w name k zs := by
  obtain ⟨ty, fr, h⟩ := hT _ hm
  have h : w.heap[g]? = some (.cells (zs.map fun z => Value.int k z).toArray ty fr) := h
  unfold Lib.TabIs World.var?
  rw [hg, Option.bind_some, h]
theorem tab_laid {P : Program} {W : World} {l : List (String × DataW Unit)} {name : String} {k : IntKind} {zs : List Int} {g : Nat} {t e : TypeId} {n : Nat}
    (h : laidMetH P l W) (hl : (l.filter fun x => x.1 == name) = [(name, Lib.tabData k zs)]) (hg : P.globalNamed name = some g) (hty : (P.globals[g]?).map (·.type) = some t) (ht : P.underlying t = some (.array n e)) (he : P.underlying e = some (.int k)) (hce : P.cellsOf e = 1) (hct : P.cellsOf t = n) :
    ∃ ty fr, W.heap[(tabOf g k zs).1]? = some (.cells (tabOf g k zs).2 ty fr) := by
  have h1 := laidMetH.filter (fun x => x.1 == name) h
  rw [hl, MakeChecks.laidMetH_plain _ _ _ rfl] at h1
  have h2 := Lib.tabIs_of_head hg hty ht he hce hct h1
  unfold Lib.TabIs World.var? at h2
  rw [hg, Option.bind_some] at h2
  split at h2
  · rename_i cs ty fr hc
    injection h2 with h2
    subst h2
    exact ⟨ty, fr, hc⟩
  · cases h2
theorem below_grow (w : World) (k : Nat) (os : Array Obj) : Below w.heap.size w (Go.Sort.grow (w.drewN k) os) := by
  refine ⟨rfl, rfl, rfl, ?_, fun j hj => ?_⟩
  · rw [Go.Sort.size_grow]
    exact Nat.le_add_right _ _
  · exact Go.Sort.heap_grow_old (w.drewN k) os hj
end Pv
end Go.Proofs.Ytgcgdfjldeihkaa
