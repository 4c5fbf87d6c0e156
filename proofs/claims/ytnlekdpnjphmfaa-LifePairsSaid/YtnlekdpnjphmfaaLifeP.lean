/- The law of pairs: a plain fact on the Lean functions. -/
import Derived.Test.YtnlekdpnjphmfaaLife
namespace Go.Proofs.Ytnlekdpnjphmfaa
open Vc
theorem pairs14 (b1 b2 : Bool) (i : Int) : F_wlvlaw14_LifePairs b1 b2 i = true := by
  unfold F_wlvlaw14_LifePairs
  generalize bits .and .i64 i 3 = x
  by_cases h0 : x = 0
  · subst h0
    cases b1 <;> cases b2 <;> simp [first14, F_life_Recv, F_life_Send, F_life_carries, F_life_fault, F_life_ended]
  · have e0 := bf h0
    by_cases h1 : x = 1
    · subst h1
      cases b1 <;> cases b2 <;> simp [first14, F_life_Recv, F_life_Send, F_life_carries, F_life_fault, F_life_ended]
    · have e1 := bf h1
      cases b1 <;> cases b2 <;> simp [e0, e1, first14, F_life_Recv, F_life_Send, F_life_carries, F_life_fault, F_life_ended]
end Go.Proofs.Ytnlekdpnjphmfaa
