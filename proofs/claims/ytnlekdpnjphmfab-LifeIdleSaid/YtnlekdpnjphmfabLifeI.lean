/- The law of idle and closed streams: a plain fact on the Lean functions. -/
import Derived.Test.YtnlekdpnjphmfabGLife
namespace Go.Proofs.Ytnlekdpnjphmfab
open Vc
theorem first14 : F_wlvlaw14_first = true := by
  simp [F_wlvlaw14_first, F_life_Recv, F_life_carries, F_life_fault]
theorem idle14 (k : Int) (e : Bool) : F_wlvlaw14_LifeIdle k e = true := by
  unfold F_wlvlaw14_LifeIdle
  by_cases h : k < 0 ∨ 9 < k
  · have h0 : (k == 0) = false := beq_eq_false_iff_ne.2 (by omega)
    have h1 : (k == 1) = false := beq_eq_false_iff_ne.2 (by omega)
    have h2 : (k == 2) = false := beq_eq_false_iff_ne.2 (by omega)
    have h3 : (k == 3) = false := beq_eq_false_iff_ne.2 (by omega)
    have h8 : (k == 8) = false := beq_eq_false_iff_ne.2 (by omega)
    have hc : (decide (k < 0) || decide (k > 9)) = true := by
      simp only [Bool.or_eq_true, decide_eq_true_eq]
      omega
    simp [hc, first14, F_life_Recv, F_life_Send, F_life_carries, F_life_fault, F_life_ended, bne, h0, h1, h2, h3, h8]
  · have : k = 0 ∨ k = 1 ∨ k = 2 ∨ k = 3 ∨ k = 4 ∨ k = 5 ∨ k = 6 ∨ k = 7 ∨ k = 8 ∨ k = 9 := by omega
    rcases this with rfl | rfl | rfl | rfl | rfl | rfl | rfl | rfl | rfl | rfl <;> cases e <;>
      simp [first14, F_life_Recv, F_life_Send, F_life_carries, F_life_fault, F_life_ended]
end Go.Proofs.Ytnlekdpnjphmfab
