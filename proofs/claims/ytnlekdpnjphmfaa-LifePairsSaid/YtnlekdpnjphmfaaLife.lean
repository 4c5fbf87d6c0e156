/- The stream's states: the program's functions equal the reference's; plain facts on the Lean functions. -/
import Derived.Test.YtnlekdpnjphmfaaGLife
namespace Go.Proofs.Ytnlekdpnjphmfaa
open Vc
theorem bf {a b : Int} (h : a ≠ b) : (a == b) = false := beq_eq_false_iff_ne.2 h
theorem cases_s (s : Int) : s = 0 ∨ s = 1 ∨ s = 2 ∨ s = 3 ∨ s = 4 ∨ s = 5 ∨ ((s == 0) = false ∧ (s == 1) = false ∧ (s == 2) = false ∧ (s == 3) = false ∧ (s == 4) = false ∧ (s == 5) = false) := by
  by_cases h0 : s = 0 <;> by_cases h1 : s = 1 <;> by_cases h2 : s = 2 <;> by_cases h3 : s = 3 <;> by_cases h4 : s = 4 <;> by_cases h5 : s = 5 <;> simp [*]
theorem cases_k (k : Int) : k = 0 ∨ k = 1 ∨ k = 2 ∨ k = 3 ∨ k = 8 ∨ ((k == 0) = false ∧ (k == 1) = false ∧ (k == 2) = false ∧ (k == 3) = false ∧ (k == 8) = false) := by
  by_cases h0 : k = 0 <;> by_cases h1 : k = 1 <;> by_cases h2 : k = 2 <;> by_cases h3 : k = 3 <;> by_cases h4 : k = 8 <;> simp [*]
theorem recv_eq (s k : Int) (e : Bool) : F_life_Recv s k e = F_wlvref10_Recv s k e := by
  rcases cases_s s with rfl | rfl | rfl | rfl | rfl | rfl | ⟨a0, a1, a2, a3, a4, a5⟩ <;> rcases cases_k k with rfl | rfl | rfl | rfl | rfl | ⟨b0, b1, b2, b3, b4⟩ <;> cases e <;>
    simp [F_life_Recv, F_wlvref10_Recv, F_life_carries, F_life_fault, F_life_ended, F_wlvref10_fault, bne, *]
theorem send_eq (s k : Int) (e : Bool) : F_life_Send s k e = F_wlvref10_Send s k e := by
  rcases cases_s s with rfl | rfl | rfl | rfl | rfl | rfl | ⟨a0, a1, a2, a3, a4, a5⟩ <;> rcases cases_k k with rfl | rfl | rfl | rfl | rfl | ⟨b0, b1, b2, b3, b4⟩ <;> cases e <;>
    simp [F_life_Send, F_wlvref10_Send, F_life_carries, F_life_ended, bne, *]
theorem first14 : F_wlvlaw14_first = true := by
  simp [F_wlvlaw14_first, F_life_Recv, F_life_carries, F_life_fault]
theorem tells14 (s k : Int) (e : Bool) : F_wlvlaw14_LifeTells s k e = true := by
  unfold F_wlvlaw14_LifeTells
  simp only [first14, recv_eq, send_eq]
  rcases F_wlvref10_Recv s k e with ⟨a, b, c, d⟩
  rcases F_wlvref10_Send s k e with ⟨x, y⟩
  simp
end Go.Proofs.Ytnlekdpnjphmfaa
