/- Settings: plain facts on what Apply computes. -/
import Derived.Test.YtnlekdpnjphmfaaSets
namespace Go.Proofs.Ytnlekdpnjphmfaa
open Vc
theorem runA_cases (s : S6) (l : List (Int × Int)) : (∃ k, runA s l = (zeroS, true, true, k) ∧ ∃ x ∈ l, wrongA x = k ∧ k ≠ 0) ∨ (runA s l = (l.foldl stepA s, false, false, 0) ∧ ∀ x ∈ l, wrongA x = 0) := by
  induction l generalizing s with
  | nil => exact .inr ⟨rfl, fun x hx => by cases hx⟩
  | cons x l ih =>
    by_cases h : wrongA x = 0
    · have e : runA s (x :: l) = runA (stepA s x) l := by simp [runA, h]
      rw [e]
      rcases ih (stepA s x) with ⟨k, h1, y, hy, h2⟩ | ⟨h1, h2⟩
      · exact .inl ⟨k, h1, y, by simp [hy], h2⟩
      · exact .inr ⟨h1, fun y hy => by rcases List.mem_cons.1 hy with rfl | hy; exact h; exact h2 y hy⟩
    · have : (wrongA x != 0) = true := by simpa using h
      exact .inl ⟨wrongA x, by simp only [runA, this, cond_true], x, by simp, rfl, h⟩
theorem runA_append (s : S6) (l1 l2 : List (Int × Int)) : runA s (l1 ++ l2) = cond (runA s l1).2.1 (runA s l1) (runA (runA s l1).1 l2) := by
  induction l1 generalizing s with
  | nil => rfl
  | cons x l ih =>
    simp only [List.cons_append, runA]
    cases h : wrongA x != 0 with
    | true => simp
    | false => simp [ih]
theorem runA_fold {s : S6} {l : List (Int × Int)} (h : ∀ x ∈ l, wrongA x = 0) : runA s l = (l.foldl stepA s, false, false, 0) := by
  rcases runA_cases s l with ⟨k, _, x, hx, h1, h2⟩ | ⟨h1, _⟩
  · exact absurd (h x hx) (by rw [h1]; exact h2)
  · exact h1
def in6 (x : Int × Int) : Bool := decide (x.1 ≥ 1) && decide (x.1 ≤ 6)
def lastOf : List (Int × Int) → List (Int × Int)
  | [] => []
  | x :: l => cond (in6 x && l.all fun y => y.1 != x.1) (x :: lastOf l) (lastOf l)
theorem lastOf_mem {l : List (Int × Int)} : ∀ x ∈ lastOf l, x ∈ l := by
  induction l with
  | nil => intro x hx; cases hx
  | cons y l ih =>
    intro x hx
    unfold lastOf at hx
    cases h : (in6 y && l.all fun z => z.1 != y.1) with
    | true =>
      rw [h] at hx
      rcases List.mem_cons.1 hx with rfl | hx
      · simp
      · exact List.mem_cons_of_mem _ (ih x hx)
    | false => rw [h] at hx; exact List.mem_cons_of_mem _ (ih x hx)
theorem in6_cases {x : Int × Int} (h : in6 x = true) : x.1 = 1 ∨ x.1 = 2 ∨ x.1 = 3 ∨ x.1 = 4 ∨ x.1 = 5 ∨ x.1 = 6 := by
  simp [in6] at h; omega
theorem stepA_out {x : Int × Int} (h : in6 x = false) (s : S6) : stepA s x = s := by
  obtain ⟨a, b, c, d, e, f⟩ := s
  have : x.1 ≠ 1 ∧ x.1 ≠ 2 ∧ x.1 ≠ 3 ∧ x.1 ≠ 4 ∧ x.1 ≠ 5 ∧ x.1 ≠ 6 := by simp [in6] at h; omega
  obtain ⟨g1, g2, g3, g4, g5, g6⟩ := this
  simp [stepA, beq_eq_false_iff_ne.2 g1, beq_eq_false_iff_ne.2 g2, beq_eq_false_iff_ne.2 g3, beq_eq_false_iff_ne.2 g4, beq_eq_false_iff_ne.2 g5, beq_eq_false_iff_ne.2 g6]
/-- Alike but for the number of k. -/
def but (k : Int) (s s' : S6) : Prop := stepA s (k, 0) = stepA s' (k, 0)
theorem but_step {k : Int} (hk : k = 1 ∨ k = 2 ∨ k = 3 ∨ k = 4 ∨ k = 5 ∨ k = 6) {s s' : S6} (h : but k s s') (y : Int × Int) : but k (stepA s y) (stepA s' y) ∧ (y.1 = k → stepA s y = stepA s' y) := by
  obtain ⟨a, b, c, d, e, f⟩ := s
  obtain ⟨a', b', c', d', e', f'⟩ := s'
  obtain ⟨y1, y2⟩ := y
  cases hy : in6 (y1, y2) with
  | false =>
    refine ⟨by rw [stepA_out hy, stepA_out hy]; exact h, fun e1 => ?_⟩
    simp [in6] at hy
    simp at e1
    omega
  | true =>
    rcases in6_cases hy with rfl | rfl | rfl | rfl | rfl | rfl <;> rcases hk with rfl | rfl | rfl | rfl | rfl | rfl <;> simp_all [but, stepA]
theorem but_fold {k : Int} (hk : k = 1 ∨ k = 2 ∨ k = 3 ∨ k = 4 ∨ k = 5 ∨ k = 6) : ∀ (l : List (Int × Int)) {s s' : S6}, but k s s' → (∃ y ∈ l, y.1 = k) → l.foldl stepA s = l.foldl stepA s'
  | [], _, _, _, ⟨y, hy, _⟩ => by cases hy
  | z :: l, s, s', h, ⟨y, hy, he⟩ => by
    obtain ⟨h1, h2⟩ := but_step hk h z
    by_cases hz : z.1 = k
    · rw [List.foldl_cons, List.foldl_cons, h2 hz]
    · refine but_fold hk l h1 ⟨y, ?_, he⟩
      rcases List.mem_cons.1 hy with rfl | hy
      · exact absurd he hz
      · exact hy
theorem but_self {x : Int × Int} (h : in6 x = true) (s : S6) : but x.1 (stepA s x) s := by
  obtain ⟨a, b, c, d, e, f⟩ := s
  obtain ⟨x1, x2⟩ := x
  rcases in6_cases h with h | h | h | h | h | h <;> simp at h <;> subst h <;> simp [but, stepA]
theorem fold_last : ∀ (l : List (Int × Int)) (s : S6), (lastOf l).foldl stepA s = l.foldl stepA s
  | [], s => rfl
  | x :: l, s => by
    unfold lastOf
    cases h : (in6 x && l.all fun y => y.1 != x.1) with
    | true => exact fold_last l (stepA s x)
    | false =>
      show (lastOf l).foldl stepA s = _
      rw [fold_last l s, List.foldl_cons]
      cases h6 : in6 x with
      | false => rw [stepA_out h6]
      | true =>
        rw [h6, Bool.true_and] at h
        obtain ⟨y, hy, he⟩ : ∃ y ∈ l, y.1 = x.1 := by
          have := List.all_eq_false.1 h
          obtain ⟨y, hy, hn⟩ := this
          exact ⟨y, hy, by simpa using hn⟩
        exact (but_fold (in6_cases h6) l (but_self h6 s) ⟨y, hy, he⟩).symm
theorem run_last {l : List (Int × Int)} {s : S6} (h : ∀ x ∈ l, wrongA x = 0) : runA s (lastOf l) = runA s l := by
  rw [runA_fold h, runA_fold fun x hx => h x (lastOf_mem x hx), fold_last]
end Go.Proofs.Ytnlekdpnjphmfaa
