/- AclNames: the plain part. -/
import Derived.Test.YtngjmippejkleaaGreatDoorQKeptA
namespace Go.Proofs.YtngjmippejkleaaGreatDoor
open Pv
set_option linter.unusedVariables false
theorem flip_all : (List.range 256).all (fun x => decide (0 ≤ bits .xor .u8 (x : Int) 1) && decide (bits .xor .u8 (x : Int) 1 < 256) && !(bits .xor .u8 (x : Int) 1 % 2 == (x : Int) % 2)) = true := by kernel_rfl
theorem flip_eq {x : Int} (hx : isB x) : isB (bits .xor .u8 x 1) ∧ bits .xor .u8 x 1 % 2 ≠ x % 2 := by
  have h := List.all_eq_true.1 flip_all x.toNat (List.mem_range.2 (by obtain ⟨_, _⟩ := hx; omega))
  rw [Int.toNat_of_nonneg hx.1] at h
  simp only [Bool.and_eq_true, decide_eq_true_eq, Bool.not_eq_true', beq_eq_false_iff_ne] at h
  exact ⟨h.1, h.2⟩
def inR (p f t : Int) : Bool := decide (p ≥ f) && decide (p ≤ t)
theorem fits_eq (b : Bool) (k : Int) (s3 s4 : List Int) (i5 f t : Int) (s8 s9 s10 : List Int) (p : Int) (X : Bool)
    (h : (cond (k == 0) (some true) (cond (k == 1) (some (s8 == s3)) (cond (k == 2) (cond (decide ((s8.length : Int) > (s3.length : Int))) ((F_strings_HasSuffix s8 s3).bind fun b12 => some b12) (some false)) (cond (k == 3) ((F_addr_In s4 i5 s10).bind fun b13 => some b13) (some false))))) = some X) :
    F_acl_Fits b k s3 s4 i5 f t s8 s9 s10 p = some (inR p f t && X) := by
  unfold F_acl_Fits inR
  rw [h]
  by_cases h1 : p < f
  · rw [decide_eq_true h1, decide_eq_false (show ¬ p ≥ f by omega)]; rfl
  · rw [decide_eq_false h1, decide_eq_true (show p ≥ f by omega), cond_false]
    by_cases h2 : p > t
    · rw [decide_eq_true h2, decide_eq_false (show ¬ p ≤ t by omega)]; rfl
    · rw [decide_eq_false h2, decide_eq_true (show p ≤ t by omega)]; rfl
theorem suffix_app (a p : List Int) (h : a.length + p.length ≤ 1000000) : F_strings_HasSuffix (a ++ p) p = some true := by
  unfold F_strings_HasSuffix F_internal_stringslite_HasSuffix
  have hl : ((a ++ p).length : Int) = (a.length : Int) + (p.length : Int) := by simp
  rw [hl, decide_eq_true (show (a.length : Int) + (p.length : Int) ≥ (p.length : Int) by omega), cond_true, wrap_in (by omega) (by omega)]
  have hc := cutI_nat (s := a ++ p) (a := a.length) (b := (a ++ p).length) (by simp) (by simp)
  rw [List.take_length, List.drop_left, hl] at hc
  rw [show (a.length : Int) + (p.length : Int) - (p.length : Int) = (a.length : Int) by omega, hc, Option.bind_some, beq_self_eq_true]; rfl
theorem AclNames_true (s1 s2 s3 : List Int) (p f t : Int) (h3 : ∀ x ∈ s3, isB x) : F_wlvlaw19_AclNames s1 s2 s3 p f t = some true := by
  unfold F_wlvlaw19_AclNames F_wlvlaw19_first
  rw [Option.bind_some, Bool.not_true, cond_false]
  by_cases hc : (((((((((decide ((s1.length : Int) < 1)) || (decide ((s1.length : Int) > 100))) || (decide ((s2.length : Int) > 100))) || ((s3.length : Int) != 4)) || (decide (p < 1))) || (decide (p > 65535))) || (decide (f < 1))) || (decide (t < f))) || (decide (t > 65535))) = true
  · rw [hc, cond_true]; rfl
  · have hc := Bool.eq_false_iff.2 hc
    rw [hc, cond_false]
    simp only [Bool.or_eq_false_iff, bne_eq_false_iff_eq, decide_eq_false_iff_not] at hc
    obtain ⟨⟨⟨⟨⟨⟨⟨⟨c1, c2⟩, c3⟩, c4⟩, c5⟩, c6⟩, c7⟩, c8⟩, c9⟩ := hc
    have l4 : s3.length = 4 := by omega
    have hml : ∀ n : Nat, n ≤ 1000 → Nat.ble n maxLen = true := fun n hn => Nat.ble_eq_true_of_le (by unfold maxLen; omega)
    obtain ⟨x, hx⟩ : ∃ x, s3[3]? = some x := ⟨s3[3], by rw [List.getElem?_eq_getElem]⟩
    have hg : getI s3 (3 : Int) = some x := getI_nat (i := 3) hx
    have hxB := h3 x (List.mem_of_getElem? hx)
    obtain ⟨fB, fne⟩ := flip_eq hxB
    unfold chk
    rw [hml _ (by rw [show s2.length + ([46] : List Int).length = s2.length + 1 from rfl]; omega), cond_true, hml _ (by rw [List.length_append, show ([46] : List Int).length = 1 from rfl]; omega), cond_true, hml _ (by rw [show ([46] : List Int).length = 1 from rfl]; omega), cond_true]
    rw [decide_eq_true (show (3 : Int) < (s3.length : Int) by omega), show (decide ((0 : Int) ≤ 3) && true) = true from rfl, cond_true, hg, Option.bind_some, cond_true, cond_true, Option.bind_some, cond_true]
    have e46 : (([46] : List Int) ++ s1) = 46 :: s1 := rfl
    have f1 := fits_eq false 1 s1 [] 0 f t s1 [] s3 p true (by show some (s1 == s1) = _; rw [beq_self_eq_true])
    have f2 := fits_eq false 1 s1 [] 0 f t ((s2 ++ ([46] : List Int)) ++ s1) [] s3 p false (by
      show some (((s2 ++ ([46] : List Int)) ++ s1) == s1) = _
      rw [beq_eq_false_iff_ne.2 fun e => by have := congrArg List.length e; simp at this; omega])
    have f3 := fits_eq false 2 (([46] : List Int) ++ s1) [] 0 f t s1 [] s3 p false (by
      show cond (decide ((s1.length : Int) > ((([46] : List Int) ++ s1).length : Int))) _ (some false) = _
      rw [decide_eq_false (by rw [e46, List.length_cons]; omega)]; rfl)
    have f4 := fits_eq false 2 (([46] : List Int) ++ s1) [] 0 f t ((s2 ++ ([46] : List Int)) ++ s1) [] s3 p (decide ((s2.length : Int) > 0)) (by
      show cond (decide ((((s2 ++ ([46] : List Int)) ++ s1).length : Int) > ((([46] : List Int) ++ s1).length : Int))) ((F_strings_HasSuffix ((s2 ++ ([46] : List Int)) ++ s1) (([46] : List Int) ++ s1)).bind fun b12 => some b12) (some false) = _
      have : (decide ((((s2 ++ ([46] : List Int)) ++ s1).length : Int) > ((([46] : List Int) ++ s1).length : Int))) = decide ((s2.length : Int) > 0) := decide_eq_decide.2 (by simp; omega)
      rw [this, List.append_assoc, suffix_app s2 _ (by rw [e46, List.length_cons]; omega)]
      cases decide ((s2.length : Int) > 0) <;> rfl)
    have f5 := fits_eq false 3 [] s3 32 f t s1 [] s3 p true (by
      show (F_addr_In s3 32 s3).bind (fun b13 => some b13) = _
      rw [In_eq s3 s3 32 (.inl l4) h3 h3 (by omega), beq_self_eq_true, decide_eq_true (show (32 : Int) ≤ 8 * (s3.length : Int) by omega), decide_eq_true rfl]; rfl)
    have ht : List.take s3.length (s3.set ((3 : Int)).toNat (bits .xor .u8 x 1)) = s3.set 3 (bits .xor .u8 x 1) := List.take_of_length_le (by simp)
    obtain ⟨u, hu⟩ : ∃ u, s3.set 3 (bits .xor .u8 x 1) = u := ⟨_, rfl⟩
    have hul : u.length = s3.length := by rw [← hu]; simp
    have huB : ∀ y ∈ u, isB y := fun y hy => by
      rw [← hu] at hy
      rcases List.mem_or_eq_of_mem_set hy with h | h
      · exact h3 y h
      · rw [h]; exact fB
    have f6 := fits_eq false 3 [] s3 32 f t s1 [] u p false (by
      show (F_addr_In s3 32 u).bind (fun b13 => some b13) = _
      rw [In_eq s3 u 32 (.inl l4) h3 huB (by omega)]
      have : (keptL 32 0 u == keptL 32 0 s3) = false := by
        rw [beq_eq_false_iff_ne]
        intro e
        have hb := (kept_iff 32 u s3 0 hul huB h3).1 e 31 (by omega) (by omega)
        have e1 : bitAt u 31 = bits .xor .u8 x 1 % 2 := by
          unfold bitAt bitI
          rw [List.getD_eq_getElem?_getD, ← hu]
          rw [List.getElem?_set]
          simp [l4]
        have e2 : bitAt s3 31 = x % 2 := by
          unfold bitAt bitI
          rw [List.getD_eq_getElem?_getD, show 31 / 8 = 3 from rfl, hx]
          simp
        rw [e1, e2] at hb
        exact fne hb
      rw [this, Bool.and_false]; rfl)
    rw [f1, Option.bind_some, f2, Option.bind_some, f3, Option.bind_some, f4, Option.bind_some, f5, Option.bind_some, ht, hu, f6, Option.bind_some]
    rw [Nat.ble_eq_true_of_le (show s3.length ≤ (s3.set ((3 : Int)).toNat (bits .xor .u8 x 1)).length by simp)]
    rw [decide_eq_true (show (s1.length : Int) < ((([46] : List Int) ++ s1).length : Int) by rw [e46, List.length_cons]; omega)]
    show cond (bEq (inR p f t && true) (inR p f t)) (cond (!(inR p f t && false)) (cond true (cond (bEq (!(inR p f t && false)) (true || !(inR p f t))) (cond (bEq (inR p f t && decide ((s2.length : Int) > 0)) (inR p f t && decide ((s2.length : Int) > 0))) (cond (bEq (inR p f t && true) (inR p f t)) (cond true (some (!(inR p f t && false))) none) (some false)) (some false)) (some false)) none) (some false)) (some false) = some true
    cases inR p f t <;> cases decide ((s2.length : Int) > 0) <;> rfl
end Go.Proofs.YtngjmippejkleaaGreatDoor
