/- Texts of this claim, one behind the other. -/
import Derived.Test.YtblngdnndkljoaaDoorHostBackM4
import Derived.Laws.BitsLemmas
import Derived.KernelRfl
/- addr.coloned in plain words: the machine of its labels. -/
namespace Go.Proofs.YtblngdnndkljoaaDoor
open Pv
set_option linter.unusedVariables false
def dg (c : Int) : Int := if 48 ≤ c ∧ c ≤ 57 then c - 48 else if 97 ≤ c ∧ c ≤ 102 then c - 87 else if 65 ≤ c ∧ c ≤ 70 then c - 55 else -1
theorem dg_in (c : Int) : -1 ≤ dg c ∧ dg c < 16 := by unfold dg; split; omega; split; omega; split; omega; omega
theorem dg_58 : dg 58 = -1 := rfl
theorem u8_sm {x : Int} (h0 : 0 ≤ x) (h1 : x < 256) : IntKind.u8.wrap x = x := by rw [IntKind.wrap_u8]; omega
theorem digit_eq (c : Int) : F_addr_digit c = some (dg c) := by
  unfold F_addr_digit dg
  by_cases h1 : 48 ≤ c ∧ c ≤ 57
  · rw [show (decide (c ≥ 48) && decide (c ≤ 57)) = true by simpa using h1, cond_true, if_pos h1, u8_sm (by omega) (by omega), wrap_in (by omega) (by omega)]
  · rw [show (decide (c ≥ 48) && decide (c ≤ 57)) = false by simp; omega, cond_false, if_neg h1]
    by_cases h2 : 97 ≤ c ∧ c ≤ 102
    · rw [show (decide (c ≥ 97) && decide (c ≤ 102)) = true by simpa using h2, cond_true, if_pos h2, u8_sm (by omega) (by omega), wrap_in (x := c - 97) (by omega) (by omega), wrap_in (by omega) (by omega)]
      congr 1; omega
    · rw [show (decide (c ≥ 97) && decide (c ≤ 102)) = false by simp; omega, cond_false, if_neg h2]
      by_cases h3 : 65 ≤ c ∧ c ≤ 70
      · rw [show (decide (c ≥ 65) && decide (c ≤ 70)) = true by simpa using h3, cond_true, if_pos h3, u8_sm (by omega) (by omega), wrap_in (x := c - 65) (by omega) (by omega), wrap_in (by omega) (by omega)]
        congr 1; omega
      · rw [show (decide (c ≥ 65) && decide (c ≤ 70)) = false by simp; omega, cond_false, if_neg h3]
theorem or16 {n d : Int} (h0 : 0 ≤ n) (h1 : n < 65536) (h2 : 0 ≤ d) (h3 : d < 16) : bits .or .i64 (IntKind.i64.wrap (n * 2 ^ 4)) d = n * 16 + d := by
  have e : n * 2 ^ 4 = n * 16 := rfl
  rw [e, wrap_in (by omega) (by omega)]
  exact bits_join .i64 40 (by decide) (fun n h0 h1 => wrap_in (by omega) (by have e : (2 : Int) ^ 40 = 1099511627776 := by decide
                                                                             omega)) 4 (n * 16) d (by omega) (by omega) (by have e : (2 : Int) ^ 40 = 1099511627776 := by decide
                                                                                                                            omega) h2 h3 (by have e : (2 : Int) ^ 40 = 1099511627776 := by decide
                                                                                                                                             omega)
def digs : List Int → Int → Nat → Int × List Int
  | [], n, _ => (n, [])
  | c :: r, n, z => cond (decide (0 ≤ dg c) && decide (z < 4)) (digs r (n * 16 + dg c) (z + 1)) (n, c :: r)
def by2 (n : Int) : List Int := [n / 256 % 256, n % 256]
theorem by2_eq {n : Int} (h0 : 0 ≤ n) : ([(IntKind.u8.wrap (Int.fdiv n (2 ^ 8))), (IntKind.u8.wrap n)] : List Int) = by2 n := by
  rw [IntKind.wrap_u8, IntKind.wrap_u8, Int.fdiv_eq_ediv_of_nonneg _ (by decide)]; rfl
def overM (b : List Int) (g : Int) : Option (List Int) := cond (decide (g < 0)) (cond (b.length == 16) (some b) none) (cond (decide (16 ≤ b.length)) none (some (insZ b g.toNat)))
def tail3 (f : List Int → Int → List Int → Option (List Int)) (b : List Int) : List Int → Option (List Int)
  | [] => overM b b.length
  | e :: r3 => f b b.length (e :: r3)
def tail2 (f : List Int → Int → List Int → Option (List Int)) (b : List Int) (g : Int) : List Int → Option (List Int)
  | [] => none
  | d :: r2 => cond (d != 58) (f b g (d :: r2)) (cond (decide (0 ≤ g)) none (tail3 f b r2))
def tailM (f : List Int → Int → List Int → Option (List Int)) (b : List Int) (g : Int) : List Int → Option (List Int)
  | [] => overM b g
  | c :: r => cond (c != 58 || b.length == 16) none (tail2 f b g r)
def colM : Nat → List Int → Int → List Int → Option (List Int)
  | 0, _, _, _ => none
  | _ + 1, _, _, [] => none
  | k + 1, b, g, c :: r => cond (decide (0 ≤ dg c)) (tailM (colM k) (b ++ by2 (digs r (dg c) 1).1) g (digs r (dg c) 1).2) none
def RelC (o : Option (List Int × Bool)) (m : Option (List Int)) : Prop := match m with
  | some x => o = some (x, true)
  | none => ∃ v : List Int, o = some (v, false) ∧ v.length ≤ 16
theorem relC_fail : RelC (some (([] : List Int), false)) none := ⟨[], rfl, by simp⟩
theorem digs_suf : ∀ (r : List Int) (n : Int) (z : Nat), ∃ q, r = q ++ (digs r n z).2
  | [], _, _ => ⟨[], rfl⟩
  | c :: r, n, z => by
    unfold digs
    cases decide (0 ≤ dg c) && decide (z < 4) with
    | false => exact ⟨[], rfl⟩
    | true =>
      obtain ⟨q, h⟩ := digs_suf r (n * 16 + dg c) (z + 1)
      exact ⟨c :: q, by rw [cond_true, List.cons_append, ← h]⟩
theorem over_rel (s b : List Int) (g i n z : Int) (hb : b.length ≤ 16) (h1 : -1 ≤ g) (h2 : g ≤ b.length) : RelC (loopC (F_addr_coloned_G1 s) (0, (b, g, i, n, z))) (overM b g) := by
  have hbody : F_addr_coloned_G1 s (0, (b, g, i, n, z)) = F_addr_coloned_G1_0 (b, g, i, n, z) := rfl
  unfold overM
  unfold F_addr_coloned_G1_0 at hbody
  dsimp only at hbody
  by_cases hg : g < 0
  · rw [decide_eq_true hg, cond_true] at hbody ⊢
    rw [loop_inl hbody]
    cases h16 : b.length == 16 with
    | true => rw [beq_iff_eq.2 (show (b.length : Int) = 16 by have := beq_iff_eq.1 h16; omega)]; rfl
    | false => rw [beq_eq_false_iff_ne.2 (show (b.length : Int) ≠ 16 by have := beq_eq_false_iff_ne.1 h16; omega)]; exact ⟨b, rfl, hb⟩
  · rw [decide_eq_false hg, cond_false] at hbody ⊢
    by_cases h16 : 16 ≤ b.length
    · rw [decide_eq_true (show (b.length : Int) ≥ 16 by omega), cond_true] at hbody
      rw [loop_inl hbody, decide_eq_true h16]
      exact relC_fail
    · have hok : insOk b g = true := by
        unfold insOk
        simp only [Bool.and_eq_true, decide_eq_true_eq]
        exact ⟨⟨by omega, h2⟩, by rw [Nat.blt_eq]; omega⟩
      rw [decide_eq_false (show ¬ (b.length : Int) ≥ 16 by omega), cond_false, hok] at hbody
      rw [loop_inl hbody, decide_eq_false h16]
      rfl
/-- What holds where a group begins. -/
structure AtG (b : List Int) (g : Int) : Prop where
  len : b.length ≤ 14
  even : b.length % 2 = 0
  lo : -1 ≤ g
  hi : g ≤ b.length
theorem len2 (b : List Int) (n : Int) : (b ++ by2 n).length = b.length + 2 := by rw [List.length_append]; rfl
theorem drop_cons {s r : List Int} {c : Int} {i : Nat} (h : s.drop i = c :: r) : i < s.length ∧ s[i]? = some c ∧ s.drop (i + 1) = r := by
  have hl : i < s.length := by
    rcases Nat.lt_or_ge i s.length with h1 | h1
    · exact h1
    · rw [List.drop_of_length_le h1] at h; cases h
  rw [List.drop_eq_getElem_cons hl] at h
  injection h with h1 h2
  exact ⟨hl, by rw [List.getElem?_eq_getElem hl, h1], h2⟩
theorem drop_nil' {s : List Int} {i : Nat} (h : s.drop i = []) (hi : i ≤ s.length) : i = s.length := by
  have := List.drop_eq_nil_iff.1 h
  omega
/-- Behind a group's digits. -/
theorem tail_rel (s : List Int) (hs : s.length ≤ 1000000) (f : List Int → Int → List Int → Option (List Int)) (b : List Int) (g : Int) (hA : AtG b g) (i : Nat) (n : Int) (z : Nat) (r : List Int) (hr : s.drop i = r) (hi : i ≤ s.length) (h0 : 0 ≤ n) (h1 : n < 65536) (hz : 1 ≤ z) (hz4 : z ≤ 4)
    (hstop : r = [] ∨ ∃ c r', r = c :: r' ∧ (decide (0 ≤ dg c) && decide (z < 4)) = false)
    (ih : ∀ (b' : List Int) (g' : Int) (j : Nat) (r' : List Int) (n' z' : Int), AtG b' g' → s.drop j = r' → j ≤ s.length → i < j → RelC (loopC (F_addr_coloned_G1 s) (1, (b', g', (j : Int), n', z'))) (f b' g' r')) (hf : ∀ b g, f b g [] = none) :
    RelC (loopC (F_addr_coloned_G1 s) (2, (b, g, (i : Int), n, (z : Int)))) (tailM f (b ++ by2 n) g r) := by
  have hbody : F_addr_coloned_G1 s (2, (b, g, (i : Int), n, (z : Int))) = F_addr_coloned_G1_2 s (b, g, (i : Int), n, (z : Int)) := rfl
  unfold F_addr_coloned_G1_2 chk at hbody
  dsimp only at hbody
  have hb14 := hA.len
  have hck : (decide ((b.length + (by2 n).length) * 1 ≤ 140737488355328) && decide (b.length + (by2 n).length ≤ maxLen)) = true := chk1 (by show b.length + 2 ≤ _; omega)
  have hz0 : ((z : Int) == 0) = false := beq_eq_false_iff_ne.2 (by omega)
  have hl2 := len2 b n
  rw [by2_eq h0, hck, hz0] at hbody
  simp only [cond_true, cond_false] at hbody
  rcases hstop with rfl | ⟨c, r', rfl, hc⟩
  · have hie := drop_nil' hr hi
    rw [decide_eq_false (show ¬ (i : Int) < (s.length : Int) by omega), cond_false, beq_iff_eq.2 (show (i : Int) = (s.length : Int) by omega), cond_true] at hbody
    have ho := over_rel s (b ++ by2 n) g i n z (by omega) hA.lo (by have := hA.hi; omega)
    show RelC _ (overM (b ++ by2 n) g)
    cases hm : loopC (F_addr_coloned_G1 s) (0, (b ++ by2 n, g, (i : Int), n, (z : Int))) with
    | none =>
      rw [hm] at ho
      unfold RelC at ho
      split at ho
      · cases ho
      · obtain ⟨v, hv, _⟩ := ho; cases hv
    | some x =>
      rw [loop_inr hbody hm]
      rw [hm] at ho
      exact ho
  · obtain ⟨hlt, hget, hdrop⟩ := drop_cons hr
    have hg1 := getI_nat hget
    have hdz : (decide (dg c ≥ 0) && decide ((z : Int) < 4)) = false := by
      rw [← hc]
      congr 1
      exact decide_eq_decide.2 (by omega)
    rw [decide_eq_true (show (i : Int) < (s.length : Int) by omega), cond_true, hg1] at hbody
    simp only [Option.bind_some, digit_eq, hdz, cond_false] at hbody
    rw [beq_eq_false_iff_ne.2 (show (i : Int) ≠ (s.length : Int) by omega), cond_false, show ((((b ++ by2 n).length : Nat) : Int) == 16) = ((b ++ by2 n).length == 16) by rw [Bool.eq_iff_iff, beq_iff_eq, beq_iff_eq]; omega] at hbody
    have pass : ∀ {x : Nat × List Int × Int × Int × Int × Int} {m : Option (List Int)}, F_addr_coloned_G1 s (2, (b, g, (i : Int), n, (z : Int))) = some (.inr x) → RelC (loopC (F_addr_coloned_G1 s) x) m → RelC (loopC (F_addr_coloned_G1 s) (2, (b, g, (i : Int), n, (z : Int)))) m := fun {x m} he hm => by
      cases hl : loopC (F_addr_coloned_G1 s) x with
      | none =>
        rw [hl] at hm
        unfold RelC at hm
        split at hm
        · cases hm
        · obtain ⟨v, hv, _⟩ := hm; cases hv
      | some y =>
        rw [loop_inr he hl]
        rw [hl] at hm
        exact hm
    show RelC _ (cond (c != 58 || (b ++ by2 n).length == 16) none (tail2 f (b ++ by2 n) g r'))
    cases hx : (c != 58 || (b ++ by2 n).length == 16) with
    | true =>
      rw [hx, cond_true] at hbody
      rw [loop_inl hbody]
      exact relC_fail
    | false =>
      rw [hx, cond_false, wrap_in (x := (i : Int) + 1) (by omega) (by omega)] at hbody
      rw [cond_false]
      have hne : ¬ (b ++ by2 n).length = 16 := beq_eq_false_iff_ne.1 (Bool.or_eq_false_iff.1 hx).2
      have hA' : AtG (b ++ by2 n) g := ⟨by have := hA.even; omega, by rw [hl2]; have := hA.even; omega, hA.lo, by have := hA.hi; omega⟩
      cases r' with
      | nil =>
        have hie := drop_nil' hdrop (by omega)
        rw [beq_iff_eq.2 (show (i : Int) + 1 = (s.length : Int) by omega), cond_true] at hbody
        have := ih (b ++ by2 n) g (i + 1) [] n z hA' hdrop (by omega) (by omega)
        rw [hf] at this
        exact pass hbody (by exact_mod_cast this)
      | cons d r2 =>
        obtain ⟨hlt2, hget2, hdrop2⟩ := drop_cons hdrop
        have hg2 : getI s ((i : Int) + 1) = some d := getI_nat (i := i + 1) hget2
        rw [beq_eq_false_iff_ne.2 (show (i : Int) + 1 ≠ (s.length : Int) by omega), cond_false, hg2, Option.bind_some] at hbody
        show RelC _ (cond (d != 58) (f (b ++ by2 n) g (d :: r2)) (cond (decide (0 ≤ g)) none (tail3 f (b ++ by2 n) r2)))
        cases hd : d != 58 with
        | true =>
          rw [hd, cond_true] at hbody
          rw [cond_true]
          have := ih (b ++ by2 n) g (i + 1) (d :: r2) n z hA' hdrop (by omega) (by omega)
          exact pass hbody (by exact_mod_cast this)
        | false =>
          rw [hd, cond_false] at hbody
          by_cases hg0 : 0 ≤ g
          · rw [decide_eq_true (show g ≥ 0 from hg0), cond_true] at hbody
            rw [loop_inl hbody, cond_false, decide_eq_true hg0]
            exact relC_fail
          · rw [decide_eq_false (show ¬ g ≥ 0 from hg0), cond_false, wrap_in (x := (i : Int) + 1 + 1) (by omega) (by omega)] at hbody
            rw [cond_false, decide_eq_false hg0, cond_false]
            have hA2 : AtG (b ++ by2 n) ((b ++ by2 n).length : Int) := ⟨hA'.len, hA'.even, by omega, Int.le_refl _⟩
            cases r2 with
            | nil =>
              have hie := drop_nil' hdrop2 (by omega)
              rw [decide_eq_false (show ¬ (i : Int) + 1 + 1 < (s.length : Int) by omega), cond_false, decide_eq_false (show ¬ ((b ++ by2 n).length : Int) < 0 by omega), cond_false] at hbody
              show RelC _ (overM (b ++ by2 n) ((b ++ by2 n).length : Int))
              unfold overM
              rw [decide_eq_false (show ¬ ((b ++ by2 n).length : Int) < 0 by omega), cond_false]
              have h14 := hA'.len
              rw [decide_eq_false (show ¬ ((b ++ by2 n).length : Int) ≥ 16 by omega), cond_false] at hbody
              have hok : insOk (b ++ by2 n) ((b ++ by2 n).length : Int) = true := by
                unfold insOk
                simp only [Bool.and_eq_true, decide_eq_true_eq]
                exact ⟨⟨by omega, Int.le_refl _⟩, by rw [Nat.blt_eq]; omega⟩
              rw [hok, cond_true] at hbody
              rw [loop_inl hbody, decide_eq_false (show ¬ 16 ≤ (b ++ by2 n).length by omega)]
              rfl
            | cons e r3 =>
              obtain ⟨hlt3, _, _⟩ := drop_cons hdrop2
              rw [decide_eq_true (show (i : Int) + 1 + 1 < (s.length : Int) by omega), cond_true] at hbody
              have := ih (b ++ by2 n) ((b ++ by2 n).length : Int) (i + 1 + 1) (e :: r3) n z hA2 hdrop2 (by omega) (by omega)
              exact pass hbody (by exact_mod_cast this)
theorem rel_some {o : Option (List Int × Bool)} {m : Option (List Int)} (h : RelC o m) : ∃ x, o = some x := by
  unfold RelC at h
  split at h
  · exact ⟨_, h⟩
  · obtain ⟨v, hv, _⟩ := h; exact ⟨_, hv⟩
theorem rel_inr {s : List Int} {y x : Nat × List Int × Int × Int × Int × Int} {m : Option (List Int)} (he : F_addr_coloned_G1 s y = some (.inr x)) (hm : RelC (loopC (F_addr_coloned_G1 s) x) m) : RelC (loopC (F_addr_coloned_G1 s) y) m := by
  obtain ⟨v, hv⟩ := rel_some hm
  rw [loop_inr he hv]
  rw [hv] at hm
  exact hm
theorem pow16 : ∀ z : Nat, 1 ≤ z → z ≤ 4 → (16 : Int) ^ z ≤ 65536
  | 1, _, _ => by decide
  | 2, _, _ => by decide
  | 3, _, _ => by decide
  | 4, _, _ => by decide
  | 0, h, _ => absurd h (by decide)
  | n + 5, _, h => absurd h (by omega)
theorem digs_rel (s : List Int) (hs : s.length ≤ 1000000) (f : List Int → Int → List Int → Option (List Int)) (b : List Int) (g : Int) (hA : AtG b g) (hf : ∀ b g, f b g [] = none) : ∀ (r : List Int) (i : Nat) (n : Int) (z : Nat), s.drop i = r → i ≤ s.length → 0 ≤ n → n < 16 ^ z → 1 ≤ z → z ≤ 4 →
    (∀ (b' : List Int) (g' : Int) (j : Nat) (r' : List Int) (n' z' : Int), AtG b' g' → s.drop j = r' → j ≤ s.length → i ≤ j → RelC (loopC (F_addr_coloned_G1 s) (1, (b', g', (j : Int), n', z'))) (f b' g' r')) →
    RelC (loopC (F_addr_coloned_G1 s) (2, (b, g, (i : Int), n, (z : Int)))) (tailM f (b ++ by2 (digs r n z).1) g (digs r n z).2)
  | [], i, n, z, hr, hi, h0, h1, hz, hz4, ih => by
    have hp := pow16 z hz hz4
    exact tail_rel s hs f b g hA i n z [] hr hi h0 (by omega) hz hz4 (.inl rfl) (fun b' g' j r' n' z' a1 a2 a3 a4 => ih b' g' j r' n' z' a1 a2 a3 (by omega)) hf
  | c :: r, i, n, z, hr, hi, h0, h1, hz, hz4, ih => by
    have hp := pow16 z hz hz4
    have h65 : n < 65536 := by omega
    unfold digs
    cases hc : decide (0 ≤ dg c) && decide (z < 4) with
    | false =>
      rw [cond_false]
      exact tail_rel s hs f b g hA i n z (c :: r) hr hi h0 h65 hz hz4 (.inr ⟨c, r, rfl, hc⟩) (fun b' g' j r' n' z' a1 a2 a3 a4 => ih b' g' j r' n' z' a1 a2 a3 (by omega)) hf
    | true =>
      rw [cond_true]
      obtain ⟨hlt, hget, hdrop⟩ := drop_cons hr
      simp only [Bool.and_eq_true, decide_eq_true_eq] at hc
      obtain ⟨hd0, hz3⟩ := hc
      obtain ⟨_, hd1⟩ := dg_in c
      have hp2 : (16 : Int) ^ (z + 1) = 16 ^ z * 16 := Int.pow_succ ..
      have hrec := digs_rel s hs f b g hA hf r (i + 1) (n * 16 + dg c) (z + 1) hdrop (by omega) (by omega) (by rw [hp2]; omega) (by omega) (by omega) (fun b' g' j r' n' z' a1 a2 a3 a4 => ih b' g' j r' n' z' a1 a2 a3 (by omega))
      refine rel_inr (x := (2, (b, g, ((i + 1 : Nat) : Int), n * 16 + dg c, ((z + 1 : Nat) : Int)))) ?_ hrec
      show F_addr_coloned_G1_2 s (b, g, (i : Int), n, (z : Int)) = _
      unfold F_addr_coloned_G1_2
      dsimp only
      rw [decide_eq_true (show (i : Int) < (s.length : Int) by omega), cond_true, getI_nat hget]
      simp only [Option.bind_some, digit_eq]
      rw [decide_eq_true (show dg c ≥ 0 from hd0), decide_eq_true (show (z : Int) < 4 by omega), Bool.true_and, cond_true, or16 h0 h65 hd0 hd1, wrap_in (x := (i : Int) + 1) (by omega) (by omega), wrap_in (x := (z : Int) + 1) (by omega) (by omega)]
      rfl
theorem colM_nil : ∀ (k : Nat) (b : List Int) (g : Int), colM k b g [] = none
  | 0, _, _ => rfl
  | _ + 1, _, _ => rfl
theorem colM_rel (s : List Int) (hs : s.length ≤ 1000000) : ∀ (k : Nat) (b : List Int) (g : Int) (i : Nat) (r : List Int) (n z : Int), r.length < k → AtG b g → s.drop i = r → i ≤ s.length → RelC (loopC (F_addr_coloned_G1 s) (1, (b, g, (i : Int), n, z))) (colM k b g r)
  | 0, _, _, _, _, _, _, hk, _, _, _ => absurd hk (Nat.not_lt_zero _)
  | k + 1, b, g, i, r, n, z, hk, hA, hr, hi => by
    have hbody : F_addr_coloned_G1 s (1, (b, g, (i : Int), n, z)) = F_addr_coloned_G1_1 s (b, g, (i : Int), n, z) := rfl
    unfold F_addr_coloned_G1_1 at hbody
    dsimp only at hbody
    cases r with
    | nil =>
      have hie := drop_nil' hr hi
      rw [decide_eq_false (show ¬ (i : Int) < (s.length : Int) by omega), cond_false] at hbody
      rw [loop_inl hbody]
      exact relC_fail
    | cons c r =>
      obtain ⟨hlt, hget, hdrop⟩ := drop_cons hr
      obtain ⟨_, hd1⟩ := dg_in c
      rw [decide_eq_true (show (i : Int) < (s.length : Int) by omega), cond_true, getI_nat hget] at hbody
      simp only [Option.bind_some, digit_eq] at hbody
      unfold colM
      by_cases hd0 : 0 ≤ dg c
      · rw [decide_eq_true (show dg c ≥ 0 from hd0), show (true && decide ((0 : Int) < 4)) = true from rfl, cond_true, or16 (by decide) (by decide) hd0 hd1, wrap_in (x := (i : Int) + 1) (by omega) (by omega)] at hbody
        rw [decide_eq_true hd0, cond_true]
        have hlen : (s.drop i).length = s.length - i := List.length_drop ..
        rw [hr, List.length_cons] at hlen
        have hrec := digs_rel s hs (colM k) b g hA (colM_nil k) r (i + 1) (dg c) 1 hdrop (by omega) hd0 (by simpa using hd1) (by omega) (by omega) (fun b' g' j r' n' z' a1 a2 a3 a4 => by
          refine colM_rel s hs k b' g' j r' n' z' ?_ a1 a2 a3
          have h2 : (s.drop j).length = s.length - j := List.length_drop ..
          rw [a2] at h2
          have hk' : r.length + 1 < k + 1 := hk
          omega)
        refine rel_inr (x := (2, (b, g, ((i + 1 : Nat) : Int), dg c, ((1 : Nat) : Int)))) ?_ hrec
        rw [hbody]
        have e : (0 : Int) * 16 + dg c = dg c := by omega
        rw [e]
        rfl
      · rw [decide_eq_false (show ¬ dg c ≥ 0 from hd0), show (false && decide ((0 : Int) < 4)) = false from rfl, cond_false] at hbody
        rw [loop_inl hbody, decide_eq_false hd0]
        exact relC_fail
theorem join_loop {S R : Type} {body : S → Option (R ⊕ S)} {s0 : S} {r : R} (h : loopC body s0 = some r) : joinC (body s0) (fun p => loopC body p) = some r := by
  obtain ⟨n, hn⟩ := iter_of_loop' h
  cases n with
  | zero => cases hn
  | succ n =>
    unfold iterC at hn
    split at hn
    · cases hn
    · rename_i x hx
      injection hn with hn
      rw [hx, hn]; rfl
    · rename_i x hx
      rw [hx]
      exact loop_of_iter hn
/-- addr.coloned. -/
def colR (s : List Int) : Option (List Int) :=
  cond (s.take 2 == [58, 58]) (cond (s.drop 2 == []) (some (insZ [] 0)) (colM s.length [] 0 (s.drop 2))) (colM (s.length + 1) [] (-1) s)
theorem coloned_rel (s : List Int) (hs : s.length ≤ 1000000) : RelC (F_addr_coloned s) (colR s) := by
  have hA1 : AtG [] (-1) := ⟨by simp, rfl, by omega, by simp⟩
  have hA0 : AtG [] 0 := ⟨by simp, rfl, by omega, by simp⟩
  have go : ∀ (g : Int) (i : Nat) (A : Option ((List Int × Bool) ⊕ (Nat × List Int × Int × Int × Int × Int))) (k : Nat), (s.drop i).length < k → AtG [] g → i ≤ s.length → A = F_addr_coloned_G1_1 s (([] : List Int), g, (i : Int), 0, 0) → RelC (joinC A (fun p => loopC (F_addr_coloned_G1 s) p)) (colM k [] g (s.drop i)) := fun g i A k hk hA hi he => by
    have := colM_rel s hs k [] g i (s.drop i) 0 0 hk hA rfl hi
    obtain ⟨v, hv⟩ := rel_some this
    have he' : A = F_addr_coloned_G1 s (1, (([] : List Int), g, (i : Int), 0, 0)) := he
    rw [he', join_loop hv]
    rw [hv] at this
    exact this
  have hpre : (decide (([58, 58] : List Int).length ≤ s.length) && (s.take ([58, 58] : List Int).length == [58, 58])) = (s.take 2 == [58, 58]) := by
    show (decide (2 ≤ s.length) && (s.take 2 == [58, 58])) = _
    by_cases h : 2 ≤ s.length
    · rw [decide_eq_true h, Bool.true_and]
    · rw [decide_eq_false h, Bool.false_and]
      refine (beq_eq_false_iff_ne.2 fun e => ?_).symm
      have := congrArg List.length e
      rw [List.length_take] at this
      simp at this
      omega
  unfold F_addr_coloned colR
  rw [prefix_lit s _ hs, Option.bind_some, hpre]
  cases h2 : s.take 2 == [58, 58] with
  | false =>
    rw [cond_false, cond_false]
    have := go (-1) 0 _ (s.length + 1) (by rw [List.drop_zero]; omega) hA1 (by omega) rfl
    rw [List.drop_zero] at this
    exact this
  | true =>
    rw [cond_true, cond_true]
    have hlen : 2 ≤ s.length := by
      have := congrArg List.length (beq_iff_eq.1 h2)
      rw [List.length_take] at this
      simp at this
      omega
    have hdl : (s.drop 2).length = s.length - 2 := List.length_drop ..
    cases hd : s.drop 2 with
    | nil =>
      rw [hd] at hdl
      have hl2 : s.length = 2 := by simp at hdl; omega
      rw [beq_iff_eq.2 (show (2 : Int) = (s.length : Int) by omega), cond_true, show (([] : List Int) == []) = true from rfl, cond_true]
      rw [join_inr (s := (0, (([] : List Int), 0, 2, 0, 0))) rfl]
      exact loop_inl rfl
    | cons c r =>
      rw [hd, List.length_cons] at hdl
      rw [beq_eq_false_iff_ne.2 (show (2 : Int) ≠ (s.length : Int) by omega), cond_false, show ((c :: r) == ([] : List Int)) = false from rfl, cond_false]
      have := go 0 2 _ s.length (by rw [hd, List.length_cons]; omega) hA0 hlen rfl
      rw [hd] at this
      exact this
end Go.Proofs.YtblngdnndkljoaaDoor

/- Addresses of groups: the machine answers as the parts between the colons say. -/
namespace Go.Proofs.YtblngdnndkljoaaDoor
open Pv
set_option linter.unusedVariables false
def hexB (p : List Int) : Bool := decide (1 ≤ p.length) && decide (p.length ≤ 4) && p.all fun c => decide (0 ≤ dg c)
def hexV (p : List Int) : Int := p.foldl (fun n c => n * 16 + dg c) 0
def bytesP (ps : List (List Int)) : List Int := ps.flatMap fun p => by2 (hexV p)
theorem bytesP_len (ps : List (List Int)) : (bytesP ps).length = 2 * ps.length := by
  induction ps with
  | nil => rfl
  | cons p ps ih =>
    show (by2 (hexV p) ++ bytesP ps).length = _
    rw [List.length_append, ih, List.length_cons]
    show 2 + _ = _
    omega
theorem bytesP_cons (p : List Int) (ps : List (List Int)) : bytesP (p :: ps) = by2 (hexV p) ++ bytesP ps := rfl
theorem hexB_nil : hexB [] = false := rfl
/-- What stands behind a part. -/
def Stop (rest : List Int) : Prop := rest = [] ∨ ∃ r, rest = 58 :: r
theorem part_ex : ∀ r : List Int, ∃ p rest, r = p ++ rest ∧ (∀ c ∈ p, c ≠ 58) ∧ Stop rest
  | [] => ⟨[], [], rfl, fun _ h => (by cases h), .inl rfl⟩
  | c :: r => by
    by_cases h : c = 58
    · exact ⟨[], c :: r, rfl, fun _ h => (by cases h), .inr ⟨r, by rw [h]⟩⟩
    · obtain ⟨p, rest, e, h1, h2⟩ := part_ex r
      refine ⟨c :: p, rest, by rw [e]; rfl, fun x hx => ?_, h2⟩
      rcases List.mem_cons.1 hx with rfl | hx
      · exact h
      · exact h1 x hx
theorem split_p : ∀ (p : List Int), (∀ c ∈ p, c ≠ 58) → splitI p 58 = [p]
  | [], _ => rfl
  | c :: p, h => by
    unfold splitI
    rw [beq_eq_false_iff_ne.2 (h c List.mem_cons_self), cond_false, split_p p fun x hx => h x (List.mem_cons_of_mem _ hx)]
theorem split_pc : ∀ (p r : List Int), (∀ c ∈ p, c ≠ 58) → splitI (p ++ 58 :: r) 58 = p :: splitI r 58
  | [], r, _ => by
    show cond ((58 : Int) == 58) ([] :: splitI r 58) (match splitI r 58 with | [] => [[58]] | w :: q => (58 :: w) :: q) = [] :: splitI r 58
    rfl
  | c :: p, r, h => by
    show splitI (c :: (p ++ 58 :: r)) 58 = _
    rw [show splitI (c :: (p ++ 58 :: r)) 58 = cond (c == 58) ([] :: splitI (p ++ 58 :: r) 58) (match splitI (p ++ 58 :: r) 58 with | [] => [[c]] | w :: q => (c :: w) :: q) from rfl]
    rw [beq_eq_false_iff_ne.2 (h c List.mem_cons_self), cond_false, split_pc p r fun x hx => h x (List.mem_cons_of_mem _ hx)]
theorem digs_part : ∀ (p rest : List Int) (n : Int) (z : Nat), (∀ c ∈ p, c ≠ 58) → Stop rest → z ≤ 4 →
    ((p.all fun c => decide (0 ≤ dg c)) && decide (z + p.length ≤ 4)) = true ∧ digs (p ++ rest) n z = (p.foldl (fun n c => n * 16 + dg c) n, rest) ∨
    ((p.all fun c => decide (0 ≤ dg c)) && decide (z + p.length ≤ 4)) = false ∧ ∃ m c q, digs (p ++ rest) n z = (m, c :: q) ∧ c ≠ 58
  | [], rest, n, z, _, hr, hz => by
    refine .inl ⟨by simpa using hz, ?_⟩
    rcases hr with rfl | ⟨r, rfl⟩
    · rfl
    · show digs (58 :: r) n z = _
      unfold digs
      rfl
  | c :: p, rest, n, z, h, hr, hz => by
    have hc := h c List.mem_cons_self
    have hp : ∀ x ∈ p, x ≠ 58 := fun x hx => h x (List.mem_cons_of_mem _ hx)
    have hu : digs ((c :: p) ++ rest) n z = cond (decide (0 ≤ dg c) && decide (z < 4)) (digs (p ++ rest) (n * 16 + dg c) (z + 1)) (n, c :: (p ++ rest)) := rfl
    rw [hu, List.all_cons, List.length_cons]
    cases hd : decide (0 ≤ dg c) with
    | false => exact .inr ⟨rfl, n, c, p ++ rest, rfl, hc⟩
    | true =>
      by_cases hz4 : z < 4
      · rw [decide_eq_true hz4]
        have ih := digs_part p rest (n * 16 + dg c) (z + 1) hp hr (by omega)
        rw [show z + (p.length + 1) = z + 1 + p.length by omega]
        exact ih
      · rw [decide_eq_false hz4, decide_eq_false (show ¬ z + (p.length + 1) ≤ 4 by omega), Bool.and_false]
        exact .inr ⟨rfl, n, c, p ++ rest, rfl, hc⟩
theorem col_part (k : Nat) (b : List Int) (g : Int) (p rest : List Int) (hp : ∀ c ∈ p, c ≠ 58) (hr : Stop rest) : colM (k + 1) b g (p ++ rest) = cond (hexB p) (tailM (colM k) (b ++ by2 (hexV p)) g rest) none := by
  cases p with
  | nil =>
    rw [hexB_nil, cond_false]
    rcases hr with rfl | ⟨r, rfl⟩
    · rfl
    · rfl
  | cons c p =>
    have hu : colM (k + 1) b g ((c :: p) ++ rest) = cond (decide (0 ≤ dg c)) (tailM (colM k) (b ++ by2 (digs (p ++ rest) (dg c) 1).1) g (digs (p ++ rest) (dg c) 1).2) none := rfl
    have hb : hexB (c :: p) = (decide (0 ≤ dg c) && ((p.all fun c => decide (0 ≤ dg c)) && decide (1 + p.length ≤ 4))) := by
      unfold hexB
      rw [List.length_cons, List.all_cons, decide_eq_true (show 1 ≤ p.length + 1 by omega), Bool.true_and, show p.length + 1 = 1 + p.length by omega, Bool.and_comm, Bool.and_assoc]
    have hv : hexV (c :: p) = p.foldl (fun n c => n * 16 + dg c) (dg c) := by
      unfold hexV
      rw [List.foldl_cons, show (0 : Int) * 16 + dg c = dg c by omega]
    rw [hu, hb, hv]
    cases decide (0 ≤ dg c) with
    | false => rfl
    | true =>
      rw [cond_true, Bool.true_and]
      rcases digs_part p rest (dg c) 1 (fun x hx => hp x (List.mem_cons_of_mem _ hx)) hr (by decide) with ⟨h1, h2⟩ | ⟨h1, m, d, q, h2, h3⟩
      · rw [h1, h2, cond_true]
      · rw [h1, h2, cond_false]
        show cond (d != 58 || _) none _ = none
        rw [bne_iff_ne.2 h3, Bool.true_or, cond_true]
theorem stop_split {p rest : List Int} (hp : ∀ c ∈ p, c ≠ 58) (hr : Stop rest) : (rest = [] ∧ splitI (p ++ rest) 58 = [p]) ∨ ∃ r, rest = 58 :: r ∧ splitI (p ++ rest) 58 = p :: splitI r 58 := by
  rcases hr with rfl | ⟨r, rfl⟩
  · exact .inl ⟨rfl, by rw [List.append_nil]; exact split_p p hp⟩
  · exact .inr ⟨r, rfl, split_pc p r hp⟩
theorem split_nn (r : List Int) : 1 ≤ (splitI r 58).length := by
  have := splitI_ne r 58
  cases h : splitI r 58 with
  | nil => exact absurd h this
  | cons _ _ => rw [List.length_cons]; omega
theorem col_gap : ∀ (k : Nat) (b : List Int) (g : Int) (r : List Int), r.length < k → 0 ≤ g → b.length ≤ 14 → b.length % 2 = 0 →
    colM k b g r = cond ((splitI r 58).all hexB && decide (b.length + 2 * (splitI r 58).length ≤ 14)) (some (insZ (b ++ bytesP (splitI r 58)) g.toNat)) none
  | 0, _, _, _, h, _, _, _ => absurd h (Nat.not_lt_zero _)
  | k + 1, b, g, r, hk, hg, hb, he => by
    obtain ⟨p, rest, rfl, hp, hr⟩ := part_ex r
    rw [col_part k b g p rest hp hr]
    have hl := len2 b (hexV p)
    rcases stop_split hp hr with ⟨rfl, hs⟩ | ⟨r', rfl, hs⟩
    · rw [hs]
      show cond (hexB p) (overM (b ++ by2 (hexV p)) g) none = _
      rw [show [p].all hexB = hexB p by simp]
      cases hexB p with
      | false => rfl
      | true =>
        rw [cond_true, Bool.true_and]
        unfold overM
        rw [decide_eq_false (show ¬ g < 0 by omega), cond_false, hl]
        by_cases h16 : b.length = 14
        · rw [decide_eq_true (show 16 ≤ b.length + 2 by omega), decide_eq_false (show ¬ b.length + 2 * [p].length ≤ 14 by simp; omega)]; rfl
        · rw [decide_eq_false (show ¬ 16 ≤ b.length + 2 by omega), decide_eq_true (show b.length + 2 * [p].length ≤ 14 by simp; omega)]
          show some _ = some (insZ (b ++ (by2 (hexV p) ++ [])) g.toNat)
          rw [List.append_nil]
    · rw [hs, List.all_cons, List.length_cons]
      have hnn := split_nn r'
      cases hx : hexB p with
      | false => rfl
      | true =>
        rw [cond_true, Bool.true_and]
        show cond ((58 : Int) != 58 || (b ++ by2 (hexV p)).length == 16) none (tail2 (colM k) (b ++ by2 (hexV p)) g r') = _
        rw [show ((58 : Int) != 58) = false from rfl, Bool.false_or, hl]
        by_cases h16 : b.length = 14
        · rw [beq_iff_eq.2 (show b.length + 2 = 16 by omega), cond_true, decide_eq_false (show ¬ b.length + 2 * ((splitI r' 58).length + 1) ≤ 14 by omega), Bool.and_false]; rfl
        · rw [beq_eq_false_iff_ne.2 (show b.length + 2 ≠ 16 by omega), cond_false]
          cases r' with
          | nil => rfl
          | cons d r2 =>
            show cond (d != 58) (colM k (b ++ by2 (hexV p)) g (d :: r2)) (cond (decide (0 ≤ g)) none _) = _
            by_cases hd : d = 58
            · subst hd
              rw [show ((58 : Int) != 58) = false from rfl, cond_false, decide_eq_true hg, cond_true]
              have : splitI (58 :: r2) 58 = [] :: splitI r2 58 := split_pc [] r2 (fun _ h => by cases h)
              rw [this, List.all_cons, hexB_nil]; rfl
            · rw [bne_iff_ne.2 hd, cond_true]
              have hlen : (p ++ 58 :: d :: r2).length = p.length + (r2.length + 2) := by rw [List.length_append]; rfl
              rw [col_gap k (b ++ by2 (hexV p)) g (d :: r2) (by simp at hlen hk ⊢; omega) hg (by omega) (by omega), hl, bytesP_cons, List.append_assoc]
              rw [show b.length + 2 * ((splitI (d :: r2) 58).length + 1) = b.length + 2 + 2 * (splitI (d :: r2) 58).length by omega]
/-- Where two colons stand first. -/
def dcI : List Int → Option Nat
  | [] => none
  | c :: r => cond (c == 58 && r.head? == some 58) (some 0) ((dcI r).map (· + 1))
theorem dc_p : ∀ (p rest : List Int), (∀ c ∈ p, c ≠ 58) → dcI (p ++ rest) = (dcI rest).map (· + p.length)
  | [], rest, _ => by simp
  | c :: p, rest, h => by
    show cond (c == 58 && _) _ ((dcI (p ++ rest)).map (· + 1)) = _
    rw [beq_eq_false_iff_ne.2 (h c List.mem_cons_self), Bool.false_and, cond_false, dc_p p rest fun x hx => h x (List.mem_cons_of_mem _ hx), Option.map_map]
    congr 1
def partsO (r : List Int) : List (List Int) := cond (r == []) [] (splitI r 58)
/-- What an address of groups comes to, behind these bytes. -/
def grpR (b : List Int) (r : List Int) : Option (List Int) := match dcI r with
  | none => cond ((splitI r 58).all hexB && (b.length + 2 * (splitI r 58).length == 16)) (some (b ++ bytesP (splitI r 58))) none
  | some i => cond ((partsO (r.take i)).all hexB && (partsO (r.drop (i + 2))).all hexB && decide (b.length + 2 * (partsO (r.take i)).length + 2 * (partsO (r.drop (i + 2))).length ≤ 14))
      (some (insZ (b ++ bytesP (partsO (r.take i)) ++ bytesP (partsO (r.drop (i + 2)))) (b.length + 2 * (partsO (r.take i)).length))) none
theorem partsO_ne {r : List Int} (h : r ≠ []) : partsO r = splitI r 58 := by
  unfold partsO
  rw [beq_eq_false_iff_ne.2 h, cond_false]
theorem col_nogap : ∀ (k : Nat) (b : List Int) (r : List Int), r.length < k → b.length ≤ 14 → b.length % 2 = 0 → dcI r ≠ some 0 → colM k b (-1) r = grpR b r
  | 0, _, _, h, _, _, _ => absurd h (Nat.not_lt_zero _)
  | k + 1, b, r, hk, hb, he, hd0 => by
    obtain ⟨p, rest, rfl, hp, hr⟩ := part_ex r
    rw [col_part k b (-1) p rest hp hr]
    have hl := len2 b (hexV p)
    have hdc := dc_p p rest hp
    rcases stop_split hp hr with ⟨rfl, hs⟩ | ⟨r', rfl, hs⟩
    · unfold grpR
      rw [hdc]
      show _ = cond ((splitI (p ++ []) 58).all hexB && (b.length + 2 * (splitI (p ++ []) 58).length == 16)) (some (b ++ bytesP (splitI (p ++ []) 58))) none
      rw [hs, show [p].all hexB = hexB p by simp]
      cases hexB p with
      | false => rfl
      | true =>
        show overM (b ++ by2 (hexV p)) (-1) = cond (b.length + 2 * 1 == 16) (some (b ++ (by2 (hexV p) ++ []))) none
        unfold overM
        rw [hl, List.append_nil]; rfl
    · -- a colon
      have hlen : (p ++ 58 :: r').length = p.length + (r'.length + 1) := by rw [List.length_append]; rfl
      have hne : ∀ i, p.length ≤ i → (p ++ 58 :: r').take i = p ++ (58 :: r').take (i - p.length) := fun i hi => by
        rw [List.take_append, List.take_of_length_le hi]
      have hnd : ∀ i, p.length ≤ i → (p ++ 58 :: r').drop i = (58 :: r').drop (i - p.length) := fun i hi => by
        rw [List.drop_append, List.drop_of_length_le hi]; rfl
      by_cases hdd : r'.head? = some 58
      · -- two colons
        obtain ⟨r2, rfl⟩ : ∃ r2, r' = 58 :: r2 := by
          cases r' with
          | nil => cases hdd
          | cons x r2 => injection hdd with hdd; exact ⟨r2, by rw [hdd]⟩
        have hdc0 : dcI (58 :: 58 :: r2) = some 0 := rfl
        rw [hdc0] at hdc
        have hdc : dcI (p ++ 58 :: 58 :: r2) = some p.length := by rw [hdc]; simp
        have hpne : p ≠ [] := fun e => hd0 (by rw [hdc, e]; rfl)
        unfold grpR
        rw [hdc]
        show _ = cond ((partsO ((p ++ 58 :: 58 :: r2).take p.length)).all hexB && (partsO ((p ++ 58 :: 58 :: r2).drop (p.length + 2))).all hexB && decide (b.length + 2 * (partsO ((p ++ 58 :: 58 :: r2).take p.length)).length + 2 * (partsO ((p ++ 58 :: 58 :: r2).drop (p.length + 2))).length ≤ 14))
          (some (insZ (b ++ bytesP (partsO ((p ++ 58 :: 58 :: r2).take p.length)) ++ bytesP (partsO ((p ++ 58 :: 58 :: r2).drop (p.length + 2)))) (b.length + 2 * (partsO ((p ++ 58 :: 58 :: r2).take p.length)).length))) none
        rw [List.take_left, hnd (p.length + 2) (by omega), show p.length + 2 - p.length = 2 by omega, show (58 :: 58 :: r2 : List Int).drop 2 = r2 from rfl, partsO_ne hpne, split_p p hp]
        rw [show [p].all hexB = hexB p by simp]
        cases hexB p with
        | false => rfl
        | true =>
          rw [cond_true, Bool.true_and]
          show cond ((58 : Int) != 58 || (b ++ by2 (hexV p)).length == 16) none (cond ((58 : Int) != 58) (colM k (b ++ by2 (hexV p)) (-1) (58 :: r2)) (cond (decide ((0 : Int) ≤ -1)) none (tail3 (colM k) (b ++ by2 (hexV p)) r2))) = _
          rw [show ((58 : Int) != 58) = false from rfl, Bool.false_or, cond_false, show decide ((0 : Int) ≤ -1) = false from rfl, cond_false, hl]
          show cond (b.length + 2 == 16) none _ = cond ((partsO r2).all hexB && decide (b.length + 2 * 1 + 2 * (partsO r2).length ≤ 14)) (some (insZ (b ++ (by2 (hexV p) ++ []) ++ bytesP (partsO r2)) (b.length + 2 * 1))) none
          rw [List.append_nil]
          by_cases h16 : b.length = 14
          · rw [beq_iff_eq.2 (show b.length + 2 = 16 by omega), cond_true, decide_eq_false (show ¬ b.length + 2 * 1 + 2 * (partsO r2).length ≤ 14 by omega), Bool.and_false]; rfl
          · rw [beq_eq_false_iff_ne.2 (show b.length + 2 ≠ 16 by omega), cond_false]
            cases r2 with
            | nil =>
              show overM (b ++ by2 (hexV p)) ((b ++ by2 (hexV p)).length : Int) = cond (true && decide (b.length + 2 * 1 + 2 * 0 ≤ 14)) (some (insZ (b ++ by2 (hexV p) ++ []) (b.length + 2 * 1))) none
              unfold overM
              rw [hl, List.append_nil, decide_eq_false (show ¬ ((b.length + 2 : Nat) : Int) < 0 by omega), cond_false, decide_eq_false (show ¬ 16 ≤ b.length + 2 by omega), cond_false, decide_eq_true (show b.length + 2 * 1 + 2 * 0 ≤ 14 by omega), Int.toNat_natCast]; rfl
            | cons e r3 =>
              show colM k (b ++ by2 (hexV p)) ((b ++ by2 (hexV p)).length : Int) (e :: r3) = _
              have hkk : (e :: r3).length < k := by rw [hlen] at hk; simp at hk ⊢; omega
              rw [col_gap k _ _ _ hkk (by omega) (by omega) (by omega), partsO_ne (by simp), hl, Int.toNat_natCast, show b.length + 2 * 1 = b.length + 2 by omega]
      · -- one colon
        have hdc1 : dcI (58 :: r') = (dcI r').map (· + 1) := by
          show cond ((58 : Int) == 58 && r'.head? == some 58) _ _ = _
          rw [beq_eq_false_iff_ne.2 hdd, Bool.and_false, cond_false]
        rw [hdc1] at hdc
        have hr'0 : dcI r' ≠ some 0 := fun e => by
          cases r' with
          | nil => cases e
          | cons x r2 =>
            have e' : cond (x == 58 && r2.head? == some 58) (some 0) ((dcI r2).map (· + 1)) = some 0 := e
            cases hx : x == 58 with
            | true => exact hdd (by rw [beq_iff_eq.1 hx]; rfl)
            | false =>
              rw [hx, Bool.false_and, cond_false] at e'
              obtain ⟨q, _, hq⟩ := Option.map_eq_some_iff.1 e'
              omega
        have hnn := split_nn r'
        unfold grpR
        rw [hdc]
        cases hdr : dcI r' with
        | none =>
          show _ = cond ((splitI (p ++ 58 :: r') 58).all hexB && (b.length + 2 * (splitI (p ++ 58 :: r') 58).length == 16)) (some (b ++ bytesP (splitI (p ++ 58 :: r') 58))) none
          rw [hs, List.all_cons, List.length_cons]
          cases hexB p with
          | false => rfl
          | true =>
            rw [cond_true, Bool.true_and]
            show cond ((58 : Int) != 58 || (b ++ by2 (hexV p)).length == 16) none (tail2 (colM k) (b ++ by2 (hexV p)) (-1) r') = _
            rw [show ((58 : Int) != 58) = false from rfl, Bool.false_or, hl]
            by_cases h16 : b.length = 14
            · rw [beq_iff_eq.2 (show b.length + 2 = 16 by omega), cond_true, beq_eq_false_iff_ne.2 (show b.length + 2 * ((splitI r' 58).length + 1) ≠ 16 by omega), Bool.and_false]; rfl
            · rw [beq_eq_false_iff_ne.2 (show b.length + 2 ≠ 16 by omega), cond_false]
              cases r' with
              | nil => rfl
              | cons d r2 =>
                have hd : d ≠ 58 := fun e => hdd (by rw [e]; rfl)
                show cond (d != 58) (colM k (b ++ by2 (hexV p)) (-1) (d :: r2)) _ = _
                rw [bne_iff_ne.2 hd, cond_true]
                have hkk : (d :: r2).length < k := by rw [hlen] at hk; omega
                rw [col_nogap k (b ++ by2 (hexV p)) (d :: r2) hkk (by omega) (by omega) hr'0]
                unfold grpR
                rw [hdr]
                show cond (_ && ((b ++ by2 (hexV p)).length + _ == 16)) _ _ = _
                rw [hl, bytesP_cons, List.append_assoc, show b.length + 2 * ((splitI (d :: r2) 58).length + 1) = b.length + 2 + 2 * (splitI (d :: r2) 58).length by omega]
        | some i =>
          have ei : ((some i).map (· + 1)).map (· + p.length) = some (i + 1 + p.length) := rfl
          rw [ei]
          show _ = cond ((partsO ((p ++ 58 :: r').take (i + 1 + p.length))).all hexB && (partsO ((p ++ 58 :: r').drop (i + 1 + p.length + 2))).all hexB && decide (b.length + 2 * (partsO ((p ++ 58 :: r').take (i + 1 + p.length))).length + 2 * (partsO ((p ++ 58 :: r').drop (i + 1 + p.length + 2))).length ≤ 14))
            (some (insZ (b ++ bytesP (partsO ((p ++ 58 :: r').take (i + 1 + p.length))) ++ bytesP (partsO ((p ++ 58 :: r').drop (i + 1 + p.length + 2)))) (b.length + 2 * (partsO ((p ++ 58 :: r').take (i + 1 + p.length))).length))) none
          rw [hne (i + 1 + p.length) (by omega), hnd (i + 1 + p.length + 2) (by omega), show i + 1 + p.length - p.length = i + 1 by omega, show i + 1 + p.length + 2 - p.length = (i + 2) + 1 by omega]
          rw [show (58 :: r' : List Int).take (i + 1) = 58 :: r'.take i from rfl, show (58 :: r' : List Int).drop (i + 2 + 1) = r'.drop (i + 2) from rfl]
          rw [partsO_ne (r := p ++ 58 :: r'.take i) (by simp), split_pc p _ hp, List.all_cons, List.length_cons]
          have hi0 : i ≠ 0 := fun e => hr'0 (by rw [hdr, e])
          cases r' with
          | nil => cases hdr
          | cons d r2 =>
            have htk : (d :: r2).take i ≠ [] := by
              obtain ⟨j, rfl⟩ : ∃ j, i = j + 1 := ⟨i - 1, by omega⟩
              simp
            have hnn2 := split_nn ((d :: r2).take i)
            cases hexB p with
            | false => rfl
            | true =>
              rw [cond_true, Bool.true_and]
              show cond ((58 : Int) != 58 || (b ++ by2 (hexV p)).length == 16) none (tail2 (colM k) (b ++ by2 (hexV p)) (-1) (d :: r2)) = _
              rw [show ((58 : Int) != 58) = false from rfl, Bool.false_or, hl]
              by_cases h16 : b.length = 14
              · rw [beq_iff_eq.2 (show b.length + 2 = 16 by omega), cond_true, decide_eq_false (by omega), Bool.and_false]; rfl
              · rw [beq_eq_false_iff_ne.2 (show b.length + 2 ≠ 16 by omega), cond_false]
                have hd : d ≠ 58 := fun e => hdd (by rw [e]; rfl)
                show cond (d != 58) (colM k (b ++ by2 (hexV p)) (-1) (d :: r2)) _ = _
                rw [bne_iff_ne.2 hd, cond_true]
                have hkk : (d :: r2).length < k := by rw [hlen] at hk; omega
                rw [col_nogap k (b ++ by2 (hexV p)) (d :: r2) hkk (by omega) (by omega) hr'0]
                unfold grpR
                rw [hdr]
                show cond ((partsO ((d :: r2).take i)).all hexB && (partsO ((d :: r2).drop (i + 2))).all hexB && decide ((b ++ by2 (hexV p)).length + 2 * (partsO ((d :: r2).take i)).length + 2 * (partsO ((d :: r2).drop (i + 2))).length ≤ 14))
                  (some (insZ (b ++ by2 (hexV p) ++ bytesP (partsO ((d :: r2).take i)) ++ bytesP (partsO ((d :: r2).drop (i + 2)))) ((b ++ by2 (hexV p)).length + 2 * (partsO ((d :: r2).take i)).length))) none = _
                rw [partsO_ne htk, hl, bytesP_cons, ← List.append_assoc b, show b.length + 2 * ((splitI ((d :: r2).take i) 58).length + 1) = b.length + 2 + 2 * (splitI ((d :: r2).take i) 58).length by omega]
end Go.Proofs.YtblngdnndkljoaaDoor

/- Addresses: the program's reader and the reference's answer alike. -/
namespace Go.Proofs.YtblngdnndkljoaaDoor
open Pv
set_option linter.unusedVariables false
theorem colR_eq (s : List Int) : colR s = grpR [] s := by
  unfold colR
  match s with
  | [] => rfl
  | [x] =>
    rw [show (([x] : List Int).take 2 == [58, 58]) = false from beq_eq_false_iff_ne.2 fun e => by simp at e, cond_false]
    have h0 : dcI [x] ≠ some 0 := fun e => by
      have e' : cond (x == 58 && false) (some 0) ((dcI []).map (· + 1)) = some 0 := e
      rw [Bool.and_false] at e'
      cases e'
    exact col_nogap 2 [] [x] (by simp) (by simp) rfl h0
  | x :: y :: r =>
    have htk : (x :: y :: r).take 2 = [x, y] := rfl
    have hdp : (x :: y :: r).drop 2 = r := rfl
    rw [htk, hdp]
    by_cases hxy : x = 58 ∧ y = 58
    · obtain ⟨rfl, rfl⟩ := hxy
      rw [show (([58, 58] : List Int) == [58, 58]) = true from rfl, cond_true]
      have hg : grpR [] (58 :: 58 :: r) = cond (true && (partsO r).all hexB && decide (0 + 2 * 0 + 2 * (partsO r).length ≤ 14)) (some (insZ ([] ++ [] ++ bytesP (partsO r)) (0 + 2 * 0))) none := rfl
      rw [hg]
      cases r with
      | nil => rfl
      | cons e r3 =>
        rw [show ((e :: r3) == ([] : List Int)) = false from rfl, cond_false, col_gap _ [] 0 (e :: r3) (by simp) (by omega) (by simp) rfl, partsO_ne (by simp)]
        rw [Bool.true_and, List.nil_append, List.nil_append]
        rfl
    · have hne : (([x, y] : List Int) == [58, 58]) = false := beq_eq_false_iff_ne.2 fun e => hxy (by injection e with e1 e2; injection e2 with e2; exact ⟨e1, e2⟩)
      rw [hne, cond_false]
      refine col_nogap _ [] _ (Nat.lt_succ_self _) (by simp) rfl fun e => ?_
      have e' : cond (x == 58 && (some y == some 58)) (some 0) ((dcI (y :: r)).map (· + 1)) = some 0 := e
      cases hb : (x == 58 && (some y == some 58)) with
      | true =>
        rw [Bool.and_eq_true, beq_iff_eq, beq_iff_eq] at hb
        exact hxy ⟨hb.1, by injection hb.2⟩
      | false =>
        rw [hb, cond_false] at e'
        obtain ⟨q, _, hq⟩ := Option.map_eq_some_iff.1 e'
        omega
/-! ### the reference's groups -/
theorem group_loop (s : List Int) (hs : s.length ≤ 4) : ∀ (r : List Int) (i : Nat) (n : Int), s.drop i = r → i ≤ s.length → 0 ≤ n → n < 16 ^ i →
    loopC (F_wlvref15_group_L7 s) (n, (i : Int)) = some (cond (r.all fun c => decide (0 ≤ dg c)) (.inr (r.foldl (fun n c => n * 16 + dg c) n)) (.inl (0, false)))
  | [], i, n, hr, hi, h0, h1 => by
    have hie := drop_nil' hr hi
    refine loop_inl ?_
    unfold F_wlvref15_group_L7
    dsimp only
    rw [decide_eq_false (show ¬ (i : Int) < (s.length : Int) by omega), cond_false]
    rfl
  | c :: r, i, n, hr, hi, h0, h1 => by
    obtain ⟨hlt, hget, hdrop⟩ := drop_cons hr
    have hp2 : (16 : Int) ^ (i + 1) = 16 ^ i * 16 := Int.pow_succ ..
    have hp : (16 : Int) ^ (i + 1) ≤ 65536 := pow16 (i + 1) (by omega) (by omega)
    have ih := group_loop s hs r (i + 1) (n * 16 + dg c) hdrop (by omega)
    have hbody : F_wlvref15_group_L7 s (n, (i : Int)) = cond (decide (0 ≤ dg c)) (some (.inr (n * 16 + dg c, (i : Int) + 1))) (some (.inl (.inl (0, false)))) := by
      unfold F_wlvref15_group_L7
      dsimp only
      rw [decide_eq_true (show (i : Int) < (s.length : Int) by omega), cond_true, getI_nat hget, Option.bind_some, wrap_in (x := n * 16) (by omega) (by omega), wrap_in (x := (i : Int) + 1) (by omega) (by omega)]
      unfold dg
      by_cases c1 : 48 ≤ c ∧ c ≤ 57
      · rw [show (decide (c ≥ 48) && decide (c ≤ 57)) = true by simpa using c1, cond_true, if_pos c1, u8_sm (by omega) (by omega), wrap_in (x := c - 48) (by omega) (by omega), wrap_in (by omega) (by omega), decide_eq_true (show (0 : Int) ≤ c - 48 by omega), cond_true]
      · rw [show (decide (c ≥ 48) && decide (c ≤ 57)) = false by simp; omega, cond_false, if_neg c1]
        by_cases c2 : 97 ≤ c ∧ c ≤ 102
        · rw [show (decide (c ≥ 97) && decide (c ≤ 102)) = true by simpa using c2, cond_true, if_pos c2, u8_sm (by omega) (by omega), wrap_in (x := c - 97) (by omega) (by omega), wrap_in (x := n * 16 + (c - 97)) (by omega) (by omega), wrap_in (by omega) (by omega), decide_eq_true (show (0 : Int) ≤ c - 87 by omega), cond_true, show n * 16 + (c - 97) + 10 = n * 16 + (c - 87) by omega]
        · rw [show (decide (c ≥ 97) && decide (c ≤ 102)) = false by simp; omega, cond_false, if_neg c2]
          by_cases c3 : 65 ≤ c ∧ c ≤ 70
          · rw [show (decide (c ≥ 65) && decide (c ≤ 70)) = true by simpa using c3, cond_true, if_pos c3, u8_sm (by omega) (by omega), wrap_in (x := c - 65) (by omega) (by omega), wrap_in (x := n * 16 + (c - 65)) (by omega) (by omega), wrap_in (by omega) (by omega), decide_eq_true (show (0 : Int) ≤ c - 55 by omega), cond_true, show n * 16 + (c - 65) + 10 = n * 16 + (c - 55) by omega]
          · rw [show (decide (c ≥ 65) && decide (c ≤ 70)) = false by simp; omega, cond_false, if_neg c3]; rfl
    rw [List.all_cons, List.foldl_cons]
    obtain ⟨_, hd1⟩ := dg_in c
    by_cases hd : 0 ≤ dg c
    · rw [decide_eq_true hd, cond_true] at hbody
      have h2 := ih (by omega) (by rw [hp2]; omega)
      rw [decide_eq_true hd, Bool.true_and]
      exact loop_inr hbody (by exact_mod_cast h2)
    · rw [decide_eq_false hd, cond_false] at hbody
      rw [decide_eq_false hd, Bool.false_and]
      exact loop_inl hbody
theorem group_eq (s : List Int) : F_wlvref15_group s = some (cond (hexB s) (hexV s, true) (0, false)) := by
  unfold F_wlvref15_group hexB
  by_cases h : 1 ≤ s.length ∧ s.length ≤ 4
  · rw [decide_eq_false (show ¬ (s.length : Int) < 1 by omega), decide_eq_false (show ¬ (s.length : Int) > 4 by omega), Bool.or_self, cond_false, decide_eq_true h.1, decide_eq_true h.2, Bool.true_and, Bool.true_and]
    have := group_loop s h.2 s 0 0 rfl (by omega) (by omega) (by decide)
    have this : loopC (F_wlvref15_group_L7 s) (0, 0) = _ := this
    rw [this]
    cases s.all fun c => decide (0 ≤ dg c) <;> rfl
  · have : (decide ((s.length : Int) < 1) || decide ((s.length : Int) > 4)) = true := by
      rw [Bool.or_eq_true, decide_eq_true_iff, decide_eq_true_iff]; omega
    rw [this, cond_true]
    have h2 : (decide (1 ≤ s.length) && decide (s.length ≤ 4)) = false := by
      rw [Bool.and_eq_false_iff, decide_eq_false_iff_not, decide_eq_false_iff_not]; omega
    rw [h2]; rfl
theorem hexV_nn (p : List Int) (h : hexB p = true) : 0 ≤ hexV p := by
  unfold hexB at h
  simp only [Bool.and_eq_true] at h
  have key : ∀ (q : List Int) (n : Int), 0 ≤ n → (q.all fun c => decide (0 ≤ dg c)) = true → 0 ≤ q.foldl (fun n c => n * 16 + dg c) n := fun q => by
    induction q with
    | nil => intro n h _; exact h
    | cons c q ih =>
      intro n hn hq
      rw [List.all_cons, Bool.and_eq_true, decide_eq_true_iff] at hq
      exact ih _ (show 0 ≤ n * 16 + dg c by omega) hq.2
  exact key p 0 (by omega) h.2
theorem split_len : ∀ (t : List Int) (c : Int), t.length ≤ 1000000 → (splitI t c).length ≤ t.length + 1
  | [], _, _ => by simp [splitI]
  | x :: t, c, h => by
    have ih := split_len t c (by simp at h; omega)
    unfold splitI
    rw [List.length_cons]
    cases x == c with
    | true =>
      show (splitI t c).length + 1 ≤ _
      omega
    | false =>
      rw [cond_false]
      cases hq : splitI t c with
      | nil => simp
      | cons w q =>
        rw [hq] at ih
        simp at ih ⊢
        omega
/-- Whether the groups of a text may be. -/
def okG (t : List Int) : Bool := (partsO t).all hexB && decide ((partsO t).length ≤ 8)
theorem groups_eq (t : List Int) (ht : t.length ≤ 1000000) : ∃ v : List Int, F_wlvref15_groups t = some (v, okG t) ∧ v.length ≤ 18 ∧ (okG t = true → v = bytesP (partsO t)) := by
  unfold F_wlvref15_groups
  by_cases h0 : t = []
  · subst h0
    exact ⟨[], rfl, by simp, fun _ => rfl⟩
  · rw [beq_eq_false_iff_ne.2 h0, cond_false, Split_eq t 58 ht, Option.bind_some]
    unfold okG
    rw [partsO_ne h0]
    obtain ⟨l, hl⟩ : ∃ l, splitI t 58 = l := ⟨_, rfl⟩
    have hlen : l.length ≤ 1000001 := by rw [← hl]; have := split_len t 58 ht; omega
    rw [hl]
    obtain ⟨r, h1, h2⟩ := loop_inv (body := F_wlvref15_groups_L8) (I := fun st => ∃ i : Nat, st = (l, bytesP (l.take i), (i : Int)) ∧ i ≤ l.length ∧ i ≤ 9 ∧ (l.take i).all hexB = true) (m := fun st => 9 - st.2.2.toNat)
      (Q := fun r => (r = .inl ([], false) ∧ l.all hexB = false) ∨ ∃ i : Nat, r = .inr (l, bytesP (l.take i)) ∧ i ≤ 9 ∧ (l.take i).all hexB = true ∧ (i = l.length ∨ 9 ≤ i ∧ 9 ≤ l.length)) (fun st ⟨i, e, hi, hi9, ha⟩ => by
        subst e
        unfold F_wlvref15_groups_L8 chk
        dsimp only
        by_cases hlt : i < l.length ∧ i < 9
        · have hg := getI_nat (List.getElem?_eq_getElem hlt.1)
          rw [decide_eq_true (show (i : Int) < (l.length : Int) by omega), decide_eq_true (show (i : Int) < 9 by omega), Bool.true_and, cond_true, hg, Option.bind_some, group_eq, Option.bind_some]
          cases hx : hexB l[i] with
          | false =>
            refine .inl ⟨_, rfl, .inl ⟨rfl, ?_⟩⟩
            rw [List.all_eq_false]
            exact ⟨l[i], List.getElem_mem _, by rw [hx]; simp⟩
          | true =>
            rw [cond_true]
            show (∃ r, (cond (!true) _ _) = _ ∧ _) ∨ ∃ s', (cond (!true) _ _) = _ ∧ _
            rw [Bool.not_true, cond_false, by2_eq (hexV_nn _ hx)]
            have hck : (decide (((bytesP (l.take i)).length + (by2 (hexV l[i])).length) * 1 ≤ 140737488355328) && decide ((bytesP (l.take i)).length + (by2 (hexV l[i])).length ≤ maxLen)) = true := chk1 (by
              rw [bytesP_len, List.length_take]
              show _ + 2 ≤ _
              omega)
            rw [hck, cond_true, wrap_in (x := (i : Int) + 1) (by omega) (by omega)]
            have htk : l.take (i + 1) = l.take i ++ [l[i]] := by rw [List.take_add_one, List.getElem?_eq_getElem hlt.1]; rfl
            refine .inr ⟨_, rfl, ⟨i + 1, ?_, by omega, by omega, ?_⟩, ?_⟩
            · rw [htk]
              have : bytesP (l.take i ++ [l[i]]) = bytesP (l.take i) ++ by2 (hexV l[i]) := by
                unfold bytesP
                rw [List.flatMap_append]
                show _ ++ (by2 (hexV l[i]) ++ []) = _
                rw [List.append_nil]
              rw [this]; rfl
            · rw [htk, List.all_append, ha, Bool.true_and]
              simpa using hx
            · show 9 - ((i : Int) + 1).toNat < 9 - (i : Int).toNat
              omega
        · have : (decide ((i : Int) < (l.length : Int)) && decide ((i : Int) < 9)) = false := by
            rw [Bool.and_eq_false_iff, decide_eq_false_iff_not, decide_eq_false_iff_not]; omega
          rw [this, cond_false]
          exact .inl ⟨_, rfl, .inr ⟨i, rfl, hi9, ha, by omega⟩⟩) (l, ([] : List Int), 0) ⟨0, rfl, by omega, by omega, rfl⟩
    rcases h2 with ⟨rfl, hf⟩ | ⟨i, rfl, hi9, ha, hc⟩
    · rw [join_inl h1, hf]
      exact ⟨[], rfl, by simp, fun h => by cases h⟩
    · rw [join_inr h1]
      unfold F_wlvref15_groups_J6
      dsimp only
      have hbl : (bytesP (l.take i)).length ≤ 18 := by rw [bytesP_len, List.length_take]; omega
      rcases hc with rfl | ⟨h9, h9'⟩
      · rw [List.take_length] at ha hbl ⊢
        rw [ha, Bool.true_and]
        refine ⟨bytesP l, ?_, hbl, fun _ => rfl⟩
        congr 2
        exact decide_eq_decide.2 (by omega)
      · rw [decide_eq_false (show ¬ (l.length : Int) ≤ 8 by omega), decide_eq_false (show ¬ l.length ≤ 8 by omega), Bool.and_false]
        exact ⟨bytesP (l.take i), rfl, hbl, fun h => by cases h⟩
/-! ### the reference's eight groups -/
theorem find_done (s : List Int) (hs : s.length ≤ 1000000) (a : Nat) : ∀ (r : List Int) (i : Nat), s.drop i = r → i ≤ s.length → loopC (F_wlvref15_eight_L4 s) ((a : Int), (i : Int)) = some (.inr (a : Int))
  | [], i, hr, hi => by
    have hie := drop_nil' hr hi
    refine loop_inl ?_
    unfold F_wlvref15_eight_L4
    dsimp only
    rw [wrap_in (x := (i : Int) + 1) (by omega) (by omega), decide_eq_false (show ¬ (i : Int) + 1 < (s.length : Int) by omega), cond_false]
  | c :: r, i, hr, hi => by
    obtain ⟨hlt, hget, hdrop⟩ := drop_cons hr
    have ih := find_done s hs a r (i + 1) hdrop (by omega)
    have ih : loopC (F_wlvref15_eight_L4 s) ((a : Int), (i : Int) + 1) = some (.inr (a : Int)) := ih
    by_cases hl : i + 1 < s.length
    · refine loop_inr ?_ ih
      have hg2 : getI s ((i : Int) + 1) = some s[i + 1] := getI_nat (i := i + 1) (List.getElem?_eq_getElem hl)
      unfold F_wlvref15_eight_L4
      dsimp only
      rw [wrap_in (x := (i : Int) + 1) (by omega) (by omega), decide_eq_true (show (i : Int) + 1 < (s.length : Int) by omega), cond_true, getI_nat hget, Option.bind_some]
      cases c == 58 with
      | false => rfl
      | true =>
        rw [cond_true, hg2, Option.bind_some, decide_eq_false (show ¬ (a : Int) < 0 by omega), Bool.and_false]
        rfl
    · refine loop_inl ?_
      unfold F_wlvref15_eight_L4
      dsimp only
      rw [wrap_in (x := (i : Int) + 1) (by omega) (by omega), decide_eq_false (show ¬ (i : Int) + 1 < (s.length : Int) by omega), cond_false]
def atI (i : Nat) : Option Nat → Int
  | none => -1
  | some j => ((i + j : Nat) : Int)
theorem find_loop (s : List Int) (hs : s.length ≤ 1000000) : ∀ (r : List Int) (i : Nat), s.drop i = r → i ≤ s.length → loopC (F_wlvref15_eight_L4 s) (-1, (i : Int)) = some (.inr (atI i (dcI r)))
  | [], i, hr, hi => by
    have hie := drop_nil' hr hi
    refine loop_inl ?_
    unfold F_wlvref15_eight_L4
    dsimp only
    rw [wrap_in (x := (i : Int) + 1) (by omega) (by omega), decide_eq_false (show ¬ (i : Int) + 1 < (s.length : Int) by omega), cond_false]
    rfl
  | c :: r, i, hr, hi => by
    obtain ⟨hlt, hget, hdrop⟩ := drop_cons hr
    have ih : loopC (F_wlvref15_eight_L4 s) (-1, (i : Int) + 1) = some (.inr (atI (i + 1) (dcI r))) := find_loop s hs r (i + 1) hdrop (by omega)
    have hu : dcI (c :: r) = cond (c == 58 && r.head? == some 58) (some 0) ((dcI r).map (· + 1)) := rfl
    have hat : atI i ((dcI r).map (· + 1)) = atI (i + 1) (dcI r) := by
      cases dcI r with
      | none => rfl
      | some j => show ((i + (j + 1) : Nat) : Int) = ((i + 1 + j : Nat) : Int); omega
    by_cases hl : i + 1 < s.length
    · have hg2 : getI s ((i : Int) + 1) = some s[i + 1] := getI_nat (i := i + 1) (List.getElem?_eq_getElem hl)
      have hh : r.head? = some s[i + 1] := by rw [← hdrop, List.head?_drop, List.getElem?_eq_getElem hl]
      have hbody : F_wlvref15_eight_L4 s (-1, (i : Int)) = some (.inr (cond (c == 58 && s[i + 1] == 58) (i : Int) (-1), (i : Int) + 1)) := by
        unfold F_wlvref15_eight_L4
        dsimp only
        rw [wrap_in (x := (i : Int) + 1) (by omega) (by omega), decide_eq_true (show (i : Int) + 1 < (s.length : Int) by omega), cond_true, getI_nat hget, Option.bind_some]
        cases c == 58 with
        | false => rfl
        | true =>
          rw [cond_true, hg2, Option.bind_some, show decide ((-1 : Int) < 0) = true from rfl, Bool.and_true, Bool.true_and]
          cases s[i + 1] == 58 <;> rfl
      rw [hu, hh, show ((some s[i + 1] == some 58) : Bool) = (s[i + 1] == 58) from rfl]
      cases hb : (c == 58 && s[i + 1] == 58) with
      | true =>
        rw [hb, cond_true] at hbody
        rw [cond_true]
        refine loop_inr hbody ?_
        exact find_done s hs i r (i + 1) hdrop (by omega)
      | false =>
        rw [hb, cond_false] at hbody
        rw [cond_false, hat]
        exact loop_inr hbody ih
    · have hrn : r = [] := by rw [← hdrop]; exact List.drop_of_length_le (by omega)
      subst hrn
      rw [hu, show (([] : List Int).head? == some 58) = false from rfl, Bool.and_false, cond_false]
      refine loop_inl ?_
      unfold F_wlvref15_eight_L4
      dsimp only
      rw [wrap_in (x := (i : Int) + 1) (by omega) (by omega), decide_eq_false (show ¬ (i : Int) + 1 < (s.length : Int) by omega), cond_false]
      rfl
theorem dc_lt : ∀ {s : List Int} {i : Nat}, dcI s = some i → i + 2 ≤ s.length
  | [], _, h => by cases h
  | c :: r, i, h => by
    have hu : cond (c == 58 && r.head? == some 58) (some 0) ((dcI r).map (· + 1)) = some i := h
    cases hb : (c == 58 && r.head? == some 58) with
    | true =>
      rw [hb, cond_true] at hu
      injection hu with hu
      rw [Bool.and_eq_true, beq_iff_eq, beq_iff_eq] at hb
      cases r with
      | nil => cases hb.2
      | cons d r => rw [← hu]; simp
    | false =>
      rw [hb, cond_false] at hu
      obtain ⟨j, hj, rfl⟩ := Option.map_eq_some_iff.1 hu
      have := dc_lt hj
      simp
      omega
theorem fill_loop (a b : List Int) (h : a.length + b.length ≤ 14) : loopC F_wlvref15_eight_L20 (b, a) = some (.inr (b, a ++ List.replicate (16 - b.length - a.length) 0)) := by
  obtain ⟨r, h1, rfl⟩ := loop_inv (body := F_wlvref15_eight_L20) (I := fun st => ∃ k : Nat, st = (b, a ++ List.replicate k 0) ∧ k ≤ 16 - b.length - a.length) (m := fun st => 16 - st.2.length)
    (Q := fun r => r = .inr (b, a ++ List.replicate (16 - b.length - a.length) 0)) (fun st ⟨k, e, hk⟩ => by
      subst e
      unfold F_wlvref15_eight_L20 chk
      dsimp only
      have hl : (a ++ List.replicate k (0 : Int)).length = a.length + k := by simp
      rw [hl, wrap_in (by omega) (by omega)]
      by_cases hlt : k < 16 - b.length - a.length
      · rw [decide_eq_true (show ((a.length + k : Nat) : Int) < 16 - (b.length : Int) by omega), cond_true, show (decide ((a.length + k + ([0] : List Int).length) * 1 ≤ 140737488355328) && decide (a.length + k + ([0] : List Int).length ≤ maxLen)) = true from chk1 (by show a.length + k + 1 ≤ _; omega), cond_true]
        refine .inr ⟨_, rfl, ⟨k + 1, by rw [List.replicate_succ', List.append_assoc], by omega⟩, ?_⟩
        rw [List.length_append]
        simp
        omega
      · rw [decide_eq_false (show ¬ ((a.length + k : Nat) : Int) < 16 - (b.length : Int) by omega), cond_false]
        refine .inl ⟨_, rfl, ?_⟩
        rw [show k = 16 - b.length - a.length by omega]) (b, a) ⟨0, by simp, by omega⟩
  exact h1
theorem eight_eq (s : List Int) (hs : s.length ≤ 1000000) : ∃ v : List Int, F_wlvref15_eight s = some (v, (grpR [] s).isSome) ∧ ∀ x, grpR [] s = some x → v = x := by
  have hf : loopC (F_wlvref15_eight_L4 s) (-1, 0) = some (.inr (atI 0 (dcI s))) := find_loop s hs s 0 rfl (by omega)
  unfold F_wlvref15_eight
  rw [join_inr hf]
  unfold F_wlvref15_eight_J2 grpR
  dsimp only
  cases hd : dcI s with
  | none =>
    show ∃ v, cond (decide ((-1 : Int) < 0)) _ _ = some (v, (cond ((splitI s 58).all hexB && (0 + 2 * (splitI s 58).length == 16)) (some ([] ++ bytesP (splitI s 58))) none).isSome) ∧ ∀ x, cond ((splitI s 58).all hexB && (0 + 2 * (splitI s 58).length == 16)) (some ([] ++ bytesP (splitI s 58))) none = some x → v = x
    rw [show decide ((-1 : Int) < 0) = true from rfl, cond_true]
    obtain ⟨v, h1, h2, h3⟩ := groups_eq s hs
    rw [h1, Option.bind_some]
    refine ⟨v, ?_, ?_⟩
    · congr 2
      by_cases h0 : s = []
      · subst h0
        have : v = [] := h3 rfl
        subst this; rfl
      · unfold okG at h3 ⊢
        rw [partsO_ne h0] at h3 ⊢
        cases ha : (splitI s 58).all hexB with
        | false => rfl
        | true =>
          rw [ha, Bool.true_and] at h3
          rw [Bool.true_and, Bool.true_and]
          by_cases h8 : (splitI s 58).length ≤ 8
          · have := h3 (decide_eq_true h8)
            rw [decide_eq_true h8, Bool.true_and, this, bytesP_len]
            by_cases h16 : (splitI s 58).length = 8
            · rw [h16]; rfl
            · rw [beq_eq_false_iff_ne.2 (show ((2 * (splitI s 58).length : Nat) : Int) ≠ 16 by omega), beq_eq_false_iff_ne.2 (show 0 + 2 * (splitI s 58).length ≠ 16 by omega)]; rfl
          · rw [decide_eq_false h8, Bool.false_and, beq_eq_false_iff_ne.2 (show 0 + 2 * (splitI s 58).length ≠ 16 by omega)]; rfl
    · intro x hx
      cases hc : ((splitI s 58).all hexB && (0 + 2 * (splitI s 58).length == 16)) with
      | false => rw [hc] at hx; cases hx
      | true =>
        rw [hc, cond_true, List.nil_append] at hx
        injection hx with hx
        rw [Bool.and_eq_true, beq_iff_eq] at hc
        have h0 : s ≠ [] := fun e => by subst e; cases hc.1
        rw [← hx]
        have : okG s = true := by unfold okG; rw [partsO_ne h0, hc.1, decide_eq_true (by omega)]; rfl
        rw [h3 this, partsO_ne h0]
  | some i =>
    have hi := dc_lt hd
    have htl : (s.take i).length ≤ 1000000 := by rw [List.length_take]; omega
    have hdl : (s.drop (i + 2)).length ≤ 1000000 := by rw [List.length_drop]; omega
    obtain ⟨a, a1, a2, a3⟩ := groups_eq (s.take i) htl
    obtain ⟨b, b1, b2, b3⟩ := groups_eq (s.drop (i + 2)) hdl
    have e0 : atI 0 (some i) = (i : Int) := by show ((0 + i : Nat) : Int) = _; omega
    rw [e0, decide_eq_false (show ¬ (i : Int) < 0 by omega), cond_false]
    have c1 : cutI s 0 (i : Int) = some (s.take i) := by
      have := cutI_nat (s := s) (a := 0) (b := i) (by omega) (by omega)
      exact this
    have c2 : cutI s (IntKind.i64.wrap ((i : Int) + 2)) (s.length : Int) = some (s.drop (i + 2)) := by
      rw [wrap_in (by omega) (by omega)]
      have := cutI_nat (s := s) (a := i + 2) (b := s.length) hi (by omega)
      rw [List.take_length] at this
      exact this
    rw [c1, Option.bind_some, a1, Option.bind_some, c2, Option.bind_some, b1, Option.bind_some]
    show ∃ v, _ = some (v, (cond ((partsO (s.take i)).all hexB && (partsO (s.drop (i + 2))).all hexB && decide (0 + 2 * (partsO (s.take i)).length + 2 * (partsO (s.drop (i + 2))).length ≤ 14)) (some (insZ ([] ++ bytesP (partsO (s.take i)) ++ bytesP (partsO (s.drop (i + 2)))) (0 + 2 * (partsO (s.take i)).length))) none).isSome) ∧ ∀ x, cond ((partsO (s.take i)).all hexB && (partsO (s.drop (i + 2))).all hexB && decide (0 + 2 * (partsO (s.take i)).length + 2 * (partsO (s.drop (i + 2))).length ≤ 14)) (some (insZ ([] ++ bytesP (partsO (s.take i)) ++ bytesP (partsO (s.drop (i + 2)))) (0 + 2 * (partsO (s.take i)).length))) none = some x → v = x
    have fail : (okG (s.take i) && okG (s.drop (i + 2)) && decide (a.length + b.length ≤ 14)) = false → ((partsO (s.take i)).all hexB && (partsO (s.drop (i + 2))).all hexB && decide (0 + 2 * (partsO (s.take i)).length + 2 * (partsO (s.drop (i + 2))).length ≤ 14)) = false := fun h => by
      cases hc : ((partsO (s.take i)).all hexB && (partsO (s.drop (i + 2))).all hexB && decide (0 + 2 * (partsO (s.take i)).length + 2 * (partsO (s.drop (i + 2))).length ≤ 14)) with
      | false => rfl
      | true =>
        simp only [Bool.and_eq_true, decide_eq_true_eq] at hc
        have ha : okG (s.take i) = true := by unfold okG; rw [hc.1.1, decide_eq_true (by omega)]; rfl
        have hb : okG (s.drop (i + 2)) = true := by unfold okG; rw [hc.1.2, decide_eq_true (by omega)]; rfl
        have ea := a3 ha
        have eb := b3 hb
        rw [ha, hb, decide_eq_true (by rw [ea, eb, bytesP_len, bytesP_len]; omega)] at h
        cases h
    dsimp only
    rw [wrap_in (x := (a.length : Int) + (b.length : Int)) (by omega) (by omega)]
    cases hA : okG (s.take i) with
    | false => rw [fail (by rw [hA]; rfl)]; exact ⟨[], rfl, fun x h => by cases h⟩
    | true =>
      cases hB : okG (s.drop (i + 2)) with
      | false => rw [fail (by rw [hB, Bool.and_false]; rfl)]; exact ⟨[], rfl, fun x h => by cases h⟩
      | true =>
        by_cases h14 : a.length + b.length ≤ 14
        · have ea := a3 hA
          have eb := b3 hB
          have ha14 : (partsO (s.take i)).length * 2 + (partsO (s.drop (i + 2))).length * 2 ≤ 14 := by
            rw [ea, eb, bytesP_len, bytesP_len] at h14; omega
          have hca : (partsO (s.take i)).all hexB = true := by unfold okG at hA; exact (Bool.and_eq_true _ _ ▸ hA).1
          have hcb : (partsO (s.drop (i + 2))).all hexB = true := by unfold okG at hB; exact (Bool.and_eq_true _ _ ▸ hB).1
          rw [hca, hcb, decide_eq_true (show 0 + 2 * (partsO (s.take i)).length + 2 * (partsO (s.drop (i + 2))).length ≤ 14 by omega)]
          rw [decide_eq_false (show ¬ (a.length : Int) + (b.length : Int) > 14 by omega)]
          show ∃ v, chk (decide ((0 + a.length) * 1 ≤ 140737488355328) && decide (0 + a.length ≤ maxLen)) (joinC (loopC F_wlvref15_eight_L20 (b, [] ++ a)) F_wlvref15_eight_J19) = some (v, true) ∧ ∀ x, some (insZ ([] ++ bytesP (partsO (s.take i)) ++ bytesP (partsO (s.drop (i + 2)))) (0 + 2 * (partsO (s.take i)).length)) = some x → v = x
          rw [List.nil_append, List.nil_append, join_inr (fill_loop a b h14), chk1 (by omega)]
          unfold chk F_wlvref15_eight_J19
          dsimp only
          have hl : (a ++ List.replicate (16 - b.length - a.length) (0 : Int)).length = 16 - b.length := by simp; omega
          rw [cond_true, hl]
          unfold chk
          rw [chk1 (by omega), cond_true]
          refine ⟨_, rfl, fun x hx => ?_⟩
          injection hx with hx
          rw [← hx, ← ea, ← eb]
          unfold insZ
          have e2 : 0 + 2 * (partsO (s.take i)).length = a.length := by rw [ea, bytesP_len]; omega
          rw [e2, List.take_left, List.drop_left, List.length_append, show 16 - (a.length + b.length) = 16 - b.length - a.length by omega]
        · rw [fail (by rw [decide_eq_false h14, Bool.and_false]), decide_eq_true (show (a.length : Int) + (b.length : Int) > 14 by omega), Bool.or_true]
          exact ⟨[], rfl, fun x h => by cases h⟩
end Go.Proofs.YtblngdnndkljoaaDoor

/- addr.Parse and the reference's Parse alike. -/
namespace Go.Proofs.YtblngdnndkljoaaDoor
open Pv
set_option linter.unusedVariables false
def preM : List Int := [0, 0, 0, 0, 0, 0, 0, 0, 0, 0, 255, 255]
def plainR (x : List Int) : List Int := cond (decide (12 ≤ x.length) && (x.take 12 == preM)) (x.drop 12) x
theorem Plain_eq (s : List Int) (hs : s.length ≤ 1000000) : F_addr_Plain s = some (plainR s) := by
  have hp := prefix_lit s preM hs
  unfold F_strings_HasPrefix at hp
  have hp2 : F_internal_stringslite_HasPrefix s preM = some (decide (preM.length ≤ s.length) && (s.take preM.length == preM)) := by
    cases hq : F_internal_stringslite_HasPrefix s preM with
    | none => rw [hq] at hp; cases hp
    | some b => rw [hq] at hp; exact hp
  unfold F_addr_Plain F_strings_TrimPrefix F_internal_stringslite_TrimPrefix
  show (((F_internal_stringslite_HasPrefix s preM).bind _).bind _).bind _ = _
  rw [hp2, Option.bind_some]
  unfold plainR
  have e12 : preM.length = 12 := rfl
  rw [e12]
  cases hb : (decide (12 ≤ s.length) && (s.take 12 == preM)) with
  | false => rfl
  | true =>
    rw [Bool.and_eq_true, decide_eq_true_iff] at hb
    rw [cond_true, cond_true]
    have h := cutI_nat (s := s) (a := 12) (b := s.length) hb.1 (by omega)
    rw [List.take_length] at h
    have h : cutI s (([0, 0, 0, 0, 0, 0, 0, 0, 0, 0, 255, 255] : List Int).length : Int) (s.length : Int) = some (s.drop 12) := h
    rw [h]; rfl
theorem Mapped_eq (s : List Int) (hl : s.length = 16) : F_wlvref15_Mapped s = some (s.take 12 == preM) := by
  unfold F_wlvref15_Mapped
  have h := cutI_nat (s := s) (a := 0) (b := 12) (by omega) (by omega)
  have h : cutI s 0 12 = some (s.take 12) := h
  rw [beq_iff_eq.2 (show (s.length : Int) = 16 by omega), cond_true, h, Option.bind_some]
  rfl
def sumL (l : List (List Int)) : Nat := l.foldr (fun p n => p.length + 1 + n) 0
theorem split_sum : ∀ (t : List Int) (c : Int), sumL (splitI t c) = t.length + 1
  | [], _ => rfl
  | x :: t, c => by
    have ih := split_sum t c
    unfold splitI
    cases x == c with
    | true =>
      show 0 + 1 + sumL (splitI t c) = _
      rw [ih, List.length_cons]; omega
    | false =>
      rw [cond_false]
      have hne := splitI_ne t c
      cases hq : splitI t c with
      | nil => exact absurd hq hne
      | cons w q =>
        rw [hq] at ih
        have ih : w.length + 1 + sumL q = t.length + 1 := ih
        show (x :: w).length + 1 + sumL q = _
        rw [List.length_cons, List.length_cons]; omega
theorem sum_hex : ∀ l : List (List Int), l.all hexB = true → sumL l ≤ 5 * l.length
  | [], _ => by simp [sumL]
  | p :: l, h => by
    rw [List.all_cons, Bool.and_eq_true] at h
    have ih := sum_hex l h.2
    have h4 : p.length ≤ 4 := by
      have := h.1
      unfold hexB at this
      simp only [Bool.and_eq_true, decide_eq_true_eq] at this
      exact this.1.2
    show p.length + 1 + sumL l ≤ 5 * (l.length + 1)
    omega
theorem parts_hex (t : List Int) (h : (partsO t).all hexB = true) : t.length ≤ 5 * (partsO t).length := by
  by_cases h0 : t = []
  · subst h0; simp
  · rw [partsO_ne h0] at h ⊢
    have h1 := sum_hex _ h
    rw [split_sum] at h1
    omega
theorem grp_16 {s x : List Int} (h : grpR [] s = some x) : x.length = 16 ∧ s.length ≤ 50 := by
  unfold grpR at h
  split at h
  · cases hc : ((splitI s 58).all hexB && (([] : List Int).length + 2 * (splitI s 58).length == 16)) with
    | false => rw [hc] at h; cases h
    | true =>
      rw [hc, cond_true] at h
      injection h with h
      rw [Bool.and_eq_true, beq_iff_eq] at hc
      have h2 : 0 + 2 * (splitI s 58).length = 16 := hc.2
      have h1 := sum_hex _ hc.1
      rw [split_sum] at h1
      refine ⟨?_, by omega⟩
      rw [← h, List.nil_append, bytesP_len]
      omega
  · rename_i i hd
    have hi := dc_lt hd
    cases hc : ((partsO (s.take i)).all hexB && (partsO (s.drop (i + 2))).all hexB && decide (([] : List Int).length + 2 * (partsO (s.take i)).length + 2 * (partsO (s.drop (i + 2))).length ≤ 14)) with
    | false => rw [hc] at h; cases h
    | true =>
      rw [hc, cond_true] at h
      injection h with h
      simp only [Bool.and_eq_true, decide_eq_true_eq] at hc
      have h2 : 0 + 2 * (partsO (s.take i)).length + 2 * (partsO (s.drop (i + 2))).length ≤ 14 := hc.2
      have h3 := parts_hex _ hc.1.1
      have h4 := parts_hex _ hc.1.2
      rw [List.length_take] at h3
      rw [List.length_drop] at h4
      have e1 : ([] ++ bytesP (partsO (s.take i)) ++ bytesP (partsO (s.drop (i + 2)))).length = 2 * (partsO (s.take i)).length + 2 * (partsO (s.drop (i + 2))).length := by
        rw [List.nil_append, List.length_append, bytesP_len, bytesP_len]
      refine ⟨?_, by omega⟩
      rw [← h]
      exact insZ_len (by rw [e1]; show 0 + _ ≤ _; omega) (by rw [e1]; omega)
noncomputable def parseR (s : List Int) : List Int × Int := cond (fourR s).2 ((fourR s).1, 0) (match grpR [] s with | some x => (plainR x, 0) | none => ([], 2))
theorem Parse_eq (s : List Int) (hs : s.length ≤ 1000000) : F_addr_Parse s = some (parseR s) := by
  unfold F_addr_Parse parseR
  rw [dotted_eq s hs, Option.bind_some]
  cases h4 : (fourR s).2 with
  | true => rfl
  | false =>
    rw [Bool.not_false, cond_true, cond_false]
    have hr := coloned_rel s hs
    rw [colR_eq] at hr
    cases hg : grpR [] s with
    | some x =>
      rw [hg] at hr
      have hr : F_addr_coloned s = some (x, true) := hr
      rw [hr, Option.bind_some, Plain_eq x (by have := (grp_16 hg).1; omega)]
      rfl
    | none =>
      rw [hg] at hr
      obtain ⟨v, hv, hl⟩ := hr
      rw [hv, Option.bind_some, Plain_eq v (by omega)]
      rfl
theorem refParse_eq (s : List Int) (hs : s.length ≤ 1000000) : F_wlvref15_Parse s = some (parseR s) := by
  unfold F_wlvref15_Parse parseR
  by_cases h50 : (s.length : Int) > 50
  · rw [decide_eq_true h50, cond_true]
    cases h4 : (fourR s).2 with
    | true => have := (four_len h4).1; omega
    | false =>
      rw [cond_false]
      cases hg : grpR [] s with
      | some x => have := (grp_16 hg).2; omega
      | none => rfl
  · rw [decide_eq_false h50, cond_false, four_eq s hs, Option.bind_some]
    cases h4 : (fourR s).2 with
    | true => rfl
    | false =>
      rw [cond_false, cond_false]
      obtain ⟨v, h1, h2⟩ := eight_eq s hs
      rw [h1, Option.bind_some]
      cases hg : grpR [] s with
      | none => rfl
      | some x =>
        have hv := h2 x hg
        subst hv
        have h16 := (grp_16 hg).1
        show cond (!true) _ ((F_wlvref15_Mapped v).bind _) = _
        rw [Bool.not_true, cond_false, Mapped_eq v h16, Option.bind_some]
        show (cond (v.take 12 == preM) ((cutI v 12 (v.length : Int)).bind fun s5 => some (s5, (0 : Int))) (some (v, 0))) = some (cond (decide (12 ≤ v.length) && (v.take 12 == preM)) (v.drop 12) v, (0 : Int))
        rw [decide_eq_true (show 12 ≤ v.length by omega), Bool.true_and]
        cases v.take 12 == preM with
        | false => rfl
        | true =>
          have h := cutI_nat (s := v) (a := 12) (b := v.length) (by omega) (by omega)
          rw [List.take_length] at h
          have h : cutI v 12 (v.length : Int) = some (v.drop 12) := h
          show (cutI v 12 (v.length : Int)).bind _ = _
          rw [h]; rfl
end Go.Proofs.YtblngdnndkljoaaDoor

/- The bits of an address that count. -/
namespace Go.Proofs.YtblngdnndkljoaaDoor
open Pv
set_option linter.unusedVariables false
def isB (x : Int) : Prop := 0 ≤ x ∧ x < 256
/-- A byte's bit, the highest first. -/
def bitI (x : Int) (j : Nat) : Int := x / 2 ^ (7 - j) % 2
def bitAt (s : List Int) (i : Nat) : Int := bitI (s.getD (i / 8) 0) (i % 8)
def keepB (x : Int) (k : Nat) : Int := x / 2 ^ (8 - k) * 2 ^ (8 - k)
def nbits (b : Int) (i : Nat) : Nat := min (b - 8 * i).toNat 8
def keptL (b : Int) : Nat → List Int → List Int
  | _, [] => []
  | i, x :: r => keepB x (nbits b i) :: keptL b (i + 1) r
theorem mask_all : (List.range 256).all (fun x => (List.range 9).all fun k => bits .and .u8 (x : Int) (IntKind.u8.wrap (Int.fdiv 65280 (2 ^ (min k 64)))) == keepB x k) = true := by kernel_rfl
theorem mask_eq {x : Int} (hx : isB x) {k : Nat} (hk : k ≤ 8) : bits .and .u8 x (IntKind.u8.wrap (Int.fdiv 65280 (2 ^ (min k 64)))) = keepB x k := by
  have h := List.all_eq_true.1 (List.all_eq_true.1 mask_all x.toNat (List.mem_range.2 (by obtain ⟨_, _⟩ := hx; omega))) k (List.mem_range.2 (by omega))
  have e : ((x.toNat : Nat) : Int) = x := Int.toNat_of_nonneg hx.1
  rw [e] at h
  exact beq_iff_eq.1 h
theorem nb_eq (b : Int) (i : Nat) (hb : -1000000 ≤ b ∧ b ≤ 1000000) (hi : i ≤ 1000000) : (minI (maxI (IntKind.i64.wrap (b - (IntKind.i64.wrap (8 * (i : Int))))) 0) 8) = (nbits b i : Int) := by
  rw [wrap_in (x := 8 * (i : Int)) (by omega) (by omega), wrap_in (by omega) (by omega)]
  unfold minI maxI nbits
  by_cases h : (0 : Int) > b - 8 * i
  · rw [decide_eq_true h, cond_true, decide_eq_false (by omega), cond_false]; omega
  · rw [decide_eq_false h, cond_false]
    by_cases h8 : (8 : Int) < b - 8 * i
    · rw [decide_eq_true h8, cond_true]; omega
    · rw [decide_eq_false h8, cond_false]; omega
theorem set_mid (pre : List Int) (x v : Int) (r : List Int) : (pre ++ x :: r).set pre.length v = pre ++ v :: r := by
  rw [List.set_append_right _ _ (Nat.le_refl _), Nat.sub_self]; rfl
theorem kept_loop (s : List Int) (b : Int) (hb : -1000000 ≤ b ∧ b ≤ 1000000) (hs : s.length ≤ 1000000) : ∀ (r pre : List Int), s.length = pre.length + r.length → (∀ x ∈ r, isB x) → loopC (F_addr_kept_L4 s b) ((pre.length : Int), pre ++ r) = some (.inr (pre ++ keptL b pre.length r))
  | [], pre, hl, _ => by
    refine loop_inl ?_
    unfold F_addr_kept_L4
    dsimp only
    rw [decide_eq_false (by rw [hl]; simp), cond_false]
    rfl
  | x :: r, pre, hl, hr => by
    have hl' : s.length = pre.length + (r.length + 1) := hl
    have ih := kept_loop s b hb hs r (pre ++ [keepB x (nbits b pre.length)]) (by rw [List.length_append]; simp; omega) (fun y hy => hr y (List.mem_cons_of_mem _ hy))
    refine loop_inr (s' := (((pre ++ [keepB x (nbits b pre.length)]).length : Int), (pre ++ [keepB x (nbits b pre.length)]) ++ r)) ?_ (ih.trans ?_)
    · unfold F_addr_kept_L4 chk
      dsimp only
      have h1 : (decide ((0 : Int) ≤ (pre.length : Int)) && decide ((pre.length : Int) < (s.length : Int))) = true := by simp; omega
      have h2 : decide ((pre.length : Int) < (s.length : Int)) = true := decide_eq_true (by omega)
      have hg : getI (pre ++ x :: r) (pre.length : Int) = some x := getI_nat (by simp)
      have h3 : decide ((pre.length : Int) < ((pre ++ x :: r).length : Int)) = true := decide_eq_true (by rw [List.length_append, List.length_cons]; omega)
      rw [h1, h2, cond_true, cond_true, hg, Option.bind_some, nb_eq b pre.length hb (by omega), decide_eq_true (show (0 : Int) ≤ (nbits b pre.length : Int) by omega), cond_true, cond_true, h3, cond_true]
      rw [Int.toNat_natCast, Int.toNat_natCast, mask_eq (hr x List.mem_cons_self) (show nbits b pre.length ≤ 8 by unfold nbits; omega), set_mid, wrap_in (by omega) (by omega)]
      have e : ((pre ++ [keepB x (nbits b pre.length)]).length : Int) = (pre.length : Int) + 1 := by rw [List.length_append]; simp
      rw [e, List.append_assoc]; rfl
    · rw [show (pre ++ [keepB x (nbits b pre.length)]).length = pre.length + 1 by simp, List.append_assoc]
      rfl
theorem keptL_len (b : Int) : ∀ (r : List Int) (i : Nat), (keptL b i r).length = r.length
  | [], _ => rfl
  | _ :: r, i => by show (keptL b (i + 1) r).length + 1 = _; rw [keptL_len b r]; rfl
theorem kept_eq (s : List Int) (b : Int) (hb : -1000000 ≤ b ∧ b ≤ 1000000) (hs : s.length ≤ 1000000) (hB : ∀ x ∈ s, isB x) : F_addr_kept s b = some (keptL b 0 s) := by
  have h : loopC (F_addr_kept_L4 s b) (0, s) = some (.inr (keptL b 0 s)) := kept_loop s b hb hs s [] (by simp) hB
  unfold F_addr_kept
  rw [join_inr (s := keptL b 0 s) h]
  unfold F_addr_kept_J2
  dsimp only
  have hl := keptL_len b s 0
  rw [show Nat.ble s.length (List.length (keptL b 0 s)) = true from Nat.ble_eq_true_of_le (Nat.le_of_eq hl.symm)]
  unfold chk
  rw [cond_true, List.take_of_length_le (Nat.le_of_eq hl)]
theorem pow_half (k : Nat) (hk : k ≤ 7) (x : Int) : x / 2 ^ (8 - k) = x / 2 ^ (7 - k) / 2 := by
  have hp : (0 : Int) < 2 ^ (7 - k) := Int.pow_pos (by decide)
  rw [show 8 - k = (7 - k) + 1 by omega, Int.pow_succ]
  exact (Int.ediv_ediv_of_nonneg (by omega)).symm
theorem div_iff {x y : Int} (hx : isB x) (hy : isB y) : ∀ k : Nat, k ≤ 8 → (x / 2 ^ (8 - k) = y / 2 ^ (8 - k) ↔ ∀ j, j < k → bitI x j = bitI y j)
  | 0, _ => by
    obtain ⟨a, b⟩ := hx
    obtain ⟨c, d⟩ := hy
    refine ⟨fun _ j hj => absurd hj (Nat.not_lt_zero j), fun _ => ?_⟩
    show x / 256 = y / 256
    omega
  | k + 1, hk => by
    have ih := div_iff hx hy k (by omega)
    have px := pow_half k (by omega) x
    have py := pow_half k (by omega) y
    have hsub : 8 - (k + 1) = 7 - k := by omega
    rw [hsub]
    constructor
    · intro h j hj
      rcases Nat.lt_or_eq_of_le (Nat.le_of_lt_succ hj) with hlt | rfl
      · exact ih.1 (by rw [px, py, h]) j hlt
      · unfold bitI; rw [h]
    · intro h
      have h1 := ih.2 fun j hj => h j (by omega)
      have h2 := h k (by omega)
      unfold bitI at h2
      rw [px, py] at h1
      omega
theorem keepB_iff {x y : Int} (hx : isB x) (hy : isB y) (k : Nat) (hk : k ≤ 8) : keepB x k = keepB y k ↔ ∀ j, j < k → bitI x j = bitI y j := by
  rw [← div_iff hx hy k hk]
  unfold keepB
  have hp : (0 : Int) < 2 ^ (8 - k) := Int.pow_pos (by decide)
  exact ⟨fun h => Int.eq_of_mul_eq_mul_right (by omega) h, fun h => by rw [h]⟩
theorem kept_iff (b : Int) : ∀ (s t : List Int) (i : Nat), s.length = t.length → (∀ x ∈ s, isB x) → (∀ x ∈ t, isB x) → (keptL b i s = keptL b i t ↔ ∀ j : Nat, j < 8 * s.length → ((8 * i + j : Nat) : Int) < b → bitAt s j = bitAt t j)
  | [], [], i, _, _, _ => ⟨fun _ j hj => by simp at hj, fun _ => rfl⟩
  | [], _ :: _, _, h, _, _ => by cases h
  | _ :: _, [], _, h, _, _ => by cases h
  | x :: s, y :: t, i, hl, hs, ht => by
    have ih := kept_iff b s t (i + 1) (by simpa using hl) (fun x hx => hs x (List.mem_cons_of_mem _ hx)) (fun x hx => ht x (List.mem_cons_of_mem _ hx))
    have hk := keepB_iff (hs x List.mem_cons_self) (ht y List.mem_cons_self) (nbits b i) (by unfold nbits; omega)
    have hat : ∀ (z : Int) (u : List Int) (j : Nat), bitAt (z :: u) (j + 8) = bitAt u j := fun z u j => by
      unfold bitAt
      rw [show (j + 8) / 8 = j / 8 + 1 by omega, show (j + 8) % 8 = j % 8 by omega]
      rfl
    have ha0 : ∀ (z : Int) (u : List Int) (j : Nat), j < 8 → bitAt (z :: u) j = bitI z j := fun z u j hj => by
      unfold bitAt
      rw [show j / 8 = 0 by omega, show j % 8 = j by omega]
      rfl
    show keepB x (nbits b i) :: keptL b (i + 1) s = keepB y (nbits b i) :: keptL b (i + 1) t ↔ _
    rw [List.cons.injEq, hk, ih, List.length_cons]
    constructor
    · rintro ⟨h1, h2⟩ j hj hb
      rcases Nat.lt_or_ge j 8 with h8 | h8
      · rw [ha0 x s j h8, ha0 y t j h8]
        exact h1 j (by unfold nbits; omega)
      · obtain ⟨j', rfl⟩ : ∃ j', j = j' + 8 := ⟨j - 8, by omega⟩
        rw [hat, hat]
        exact h2 j' (by omega) (by omega)
    · intro h
      refine ⟨fun j hj => ?_, fun j hj hb => ?_⟩
      · have hj8 : j < 8 := by unfold nbits at hj; omega
        have := h j (by omega) (by unfold nbits at hj; omega)
        rwa [ha0 x s j hj8, ha0 y t j hj8] at this
      · have := h (j + 8) (by omega) (by omega)
        rwa [hat, hat] at this
/-- Two addresses of one length. -/
theorem In_eq (s t : List Int) (b : Int) (hl : s.length = 4 ∨ s.length = 16) (hs : ∀ x ∈ s, isB x) (ht : ∀ x ∈ t, isB x) (ht16 : t.length ≤ 1000000) :
    F_addr_In s b t = some (decide (t.length = s.length) && decide (0 ≤ b) && decide (b ≤ 8 * s.length) && (keptL b 0 t == keptL b 0 s)) := by
  have key : ∀ n : Nat, s.length = n → (n = 4 ∨ n = 16) → (cond ((t.length : Int) == (s.length : Int)) (cond (decide (b ≥ 0)) (cond (decide (b ≤ (IntKind.i64.wrap (8 * (t.length : Int))))) ((F_addr_kept t b).bind fun s4 => (F_addr_kept s b).bind fun s5 => some (s4 == s5)) (some false)) (some false)) (some false))
      = some (decide (t.length = s.length) && decide (0 ≤ b) && decide (b ≤ 8 * s.length) && (keptL b 0 t == keptL b 0 s)) := fun n hn hc => by
    by_cases h1 : t.length = s.length
    · rw [beq_iff_eq.2 (show (t.length : Int) = (s.length : Int) by omega), cond_true, decide_eq_true h1]
      by_cases h2 : 0 ≤ b
      · rw [decide_eq_true (show b ≥ 0 from h2), cond_true, wrap_in (by omega) (by omega)]
        by_cases h3 : b ≤ 8 * (s.length : Int)
        · rw [decide_eq_true (show b ≤ 8 * (t.length : Int) by omega), cond_true, decide_eq_true h3, kept_eq t b (by omega) (by omega) ht, kept_eq s b (by omega) (by omega) hs]
          rfl
        · rw [decide_eq_false (show ¬ b ≤ 8 * (t.length : Int) by omega), cond_false, decide_eq_false h3]; rfl
      · rw [decide_eq_false (show ¬ b ≥ 0 from h2), cond_false]; rfl
    · rw [beq_eq_false_iff_ne.2 (show (t.length : Int) ≠ (s.length : Int) by omega), cond_false, decide_eq_false h1]; rfl
  unfold F_addr_In
  rcases hl with h4 | h4
  · rw [beq_iff_eq.2 (show (s.length : Int) = 4 by omega), cond_true]
    exact key 4 h4 (.inl rfl)
  · rw [beq_eq_false_iff_ne.2 (show (s.length : Int) ≠ 4 by omega), cond_false, beq_iff_eq.2 (show (s.length : Int) = 16 by omega), cond_true]
    exact key 16 h4 (.inr rfl)
end Go.Proofs.YtblngdnndkljoaaDoor

/- host.Name and the reference's Name alike. -/
namespace Go.Proofs.YtblngdnndkljoaaDoor
open Pv
set_option linter.unusedVariables false
def lw (c : Int) : Int := if 65 ≤ c ∧ c ≤ 90 then c + 32 else c
def okc (c : Int) : Bool := (decide (97 ≤ c) && decide (c ≤ 122)) || (decide (48 ≤ c) && decide (c ≤ 57)) || c == 45 || c == 95
def labB (w : List Int) : Bool := decide (1 ≤ w.length) && decide (w.length ≤ 63) && !(w.head? == some 45) && !(w.getLast? == some 45) && w.all okc
theorem okc_iff (c : Int) : okc c = true ↔ (97 ≤ c ∧ c ≤ 122) ∨ (48 ≤ c ∧ c ≤ 57) ∨ c = 45 ∨ c = 95 := by
  unfold okc
  simp only [Bool.or_eq_true, Bool.and_eq_true, decide_eq_true_eq, beq_iff_eq]
  omega
theorem sg_lw (c : Int) (h46 : c ≠ 46) : (sg c ≠ 0 → sg c = lw c ∧ okc (lw c) = true) ∧ (sg c = 0 → okc (lw c) = false) := by
  rw [sg_spec]
  unfold lw
  by_cases h1 : 65 ≤ c ∧ c ≤ 90
  · rw [if_pos h1, if_pos h1]
    exact ⟨fun _ => ⟨rfl, (okc_iff _).2 (by omega)⟩, fun h => by omega⟩
  · rw [if_neg h1, if_neg h1]
    by_cases h2 : (97 ≤ c ∧ c ≤ 122) ∨ (48 ≤ c ∧ c ≤ 57) ∨ c = 45 ∨ c = 95
    · rw [if_pos h2]
      exact ⟨fun _ => ⟨rfl, (okc_iff _).2 h2⟩, fun h => by omega⟩
    · rw [if_neg h2]
      refine ⟨fun h => absurd rfl h, fun _ => ?_⟩
      cases hk : okc c with
      | false => rfl
      | true => exact absurd ((okc_iff _).1 hk) h2
theorem lw_46 {c : Int} (h : c ≠ 46) : lw c ≠ 46 := by unfold lw; split <;> omega
theorem split_c (x : Int) (r : List Int) (h : x ≠ 46) : ∃ p ps, splitI r 46 = p :: ps ∧ splitI (x :: r) 46 = (x :: p) :: ps := by
  have hne := splitI_ne r 46
  cases hq : splitI r 46 with
  | nil => exact absurd hq hne
  | cons p ps =>
    refine ⟨p, ps, rfl, ?_⟩
    have : splitI (x :: r) 46 = cond (x == 46) ([] :: splitI r 46) (match splitI r 46 with | [] => [[x]] | w :: q => (x :: w) :: q) := rfl
    rw [this, beq_eq_false_iff_ne.2 h, cond_false, hq]
/-- The part of a label that has been read. -/
structure Pre (w : List Int) (out : List Int) : Prop where
  len : w.length ≤ 63
  head : w.head? ≠ some 45
  ok : w.all okc = true
  last : w ≠ [] → out.getLast? = w.getLast?
theorem lab_ext {w p : List Int} {c : Int} (h : (w.all okc && okc c) = false) : labB (w ++ c :: p) = false := by
  have h2 : (w ++ c :: p).all okc = false := by rw [List.all_append, List.all_cons, ← Bool.and_assoc, h, Bool.false_and]
  unfold labB
  rw [h2, Bool.and_false]
theorem nameP_eq : ∀ (r out w : List Int), Pre w out → ∀ p ps, splitI (r.map lw) 46 = p :: ps → nameP out w.length r = cond (labB (w ++ p) && ps.all labB) (some (out ++ r.map lw)) none
  | [], out, w, hP, p, ps, hs => by
    have hs : ([[]] : List (List Int)) = p :: ps := hs
    injection hs with h1 h2
    subst h1; subst h2
    rw [nameP, List.append_nil]
    show cond (endsB out w.length) none (some out) = cond (labB w && true) (some (out ++ [])) none
    rw [Bool.and_true, List.append_nil]
    unfold endsB labB
    cases w with
    | nil => rfl
    | cons x w =>
      have hh := hP.head
      have hl := hP.last (by simp)
      rw [hl, hP.ok, decide_eq_true hP.len, beq_eq_false_iff_ne.2 hh, decide_eq_true (show 1 ≤ (x :: w).length by simp), beq_eq_false_iff_ne.2 (show (x :: w).length ≠ 0 by simp)]
      cases ((x :: w).getLast? == some 45) <;> rfl
  | c :: r, out, w, hP, p, ps, hs => by
    rw [nameP]
    by_cases h46 : c = 46
    · subst h46
      have e : splitI ((46 :: r).map lw) 46 = [] :: splitI (r.map lw) 46 := rfl
      rw [e] at hs
      injection hs with h1 h2
      subst h1; subst h2
      rw [show ((46 : Int) == 46) = true from rfl, cond_true, List.append_nil]
      have hne := splitI_ne (r.map lw) 46
      cases hq : splitI (r.map lw) 46 with
      | nil => exact absurd hq hne
      | cons p' ps' =>
        have ih := nameP_eq r (out ++ [46]) [] ⟨by simp, by simp, rfl, fun h => absurd rfl h⟩ p' ps' hq
        have ih : nameP (out ++ [46]) 0 r = cond (labB p' && ps'.all labB) (some ((out ++ [46]) ++ r.map lw)) none := ih
        rw [ih, List.all_cons]
        have hb : labB w = !(endsB out w.length) := by
          unfold endsB labB
          cases w with
          | nil => rfl
          | cons x w =>
            have hh := hP.head
            have hl := hP.last (by simp)
            rw [hl, hP.ok, decide_eq_true hP.len, beq_eq_false_iff_ne.2 hh, decide_eq_true (show 1 ≤ (x :: w).length by simp), beq_eq_false_iff_ne.2 (show (x :: w).length ≠ 0 by simp)]
            cases ((x :: w).getLast? == some 45) <;> rfl
        rw [hb]
        cases endsB out w.length with
        | true => rfl
        | false =>
          rw [cond_false, Bool.not_false, Bool.true_and, List.append_assoc]
          rfl
    · have hx := lw_46 h46
      obtain ⟨p', ps', hq, hs'⟩ := split_c (lw c) (r.map lw) hx
      have hs : splitI (lw c :: r.map lw) 46 = p :: ps := hs
      rw [hs'] at hs
      injection hs with h1 h2
      subst h1; subst h2
      obtain ⟨g1, g2⟩ := sg_lw c h46
      rw [beq_eq_false_iff_ne.2 h46, cond_false]
      by_cases hz : sg c = 0
      · rw [beq_iff_eq.2 hz, Bool.true_or, Bool.true_or, cond_true, lab_ext (by rw [g2 hz, Bool.and_false]), Bool.false_and, cond_false]
      · obtain ⟨e1, e2⟩ := g1 hz
        rw [beq_eq_false_iff_ne.2 hz, Bool.false_or]
        by_cases h63 : w.length = 63
        · rw [beq_iff_eq.2 h63, Bool.true_or, cond_true]
          have : labB (w ++ lw c :: p') = false := by
            unfold labB
            rw [decide_eq_false (show ¬ (w ++ lw c :: p').length ≤ 63 by rw [List.length_append, List.length_cons]; omega), Bool.and_false]; rfl
          rw [this]; rfl
        · rw [beq_eq_false_iff_ne.2 h63, Bool.false_or]
          by_cases hd : sg c = 45 ∧ w.length = 0
          · rw [beq_iff_eq.2 hd.1, beq_iff_eq.2 hd.2, Bool.and_self, cond_true]
            have hw : w = [] := List.eq_nil_of_length_eq_zero hd.2
            have : labB (w ++ lw c :: p') = false := by
              subst hw
              unfold labB
              rw [← e1, hd.1]
              simp
            rw [this]; rfl
          · have : (sg c == 45 && w.length == 0) = false := by
              rw [Bool.and_eq_false_iff, beq_eq_false_iff_ne, beq_eq_false_iff_ne]
              by_cases h : sg c = 45
              · exact .inr fun h2 => hd ⟨h, h2⟩
              · exact .inl h
            rw [this, cond_false, e1]
            have hP' : Pre (w ++ [lw c]) (out ++ [lw c]) := by
              refine ⟨by have := hP.len; rw [List.length_append]; simp; omega, ?_, by rw [List.all_append, hP.ok]; simpa using e2, fun _ => by simp⟩
              cases w with
              | nil =>
                intro h
                have : lw c = 45 := by simpa using h
                exact hd ⟨by rw [e1, this], rfl⟩
              | cons x w => exact hP.head
            have ih := nameP_eq r (out ++ [lw c]) (w ++ [lw c]) hP' p' ps' hq
            rw [List.length_append] at ih
            rw [show w.length + 1 = w.length + [lw c].length from rfl, ih, List.append_assoc, List.append_assoc]
            rfl
noncomputable def nameQ (s : List Int) : List Int × Int := cond (decide (1 ≤ s.length) && decide (s.length ≤ 253) && (splitI (s.map lw) 46).all labB) (s.map lw, 0) ([], 2)
theorem nameR_eq (s : List Int) : nameR s = nameQ s := by
  unfold nameR nameQ
  have hne := splitI_ne (s.map lw) 46
  cases hq : splitI (s.map lw) 46 with
  | nil => exact absurd hq hne
  | cons p ps =>
    have h := nameP_eq s [] [] ⟨by simp, by simp, rfl, fun h => absurd rfl h⟩ p ps hq
    have h : nameP [] 0 s = cond (labB p && ps.all labB) (some (s.map lw)) none := h
    rw [h, List.all_cons]
    by_cases h253 : 253 < s.length
    · rw [decide_eq_true h253, decide_eq_false (show ¬ s.length ≤ 253 by omega), Bool.and_false]; rfl
    · rw [decide_eq_false h253, cond_false, decide_eq_true (show s.length ≤ 253 by omega)]
      by_cases h1 : 1 ≤ s.length
      · rw [decide_eq_true h1, Bool.true_and, Bool.true_and]
        cases (labB p && ps.all labB) <;> rfl
      · have : s = [] := List.eq_nil_of_length_eq_zero (by omega)
        subst this
        have hq : ([[]] : List (List Int)) = p :: ps := hq
        injection hq with q1 q2
        subst q1; subst q2
        rfl
/-! ### the reference -/
theorem lower_loop (s : List Int) (hs : s.length ≤ 1000000) : ∀ (r pre : List Int), s.length = pre.length + r.length → loopC (F_wlvref_Lower_L4 s) ((pre.length : Int), pre ++ r) = some (.inr (pre ++ r.map lw))
  | [], pre, hl => by
    refine loop_inl ?_
    unfold F_wlvref_Lower_L4
    dsimp only
    rw [decide_eq_false (by rw [hl]; simp), cond_false]
    rfl
  | x :: r, pre, hl => by
    have hl' : s.length = pre.length + (r.length + 1) := hl
    have ih := lower_loop s hs r (pre ++ [lw x]) (by rw [List.length_append]; simp; omega)
    have e : ((pre ++ [lw x]).length : Int) = (pre.length : Int) + 1 := by rw [List.length_append]; simp
    refine loop_inr (s' := (((pre ++ [lw x]).length : Int), (pre ++ [lw x]) ++ r)) ?_ (ih.trans ?_)
    · unfold F_wlvref_Lower_L4 chk
      dsimp only
      have h1 : (decide ((0 : Int) ≤ (pre.length : Int)) && decide ((pre.length : Int) < (s.length : Int))) = true := by simp; omega
      have h2 : decide ((pre.length : Int) < (s.length : Int)) = true := decide_eq_true (by omega)
      have hg : getI (pre ++ x :: r) (pre.length : Int) = some x := getI_nat (by simp)
      have h3 : decide ((pre.length : Int) < ((pre ++ x :: r).length : Int)) = true := decide_eq_true (by rw [List.length_append, List.length_cons]; omega)
      rw [h1, h2, cond_true, hg, h3]
      simp only [cond_true, Option.bind_some]
      rw [Int.toNat_natCast, set_mid, wrap_in (by omega) (by omega), e, List.append_assoc]
      unfold lw
      by_cases hx : 65 ≤ x ∧ x ≤ 90
      · rw [decide_eq_true (show x ≥ 65 from hx.1), decide_eq_true hx.2, cond_true, cond_true, if_pos hx, u8_sm (by omega) (by omega)]; rfl
      · rw [if_neg hx]
        by_cases h65 : x ≥ 65
        · rw [decide_eq_true h65, decide_eq_false (show ¬ x ≤ 90 by omega)]; rfl
        · rw [decide_eq_false h65]; rfl
    · rw [List.append_assoc]; rfl
theorem Lower_eq (s : List Int) (hs : s.length ≤ 1000000) : F_wlvref_Lower s = some (s.map lw) := by
  have h : loopC (F_wlvref_Lower_L4 s) (0, s) = some (.inr (s.map lw)) := lower_loop s hs s [] (by simp)
  unfold F_wlvref_Lower
  rw [join_inr (s := s.map lw) h]
  unfold F_wlvref_Lower_J2 chk
  dsimp only
  rw [Nat.ble_eq_true_of_le (by simp), cond_true, List.take_of_length_le (by simp)]
theorem lab_loop (w : List Int) (l : List (List Int)) (hw : w.length ≤ 1000) : loopC (F_wlvref15_Name_L17 w) (l, 0) = some (cond (w.all okc) (.inr l) (.inl (.inl (.inl ([], 2))))) := by
  obtain ⟨r, h1, rfl⟩ := loop_inv (body := F_wlvref15_Name_L17 w) (I := fun st => ∃ i : Nat, st = (l, (i : Int)) ∧ i ≤ w.length ∧ (w.take i).all okc = true) (m := fun st => w.length - st.2.toNat)
    (Q := fun r => r = cond (w.all okc) (.inr l) (.inl (.inl (.inl ([], 2))))) (fun st ⟨i, e, hi, ha⟩ => by
      subst e
      unfold F_wlvref15_Name_L17
      dsimp only
      by_cases hlt : i < w.length
      · have hg := getI_nat (List.getElem?_eq_getElem hlt)
        rw [decide_eq_true (show (i : Int) < (w.length : Int) by omega), cond_true, hg, Option.bind_some, wrap_in (x := (i : Int) + 1) (by omega) (by omega)]
        have next : okc w[i] = true → ∃ s' : List (List Int) × Int, some (Sum.inr (l, (i : Int) + 1)) = (some (.inr s') : Option ((((((List Int × Int) ⊕ Unit) ⊕ (List (List Int) × Int)) ⊕ List (List Int))) ⊕ (List (List Int) × Int))) ∧ (∃ i : Nat, s' = (l, (i : Int)) ∧ i ≤ w.length ∧ (w.take i).all okc = true) ∧ w.length - s'.2.toNat < w.length - (i : Int).toNat := fun hk => by
          refine ⟨_, rfl, ⟨i + 1, rfl, by omega, ?_⟩, ?_⟩
          · rw [List.take_add_one, List.getElem?_eq_getElem hlt, List.all_append, ha]
            simpa using hk
          · show w.length - ((i : Int) + 1).toNat < _
            omega
        by_cases h1 : 97 ≤ w[i] ∧ w[i] ≤ 122
        · rw [show (decide (w[i] < 97) || decide (w[i] > 122)) = false by simp; omega, cond_false]
          exact .inr (next ((okc_iff _).2 (by omega)))
        · rw [show (decide (w[i] < 97) || decide (w[i] > 122)) = true by rw [Bool.or_eq_true, decide_eq_true_iff, decide_eq_true_iff]; omega, cond_true]
          by_cases h2 : (48 ≤ w[i] ∧ w[i] ≤ 57) ∨ w[i] = 45 ∨ w[i] = 95
          · have : (((decide (w[i] < 48) || decide (w[i] > 57)) && (w[i] != 45)) && (w[i] != 95)) = false := by
              rw [Bool.and_eq_false_iff, Bool.and_eq_false_iff, Bool.or_eq_false_iff, decide_eq_false_iff_not, decide_eq_false_iff_not, bne_eq_false_iff_eq, bne_eq_false_iff_eq]
              omega
            rw [this, cond_false]
            exact .inr (next ((okc_iff _).2 (by omega)))
          · have : (((decide (w[i] < 48) || decide (w[i] > 57)) && (w[i] != 45)) && (w[i] != 95)) = true := by
              simp only [Bool.and_eq_true, Bool.or_eq_true, decide_eq_true_eq, bne_iff_ne]
              omega
            rw [this, cond_true]
            refine .inl ⟨_, rfl, ?_⟩
            have hk : okc w[i] = false := by
              cases hk : okc w[i] with
              | false => rfl
              | true => exact absurd ((okc_iff _).1 hk) (by omega)
            have : w.all okc = false := by
              rw [List.all_eq_false]
              exact ⟨w[i], List.getElem_mem _, by rw [hk]; simp⟩
            rw [this]; rfl
      · rw [decide_eq_false (show ¬ (i : Int) < (w.length : Int) by omega), cond_false]
        refine .inl ⟨_, rfl, ?_⟩
        rw [List.take_of_length_le (by omega)] at ha
        rw [ha]; rfl) (l, 0) ⟨0, rfl, by omega, rfl⟩
  exact h1
theorem labs_loop (l : List (List Int)) (hl : l.length ≤ 1000000) : loopC F_wlvref15_Name_L8 (l, 0) = some (cond (l.all labB) (.inr ()) (.inl ([], 2))) := by
  obtain ⟨r, h1, rfl⟩ := loop_inv (body := F_wlvref15_Name_L8) (I := fun st => ∃ i : Nat, st = (l, (i : Int)) ∧ i ≤ l.length ∧ (l.take i).all labB = true) (m := fun st => l.length - st.2.toNat)
    (Q := fun r => r = cond (l.all labB) (.inr ()) (.inl ([], 2))) (fun st ⟨i, e, hi, ha⟩ => by
      subst e
      unfold F_wlvref15_Name_L8
      dsimp only
      by_cases hlt : i < l.length
      · have hg := getI_nat (List.getElem?_eq_getElem hlt)
        rw [decide_eq_true (show (i : Int) < (l.length : Int) by omega), cond_true, hg, Option.bind_some]
        obtain ⟨w, hw⟩ : ∃ w, l[i] = w := ⟨_, rfl⟩
        rw [hw]
        have bad : labB w = false → cond (l.all labB) (Sum.inr ()) (Sum.inl (([] : List Int), (2 : Int))) = (Sum.inl ([], 2) : (List Int × Int) ⊕ Unit) := fun hb => by
          have : l.all labB = false := by
            rw [List.all_eq_false]
            exact ⟨l[i], List.getElem_mem _, by rw [hw, hb]; simp⟩
          rw [this]; rfl
        by_cases hlen : 1 ≤ w.length ∧ w.length ≤ 63
        · rw [decide_eq_false (show ¬ (w.length : Int) < 1 by omega), decide_eq_false (show ¬ (w.length : Int) > 63 by omega), Bool.or_self, cond_false]
          cases w with
          | nil => simp at hlen
          | cons x w' =>
            have g0 : getI (x :: w') 0 = some x := getI_nat (i := 0) rfl
            have hgl : ∃ y, (x :: w').getLast? = some y ∧ getI (x :: w') (IntKind.i64.wrap (((x :: w').length : Int) - 1)) = some y := by
              rw [wrap_in (by omega) (by omega)]
              obtain ⟨y, q1, q2⟩ := getI_of (l := x :: w') (j := ((x :: w').length : Int) - 1) (by omega) (by omega)
              refine ⟨y, ?_, q1⟩
              rw [List.getLast?_eq_getElem?, ← q2]
              congr 1; omega
            obtain ⟨y, y1, y2⟩ := hgl
            rw [g0, Option.bind_some, y2]
            have hb : labB (x :: w') = (!(x == 45) && !(y == 45) && (x :: w').all okc) := by
              unfold labB
              rw [decide_eq_true hlen.1, decide_eq_true hlen.2, y1, show (x :: w').head? = some x from rfl]
              rfl
            cases hx : x == 45 with
            | true =>
              refine .inl ⟨_, rfl, (bad (by rw [hb, hx]; rfl)).symm⟩
            | false =>
              rw [cond_false, Option.bind_some]
              cases hy : y == 45 with
              | true => exact .inl ⟨_, rfl, (bad (by rw [hb, hy, Bool.not_true, Bool.and_false]; rfl)).symm⟩
              | false =>
                rw [cond_false, lab_loop (x :: w') l (by omega)]
                cases hk : (x :: w').all okc with
                | false => exact .inl ⟨_, rfl, (bad (by rw [hb, hk, Bool.and_false])).symm⟩
                | true =>
                  refine .inr ⟨_, rfl, ⟨i + 1, ?_, by omega, ?_⟩, ?_⟩
                  · rw [wrap_in (x := (i : Int) + 1) (by omega) (by omega)]; rfl
                  · rw [List.take_add_one, List.getElem?_eq_getElem hlt, List.all_append, ha, hw]
                    show (true && (labB (x :: w') && true)) = true
                    rw [hb, hx, hy, hk]; rfl
                  · show l.length - (IntKind.i64.wrap ((i : Int) + 1)).toNat < l.length - (i : Int).toNat
                    rw [wrap_in (x := (i : Int) + 1) (by omega) (by omega)]
                    omega
        · have : (decide ((w.length : Int) < 1) || decide ((w.length : Int) > 63)) = true := by
            rw [Bool.or_eq_true, decide_eq_true_iff, decide_eq_true_iff]; omega
          rw [this, cond_true]
          refine .inl ⟨_, rfl, (bad ?_).symm⟩
          unfold labB
          have : (decide (1 ≤ w.length) && decide (w.length ≤ 63)) = false := by
            rw [Bool.and_eq_false_iff, decide_eq_false_iff_not, decide_eq_false_iff_not]; omega
          rw [this]; rfl
      · rw [decide_eq_false (show ¬ (i : Int) < (l.length : Int) by omega), cond_false]
        refine .inl ⟨_, rfl, ?_⟩
        rw [List.take_of_length_le (by omega)] at ha
        rw [ha]; rfl) (l, 0) ⟨0, rfl, by omega, rfl⟩
  exact h1
theorem refName_eq (s : List Int) (hs : s.length ≤ 1000000) : F_wlvref15_Name s = some (nameQ s) := by
  unfold F_wlvref15_Name nameQ
  by_cases hlen : 1 ≤ s.length ∧ s.length ≤ 253
  · rw [decide_eq_false (show ¬ (s.length : Int) < 1 by omega), decide_eq_false (show ¬ (s.length : Int) > 253 by omega), Bool.or_self, cond_false, Lower_eq s hs, Option.bind_some, Split_eq _ 46 (by simp; omega), Option.bind_some]
    have hsl := split_len (s.map lw) 46 (by simp; omega)
    rw [List.length_map] at hsl
    have hl := labs_loop (splitI (s.map lw) 46) (by omega)
    rw [decide_eq_true hlen.1, decide_eq_true hlen.2, Bool.true_and, Bool.true_and, hl]
    cases (splitI (s.map lw) 46).all labB <;> rfl
  · have : (decide ((s.length : Int) < 1) || decide ((s.length : Int) > 253)) = true := by
      rw [Bool.or_eq_true, decide_eq_true_iff, decide_eq_true_iff]; omega
    rw [this, cond_true]
    have h2 : (decide (1 ≤ s.length) && decide (s.length ≤ 253)) = false := by
      rw [Bool.and_eq_false_iff, decide_eq_false_iff_not, decide_eq_false_iff_not]; omega
    rw [h2]; rfl
end Go.Proofs.YtblngdnndkljoaaDoor

/- HostReads: the plain part. -/
namespace Go.Proofs.YtblngdnndkljoaaDoor
open Pv
set_option linter.unusedVariables false
theorem suffix_lit (s : List Int) (c : Int) (hs : s.length ≤ 1000000) : F_strings_HasSuffix s [c] = some (s.getLast? == some c) := by
  unfold F_strings_HasSuffix F_internal_stringslite_HasSuffix
  have e1 : (([c] : List Int).length : Int) = 1 := rfl
  rw [e1]
  cases hq : s.getLast? with
  | none =>
    have : s = [] := List.getLast?_eq_none_iff.1 hq
    subst this; rfl
  | some y =>
    have hne : s ≠ [] := fun e => by rw [e] at hq; cases hq
    have hpos : 0 < s.length := List.length_pos_iff.2 hne
    rw [decide_eq_true (show (s.length : Int) ≥ 1 by omega), cond_true, wrap_in (by omega) (by omega)]
    have h := cutI_nat (s := s) (a := s.length - 1) (b := s.length) (by omega) (by omega)
    rw [List.take_length, show ((s.length - 1 : Nat) : Int) = (s.length : Int) - 1 by omega] at h
    have hd : s.drop (s.length - 1) = [y] := by
      have h2 : s[s.length - 1]? = some y := by rw [← hq, List.getLast?_eq_getElem?]
      rw [List.drop_eq_getElem_cons (by omega), List.drop_of_length_le (by omega)]
      rw [List.getElem?_eq_getElem (by omega)] at h2
      injection h2 with h2
      rw [h2]
    rw [h, hd, Option.bind_some]
    show (some ([y] == [c])).bind (fun b3 => some b3) = _
    have : (([y] : List Int) == [c]) = (some y == some c) := by
      rw [Bool.eq_iff_iff, beq_iff_eq, beq_iff_eq]
      constructor
      · intro e; injection e with e; rw [e]
      · intro e; injection e with e; rw [e]
    rw [this]; rfl
theorem brk_of {h : List Int} (h1 : h.head? = some 91) (h2 : h.getLast? = some 93) : ∃ m, h = 91 :: (m ++ [93]) := by
  cases h with
  | nil => cases h1
  | cons x r =>
    injection h1 with h1
    subst h1
    cases r with
    | nil => cases h2
    | cons y r =>
      rw [List.getLast?_cons_cons] at h2
      obtain ⟨m, hm⟩ : ∃ m, y :: r = m ++ [93] := by
        refine ⟨(y :: r).dropLast, ?_⟩
        have hne : y :: r ≠ [] := by simp
        have h3 : (y :: r).getLast hne = 93 := by
          rw [List.getLast?_eq_some_getLast hne] at h2
          injection h2
        have h4 := List.dropLast_concat_getLast hne
        rw [h3] at h4
        exact h4.symm
      exact ⟨m, by rw [hm]⟩
theorem split_cover (c0 : Int) : ∀ (s : List Int) (c : Int), c ∈ s → c = c0 ∨ ∃ w ∈ splitI s c0, c ∈ w
  | [], _, h => by cases h
  | x :: s, c, h => by
    have hne := splitI_ne s c0
    have hu : splitI (x :: s) c0 = cond (x == c0) ([] :: splitI s c0) (match splitI s c0 with | [] => [[x]] | w :: q => (x :: w) :: q) := rfl
    rcases List.mem_cons.1 h with rfl | h
    · by_cases hx : c = c0
      · exact .inl hx
      · rw [hu, beq_eq_false_iff_ne.2 hx, cond_false]
        cases hq : splitI s c0 with
        | nil => exact absurd hq hne
        | cons w q => exact .inr ⟨c :: w, by simp, by simp⟩
    · rcases split_cover c0 s c h with h1 | ⟨w, h1, h2⟩
      · exact .inl h1
      · rw [hu]
        cases x == c0 with
        | true => exact .inr ⟨w, List.mem_cons_of_mem _ h1, h2⟩
        | false =>
          rw [cond_false]
          cases hq : splitI s c0 with
          | nil => exact absurd hq hne
          | cons w' q =>
            rw [hq] at h1
            rcases List.mem_cons.1 h1 with rfl | h1
            · exact .inr ⟨x :: w, by simp, by simp [h2]⟩
            · exact .inr ⟨w, List.mem_cons_of_mem _ h1, h2⟩
theorem four_chars {s : List Int} (h : (fourR s).2 = true) : ∀ c ∈ s, c = 46 ∨ isDig c = true := fun c hc => by
  unfold fourR at h
  cases hb : (decide ((splitI s 46).length = 4) && (splitI s 46).all byteB) with
  | false => rw [hb] at h; cases h
  | true =>
    rw [Bool.and_eq_true] at hb
    rcases split_cover 46 s c hc with h1 | ⟨w, h1, h2⟩
    · exact .inl h1
    · right
      have hw := List.all_eq_true.1 hb.2 w h1
      unfold byteB canonB at hw
      simp only [Bool.and_eq_true] at hw
      exact List.all_eq_true.1 hw.1.1 c h2
theorem four_no {s : List Int} (h : (fourR s).2 = true) {x : Int} (hx : x = 58 ∨ x = 91) : x ∉ s := fun hc => by
  rcases four_chars h x hc with h1 | h1
  · omega
  · have := dig_of h1; omega
theorem dc_none : ∀ (s : List Int), (∀ c ∈ s, c ≠ 58) → dcI s = none := fun s h => by
  have := dc_p s [] h
  rw [List.append_nil] at this
  rw [this]; rfl
theorem grp_58 {s x : List Int} (h : grpR [] s = some x) : (58 : Int) ∈ s := by
  by_cases hm : (58 : Int) ∈ s
  · exact hm
  · have hn : ∀ c ∈ s, c ≠ 58 := fun c hc e => hm (by rw [← e]; exact hc)
    unfold grpR at h
    rw [dc_none s hn, split_p s hn] at h
    have : ([s].all hexB && (([] : List Int).length + 2 * [s].length == 16)) = false := by
      rw [show (([] : List Int).length + 2 * [s].length == 16) = false from rfl, Bool.and_false]
    rw [this] at h
    cases h
theorem name_91 (r : List Int) : nameR (91 :: r) = ([], 2) := by
  have h91 : sg 91 = 0 := by rw [sg_spec]; rfl
  unfold nameR
  cases decide (253 < (91 :: r).length) with
  | true => rfl
  | false =>
    rw [cond_false, nameP, h91]; rfl
noncomputable def placeR (h : List Int) : List Int × List Int × Bool := cond (h.head? == some 91 && h.getLast? == some 93 && h.contains 58) ([], (parseR (h.take (h.length - 1)).tail).1, (parseR (h.take (h.length - 1)).tail).2 == 0)
  (cond (fourR h).2 ([], (fourR h).1, true) ((nameR h).1, [], (nameR h).2 == 0))
theorem has_con (s : List Int) : F_strings_Contains s [58] = some (s.contains 58) := rfl
theorem mid_of (m : List Int) : ((91 :: (m ++ [93]) : List Int).take ((91 :: (m ++ [93]) : List Int).length - 1)).tail = m := by
  rw [List.length_cons, List.length_append, show m.length + [(93 : Int)].length + 1 - 1 = m.length + 1 by simp, List.take_succ_cons, List.tail_cons, List.take_left]
theorem cut_mid (m : List Int) (hm : m.length ≤ 1000000) : cutI (91 :: (m ++ [93]) : List Int) 1 (IntKind.i64.wrap (((91 :: (m ++ [93]) : List Int).length : Int) - 1)) = some m := by
  have hl : ((91 :: (m ++ [93]) : List Int).length : Int) = (m.length : Int) + 2 := by simp; omega
  rw [hl, wrap_in (by omega) (by omega)]
  have h := cutI_nat (s := 91 :: (m ++ [93])) (a := 1) (b := m.length + 1) (by omega) (by simp)
  rw [show ((m.length + 1 : Nat) : Int) = (m.length : Int) + 2 - 1 by omega] at h
  have h : cutI (91 :: (m ++ [93]) : List Int) 1 ((m.length : Int) + 2 - 1) = _ := h
  rw [h, List.take_succ_cons, List.take_left]; rfl
theorem place_eq (h : List Int) (hs : h.length ≤ 100000) : F_host_place h = some (placeR h) := by
  have rest : (F_addr_Parse h).bind (fun x15 => cond ((x15.2 == 0) && ((x15.1.length : Int) == 4)) ((F_strings_Contains h ([58] : List Int)).bind fun b16 => cond (!b16) (some (([] : List Int), x15.1, true)) ((F_host_Name h).bind fun x17 => some (x17.1, ([] : List Int), (x17.2 == 0)))) ((F_host_Name h).bind fun x18 => some (x18.1, ([] : List Int), (x18.2 == 0))))
      = some (cond (fourR h).2 ([], (fourR h).1, true) ((nameR h).1, [], (nameR h).2 == 0)) := by
    rw [Parse_eq h (by omega), Option.bind_some, has_con, name_eq]
    unfold parseR
    cases h4 : (fourR h).2 with
    | true =>
      have hl := (four_len h4).2
      have hc : h.contains 58 = false := by
        rw [List.contains_eq_mem]
        exact decide_eq_false (four_no h4 (.inl rfl))
      rw [cond_true, cond_true, hc, show (((fourR h).1.length : Int) == 4) = true from beq_iff_eq.2 (by omega)]
      rfl
    | false =>
      rw [cond_false, cond_false]
      cases hg : grpR [] h with
      | none => rfl
      | some x =>
        have hc : h.contains 58 = true := by
          rw [List.contains_eq_mem]
          exact decide_eq_true (grp_58 hg)
        show cond ((0 : Int) == 0 && ((plainR x).length : Int) == 4) ((some (h.contains 58)).bind _) _ = _
        rw [hc]
        cases ((0 : Int) == 0 && ((plainR x).length : Int) == 4) <;> rfl
  have hpre : F_strings_HasPrefix h [91] = some (h.head? == some 91) := by
    rw [prefix_lit h _ (by omega)]
    match h with
    | [] => rfl
    | x :: r =>
      have e : (x :: r).take ([91] : List Int).length = [x] := rfl
      rw [e, decide_eq_true (show ([91] : List Int).length ≤ (x :: r).length by simp), Bool.true_and]
      congr 1
      rw [Bool.eq_iff_iff, beq_iff_eq, beq_iff_eq]
      constructor
      · intro e; injection e with e; rw [e]; rfl
      · intro e; injection e with e; rw [e]
  unfold F_host_place placeR
  rw [hpre, Option.bind_some, suffix_lit h 93 (by omega)]
  cases h1 : h.head? == some 91 with
  | false => exact rest
  | true =>
    rw [cond_true, Option.bind_some, Bool.true_and]
    cases h2 : h.getLast? == some 93 with
    | false => exact rest
    | true =>
      rw [cond_true, Bool.true_and, has_con, Option.bind_some]
      cases h3 : h.contains 58 with
      | false =>
        rw [has_con, h3] at rest
        exact rest
      | true =>
        obtain ⟨m, rfl⟩ := brk_of (beq_iff_eq.1 h1) (beq_iff_eq.1 h2)
        have hm : m.length ≤ 100000 := by simp at hs; omega
        rw [cond_true, cond_true, cut_mid m (by omega), Option.bind_some, mid_of, Parse_eq m (by omega)]; rfl
/-! ### the reference's authority -/
theorem at_loop (s : List Int) (hs : s.length ≤ 1000000) : loopC (F_wlvref15_Authority_L4 s) ((-1), 0, ([] : List Int), ([] : List Int)) = some (.inr (lastI s 58, [], [])) := by
  obtain ⟨r, h1, rfl⟩ := loop_inv (body := F_wlvref15_Authority_L4 s) (I := fun st => ∃ i : Nat, st = (lastI (s.take i) 58, (i : Int), [], []) ∧ i ≤ s.length) (m := fun st => s.length - st.2.1.toNat)
    (Q := fun r => r = .inr (lastI s 58, [], [])) (fun st ⟨i, e, hi⟩ => by
      subst e
      unfold F_wlvref15_Authority_L4
      dsimp only
      by_cases hlt : i < s.length
      · have hg := getI_nat (List.getElem?_eq_getElem hlt)
        have htk : s.take (i + 1) = s.take i ++ [s[i]] := by rw [List.take_add_one, List.getElem?_eq_getElem hlt]; rfl
        rw [decide_eq_true (show (i : Int) < (s.length : Int) by omega), cond_true, hg, Option.bind_some, wrap_in (x := (i : Int) + 1) (by omega) (by omega)]
        have hm : s.length - ((i : Int) + 1).toNat < s.length - (i : Int).toNat := by omega
        have hl := lastI_app (s.take i) s[i] 58
        rw [← htk, List.length_take, Nat.min_eq_left (by omega)] at hl
        cases hc : s[i] == 58 with
        | true =>
          rw [hc, cond_true] at hl
          exact .inr ⟨_, rfl, ⟨i + 1, by rw [hl]; rfl, by omega⟩, hm⟩
        | false =>
          rw [hc, cond_false] at hl
          exact .inr ⟨_, rfl, ⟨i + 1, by rw [hl]; rfl, by omega⟩, hm⟩
      · rw [decide_eq_false (show ¬ (i : Int) < (s.length : Int) by omega), cond_false, List.take_of_length_le (by omega)]
        exact .inl ⟨_, rfl, rfl⟩) ((-1), 0, [], []) ⟨0, rfl, by omega⟩
  exact h1
theorem colon_loop (m : List Int) (hs : m.length ≤ 1000000) : loopC (F_wlvref15_Authority_L23 m) (false, 0, ([] : List Int), ([] : List Int)) = some (.inr (m.contains 58, [], [])) := by
  obtain ⟨r, h1, rfl⟩ := loop_inv (body := F_wlvref15_Authority_L23 m) (I := fun st => ∃ i : Nat, st = ((m.take i).contains 58, (i : Int), [], []) ∧ i ≤ m.length) (m := fun st => m.length - st.2.1.toNat)
    (Q := fun r => r = .inr (m.contains 58, [], [])) (fun st ⟨i, e, hi⟩ => by
      subst e
      unfold F_wlvref15_Authority_L23
      dsimp only
      by_cases hlt : i < m.length
      · have hg := getI_nat (List.getElem?_eq_getElem hlt)
        have htk : (m.take (i + 1)).contains 58 = ((m.take i).contains 58 || m[i] == 58) := by
          rw [List.take_add_one, List.getElem?_eq_getElem hlt]
          show ((m.take i ++ [m[i]]).contains 58) = _
          rw [Bool.eq_iff_iff]
          simp only [List.contains_eq_mem, List.mem_append, List.mem_singleton, decide_eq_true_eq, Bool.or_eq_true, beq_iff_eq]
          exact ⟨fun h => h.elim .inl fun h => .inr h.symm, fun h => h.elim .inl fun h => .inr h.symm⟩
        rw [decide_eq_true (show (i : Int) < (m.length : Int) by omega), cond_true, hg, Option.bind_some, wrap_in (x := (i : Int) + 1) (by omega) (by omega)]
        have hm : m.length - ((i : Int) + 1).toNat < m.length - (i : Int).toNat := by omega
        cases hb : (m.take i).contains 58 with
        | true =>
          rw [hb, Bool.true_or] at htk
          exact .inr ⟨_, rfl, ⟨i + 1, by rw [htk]; rfl, by omega⟩, hm⟩
        | false =>
          rw [hb, Bool.false_or] at htk
          exact .inr ⟨_, rfl, ⟨i + 1, by rw [htk]; rfl, by omega⟩, hm⟩
      · rw [decide_eq_false (show ¬ (i : Int) < (m.length : Int) by omega), cond_false, List.take_of_length_le (by omega)]
        exact .inl ⟨_, rfl, rfl⟩) (false, 0, [], []) ⟨0, rfl, by omega⟩
  exact h1
theorem last_cut : ∀ (s : List Int), (∀ c ∈ s, c ≠ 58) ∨ ∃ h t, s = (h ++ [58]) ++ t ∧ ∀ c ∈ t, c ≠ 58
  | [] => .inl fun _ h => (by cases h)
  | x :: s => by
    rcases last_cut s with h | ⟨h, t, e, ht⟩
    · by_cases hx : x = 58
      · exact .inr ⟨[], s, by rw [hx]; rfl, h⟩
      · refine .inl fun c hc => ?_
        rcases List.mem_cons.1 hc with rfl | hc
        · exact hx
        · exact h c hc
    · exact .inr ⟨x :: h, t, by rw [e]; rfl, ht⟩
theorem canon_17 {t : List Int} (h : canonB t = true) (hv : valI t ≤ 65535) : t.length ≤ 17 := by
  obtain ⟨n, rfl, hn⟩ := canon_eq t.length t rfl h
  have := dgs_len 4 n (by rw [hn] at hv; omega)
  omega
theorem refAuth_eq (s : List Int) (hs : s.length ≤ 1000) : ∃ x, F_host_Authority s = some x ∧ F_wlvref15_Authority s = some x := by
  unfold F_wlvref15_Authority
  rw [join_inr (at_loop s (by omega))]
  unfold F_wlvref15_Authority_J2
  dsimp only
  rcases last_cut s with h58 | ⟨h, t, rfl, t58⟩
  · rw [Auth_none s (by omega) h58, lastI_none h58]
    exact ⟨_, rfl, rfl⟩
  · have hlen : ((h ++ [58]) ++ t).length = h.length + 1 + t.length := by rw [List.length_append, List.length_append]; rfl
    rw [Auth_at h t (placeR h) (by omega) (by omega) t58 (place_eq h (by omega))]
    have e0 : (h ++ [58]) ++ t = h ++ 58 :: t := by rw [List.append_assoc]; rfl
    have hh : h.length + 1 + t.length ≤ 1000 := by omega
    rw [e0] at hlen ⊢
    refine ⟨_, rfl, ?_⟩
    have c1 : cutI (h ++ 58 :: t) ((h.length : Int) + 1) ((h ++ 58 :: t).length : Int) = some t := by
      have := cutI_nat (s := h ++ 58 :: t) (a := h.length + 1) (b := (h ++ 58 :: t).length) (by omega) (by omega)
      rw [show ((h.length + 1 : Nat) : Int) = (h.length : Int) + 1 by omega] at this
      rw [this, List.take_length, List.drop_append, List.drop_of_length_le (by omega), show h.length + 1 - h.length = 1 by omega]
      rfl
    have c2 : cutI (h ++ 58 :: t) 0 (h.length : Int) = some h := by
      have := cutI_nat (s := h ++ 58 :: t) (a := 0) (b := h.length) (by omega) (by omega)
      rw [show ((0 : Nat) : Int) = 0 from rfl] at this
      rw [this, List.take_left]
      rfl
    rw [lastI_at h t58, decide_eq_false (show ¬ (h.length : Int) < 0 by omega), cond_false, wrap_in (x := (h.length : Int) + 1) (by omega) (by omega), c1, Option.bind_some]
    obtain ⟨x, n1, n2⟩ := Num_eq t 1 65535
    rw [n1, Option.bind_some]
    dsimp only
    by_cases hok : canonB t = true ∧ 1 ≤ valI t ∧ valI t ≤ 65535
    · have h17 := canon_17 hok.1 hok.2.2
      have hx := n2 hok.1 h17
      subst hx
      rw [hok.1, decide_eq_true h17, decide_eq_true hok.2.1, decide_eq_true hok.2.2]
      simp only [Bool.and_true, Bool.not_true, cond_false]
      rw [c2, Option.bind_some]
      by_cases hb : (h.head? == some 91 && h.getLast? == some 93) = true
      · rw [Bool.and_eq_true, beq_iff_eq, beq_iff_eq] at hb
        obtain ⟨m, rfl⟩ := brk_of hb.1 hb.2
        have hm : m.length ≤ 1000 := by simp at hh; omega
        have hl2 : ((91 :: (m ++ [93]) : List Int).length : Int) = (m.length : Int) + 2 := by simp; omega
        have g0 : getI (91 :: (m ++ [93]) : List Int) 0 = some 91 := rfl
        have g1 : getI (91 :: (m ++ [93]) : List Int) (IntKind.i64.wrap (((91 :: (m ++ [93]) : List Int).length : Int) - 1)) = some 93 := by
          rw [hl2, wrap_in (by omega) (by omega)]
          have := getI_nat (s := (91 :: (m ++ [93]) : List Int)) (i := m.length + 1) (x := 93) (by simp)
          rw [show (m.length : Int) + 2 - 1 = ((m.length + 1 : Nat) : Int) by omega]
          exact this
        have hcon : (91 :: (m ++ [93]) : List Int).contains 58 = m.contains 58 := by
          rw [Bool.eq_iff_iff]
          simp [List.contains_eq_mem]
        rw [decide_eq_true (show ((91 :: (m ++ [93]) : List Int).length : Int) ≥ 2 by omega), cond_true, g0, Option.bind_some, show ((91 : Int) == 91) = true from rfl, cond_true, g1, Option.bind_some, show ((93 : Int) == 93) = true from rfl, cond_true, cut_mid m (by omega), Option.bind_some, join_inr (colon_loop m (by omega))]
        unfold F_wlvref15_Authority_J21 placeR
        dsimp only
        rw [refParse_eq m (by omega), Option.bind_some, mid_of, hcon, show ((91 :: (m ++ [93]) : List Int).head? == some 91) = true from rfl, show ((91 :: (m ++ [93]) : List Int).getLast? == some 93) = true by rw [beq_iff_eq]; exact hb.2, Bool.true_and, Bool.true_and]
        cases hc : m.contains 58 with
        | true =>
          rw [cond_true, Bool.not_true, Bool.or_false]
          by_cases hp : (parseR m).2 = 0
          · rw [show ((parseR m).2 != 0) = false by rw [hp]; rfl, show ((parseR m).2 == 0) = true by rw [hp]; rfl]; rfl
          · rw [show ((parseR m).2 != 0) = true from bne_iff_ne.2 hp, show ((parseR m).2 == 0) = false from beq_eq_false_iff_ne.2 hp]; rfl
        | false =>
          rw [cond_false, Bool.not_false, Bool.or_true]
          have hf : (fourR (91 :: (m ++ [93]))).2 = false := by
            cases h4 : (fourR (91 :: (m ++ [93]))).2 with
            | false => rfl
            | true => exact absurd List.mem_cons_self (four_no h4 (.inr rfl))
          rw [hf, name_91]; rfl
      · have hchain : (cond (decide ((h.length : Int) ≥ 2)) ((getI h 0).bind fun i13 => cond (i13 == 91) ((getI h (IntKind.i64.wrap ((h.length : Int) - 1))).bind fun i14 => cond (i14 == 93)
            ((cutI h 1 (IntKind.i64.wrap ((h.length : Int) - 1))).bind fun s15 => joinC (S := Bool × List Int × List Int) (R := (List Int × List Int × Int × Int) ⊕ (List Int × List Int × List Int)) (loopC (S := Bool × Int × List Int × List Int) (R := ((List Int × List Int × Int × Int) ⊕ (List Int × List Int × List Int)) ⊕ (Bool × List Int × List Int)) (F_wlvref15_Authority_L23 s15) (false, 0, [], [])) (F_wlvref15_Authority_J21 (valI t, true) s15))
            (some (.inr (h, [], [])))) (some (.inr (h, [], [])))) (some (.inr (h, [], [])))) = some (Sum.inr (h, [], [])) := by
          by_cases h2 : h.length ≥ 2
          · rw [decide_eq_true (show (h.length : Int) ≥ 2 by omega), cond_true]
            obtain ⟨y0, p1, p2⟩ := getI_of (l := h) (j := 0) (by omega) (by omega)
            obtain ⟨y1, q1, q2⟩ := getI_of (l := h) (j := (h.length : Int) - 1) (by omega) (by omega)
            rw [p1, Option.bind_some, wrap_in (by omega) (by omega), q1, Option.bind_some]
            cases e1 : y0 == 91 with
            | false => rfl
            | true =>
              rw [cond_true]
              cases e2 : y1 == 93 with
              | false => rfl
              | true =>
                exfalso
                apply hb
                rw [Bool.and_eq_true, beq_iff_eq, beq_iff_eq]
                refine ⟨?_, ?_⟩
                · rw [List.head?_eq_getElem?]
                  have p2 : h[0]? = some y0 := p2
                  rw [p2, beq_iff_eq.1 e1]
                · rw [List.getLast?_eq_getElem?]
                  have : ((h.length : Int) - 1).toNat = h.length - 1 := by omega
                  rw [this] at q2
                  rw [q2, beq_iff_eq.1 e2]
          · rw [decide_eq_false (show ¬ (h.length : Int) ≥ 2 by omega)]; rfl
        rw [join_inr hchain]
        unfold F_wlvref15_Authority_J17 placeR
        dsimp only
        rw [Bool.eq_false_iff.2 hb, Bool.false_and, cond_false, four_eq h (by omega), Option.bind_some, refName_eq h (by omega), ← nameR_eq]
        cases (fourR h).2 with
        | true => rfl
        | false =>
          rw [cond_false, cond_false, Option.bind_some]
          by_cases hp : (nameR h).2 = 0
          · rw [show ((nameR h).2 != 0) = false by rw [hp]; rfl, show ((nameR h).2 == 0) = true by rw [hp]; rfl]; rfl
          · rw [show ((nameR h).2 != 0) = true from bne_iff_ne.2 hp, show ((nameR h).2 == 0) = false from beq_eq_false_iff_ne.2 hp]; rfl
    · have h1 : ((placeR h).2.2 && canonB t && decide (1 ≤ valI t) && decide (valI t ≤ 65535)) = false := by
        cases hb : ((placeR h).2.2 && canonB t && decide (1 ≤ valI t) && decide (valI t ≤ 65535)) with
        | false => rfl
        | true =>
          simp only [Bool.and_eq_true, decide_eq_true_eq] at hb
          exact absurd ⟨hb.1.1.2, hb.1.2, hb.2⟩ hok
      have h2 : (canonB t && decide (t.length ≤ 17) && (decide (1 ≤ valI t) && decide (valI t ≤ 65535))) = false := by
        cases hb : (canonB t && decide (t.length ≤ 17) && (decide (1 ≤ valI t) && decide (valI t ≤ 65535))) with
        | false => rfl
        | true =>
          simp only [Bool.and_eq_true, decide_eq_true_eq] at hb
          exact absurd ⟨hb.1.1, hb.2.1, hb.2.2⟩ hok
      rw [h1, h2]; rfl
theorem HostReads_true (s : List Int) : F_wlvlaw16_HostReads s = some true := by
  unfold F_wlvlaw16_HostReads
  rw [first16, Option.bind_some, Bool.not_true, cond_false]
  by_cases h : (s.length : Int) > 1000
  · rw [decide_eq_true h]; rfl
  · obtain ⟨x, h1, h2⟩ := refAuth_eq s (by omega)
    rw [decide_eq_false h, cond_false, h1, Option.bind_some, h2, Option.bind_some, name_eq, Option.bind_some, refName_eq s (by omega), Option.bind_some, ← nameR_eq, Option.bind_some, cond_true]
    unfold eqL
    simp
end Go.Proofs.YtblngdnndkljoaaDoor

/- Addresses written in hex groups and in decimal parts are read back. -/
namespace Go.Proofs.YtblngdnndkljoaaDoor
open Pv
set_option linter.unusedVariables false
theorem joinP_two (p q : List Int) (r : List (List Int)) (c : Int) : joinP (p :: q :: r) [c] = p ++ c :: joinP (q :: r) [c] := by
  unfold joinP List.intercalate
  rw [List.intersperse_cons_cons, List.flatten_cons, List.flatten_cons]
  rfl
theorem joinP_one (p : List Int) (c : Int) : joinP [p] [c] = p := by
  unfold joinP List.intercalate
  simp
theorem split_join (c : Int) : ∀ (p : List Int) (r : List (List Int)), (∀ q ∈ p :: r, ∀ x ∈ q, x ≠ c) → splitI (joinP (p :: r) [c]) c = p :: r
  | p, [], h => by
    rw [joinP_one, splitI_miss (h p (by simp))]
  | p, q :: r, h => by
    rw [joinP_two, splitI_hit (h p (by simp)), split_join c q r fun w hw => h w (List.mem_cons_of_mem _ hw)]
theorem join_head : ∀ (q : List Int) (r : List (List Int)) (c : Int), q ≠ [] → (joinP (q :: r) [c]).head? = q.head?
  | q, [], c, h => by rw [joinP_one]
  | q, q' :: r, c, h => by
    rw [joinP_two]
    cases q with
    | nil => exact absurd rfl h
    | cons x q => rfl
theorem dc_join : ∀ (p : List Int) (r : List (List Int)), (∀ q ∈ p :: r, q ≠ [] ∧ ∀ x ∈ q, x ≠ 58) → dcI (joinP (p :: r) [58]) = none
  | p, [], h => by
    rw [joinP_one]
    have := dc_p p [] (h p (by simp)).2
    rw [List.append_nil] at this
    rw [this]; rfl
  | p, q :: r, h => by
    rw [joinP_two, dc_p p _ (h p (by simp)).2]
    have hq := h q (by simp)
    have ih := dc_join q r fun w hw => h w (List.mem_cons_of_mem _ hw)
    have hh := join_head q r 58 hq.1
    show (cond ((58 : Int) == 58 && (joinP (q :: r) [58]).head? == some 58) (some 0) ((dcI (joinP (q :: r) [58])).map (· + 1))).map _ = none
    rw [ih, hh]
    have : (q.head? == some 58) = false := by
      cases q with
      | nil => exact absurd rfl hq.1
      | cons x q => 
        rw [beq_eq_false_iff_ne]
        intro e
        injection e with e
        exact hq.2 x (by simp) e
    rw [this]; rfl
theorem join_len (c : Int) : ∀ (l : List (List Int)), (∀ q ∈ l, q.length ≤ 20) → (joinP l [c]).length ≤ 21 * l.length
  | [], _ => by simp [joinP, List.intercalate]
  | [p], h => by rw [joinP_one]; have := h p (by simp); simp; omega
  | p :: q :: r, h => by
    have ih := join_len c (q :: r) fun w hw => h w (List.mem_cons_of_mem _ hw)
    have := h p (by simp)
    rw [joinP_two, List.length_append, List.length_cons]
    simp at ih ⊢
    omega
/-! ### groups -/
theorem hexd_dg {q : Nat} (h : q < 16) : dg (hexd q) = q := by
  unfold hexd dg
  split
  · rw [if_pos (by omega)]; omega
  · rw [if_neg (by omega), if_pos (by omega)]; omega
theorem hexV_snoc (p : List Int) (c : Int) : hexV (p ++ [c]) = hexV p * 16 + dg c := by
  unfold hexV
  rw [List.foldl_append]; rfl
theorem hexV_hexI : ∀ (k n : Nat), n < 16 ^ (k + 1) → n < 65536 → hexV (hexI n) = n
  | 0, n, h, _ => by
    have h : n < 16 := by simpa using h
    rw [hexI_one h]
    show 0 * 16 + dg (hexd n) = _
    rw [hexd_dg h]; omega
  | k + 1, n, h, h2 => by
    by_cases h16 : n < 16
    · rw [hexI_one h16]
      show 0 * 16 + dg (hexd n) = _
      rw [hexd_dg h16]; omega
    · rw [hexI_step h16 h2, hexV_snoc, hexV_hexI k (n / 16) (by rw [Nat.pow_succ] at h; omega) (by omega), hexd_dg (by omega)]
      omega
theorem hexB_hexI {n : Nat} (h : n < 65536) : hexB (hexI n) = true := by
  obtain ⟨a, b⟩ := hex_len 3 n (by simpa using h) h
  unfold hexB
  rw [decide_eq_true a, decide_eq_true b, Bool.true_and, Bool.true_and, List.all_eq_true]
  intro c hc
  have := hex_mem 3 n (by simpa using h) h c hc
  refine decide_eq_true ?_
  unfold dg
  rcases this with h | h
  · rw [if_pos h]; omega
  · rw [if_neg (by omega), if_pos h]; omega
/-- The numbers of an address's groups. -/
def pairsN : List Int → List Nat
  | a :: b :: r => (a * 256 + b).toNat :: pairsN r
  | _ => []
theorem pairs_bytes : ∀ (s : List Int), s.length % 2 = 0 → (∀ x ∈ s, 0 ≤ x ∧ x < 256) → bytesP ((pairsN s).map hexI) = s
  | [], _, _ => rfl
  | [_], h, _ => by cases h
  | a :: b :: r, h, hs => by
    have ha := hs a (by simp)
    have hb := hs b (by simp)
    have ih := pairs_bytes r (by simp at h; omega) fun x hx => hs x (by simp [hx])
    show bytesP (hexI (a * 256 + b).toNat :: (pairsN r).map hexI) = _
    rw [bytesP_cons, ih, hexV_hexI 3 _ (by simp; omega) (by omega)]
    unfold by2
    rw [show ((a * 256 + b).toNat : Int) / 256 % 256 = a by omega, show ((a * 256 + b).toNat : Int) % 256 = b by omega]
    rfl
theorem pairs_lt : ∀ (s : List Int), (∀ x ∈ s, 0 ≤ x ∧ x < 256) → ∀ n ∈ pairsN s, n < 65536
  | [], _, _, h => by cases h
  | [_], _, _, h => by cases h
  | a :: b :: r, hs, n, h => by
    have ha := hs a (by simp)
    have hb := hs b (by simp)
    rcases List.mem_cons.1 h with rfl | h
    · omega
    · exact pairs_lt r (fun x hx => hs x (by simp [hx])) n h
theorem pairs_len : ∀ (s : List Int), (pairsN s).length = s.length / 2
  | [] => rfl
  | [_] => by simp [pairsN]
  | a :: b :: r => by
    show (pairsN r).length + 1 = (r.length + 1 + 1) / 2
    rw [pairs_len r]; omega
/-- What Print answers. -/
def printR (s : List Int) : List Int :=
  cond (s.length == 4) (joinP (s.map fun x => dgs x.toNat) [46]) (cond (s.length == 16) (joinP ((pairsN s).map hexI) [58]) [])
theorem dgs_val {x : Int} (h : 0 ≤ x) : valI (dgs x.toNat) = x := by
  have := (dgs_spec (x.toNat + 1) x.toNat (Nat.lt_succ_self _)).2.1
  rw [this]; omega
theorem dgs_dig {n : Nat} {c : Int} (h : c ∈ dgs n) : 48 ≤ c ∧ c ≤ 57 := by
  have := (dgs_spec (n + 1) n (Nat.lt_succ_self _)).1
  exact dig_of (List.all_eq_true.1 this c h)
theorem parse_four (s : List Int) (hl : s.length = 4) (hs : ∀ x ∈ s, 0 ≤ x ∧ x < 256) : fourR (joinP (s.map fun x => dgs x.toNat) [46]) = (s, true) := by
  match s, hl with
  | [a, b, c, d], _ =>
    have e : splitI (joinP ([a, b, c, d].map fun x => dgs x.toNat) [46]) 46 = [a, b, c, d].map fun x => dgs x.toNat := by
      refine split_join 46 _ _ fun q hq x hx => ?_
      have hq : q ∈ [a, b, c, d].map fun x => dgs x.toNat := hq
      obtain ⟨y, _, rfl⟩ := List.mem_map.1 hq
      have := dgs_dig hx
      omega
    have hb : ∀ x ∈ [a, b, c, d], byteB (dgs x.toNat) = true := fun x hx => by
      have := hs x hx
      unfold byteB
      rw [canon_dgs, dgs_val this.1, Bool.true_and]
      exact decide_eq_true (by omega)
    have hv : ∀ x ∈ [a, b, c, d], valI (dgs x.toNat) = x := fun x hx => dgs_val (hs x hx).1
    unfold fourR
    rw [e]
    have h1 : (([a, b, c, d].map fun x => dgs x.toNat).all byteB) = true := by
      rw [List.all_eq_true]
      intro q hq
      obtain ⟨y, hy, rfl⟩ := List.mem_map.1 hq
      exact hb y hy
    rw [h1, Bool.and_true, decide_eq_true (show ([a, b, c, d].map fun x => dgs x.toNat).length = 4 from rfl), cond_true, List.map_map]
    congr 1
    show [valI (dgs a.toNat), valI (dgs b.toNat), valI (dgs c.toNat), valI (dgs d.toNat)] = _
    rw [hv a (by simp), hv b (by simp), hv c (by simp), hv d (by simp)]
theorem group_part {s : List Int} (hs : ∀ x ∈ s, 0 ≤ x ∧ x < 256) : ∀ q ∈ (pairsN s).map hexI, q ≠ [] ∧ ∀ x ∈ q, x ≠ 58 := fun q hq => by
  obtain ⟨n, hn, rfl⟩ := List.mem_map.1 hq
  have hlt := pairs_lt s hs n hn
  have hl := hex_len 3 n (by simpa using hlt) hlt
  refine ⟨fun e => by rw [e] at hl; simp at hl, fun x hx => ?_⟩
  have := hex_mem 3 n (by simpa using hlt) hlt x hx
  omega
theorem join_mem (c : Int) : ∀ (p q : List Int) (r : List (List Int)), c ∈ joinP (p :: q :: r) [c] := fun p q r => by
  rw [joinP_two]; simp
theorem print16_58 {s : List Int} (hl : s.length = 16) : (58 : Int) ∈ joinP ((pairsN s).map hexI) [58] := by
  match s, hl with
  | a :: b :: c :: d :: r, _ => exact join_mem 58 _ _ _
theorem parse_sixteen (s : List Int) (hl : s.length = 16) (hs : ∀ x ∈ s, 0 ≤ x ∧ x < 256) : grpR [] (joinP ((pairsN s).map hexI) [58]) = some s := by
  have hlen : ((pairsN s).map hexI).length = 8 := by rw [List.length_map, pairs_len, hl]
  have hall : ((pairsN s).map hexI).all hexB = true := by
    rw [List.all_eq_true]
    intro q hq
    obtain ⟨n, hn, rfl⟩ := List.mem_map.1 hq
    exact hexB_hexI (pairs_lt s hs n hn)
  have hpart := group_part hs
  have hb := pairs_bytes s (by omega) hs
  generalize (pairsN s).map hexI = ps at *
  cases ps with
  | nil => cases hlen
  | cons p r =>
    unfold grpR
    rw [dc_join p r hpart, split_join 58 p r fun q hq => (hpart q hq).2]
    show cond ((p :: r).all hexB && (0 + 2 * (p :: r).length == 16)) _ _ = _
    rw [hall, hlen]
    show some ([] ++ bytesP (p :: r)) = _
    rw [hb]; rfl
end Go.Proofs.YtblngdnndkljoaaDoor

/- What is read off an authority prints as a text that is read alike: the plain facts. -/
namespace Go.Proofs.YtblngdnndkljoaaDoor
open Pv
set_option linter.unusedVariables false
theorem by2_byte (n : Int) : ∀ x ∈ by2 n, isB x := by
  intro x hx
  unfold by2 at hx
  simp at hx
  rcases hx with rfl | rfl
  · exact ⟨by omega, by omega⟩
  · exact ⟨by omega, by omega⟩
theorem bytesP_byte (ps : List (List Int)) : ∀ x ∈ bytesP ps, isB x := fun x hx => by
  unfold bytesP at hx
  obtain ⟨p, _, h⟩ := List.mem_flatMap.1 hx
  exact by2_byte _ x h
theorem insZ_byte {b : List Int} {g : Nat} (h : ∀ x ∈ b, isB x) : ∀ x ∈ insZ b g, isB x := fun x hx => by
  unfold insZ at hx
  simp only [List.mem_append] at hx
  rcases hx with (hx | hx) | hx
  · exact h x (List.mem_of_mem_take hx)
  · rw [(List.mem_replicate.1 hx).2]; exact ⟨by decide, by decide⟩
  · exact h x (List.mem_of_mem_drop hx)
theorem grp_byte {s x : List Int} (h : grpR [] s = some x) : ∀ y ∈ x, isB y := by
  unfold grpR at h
  split at h
  · cases hc : ((splitI s 58).all hexB && (([] : List Int).length + 2 * (splitI s 58).length == 16)) with
    | false => rw [hc] at h; cases h
    | true =>
      rw [hc, cond_true] at h
      injection h with h
      rw [← h, List.nil_append]
      exact bytesP_byte _
  · rename_i i hd
    cases hc : ((partsO (s.take i)).all hexB && (partsO (s.drop (i + 2))).all hexB && decide (([] : List Int).length + 2 * (partsO (s.take i)).length + 2 * (partsO (s.drop (i + 2))).length ≤ 14)) with
    | false => rw [hc] at h; cases h
    | true =>
      rw [hc, cond_true] at h
      injection h with h
      rw [← h, List.nil_append]
      refine insZ_byte fun y hy => ?_
      rcases List.mem_append.1 hy with hy | hy
      · exact bytesP_byte _ y hy
      · exact bytesP_byte _ y hy
theorem four_byte {s : List Int} (h : (fourR s).2 = true) : (fourR s).1.length = 4 ∧ ∀ y ∈ (fourR s).1, isB y := by
  unfold fourR at h ⊢
  cases hc : (decide ((splitI s 46).length = 4) && (splitI s 46).all byteB) with
  | false => rw [hc] at h; cases h
  | true =>
    rw [cond_true]
    rw [Bool.and_eq_true, decide_eq_true_iff] at hc
    refine ⟨by rw [List.length_map]; exact hc.1, fun y hy => ?_⟩
    obtain ⟨w, hw, rfl⟩ := List.mem_map.1 hy
    have := byte_val (List.all_eq_true.1 hc.2 w hw)
    exact ⟨this.1, by omega⟩
theorem parse_ok {s : List Int} (h : (parseR s).2 = 0) : ((parseR s).1.length = 4 ∨ ((parseR s).1.length = 16 ∧ (parseR s).1.take 12 ≠ preM)) ∧ ∀ y ∈ (parseR s).1, isB y := by
  unfold parseR at h ⊢
  cases h4 : (fourR s).2 with
  | true =>
    rw [cond_true]
    exact ⟨.inl (four_byte h4).1, (four_byte h4).2⟩
  | false =>
    rw [h4, cond_false] at h
    rw [cond_false]
    cases hg : grpR [] s with
    | none => rw [hg] at h; cases h
    | some x =>
      show ((plainR x).length = 4 ∨ ((plainR x).length = 16 ∧ (plainR x).take 12 ≠ preM)) ∧ ∀ y ∈ plainR x, isB y
      have hl := (grp_16 hg).1
      have hb := grp_byte hg
      unfold plainR
      cases hp : (decide (12 ≤ x.length) && (x.take 12 == preM)) with
      | true =>
        rw [cond_true]
        exact ⟨.inl (by rw [List.length_drop]; omega), fun y hy => hb y (List.mem_of_mem_drop hy)⟩
      | false =>
        rw [cond_false]
        refine ⟨.inr ⟨hl, fun e => ?_⟩, hb⟩
        rw [e, decide_eq_true (by omega)] at hp
        exact absurd hp (by decide)
/-- How a host is written. -/
def bodyR (name ip : List Int) : List Int := cond (ip.length == 4) (printR ip) (cond (ip.length == 16) (91 :: (printR ip ++ [93])) name)
theorem print4_head {ip : List Int} (hl : ip.length = 4) (hb : ∀ y ∈ ip, isB y) : (fourR (printR ip)) = (ip, true) := by
  unfold printR
  rw [beq_iff_eq.2 hl, cond_true]
  exact parse_four ip hl hb
theorem print16_four {ip : List Int} (hl : ip.length = 16) : (fourR (printR ip)).2 = false := by
  have e : printR ip = joinP ((pairsN ip).map hexI) [58] := by unfold printR; rw [hl]; rfl
  cases h : (fourR (printR ip)).2 with
  | false => rfl
  | true => exact absurd (by rw [e]; exact print16_58 hl) (four_no h (x := 58) (.inl rfl))
theorem parse_print {ip : List Int} (hb : ∀ y ∈ ip, isB y) (h : ip.length = 4 ∨ (ip.length = 16 ∧ ip.take 12 ≠ preM)) : parseR (printR ip) = (ip, 0) := by
  unfold parseR
  rcases h with hl | ⟨hl, hm⟩
  · rw [print4_head hl hb]; rfl
  · rw [print16_four hl, cond_false]
    have e : printR ip = joinP ((pairsN ip).map hexI) [58] := by unfold printR; rw [hl]; rfl
    rw [e, parse_sixteen ip hl hb]
    show (plainR ip, (0 : Int)) = _
    unfold plainR
    rw [beq_eq_false_iff_ne.2 hm, Bool.and_false, cond_false]
theorem name_ok {s : List Int} (h : (nameR s).2 = 0) : (nameR s).1 = s.map lowI ∧ (nameR s).1 = s.map lw ∧ (∀ c ∈ s, c = 46 ∨ sg c ≠ 0) ∧ s ≠ [] ∧ s.length ≤ 253 := by
  have h1 : (nameR s).1 = s.map lowI ∧ (∀ c ∈ s, c = 46 ∨ sg c ≠ 0) ∧ s ≠ [] := by
    unfold nameR at h ⊢
    cases hd : decide (253 < s.length) with
    | true => rw [hd] at h; cases h
    | false =>
      rw [hd, cond_false] at h
      rw [cond_false]
      cases hn : nameP [] 0 s with
      | none => rw [hn] at h; cases h
      | some b =>
        obtain ⟨e, g, n⟩ := name_some s _ _ _ hn
        exact ⟨by show b = _; rw [e, List.nil_append], g, n rfl⟩
  have h2 : (nameR s).1 = s.map lw ∧ s.length ≤ 253 := by
    rw [nameR_eq] at h ⊢
    unfold nameQ at h ⊢
    cases hc : (decide (1 ≤ s.length) && decide (s.length ≤ 253) && (splitI (s.map lw) 46).all labB) with
    | false => rw [hc] at h; cases h
    | true =>
      simp only [Bool.and_eq_true, decide_eq_true_eq] at hc
      exact ⟨rfl, hc.1.2⟩
  exact ⟨h1.1, h2.1, h1.2.1, h1.2.2, h2.2⟩
theorem lw_lw (c : Int) : lw (lw c) = lw c := by
  unfold lw
  by_cases h : 65 ≤ c ∧ c ≤ 90
  · rw [if_pos h, if_neg (by omega)]
  · rw [if_neg h, if_neg h]
theorem map_lw (s : List Int) : (s.map lw).map lw = s.map lw := by
  rw [List.map_map]
  exact List.map_congr_left fun c _ => lw_lw c
theorem name_low {s : List Int} (h : (nameR s).2 = 0) : nameR (s.map lw) = (s.map lw, 0) := by
  rw [nameR_eq] at h ⊢
  unfold nameQ at h ⊢
  rw [map_lw, List.length_map]
  cases hc : (decide (1 ≤ s.length) && decide (s.length ≤ 253) && (splitI (s.map lw) 46).all labB) with
  | false => rw [hc] at h; cases h
  | true => rfl
theorem low_chars {s : List Int} (h : ∀ c ∈ s, c = 46 ∨ sg c ≠ 0) : ∀ c ∈ s.map lowI, c = 45 ∨ c = 46 ∨ c = 95 ∨ (48 ≤ c ∧ c ≤ 57) ∨ (97 ≤ c ∧ c ≤ 122) := fun c hc => by
  obtain ⟨d, hd, rfl⟩ := List.mem_map.1 hc
  have := h d hd
  unfold lowI
  by_cases h46 : d = 46
  · subst h46; right; left; rfl
  · rw [beq_eq_false_iff_ne.2 h46, cond_false]
    have hs := this.resolve_left h46
    rw [sg_spec] at hs ⊢
    by_cases h1 : 65 ≤ d ∧ d ≤ 90
    · rw [if_pos h1]; omega
    · rw [if_neg h1] at hs ⊢
      by_cases h2 : (97 ≤ d ∧ d ≤ 122) ∨ (48 ≤ d ∧ d ≤ 57) ∨ d = 45 ∨ d = 95
      · rw [if_pos h2]; omega
      · rw [if_neg h2] at hs; exact absurd rfl hs
/-- What a place that is read comes to, and that it is read alike off its text. -/
theorem place_back {h : List Int} (hok : (placeR h).2.2 = true) :
    placeR (bodyR (placeR h).1 (placeR h).2.1) = placeR h ∧
    (((placeR h).1 = [] ∧ ((placeR h).2.1.length = 4 ∨ (placeR h).2.1.length = 16)) ∨ ((placeR h).1 ≠ [] ∧ (placeR h).2.1 = [])) ∧
    (∀ y ∈ (placeR h).2.1, isB y) ∧ (placeR h).1.length ≤ 253 ∧
    ∀ c ∈ (placeR h).1, c = 45 ∨ c = 46 ∨ c = 95 ∨ (48 ≤ c ∧ c ≤ 57) ∨ (97 ≤ c ∧ c ≤ 122) := by
  have hip : ∀ ip : List Int, (∀ y ∈ ip, isB y) → (ip.length = 4 ∨ (ip.length = 16 ∧ ip.take 12 ≠ preM)) → placeR (bodyR [] ip) = ([], ip, true) := fun ip hb hl => by
    rcases hl with hl | ⟨hl, hm⟩
    · have e : bodyR [] ip = printR ip := by unfold bodyR; rw [hl]; rfl
      have h4 := print4_head hl hb
      have h91 : ((printR ip).head? == some 91) = false := by
        rw [beq_eq_false_iff_ne]
        intro e
        have hm : (91 : Int) ∈ printR ip := by
          cases hp : printR ip with
          | nil => rw [hp] at e; cases e
          | cons a l => rw [hp] at e; injection e with e; rw [e]; simp
        exact four_no (s := printR ip) (by rw [h4]) (x := 91) (.inr rfl) hm
      rw [e]
      unfold placeR
      rw [h91, Bool.false_and, Bool.false_and, cond_false, h4]; rfl
    · have e : bodyR [] ip = 91 :: (printR ip ++ [93]) := by unfold bodyR; rw [hl]; rfl
      have e2 : printR ip = joinP ((pairsN ip).map hexI) [58] := by unfold printR; rw [hl]; rfl
      have h58 : (58 : Int) ∈ printR ip := by rw [e2]; exact print16_58 hl
      rw [e]
      unfold placeR
      rw [mid_of, parse_print hb (.inr ⟨hl, hm⟩)]
      have c1 : ((91 :: (printR ip ++ [93]) : List Int).head? == some 91) = true := rfl
      have c2 : ((91 :: (printR ip ++ [93]) : List Int).getLast? == some 93) = true := by
        rw [show (91 :: (printR ip ++ [93]) : List Int) = (91 :: printR ip) ++ [93] from rfl, List.getLast?_append]; rfl
      have c3 : (91 :: (printR ip ++ [93]) : List Int).contains 58 = true := by
        rw [List.contains_iff_mem]; simp [h58]
      rw [c1, c2, c3]; rfl
  unfold placeR at hok
  cases h1 : (h.head? == some 91 && h.getLast? == some 93 && h.contains 58) with
  | true =>
    have e : placeR h = ([], (parseR (h.take (h.length - 1)).tail).1, (parseR (h.take (h.length - 1)).tail).2 == 0) := by unfold placeR; rw [h1]; rfl
    rw [h1, cond_true] at hok
    have hok : ((parseR (h.take (h.length - 1)).tail).2 == 0) = true := hok
    rw [e, hok]
    obtain ⟨hl, hb⟩ := parse_ok (beq_iff_eq.1 hok)
    refine ⟨hip _ hb hl, .inl ⟨rfl, ?_⟩, hb, by simp, by simp⟩
    rcases hl with hl | hl
    · exact .inl hl
    · exact .inr hl.1
  | false =>
    rw [h1, cond_false] at hok
    cases h4 : (fourR h).2 with
    | true =>
      have e : placeR h = ([], (fourR h).1, true) := by unfold placeR; rw [h1, h4]; rfl
      rw [e]
      obtain ⟨hl, hb⟩ := four_byte h4
      exact ⟨hip _ hb (.inl hl), .inl ⟨rfl, .inl hl⟩, hb, by simp, by simp⟩
    | false =>
      have e : placeR h = ((nameR h).1, [], (nameR h).2 == 0) := by unfold placeR; rw [h1, h4]; rfl
      rw [h4, cond_false] at hok
      have hok : ((nameR h).2 == 0) = true := hok
      obtain ⟨n1, n2, n3, n4, n5⟩ := name_ok (beq_iff_eq.1 hok)
      have hch := low_chars n3
      rw [← n1] at hch
      rw [e, hok]
      refine ⟨?_, .inr ⟨?_, rfl⟩, by simp, by rw [n1, List.length_map]; exact n5, hch⟩
      · show placeR (nameR h).1 = _
        have h91 : ((nameR h).1.head? == some 91) = false := by
          rw [beq_eq_false_iff_ne]
          intro e
          have hm : (91 : Int) ∈ (nameR h).1 := by
            cases hp : (nameR h).1 with
            | nil => rw [hp] at e; cases e
            | cons a l => rw [hp] at e; injection e with e; rw [e]; simp
          have := hch 91 hm
          omega
        have hf : (fourR (nameR h).1).2 = false := by rw [n1, four_low h n3, h4]
        have hn : nameR (nameR h).1 = ((nameR h).1, 0) := by rw [n2]; exact name_low (beq_iff_eq.1 hok)
        unfold placeR
        rw [h91, Bool.false_and, Bool.false_and, cond_false, hf, cond_false, hn]; rfl
      · rw [n1]
        intro e
        exact n4 (List.map_eq_nil_iff.1 e)
end Go.Proofs.YtblngdnndkljoaaDoor

/- Groups of hex digits, joined with one gap or none: what they are read as. -/
namespace Go.Proofs.YtblngdnndkljoaaDoor
open Pv
set_option linter.unusedVariables false
theorem hexB_part {p : List Int} (h : hexB p = true) : p ≠ [] ∧ ∀ x ∈ p, x ≠ 58 := by
  unfold hexB at h
  simp only [Bool.and_eq_true, decide_eq_true_eq, List.all_eq_true] at h
  refine ⟨fun e => by rw [e] at h; simp at h, fun x hx e => ?_⟩
  have := h.2 x hx
  rw [e, dg_58] at this
  omega
theorem join_snoc (c : Int) (q : List Int) : ∀ (p : List Int) (r : List (List Int)), joinP ((p :: r) ++ [q]) [c] = joinP (p :: r) [c] ++ c :: q
  | p, [] => by
    show joinP (p :: q :: []) [c] = _
    rw [joinP_two, joinP_one, joinP_one]
  | p, p2 :: r => by
    show joinP (p :: p2 :: (r ++ [q])) [c] = _
    have ih := join_snoc c q p2 r
    rw [List.cons_append] at ih
    rw [joinP_two, ih, joinP_two, List.append_assoc]
    rfl
theorem dc_at (r : List Int) : ∀ (ps : List (List Int)), ps.all hexB = true → dcI (joinP ps [58] ++ 58 :: 58 :: r) = some (joinP ps [58]).length
  | [], _ => rfl
  | [p], h => by
    rw [joinP_one, dc_p p _ (hexB_part (List.all_eq_true.1 h p (by simp))).2]
    show some (0 + p.length) = _
    rw [Nat.zero_add]
  | p :: q :: l, h => by
    rw [joinP_two, List.append_assoc, dc_p p _ (hexB_part (List.all_eq_true.1 h p (by simp))).2]
    have hq := hexB_part (List.all_eq_true.1 h q (by simp))
    have ih := dc_at r (q :: l) (by rw [List.all_cons, Bool.and_eq_true] at h; exact h.2)
    have hh : (joinP (q :: l) [58] ++ 58 :: 58 :: r).head? = q.head? := by
      have := join_head q l 58 hq.1
      rw [List.head?_append, this]
      cases q with
      | nil => exact absurd rfl hq.1
      | cons x q => rfl
    have : (q.head? == some 58) = false := by
      cases q with
      | nil => exact absurd rfl hq.1
      | cons x q =>
        rw [beq_eq_false_iff_ne]
        intro e
        injection e with e
        exact hq.2 x (by simp) e
    show (cond ((58 : Int) == 58 && (joinP (q :: l) [58] ++ 58 :: 58 :: r).head? == some 58) (some 0) ((dcI (joinP (q :: l) [58] ++ 58 :: 58 :: r)).map (· + 1))).map _ = _
    rw [ih, hh, this]
    show some ((joinP (q :: l) [58]).length + 1 + p.length) = some (p ++ 58 :: joinP (q :: l) [58]).length
    rw [List.length_append, List.length_cons, Nat.add_comm]
theorem parts_join {ps : List (List Int)} (h : ps.all hexB = true) : partsO (joinP ps [58]) = ps := by
  cases ps with
  | nil => rfl
  | cons p r =>
    have hp := hexB_part (List.all_eq_true.1 h p (by simp))
    have hne : joinP (p :: r) [58] ≠ [] := fun e => by
      have := join_head p r 58 hp.1
      rw [e] at this
      cases p with
      | nil => exact hp.1 rfl
      | cons x p => cases this
    rw [partsO_ne hne, split_join 58 p r fun q hq => (hexB_part (List.all_eq_true.1 h q hq)).2]
theorem grp_join {ps : List (List Int)} (hall : ps.all hexB = true) (h0 : ps ≠ []) : grpR [] (joinP ps [58]) = cond (2 * ps.length == 16) (some (bytesP ps)) none := by
  cases ps with
  | nil => exact absurd rfl h0
  | cons p r =>
    have hp : ∀ q ∈ p :: r, q ≠ [] ∧ ∀ x ∈ q, x ≠ 58 := fun q hq => hexB_part (List.all_eq_true.1 hall q hq)
    unfold grpR
    rw [dc_join p r hp, split_join 58 p r fun q hq => (hp q hq).2]
    show cond ((p :: r).all hexB && (0 + 2 * (p :: r).length == 16)) _ _ = _
    rw [hall, Bool.true_and, Nat.zero_add]
    rfl
theorem grp_gap {ps qs : List (List Int)} (hp : ps.all hexB = true) (hq : qs.all hexB = true) (hl : ps.length + qs.length ≤ 7) :
    grpR [] (joinP ps [58] ++ 58 :: 58 :: joinP qs [58]) = some (bytesP ps ++ List.replicate (16 - 2 * (ps.length + qs.length)) 0 ++ bytesP qs) := by
  unfold grpR
  rw [dc_at _ ps hp]
  show cond ((partsO ((joinP ps [58] ++ 58 :: 58 :: joinP qs [58]).take (joinP ps [58]).length)).all hexB && (partsO ((joinP ps [58] ++ 58 :: 58 :: joinP qs [58]).drop ((joinP ps [58]).length + 2))).all hexB && decide (0 + 2 * (partsO ((joinP ps [58] ++ 58 :: 58 :: joinP qs [58]).take (joinP ps [58]).length)).length + 2 * (partsO ((joinP ps [58] ++ 58 :: 58 :: joinP qs [58]).drop ((joinP ps [58]).length + 2))).length ≤ 14)) _ _ = _
  have e1 : (joinP ps [58] ++ 58 :: 58 :: joinP qs [58]).take (joinP ps [58]).length = joinP ps [58] := List.take_left
  have e2 : (joinP ps [58] ++ 58 :: 58 :: joinP qs [58]).drop ((joinP ps [58]).length + 2) = joinP qs [58] := by
    rw [List.drop_append, List.drop_of_length_le (by omega), show (joinP ps [58]).length + 2 - (joinP ps [58]).length = 2 by omega]
    rfl
  rw [e1, e2, parts_join hp, parts_join hq, hp, hq, decide_eq_true (by omega)]
  show some (insZ ([] ++ bytesP ps ++ bytesP qs) (0 + 2 * ps.length)) = _
  unfold insZ
  rw [List.nil_append, Nat.zero_add, ← bytesP_len ps, List.take_left, List.drop_left, List.length_append, bytesP_len, bytesP_len, Nat.mul_add]
theorem split_end (c : Int) : ∀ (x : List Int), splitI (x ++ [c]) c = splitI x c ++ [[]]
  | [] => by
    show cond (c == c) _ _ = _
    rw [beq_self_eq_true]; rfl
  | a :: x => by
    have ih := split_end c x
    show cond (a == c) ([] :: splitI (x ++ [c]) c) _ = (cond (a == c) ([] :: splitI x c) _) ++ [[]]
    rw [ih]
    cases a == c with
    | true => rfl
    | false =>
      rw [cond_false, cond_false]
      have e : splitI (x.append [c]) c = splitI x c ++ [[]] := ih
      try rw [e]
      cases hs : splitI x c with
      | nil => exact absurd hs (splitI_ne x c)
      | cons w r => rfl
theorem grp_twice {ps : List (List Int)} (hp : ps.all hexB = true) (y : List Int) : grpR [] (joinP ps [58] ++ 58 :: 58 :: (y ++ [58, 58])) = none := by
  unfold grpR
  rw [dc_at _ ps hp]
  show cond (_ && (partsO ((joinP ps [58] ++ 58 :: 58 :: (y ++ [58, 58])).drop ((joinP ps [58]).length + 2))).all hexB && _) _ _ = _
  have e2 : (joinP ps [58] ++ 58 :: 58 :: (y ++ [58, 58])).drop ((joinP ps [58]).length + 2) = y ++ [58, 58] := by
    rw [List.drop_append, List.drop_of_length_le (by omega), show (joinP ps [58]).length + 2 - (joinP ps [58]).length = 2 by omega]
    rfl
  have e3 : (partsO (y ++ [58, 58])).all hexB = false := by
    rw [partsO_ne (by simp), show y ++ [58, 58] = (y ++ [58]) ++ [58] by simp, split_end, List.all_append]
    show (_ && (hexB [] && true)) = false
    rw [show hexB [] = false from rfl, Bool.false_and, Bool.and_false]
  rw [e2, e3, Bool.and_false, Bool.false_and]; rfl
theorem parse_58 {s : List Int} (h : (58 : Int) ∈ s) : parseR s = match grpR [] s with | some x => (plainR x, 0) | none => ([], 2) := by
  unfold parseR
  cases h4 : (fourR s).2 with
  | true => exact absurd h (four_no h4 (x := 58) (.inl rfl))
  | false => rfl
/-! ### what is written in a loop -/
/-- The text of the first i groups, of which those from a to b are left out. -/
def shortAt (H : List (List Int)) (a b i : Nat) : List Int :=
  if i ≤ a then joinP (H.take i) [58] else joinP (H.take a) [58] ++ 58 :: 58 :: joinP ((H.take i).drop b) [58]
theorem take_snoc (H : List (List Int)) {i : Nat} (h : i < H.length) : H.take (i + 1) = H.take i ++ [H[i]] := by
  rw [List.take_add_one, List.getElem?_eq_getElem h]; rfl
theorem join_add (H : List (List Int)) {i : Nat} (h : i < H.length) (h0 : 0 < i) : joinP (H.take (i + 1)) [58] = joinP (H.take i) [58] ++ 58 :: H[i] := by
  rw [take_snoc H h]
  cases hq : H.take i with
  | nil =>
    have : (H.take i).length = i := by rw [List.length_take]; omega
    rw [hq] at this; simp at this; omega
  | cons p r => exact join_snoc 58 _ p r
theorem short_lo {H : List (List Int)} {a b i : Nat} (h : i ≤ a) : shortAt H a b i = joinP (H.take i) [58] := if_pos h
theorem short_hi {H : List (List Int)} {a b i : Nat} (h : a < i) : shortAt H a b i = joinP (H.take a) [58] ++ 58 :: 58 :: joinP ((H.take i).drop b) [58] := if_neg (by omega)
theorem short_low {H : List (List Int)} {a b i : Nat} (h : i < a) (hi : i < H.length) : shortAt H a b (i + 1) = (if 0 < i then shortAt H a b i ++ [58] else shortAt H a b i) ++ H[i] := by
  rw [short_lo (show i + 1 ≤ a by omega), short_lo (show i ≤ a by omega)]
  by_cases h0 : 0 < i
  · rw [if_pos h0, join_add H hi h0, List.append_assoc]; rfl
  · rw [if_neg h0]
    have : i = 0 := by omega
    subst this
    rw [take_snoc H hi]
    show joinP [H[0]] [58] = joinP [] [58] ++ H[0]
    rw [joinP_one]; rfl
theorem short_gap {H : List (List Int)} {a b : Nat} (h : a < b) : shortAt H a b (a + 1) = shortAt H a b a ++ [58, 58] := by
  rw [short_lo (Nat.le_refl a), short_hi (Nat.lt_succ_self a), List.drop_of_length_le (by rw [List.length_take]; omega)]
  rfl
theorem short_stay {H : List (List Int)} {a b i : Nat} (h1 : a < i) (h2 : i < b) : shortAt H a b (i + 1) = shortAt H a b i := by
  unfold shortAt
  rw [if_neg (by omega), if_neg (by omega), List.drop_of_length_le (by rw [List.length_take]; omega), List.drop_of_length_le (by rw [List.length_take]; omega)]
theorem short_high {H : List (List Int)} {a b i : Nat} (hab : a < b) (h : b ≤ i) (hi : i < H.length) : shortAt H a b (i + 1) = (if i ≠ b then shortAt H a b i ++ [58] else shortAt H a b i) ++ H[i] := by
  rw [short_hi (show a < i + 1 by omega), short_hi (show a < i by omega)]
  have hd : (H.take (i + 1)).drop b = (H.take i).drop b ++ [H[i]] := by
    rw [take_snoc H hi, List.drop_append, List.length_take, show b - min i H.length = 0 by omega]
    rfl
  by_cases hb : i = b
  · rw [if_neg (by simp [hb]), hd, List.drop_of_length_le (by rw [List.length_take]; omega)]
    show _ ++ 58 :: 58 :: joinP [H[i]] [58] = (_ ++ 58 :: 58 :: joinP [] [58]) ++ H[i]
    rw [joinP_one, List.append_assoc]; rfl
  · rw [if_pos hb, hd]
    cases hq : (H.take i).drop b with
    | nil =>
      have : ((H.take i).drop b).length = i - b := by rw [List.length_drop, List.length_take]; omega
      rw [hq] at this; simp at this; omega
    | cons p r =>
      rw [join_snoc 58 _ p r]
      simp
end Go.Proofs.YtblngdnndkljoaaDoor

/- What addr.Print and the reference's Print answer. -/
namespace Go.Proofs.YtblngdnndkljoaaDoor
open Pv
set_option linter.unusedVariables false
theorem or256 {n d : Int} (h0 : 0 ≤ n) (h1 : n < 256) (h2 : 0 ≤ d) (h3 : d < 256) : bits .or .i64 (IntKind.i64.wrap ((IntKind.i64.wrap n) * 2 ^ 8)) (IntKind.i64.wrap d) = n * 256 + d := by
  have e : ∀ m : Int, m * 2 ^ 8 = m * 256 := fun _ => rfl
  rw [wrap_in (x := n) (by omega) (by omega), wrap_in (x := d) (by omega) (by omega), e, wrap_in (by omega) (by omega)]
  have e40 : (2 : Int) ^ 40 = 1099511627776 := by decide
  exact bits_join .i64 40 (by decide) (fun n h0 h1 => wrap_in (by omega) (by omega)) 8 (n * 256) d (by omega) (by omega) (by omega) h2 h3 (by omega)
theorem getD_mem {s : List Int} {i : Nat} (h : i < s.length) : s.getD i 0 ∈ s := by
  rw [List.getD_eq_getElem?_getD, List.getElem?_eq_getElem h]; exact List.getElem_mem h
theorem getI_getD {s : List Int} {i : Nat} (h : i < s.length) : getI s (i : Int) = some (s.getD i 0) := getI_nat (by rw [List.getD_eq_getElem?_getD, List.getElem?_eq_getElem h]; rfl)
theorem take_more {s : List Int} {i : Nat} (h : i < s.length) : s.take (i + 1) = s.take i ++ [s.getD i 0] := by
  rw [List.take_add_one, List.getD_eq_getElem?_getD, List.getElem?_eq_getElem h]; rfl
def fD (x : Int) : List Int := dgs x.toNat
theorem fD_len {x : Int} (hx : isB x) : (fD x).length ≤ 20 := by
  have := dgs_len 2 x.toNat (by obtain ⟨_, _⟩ := hx; simp; omega)
  unfold fD; omega
theorem itoa_byte {x : Int} (hx : isB x) : F_strconv_Itoa (IntKind.i64.wrap x) = some (fD x) := by
  obtain ⟨h0, h1⟩ := hx
  rw [wrap_in (by omega) (by omega)]
  unfold F_strconv_Itoa fD
  obtain ⟨n, rfl⟩ := Int.eq_ofNat_of_zero_le h0
  rw [itoa_dgs, Int.toNat_natCast]
theorem dot_loop (s : List Int) (hl : s.length = 4) (hb : ∀ x ∈ s, isB x) : ∀ (k i : Nat), i + k = 4 → loopC (F_addr_Print_L7 s) ((s.take i).map fD, (i : Int)) = some (.inr (s.map fD))
  | 0, i, h => by
    refine loop_inl ?_
    unfold F_addr_Print_L7
    dsimp only
    rw [decide_eq_false (show ¬ (i : Int) < 4 by omega), cond_false, List.take_of_length_le (by omega)]
  | k + 1, i, h => by
    have hi : i < s.length := by omega
    refine loop_inr (s' := ((s.take (i + 1)).map fD, ((i + 1 : Nat) : Int))) ?_ (dot_loop s hl hb k (i + 1) (by omega))
    unfold F_addr_Print_L7 chk
    dsimp only
    have hln : ((s.take i).map fD).length ≤ 4 := by rw [List.length_map, List.length_take]; omega
    rw [decide_eq_true (show (i : Int) < 4 by omega), cond_true, getI_getD hi, Option.bind_some, itoa_byte (hb _ (getD_mem hi)), Option.bind_some, chk16 (by show _ + 1 ≤ _; omega), cond_true, wrap_in (by omega) (by omega), take_more hi, List.map_append]
    rfl
theorem pairs_snoc : ∀ (l : List Int) (a b : Int), l.length % 2 = 0 → pairsN (l ++ [a, b]) = pairsN l ++ [(a * 256 + b).toNat]
  | [], _, _, _ => rfl
  | [_], _, _, h => by simp at h
  | x :: y :: l, a, b, h => by
    show (x * 256 + y).toNat :: pairsN (l ++ [a, b]) = (x * 256 + y).toNat :: (pairsN l ++ _)
    rw [pairs_snoc l a b (by simp at h; omega)]
theorem pairs_take {s : List Int} {i : Nat} (h : 2 * i + 1 < s.length) : pairsN (s.take (2 * (i + 1))) = pairsN (s.take (2 * i)) ++ [(s.getD (2 * i) 0 * 256 + s.getD (2 * i + 1) 0).toNat] := by
  rw [show 2 * (i + 1) = 2 * i + 1 + 1 by omega, take_more h, take_more (by omega), List.append_assoc]
  exact pairs_snoc _ _ _ (by rw [List.length_take]; omega)
theorem fmt_pair {a b : Int} (ha : isB a) (hb : isB b) : F_strconv_FormatInt (bits .or .i64 (IntKind.i64.wrap ((IntKind.i64.wrap a) * 2 ^ 8)) (IntKind.i64.wrap b)) 16 = some (hexI (a * 256 + b).toNat) := by
  obtain ⟨a0, a1⟩ := ha
  obtain ⟨b0, b1⟩ := hb
  rw [or256 a0 a1 b0 b1]
  unfold F_strconv_FormatInt
  rw [decide_eq_true (show 0 ≤ a * 256 + b by omega), decide_eq_true (show a * 256 + b < 65536 by omega)]
  rfl
theorem col_loop (s : List Int) (hl : s.length = 16) (hb : ∀ x ∈ s, isB x) : ∀ (k i : Nat), i + k = 8 → loopC (F_addr_Print_L16 s) ((pairsN (s.take (2 * i))).map hexI, (i : Int)) = some (.inr ((pairsN s).map hexI))
  | 0, i, h => by
    refine loop_inl ?_
    unfold F_addr_Print_L16
    dsimp only
    rw [decide_eq_false (show ¬ (i : Int) < 8 by omega), cond_false, List.take_of_length_le (by omega)]
  | k + 1, i, h => by
    have h1 : 2 * i < s.length := by omega
    have h2 : 2 * i + 1 < s.length := by omega
    refine loop_inr (s' := ((pairsN (s.take (2 * (i + 1)))).map hexI, ((i + 1 : Nat) : Int))) ?_ (col_loop s hl hb k (i + 1) (by omega))
    unfold F_addr_Print_L16 chk
    dsimp only
    have hln : ((pairsN (s.take (2 * i))).map hexI).length ≤ 16 := by rw [List.length_map, pairs_len, List.length_take]; omega
    rw [decide_eq_true (show (i : Int) < 8 by omega), cond_true, wrap_in (x := 2 * (i : Int)) (by omega) (by omega), show 2 * (i : Int) = ((2 * i : Nat) : Int) by omega, getI_getD h1, Option.bind_some, wrap_in (x := ((2 * i : Nat) : Int) + 1) (by omega) (by omega), show ((2 * i : Nat) : Int) + 1 = ((2 * i + 1 : Nat) : Int) by omega, getI_getD h2, Option.bind_some, fmt_pair (hb _ (getD_mem h1)) (hb _ (getD_mem h2)), Option.bind_some, chk16 (by show _ + 1 ≤ _; omega), cond_true, wrap_in (by omega) (by omega), pairs_take h2, List.map_append]
    rfl
theorem hexs_len {s : List Int} (hb : ∀ x ∈ s, isB x) : ∀ q ∈ (pairsN s).map hexI, q.length ≤ 20 := fun q hq => by
  obtain ⟨n, hn, rfl⟩ := List.mem_map.1 hq
  have hlt := pairs_lt s hb n hn
  have := hex_len 3 n (by simpa using hlt) hlt
  omega
theorem decs_len {s : List Int} (hb : ∀ x ∈ s, isB x) : ∀ q ∈ s.map fD, q.length ≤ 20 := fun q hq => by
  obtain ⟨n, hn, rfl⟩ := List.mem_map.1 hq
  exact fD_len (hb n hn)
theorem print_len {s : List Int} (hb : ∀ x ∈ s, isB x) : (printR s).length ≤ 168 := by
  unfold printR
  cases h4 : s.length == 4 with
  | true =>
    rw [cond_true]
    have := join_len 46 (s.map fD) (decs_len hb)
    have e := beq_iff_eq.1 h4
    rw [List.length_map] at this
    show (joinP (s.map fD) [46]).length ≤ 168
    omega
  | false =>
    rw [cond_false]
    cases h16 : s.length == 16 with
    | true =>
      rw [cond_true]
      have := join_len 58 ((pairsN s).map hexI) (hexs_len hb)
      have e := beq_iff_eq.1 h16
      rw [List.length_map, pairs_len] at this
      omega
    | false => simp
theorem join_eq {l : List (List Int)} {c : Int} (h1 : l.length ≤ 1000) (h2 : (joinP l [c]).length ≤ 100000) : F_strings_Join l [c] = some (joinP l [c]) := by
  unfold F_strings_Join
  rw [Nat.ble_eq_true_of_le (by omega), Nat.ble_eq_true_of_le (by omega)]; rfl
theorem Print_eq (s : List Int) (hb : ∀ x ∈ s, isB x) : F_addr_Print s = some (printR s) := by
  have hlen := print_len hb
  unfold F_addr_Print
  by_cases h4 : s.length = 4
  · have e : printR s = joinP (s.map fD) [46] := by unfold printR; rw [h4]; rfl
    rw [e] at hlen ⊢
    have := dot_loop s h4 hb 4 0 rfl
    rw [beq_iff_eq.2 (show (s.length : Int) = 4 by omega), cond_true]
    refine join_inl ?_
    refine (join_inr (s := s.map fD) this).trans ?_
    unfold F_addr_Print_J5
    dsimp only
    rw [join_eq (by rw [List.length_map]; omega) (by omega)]; rfl
  · rw [beq_eq_false_iff_ne.2 (show ¬ (s.length : Int) = 4 by omega), cond_false]
    by_cases h16 : s.length = 16
    · have e : printR s = joinP ((pairsN s).map hexI) [58] := by unfold printR; rw [h16]; rfl
      rw [e] at hlen ⊢
      have := col_loop s h16 hb 8 0 rfl
      rw [beq_iff_eq.2 (show (s.length : Int) = 16 by omega), cond_true]
      refine join_inl ?_
      refine (join_inr (s := (pairsN s).map hexI) this).trans ?_
      unfold F_addr_Print_J14
      dsimp only
      rw [join_eq (by rw [List.length_map, pairs_len]; omega) (by omega)]; rfl
    · have e : printR s = [] := by unfold printR; rw [beq_eq_false_iff_ne.2 h4, beq_eq_false_iff_ne.2 h16]; rfl
      rw [e, beq_eq_false_iff_ne.2 (show ¬ (s.length : Int) = 16 by omega)]; rfl
/-! ### the reference -/
theorem and15i {n : Nat} (h : n < 65536) : bits .and .i64 (n : Int) 15 = ((n % 16 : Nat) : Int) := by
  have e40 : (2 : Int) ^ 40 = 1099511627776 := by decide
  have := bits_mask .i64 40 (by decide) (fun m h0 h1 => wrap_in (by omega) (by omega)) 4 (by decide) (n : Int) (by omega) (by omega)
  have e : (2 : Int) ^ 4 - 1 = 15 := rfl
  rw [e] at this
  rw [this]
  have e : (2 : Int) ^ 4 = 16 := rfl
  rw [e]; omega
theorem tab_cut : (List.range 16).all (fun q => cutI ([48, 49, 50, 51, 52, 53, 54, 55, 56, 57, 97, 98, 99, 100, 101, 102] : List Int) (q : Int) (IntKind.i64.wrap ((q : Int) + 1)) == some [hexd q]) = true := by kernel_rfl
theorem hex_fuel : ∀ (k n : Nat), n < 16 ^ (k + 1) → n < 65536 → F_wlvref15_hex_fuel (k + 1) (n : Int) = some (hexI n) := fun k => by
  induction k with
  | zero =>
    intro n h h2
    have h16 : n < 16 := by simpa using h
    show F_wlvref15_hex_step _ _ = _
    unfold F_wlvref15_hex_step
    have hc := beq_iff_eq.1 (List.all_eq_true.1 tab_cut (n % 16) (List.mem_range.2 (by omega)))
    rw [and15i h2, hc, Option.bind_some, decide_eq_true (show (n : Int) < 16 by omega), cond_true, hexI_one h16, Nat.mod_eq_of_lt h16]
  | succ k ih =>
    intro n h h2
    show F_wlvref15_hex_step _ _ = _
    unfold F_wlvref15_hex_step
    have hc := beq_iff_eq.1 (List.all_eq_true.1 tab_cut (n % 16) (List.mem_range.2 (by omega)))
    rw [and15i h2, hc, Option.bind_some]
    by_cases h16 : n < 16
    · rw [decide_eq_true (show (n : Int) < 16 by omega), cond_true, hexI_one h16, Nat.mod_eq_of_lt h16]
    · have hq : n / 16 < 16 ^ (k + 1) := by rw [Nat.pow_succ] at h; omega
      have hl := hex_len 3 (n / 16) (by simp; omega) (by omega)
      have e4 : (2 : Int) ^ 4 = 16 := rfl
      rw [decide_eq_false (show ¬ (n : Int) < 16 by omega), cond_false, e4, Int.fdiv_eq_ediv_of_nonneg _ (by decide), show (n : Int) / 16 = ((n / 16 : Nat) : Int) by omega, ih (n / 16) hq (by omega), Option.bind_some]
      unfold chk
      rw [Nat.ble_eq_true_of_le (by unfold maxLen; show _ + 1 ≤ _; omega), cond_true, hexI_step h16 h2]
theorem hex_eq {a b : Int} (ha : isB a) (hb : isB b) : F_wlvref15_hex (bits .or .i64 (IntKind.i64.wrap ((IntKind.i64.wrap a) * 2 ^ 8)) (IntKind.i64.wrap b)) = some (hexI (a * 256 + b).toNat) := by
  obtain ⟨a0, a1⟩ := ha
  obtain ⟨b0, b1⟩ := hb
  rw [or256 a0 a1 b0 b1]
  have := hex_fuel 63 (a * 256 + b).toNat (by have : (16 : Nat) ^ 64 = 115792089237316195423570985008687907853269984665640564039457584007913129639936 := by decide
                                              omega) (by omega)
  rw [Int.toNat_of_nonneg (by omega)] at this
  exact this
theorem dec_byte {x : Int} (hx : isB x) : F_wlvref_Dec (IntKind.i64.wrap x) = some (fD x) := by
  obtain ⟨h0, h1⟩ := hx
  rw [wrap_in (by omega) (by omega), Dec_eq x (by omega)]; rfl
theorem join_addc (c : Int) (H : List (List Int)) {i : Nat} (h : i < H.length) (h0 : 0 < i) : joinP (H.take (i + 1)) [c] = joinP (H.take i) [c] ++ c :: H[i] := by
  rw [take_snoc H h]
  cases hq : H.take i with
  | nil =>
    have : (H.take i).length = i := by rw [List.length_take]; omega
    rw [hq] at this; simp at this; omega
  | cons p r => exact join_snoc c _ p r
theorem join_first (c : Int) (H : List (List Int)) (h : 0 < H.length) : joinP (H.take 1) [c] = H[0] := by
  rw [take_snoc H h]
  exact joinP_one _ _
theorem join_take_len (c : Int) {H : List (List Int)} (h : ∀ q ∈ H, q.length ≤ 20) (i : Nat) (hl : H.length ≤ 16) : (joinP (H.take i) [c]).length ≤ 336 := by
  have := join_len c (H.take i) fun q hq => h q (List.mem_of_mem_take hq)
  rw [List.length_take] at this
  omega
theorem rdot_loop (s : List Int) (hl : s.length = 4) (hb : ∀ x ∈ s, isB x) : ∀ (k i : Nat), i + k = 4 → loopC (F_wlvref15_Print_L6 s) (joinP ((s.map fD).take i) [46], (i : Int)) = some (.inr (joinP (s.map fD) [46]))
  | 0, i, h => by
    refine loop_inl ?_
    unfold F_wlvref15_Print_L6
    dsimp only
    rw [decide_eq_false (show ¬ (i : Int) < 4 by omega), cond_false, List.take_of_length_le (by rw [List.length_map]; omega)]
  | k + 1, i, h => by
    have hi : i < s.length := by omega
    have hH : i < (s.map fD).length := by rw [List.length_map]; exact hi
    have hat : (s.map fD)[i] = fD (s.getD i 0) := by
      rw [List.getElem_map, List.getD_eq_getElem?_getD, List.getElem?_eq_getElem hi]; rfl
    have hfl := fD_len (hb _ (getD_mem hi))
    have hjl := join_take_len 46 (decs_len hb) i (by rw [List.length_map]; omega)
    refine loop_inr (s' := (joinP ((s.map fD).take (i + 1)) [46], ((i + 1 : Nat) : Int))) ?_ (rdot_loop s hl hb k (i + 1) (by omega))
    unfold F_wlvref15_Print_L6 chk
    dsimp only
    rw [decide_eq_true (show (i : Int) < 4 by omega), cond_true, getI_getD hi]
    simp only [Option.bind_some]
    rw [dec_byte (hb _ (getD_mem hi))]
    simp only [Option.bind_some]
    have hm : maxLen = 9223372036854775807 := rfl
    by_cases h0 : 0 < i
    · rw [decide_eq_true (show (i : Int) > 0 by omega), cond_true, Nat.ble_eq_true_of_le (by show _ + 1 ≤ _; omega), cond_true, Nat.ble_eq_true_of_le (by rw [List.length_append]; show _ + 1 + _ ≤ _; omega), cond_true, wrap_in (by omega) (by omega), join_addc 46 _ hH h0, hat, List.append_assoc]
      rfl
    · have : i = 0 := by omega
      subst this
      rw [decide_eq_false (show ¬ ((0 : Nat) : Int) > 0 by omega), cond_false, Nat.ble_eq_true_of_le (by omega), cond_true, join_first 46 _ hH, hat]
      rfl
theorem rcol_loop (s : List Int) (hl : s.length = 16) (hb : ∀ x ∈ s, isB x) : ∀ (k i : Nat), i + k = 8 → loopC (F_wlvref15_Print_L14 s) (joinP (((pairsN s).map hexI).take i) [58], ((2 * i : Nat) : Int)) = some (.inr (joinP ((pairsN s).map hexI) [58]))
  | 0, i, h => by
    refine loop_inl ?_
    unfold F_wlvref15_Print_L14
    dsimp only
    rw [decide_eq_false (show ¬ ((2 * i : Nat) : Int) < 16 by omega), cond_false, List.take_of_length_le (by rw [List.length_map, pairs_len]; omega)]
  | k + 1, i, h => by
    have h1 : 2 * i < s.length := by omega
    have h2 : 2 * i + 1 < s.length := by omega
    have hpl := pairs_len s
    have hH : i < ((pairsN s).map hexI).length := by rw [List.length_map]; omega
    have hat : ((pairsN s).map hexI)[i] = hexI (s.getD (2 * i) 0 * 256 + s.getD (2 * i + 1) 0).toNat := by
      rw [List.getElem_map]
      congr 1
      have e : pairsN s = pairsN (s.take (2 * (i + 1))) ++ pairsN (s.drop (2 * (i + 1))) := by
        have key : ∀ (n : Nat) (s : List Int), pairsN s = pairsN (s.take (2 * n)) ++ pairsN (s.drop (2 * n)) := fun n => by
          induction n with
          | zero => intro s; rfl
          | succ n ih =>
            intro s
            match s with
            | [] => simp [pairsN]
            | [_] => simp [pairsN, show 2 * (n + 1) = 2 * n + 1 + 1 by omega]
            | x :: y :: s =>
              rw [show 2 * (n + 1) = 2 * n + 1 + 1 by omega]
              show (x * 256 + y).toNat :: pairsN s = (x * 256 + y).toNat :: (pairsN (s.take (2 * n)) ++ pairsN (s.drop (2 * n)))
              rw [← ih]
        exact key _ _
      have hl2 : (pairsN (s.take (2 * i))).length = i := by rw [pairs_len, List.length_take]; omega
      have : (pairsN s)[i]? = some (s.getD (2 * i) 0 * 256 + s.getD (2 * i + 1) 0).toNat := by
        rw [e, pairs_take h2, List.append_assoc, List.getElem?_append_right (by omega), hl2, Nat.sub_self]; rfl
      rw [List.getElem?_eq_getElem (by omega)] at this
      injection this
    have hfl := hexs_len hb _ (List.getElem_mem hH)
    rw [hat] at hfl
    have hjl := join_take_len 58 (hexs_len hb) i (by rw [List.length_map]; omega)
    refine loop_inr (s' := (joinP (((pairsN s).map hexI).take (i + 1)) [58], ((2 * (i + 1) : Nat) : Int))) ?_ (rcol_loop s hl hb k (i + 1) (by omega))
    unfold F_wlvref15_Print_L14 chk
    dsimp only
    rw [decide_eq_true (show ((2 * i : Nat) : Int) < 16 by omega), cond_true, getI_getD h1, wrap_in (x := ((2 * i : Nat) : Int) + 1) (by omega) (by omega), show ((2 * i : Nat) : Int) + 1 = ((2 * i + 1 : Nat) : Int) by omega, getI_getD h2]
    simp only [Option.bind_some]
    rw [hex_eq (hb _ (getD_mem h1)) (hb _ (getD_mem h2))]
    simp only [Option.bind_some]
    have hm : maxLen = 9223372036854775807 := rfl
    rw [wrap_in (x := ((2 * i : Nat) : Int) + 2) (by omega) (by omega), show ((2 * i : Nat) : Int) + 2 = ((2 * (i + 1) : Nat) : Int) by omega]
    by_cases h0 : 0 < i
    · rw [decide_eq_true (show ((2 * i : Nat) : Int) > 0 by omega), cond_true, Nat.ble_eq_true_of_le (by show _ + 1 ≤ _; omega), cond_true, Nat.ble_eq_true_of_le (by rw [List.length_append]; show _ + 1 + _ ≤ _; omega), cond_true, join_addc 58 _ hH h0, hat, List.append_assoc]
      rfl
    · have : i = 0 := by omega
      subst this
      rw [decide_eq_false (show ¬ ((2 * 0 : Nat) : Int) > 0 by omega), cond_false, Nat.ble_eq_true_of_le (by omega), cond_true, join_first 58 _ hH, hat]
      rfl
theorem refPrint_eq (s : List Int) (hb : ∀ x ∈ s, isB x) : F_wlvref15_Print s = some (printR s) := by
  unfold F_wlvref15_Print
  by_cases h4 : s.length = 4
  · have e : printR s = joinP (s.map fD) [46] := by unfold printR; rw [h4]; rfl
    rw [e]
    have := rdot_loop s h4 hb 4 0 rfl
    rw [beq_iff_eq.2 (show (s.length : Int) = 4 by omega), cond_true]
    exact (join_inr this).trans rfl
  · rw [beq_eq_false_iff_ne.2 (show ¬ (s.length : Int) = 4 by omega), cond_false]
    by_cases h16 : s.length = 16
    · have e : printR s = joinP ((pairsN s).map hexI) [58] := by unfold printR; rw [h16]; rfl
      rw [e]
      have := rcol_loop s h16 hb 8 0 rfl
      rw [beq_iff_eq.2 (show (s.length : Int) = 16 by omega), cond_true]
      exact (join_inr this).trans rfl
    · have e : printR s = [] := by unfold printR; rw [beq_eq_false_iff_ne.2 h4, beq_eq_false_iff_ne.2 h16]; rfl
      rw [e, beq_eq_false_iff_ne.2 (show ¬ (s.length : Int) = 16 by omega)]; rfl
/-! ### nets -/
theorem itoa_int {b : Int} (h : 0 ≤ b) : F_strconv_Itoa b = some (dgs b.toNat) := by
  unfold F_strconv_Itoa
  obtain ⟨n, rfl⟩ := Int.eq_ofNat_of_zero_le h
  rw [itoa_dgs, Int.toNat_natCast]
theorem dgs_20 {b : Int} (h0 : 0 ≤ b) (h : b ≤ 9223372036854775807) : (dgs b.toNat).length ≤ 20 := by
  exact Nat.le_trans (dgs_len 19 b.toNat (by have : (10 : Nat) ^ 20 = 100000000000000000000 := by decide
                                             omega)) (by omega)
def printN (s : List Int) (b : Int) : List Int := printR s ++ 47 :: dgs b.toNat
theorem PrintNet_eq (s : List Int) (b : Int) (hb : ∀ x ∈ s, isB x) (h0 : 0 ≤ b) (h : b ≤ 9223372036854775807) : F_addr_PrintNet s b = some (printN s b) := by
  have hl := print_len hb
  have hd := dgs_20 h0 h
  have hm : maxLen = 9223372036854775807 := rfl
  unfold F_addr_PrintNet chk
  rw [Print_eq s hb, Option.bind_some, itoa_int h0, Nat.ble_eq_true_of_le (by show _ + 1 ≤ _; omega), cond_true, Option.bind_some, Nat.ble_eq_true_of_le (by rw [List.length_append]; show _ + 1 + _ ≤ _; omega), cond_true, List.append_assoc]
  rfl
theorem refPrintNet_eq (s : List Int) (b : Int) (hb : ∀ x ∈ s, isB x) (h0 : 0 ≤ b) (h : b ≤ 9223372036854775807) : F_wlvref15_PrintNet s b = some (printN s b) := by
  have hl := print_len hb
  have hd := dgs_20 h0 h
  have hm : maxLen = 9223372036854775807 := rfl
  unfold F_wlvref15_PrintNet chk
  rw [refPrint_eq s hb, Option.bind_some, Dec_eq b h, Nat.ble_eq_true_of_le (by show _ + 1 ≤ _; omega), cond_true, Option.bind_some, Nat.ble_eq_true_of_le (by rw [List.length_append]; show _ + 1 + _ ≤ _; omega), cond_true, List.append_assoc]
  rfl
end Go.Proofs.YtblngdnndkljoaaDoor

/- HostBack: the plain part. -/
namespace Go.Proofs.YtblngdnndkljoaaDoor
open Pv
set_option linter.unusedVariables false
theorem print_ne {ip : List Int} (hb : ∀ y ∈ ip, isB y) (h : ip.length = 4 ∨ ip.length = 16) : printR ip ≠ [] := fun e => by
  rcases h with h | h
  · have h4 := print4_head h hb
    rw [e] at h4
    have h4 : (([] : List Int), false) = (ip, true) := h4
    cases h4
  · have h58 : (58 : Int) ∈ printR ip := by
      have e2 : printR ip = joinP ((pairsN ip).map hexI) [58] := by unfold printR; rw [h]; rfl
      rw [e2]; exact print16_58 h
    rw [e] at h58; cases h58
def ipOk (ip : List Int) : Prop := (∀ y ∈ ip, isB y) ∧ (ip = [] ∨ ip.length = 4 ∨ ip.length = 16)
theorem HostPrint_eq {name ip : List Int} {p : Int} (h : ipOk ip) (hn : name.length ≤ 253) (h0 : 0 ≤ p) (h1 : p ≤ 65535) : F_host_Print name ip p = some (bodyR name ip ++ 58 :: dgs p.toNat) := by
  obtain ⟨hb, hl⟩ := h
  have hpl := print_len hb
  have hd := dgs_20 h0 (by omega)
  have hm : maxLen = 9223372036854775807 := rfl
  unfold F_host_Print chk
  rw [Print_eq ip hb, Option.bind_some, itoa_int h0]
  rcases hl with rfl | hl
  · have e : printR [] = [] := rfl
    rw [e, beq_self_eq_true, cond_true, Nat.ble_eq_true_of_le (by show _ + 1 ≤ _; omega), cond_true, Option.bind_some, Nat.ble_eq_true_of_le (by rw [List.length_append]; show _ + 1 + _ ≤ _; omega), cond_true, List.append_assoc]
    rfl
  · rw [beq_eq_false_iff_ne.2 (print_ne hb hl), cond_false]
    rcases hl with hl | hl
    · have eb : bodyR name ip = printR ip := by unfold bodyR; rw [hl]; rfl
      rw [decide_eq_false (show ¬ (ip.length : Int) > 4 by omega), cond_false, Nat.ble_eq_true_of_le (by show _ + 1 ≤ _; omega), cond_true, Option.bind_some, Nat.ble_eq_true_of_le (by rw [List.length_append]; show _ + 1 + _ ≤ _; omega), cond_true, List.append_assoc, eb]
      rfl
    · have eb : bodyR name ip = 91 :: (printR ip ++ [93]) := by unfold bodyR; rw [hl]; rfl
      rw [decide_eq_true (show (ip.length : Int) > 4 by omega), cond_true, Nat.ble_eq_true_of_le (by show 1 + _ ≤ _; omega), cond_true, Nat.ble_eq_true_of_le (by rw [List.length_append]; show 1 + _ + 1 ≤ _; omega), cond_true, Nat.ble_eq_true_of_le (by rw [List.length_append, List.length_append]; show 1 + _ + 1 + 1 ≤ _; omega), cond_true, Option.bind_some, Nat.ble_eq_true_of_le (by rw [List.length_append, List.length_append, List.length_append]; show 1 + _ + 1 + 1 + _ ≤ _; omega), cond_true, eb]
      simp
theorem refHost_eq {name ip : List Int} {p : Int} (h : ipOk ip) (hn : name.length ≤ 253) (h0 : 0 ≤ p) (h1 : p ≤ 65535) : F_wlvref15_PrintHost name ip p = some (bodyR name ip ++ 58 :: dgs p.toNat) := by
  obtain ⟨hb, hl⟩ := h
  have hpl := print_len hb
  have hd := dgs_20 h0 (by omega)
  have hm : maxLen = 9223372036854775807 := rfl
  unfold F_wlvref15_PrintHost chk
  rw [refPrint_eq ip hb, Option.bind_some, Dec_eq p (by omega)]
  rcases hl with rfl | hl
  · rw [show (((([] : List Int).length : Nat) : Int) == 4) = false from rfl, cond_false, show (((([] : List Int).length : Nat) : Int) == 16) = false from rfl, cond_false, Nat.ble_eq_true_of_le (by show _ + 1 ≤ _; omega), cond_true, Option.bind_some, Nat.ble_eq_true_of_le (by rw [List.length_append]; show _ + 1 + _ ≤ _; omega), cond_true, List.append_assoc]
    rfl
  · rcases hl with hl | hl
    · have eb : bodyR name ip = printR ip := by unfold bodyR; rw [hl]; rfl
      rw [beq_iff_eq.2 (show (ip.length : Int) = 4 by omega), cond_true, beq_eq_false_iff_ne.2 (show ¬ (ip.length : Int) = 16 by omega), cond_false, Nat.ble_eq_true_of_le (by show _ + 1 ≤ _; omega), cond_true, Option.bind_some, Nat.ble_eq_true_of_le (by rw [List.length_append]; show _ + 1 + _ ≤ _; omega), cond_true, List.append_assoc, eb]
      rfl
    · have eb : bodyR name ip = 91 :: (printR ip ++ [93]) := by unfold bodyR; rw [hl]; rfl
      rw [beq_eq_false_iff_ne.2 (show ¬ (ip.length : Int) = 4 by omega), cond_false, beq_iff_eq.2 (show (ip.length : Int) = 16 by omega), cond_true, Option.bind_some, Nat.ble_eq_true_of_le (by show 1 + _ ≤ _; omega), cond_true, Nat.ble_eq_true_of_le (by rw [List.length_append]; show 1 + _ + 1 ≤ _; omega), cond_true, Nat.ble_eq_true_of_le (by rw [List.length_append, List.length_append]; show 1 + _ + 1 + 1 ≤ _; omega), cond_true, Option.bind_some, Nat.ble_eq_true_of_le (by rw [List.length_append, List.length_append, List.length_append]; show 1 + _ + 1 + 1 + _ ≤ _; omega), cond_true, eb]
      simp
theorem low_loop (name ip : List Int) (hn : name.length ≤ 253) (hc : ∀ c ∈ name, c = 45 ∨ c = 46 ∨ c = 95 ∨ (48 ≤ c ∧ c ≤ 57) ∨ (97 ≤ c ∧ c ≤ 122)) : ∀ k i : Nat, i + k = name.length → loopC F_wlvlaw16_HostBack_L17 ((i : Int), name, ip) = some (.inr (name, ip))
  | 0, i, h => by
    refine loop_inl ?_
    unfold F_wlvlaw16_HostBack_L17
    dsimp only
    rw [decide_eq_false (show ¬ (i : Int) < (name.length : Int) by omega), cond_false]
  | k + 1, i, h => by
    have hi : i < name.length := by omega
    refine loop_inr (s' := (((i + 1 : Nat) : Int), name, ip)) ?_ (low_loop name ip hn hc k (i + 1) (by omega))
    unfold F_wlvlaw16_HostBack_L17
    dsimp only
    have := hc _ (getD_mem hi)
    rw [decide_eq_true (show (i : Int) < (name.length : Int) by omega), cond_true, getI_getD hi]
    generalize name.getD i 0 = c at this ⊢
    simp only [Option.bind_some]
    rw [wrap_in (by omega) (by omega), beq_eq_false_iff_ne.2 (show c ≠ 58 by omega), beq_eq_false_iff_ne.2 (show c ≠ 64 by omega)]
    by_cases h65 : c ≥ 65
    · rw [decide_eq_true h65, cond_true, decide_eq_false (show ¬ c ≤ 90 by omega)]; rfl
    · rw [decide_eq_false h65]; rfl
theorem HostBack_true (s : List Int) : F_wlvlaw16_HostBack s = some true := by
  unfold F_wlvlaw16_HostBack
  rw [first16, Option.bind_some, Bool.not_true, cond_false]
  by_cases h1 : (s.length : Int) > 1000
  · rw [decide_eq_true h1]; rfl
  rw [decide_eq_false h1, cond_false]
  have hbad : ∀ {x : Option Bool} {f : (List Int × List Int × Int × Int) → Option Bool}, F_host_Authority s = some ([], [], 0, 2) → ((F_host_Authority s).bind fun x4 => cond (x4.2.2.2 != 0) ((some true).bind fun b5 => cond b5 (some (((eqL x4.1 ([] : List Int)) && ((eqL x4.2.1 ([] : List Int)) && true)) && (x4.2.2.1 == 0))) (some false)) (f x4)) = some true := fun {x f} e => by
    rw [e]; rfl
  rcases last_cut s with h58 | ⟨h, t, rfl, ht⟩
  · exact hbad (x := none) (Auth_none s (by omega) h58)
  · have hlen : ((h ++ [58]) ++ t).length = h.length + 1 + t.length := by rw [List.length_append, List.length_append]; rfl
    have ha := Auth_at h t (placeR h) (by omega) (by omega) ht (place_eq h (by omega))
    cases hc : ((placeR h).2.2 && canonB t && decide (1 ≤ valI t) && decide (valI t ≤ 65535)) with
    | false =>
      rw [hc] at ha
      exact hbad (x := none) ha
    | true =>
      rw [hc, cond_true] at ha
      simp only [Bool.and_eq_true, decide_eq_true_eq] at hc
      obtain ⟨⟨⟨c1, c2⟩, c3⟩, c4⟩ := hc
      obtain ⟨p1, p2, p3, p4, p5⟩ := place_back c1
      have hxy : (placeR h).2.2 = true := c1
      generalize hx : placeR h = x at *
      obtain ⟨name, ip, ok⟩ := x
      have hxy : ok = true := hxy
      subst hxy
      generalize valI t = p at *
      have hip : ipOk ip := by
        refine ⟨p3, ?_⟩
        rcases p2 with ⟨_, h | h⟩ | ⟨_, h⟩
        · exact .inr (.inl h)
        · exact .inr (.inr h)
        · exact .inl h
      have p4 : name.length ≤ 253 := p4
      have hpl := print_len p3
      have hd := dgs_20 (b := p) (by omega) (by omega)
      have hbl : (bodyR name ip).length ≤ 1000 := by
        unfold bodyR
        cases ip.length == 4 with
        | true => rw [cond_true]; have : (printR ip).length ≤ 168 := hpl; omega
        | false =>
          rw [cond_false]
          cases ip.length == 16 with
          | true => rw [cond_true, List.length_cons, List.length_append]; have : (printR ip).length ≤ 168 := hpl; show _ + 1 + 1 ≤ _; omega
          | false => rw [cond_false]; omega
      have hback := Auth_at (bodyR name ip) (dgs p.toNat) (name, ip, true) (by omega) (by omega) (dgs_no58 _) ((place_eq _ (by omega)).trans (congrArg some p1))
      rw [canon_dgs, dgs_val (by omega), decide_eq_true c3, decide_eq_true c4] at hback
      have hback : F_host_Authority ((bodyR name ip ++ [58]) ++ dgs p.toNat) = some (name, ip, p, 0) := hback
      rw [show (bodyR name ip ++ [58]) ++ dgs p.toNat = bodyR name ip ++ 58 :: dgs p.toNat by simp] at hback
      have hpr := HostPrint_eq (name := name) hip p4 (show 0 ≤ p by omega) c4
      have hrf := refHost_eq (name := name) hip p4 (show 0 ≤ p by omega) c4
      rw [ha, Option.bind_some]
      dsimp only
      rw [bne_self_eq_false, cond_false, hpr, Option.bind_some, hback, Option.bind_some]
      dsimp only
      rw [bne_self_eq_false, cond_false, show eqL name name = true from beq_self_eq_true _, show eqL ip ip = true from beq_self_eq_true _, bne_self_eq_false, decide_eq_false (show ¬ p < 1 by omega), decide_eq_false (show ¬ p > 65535 by omega)]
      have hlo := low_loop name ip p4 p5 name.length 0 (by omega)
      have e0 : ((0 : Nat) : Int) = 0 := rfl
      rw [e0] at hlo
      rw [join_inr hlo]
      unfold F_wlvlaw16_HostBack_J15
      dsimp only
      rw [first16, Option.bind_some, cond_true, hpr, Option.bind_some, hrf, Option.bind_some, beq_self_eq_true]
      have hbe : bEq (name == ([] : List Int)) (ip == ([] : List Int)) = false := by
        rcases p2 with ⟨h1, h2⟩ | ⟨h1, h2⟩
        · have h1 : name = [] := h1
          have h2 : ip.length = 4 ∨ ip.length = 16 := h2
          rw [h1, beq_eq_false_iff_ne.2 (show ip ≠ [] from fun e => by rw [e] at h2; simp at h2)]; rfl
        · have h1 : name ≠ [] := h1
          have h2 : ip = [] := h2
          rw [h2, beq_eq_false_iff_ne.2 h1]; rfl
      rw [hbe]
      rcases hip.2 with rfl | h | h
      · rfl
      · rw [h]; rfl
      · rw [h]; rfl
end Go.Proofs.YtblngdnndkljoaaDoor
