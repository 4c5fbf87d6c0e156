/- Texts in parts and numbers, of the program and of the reference, in plain words. -/
import Derived.Test.YtblngdnndkljoaaDoorQHost
import Derived.Test.YtblngdnndkljoaaDoorQNum
import Derived.Test.YtblngdnndkljoaaDoorQb
namespace Go.Proofs.YtblngdnndkljoaaDoor
open Pv
set_option linter.unusedVariables false
theorem cutI_nat {α : Type} {s : List α} {a b : Nat} (h1 : a ≤ b) (h2 : b ≤ s.length) : cutI s (a : Int) (b : Int) = some ((s.take b).drop a) := by
  unfold cutI
  rw [decide_eq_true (show (0 : Int) ≤ (a : Int) by omega), decide_eq_true (show (a : Int) ≤ (b : Int) by omega), decide_eq_true (show (b : Int) ≤ (s.length : Int) by omega)]
  rfl
theorem getI_nat {α : Type} {s : List α} {i : Nat} {x : α} (h : s[i]? = some x) : getI s (i : Int) = some x := by
  unfold getI
  rw [decide_eq_true (by omega), cond_true, Int.toNat_natCast, h]
theorem chk16 {a b : Nat} (h : a + b ≤ 10000000) : (decide ((a + b) * 16 ≤ 140737488355328) && decide (a + b ≤ maxLen)) = true := by
  rw [decide_eq_true (by omega), decide_eq_true (by have : maxLen = 9223372036854775807 := rfl; omega)]; rfl
theorem chk1 {a b : Nat} (h : a + b ≤ 10000000) : (decide ((a + b) * 1 ≤ 140737488355328) && decide (a + b ≤ maxLen)) = true := by
  rw [decide_eq_true (by omega), decide_eq_true (by have : maxLen = 9223372036854775807 := rfl; omega)]; rfl
/-! ### parts -/
theorem Split_eq (s : List Int) (c : Int) (hs : s.length ≤ 1000000) : F_wlvref_Split s c = some (splitI s c) := by
  obtain ⟨r, h1, h2⟩ := loop_inv (body := F_wlvref_Split_L5 s c)
    (I := fun st => ∃ (l : List (List Int)) (f i : Nat), st = (l, (f : Int), (i : Int)) ∧ ((i ≤ s.length ∧ f ≤ i ∧ l.length ≤ i ∧ (∀ x ∈ (s.take i).drop f, x ≠ c) ∧ splitI s c = l ++ splitI (s.drop f) c) ∨ (i = s.length + 1 ∧ l = splitI s c)))
    (m := fun st => s.length + 1 - st.2.2.toNat) (Q := fun q => q = .inr (splitI s c)) (fun st ⟨l, f, i, e, h⟩ => by
    subst e
    unfold F_wlvref_Split_L5
    dsimp only
    rcases h with ⟨h1, h2, h3, h4, h5⟩ | ⟨h1, h2⟩
    · rw [decide_eq_true (show (i : Int) ≤ (s.length : Int) by omega), cond_true]
      have hw : IntKind.i64.wrap ((i : Int) + 1) = ((i + 1 : Nat) : Int) := by rw [wrap_in (by omega) (by omega)]; omega
      have hcut := cutI_nat (s := s) h2 h1
      unfold chk
      rw [hw]
      by_cases hl : i = s.length
      · rw [show ((i : Int) == (s.length : Int)) = true from beq_iff_eq.2 (by omega), cond_true, hcut, Option.bind_some, chk16 (by show l.length + 1 ≤ _; omega), cond_true]
        refine .inr ⟨_, rfl, ⟨_, i + 1, i + 1, rfl, .inr ⟨by omega, ?_⟩⟩, ?_⟩
        · rw [List.take_of_length_le (by omega)] at h4 ⊢
          rw [h5, splitI_miss h4]
        · show s.length + 1 - ((i + 1 : Nat) : Int).toNat < s.length + 1 - (i : Int).toNat
          omega
      · have hlt : i < s.length := by omega
        rw [show ((i : Int) == (s.length : Int)) = false from beq_eq_false_iff_ne.2 (by omega), cond_false, getI_nat (List.getElem?_eq_getElem hlt), Option.bind_some]
        have hm : s.length + 1 - ((i + 1 : Nat) : Int).toNat < s.length + 1 - (i : Int).toNat := by omega
        have hsp : s.drop f = (s.take i).drop f ++ s[i] :: s.drop (i + 1) := by
          have e1 : s = s.take i ++ s[i] :: s.drop (i + 1) := by rw [List.getElem_cons_drop, List.take_append_drop]
          conv => lhs; rw [e1]
          rw [List.drop_append_of_le_length (by rw [List.length_take]; omega)]
        by_cases hc : s[i] = c
        · rw [show (s[i] == c) = true from beq_iff_eq.2 hc, cond_true, hcut, Option.bind_some, chk16 (by show l.length + 1 ≤ _; omega), cond_true]
          refine .inr ⟨_, rfl, ⟨_, i + 1, i + 1, rfl, .inl ⟨by omega, by omega, by simp; omega, ?_, ?_⟩⟩, hm⟩
          · rw [List.drop_of_length_le (by rw [List.length_take]; omega)]
            intro x hx; cases hx
          · rw [h5, hsp, hc, splitI_hit h4, List.append_assoc]; rfl
        · rw [show (s[i] == c) = false from beq_eq_false_iff_ne.2 hc, cond_false]
          refine .inr ⟨_, rfl, ⟨l, f, i + 1, rfl, .inl ⟨by omega, by omega, by omega, ?_, h5⟩⟩, hm⟩
          intro x hx
          rw [List.take_add_one, List.getElem?_eq_getElem hlt, List.drop_append_of_le_length (by rw [List.length_take]; omega)] at hx
          rcases List.mem_append.1 hx with hx | hx
          · exact h4 x hx
          · have : x = s[i] := by simpa using hx
            rw [this]; exact hc
    · rw [decide_eq_false (by omega), cond_false]
      exact .inl ⟨_, rfl, by rw [h2]⟩) (([] : List (List Int)), 0, 0) ⟨[], 0, 0, rfl, .inl ⟨by omega, by omega, by simp, by simp, rfl⟩⟩
  subst h2
  unfold F_wlvref_Split
  rw [h1]
  rfl
theorem SplitL_eq (s : List Int) (c : Int) (hs : s.length ≤ 1000000) : F_strings_Split s [c] = some (splitI s c) := by
  show cond (Nat.ble s.length 4000000000) (some (splitI s c)) none = _
  rw [Nat.ble_eq_true_of_le (by omega)]; rfl
/-! ### numbers -/
theorem decimal_eq (s : List Int) (most : Int) (hs : s.length ≤ 1000000) (hm : most ≤ 9223372036854775807) :
    ∃ x, F_addr_decimal s most = some (x, canonB s && decide (valI s ≤ most)) ∧ (canonB s = true → valI s ≤ most → x = valI s) := by
  obtain ⟨k1, k2⟩ := decimal_law s most hm
  unfold F_addr_decimal
  have ha : F_strconv_Atoi s = some (atoiP s) := by
    unfold F_strconv_Atoi
    rw [Nat.ble_eq_true_of_le (by omega)]; rfl
  rw [ha, Option.bind_some]
  refine ⟨(atoiP s).1, ?_, fun h1 h2 => (k1 ⟨h1, h2⟩).2.1⟩
  cases hc : (canonB s && decide (valI s ≤ most)) with
  | true =>
    rw [Bool.and_eq_true, decide_eq_true_iff] at hc
    obtain ⟨q1, q2, q3⟩ := k1 hc
    have hp := valI_nn _ s rfl (by have := hc.1; unfold canonB at this; exact (Bool.and_eq_true _ _ ▸ this).1)
    rw [q1, q2, decide_eq_true (show valI s ≥ 0 from hp), decide_eq_true hc.2]
    rw [show (notB false && true && true) = true from rfl, cond_true]
    unfold F_strconv_Itoa
    rw [Option.bind_some, q3, beq_self_eq_true]
  | false =>
    cases hq : (notB (atoiP s).2 && decide ((atoiP s).1 ≥ 0)) && decide ((atoiP s).1 ≤ most) with
    | false => rfl
    | true =>
      rw [cond_true]
      unfold F_strconv_Itoa
      rw [Option.bind_some]
      have hq' := hq
      rw [Bool.and_eq_true, Bool.and_eq_true, decide_eq_true_iff, decide_eq_true_iff] at hq'
      cases he : itoaI (atoiP s).1 == s with
      | false => rfl
      | true =>
        exfalso
        obtain ⟨r1, r2⟩ := k2 (by
          have := hq'.1.1
          cases hb : (atoiP s).2 with
          | false => rfl
          | true => rw [hb] at this; cases this) hq'.1.2 hq'.2 (beq_iff_eq.1 he)
        rw [r1, r2, decide_eq_true hq'.2] at hc
        cases hc
theorem val_lt : ∀ (k : Nat) (s : List Int), s.length = k → s.all isDig = true → valI s < 10 ^ k := fun k => by
  induction k with
  | zero => intro s h _; rw [List.length_eq_zero_iff.1 h]; decide
  | succ k ih =>
    intro s h hd
    rcases List.eq_nil_or_concat s with rfl | ⟨s', c, rfl⟩
    · simp at h
    · rw [List.concat_eq_append] at h hd ⊢
      rw [List.all_append, Bool.and_eq_true] at hd
      have hc := dig_of (c := c) (by simpa using hd.2)
      have := ih s' (by simp at h; omega) hd.1
      rw [valI_snoc, Int.pow_succ]
      omega
theorem u8_in {x : Int} (h0 : 0 ≤ x) (h1 : x ≤ 255) : IntKind.u8.wrap x = x := by
  show (if (false && decide (x % 256 ≥ 128)) = true then x % 256 - 256 else x % 256) = x
  simp
  omega
theorem Num_loop (s : List Int) (h17 : s.length ≤ 17) : loopC (F_wlvref_Num_L7 s) (0, 0) = some (cond (s.all isDig) (.inr (valI s)) (.inl (0, false))) := by
  obtain ⟨r, h1, h2⟩ := loop_inv (body := F_wlvref_Num_L7 s) (I := fun st => ∃ i : Nat, i ≤ s.length ∧ (s.take i).all isDig = true ∧ st = (valI (s.take i), (i : Int))) (m := fun st => s.length - st.2.toNat) (Q := fun q => q = cond (s.all isDig) (.inr (valI s)) (.inl (0, false))) (fun st ⟨i, hi, hd, e⟩ => by
    subst e
    unfold F_wlvref_Num_L7
    dsimp only
    by_cases hl : i < s.length
    · have hg := getI_nat (List.getElem?_eq_getElem hl)
      rw [decide_eq_true (by omega), cond_true, hg, Option.bind_some]
      have hall : isDig s[i] = false → s.all isDig = false := fun h => by
        rw [List.all_eq_false]
        exact ⟨s[i], List.getElem_mem hl, by rw [h]; decide⟩
      by_cases h48 : s[i] < 48
      · rw [decide_eq_true h48, cond_true, hall (by unfold isDig; rw [decide_eq_false (by omega)]; rfl)]
        exact .inl ⟨_, rfl, rfl⟩
      · rw [decide_eq_false h48, cond_false, Option.bind_some]
        by_cases h57 : s[i] > 57
        · rw [decide_eq_true h57, cond_true, hall (by unfold isDig; rw [decide_eq_false (show ¬ s[i] ≤ 57 by omega), Bool.and_false])]
          exact .inl ⟨_, rfl, rfl⟩
        · rw [decide_eq_false h57, cond_false, Option.bind_some]
          have hv0 := valI_nn _ (s.take i) rfl hd
          have hv1 := val_lt _ (s.take i) rfl hd
          have hv2 : (10 : Int) ^ (s.take i).length ≤ 10 ^ 17 := by
            rw [List.length_take]
            have : (10 : Nat) ^ (min i s.length) ≤ 10 ^ 17 := Nat.pow_le_pow_right (by omega) (by omega)
            exact_mod_cast this
          have hv3 : (10 : Int) ^ 17 = 100000000000000000 := by decide
          have ht : s.take (i + 1) = s.take i ++ [s[i]] := by rw [List.take_add_one, List.getElem?_eq_getElem hl]; rfl
          refine .inr ⟨_, rfl, ⟨i + 1, by omega, ?_, ?_⟩, ?_⟩
          · rw [ht, List.all_append, hd]
            simp [isDig]
            omega
          · rw [ht, valI_snoc, u8_in (by omega) (by omega), wrap_in (x := valI (s.take i) * 10) (by omega) (by omega), wrap_in (x := s[i] - 48) (by omega) (by omega), wrap_in (by omega) (by omega), wrap_in (by omega) (by omega)]
            rfl
          · show s.length - (IntKind.i64.wrap ((i : Int) + 1)).toNat < s.length - (i : Int).toNat
            rw [wrap_in (by omega) (by omega)]
            omega
    · rw [decide_eq_false (by omega), cond_false]
      rw [List.take_of_length_le (by omega)] at hd
      refine .inl ⟨_, rfl, ?_⟩
      rw [hd, cond_true, List.take_of_length_le (by omega)]) (0, 0) ⟨0, by omega, by simp, by simp [valI]⟩
  rw [h1, h2]
theorem Num_eq (s : List Int) (lo hi : Int) :
    ∃ x, F_wlvref_Num s lo hi = some (x, canonB s && decide (s.length ≤ 17) && (decide (lo ≤ valI s) && decide (valI s ≤ hi))) ∧ (canonB s = true → s.length ≤ 17 → x = valI s) := by
  unfold F_wlvref_Num
  match s with
  | [] => exact ⟨0, rfl, fun h => by cases h⟩
  | c :: r =>
    by_cases h17 : (c :: r).length ≤ 17
    · have : (decide (((c :: r).length : Int) < 1) || decide (((c :: r).length : Int) > 17)) = false := by simp at h17 ⊢; omega
      rw [this, cond_false, decide_eq_true h17, Bool.and_true]
      have key : joinC (S := Int) (R := Int × Bool) (loopC (S := Int × Int) (R := (Int × Bool) ⊕ (Int)) (F_wlvref_Num_L7 (c :: r)) (0, 0)) (F_wlvref_Num_J5 lo hi) = some (cond ((c :: r).all isDig) (valI (c :: r), decide (lo ≤ valI (c :: r)) && decide (valI (c :: r) ≤ hi)) (0, false)) := by
        rw [Num_loop _ h17]
        cases (c :: r).all isDig <;> rfl
      cases r with
      | nil =>
        rw [decide_eq_false (by simp), cond_false, key]
        have hcan : canonB [c] = [c].all isDig := by unfold canonB; rw [Bool.and_true]
        rw [hcan]
        cases hd : [c].all isDig with
        | true => exact ⟨_, rfl, fun _ _ => rfl⟩
        | false => exact ⟨_, rfl, fun h => by cases h⟩
      | cons d r =>
        have hcan : canonB (c :: d :: r) = ((c :: d :: r).all isDig && (c != 48)) := rfl
        rw [decide_eq_true (by simp; omega), cond_true, show getI (c :: d :: r) 0 = some c from rfl, Option.bind_some, key, hcan]
        by_cases h48 : c = 48
        · rw [beq_iff_eq.2 h48, cond_true, show (c != 48) = false by rw [h48]; rfl, Bool.and_false]
          exact ⟨_, rfl, fun h => by cases h⟩
        · rw [beq_eq_false_iff_ne.2 h48, cond_false, bne_iff_ne.2 h48, Bool.and_true]
          cases hd : (c :: d :: r).all isDig with
          | true => exact ⟨_, rfl, fun _ _ => rfl⟩
          | false => exact ⟨_, rfl, fun h => by cases h⟩
    · have : (decide (((c :: r).length : Int) < 1) || decide (((c :: r).length : Int) > 17)) = true := by simp at h17 ⊢; omega
      rw [this, cond_true, decide_eq_false h17, Bool.and_false]
      exact ⟨_, rfl, fun _ h => absurd h h17⟩
end Go.Proofs.YtblngdnndkljoaaDoor
