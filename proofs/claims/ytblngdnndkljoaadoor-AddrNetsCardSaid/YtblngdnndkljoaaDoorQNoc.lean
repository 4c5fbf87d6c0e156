/- Texts without a colon: the program's and the reference's addresses. -/
import Derived.Test.YtblngdnndkljoaaDoorQFour
import Derived.Test.YtblngdnndkljoaaDoorQHostn
namespace Go.Proofs.YtblngdnndkljoaaDoor
open Pv
set_option linter.unusedVariables false
theorem digit_ex (c : Int) : ∃ d, F_addr_digit c = some d := by
  unfold F_addr_digit
  repeat' (first | with_reducible exact some_ex _ | with_reducible apply cond_ex)
theorem prefix_lit (s p : List Int) (hs : s.length ≤ 1000000) : F_strings_HasPrefix s p = some (decide (p.length ≤ s.length) && (s.take p.length == p)) := by
  unfold F_strings_HasPrefix F_internal_stringslite_HasPrefix
  by_cases h : p.length ≤ s.length
  · rw [decide_eq_true (show (s.length : Int) ≥ (p.length : Int) by omega), cond_true, decide_eq_true h, Bool.true_and]
    have := cutI_nat (s := s) (a := 0) (b := p.length) (by omega) h
    rw [show cutI s 0 (p.length : Int) = some (s.take p.length) from this]
    rfl
  · rw [decide_eq_false (show ¬ (s.length : Int) ≥ (p.length : Int) by omega), cond_false, decide_eq_false h]
    rfl
theorem Plain_ex (s : List Int) (hs : s.length ≤ 1000000) : ∃ p, F_addr_Plain s = some p := by
  unfold F_addr_Plain F_strings_TrimPrefix F_internal_stringslite_TrimPrefix
  have hp := prefix_lit s [0, 0, 0, 0, 0, 0, 0, 0, 0, 0, 255, 255] hs
  unfold F_strings_HasPrefix at hp
  have hp2 : F_internal_stringslite_HasPrefix s [0, 0, 0, 0, 0, 0, 0, 0, 0, 0, 255, 255] = some (decide (([0, 0, 0, 0, 0, 0, 0, 0, 0, 0, 255, 255] : List Int).length ≤ s.length) && (s.take ([0, 0, 0, 0, 0, 0, 0, 0, 0, 0, 255, 255] : List Int).length == [0, 0, 0, 0, 0, 0, 0, 0, 0, 0, 255, 255])) := by
    cases hq : F_internal_stringslite_HasPrefix s [0, 0, 0, 0, 0, 0, 0, 0, 0, 0, 255, 255] with
    | none => rw [hq] at hp; cases hp
    | some b => rw [hq] at hp; exact hp
  rw [hp2, Option.bind_some]
  cases hb : (decide (([0, 0, 0, 0, 0, 0, 0, 0, 0, 0, 255, 255] : List Int).length ≤ s.length) && (s.take ([0, 0, 0, 0, 0, 0, 0, 0, 0, 0, 255, 255] : List Int).length == [0, 0, 0, 0, 0, 0, 0, 0, 0, 0, 255, 255])) with
  | false => exact ⟨_, rfl⟩
  | true =>
    rw [Bool.and_eq_true, decide_eq_true_iff] at hb
    have h12 : 12 ≤ s.length := hb.1
    rw [cond_true, show cutI s (([0, 0, 0, 0, 0, 0, 0, 0, 0, 0, 255, 255] : List Int).length : Int) (s.length : Int) = _ from cutI_nat (s := s) (a := 12) (b := s.length) h12 (by omega)]
    exact ⟨_, rfl⟩
theorem coloned_no (s : List Int) (hs : s.length ≤ 1000000) (h58 : ∀ c ∈ s, c ≠ 58) : ∃ b : List Int, F_addr_coloned s = some (b, false) ∧ b.length ≤ 2 := by
  have hpre : F_strings_HasPrefix s [58, 58] = some false := by
    rw [prefix_lit s _ hs]
    match s, h58 with
    | [], _ => rfl
    | [x], _ => rfl
    | x :: y :: r, h58 =>
      have : (x :: y :: r).take ([58, 58] : List Int).length = [x, y] := rfl
      rw [this, show ([x, y] == ([58, 58] : List Int)) = false from beq_eq_false_iff_ne.2 fun e => h58 x (by simp) (by injection e)]
      rw [Bool.and_false]
  have loop : ∀ (i : Nat) (n : Int) (k : Nat), i ≤ s.length → k ≤ 4 → ∃ r, loopC (F_addr_coloned_G1 s) (2, (([] : List Int), (-1), (i : Int), n, (k : Int))) = some r ∧ (r.2 = false ∧ r.1.length ≤ 2) := fun i n k hi hk =>
    loop_inv (body := F_addr_coloned_G1 s)
      (I := fun st => (∃ (i : Nat) (n : Int) (k : Nat), i ≤ s.length ∧ k ≤ 4 ∧ st = (2, (([] : List Int), (-1), (i : Int), n, (k : Int)))) ∨ ∃ (l : List Int) (x : Int × Int × Int), l.length = 2 ∧ st = (0, (l, (-1), x)))
      (m := fun st => cond (st.1 == 0) 0 (s.length + 1 - st.2.2.2.1.toNat)) (Q := fun r => r.2 = false ∧ r.1.length ≤ 2) (fun st h => by
        rcases h with ⟨i, n, k, hi, hk, rfl⟩ | ⟨l, x, hl, rfl⟩
        · show (∃ r, F_addr_coloned_G1_2 s (([] : List Int), (-1), (i : Int), n, (k : Int)) = _ ∧ _) ∨ ∃ s', F_addr_coloned_G1_2 s (([] : List Int), (-1), (i : Int), n, (k : Int)) = _ ∧ _
          unfold F_addr_coloned_G1_2 chk
          dsimp only
          have hck : ∀ a b : Int, (decide ((([] : List Int).length + ([a, b] : List Int).length) * 1 ≤ 140737488355328) && decide (([] : List Int).length + ([a, b] : List Int).length ≤ maxLen)) = true := fun a b => chk1 (by show 0 + 2 ≤ _; omega)
          by_cases hlt : i < s.length
          · obtain ⟨d, hd⟩ := digit_ex s[i]
            have hg := getI_nat (List.getElem?_eq_getElem hlt)
            rw [decide_eq_true (show (i : Int) < (s.length : Int) by omega), cond_true, hg, Option.bind_some, hd, Option.bind_some, Option.bind_some, hd, Option.bind_some]
            by_cases hdk : d ≥ 0 ∧ k < 4
            · rw [decide_eq_true hdk.1, decide_eq_true (show (k : Int) < 4 by omega)]
              rw [show (true && true) = true from rfl, cond_true, wrap_in (x := (i : Int) + 1) (by omega) (by omega), wrap_in (x := (k : Int) + 1) (by omega) (by omega)]
              refine .inr ⟨_, rfl, .inl ⟨i + 1, _, k + 1, by omega, by omega, rfl⟩, ?_⟩
              show s.length + 1 - ((i : Int) + 1).toNat < s.length + 1 - (i : Int).toNat
              omega
            · have : (decide (d ≥ 0) && decide ((k : Int) < 4)) = false := by
                simp
                omega
              rw [this, cond_false, hck, cond_true, show ((i : Int) == (s.length : Int)) = false from beq_eq_false_iff_ne.2 (by omega), cond_false, Option.bind_some]
              rw [show (s[i] != 58) = true from bne_iff_ne.2 (h58 _ (List.getElem_mem _)), Bool.true_or, cond_true]
              cases (k : Int) == 0
              · exact .inl ⟨_, rfl, rfl, by simp⟩
              · exact .inl ⟨_, rfl, rfl, by simp⟩
          · rw [decide_eq_false (show ¬ (i : Int) < (s.length : Int) by omega), cond_false, hck, cond_true, show ((i : Int) == (s.length : Int)) = true from beq_iff_eq.2 (by omega), cond_true]
            cases (k : Int) == 0
            · refine .inr ⟨_, rfl, .inr ⟨_, _, rfl, rfl⟩, ?_⟩
              show 0 < s.length + 1 - (i : Int).toNat
              omega
            · exact .inl ⟨_, rfl, rfl, by simp⟩
        · refine .inl ⟨(l, false), ?_, rfl, by show l.length ≤ 2; omega⟩
          show F_addr_coloned_G1_0 (l, (-1), x) = _
          unfold F_addr_coloned_G1_0
          dsimp only
          rw [show (decide ((-1 : Int) < 0)) = true from rfl, cond_true, show ((l.length : Int) == 16) = false from beq_eq_false_iff_ne.2 (by omega)]) _ (.inl ⟨i, n, k, hi, hk, rfl⟩)
  unfold F_addr_coloned
  rw [hpre, Option.bind_some, cond_false]
  cases s with
  | nil => exact ⟨[], rfl, by simp⟩
  | cons c r =>
    rw [decide_eq_true (show (0 : Int) < ((c :: r).length : Int) by rw [List.length_cons]; omega), cond_true, show getI (c :: r) 0 = some c from rfl, Option.bind_some]
    obtain ⟨d, hd⟩ := digit_ex c
    rw [hd, Option.bind_some, Option.bind_some, hd, Option.bind_some]
    by_cases h0 : d ≥ 0
    · rw [decide_eq_true h0]
      obtain ⟨x, h1, h2, h3⟩ := loop 1 (bits .or .i64 (IntKind.i64.wrap (0 * 2 ^ 4)) d) 1 (by simp) (by omega)
      refine ⟨x.1, ?_, h3⟩
      have : x = (x.1, false) := Prod.ext rfl h2
      rw [← this]
      exact h1
    · rw [decide_eq_false h0]
      exact ⟨[], rfl, by simp⟩
theorem group_ex (s : List Int) : ∃ r, F_wlvref15_group s = some r := by
  unfold F_wlvref15_group
  by_cases h : (s.length : Int) < 1 ∨ (s.length : Int) > 4
  · have : (decide ((s.length : Int) < 1) || decide ((s.length : Int) > 4)) = true := by simpa using h
    rw [this, cond_true]
    exact ⟨_, rfl⟩
  · have : (decide ((s.length : Int) < 1) || decide ((s.length : Int) > 4)) = false := by simp; omega
    rw [this, cond_false]
    obtain ⟨r, h1, _⟩ := loop_inv (body := F_wlvref15_group_L7 s) (I := fun st => ∃ i : Nat, i ≤ s.length ∧ st.2 = (i : Int)) (m := fun st => s.length - st.2.toNat) (Q := fun _ => True) (fun st ⟨i, hi, e⟩ => by
      unfold F_wlvref15_group_L7
      dsimp only
      rw [e]
      by_cases hlt : i < s.length
      · have hg := getI_nat (List.getElem?_eq_getElem hlt)
        rw [decide_eq_true (show (i : Int) < (s.length : Int) by omega), cond_true, hg, Option.bind_some, wrap_in (x := (i : Int) + 1) (by omega) (by omega)]
        have hm : s.length - ((i : Int) + 1).toNat < s.length - (i : Int).toNat := by omega
        cases (decide (s[i] ≥ 48) && decide (s[i] ≤ 57))
        · cases (decide (s[i] ≥ 97) && decide (s[i] ≤ 102))
          · cases (decide (s[i] ≥ 65) && decide (s[i] ≤ 70))
            · exact .inl ⟨_, rfl, trivial⟩
            · exact .inr ⟨_, rfl, ⟨i + 1, by omega, rfl⟩, hm⟩
          · exact .inr ⟨_, rfl, ⟨i + 1, by omega, rfl⟩, hm⟩
        · exact .inr ⟨_, rfl, ⟨i + 1, by omega, rfl⟩, hm⟩
      · rw [decide_eq_false (show ¬ (i : Int) < (s.length : Int) by omega), cond_false]
        exact .inl ⟨_, rfl, trivial⟩) (0, 0) ⟨0, by omega, rfl⟩
    rw [h1]
    cases r with
    | inl r => exact ⟨_, rfl⟩
    | inr r => exact ⟨_, rfl⟩
theorem eight_no (s : List Int) (hs : s.length ≤ 1000000) (h58 : ∀ c ∈ s, c ≠ 58) : ∃ b, F_wlvref15_eight s = some (b, false) := by
  obtain ⟨r, h1, h2⟩ := loop_inv (body := F_wlvref15_eight_L4 s) (I := fun st => ∃ i : Nat, i ≤ s.length ∧ st = ((-1 : Int), (i : Int))) (m := fun st => s.length - st.2.toNat) (Q := fun r => r = .inr (-1)) (fun st ⟨i, hi, e⟩ => by
    subst e
    unfold F_wlvref15_eight_L4
    dsimp only
    rw [wrap_in (x := (i : Int) + 1) (by omega) (by omega)]
    by_cases hlt : i + 1 < s.length
    · have hg := getI_nat (List.getElem?_eq_getElem (l := s) (i := i) (by omega))
      rw [decide_eq_true (show (i : Int) + 1 < (s.length : Int) by omega), cond_true, hg, Option.bind_some, beq_eq_false_iff_ne.2 (h58 _ (List.getElem_mem _)), cond_false]
      refine .inr ⟨_, rfl, ⟨i + 1, by omega, rfl⟩, ?_⟩
      show s.length - ((i : Int) + 1).toNat < s.length - (i : Int).toNat
      omega
    · rw [decide_eq_false (show ¬ (i : Int) + 1 < (s.length : Int) by omega), cond_false]
      exact .inl ⟨_, rfl, rfl⟩) ((-1), 0) ⟨0, by omega, rfl⟩
  subst h2
  unfold F_wlvref15_eight
  rw [h1]
  show ∃ b, F_wlvref15_eight_J2 s (-1) = some (b, false)
  unfold F_wlvref15_eight_J2
  dsimp only
  rw [show (decide ((-1 : Int) < 0)) = true from rfl, cond_true]
  have hgr : ∃ b ok, F_wlvref15_groups s = some (b, ok) ∧ b.length ≤ 2 := by
    unfold F_wlvref15_groups
    cases hse : s == ([] : List Int) with
    | true => exact ⟨_, _, rfl, by simp⟩
    | false =>
      rw [cond_false, Split_eq s 58 hs, splitI_miss h58, Option.bind_some]
      obtain ⟨⟨n, ok⟩, hg⟩ := group_ex s
      have hb1 : F_wlvref15_groups_L8 ([s], ([] : List Int), 0) = cond (!ok) (some (.inl (.inl ([], false)))) (some (.inr ([s], [IntKind.u8.wrap (Int.fdiv n (2 ^ 8)), IntKind.u8.wrap n], 1))) := by
        unfold F_wlvref15_groups_L8
        dsimp only
        rw [show (decide ((0 : Int) < (([s] : List (List Int)).length : Int)) && decide ((0 : Int) < 9)) = true from rfl, cond_true, show getI [s] 0 = some s from rfl, Option.bind_some, hg, Option.bind_some]
        cases ok <;> rfl
      cases ok with
      | false =>
        rw [loop_inl hb1]
        exact ⟨_, _, rfl, by simp⟩
      | true =>
        have hb2 : F_wlvref15_groups_L8 ([s], [IntKind.u8.wrap (Int.fdiv n (2 ^ 8)), IntKind.u8.wrap n], 1) = some (.inl (.inr ([s], [IntKind.u8.wrap (Int.fdiv n (2 ^ 8)), IntKind.u8.wrap n]))) := rfl
        rw [loop_inr hb1 (loop_inl hb2)]
        exact ⟨_, _, rfl, by simp⟩
  obtain ⟨b, ok, h1, h2⟩ := hgr
  rw [h1, Option.bind_some, show ((b.length : Int) == 16) = false from beq_eq_false_iff_ne.2 (by omega), Bool.and_false]
  exact ⟨_, rfl⟩
theorem byte_len {w : List Int} (h : byteB w = true) : w.length ≤ 3 := by
  unfold byteB at h
  rw [Bool.and_eq_true, decide_eq_true_iff] at h
  obtain ⟨n, h1, h2⟩ := canon_eq _ w rfl h.1
  have := dgs_len 2 n (by omega)
  rwa [← h1] at this
theorem four_len {s : List Int} (h : (fourR s).2 = true) : s.length ≤ 15 ∧ (fourR s).1.length = 4 := by
  unfold fourR at h ⊢
  cases hc : (decide ((splitI s 46).length = 4) && (splitI s 46).all byteB) with
  | false => rw [hc] at h; cases h
  | true =>
    rw [Bool.and_eq_true, decide_eq_true_iff] at hc
    have h1 := splitI_sum s 46
    have : ∀ l : List (List Int), l.all byteB = true → (l.map List.length).sum ≤ 3 * l.length := fun l => by
      induction l with
      | nil => intro _; simp
      | cons w l ih =>
        intro h
        rw [List.all_cons, Bool.and_eq_true] at h
        have := byte_len h.1
        have := ih h.2
        simp
        omega
    have := this _ hc.2
    refine ⟨by omega, ?_⟩
    rw [cond_true, List.length_map]
    exact hc.1
theorem refParse_no (s : List Int) (hs : s.length ≤ 1000000) (h58 : ∀ c ∈ s, c ≠ 58) : F_wlvref15_Parse s = some (cond (fourR s).2 ((fourR s).1, 0) ([], 2)) := by
  unfold F_wlvref15_Parse
  by_cases h50 : (s.length : Int) > 50
  · rw [decide_eq_true h50, cond_true]
    cases hf : (fourR s).2 with
    | true => have := (four_len hf).1; omega
    | false => rfl
  · rw [decide_eq_false h50, cond_false, four_eq s hs, Option.bind_some]
    cases hf : (fourR s).2 with
    | true => rfl
    | false =>
      obtain ⟨b, hb⟩ := eight_no s hs h58
      rw [cond_false, hb]
      rfl
theorem Parse_no (s : List Int) (hs : s.length ≤ 1000000) (h58 : ∀ c ∈ s, c ≠ 58) : F_addr_Parse s = some (cond (fourR s).2 ((fourR s).1, 0) ([], 2)) := by
  unfold F_addr_Parse
  rw [dotted_eq s hs, Option.bind_some]
  cases hf : (fourR s).2 with
  | true => rfl
  | false =>
    obtain ⟨b, hb, hl⟩ := coloned_no s hs h58
    obtain ⟨p, hp⟩ := Plain_ex b (by omega)
    rw [Bool.not_false, cond_true, hb, Option.bind_some]
    show (F_addr_Plain b).bind _ = _
    rw [hp]
    rfl
theorem place_no (s : List Int) (hs : s.length ≤ 1000000) (h58 : ∀ c ∈ s, c ≠ 58) (h91 : s.head? ≠ some 91) : F_host_place s = some (cond (fourR s).2 ([], (fourR s).1, true) ((nameR s).1, [], (nameR s).2 == 0)) := by
  have hpre : F_strings_HasPrefix s [91] = some false := by
    rw [prefix_lit s _ hs]
    match s, h91 with
    | [], _ => rfl
    | x :: r, h91 =>
      have : (x :: r).take ([91] : List Int).length = [x] := rfl
      rw [this, show ([x] == ([91] : List Int)) = false from beq_eq_false_iff_ne.2 fun e => h91 (by injection e with e; rw [e]; rfl)]
      rw [Bool.and_false]
  have hcon : F_strings_Contains s [58] = some false := by
    show some (s.contains 58) = some false
    rw [show s.contains 58 = false by
      rw [List.contains_eq_mem]
      exact decide_eq_false fun h => h58 58 h rfl]
  unfold F_host_place
  rw [hpre, Option.bind_some, cond_false, Parse_no s hs h58, Option.bind_some, hcon, name_eq]
  cases hf : (fourR s).2 with
  | true =>
    have := (four_len hf).2
    rw [cond_true, cond_true, show (((fourR s).1.length : Int) == 4) = true from beq_iff_eq.2 (by omega)]
    rfl
  | false => rfl
end Go.Proofs.YtblngdnndkljoaaDoor
