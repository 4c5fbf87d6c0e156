/- Texts of this claim, one behind the other. -/
import Derived.Test.YtgfmfgombmpodaaGreatDoorConfFullM5
import Derived.Laws.BitsLemmas
import Derived.KernelRfl
/- Addresses: the program's reader and the reference's answer alike. -/
namespace Go.Proofs.YtgfmfgombmpodaaGreatDoor
open Pv
set_option linter.unusedVariables false
theorem colR_eq (s : List Int) : colR s = grpR [] s := by
  unfold colR
  match s with
  | [] => rfl
  | [x] =>
    rw [show (([x] : List Int).take 2 == [58, 58]) = false from beq_eq_false_iff_ne.2 fun e => by simp at e, cond_false]
    have h0 : dcI [x] ≠ some 0 := fun e => by
      have e' : cond (x == 58 && false) (some 0) ((dcI []).map (· + 1)) = some 0 := e
      rw [Bool.and_false] at e'
      cases e'
    exact col_nogap 2 [] [x] (by simp) (by simp) rfl h0
  | x :: y :: r =>
    have htk : (x :: y :: r).take 2 = [x, y] := rfl
    have hdp : (x :: y :: r).drop 2 = r := rfl
    rw [htk, hdp]
    by_cases hxy : x = 58 ∧ y = 58
    · obtain ⟨rfl, rfl⟩ := hxy
      rw [show (([58, 58] : List Int) == [58, 58]) = true from rfl, cond_true]
      have hg : grpR [] (58 :: 58 :: r) = cond (true && (partsO r).all hexGB && decide (0 + 2 * 0 + 2 * (partsO r).length ≤ 14)) (some (insZ ([] ++ [] ++ bytesP (partsO r)) (0 + 2 * 0))) none := rfl
      rw [hg]
      cases r with
      | nil => rfl
      | cons e r3 =>
        rw [show ((e :: r3) == ([] : List Int)) = false from rfl, cond_false, col_gap _ [] 0 (e :: r3) (by simp) (by omega) (by simp) rfl, partsO_ne (by simp)]
        rw [Bool.true_and, List.nil_append, List.nil_append]
        rfl
    · have hne : (([x, y] : List Int) == [58, 58]) = false := beq_eq_false_iff_ne.2 fun e => hxy (by injection e with e1 e2; injection e2 with e2; exact ⟨e1, e2⟩)
      rw [hne, cond_false]
      refine col_nogap _ [] _ (Nat.lt_succ_self _) (by simp) rfl fun e => ?_
      have e' : cond (x == 58 && (some y == some 58)) (some 0) ((dcI (y :: r)).map (· + 1)) = some 0 := e
      cases hb : (x == 58 && (some y == some 58)) with
      | true =>
        rw [Bool.and_eq_true, beq_iff_eq, beq_iff_eq] at hb
        exact hxy ⟨hb.1, by injection hb.2⟩
      | false =>
        rw [hb, cond_false] at e'
        obtain ⟨q, _, hq⟩ := Option.map_eq_some_iff.1 e'
        omega
/-! ### the reference's groups -/
theorem group_loop (s : List Int) (hs : s.length ≤ 4) : ∀ (r : List Int) (i : Nat) (n : Int), s.drop i = r → i ≤ s.length → 0 ≤ n → n < 16 ^ i →
    loopC (F_wlvref15_group_L7 s) (n, (i : Int)) = some (cond (r.all fun c => decide (0 ≤ dg c)) (.inr (r.foldl (fun n c => n * 16 + dg c) n)) (.inl (0, false)))
  | [], i, n, hr, hi, h0, h1 => by
    have hie := drop_nil' hr hi
    refine loop_inl ?_
    unfold F_wlvref15_group_L7
    dsimp only
    rw [decide_eq_false (show ¬ (i : Int) < (s.length : Int) by omega), cond_false]
    rfl
  | c :: r, i, n, hr, hi, h0, h1 => by
    obtain ⟨hlt, hget, hdrop⟩ := drop_cons hr
    have hp2 : (16 : Int) ^ (i + 1) = 16 ^ i * 16 := Int.pow_succ ..
    have hp : (16 : Int) ^ (i + 1) ≤ 65536 := pow16 (i + 1) (by omega) (by omega)
    have ih := group_loop s hs r (i + 1) (n * 16 + dg c) hdrop (by omega)
    have hbody : F_wlvref15_group_L7 s (n, (i : Int)) = cond (decide (0 ≤ dg c)) (some (.inr (n * 16 + dg c, (i : Int) + 1))) (some (.inl (.inl (0, false)))) := by
      unfold F_wlvref15_group_L7
      dsimp only
      rw [decide_eq_true (show (i : Int) < (s.length : Int) by omega), cond_true, getI_nat hget, Option.bind_some, wrap_in (x := n * 16) (by omega) (by omega), wrap_in (x := (i : Int) + 1) (by omega) (by omega)]
      unfold dg
      by_cases c1 : 48 ≤ c ∧ c ≤ 57
      · rw [show (decide (c ≥ 48) && decide (c ≤ 57)) = true by simpa using c1, cond_true, if_pos c1, u8_sm (by omega) (by omega), wrap_in (x := c - 48) (by omega) (by omega), wrap_in (by omega) (by omega), decide_eq_true (show (0 : Int) ≤ c - 48 by omega), cond_true]
      · rw [show (decide (c ≥ 48) && decide (c ≤ 57)) = false by simp; omega, cond_false, if_neg c1]
        by_cases c2 : 97 ≤ c ∧ c ≤ 102
        · rw [show (decide (c ≥ 97) && decide (c ≤ 102)) = true by simpa using c2, cond_true, if_pos c2, u8_sm (by omega) (by omega), wrap_in (x := c - 97) (by omega) (by omega), wrap_in (x := n * 16 + (c - 97)) (by omega) (by omega), wrap_in (by omega) (by omega), decide_eq_true (show (0 : Int) ≤ c - 87 by omega), cond_true, show n * 16 + (c - 97) + 10 = n * 16 + (c - 87) by omega]
        · rw [show (decide (c ≥ 97) && decide (c ≤ 102)) = false by simp; omega, cond_false, if_neg c2]
          by_cases c3 : 65 ≤ c ∧ c ≤ 70
          · rw [show (decide (c ≥ 65) && decide (c ≤ 70)) = true by simpa using c3, cond_true, if_pos c3, u8_sm (by omega) (by omega), wrap_in (x := c - 65) (by omega) (by omega), wrap_in (x := n * 16 + (c - 65)) (by omega) (by omega), wrap_in (by omega) (by omega), decide_eq_true (show (0 : Int) ≤ c - 55 by omega), cond_true, show n * 16 + (c - 65) + 10 = n * 16 + (c - 55) by omega]
          · rw [show (decide (c ≥ 65) && decide (c ≤ 70)) = false by simp; omega, cond_false, if_neg c3]; rfl
    rw [List.all_cons, List.foldl_cons]
    obtain ⟨_, hd1⟩ := dg_in c
    by_cases hd : 0 ≤ dg c
    · rw [decide_eq_true hd, cond_true] at hbody
      have h2 := ih (by omega) (by rw [hp2]; omega)
      rw [decide_eq_true hd, Bool.true_and]
      exact loop_inr hbody (by exact_mod_cast h2)
    · rw [decide_eq_false hd, cond_false] at hbody
      rw [decide_eq_false hd, Bool.false_and]
      exact loop_inl hbody
theorem group_eq (s : List Int) : F_wlvref15_group s = some (cond (hexGB s) (hexV s, true) (0, false)) := by
  unfold F_wlvref15_group hexGB
  by_cases h : 1 ≤ s.length ∧ s.length ≤ 4
  · rw [decide_eq_false (show ¬ (s.length : Int) < 1 by omega), decide_eq_false (show ¬ (s.length : Int) > 4 by omega), Bool.or_self, cond_false, decide_eq_true h.1, decide_eq_true h.2, Bool.true_and, Bool.true_and]
    have := group_loop s h.2 s 0 0 rfl (by omega) (by omega) (by decide)
    have this : loopC (F_wlvref15_group_L7 s) (0, 0) = _ := this
    rw [this]
    cases s.all fun c => decide (0 ≤ dg c) <;> rfl
  · have : (decide ((s.length : Int) < 1) || decide ((s.length : Int) > 4)) = true := by
      rw [Bool.or_eq_true, decide_eq_true_iff, decide_eq_true_iff]; omega
    rw [this, cond_true]
    have h2 : (decide (1 ≤ s.length) && decide (s.length ≤ 4)) = false := by
      rw [Bool.and_eq_false_iff, decide_eq_false_iff_not, decide_eq_false_iff_not]; omega
    rw [h2]; rfl
theorem hexV_nn (p : List Int) (h : hexGB p = true) : 0 ≤ hexV p := by
  unfold hexGB at h
  simp only [Bool.and_eq_true] at h
  have key : ∀ (q : List Int) (n : Int), 0 ≤ n → (q.all fun c => decide (0 ≤ dg c)) = true → 0 ≤ q.foldl (fun n c => n * 16 + dg c) n := fun q => by
    induction q with
    | nil => intro n h _; exact h
    | cons c q ih =>
      intro n hn hq
      rw [List.all_cons, Bool.and_eq_true, decide_eq_true_iff] at hq
      exact ih _ (show 0 ≤ n * 16 + dg c by omega) hq.2
  exact key p 0 (by omega) h.2
theorem split_len : ∀ (t : List Int) (c : Int), t.length ≤ 1000000 → (splitI t c).length ≤ t.length + 1
  | [], _, _ => by simp [splitI]
  | x :: t, c, h => by
    have ih := split_len t c (by simp at h; omega)
    unfold splitI
    rw [List.length_cons]
    cases x == c with
    | true =>
      show (splitI t c).length + 1 ≤ _
      omega
    | false =>
      rw [cond_false]
      cases hq : splitI t c with
      | nil => simp
      | cons w q =>
        rw [hq] at ih
        simp at ih ⊢
        omega
/-- Whether the groups of a text may be. -/
def okG (t : List Int) : Bool := (partsO t).all hexGB && decide ((partsO t).length ≤ 8)
theorem groups_eq (t : List Int) (ht : t.length ≤ 1000000) : ∃ v : List Int, F_wlvref15_groups t = some (v, okG t) ∧ v.length ≤ 18 ∧ (okG t = true → v = bytesP (partsO t)) := by
  unfold F_wlvref15_groups
  by_cases h0 : t = []
  · subst h0
    exact ⟨[], rfl, by simp, fun _ => rfl⟩
  · rw [beq_eq_false_iff_ne.2 h0, cond_false, Split_eq t 58 ht, Option.bind_some]
    unfold okG
    rw [partsO_ne h0]
    obtain ⟨l, hl⟩ : ∃ l, splitI t 58 = l := ⟨_, rfl⟩
    have hlen : l.length ≤ 1000001 := by rw [← hl]; have := split_len t 58 ht; omega
    rw [hl]
    obtain ⟨r, h1, h2⟩ := loop_inv (body := F_wlvref15_groups_L8) (I := fun st => ∃ i : Nat, st = (l, bytesP (l.take i), (i : Int)) ∧ i ≤ l.length ∧ i ≤ 9 ∧ (l.take i).all hexGB = true) (m := fun st => 9 - st.2.2.toNat)
      (Q := fun r => (r = .inl ([], false) ∧ l.all hexGB = false) ∨ ∃ i : Nat, r = .inr (l, bytesP (l.take i)) ∧ i ≤ 9 ∧ (l.take i).all hexGB = true ∧ (i = l.length ∨ 9 ≤ i ∧ 9 ≤ l.length)) (fun st ⟨i, e, hi, hi9, ha⟩ => by
        subst e
        unfold F_wlvref15_groups_L8 chk
        dsimp only
        by_cases hlt : i < l.length ∧ i < 9
        · have hg := getI_nat (List.getElem?_eq_getElem hlt.1)
          rw [decide_eq_true (show (i : Int) < (l.length : Int) by omega), decide_eq_true (show (i : Int) < 9 by omega), Bool.true_and, cond_true, hg, Option.bind_some, group_eq, Option.bind_some]
          cases hx : hexGB l[i] with
          | false =>
            refine .inl ⟨_, rfl, .inl ⟨rfl, ?_⟩⟩
            rw [List.all_eq_false]
            exact ⟨l[i], List.getElem_mem _, by rw [hx]; simp⟩
          | true =>
            rw [cond_true]
            show (∃ r, (cond (!true) _ _) = _ ∧ _) ∨ ∃ s', (cond (!true) _ _) = _ ∧ _
            rw [Bool.not_true, cond_false, by2_eq (hexV_nn _ hx)]
            have hck : (decide (((bytesP (l.take i)).length + (by2 (hexV l[i])).length) * 1 ≤ 140737488355328) && decide ((bytesP (l.take i)).length + (by2 (hexV l[i])).length ≤ maxLen)) = true := chk1 (by
              rw [bytesP_len, List.length_take]
              show _ + 2 ≤ _
              omega)
            rw [hck, cond_true, wrap_in (x := (i : Int) + 1) (by omega) (by omega)]
            have htk : l.take (i + 1) = l.take i ++ [l[i]] := by rw [List.take_add_one, List.getElem?_eq_getElem hlt.1]; rfl
            refine .inr ⟨_, rfl, ⟨i + 1, ?_, by omega, by omega, ?_⟩, ?_⟩
            · rw [htk]
              have : bytesP (l.take i ++ [l[i]]) = bytesP (l.take i) ++ by2 (hexV l[i]) := by
                unfold bytesP
                rw [List.flatMap_append]
                show _ ++ (by2 (hexV l[i]) ++ []) = _
                rw [List.append_nil]
              rw [this]; rfl
            · rw [htk, List.all_append, ha, Bool.true_and]
              simpa using hx
            · show 9 - ((i : Int) + 1).toNat < 9 - (i : Int).toNat
              omega
        · have : (decide ((i : Int) < (l.length : Int)) && decide ((i : Int) < 9)) = false := by
            rw [Bool.and_eq_false_iff, decide_eq_false_iff_not, decide_eq_false_iff_not]; omega
          rw [this, cond_false]
          exact .inl ⟨_, rfl, .inr ⟨i, rfl, hi9, ha, by omega⟩⟩) (l, ([] : List Int), 0) ⟨0, rfl, by omega, by omega, rfl⟩
    rcases h2 with ⟨rfl, hf⟩ | ⟨i, rfl, hi9, ha, hc⟩
    · rw [join_inl h1, hf]
      exact ⟨[], rfl, by simp, fun h => by cases h⟩
    · rw [join_inr h1]
      unfold F_wlvref15_groups_J6
      dsimp only
      have hbl : (bytesP (l.take i)).length ≤ 18 := by rw [bytesP_len, List.length_take]; omega
      rcases hc with rfl | ⟨h9, h9'⟩
      · rw [List.take_length] at ha hbl ⊢
        rw [ha, Bool.true_and]
        refine ⟨bytesP l, ?_, hbl, fun _ => rfl⟩
        congr 2
        exact decide_eq_decide.2 (by omega)
      · rw [decide_eq_false (show ¬ (l.length : Int) ≤ 8 by omega), decide_eq_false (show ¬ l.length ≤ 8 by omega), Bool.and_false]
        exact ⟨bytesP (l.take i), rfl, hbl, fun h => by cases h⟩
/-! ### the reference's eight groups -/
theorem find_done (s : List Int) (hs : s.length ≤ 1000000) (a : Nat) : ∀ (r : List Int) (i : Nat), s.drop i = r → i ≤ s.length → loopC (F_wlvref15_eight_L4 s) ((a : Int), (i : Int)) = some (.inr (a : Int))
  | [], i, hr, hi => by
    have hie := drop_nil' hr hi
    refine loop_inl ?_
    unfold F_wlvref15_eight_L4
    dsimp only
    rw [wrap_in (x := (i : Int) + 1) (by omega) (by omega), decide_eq_false (show ¬ (i : Int) + 1 < (s.length : Int) by omega), cond_false]
  | c :: r, i, hr, hi => by
    obtain ⟨hlt, hget, hdrop⟩ := drop_cons hr
    have ih := find_done s hs a r (i + 1) hdrop (by omega)
    have ih : loopC (F_wlvref15_eight_L4 s) ((a : Int), (i : Int) + 1) = some (.inr (a : Int)) := ih
    by_cases hl : i + 1 < s.length
    · refine loop_inr ?_ ih
      have hg2 : getI s ((i : Int) + 1) = some s[i + 1] := getI_nat (i := i + 1) (List.getElem?_eq_getElem hl)
      unfold F_wlvref15_eight_L4
      dsimp only
      rw [wrap_in (x := (i : Int) + 1) (by omega) (by omega), decide_eq_true (show (i : Int) + 1 < (s.length : Int) by omega), cond_true, getI_nat hget, Option.bind_some]
      cases c == 58 with
      | false => rfl
      | true =>
        rw [cond_true, hg2, Option.bind_some, decide_eq_false (show ¬ (a : Int) < 0 by omega), Bool.and_false]
        rfl
    · refine loop_inl ?_
      unfold F_wlvref15_eight_L4
      dsimp only
      rw [wrap_in (x := (i : Int) + 1) (by omega) (by omega), decide_eq_false (show ¬ (i : Int) + 1 < (s.length : Int) by omega), cond_false]
def atI (i : Nat) : Option Nat → Int
  | none => -1
  | some j => ((i + j : Nat) : Int)
theorem find_loop (s : List Int) (hs : s.length ≤ 1000000) : ∀ (r : List Int) (i : Nat), s.drop i = r → i ≤ s.length → loopC (F_wlvref15_eight_L4 s) (-1, (i : Int)) = some (.inr (atI i (dcI r)))
  | [], i, hr, hi => by
    have hie := drop_nil' hr hi
    refine loop_inl ?_
    unfold F_wlvref15_eight_L4
    dsimp only
    rw [wrap_in (x := (i : Int) + 1) (by omega) (by omega), decide_eq_false (show ¬ (i : Int) + 1 < (s.length : Int) by omega), cond_false]
    rfl
  | c :: r, i, hr, hi => by
    obtain ⟨hlt, hget, hdrop⟩ := drop_cons hr
    have ih : loopC (F_wlvref15_eight_L4 s) (-1, (i : Int) + 1) = some (.inr (atI (i + 1) (dcI r))) := find_loop s hs r (i + 1) hdrop (by omega)
    have hu : dcI (c :: r) = cond (c == 58 && r.head? == some 58) (some 0) ((dcI r).map (· + 1)) := rfl
    have hat : atI i ((dcI r).map (· + 1)) = atI (i + 1) (dcI r) := by
      cases dcI r with
      | none => rfl
      | some j => show ((i + (j + 1) : Nat) : Int) = ((i + 1 + j : Nat) : Int); omega
    by_cases hl : i + 1 < s.length
    · have hg2 : getI s ((i : Int) + 1) = some s[i + 1] := getI_nat (i := i + 1) (List.getElem?_eq_getElem hl)
      have hh : r.head? = some s[i + 1] := by rw [← hdrop, List.head?_drop, List.getElem?_eq_getElem hl]
      have hbody : F_wlvref15_eight_L4 s (-1, (i : Int)) = some (.inr (cond (c == 58 && s[i + 1] == 58) (i : Int) (-1), (i : Int) + 1)) := by
        unfold F_wlvref15_eight_L4
        dsimp only
        rw [wrap_in (x := (i : Int) + 1) (by omega) (by omega), decide_eq_true (show (i : Int) + 1 < (s.length : Int) by omega), cond_true, getI_nat hget, Option.bind_some]
        cases c == 58 with
        | false => rfl
        | true =>
          rw [cond_true, hg2, Option.bind_some, show decide ((-1 : Int) < 0) = true from rfl, Bool.and_true, Bool.true_and]
          cases s[i + 1] == 58 <;> rfl
      rw [hu, hh, show ((some s[i + 1] == some 58) : Bool) = (s[i + 1] == 58) from rfl]
      cases hb : (c == 58 && s[i + 1] == 58) with
      | true =>
        rw [hb, cond_true] at hbody
        rw [cond_true]
        refine loop_inr hbody ?_
        exact find_done s hs i r (i + 1) hdrop (by omega)
      | false =>
        rw [hb, cond_false] at hbody
        rw [cond_false, hat]
        exact loop_inr hbody ih
    · have hrn : r = [] := by rw [← hdrop]; exact List.drop_of_length_le (by omega)
      subst hrn
      rw [hu, show (([] : List Int).head? == some 58) = false from rfl, Bool.and_false, cond_false]
      refine loop_inl ?_
      unfold F_wlvref15_eight_L4
      dsimp only
      rw [wrap_in (x := (i : Int) + 1) (by omega) (by omega), decide_eq_false (show ¬ (i : Int) + 1 < (s.length : Int) by omega), cond_false]
      rfl
theorem dc_lt : ∀ {s : List Int} {i : Nat}, dcI s = some i → i + 2 ≤ s.length
  | [], _, h => by cases h
  | c :: r, i, h => by
    have hu : cond (c == 58 && r.head? == some 58) (some 0) ((dcI r).map (· + 1)) = some i := h
    cases hb : (c == 58 && r.head? == some 58) with
    | true =>
      rw [hb, cond_true] at hu
      injection hu with hu
      rw [Bool.and_eq_true, beq_iff_eq, beq_iff_eq] at hb
      cases r with
      | nil => cases hb.2
      | cons d r => rw [← hu]; simp
    | false =>
      rw [hb, cond_false] at hu
      obtain ⟨j, hj, rfl⟩ := Option.map_eq_some_iff.1 hu
      have := dc_lt hj
      simp
      omega
theorem fill_loop (a b : List Int) (h : a.length + b.length ≤ 14) : loopC F_wlvref15_eight_L20 (b, a) = some (.inr (b, a ++ List.replicate (16 - b.length - a.length) 0)) := by
  obtain ⟨r, h1, rfl⟩ := loop_inv (body := F_wlvref15_eight_L20) (I := fun st => ∃ k : Nat, st = (b, a ++ List.replicate k 0) ∧ k ≤ 16 - b.length - a.length) (m := fun st => 16 - st.2.length)
    (Q := fun r => r = .inr (b, a ++ List.replicate (16 - b.length - a.length) 0)) (fun st ⟨k, e, hk⟩ => by
      subst e
      unfold F_wlvref15_eight_L20 chk
      dsimp only
      have hl : (a ++ List.replicate k (0 : Int)).length = a.length + k := by simp
      rw [hl, wrap_in (by omega) (by omega)]
      by_cases hlt : k < 16 - b.length - a.length
      · rw [decide_eq_true (show ((a.length + k : Nat) : Int) < 16 - (b.length : Int) by omega), cond_true, show (decide ((a.length + k + ([0] : List Int).length) * 1 ≤ 140737488355328) && decide (a.length + k + ([0] : List Int).length ≤ maxLen)) = true from chk1 (by show a.length + k + 1 ≤ _; omega), cond_true]
        refine .inr ⟨_, rfl, ⟨k + 1, by rw [List.replicate_succ', List.append_assoc], by omega⟩, ?_⟩
        rw [List.length_append]
        simp
        omega
      · rw [decide_eq_false (show ¬ ((a.length + k : Nat) : Int) < 16 - (b.length : Int) by omega), cond_false]
        refine .inl ⟨_, rfl, ?_⟩
        rw [show k = 16 - b.length - a.length by omega]) (b, a) ⟨0, by simp, by omega⟩
  exact h1
theorem eight_eq (s : List Int) (hs : s.length ≤ 1000000) : ∃ v : List Int, F_wlvref15_eight s = some (v, (grpR [] s).isSome) ∧ ∀ x, grpR [] s = some x → v = x := by
  have hf : loopC (F_wlvref15_eight_L4 s) (-1, 0) = some (.inr (atI 0 (dcI s))) := find_loop s hs s 0 rfl (by omega)
  unfold F_wlvref15_eight
  rw [join_inr hf]
  unfold F_wlvref15_eight_J2 grpR
  dsimp only
  cases hd : dcI s with
  | none =>
    show ∃ v, cond (decide ((-1 : Int) < 0)) _ _ = some (v, (cond ((splitI s 58).all hexGB && (0 + 2 * (splitI s 58).length == 16)) (some ([] ++ bytesP (splitI s 58))) none).isSome) ∧ ∀ x, cond ((splitI s 58).all hexGB && (0 + 2 * (splitI s 58).length == 16)) (some ([] ++ bytesP (splitI s 58))) none = some x → v = x
    rw [show decide ((-1 : Int) < 0) = true from rfl, cond_true]
    obtain ⟨v, h1, h2, h3⟩ := groups_eq s hs
    rw [h1, Option.bind_some]
    refine ⟨v, ?_, ?_⟩
    · congr 2
      by_cases h0 : s = []
      · subst h0
        have : v = [] := h3 rfl
        subst this; rfl
      · unfold okG at h3 ⊢
        rw [partsO_ne h0] at h3 ⊢
        cases ha : (splitI s 58).all hexGB with
        | false => rfl
        | true =>
          rw [ha, Bool.true_and] at h3
          rw [Bool.true_and, Bool.true_and]
          by_cases h8 : (splitI s 58).length ≤ 8
          · have := h3 (decide_eq_true h8)
            rw [decide_eq_true h8, Bool.true_and, this, bytesP_len]
            by_cases h16 : (splitI s 58).length = 8
            · rw [h16]; rfl
            · rw [beq_eq_false_iff_ne.2 (show ((2 * (splitI s 58).length : Nat) : Int) ≠ 16 by omega), beq_eq_false_iff_ne.2 (show 0 + 2 * (splitI s 58).length ≠ 16 by omega)]; rfl
          · rw [decide_eq_false h8, Bool.false_and, beq_eq_false_iff_ne.2 (show 0 + 2 * (splitI s 58).length ≠ 16 by omega)]; rfl
    · intro x hx
      cases hc : ((splitI s 58).all hexGB && (0 + 2 * (splitI s 58).length == 16)) with
      | false => rw [hc] at hx; cases hx
      | true =>
        rw [hc, cond_true, List.nil_append] at hx
        injection hx with hx
        rw [Bool.and_eq_true, beq_iff_eq] at hc
        have h0 : s ≠ [] := fun e => by subst e; cases hc.1
        rw [← hx]
        have : okG s = true := by unfold okG; rw [partsO_ne h0, hc.1, decide_eq_true (by omega)]; rfl
        rw [h3 this, partsO_ne h0]
  | some i =>
    have hi := dc_lt hd
    have htl : (s.take i).length ≤ 1000000 := by rw [List.length_take]; omega
    have hdl : (s.drop (i + 2)).length ≤ 1000000 := by rw [List.length_drop]; omega
    obtain ⟨a, a1, a2, a3⟩ := groups_eq (s.take i) htl
    obtain ⟨b, b1, b2, b3⟩ := groups_eq (s.drop (i + 2)) hdl
    have e0 : atI 0 (some i) = (i : Int) := by show ((0 + i : Nat) : Int) = _; omega
    rw [e0, decide_eq_false (show ¬ (i : Int) < 0 by omega), cond_false]
    have c1 : cutI s 0 (i : Int) = some (s.take i) := by
      have := cutI_nat (s := s) (a := 0) (b := i) (by omega) (by omega)
      exact this
    have c2 : cutI s (IntKind.i64.wrap ((i : Int) + 2)) (s.length : Int) = some (s.drop (i + 2)) := by
      rw [wrap_in (by omega) (by omega)]
      have := cutI_nat (s := s) (a := i + 2) (b := s.length) hi (by omega)
      rw [List.take_length] at this
      exact this
    rw [c1, Option.bind_some, a1, Option.bind_some, c2, Option.bind_some, b1, Option.bind_some]
    show ∃ v, _ = some (v, (cond ((partsO (s.take i)).all hexGB && (partsO (s.drop (i + 2))).all hexGB && decide (0 + 2 * (partsO (s.take i)).length + 2 * (partsO (s.drop (i + 2))).length ≤ 14)) (some (insZ ([] ++ bytesP (partsO (s.take i)) ++ bytesP (partsO (s.drop (i + 2)))) (0 + 2 * (partsO (s.take i)).length))) none).isSome) ∧ ∀ x, cond ((partsO (s.take i)).all hexGB && (partsO (s.drop (i + 2))).all hexGB && decide (0 + 2 * (partsO (s.take i)).length + 2 * (partsO (s.drop (i + 2))).length ≤ 14)) (some (insZ ([] ++ bytesP (partsO (s.take i)) ++ bytesP (partsO (s.drop (i + 2)))) (0 + 2 * (partsO (s.take i)).length))) none = some x → v = x
    have fail : (okG (s.take i) && okG (s.drop (i + 2)) && decide (a.length + b.length ≤ 14)) = false → ((partsO (s.take i)).all hexGB && (partsO (s.drop (i + 2))).all hexGB && decide (0 + 2 * (partsO (s.take i)).length + 2 * (partsO (s.drop (i + 2))).length ≤ 14)) = false := fun h => by
      cases hc : ((partsO (s.take i)).all hexGB && (partsO (s.drop (i + 2))).all hexGB && decide (0 + 2 * (partsO (s.take i)).length + 2 * (partsO (s.drop (i + 2))).length ≤ 14)) with
      | false => rfl
      | true =>
        simp only [Bool.and_eq_true, decide_eq_true_eq] at hc
        have ha : okG (s.take i) = true := by unfold okG; rw [hc.1.1, decide_eq_true (by omega)]; rfl
        have hb : okG (s.drop (i + 2)) = true := by unfold okG; rw [hc.1.2, decide_eq_true (by omega)]; rfl
        have ea := a3 ha
        have eb := b3 hb
        rw [ha, hb, decide_eq_true (by rw [ea, eb, bytesP_len, bytesP_len]; omega)] at h
        cases h
    dsimp only
    rw [wrap_in (x := (a.length : Int) + (b.length : Int)) (by omega) (by omega)]
    cases hA : okG (s.take i) with
    | false => rw [fail (by rw [hA]; rfl)]; exact ⟨[], rfl, fun x h => by cases h⟩
    | true =>
      cases hB : okG (s.drop (i + 2)) with
      | false => rw [fail (by rw [hB, Bool.and_false]; rfl)]; exact ⟨[], rfl, fun x h => by cases h⟩
      | true =>
        by_cases h14 : a.length + b.length ≤ 14
        · have ea := a3 hA
          have eb := b3 hB
          have ha14 : (partsO (s.take i)).length * 2 + (partsO (s.drop (i + 2))).length * 2 ≤ 14 := by
            rw [ea, eb, bytesP_len, bytesP_len] at h14; omega
          have hca : (partsO (s.take i)).all hexGB = true := by unfold okG at hA; exact (Bool.and_eq_true _ _ ▸ hA).1
          have hcb : (partsO (s.drop (i + 2))).all hexGB = true := by unfold okG at hB; exact (Bool.and_eq_true _ _ ▸ hB).1
          rw [hca, hcb, decide_eq_true (show 0 + 2 * (partsO (s.take i)).length + 2 * (partsO (s.drop (i + 2))).length ≤ 14 by omega)]
          rw [decide_eq_false (show ¬ (a.length : Int) + (b.length : Int) > 14 by omega)]
          show ∃ v, chk (decide ((0 + a.length) * 1 ≤ 140737488355328) && decide (0 + a.length ≤ maxLen)) (joinC (loopC F_wlvref15_eight_L20 (b, [] ++ a)) F_wlvref15_eight_J19) = some (v, true) ∧ ∀ x, some (insZ ([] ++ bytesP (partsO (s.take i)) ++ bytesP (partsO (s.drop (i + 2)))) (0 + 2 * (partsO (s.take i)).length)) = some x → v = x
          rw [List.nil_append, List.nil_append, join_inr (fill_loop a b h14), chk1 (by omega)]
          unfold chk F_wlvref15_eight_J19
          dsimp only
          have hl : (a ++ List.replicate (16 - b.length - a.length) (0 : Int)).length = 16 - b.length := by simp; omega
          rw [cond_true, hl]
          unfold chk
          rw [chk1 (by omega), cond_true]
          refine ⟨_, rfl, fun x hx => ?_⟩
          injection hx with hx
          rw [← hx, ← ea, ← eb]
          unfold insZ
          have e2 : 0 + 2 * (partsO (s.take i)).length = a.length := by rw [ea, bytesP_len]; omega
          rw [e2, List.take_left, List.drop_left, List.length_append, show 16 - (a.length + b.length) = 16 - b.length - a.length by omega]
        · rw [fail (by rw [decide_eq_false h14, Bool.and_false]), decide_eq_true (show (a.length : Int) + (b.length : Int) > 14 by omega), Bool.or_true]
          exact ⟨[], rfl, fun x h => by cases h⟩
end Go.Proofs.YtgfmfgombmpodaaGreatDoor

/- addr.Parse and the reference's Parse alike. -/
namespace Go.Proofs.YtgfmfgombmpodaaGreatDoor
open Pv
set_option linter.unusedVariables false
def preM : List Int := [0, 0, 0, 0, 0, 0, 0, 0, 0, 0, 255, 255]
def plainR (x : List Int) : List Int := cond (decide (12 ≤ x.length) && (x.take 12 == preM)) (x.drop 12) x
theorem Plain_eq (s : List Int) (hs : s.length ≤ 1000000) : F_addr_Plain s = some (plainR s) := by
  have hp := prefix_lit s preM hs
  unfold F_strings_HasPrefix at hp
  have hp2 : F_internal_stringslite_HasPrefix s preM = some (decide (preM.length ≤ s.length) && (s.take preM.length == preM)) := by
    cases hq : F_internal_stringslite_HasPrefix s preM with
    | none => rw [hq] at hp; cases hp
    | some b => rw [hq] at hp; exact hp
  unfold F_addr_Plain F_strings_TrimPrefix F_internal_stringslite_TrimPrefix
  show (((F_internal_stringslite_HasPrefix s preM).bind _).bind _).bind _ = _
  rw [hp2, Option.bind_some]
  unfold plainR
  have e12 : preM.length = 12 := rfl
  rw [e12]
  cases hb : (decide (12 ≤ s.length) && (s.take 12 == preM)) with
  | false => rfl
  | true =>
    rw [Bool.and_eq_true, decide_eq_true_iff] at hb
    rw [cond_true, cond_true]
    have h := cutI_nat (s := s) (a := 12) (b := s.length) hb.1 (by omega)
    rw [List.take_length] at h
    have h : cutI s (([0, 0, 0, 0, 0, 0, 0, 0, 0, 0, 255, 255] : List Int).length : Int) (s.length : Int) = some (s.drop 12) := h
    rw [h]; rfl
theorem Mapped_eq (s : List Int) (hl : s.length = 16) : F_wlvref15_Mapped s = some (s.take 12 == preM) := by
  unfold F_wlvref15_Mapped
  have h := cutI_nat (s := s) (a := 0) (b := 12) (by omega) (by omega)
  have h : cutI s 0 12 = some (s.take 12) := h
  rw [beq_iff_eq.2 (show (s.length : Int) = 16 by omega), cond_true, h, Option.bind_some]
  rfl
def sumL (l : List (List Int)) : Nat := l.foldr (fun p n => p.length + 1 + n) 0
theorem split_sum : ∀ (t : List Int) (c : Int), sumL (splitI t c) = t.length + 1
  | [], _ => rfl
  | x :: t, c => by
    have ih := split_sum t c
    unfold splitI
    cases x == c with
    | true =>
      show 0 + 1 + sumL (splitI t c) = _
      rw [ih, List.length_cons]; omega
    | false =>
      rw [cond_false]
      have hne := splitI_ne t c
      cases hq : splitI t c with
      | nil => exact absurd hq hne
      | cons w q =>
        rw [hq] at ih
        have ih : w.length + 1 + sumL q = t.length + 1 := ih
        show (x :: w).length + 1 + sumL q = _
        rw [List.length_cons, List.length_cons]; omega
theorem sum_hex : ∀ l : List (List Int), l.all hexGB = true → sumL l ≤ 5 * l.length
  | [], _ => by simp [sumL]
  | p :: l, h => by
    rw [List.all_cons, Bool.and_eq_true] at h
    have ih := sum_hex l h.2
    have h4 : p.length ≤ 4 := by
      have := h.1
      unfold hexGB at this
      simp only [Bool.and_eq_true, decide_eq_true_eq] at this
      exact this.1.2
    show p.length + 1 + sumL l ≤ 5 * (l.length + 1)
    omega
theorem parts_hex (t : List Int) (h : (partsO t).all hexGB = true) : t.length ≤ 5 * (partsO t).length := by
  by_cases h0 : t = []
  · subst h0; simp
  · rw [partsO_ne h0] at h ⊢
    have h1 := sum_hex _ h
    rw [split_sum] at h1
    omega
theorem grp_16 {s x : List Int} (h : grpR [] s = some x) : x.length = 16 ∧ s.length ≤ 50 := by
  unfold grpR at h
  split at h
  · cases hc : ((splitI s 58).all hexGB && (([] : List Int).length + 2 * (splitI s 58).length == 16)) with
    | false => rw [hc] at h; cases h
    | true =>
      rw [hc, cond_true] at h
      injection h with h
      rw [Bool.and_eq_true, beq_iff_eq] at hc
      have h2 : 0 + 2 * (splitI s 58).length = 16 := hc.2
      have h1 := sum_hex _ hc.1
      rw [split_sum] at h1
      refine ⟨?_, by omega⟩
      rw [← h, List.nil_append, bytesP_len]
      omega
  · rename_i i hd
    have hi := dc_lt hd
    cases hc : ((partsO (s.take i)).all hexGB && (partsO (s.drop (i + 2))).all hexGB && decide (([] : List Int).length + 2 * (partsO (s.take i)).length + 2 * (partsO (s.drop (i + 2))).length ≤ 14)) with
    | false => rw [hc] at h; cases h
    | true =>
      rw [hc, cond_true] at h
      injection h with h
      simp only [Bool.and_eq_true, decide_eq_true_eq] at hc
      have h2 : 0 + 2 * (partsO (s.take i)).length + 2 * (partsO (s.drop (i + 2))).length ≤ 14 := hc.2
      have h3 := parts_hex _ hc.1.1
      have h4 := parts_hex _ hc.1.2
      rw [List.length_take] at h3
      rw [List.length_drop] at h4
      have e1 : ([] ++ bytesP (partsO (s.take i)) ++ bytesP (partsO (s.drop (i + 2)))).length = 2 * (partsO (s.take i)).length + 2 * (partsO (s.drop (i + 2))).length := by
        rw [List.nil_append, List.length_append, bytesP_len, bytesP_len]
      refine ⟨?_, by omega⟩
      rw [← h]
      exact insZ_len (by rw [e1]; show 0 + _ ≤ _; omega) (by rw [e1]; omega)
noncomputable def parseR (s : List Int) : List Int × Int := cond (fourR s).2 ((fourR s).1, 0) (match grpR [] s with | some x => (plainR x, 0) | none => ([], 2))
theorem Parse_eq (s : List Int) (hs : s.length ≤ 1000000) : F_addr_Parse s = some (parseR s) := by
  unfold F_addr_Parse parseR
  rw [dotted_eq s hs, Option.bind_some]
  cases h4 : (fourR s).2 with
  | true => rfl
  | false =>
    rw [Bool.not_false, cond_true, cond_false]
    have hr := coloned_rel s hs
    rw [colR_eq] at hr
    cases hg : grpR [] s with
    | some x =>
      rw [hg] at hr
      have hr : F_addr_coloned s = some (x, true) := hr
      rw [hr, Option.bind_some, Plain_eq x (by have := (grp_16 hg).1; omega)]
      rfl
    | none =>
      rw [hg] at hr
      obtain ⟨v, hv, hl⟩ := hr
      rw [hv, Option.bind_some, Plain_eq v (by omega)]
      rfl
theorem refParse_eq (s : List Int) (hs : s.length ≤ 1000000) : F_wlvref15_Parse s = some (parseR s) := by
  unfold F_wlvref15_Parse parseR
  by_cases h50 : (s.length : Int) > 50
  · rw [decide_eq_true h50, cond_true]
    cases h4 : (fourR s).2 with
    | true => have := (four_len h4).1; omega
    | false =>
      rw [cond_false]
      cases hg : grpR [] s with
      | some x => have := (grp_16 hg).2; omega
      | none => rfl
  · rw [decide_eq_false h50, cond_false, four_eq s hs, Option.bind_some]
    cases h4 : (fourR s).2 with
    | true => rfl
    | false =>
      rw [cond_false, cond_false]
      obtain ⟨v, h1, h2⟩ := eight_eq s hs
      rw [h1, Option.bind_some]
      cases hg : grpR [] s with
      | none => rfl
      | some x =>
        have hv := h2 x hg
        subst hv
        have h16 := (grp_16 hg).1
        show cond (!true) _ ((F_wlvref15_Mapped v).bind _) = _
        rw [Bool.not_true, cond_false, Mapped_eq v h16, Option.bind_some]
        show (cond (v.take 12 == preM) ((cutI v 12 (v.length : Int)).bind fun s5 => some (s5, (0 : Int))) (some (v, 0))) = some (cond (decide (12 ≤ v.length) && (v.take 12 == preM)) (v.drop 12) v, (0 : Int))
        rw [decide_eq_true (show 12 ≤ v.length by omega), Bool.true_and]
        cases v.take 12 == preM with
        | false => rfl
        | true =>
          have h := cutI_nat (s := v) (a := 12) (b := v.length) (by omega) (by omega)
          rw [List.take_length] at h
          have h : cutI v 12 (v.length : Int) = some (v.drop 12) := h
          show (cutI v 12 (v.length : Int)).bind _ = _
          rw [h]; rfl
end Go.Proofs.YtgfmfgombmpodaaGreatDoor

/- HostPorts: the plain part. -/
namespace Go.Proofs.YtgfmfgombmpodaaGreatDoor
open Pv
set_option linter.unusedVariables false
/-! ### decimal digits of a number -/
theorem maxI0 (n : Int) : maxI n 0 = (n.toNat : Int) := by
  unfold maxI
  by_cases h : (0 : Int) > n
  · rw [decide_eq_true h, cond_true]; omega
  · rw [decide_eq_false h, cond_false]; omega
theorem Dec_fuel_eq : ∀ (k : Nat) (n : Int), n < 10 ^ (k + 1) → n ≤ 9223372036854775807 → F_wlvref_Dec_fuel (k + 1) n = some (dgs n.toNat) := fun k => by
  induction k with
  | zero =>
    intro n h h2
    show F_wlvref_Dec_step (F_wlvref_Dec_fuel 0) n = _
    unfold F_wlvref_Dec_step
    have h : n < 10 := h
    rw [decide_eq_true h, cond_true, dgs_one (by omega)]
    rw [maxI0, wrap_in (by omega) (by omega), u8_in (by omega) (by omega)]
  | succ k ih =>
    intro n h h2
    show F_wlvref_Dec_step (F_wlvref_Dec_fuel (k + 1)) n = _
    unfold F_wlvref_Dec_step
    by_cases h10 : n < 10
    · rw [decide_eq_true h10, cond_true, dgs_one (by omega)]
      rw [maxI0, wrap_in (by omega) (by omega), u8_in (by omega) (by omega)]
    · have e1 : Int.tdiv n 10 = n / 10 := Int.tdiv_eq_ediv_of_nonneg (by omega)
      have e2 : Int.tmod n 10 = n % 10 := Int.tmod_eq_emod_of_nonneg (by omega)
      rw [decide_eq_false h10, cond_false, e1, e2, wrap_in (x := n / 10) (by omega) (by omega)]
      rw [ih (n / 10) (by rw [Int.pow_succ] at h; omega) (by omega), Option.bind_some]
      have hl := dgs_len 18 (n / 10).toNat (by
        have : (10 : Nat) ^ (18 + 1) = 10000000000000000000 := by decide
        omega)
      have hb : ∀ a : Int, Nat.ble ((dgs (n / 10).toNat).length + ([a] : List Int).length) maxLen = true := fun a => Nat.ble_eq_true_of_le (by
        have : maxLen = 9223372036854775807 := rfl
        simp
        omega)
      unfold chk
      rw [hb, cond_true, wrap_in (by omega) (by omega), u8_in (by omega) (by omega), dgs_more (n := n.toNat) (by omega)]
      rw [show (n / 10).toNat = n.toNat / 10 by omega, show n % 10 = ((n.toNat % 10 : Nat) : Int) by omega]
theorem Dec_eq (n : Int) (h2 : n ≤ 9223372036854775807) : F_wlvref_Dec n = some (dgs n.toNat) :=
  Dec_fuel_eq 63 n (by have : (10 : Int) ^ (63 + 1) = 10000000000000000000000000000000000000000000000000000000000000000 := by decide
                       omega) h2
/-! ### a host and a port -/
/-! ### what a name is -/
theorem sg_spec (c : Int) : sg c = if 65 ≤ c ∧ c ≤ 90 then c + 32 else if (97 ≤ c ∧ c ≤ 122) ∨ (48 ≤ c ∧ c ≤ 57) ∨ c = 45 ∨ c = 95 then c else 0 := by
  have h := sign_eq c
  unfold F_host_sign at h
  by_cases h1 : 65 ≤ c ∧ c ≤ 90
  · rw [decide_eq_true h1.1, decide_eq_true h1.2, u8_in (x := c + 97) (by omega) (by omega), u8_in (by omega) (by omega)] at h
    have h : some (c + 97 - 65) = some (sg c) := h
    injection h with h
    rw [if_pos h1]
    omega
  · have e1 : (decide (c ≥ 65) && decide (c ≤ 90)) = false := by simp; omega
    rw [e1, cond_false] at h
    rw [if_neg h1]
    by_cases h2 : 97 ≤ c ∧ c ≤ 122
    · rw [decide_eq_true h2.1, decide_eq_true h2.2] at h
      have h : some c = some (sg c) := h
      injection h with h
      rw [if_pos (.inl h2)]
      exact h.symm
    · have e2 : (decide (c ≥ 97) && decide (c ≤ 122)) = false := by simp; omega
      rw [e2, cond_false] at h
      by_cases h3 : 48 ≤ c ∧ c ≤ 57
      · rw [decide_eq_true h3.1, decide_eq_true h3.2] at h
        have h : some c = some (sg c) := h
        injection h with h
        rw [if_pos (.inr (.inl h3))]
        exact h.symm
      · have e3 : (decide (c ≥ 48) && decide (c ≤ 57)) = false := by simp; omega
        rw [e3, cond_false] at h
        by_cases h4 : c = 45
        · subst h4
          exact (by kernel_rfl : sg 45 = 45)
        · rw [beq_eq_false_iff_ne.2 h4, cond_false] at h
          by_cases h5 : c = 95
          · subst h5
            exact (by kernel_rfl : sg 95 = 95)
          · rw [beq_eq_false_iff_ne.2 h5, cond_false] at h
            have h : some (0 : Int) = some (sg c) := h
            injection h with h
            rw [if_neg (by omega)]
            exact h.symm
noncomputable def lowI (c : Int) : Int := cond (c == 46) 46 (sg c)
theorem name_some : ∀ (s out : List Int) (n : Nat) (b : List Int), nameP out n s = some b → b = out ++ s.map lowI ∧ (∀ c ∈ s, c = 46 ∨ sg c ≠ 0) ∧ (n = 0 → s ≠ [])
  | [], out, n, b, h => by
    rw [nameP] at h
    cases he : endsB out n with
    | true => rw [he] at h; cases h
    | false =>
      rw [he] at h
      have h : some out = some b := h
      injection h with h
      refine ⟨by simp [h], by simp, fun h0 => ?_⟩
      subst h0
      cases he
  | c :: s, out, n, b, h => by
    rw [nameP] at h
    cases h46 : c == 46 with
    | true =>
      rw [h46, cond_true] at h
      have hc := beq_iff_eq.1 h46
      cases he : endsB out n with
      | true => rw [he] at h; cases h
      | false =>
        rw [he, cond_false] at h
        obtain ⟨h1, h2, _⟩ := name_some s _ _ _ h
        refine ⟨by rw [h1, List.append_assoc, List.map_cons]; congr 1; show 46 :: _ = lowI c :: _; unfold lowI; rw [h46]; rfl, fun x hx => ?_, fun _ => by simp⟩
        rcases List.mem_cons.1 hx with rfl | hx
        · exact .inl hc
        · exact h2 x hx
    | false =>
      rw [h46, cond_false] at h
      cases hb : (sg c == 0 || n == 63 || (sg c == 45 && n == 0)) with
      | true => rw [hb] at h; cases h
      | false =>
        rw [hb, cond_false] at h
        obtain ⟨h1, h2, _⟩ := name_some s _ _ _ h
        refine ⟨by rw [h1, List.append_assoc, List.map_cons]; congr 1; show sg c :: _ = lowI c :: _; unfold lowI; rw [h46]; rfl, fun x hx => ?_, fun _ => by simp⟩
        rcases List.mem_cons.1 hx with rfl | hx
        · right
          rw [Bool.or_assoc, Bool.or_eq_false_iff] at hb
          exact beq_eq_false_iff_ne.1 hb.1
        · exact h2 x hx
theorem low_46 (c : Int) (h : c = 46 ∨ sg c ≠ 0) : (lowI c == 46) = (c == 46) := by
  unfold lowI
  cases h46 : c == 46 with
  | true => rfl
  | false =>
    rw [cond_false]
    refine beq_eq_false_iff_ne.2 ?_
    have hc := beq_eq_false_iff_ne.1 h46
    rw [sg_spec]
    split
    · omega
    · split <;> omega
theorem split_low : ∀ (s : List Int), (∀ c ∈ s, c = 46 ∨ sg c ≠ 0) → splitI (s.map lowI) 46 = (splitI s 46).map (List.map lowI)
  | [], _ => rfl
  | c :: s, h => by
    have ih := split_low s fun x hx => h x (by simp [hx])
    rw [List.map_cons]
    unfold splitI
    rw [low_46 c (h c (by simp)), ih]
    cases c == 46
    · rw [cond_false, cond_false]
      cases hs : splitI s 46 with
      | nil => exact absurd hs (splitI_ne s 46)
      | cons w r => rfl
    · rfl
theorem split_mem : ∀ (s : List Int) (w : List Int), w ∈ splitI s 46 → ∀ c ∈ w, c ∈ s ∧ c ≠ 46
  | [], w, h, c, hc => by
    rw [List.mem_singleton.1 h] at hc
    cases hc
  | x :: s, w, h, c, hc => by
    unfold splitI at h
    cases hx : x == 46 with
    | true =>
      rw [hx, cond_true] at h
      rcases List.mem_cons.1 h with rfl | h
      · cases hc
      · have := split_mem s w h c hc
        exact ⟨by simp [this.1], this.2⟩
    | false =>
      rw [hx, cond_false] at h
      cases hs : splitI s 46 with
      | nil => exact absurd hs (splitI_ne s 46)
      | cons v r =>
        rw [hs] at h
        rcases List.mem_cons.1 h with rfl | h
        · rcases List.mem_cons.1 hc with rfl | hc
          · exact ⟨by simp, beq_eq_false_iff_ne.1 hx⟩
          · have := split_mem s v (by rw [hs]; simp) c hc
            exact ⟨by simp [this.1], this.2⟩
        · have := split_mem s w (by rw [hs]; simp [h]) c hc
          exact ⟨by simp [this.1], this.2⟩
theorem dig_low (c : Int) (h : sg c ≠ 0) (h46 : c ≠ 46) : isDig (lowI c) = isDig c ∧ (isDig c = true → lowI c = c) := by
  unfold lowI
  rw [beq_eq_false_iff_ne.2 h46, cond_false, sg_spec] at *
  unfold isDig
  split
  · refine ⟨?_, fun hd => by simp at hd; omega⟩
    rw [decide_eq_false (show ¬ c + 32 ≤ 57 by omega), decide_eq_false (show ¬ c ≤ 57 by omega), Bool.and_false, Bool.and_false]
  · split
    · exact ⟨rfl, fun _ => rfl⟩
    · rename_i h1 h2
      rw [if_neg h1, if_neg h2] at h
      exact absurd rfl h
theorem all_same {f g : Int → Bool} : ∀ (l : List Int), (∀ c ∈ l, f c = g c) → l.all f = l.all g
  | [], _ => rfl
  | x :: l, h => by
    rw [List.all_cons, List.all_cons, h x (by simp), all_same l fun c hc => h c (by simp [hc])]
theorem byte_low (w : List Int) (h : ∀ c ∈ w, sg c ≠ 0 ∧ c ≠ 46) : byteB (w.map lowI) = byteB w := by
  have hall : (w.map lowI).all isDig = w.all isDig := by
    rw [List.all_map]
    refine all_same _ fun c hc => ?_
    exact (dig_low c (h c hc).1 (h c hc).2).1
  cases hd : w.all isDig with
  | false =>
    unfold byteB canonB
    rw [hall, hd]
    rfl
  | true =>
    have : w.map lowI = w := by
      conv => rhs; rw [← List.map_id w]
      apply List.map_congr_left
      intro c hc
      exact (dig_low c (h c hc).1 (h c hc).2).2 (List.all_eq_true.1 hd c hc)
    rw [this]
theorem all_low : ∀ (l : List (List Int)), (∀ w ∈ l, ∀ c ∈ w, sg c ≠ 0 ∧ c ≠ 46) → (l.map (List.map lowI)).all byteB = l.all byteB
  | [], _ => rfl
  | w :: l, h => by
    rw [List.map_cons, List.all_cons, List.all_cons, byte_low w (h w (by simp)), all_low l fun v hv => h v (by simp [hv])]
theorem four_low (s : List Int) (h : ∀ c ∈ s, c = 46 ∨ sg c ≠ 0) : (fourR (s.map lowI)).2 = (fourR s).2 := by
  unfold fourR
  rw [split_low s h, List.length_map, all_low _ fun w hw c hc => by
    have := split_mem s w hw c hc
    exact ⟨(h c this.1).resolve_left this.2, this.2⟩]
  cases (decide ((splitI s 46).length = 4) && (splitI s 46).all byteB) <;> rfl
/-! ### the law -/
theorem u_four (s : List Int) : (fourR (117 :: s)).2 = false := by
  unfold fourR
  have : (splitI (117 :: s) 46).all byteB = false := by
    unfold splitI
    rw [show ((117 : Int) == 46) = false from rfl, cond_false]
    cases splitI s 46 with
    | nil => rfl
    | cons w r => rfl
  rw [this, Bool.and_false]
  rfl
theorem u_name (s : List Int) : nameR (117 :: 64 :: s) = ([], 2) := by
  unfold nameR
  have : nameP [] 0 (117 :: 64 :: s) = none := by
    rw [nameP, show ((117 : Int) == 46) = false from rfl, cond_false, show sg 117 = 117 by kernel_rfl]
    rw [show ((117 : Int) == 0 || (0 : Nat) == 63 || ((117 : Int) == 45 && (0 : Nat) == 0)) = false from rfl, cond_false]
    rw [nameP, show ((64 : Int) == 46) = false from rfl, cond_false, show sg 64 = 0 by kernel_rfl]
    rfl
  rw [this]
  generalize decide (253 < (117 :: 64 :: s).length) = z
  cases z <;> rfl
theorem dgs_no58 (n : Nat) : ∀ c ∈ dgs n, c ≠ 58 := fun c hc => by
  have := dig_of (List.all_eq_true.1 (dgs_spec (n + 1) n (by omega)).1 c hc)
  omega
end Go.Proofs.YtgfmfgombmpodaaGreatDoor

/- The bits of an address that count. -/
namespace Go.Proofs.YtgfmfgombmpodaaGreatDoor
open Pv
set_option linter.unusedVariables false
def isB (x : Int) : Prop := 0 ≤ x ∧ x < 256
/-- A byte's bit, the highest first. -/
def bitI (x : Int) (j : Nat) : Int := x / 2 ^ (7 - j) % 2
def bitAt (s : List Int) (i : Nat) : Int := bitI (s.getD (i / 8) 0) (i % 8)
def keepB (x : Int) (k : Nat) : Int := x / 2 ^ (8 - k) * 2 ^ (8 - k)
def nbits (b : Int) (i : Nat) : Nat := min (b - 8 * i).toNat 8
def keptL (b : Int) : Nat → List Int → List Int
  | _, [] => []
  | i, x :: r => keepB x (nbits b i) :: keptL b (i + 1) r
theorem mask_all : (List.range 256).all (fun x => (List.range 9).all fun k => bits .and .u8 (x : Int) (IntKind.u8.wrap (Int.fdiv 65280 (2 ^ (min k 64)))) == keepB x k) = true := by kernel_rfl
theorem mask_eq {x : Int} (hx : isB x) {k : Nat} (hk : k ≤ 8) : bits .and .u8 x (IntKind.u8.wrap (Int.fdiv 65280 (2 ^ (min k 64)))) = keepB x k := by
  have h := List.all_eq_true.1 (List.all_eq_true.1 mask_all x.toNat (List.mem_range.2 (by obtain ⟨_, _⟩ := hx; omega))) k (List.mem_range.2 (by omega))
  have e : ((x.toNat : Nat) : Int) = x := Int.toNat_of_nonneg hx.1
  rw [e] at h
  exact beq_iff_eq.1 h
theorem nb_eq (b : Int) (i : Nat) (hb : -1000000 ≤ b ∧ b ≤ 1000000) (hi : i ≤ 1000000) : (minI (maxI (IntKind.i64.wrap (b - (IntKind.i64.wrap (8 * (i : Int))))) 0) 8) = (nbits b i : Int) := by
  rw [wrap_in (x := 8 * (i : Int)) (by omega) (by omega), wrap_in (by omega) (by omega)]
  unfold minI maxI nbits
  by_cases h : (0 : Int) > b - 8 * i
  · rw [decide_eq_true h, cond_true, decide_eq_false (by omega), cond_false]; omega
  · rw [decide_eq_false h, cond_false]
    by_cases h8 : (8 : Int) < b - 8 * i
    · rw [decide_eq_true h8, cond_true]; omega
    · rw [decide_eq_false h8, cond_false]; omega
theorem set_mid (pre : List Int) (x v : Int) (r : List Int) : (pre ++ x :: r).set pre.length v = pre ++ v :: r := by
  rw [List.set_append_right _ _ (Nat.le_refl _), Nat.sub_self]; rfl
theorem kept_loop (s : List Int) (b : Int) (hb : -1000000 ≤ b ∧ b ≤ 1000000) (hs : s.length ≤ 1000000) : ∀ (r pre : List Int), s.length = pre.length + r.length → (∀ x ∈ r, isB x) → loopC (F_addr_kept_L4 s b) ((pre.length : Int), pre ++ r) = some (.inr (pre ++ keptL b pre.length r))
  | [], pre, hl, _ => by
    refine loop_inl ?_
    unfold F_addr_kept_L4
    dsimp only
    rw [decide_eq_false (by rw [hl]; simp), cond_false]
    rfl
  | x :: r, pre, hl, hr => by
    have hl' : s.length = pre.length + (r.length + 1) := hl
    have ih := kept_loop s b hb hs r (pre ++ [keepB x (nbits b pre.length)]) (by rw [List.length_append]; simp; omega) (fun y hy => hr y (List.mem_cons_of_mem _ hy))
    refine loop_inr (s' := (((pre ++ [keepB x (nbits b pre.length)]).length : Int), (pre ++ [keepB x (nbits b pre.length)]) ++ r)) ?_ (ih.trans ?_)
    · unfold F_addr_kept_L4 chk
      dsimp only
      have h1 : (decide ((0 : Int) ≤ (pre.length : Int)) && decide ((pre.length : Int) < (s.length : Int))) = true := by simp; omega
      have h2 : decide ((pre.length : Int) < (s.length : Int)) = true := decide_eq_true (by omega)
      have hg : getI (pre ++ x :: r) (pre.length : Int) = some x := getI_nat (by simp)
      have h3 : decide ((pre.length : Int) < ((pre ++ x :: r).length : Int)) = true := decide_eq_true (by rw [List.length_append, List.length_cons]; omega)
      rw [h1, h2, cond_true, cond_true, hg, Option.bind_some, nb_eq b pre.length hb (by omega), decide_eq_true (show (0 : Int) ≤ (nbits b pre.length : Int) by omega), cond_true, cond_true, h3, cond_true]
      rw [Int.toNat_natCast, Int.toNat_natCast, mask_eq (hr x List.mem_cons_self) (show nbits b pre.length ≤ 8 by unfold nbits; omega), set_mid, wrap_in (by omega) (by omega)]
      have e : ((pre ++ [keepB x (nbits b pre.length)]).length : Int) = (pre.length : Int) + 1 := by rw [List.length_append]; simp
      rw [e, List.append_assoc]; rfl
    · rw [show (pre ++ [keepB x (nbits b pre.length)]).length = pre.length + 1 by simp, List.append_assoc]
      rfl
theorem keptL_len (b : Int) : ∀ (r : List Int) (i : Nat), (keptL b i r).length = r.length
  | [], _ => rfl
  | _ :: r, i => by show (keptL b (i + 1) r).length + 1 = _; rw [keptL_len b r]; rfl
theorem kept_eq (s : List Int) (b : Int) (hb : -1000000 ≤ b ∧ b ≤ 1000000) (hs : s.length ≤ 1000000) (hB : ∀ x ∈ s, isB x) : F_addr_kept s b = some (keptL b 0 s) := by
  have h : loopC (F_addr_kept_L4 s b) (0, s) = some (.inr (keptL b 0 s)) := kept_loop s b hb hs s [] (by simp) hB
  unfold F_addr_kept
  rw [join_inr (s := keptL b 0 s) h]
  unfold F_addr_kept_J2
  dsimp only
  have hl := keptL_len b s 0
  rw [show Nat.ble s.length (List.length (keptL b 0 s)) = true from Nat.ble_eq_true_of_le (Nat.le_of_eq hl.symm)]
  unfold chk
  rw [cond_true, List.take_of_length_le (Nat.le_of_eq hl)]
theorem pow_half (k : Nat) (hk : k ≤ 7) (x : Int) : x / 2 ^ (8 - k) = x / 2 ^ (7 - k) / 2 := by
  have hp : (0 : Int) < 2 ^ (7 - k) := Int.pow_pos (by decide)
  rw [show 8 - k = (7 - k) + 1 by omega, Int.pow_succ]
  exact (Int.ediv_ediv_of_nonneg (by omega)).symm
theorem div_iff {x y : Int} (hx : isB x) (hy : isB y) : ∀ k : Nat, k ≤ 8 → (x / 2 ^ (8 - k) = y / 2 ^ (8 - k) ↔ ∀ j, j < k → bitI x j = bitI y j)
  | 0, _ => by
    obtain ⟨a, b⟩ := hx
    obtain ⟨c, d⟩ := hy
    refine ⟨fun _ j hj => absurd hj (Nat.not_lt_zero j), fun _ => ?_⟩
    show x / 256 = y / 256
    omega
  | k + 1, hk => by
    have ih := div_iff hx hy k (by omega)
    have px := pow_half k (by omega) x
    have py := pow_half k (by omega) y
    have hsub : 8 - (k + 1) = 7 - k := by omega
    rw [hsub]
    constructor
    · intro h j hj
      rcases Nat.lt_or_eq_of_le (Nat.le_of_lt_succ hj) with hlt | rfl
      · exact ih.1 (by rw [px, py, h]) j hlt
      · unfold bitI; rw [h]
    · intro h
      have h1 := ih.2 fun j hj => h j (by omega)
      have h2 := h k (by omega)
      unfold bitI at h2
      rw [px, py] at h1
      omega
theorem keepB_iff {x y : Int} (hx : isB x) (hy : isB y) (k : Nat) (hk : k ≤ 8) : keepB x k = keepB y k ↔ ∀ j, j < k → bitI x j = bitI y j := by
  rw [← div_iff hx hy k hk]
  unfold keepB
  have hp : (0 : Int) < 2 ^ (8 - k) := Int.pow_pos (by decide)
  exact ⟨fun h => Int.eq_of_mul_eq_mul_right (by omega) h, fun h => by rw [h]⟩
theorem kept_iff (b : Int) : ∀ (s t : List Int) (i : Nat), s.length = t.length → (∀ x ∈ s, isB x) → (∀ x ∈ t, isB x) → (keptL b i s = keptL b i t ↔ ∀ j : Nat, j < 8 * s.length → ((8 * i + j : Nat) : Int) < b → bitAt s j = bitAt t j)
  | [], [], i, _, _, _ => ⟨fun _ j hj => by simp at hj, fun _ => rfl⟩
  | [], _ :: _, _, h, _, _ => by cases h
  | _ :: _, [], _, h, _, _ => by cases h
  | x :: s, y :: t, i, hl, hs, ht => by
    have ih := kept_iff b s t (i + 1) (by simpa using hl) (fun x hx => hs x (List.mem_cons_of_mem _ hx)) (fun x hx => ht x (List.mem_cons_of_mem _ hx))
    have hk := keepB_iff (hs x List.mem_cons_self) (ht y List.mem_cons_self) (nbits b i) (by unfold nbits; omega)
    have hat : ∀ (z : Int) (u : List Int) (j : Nat), bitAt (z :: u) (j + 8) = bitAt u j := fun z u j => by
      unfold bitAt
      rw [show (j + 8) / 8 = j / 8 + 1 by omega, show (j + 8) % 8 = j % 8 by omega]
      rfl
    have ha0 : ∀ (z : Int) (u : List Int) (j : Nat), j < 8 → bitAt (z :: u) j = bitI z j := fun z u j hj => by
      unfold bitAt
      rw [show j / 8 = 0 by omega, show j % 8 = j by omega]
      rfl
    show keepB x (nbits b i) :: keptL b (i + 1) s = keepB y (nbits b i) :: keptL b (i + 1) t ↔ _
    rw [List.cons.injEq, hk, ih, List.length_cons]
    constructor
    · rintro ⟨h1, h2⟩ j hj hb
      rcases Nat.lt_or_ge j 8 with h8 | h8
      · rw [ha0 x s j h8, ha0 y t j h8]
        exact h1 j (by unfold nbits; omega)
      · obtain ⟨j', rfl⟩ : ∃ j', j = j' + 8 := ⟨j - 8, by omega⟩
        rw [hat, hat]
        exact h2 j' (by omega) (by omega)
    · intro h
      refine ⟨fun j hj => ?_, fun j hj hb => ?_⟩
      · have hj8 : j < 8 := by unfold nbits at hj; omega
        have := h j (by omega) (by unfold nbits at hj; omega)
        rwa [ha0 x s j hj8, ha0 y t j hj8] at this
      · have := h (j + 8) (by omega) (by omega)
        rwa [hat, hat] at this

end Go.Proofs.YtgfmfgombmpodaaGreatDoor

/- host.Name and the reference's Name alike. -/
namespace Go.Proofs.YtgfmfgombmpodaaGreatDoor
open Pv
set_option linter.unusedVariables false
def lw (c : Int) : Int := if 65 ≤ c ∧ c ≤ 90 then c + 32 else c
def okHc (c : Int) : Bool := (decide (97 ≤ c) && decide (c ≤ 122)) || (decide (48 ≤ c) && decide (c ≤ 57)) || c == 45 || c == 95
def labB (w : List Int) : Bool := decide (1 ≤ w.length) && decide (w.length ≤ 63) && !(w.head? == some 45) && !(w.getLast? == some 45) && w.all okHc
theorem okHc_iff (c : Int) : okHc c = true ↔ (97 ≤ c ∧ c ≤ 122) ∨ (48 ≤ c ∧ c ≤ 57) ∨ c = 45 ∨ c = 95 := by
  unfold okHc
  simp only [Bool.or_eq_true, Bool.and_eq_true, decide_eq_true_eq, beq_iff_eq]
  omega
theorem sg_lw (c : Int) (h46 : c ≠ 46) : (sg c ≠ 0 → sg c = lw c ∧ okHc (lw c) = true) ∧ (sg c = 0 → okHc (lw c) = false) := by
  rw [sg_spec]
  unfold lw
  by_cases h1 : 65 ≤ c ∧ c ≤ 90
  · rw [if_pos h1, if_pos h1]
    exact ⟨fun _ => ⟨rfl, (okHc_iff _).2 (by omega)⟩, fun h => by omega⟩
  · rw [if_neg h1, if_neg h1]
    by_cases h2 : (97 ≤ c ∧ c ≤ 122) ∨ (48 ≤ c ∧ c ≤ 57) ∨ c = 45 ∨ c = 95
    · rw [if_pos h2]
      exact ⟨fun _ => ⟨rfl, (okHc_iff _).2 h2⟩, fun h => by omega⟩
    · rw [if_neg h2]
      refine ⟨fun h => absurd rfl h, fun _ => ?_⟩
      cases hk : okHc c with
      | false => rfl
      | true => exact absurd ((okHc_iff _).1 hk) h2
theorem lw_46 {c : Int} (h : c ≠ 46) : lw c ≠ 46 := by unfold lw; split <;> omega
theorem split_c (x : Int) (r : List Int) (h : x ≠ 46) : ∃ p ps, splitI r 46 = p :: ps ∧ splitI (x :: r) 46 = (x :: p) :: ps := by
  have hne := splitI_ne r 46
  cases hq : splitI r 46 with
  | nil => exact absurd hq hne
  | cons p ps =>
    refine ⟨p, ps, rfl, ?_⟩
    have : splitI (x :: r) 46 = cond (x == 46) ([] :: splitI r 46) (match splitI r 46 with | [] => [[x]] | w :: q => (x :: w) :: q) := rfl
    rw [this, beq_eq_false_iff_ne.2 h, cond_false, hq]
/-- The part of a label that has been read. -/
structure Pre (w : List Int) (out : List Int) : Prop where
  len : w.length ≤ 63
  head : w.head? ≠ some 45
  ok : w.all okHc = true
  last : w ≠ [] → out.getLast? = w.getLast?
theorem lab_ext {w p : List Int} {c : Int} (h : (w.all okHc && okHc c) = false) : labB (w ++ c :: p) = false := by
  have h2 : (w ++ c :: p).all okHc = false := by rw [List.all_append, List.all_cons, ← Bool.and_assoc, h, Bool.false_and]
  unfold labB
  rw [h2, Bool.and_false]
theorem nameP_eq : ∀ (r out w : List Int), Pre w out → ∀ p ps, splitI (r.map lw) 46 = p :: ps → nameP out w.length r = cond (labB (w ++ p) && ps.all labB) (some (out ++ r.map lw)) none
  | [], out, w, hP, p, ps, hs => by
    have hs : ([[]] : List (List Int)) = p :: ps := hs
    injection hs with h1 h2
    subst h1; subst h2
    rw [nameP, List.append_nil]
    show cond (endsB out w.length) none (some out) = cond (labB w && true) (some (out ++ [])) none
    rw [Bool.and_true, List.append_nil]
    unfold endsB labB
    cases w with
    | nil => rfl
    | cons x w =>
      have hh := hP.head
      have hl := hP.last (by simp)
      rw [hl, hP.ok, decide_eq_true hP.len, beq_eq_false_iff_ne.2 hh, decide_eq_true (show 1 ≤ (x :: w).length by simp), beq_eq_false_iff_ne.2 (show (x :: w).length ≠ 0 by simp)]
      cases ((x :: w).getLast? == some 45) <;> rfl
  | c :: r, out, w, hP, p, ps, hs => by
    rw [nameP]
    by_cases h46 : c = 46
    · subst h46
      have e : splitI ((46 :: r).map lw) 46 = [] :: splitI (r.map lw) 46 := rfl
      rw [e] at hs
      injection hs with h1 h2
      subst h1; subst h2
      rw [show ((46 : Int) == 46) = true from rfl, cond_true, List.append_nil]
      have hne := splitI_ne (r.map lw) 46
      cases hq : splitI (r.map lw) 46 with
      | nil => exact absurd hq hne
      | cons p' ps' =>
        have ih := nameP_eq r (out ++ [46]) [] ⟨by simp, by simp, rfl, fun h => absurd rfl h⟩ p' ps' hq
        have ih : nameP (out ++ [46]) 0 r = cond (labB p' && ps'.all labB) (some ((out ++ [46]) ++ r.map lw)) none := ih
        rw [ih, List.all_cons]
        have hb : labB w = !(endsB out w.length) := by
          unfold endsB labB
          cases w with
          | nil => rfl
          | cons x w =>
            have hh := hP.head
            have hl := hP.last (by simp)
            rw [hl, hP.ok, decide_eq_true hP.len, beq_eq_false_iff_ne.2 hh, decide_eq_true (show 1 ≤ (x :: w).length by simp), beq_eq_false_iff_ne.2 (show (x :: w).length ≠ 0 by simp)]
            cases ((x :: w).getLast? == some 45) <;> rfl
        rw [hb]
        cases endsB out w.length with
        | true => rfl
        | false =>
          rw [cond_false, Bool.not_false, Bool.true_and, List.append_assoc]
          rfl
    · have hx := lw_46 h46
      obtain ⟨p', ps', hq, hs'⟩ := split_c (lw c) (r.map lw) hx
      have hs : splitI (lw c :: r.map lw) 46 = p :: ps := hs
      rw [hs'] at hs
      injection hs with h1 h2
      subst h1; subst h2
      obtain ⟨g1, g2⟩ := sg_lw c h46
      rw [beq_eq_false_iff_ne.2 h46, cond_false]
      by_cases hz : sg c = 0
      · rw [beq_iff_eq.2 hz, Bool.true_or, Bool.true_or, cond_true, lab_ext (by rw [g2 hz, Bool.and_false]), Bool.false_and, cond_false]
      · obtain ⟨e1, e2⟩ := g1 hz
        rw [beq_eq_false_iff_ne.2 hz, Bool.false_or]
        by_cases h63 : w.length = 63
        · rw [beq_iff_eq.2 h63, Bool.true_or, cond_true]
          have : labB (w ++ lw c :: p') = false := by
            unfold labB
            rw [decide_eq_false (show ¬ (w ++ lw c :: p').length ≤ 63 by rw [List.length_append, List.length_cons]; omega), Bool.and_false]; rfl
          rw [this]; rfl
        · rw [beq_eq_false_iff_ne.2 h63, Bool.false_or]
          by_cases hd : sg c = 45 ∧ w.length = 0
          · rw [beq_iff_eq.2 hd.1, beq_iff_eq.2 hd.2, Bool.and_self, cond_true]
            have hw : w = [] := List.eq_nil_of_length_eq_zero hd.2
            have : labB (w ++ lw c :: p') = false := by
              subst hw
              unfold labB
              rw [← e1, hd.1]
              simp
            rw [this]; rfl
          · have : (sg c == 45 && w.length == 0) = false := by
              rw [Bool.and_eq_false_iff, beq_eq_false_iff_ne, beq_eq_false_iff_ne]
              by_cases h : sg c = 45
              · exact .inr fun h2 => hd ⟨h, h2⟩
              · exact .inl h
            rw [this, cond_false, e1]
            have hP' : Pre (w ++ [lw c]) (out ++ [lw c]) := by
              refine ⟨by have := hP.len; rw [List.length_append]; simp; omega, ?_, by rw [List.all_append, hP.ok]; simpa using e2, fun _ => by simp⟩
              cases w with
              | nil =>
                intro h
                have : lw c = 45 := by simpa using h
                exact hd ⟨by rw [e1, this], rfl⟩
              | cons x w => exact hP.head
            have ih := nameP_eq r (out ++ [lw c]) (w ++ [lw c]) hP' p' ps' hq
            rw [List.length_append] at ih
            rw [show w.length + 1 = w.length + [lw c].length from rfl, ih, List.append_assoc, List.append_assoc]
            rfl
noncomputable def nameQ (s : List Int) : List Int × Int := cond (decide (1 ≤ s.length) && decide (s.length ≤ 253) && (splitI (s.map lw) 46).all labB) (s.map lw, 0) ([], 2)
theorem nameR_eq (s : List Int) : nameR s = nameQ s := by
  unfold nameR nameQ
  have hne := splitI_ne (s.map lw) 46
  cases hq : splitI (s.map lw) 46 with
  | nil => exact absurd hq hne
  | cons p ps =>
    have h := nameP_eq s [] [] ⟨by simp, by simp, rfl, fun h => absurd rfl h⟩ p ps hq
    have h : nameP [] 0 s = cond (labB p && ps.all labB) (some (s.map lw)) none := h
    rw [h, List.all_cons]
    by_cases h253 : 253 < s.length
    · rw [decide_eq_true h253, decide_eq_false (show ¬ s.length ≤ 253 by omega), Bool.and_false]; rfl
    · rw [decide_eq_false h253, cond_false, decide_eq_true (show s.length ≤ 253 by omega)]
      by_cases h1 : 1 ≤ s.length
      · rw [decide_eq_true h1, Bool.true_and, Bool.true_and]
        cases (labB p && ps.all labB) <;> rfl
      · have : s = [] := List.eq_nil_of_length_eq_zero (by omega)
        subst this
        have hq : ([[]] : List (List Int)) = p :: ps := hq
        injection hq with q1 q2
        subst q1; subst q2
        rfl
/-! ### the reference -/
theorem lower_loop (s : List Int) (hs : s.length ≤ 1000000) : ∀ (r pre : List Int), s.length = pre.length + r.length → loopC (F_wlvref_Lower_L4 s) ((pre.length : Int), pre ++ r) = some (.inr (pre ++ r.map lw))
  | [], pre, hl => by
    refine loop_inl ?_
    unfold F_wlvref_Lower_L4
    dsimp only
    rw [decide_eq_false (by rw [hl]; simp), cond_false]
    rfl
  | x :: r, pre, hl => by
    have hl' : s.length = pre.length + (r.length + 1) := hl
    have ih := lower_loop s hs r (pre ++ [lw x]) (by rw [List.length_append]; simp; omega)
    have e : ((pre ++ [lw x]).length : Int) = (pre.length : Int) + 1 := by rw [List.length_append]; simp
    refine loop_inr (s' := (((pre ++ [lw x]).length : Int), (pre ++ [lw x]) ++ r)) ?_ (ih.trans ?_)
    · unfold F_wlvref_Lower_L4 chk
      dsimp only
      have h1 : (decide ((0 : Int) ≤ (pre.length : Int)) && decide ((pre.length : Int) < (s.length : Int))) = true := by simp; omega
      have h2 : decide ((pre.length : Int) < (s.length : Int)) = true := decide_eq_true (by omega)
      have hg : getI (pre ++ x :: r) (pre.length : Int) = some x := getI_nat (by simp)
      have h3 : decide ((pre.length : Int) < ((pre ++ x :: r).length : Int)) = true := decide_eq_true (by rw [List.length_append, List.length_cons]; omega)
      rw [h1, h2, cond_true, hg, h3]
      simp only [cond_true, Option.bind_some]
      rw [Int.toNat_natCast, set_mid, wrap_in (by omega) (by omega), e, List.append_assoc]
      unfold lw
      by_cases hx : 65 ≤ x ∧ x ≤ 90
      · rw [decide_eq_true (show x ≥ 65 from hx.1), decide_eq_true hx.2, cond_true, cond_true, if_pos hx, u8_sm (by omega) (by omega)]; rfl
      · rw [if_neg hx]
        by_cases h65 : x ≥ 65
        · rw [decide_eq_true h65, decide_eq_false (show ¬ x ≤ 90 by omega)]; rfl
        · rw [decide_eq_false h65]; rfl
    · rw [List.append_assoc]; rfl
theorem Lower_eq (s : List Int) (hs : s.length ≤ 1000000) : F_wlvref_Lower s = some (s.map lw) := by
  have h : loopC (F_wlvref_Lower_L4 s) (0, s) = some (.inr (s.map lw)) := lower_loop s hs s [] (by simp)
  unfold F_wlvref_Lower
  rw [join_inr (s := s.map lw) h]
  unfold F_wlvref_Lower_J2 chk
  dsimp only
  rw [Nat.ble_eq_true_of_le (by simp), cond_true, List.take_of_length_le (by simp)]
theorem lab_loop (w : List Int) (l : List (List Int)) (hw : w.length ≤ 1000) : loopC (F_wlvref15_Name_L17 w) (l, 0) = some (cond (w.all okHc) (.inr l) (.inl (.inl (.inl ([], 2))))) := by
  obtain ⟨r, h1, rfl⟩ := loop_inv (body := F_wlvref15_Name_L17 w) (I := fun st => ∃ i : Nat, st = (l, (i : Int)) ∧ i ≤ w.length ∧ (w.take i).all okHc = true) (m := fun st => w.length - st.2.toNat)
    (Q := fun r => r = cond (w.all okHc) (.inr l) (.inl (.inl (.inl ([], 2))))) (fun st ⟨i, e, hi, ha⟩ => by
      subst e
      unfold F_wlvref15_Name_L17
      dsimp only
      by_cases hlt : i < w.length
      · have hg := getI_nat (List.getElem?_eq_getElem hlt)
        rw [decide_eq_true (show (i : Int) < (w.length : Int) by omega), cond_true, hg, Option.bind_some, wrap_in (x := (i : Int) + 1) (by omega) (by omega)]
        have next : okHc w[i] = true → ∃ s' : List (List Int) × Int, some (Sum.inr (l, (i : Int) + 1)) = (some (.inr s') : Option ((((((List Int × Int) ⊕ Unit) ⊕ (List (List Int) × Int)) ⊕ List (List Int))) ⊕ (List (List Int) × Int))) ∧ (∃ i : Nat, s' = (l, (i : Int)) ∧ i ≤ w.length ∧ (w.take i).all okHc = true) ∧ w.length - s'.2.toNat < w.length - (i : Int).toNat := fun hk => by
          refine ⟨_, rfl, ⟨i + 1, rfl, by omega, ?_⟩, ?_⟩
          · rw [List.take_add_one, List.getElem?_eq_getElem hlt, List.all_append, ha]
            simpa using hk
          · show w.length - ((i : Int) + 1).toNat < _
            omega
        by_cases h1 : 97 ≤ w[i] ∧ w[i] ≤ 122
        · rw [show (decide (w[i] < 97) || decide (w[i] > 122)) = false by simp; omega, cond_false]
          exact .inr (next ((okHc_iff _).2 (by omega)))
        · rw [show (decide (w[i] < 97) || decide (w[i] > 122)) = true by rw [Bool.or_eq_true, decide_eq_true_iff, decide_eq_true_iff]; omega, cond_true]
          by_cases h2 : (48 ≤ w[i] ∧ w[i] ≤ 57) ∨ w[i] = 45 ∨ w[i] = 95
          · have : (((decide (w[i] < 48) || decide (w[i] > 57)) && (w[i] != 45)) && (w[i] != 95)) = false := by
              rw [Bool.and_eq_false_iff, Bool.and_eq_false_iff, Bool.or_eq_false_iff, decide_eq_false_iff_not, decide_eq_false_iff_not, bne_eq_false_iff_eq, bne_eq_false_iff_eq]
              omega
            rw [this, cond_false]
            exact .inr (next ((okHc_iff _).2 (by omega)))
          · have : (((decide (w[i] < 48) || decide (w[i] > 57)) && (w[i] != 45)) && (w[i] != 95)) = true := by
              simp only [Bool.and_eq_true, Bool.or_eq_true, decide_eq_true_eq, bne_iff_ne]
              omega
            rw [this, cond_true]
            refine .inl ⟨_, rfl, ?_⟩
            have hk : okHc w[i] = false := by
              cases hk : okHc w[i] with
              | false => rfl
              | true => exact absurd ((okHc_iff _).1 hk) (by omega)
            have : w.all okHc = false := by
              rw [List.all_eq_false]
              exact ⟨w[i], List.getElem_mem _, by rw [hk]; simp⟩
            rw [this]; rfl
      · rw [decide_eq_false (show ¬ (i : Int) < (w.length : Int) by omega), cond_false]
        refine .inl ⟨_, rfl, ?_⟩
        rw [List.take_of_length_le (by omega)] at ha
        rw [ha]; rfl) (l, 0) ⟨0, rfl, by omega, rfl⟩
  exact h1
theorem labs_loop (l : List (List Int)) (hl : l.length ≤ 1000000) : loopC F_wlvref15_Name_L8 (l, 0) = some (cond (l.all labB) (.inr ()) (.inl ([], 2))) := by
  obtain ⟨r, h1, rfl⟩ := loop_inv (body := F_wlvref15_Name_L8) (I := fun st => ∃ i : Nat, st = (l, (i : Int)) ∧ i ≤ l.length ∧ (l.take i).all labB = true) (m := fun st => l.length - st.2.toNat)
    (Q := fun r => r = cond (l.all labB) (.inr ()) (.inl ([], 2))) (fun st ⟨i, e, hi, ha⟩ => by
      subst e
      unfold F_wlvref15_Name_L8
      dsimp only
      by_cases hlt : i < l.length
      · have hg := getI_nat (List.getElem?_eq_getElem hlt)
        rw [decide_eq_true (show (i : Int) < (l.length : Int) by omega), cond_true, hg, Option.bind_some]
        obtain ⟨w, hw⟩ : ∃ w, l[i] = w := ⟨_, rfl⟩
        rw [hw]
        have bad : labB w = false → cond (l.all labB) (Sum.inr ()) (Sum.inl (([] : List Int), (2 : Int))) = (Sum.inl ([], 2) : (List Int × Int) ⊕ Unit) := fun hb => by
          have : l.all labB = false := by
            rw [List.all_eq_false]
            exact ⟨l[i], List.getElem_mem _, by rw [hw, hb]; simp⟩
          rw [this]; rfl
        by_cases hlen : 1 ≤ w.length ∧ w.length ≤ 63
        · rw [decide_eq_false (show ¬ (w.length : Int) < 1 by omega), decide_eq_false (show ¬ (w.length : Int) > 63 by omega), Bool.or_self, cond_false]
          cases w with
          | nil => simp at hlen
          | cons x w' =>
            have g0 : getI (x :: w') 0 = some x := getI_nat (i := 0) rfl
            have hgl : ∃ y, (x :: w').getLast? = some y ∧ getI (x :: w') (IntKind.i64.wrap (((x :: w').length : Int) - 1)) = some y := by
              rw [wrap_in (by omega) (by omega)]
              obtain ⟨y, q1, q2⟩ := getI_of (l := x :: w') (j := ((x :: w').length : Int) - 1) (by omega) (by omega)
              refine ⟨y, ?_, q1⟩
              rw [List.getLast?_eq_getElem?, ← q2]
              congr 1; omega
            obtain ⟨y, y1, y2⟩ := hgl
            rw [g0, Option.bind_some, y2]
            have hb : labB (x :: w') = (!(x == 45) && !(y == 45) && (x :: w').all okHc) := by
              unfold labB
              rw [decide_eq_true hlen.1, decide_eq_true hlen.2, y1, show (x :: w').head? = some x from rfl]
              rfl
            cases hx : x == 45 with
            | true =>
              refine .inl ⟨_, rfl, (bad (by rw [hb, hx]; rfl)).symm⟩
            | false =>
              rw [cond_false, Option.bind_some]
              cases hy : y == 45 with
              | true => exact .inl ⟨_, rfl, (bad (by rw [hb, hy, Bool.not_true, Bool.and_false]; rfl)).symm⟩
              | false =>
                rw [cond_false, lab_loop (x :: w') l (by omega)]
                cases hk : (x :: w').all okHc with
                | false => exact .inl ⟨_, rfl, (bad (by rw [hb, hk, Bool.and_false])).symm⟩
                | true =>
                  refine .inr ⟨_, rfl, ⟨i + 1, ?_, by omega, ?_⟩, ?_⟩
                  · rw [wrap_in (x := (i : Int) + 1) (by omega) (by omega)]; rfl
                  · rw [List.take_add_one, List.getElem?_eq_getElem hlt, List.all_append, ha, hw]
                    show (true && (labB (x :: w') && true)) = true
                    rw [hb, hx, hy, hk]; rfl
                  · show l.length - (IntKind.i64.wrap ((i : Int) + 1)).toNat < l.length - (i : Int).toNat
                    rw [wrap_in (x := (i : Int) + 1) (by omega) (by omega)]
                    omega
        · have : (decide ((w.length : Int) < 1) || decide ((w.length : Int) > 63)) = true := by
            rw [Bool.or_eq_true, decide_eq_true_iff, decide_eq_true_iff]; omega
          rw [this, cond_true]
          refine .inl ⟨_, rfl, (bad ?_).symm⟩
          unfold labB
          have : (decide (1 ≤ w.length) && decide (w.length ≤ 63)) = false := by
            rw [Bool.and_eq_false_iff, decide_eq_false_iff_not, decide_eq_false_iff_not]; omega
          rw [this]; rfl
      · rw [decide_eq_false (show ¬ (i : Int) < (l.length : Int) by omega), cond_false]
        refine .inl ⟨_, rfl, ?_⟩
        rw [List.take_of_length_le (by omega)] at ha
        rw [ha]; rfl) (l, 0) ⟨0, rfl, by omega, rfl⟩
  exact h1
theorem refName_eq (s : List Int) (hs : s.length ≤ 1000000) : F_wlvref15_Name s = some (nameQ s) := by
  unfold F_wlvref15_Name nameQ
  by_cases hlen : 1 ≤ s.length ∧ s.length ≤ 253
  · rw [decide_eq_false (show ¬ (s.length : Int) < 1 by omega), decide_eq_false (show ¬ (s.length : Int) > 253 by omega), Bool.or_self, cond_false, Lower_eq s hs, Option.bind_some, Split_eq _ 46 (by simp; omega), Option.bind_some]
    have hsl := split_len (s.map lw) 46 (by simp; omega)
    rw [List.length_map] at hsl
    have hl := labs_loop (splitI (s.map lw) 46) (by omega)
    rw [decide_eq_true hlen.1, decide_eq_true hlen.2, Bool.true_and, Bool.true_and, hl]
    cases (splitI (s.map lw) 46).all labB <;> rfl
  · have : (decide ((s.length : Int) < 1) || decide ((s.length : Int) > 253)) = true := by
      rw [Bool.or_eq_true, decide_eq_true_iff, decide_eq_true_iff]; omega
    rw [this, cond_true]
    have h2 : (decide (1 ≤ s.length) && decide (s.length ≤ 253)) = false := by
      rw [Bool.and_eq_false_iff, decide_eq_false_iff_not, decide_eq_false_iff_not]; omega
    rw [h2]; rfl
end Go.Proofs.YtgfmfgombmpodaaGreatDoor

/- Lines of a configuration in plain words: numbers, bytes, patterns, ports, words. -/
namespace Go.Proofs.YtgfmfgombmpodaaGreatDoor
open Pv
set_option linter.unusedVariables false
theorem number_dgs (n : Nat) (lo hi : Int) (h : n < 1000000000000000000) : F_conf_number (dgs n) lo hi = some ((n : Int), decide ((n : Int) ≥ lo) && decide ((n : Int) ≤ hi)) := by
  have hl := dgs_len 18 n (by omega)
  unfold F_conf_number
  rw [show F_strconv_Atoi (dgs n) = some ((n : Int), false) by
    unfold F_strconv_Atoi
    rw [Nat.ble_eq_true_of_le (by omega), atoi_dgs n (by omega)]; rfl, Option.bind_some]
  rw [show notB ((n : Int), false).2 = true from rfl, cond_true]
  unfold F_strconv_Itoa
  rw [Option.bind_some, itoa_dgs, beq_self_eq_true, Bool.true_and]
theorem split_w (w r : List Int) (c : Int) (h : ∀ x ∈ w, x ≠ c) : splitI (w ++ c :: r) c = w :: splitI r c := by
  induction w with
  | nil =>
    show cond (c == c) _ _ = _
    rw [beq_self_eq_true]; rfl
  | cons x w ih =>
    show cond (x == c) _ (match splitI (w ++ c :: r) c with | [] => [[x]] | w :: r => (x :: w) :: r) = _
    rw [beq_eq_false_iff_ne.2 (h x (by simp)), cond_false, ih fun y hy => h y (by simp [hy])]
theorem split_e (w : List Int) (c : Int) (h : ∀ x ∈ w, x ≠ c) : splitI w c = [w] := by
  induction w with
  | nil => rfl
  | cons x w ih =>
    show cond (x == c) _ (match splitI w c with | [] => [[x]] | w :: r => (x :: w) :: r) = _
    rw [beq_eq_false_iff_ne.2 (h x (by simp)), cond_false, ih fun y hy => h y (by simp [hy])]
theorem bytesOf_at {s : List Int} {lo hi : Int} (n : Nat) {l : List Int} (h : iterC (F_conf_bytesOf_L4 s) n (([] : List Int), 0) = some (.inr l)) : F_conf_bytesOf s lo hi = F_conf_bytesOf_J2 s lo hi l := by
  unfold F_conf_bytesOf
  rw [loop_of_iter h]
  rfl
theorem dig_ge {n : Nat} {c : Int} (h : c ∈ dgs n) : 48 ≤ c ∧ c ≤ 57 := dig_of (List.all_eq_true.1 (dgs_spec (n + 1) n (by omega)).1 c h)
theorem dgs_inj {a b : Nat} (h : dgs a = dgs b) : a = b := by
  have h1 := (dgs_spec (a + 1) a (by omega)).2.1
  have h2 := (dgs_spec (b + 1) b (by omega)).2.1
  rw [h] at h1
  omega
theorem pat_star : F_conf_pattern [42] = some (false, 0, [], [], 0, 0, 0, true) := rfl
abbrev tenN : List Int := [49, 48, 46, 48, 46, 48, 46, 48, 47, 56]
theorem net_ten : F_addr_ParseNet tenN = some ([10, 0, 0, 0], 8, 0) := by
  unfold F_addr_ParseNet
  rw [show F_strings_Cut tenN [47] = some ([49, 48, 46, 48, 46, 48, 46, 48], [56], true) by kernel_rfl, Option.bind_some, Parse_eq _ (by decide)]
  rw [show parseR [49, 48, 46, 48, 46, 48, 46, 48] = ([10, 0, 0, 0], 0) by
    unfold parseR
    rw [show (fourR [49, 48, 46, 48, 46, 48, 46, 48]).2 = true by kernel_rfl, cond_true]
    kernel_rfl, Option.bind_some]
  rw [show ((([10, 0, 0, 0] : List Int), (0 : Int)).2 != 0) = false by kernel_rfl, cond_false, cond_true]
  rw [show F_addr_decimal [56] (IntKind.i64.wrap (8 * (([10, 0, 0, 0] : List Int).length : Int))) = some (8, true) by kernel_rfl, Option.bind_some]
  rw [show (!((8 : Int), true).2) = false from rfl, cond_false, kept_eq [10, 0, 0, 0] 8 (by omega) (by decide) (fun x hx => by simp at hx; unfold isB; omega), Option.bind_some]
  kernel_rfl
theorem pat_ten : F_conf_pattern tenN = some (false, 3, [], [10, 0, 0, 0], 8, 0, 0, true) := by
  unfold F_conf_pattern
  rw [show (tenN == ([42] : List Int)) = false by kernel_rfl, cond_false, show F_strings_CutPrefix tenN [46] = some (tenN, false) by kernel_rfl, Option.bind_some, cond_false, net_ten, Option.bind_some]
  rfl
theorem span_19 : F_conf_span [49, 45, 57] = some (1, 9, true) := by kernel_rfl
theorem usAt_none : ∀ (us : List UserD) (s : List Int), (∀ u ∈ us, u.1 ≠ s) → usAt us s = -1
  | [], s, _ => rfl
  | u :: us, s, h => by
    show cond (u.1 == s) 0 (cond (decide (usAt us s = -1)) (-1) (usAt us s + 1)) = -1
    rw [beq_eq_false_iff_ne.2 (h u (by simp)), usAt_none us s fun v hv => h v (by simp [hv])]
    rfl
theorem usAt_some : ∀ (us : List UserD) (k : Nat) (u : UserD), us[k]? = some u → (∀ (j : Nat) (v : UserD), j < k → us[j]? = some v → v.1 ≠ u.1) → usAt us u.1 = k
  | [], k, u, h, _ => by simp at h
  | v :: us, 0, u, h, _ => by
    simp at h
    subst h
    show cond (v.1 == v.1) 0 _ = _
    rw [beq_self_eq_true]; rfl
  | v :: us, k + 1, u, h, h2 => by
    show cond (v.1 == u.1) 0 (cond (decide (usAt us u.1 = -1)) (-1) (usAt us u.1 + 1)) = _
    rw [beq_eq_false_iff_ne.2 (h2 0 v (by omega) rfl), cond_false, usAt_some us k u (by simpa using h) fun j w hj hw => h2 (j + 1) w (by omega) (by simpa using hw)]
    rw [decide_eq_false (by omega), cond_false]
    omega
theorem first18 : F_wlvlaw18_first = some true := by
  unfold F_wlvlaw18_first
  rw [show F_conf_Parse [] = some (16, 100, 65535, 1000, 1000000, 1000, 16384, [], 0) from rfl]
  rfl
end Go.Proofs.YtgfmfgombmpodaaGreatDoor

/- ConfFull: the plain part. -/
namespace Go.Proofs.YtgfmfgombmpodaaGreatDoor
open Pv
set_option linter.unusedVariables false
def ffs : List Int := List.replicate 64 102
def uL (n : Nat) : List Int := ((((([117, 115, 101, 114, 32, 117] : List Int) ++ dgs n) ++ ([32, 48, 48, 32] : List Int)) ++ ffs) ++ ([32, 49, 32, 49, 32, 49] : List Int))
def rL : List Int := [100, 101, 110, 121, 32, 117, 48, 32, 49, 48, 46, 48, 46, 48, 46, 48, 47, 56, 32, 49, 45, 57]
noncomputable def uN (n : Nat) : UserD := (117 :: dgs n, ([0], List.replicate 32 255), 1, (Vc.fl 1, Vc.fl 1), [])
theorem full_dig : loopC (S := List Int) (R := (Bool) ⊕ (List Int)) (F_wlvlaw18_ConfFull_L9) ([] : List Int) = some (.inr ffs) := loop_of_iter (n := 33) (by kernel_rfl)
theorem dgs_short {n : Nat} (h : n < 1000000) : (dgs n).length ≤ 6 := dgs_len 5 n (by omega)
theorem uL_split (n : Nat) : splitI (uL n) 32 = [lbU, 117 :: dgs n, [48, 48], ffs, [49], [49], [49]] := by
  have e : uL n = [117, 115, 101, 114] ++ 32 :: ((117 :: dgs n) ++ 32 :: ([48, 48] ++ 32 :: (ffs ++ 32 :: ([49] ++ 32 :: ([49] ++ 32 :: [49]))))) := by
    unfold uL
    simp
  have hd : ∀ x ∈ (117 :: dgs n : List Int), x ≠ 32 := fun x hx => by
    rcases List.mem_cons.1 hx with rfl | hx
    · decide
    · have := dig_ge hx; omega
  rw [e, split_w _ _ _ (by decide), split_w _ _ _ hd, split_w _ _ _ (by decide), split_w _ _ _ (by unfold ffs; intro x hx; rw [List.eq_of_mem_replicate hx]; decide), split_w _ _ _ (by decide), split_w _ _ _ (by decide), split_e _ _ (by decide)]
  rfl
theorem bytes_00 : F_conf_bytesOf [48, 48] 1 32 = some ([0], true) := by
  rw [bytesOf_at 2 (l := [0]) (by kernel_rfl)]
  kernel_rfl
theorem bytes_ff : F_conf_bytesOf ffs 32 32 = some (List.replicate 32 255, true) := by
  rw [bytesOf_at 33 (l := List.replicate 32 255) (by kernel_rfl)]
  kernel_rfl
theorem num_1 (hi : Int) (h : 1 ≤ hi) : F_conf_number [49] 1 hi = some (1, true) := by
  rw [show ([49] : List Int) = dgs 1 from by kernel_rfl, number_dgs 1 _ _ (by omega)]
  rw [decide_eq_true (by omega), decide_eq_true (by omega)]; rfl
theorem num_0 (hi : Int) (h : 1 ≤ hi) : F_conf_number [49] 0 hi = some (1, true) := by
  rw [show ([49] : List Int) = dgs 1 from by kernel_rfl, number_dgs 1 _ _ (by omega)]
  rw [decide_eq_true (by omega), decide_eq_true (by omega)]; rfl
theorem uName_ok {n : Nat} (h : n < 1000000) : F_conf_named (117 :: dgs n) = some true := by
  have hl := dgs_short h
  have ha : (117 :: dgs n : List Int).all okc = true := List.all_eq_true.2 fun x hx => by
    unfold okc
    rcases List.mem_cons.1 hx with rfl | hx
    · decide
    · have := dig_ge hx
      exact decide_eq_true (by omega)
  unfold F_conf_named
  rw [ha, show Nat.ble (117 :: dgs n : List Int).length 64 = true from Nat.ble_eq_true_of_le (by simp; omega)]
  rfl
theorem uL_len {n : Nat} (h : n < 1000000) : (uL n).length ≤ 1000 := by
  have := dgs_short h
  unfold uL ffs
  simp
  omega
theorem uL_line (x : RSt) (n : Nat) (hn : n < 1000000) (hx : x.us.length ≤ 16) (ha : usAt x.us (117 :: dgs n) = -1) :
    lineP x (uL n) = cond (Nat.beq x.us.length 16) (some (x, 7)) (some ({ x with us := x.us ++ [uN n] }, 0)) := by
  unfold lineP
  rw [show Nat.ble (uL n).length 4000000000 = true from Nat.ble_eq_true_of_le (by have := uL_len hn; omega), Nat.ble_eq_true_of_le hx, uL_split]
  show userP x [117 :: dgs n, [48, 48], ffs, [49], [49], [49]] = _
  show ((F_conf_named (117 :: dgs n)).bind fun q => cond q (cond (decide (0 ≤ usAt x.us (117 :: dgs n))) (some (x, 2)) (
      (F_conf_bytesOf [48, 48] 1 32).bind fun sa => (F_conf_bytesOf ffs 32 32).bind fun di => (F_conf_number [49] 1 1000).bind fun n' => (F_conf_number [49] 0 1125899906842624).bind fun up => (F_conf_number [49] 0 1125899906842624).bind fun dn => userG x (117 :: dgs n) sa di n' up dn)) (some (x, 2))) = _
  rw [uName_ok hn, Option.bind_some, cond_true, ha, bytes_00, bytes_ff, num_1 _ (by omega), num_0 _ (by omega)]
  rw [show decide ((0 : Int) ≤ -1) = false from rfl, cond_false]
  simp only [Option.bind_some]
  unfold userG
  rfl
theorem rL_split : splitI rL 32 = [lbD, [117, 48], tenN, [49, 45, 57]] := by kernel_rfl
def rN : RuleD := (false, 3, [], ([10, 0, 0, 0], 8), 1, 9)
theorem rL_line (x : RSt) (sc : List Int × List Int) (t : Int) (b : Nat × Nat) (rs : List RuleD) (tl : List UserD) (hx : x.us = ([117, 48], sc, t, b, rs) :: tl) (hl : x.us.length ≤ 16) (hr : rs.length ≤ 64) :
    lineP x rL = cond (Nat.beq rs.length 64) (some (x, 7)) (some ({ x with us := ([117, 48], sc, t, b, rs ++ [rN]) :: tl }, 0)) := by
  unfold lineP
  rw [show Nat.ble rL.length 4000000000 = true from rfl, Nat.ble_eq_true_of_le hl, rL_split]
  show ruleP x false [[117, 48], tenN, [49, 45, 57]] = _
  show cond (decide (usAt x.us [117, 48] < 0)) (some (x, 2)) ((F_conf_pattern tenN).bind fun p => (F_conf_span [49, 45, 57]).bind fun sp => ruleG x [117, 48] false p sp) = _
  have hu : usAt x.us [117, 48] = 0 := by rw [hx]; rfl
  rw [hu, pat_ten, span_19]
  rw [show decide ((0 : Int) < 0) = false from rfl, cond_false]
  simp only [Option.bind_some]
  unfold ruleG
  rw [hu, hx]
  show cond (Nat.beq rs.length 64) _ (cond (Nat.ble rs.length 64) _ _) = _
  rw [Nat.ble_eq_true_of_le hr]
  rfl
theorem skip_u (n : Nat) : skipL (uL n) = false := rfl
theorem parse_users (rest : List (List Int)) : ∀ (k i : Nat), i ≤ 16 → i + k < 1000000 → parseL ((List.range' i k).map uL ++ rest) { rst0 with us := (List.range i).map uN } = if i + k ≤ 16 then parseL rest { rst0 with us := (List.range (i + k)).map uN } else some ({ rst0 with us := (List.range 16).map uN }, 7) := fun k => by
  induction k with
  | zero =>
    intro i hi _
    rw [if_pos (by omega)]
    rfl
  | succ k ih =>
    intro i hi hm
    rw [List.range'_succ, List.map_cons, List.cons_append]
    show cond (skipL (uL i)) _ ((lineP _ (uL i)).bind fun p => cond (decide (p.2 = 0)) (parseL _ p.1) (some p)) = _
    rw [skip_u, cond_false, uL_line _ i (by omega) (by simpa using hi) (usAt_none _ _ fun u hu => by
      have hu : u ∈ (List.range i).map uN := hu
      rw [List.mem_map] at hu
      obtain ⟨j, hj, rfl⟩ := hu
      have hj := List.mem_range.1 hj
      intro e
      have e : (117 :: dgs j : List Int) = 117 :: dgs i := e
      injection e with _ e
      have := dgs_inj e
      omega)]
    rcases Nat.lt_or_ge i 16 with h | h
    · rw [show Nat.beq (RSt.us { rst0 with us := (List.range i).map uN }).length 16 = false from by
        show Nat.beq ((List.range i).map uN).length 16 = false
        rw [List.length_map, List.length_range]
        cases hb : Nat.beq i 16 with
        | false => rfl
        | true => have := Nat.eq_of_beq_eq_true hb; omega, cond_false]
      show parseL _ _ = _
      have := ih (i + 1) (by omega) (by omega)
      rw [List.range_succ, List.map_append] at this
      rw [show i + (k + 1) = i + 1 + k by omega]
      exact this
    · have hi16 : i = 16 := by omega
      subst hi16
      rw [if_neg (by omega)]
      rfl
theorem skip_r : skipL rL = false := rfl
theorem parse_rules (sc : List Int × List Int) (t : Int) (b : Nat × Nat) (tl : List UserD) (hl : tl.length ≤ 15) : ∀ (k : Nat) (x : RSt) (rs : List RuleD), x.us = ([117, 48], sc, t, b, rs) :: tl → rs.length ≤ 64 →
    ∃ p, parseL (List.replicate k rL) x = some p ∧ (rs.length + k ≤ 64 → p.2 = 0 ∧ p.1.us = ([117, 48], sc, t, b, rs ++ List.replicate k rN) :: tl) ∧ (¬ rs.length + k ≤ 64 → p.2 = 7) := fun k => by
  induction k with
  | zero =>
    intro x rs hx hr
    exact ⟨(x, 0), rfl, fun _ => ⟨rfl, by simpa using hx⟩, fun h => absurd hr h⟩
  | succ k ih =>
    intro x rs hx hr
    rw [List.replicate_succ]
    show ∃ p, cond (skipL rL) _ ((lineP x rL).bind fun p => cond (decide (p.2 = 0)) (parseL _ p.1) (some p)) = some p ∧ _
    rw [skip_r, cond_false, rL_line x sc t b rs tl hx (by rw [hx]; simp; omega) hr]
    rcases Nat.lt_or_ge rs.length 64 with h | h
    · rw [show Nat.beq rs.length 64 = false from by
        cases hb : Nat.beq rs.length 64 with
        | false => rfl
        | true => have := Nat.eq_of_beq_eq_true hb; omega, cond_false]
      obtain ⟨p, h1, h2, h3⟩ := ih { x with us := ([117, 48], sc, t, b, rs ++ [rN]) :: tl } (rs ++ [rN]) rfl (by simp; omega)
      refine ⟨p, h1, fun h => ?_, fun h => h3 (by simp; omega)⟩
      obtain ⟨q1, q2⟩ := h2 (by simp; omega)
      refine ⟨q1, ?_⟩
      rw [q2, List.append_assoc]
      rfl
    · have h64 : rs.length = 64 := by omega
      rw [h64]
      exact ⟨(x, 7), rfl, fun h => by omega, fun _ => rfl⟩
theorem users_loop (n : Int) : ∀ (k i : Nat) (l : List (List Int)), (i : Int) + k = n → i + k < 1000 → l.length + k < 1000 → loopC (S := List (List Int) × Int) (R := (Bool) ⊕ (List (List Int))) (F_wlvlaw18_ConfFull_L15 n ffs) (l, (i : Int)) = some (.inr (l ++ (List.range' i k).map uL)) := fun k => by
  induction k with
  | zero =>
    intro i l h _ _
    refine loop_inl ?_
    unfold F_wlvlaw18_ConfFull_L15
    dsimp only
    rw [decide_eq_false (by omega), cond_false]
    simp
  | succ k ih =>
    intro i l h h2 h3
    have hd : (dgs i).length ≤ 6 := dgs_short (by omega)
    have hml : maxLen = 140737488355328 ∨ 1000000 ≤ maxLen := .inr (by unfold maxLen; omega)
    have hm : 1000000 ≤ maxLen := by unfold maxLen; omega
    refine loop_inr (s' := (l ++ [uL i], ((i + 1 : Nat) : Int))) ?_ (by
      have := ih (i + 1) (l ++ [uL i]) (by omega) (by omega) (by simp; omega)
      rw [List.append_assoc] at this
      exact this)
    unfold F_wlvlaw18_ConfFull_L15
    dsimp only
    rw [decide_eq_true (by omega), cond_true, Dec_eq (i : Int) (by omega), Option.bind_some, Int.toNat_natCast]
    unfold chk
    rw [Nat.ble_eq_true_of_le (by simp; omega), cond_true, Nat.ble_eq_true_of_le (by simp; omega), cond_true, Nat.ble_eq_true_of_le (by simp [ffs]; omega), cond_true, Nat.ble_eq_true_of_le (by simp [ffs]; omega), cond_true]
    rw [decide_eq_true (by simp; omega), decide_eq_true (by simp; omega)]
    rw [show IntKind.i64.wrap ((i : Int) + 1) = ((i + 1 : Nat) : Int) from by rw [wrap_in (by omega) (by omega)]; omega]
    rfl
theorem rules_loop (n : Int) : ∀ (k i : Nat) (l : List (List Int)), (i : Int) + k = n → i + k < 1000 → l.length + k < 2000 → loopC (S := List (List Int) × Int) (R := (Bool) ⊕ (List (List Int))) (F_wlvlaw18_ConfFull_L21 n) (l, (i : Int)) = some (.inr (l ++ List.replicate k rL)) := fun k => by
  induction k with
  | zero =>
    intro i l h _ _
    refine loop_inl ?_
    unfold F_wlvlaw18_ConfFull_L21
    dsimp only
    rw [decide_eq_false (by omega), cond_false]
    simp
  | succ k ih =>
    intro i l h h2 h3
    have hm : 1000000 ≤ maxLen := by unfold maxLen; omega
    refine loop_inr (s' := (l ++ [rL], ((i + 1 : Nat) : Int))) ?_ (by
      have := ih (i + 1) (l ++ [rL]) (by omega) (by omega) (by simp; omega)
      rw [List.append_assoc] at this
      exact this)
    unfold F_wlvlaw18_ConfFull_L21
    dsimp only
    rw [decide_eq_true (by omega), cond_true]
    unfold chk
    rw [decide_eq_true (by simp; omega), decide_eq_true (by simp; omega)]
    rw [show IntKind.i64.wrap ((i : Int) + 1) = ((i + 1 : Nat) : Int) from by rw [wrap_in (by omega) (by omega)]; omega]
    rfl
theorem full_parse (n m : Nat) (h1 : 1 ≤ n) (h2 : n ≤ 30) (h3 : m ≤ 100) :
    ∃ x : ConfR, F_conf_Parse ((List.range' 0 n).map uL ++ List.replicate m rL) = some x ∧ (n ≤ 16 ∧ m ≤ 64 → x.2.2.2.2.2.2.2.2 = 0 ∧ x.2.2.2.2.2.2.2.1.length = n ∧ ∃ u, x.2.2.2.2.2.2.2.1[0]? = some u ∧ u.2.2.2.2.length = m) ∧ (¬ (n ≤ 16 ∧ m ≤ 64) → x.2.2.2.2.2.2.2.2 = 7 ∧ x.2.2.2.2.2.2.2.1 = []) := by
  have hp := parse_users (List.replicate m rL) n 0 (by omega) (by omega)
  rw [Nat.zero_add] at hp
  have hp : parseL ((List.range' 0 n).map uL ++ List.replicate m rL) rst0 = _ := hp
  unfold F_conf_Parse
  rw [Nat.ble_eq_true_of_le (by simp; omega), cond_true, hp]
  rcases Nat.lt_or_ge 16 n with h16 | h16
  · rw [if_neg (by omega)]
    exact ⟨_, rfl, fun h => by omega, fun _ => ⟨rfl, rfl⟩⟩
  · rw [if_pos h16]
    obtain ⟨n', rfl⟩ : ∃ n', n = n' + 1 := ⟨n - 1, by omega⟩
    obtain ⟨p, q1, q2, q3⟩ := parse_rules ([0], List.replicate 32 255) 1 (Vc.fl 1, Vc.fl 1) ((List.range' 1 n').map uN) (by simp; omega) m { rst0 with us := (List.range (n' + 1)).map uN } [] (by
      show (List.range (n' + 1)).map uN = _
      rw [List.range_eq_range', List.range'_succ, List.map_cons]
      have e0 : uN 0 = ([117, 48], ([0], List.replicate 32 255), 1, (Vc.fl 1, Vc.fl 1), []) := by
        unfold uN
        rw [dgs_one (by omega)]
        rfl
      rw [e0]) (by simp)
    rw [q1, Option.bind_some]
    rw [List.length_nil, Nat.zero_add] at q2 q3
    by_cases h64 : m ≤ 64
    · obtain ⟨r1, r2⟩ := q2 h64
      rw [r1, show decide ((0 : Int) = 0) = true from rfl, cond_true]
      refine ⟨_, rfl, fun _ => ⟨rfl, ?_, ?_⟩, fun h => absurd ⟨h16, h64⟩ h⟩
      · show p.1.us.length = _
        rw [r2]; simp
      · show ∃ u, p.1.us[0]? = some u ∧ _
        rw [r2]
        exact ⟨_, rfl, by simp⟩
    · rw [q3 h64]
      exact ⟨_, rfl, fun h => absurd h.2 h64, fun _ => ⟨rfl, rfl⟩⟩
theorem ConfFull_true (a b : Int) : F_wlvlaw18_ConfFull a b = some true := by
  unfold F_wlvlaw18_ConfFull
  rw [first18]
  simp only [Option.bind_some, Bool.not_true, cond_false]
  cases hc : (((decide (a < 1)) || (decide (a > 30))) || (decide (b < 0))) || (decide (b > 100)) with
  | true => rfl
  | false =>
    simp only [Bool.or_eq_false_iff, decide_eq_false_iff_not] at hc
    obtain ⟨⟨⟨c1, c2⟩, c3⟩, c4⟩ := hc
    obtain ⟨n, rfl⟩ : ∃ n : Nat, a = n := ⟨a.toNat, by omega⟩
    obtain ⟨m, rfl⟩ : ∃ m : Nat, b = m := ⟨b.toNat, by omega⟩
    rw [cond_false, full_dig]
    show F_wlvlaw18_ConfFull_J8 n m ffs = _
    unfold F_wlvlaw18_ConfFull_J8
    dsimp only
    have e1 := users_loop (n : Int) n 0 [] (by omega) (by omega) (by simp; omega)
    rw [show loopC (S := List (List Int) × Int) (R := (Bool) ⊕ (List (List Int))) (F_wlvlaw18_ConfFull_L15 (n : Int) ffs) (([] : List (List Int)), 0) = _ from e1]
    show F_wlvlaw18_ConfFull_J13 n m ((List.range' 0 n).map uL) = _
    unfold F_wlvlaw18_ConfFull_J13
    dsimp only
    have e2 := rules_loop (m : Int) m 0 ((List.range' 0 n).map uL) (by omega) (by omega) (by simp; omega)
    rw [show loopC (S := List (List Int) × Int) (R := (Bool) ⊕ (List (List Int))) (F_wlvlaw18_ConfFull_L21 (m : Int)) ((List.range' 0 n).map uL, 0) = _ from e2]
    show F_wlvlaw18_ConfFull_J19 n m ((List.range' 0 n).map uL ++ List.replicate m rL) = _
    unfold F_wlvlaw18_ConfFull_J19
    dsimp only
    obtain ⟨x, hx, h1, h2⟩ := full_parse n m (by omega) (by omega) (by omega)
    rw [hx, Option.bind_some, first18]
    simp only [Option.bind_some]
    by_cases hf : n ≤ 16 ∧ m ≤ 64
    · obtain ⟨r1, r2, u, r3, r4⟩ := h1 hf
      rw [decide_eq_false (by omega), decide_eq_false (by omega), Bool.or_self, cond_false, r1, r2]
      rw [show (true && ((0 : Int) == 0)) = true from rfl, cond_true, beq_self_eq_true, cond_true]
      rw [show getI x.2.2.2.2.2.2.2.1 0 = some u from r3, Option.bind_some, r4, beq_self_eq_true]
    · obtain ⟨r1, r2⟩ := h2 hf
      have : (decide ((n : Int) > 16) || decide ((m : Int) > 64)) = true := by
        rw [Bool.or_eq_true, decide_eq_true_eq, decide_eq_true_eq]
        omega
      rw [this, cond_true, r1, r2]
      rfl
end Go.Proofs.YtgfmfgombmpodaaGreatDoor
