/- host.Name in plain words; the first input. -/
import Derived.Test.YtblngdnndkljoaaDoorQHost
import Derived.Test.YtblngdnndkljoaaDoorQb
namespace Go.Proofs.YtblngdnndkljoaaDoor
open Pv
set_option linter.unusedVariables false
theorem cond_ex {b : Bool} {x y : Option Int} (hx : ∃ d, x = some d) (hy : ∃ d, y = some d) : ∃ d, cond b x y = some d := by
  cases b
  · exact hy
  · exact hx
theorem some_ex (x : Int) : ∃ d, some x = some d := ⟨x, rfl⟩
noncomputable def sg (c : Int) : Int := (F_host_sign c).getD 0
theorem sign_eq (c : Int) : F_host_sign c = some (sg c) := by
  have : ∃ d, F_host_sign c = some d := by
    unfold F_host_sign
    repeat' (first | with_reducible exact some_ex _ | with_reducible apply cond_ex)
  obtain ⟨d, hd⟩ := this
  unfold sg
  rw [hd]; rfl
def endsB (out : List Int) (n : Nat) : Bool := n == 0 || out.getLast? == some 45
noncomputable def nameP : List Int → Nat → List Int → Option (List Int)
  | out, n, [] => cond (endsB out n) none (some out)
  | out, n, c :: r => cond (c == 46) (cond (endsB out n) none (nameP (out ++ [46]) 0 r)) (cond (sg c == 0 || n == 63 || (sg c == 45 && n == 0)) none (nameP (out ++ [sg c]) (n + 1) r))
def resN : Option (List Int) → List Int × Int
  | none => ([], 2)
  | some b => (b, 0)
noncomputable def nameR (s : List Int) : List Int × Int := resN (cond (decide (253 < s.length)) none (nameP [] 0 s))
theorem name_wrong (s : List Int) (x : List Int × Int × Int) : loopC (F_host_Name_G1 s) (0, x) = some ([], 2) := loop_inl rfl
theorem last_of {out : List Int} (h : out ≠ []) (hl : out.length ≤ 1000) : ∃ x, getI out (IntKind.i64.wrap ((out.length : Int) - 1)) = some x ∧ out.getLast? = some x := by
  have : 0 < out.length := List.length_pos_iff.2 h
  rw [wrap_in (by omega) (by omega)]
  obtain ⟨x, h1, h2⟩ := getI_of (l := out) (j := (out.length : Int) - 1) (by omega) (by omega)
  refine ⟨x, h1, ?_⟩
  rw [List.getLast?_eq_getElem?, ← h2]
  congr 1
  omega
theorem chk_out {a b : Nat} (h : a + b ≤ 1000000) : (decide ((a + b) * 1 ≤ 140737488355328) && decide (a + b ≤ maxLen)) = true := by
  rw [decide_eq_true (by omega), decide_eq_true (by have : maxLen = 9223372036854775807 := rfl; omega)]; rfl
theorem beq_nat (a b : Nat) : ((a : Int) == (b : Int)) = (a == b) := by
  by_cases h : a = b
  · subst h; simp
  · rw [beq_eq_false_iff_ne.2 h, beq_eq_false_iff_ne.2 (by omega)]
theorem name_end {s out : List Int} {i n : Nat} (hn : n = 0 ∨ out ≠ []) (ho : out.length ≤ 253) :
    (endsB out n = true → loopC (F_host_Name_G1 s) (1, (out, (i : Int), (n : Int))) = some ([], 2)) ∧
    (endsB out n = false → (i = s.length → loopC (F_host_Name_G1 s) (1, (out, (i : Int), (n : Int))) = some (out, 0)) ∧ (i < s.length → i ≤ 253 → ∀ r, loopC (F_host_Name_G1 s) (2, (out ++ [46], ((i + 1 : Nat) : Int), ((0 : Nat) : Int))) = some r → loopC (F_host_Name_G1 s) (1, (out, (i : Int), (n : Int))) = some r)) := by
  have hG : F_host_Name_G1 s (1, (out, (i : Int), (n : Int))) = F_host_Name_G1_1 s (out, (i : Int), (n : Int)) := rfl
  by_cases h0 : n = 0
  · subst h0
    refine ⟨fun _ => loop_inr (s' := (0, (out, (i : Int), 0))) ?_ (name_wrong s _), fun h => by simp [endsB] at h⟩
    rw [hG]; rfl
  · obtain ⟨x, h1, h2⟩ := last_of (hn.resolve_left h0) (by omega)
    have hz : ((n : Int) == 0) = false := beq_eq_false_iff_ne.2 (by omega)
    have hz' : (n == 0) = false := beq_eq_false_iff_ne.2 h0
    by_cases hx : x = 45
    · subst hx
      refine ⟨fun _ => loop_inr (s' := (0, (out, (i : Int), (n : Int)))) ?_ (name_wrong s _), fun h => by simp [endsB, h2] at h⟩
      rw [hG]
      unfold F_host_Name_G1_1
      dsimp only
      rw [hz, cond_false, h1]; rfl
    · have hx' : (x == 45) = false := beq_eq_false_iff_ne.2 hx
      refine ⟨fun h => ?_, fun _ => ⟨fun hi => loop_inl ?_, fun hi hi2 r hr => loop_inr ?_ hr⟩⟩
      · unfold endsB at h
        rw [hz', h2] at h
        simp [hx] at h
      · rw [hG]
        unfold F_host_Name_G1_1
        dsimp only
        rw [hz, cond_false, h1, Option.bind_some, hx', cond_false, beq_nat, hi, beq_self_eq_true, cond_true]
      · rw [hG]
        unfold F_host_Name_G1_1
        dsimp only
        rw [hz, cond_false, h1, Option.bind_some, hx', cond_false, beq_nat, beq_eq_false_iff_ne.2 (by omega), cond_false]
        unfold chk
        rw [chk_out (by show out.length + 1 ≤ _; omega), cond_true, wrap_in (by omega) (by omega)]
        rfl
theorem name_loop (s : List Int) (hs : s.length ≤ 253) : ∀ (r out : List Int) (n i : Nat), s.drop i = r → i ≤ s.length → (n = 0 ∨ out ≠ []) → out.length ≤ i → n ≤ 63 → loopC (F_host_Name_G1 s) (2, (out, (i : Int), (n : Int))) = some (resN (nameP out n r))
  | [], out, n, i, hd, hi, hn, ho, hn2 => by
    have hl : i = s.length := by
      have := congrArg List.length hd
      simp at this
      omega
    have hG : F_host_Name_G1 s (2, (out, (i : Int), (n : Int))) = some (.inr (1, (out, (i : Int), (n : Int)))) := by
      show F_host_Name_G1_2 s (out, (i : Int), (n : Int)) = _
      unfold F_host_Name_G1_2
      dsimp only
      rw [beq_nat, hl, beq_self_eq_true, cond_true]
    have he := name_end (s := s) (i := i) hn (by omega)
    refine loop_inr hG ?_
    unfold nameP
    cases hb : endsB out n with
    | true => exact he.1 hb
    | false => exact (he.2 hb).1 hl
  | c :: r, out, n, i, hd, hi, hn, ho, hn2 => by
    have hlt : i < s.length := by
      have := congrArg List.length hd
      simp at this
      omega
    have hr : s.drop (i + 1) = r := by rw [← List.tail_drop, hd]; rfl
    have hc : s[i]? = some c := by rw [← List.head?_drop, hd]; rfl
    have hg : getI s (i : Int) = some c := by
      unfold getI
      rw [decide_eq_true (by omega), cond_true, Int.toNat_natCast, hc]
    have hG : F_host_Name_G1 s (2, (out, (i : Int), (n : Int))) = cond (c == 46) (some (.inr (1, (out, (i : Int), (n : Int))))) (cond ((sg c == 0) || ((n : Int) == 63)) (some (.inr (0, (out, (i : Int), (n : Int))))) (cond ((sg c == 45) && ((n : Int) == 0)) (some (.inr (0, (out, (i : Int), (n : Int))))) (some (.inr (2, (out ++ [sg c], ((i + 1 : Nat) : Int), ((n + 1 : Nat) : Int))))))) := by
      show F_host_Name_G1_2 s (out, (i : Int), (n : Int)) = _
      unfold F_host_Name_G1_2
      dsimp only
      rw [beq_nat, beq_eq_false_iff_ne.2 (show i ≠ s.length by omega), cond_false, hg, Option.bind_some, Option.bind_some, sign_eq, Option.bind_some]
      unfold chk
      rw [chk_out (by show out.length + 1 ≤ _; omega), cond_true, wrap_in (by omega) (by omega), wrap_in (by omega) (by omega)]
      rfl
    have he := name_end (s := s) (i := i) hn (by omega)
    unfold nameP
    cases h46 : c == 46 with
    | true =>
      rw [h46, cond_true] at hG
      rw [cond_true]
      refine loop_inr hG ?_
      cases hb : endsB out n with
      | true => exact he.1 hb
      | false =>
        refine (he.2 hb).2 hlt (by omega) _ ?_
        exact name_loop s hs r (out ++ [46]) 0 (i + 1) hr (by omega) (.inl rfl) (by simp; omega) (by omega)
    | false =>
      have e63 : ((n : Int) == 63) = (n == 63) := beq_nat n 63
      have e0 : ((n : Int) == 0) = (n == 0) := beq_nat n 0
      rw [h46, cond_false, e63, e0] at hG
      rw [cond_false]
      cases h1 : (sg c == 0) || (n == 63) with
      | true =>
        rw [h1, cond_true] at hG
        rw [Bool.true_or, cond_true]
        exact loop_inr hG (name_wrong s _)
      | false =>
        rw [h1, cond_false] at hG
        rw [Bool.false_or]
        cases h2 : (sg c == 45) && (n == 0) with
        | true =>
          rw [h2, cond_true] at hG
          rw [cond_true]
          exact loop_inr hG (name_wrong s _)
        | false =>
          rw [h2, cond_false] at hG
          rw [cond_false]
          have hne : n ≠ 63 := by
            rcases Bool.or_eq_false_iff.1 h1 with ⟨_, h⟩
            exact beq_eq_false_iff_ne.1 h
          refine loop_inr hG ?_
          exact name_loop s hs r (out ++ [sg c]) (n + 1) (i + 1) hr (by omega) (.inr (by simp)) (by simp; omega) (by omega)
theorem name_form (s : List Int) : F_host_Name s = joinC (S := Nat × List Int × Int × Int) (R := List Int × Int) (cond (decide ((s.length : Int) > 253)) (some (.inr (0, (([] : List Int), 0, 0)))) (F_host_Name_G1_2 s ([], 0, 0))) (fun p => loopC (S := Nat × List Int × Int × Int) (R := List Int × Int) (F_host_Name_G1 s) p) := rfl
theorem name_eq (s : List Int) : F_host_Name s = some (nameR s) := by
  rw [name_form]
  unfold nameR
  by_cases h : 253 < s.length
  · rw [decide_eq_true (show (s.length : Int) > 253 by omega), decide_eq_true h, cond_true, cond_true]
    exact name_wrong s _
  · rw [decide_eq_false (show ¬ (s.length : Int) > 253 by omega), decide_eq_false h, cond_false, cond_false]
    have hl := name_loop s (by omega) s [] 0 0 rfl (by omega) (.inl rfl) (by simp) (by omega)
    obtain ⟨k, hk⟩ := iter_of_loop' hl
    cases k with
    | zero => cases hk
    | succ k =>
      unfold iterC at hk
      have hG : F_host_Name_G1 s (2, (([] : List Int), ((0 : Nat) : Int), ((0 : Nat) : Int))) = F_host_Name_G1_2 s ([], 0, 0) := rfl
      rw [hG] at hk
      split at hk
      · cases hk
      · rename_i r hr
        rw [hr]
        exact hk
      · rename_i x hx
        rw [hx]
        exact loop_of_iter hk
abbrev exO : List Int := [69, 120, 97, 109, 112, 108, 101, 46, 111, 114, 103]
theorem ex_dotted : F_addr_dotted exO = some ([], false) := by kernel_rfl
theorem ex_coloned : F_addr_coloned exO = some ([], false) := by
  unfold F_addr_coloned
  refine (join_inr (s := (2, (([] : List Int), (-1), 1, 14, 1))) (by kernel_rfl)).trans (loop_of_iter (n := 3) (by kernel_rfl))
theorem ex_name : F_host_Name exO = some ([101, 120, 97, 109, 112, 108, 101, 46, 111, 114, 103], 0) := by
  rw [name_eq]
  kernel_rfl
theorem ex_parse : F_addr_Parse exO = some ([], 2) := by
  unfold F_addr_Parse
  rw [ex_dotted, Option.bind_some, Bool.not_false, cond_true, ex_coloned, Option.bind_some]
  kernel_rfl
theorem first16 : F_wlvlaw16_first = some true := by
  have hp : F_host_place exO = some ([101, 120, 97, 109, 112, 108, 101, 46, 111, 114, 103], [], true) := by
    unfold F_host_place
    rw [show F_strings_HasPrefix exO [91] = some false by kernel_rfl, Option.bind_some, cond_false, ex_parse, Option.bind_some, ex_name]
    rfl
  have ha : F_host_Authority ([69, 120, 97, 109, 112, 108, 101, 46, 111, 114, 103, 58, 52, 52, 51] : List Int) = some ([101, 120, 97, 109, 112, 108, 101, 46, 111, 114, 103], [], 443, 0) := by
    unfold F_host_Authority
    rw [show F_strings_LastIndexByte ([69, 120, 97, 109, 112, 108, 101, 46, 111, 114, 103, 58, 52, 52, 51] : List Int) 58 = some 11 by kernel_rfl, Option.bind_some]
    rw [show (decide ((11 : Int) < 0)) = false from rfl, cond_false]
    rw [show cutI ([69, 120, 97, 109, 112, 108, 101, 46, 111, 114, 103, 58, 52, 52, 51] : List Int) (IntKind.i64.wrap (11 + 1)) (([69, 120, 97, 109, 112, 108, 101, 46, 111, 114, 103, 58, 52, 52, 51] : List Int).length : Int) = some [52, 52, 51] by kernel_rfl, Option.bind_some]
    rw [show F_strconv_Atoi ([52, 52, 51] : List Int) = some (443, false) by kernel_rfl, Option.bind_some]
    rw [show cutI ([69, 120, 97, 109, 112, 108, 101, 46, 111, 114, 103, 58, 52, 52, 51] : List Int) 0 11 = some exO by kernel_rfl, Option.bind_some, hp, Option.bind_some]
    kernel_rfl
  unfold F_wlvlaw16_first
  rw [ha]
  rfl
end Go.Proofs.YtblngdnndkljoaaDoor
