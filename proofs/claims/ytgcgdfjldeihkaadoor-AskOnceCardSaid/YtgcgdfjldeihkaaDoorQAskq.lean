/- Requests: what is read of fields, told plainly. -/
import Derived.Test.YtgcgdfjldeihkaaDoorQAskp
import Derived.Test.YtgcgdfjldeihkaaDoorQAskL
namespace Go.Proofs.YtgcgdfjldeihkaaDoor
open Pv
set_option linter.unusedVariables false
def okF (f : RF) : Bool := namedB f.1 && (valuedB f.2.1 && !barredB f.1 f.2.1)
def startsColon : List Int → Bool
  | [] => false
  | x :: _ => x == 58
def stepB (f : RF) (s : RS) : Option RS :=
  cond (okF f) (cond (startsColon f.1) ((takesI s.1 f.1 f.2.1 s.2.1).map fun p => (p, s.2)) (cond (f.1 == lX) (some (s.1, true, cond (s.2.2.2 == 0) f.2.1 s.2.2.1, s.2.2.2 + 1)) (some (s.1, true, s.2.2)))) none
def foldB : List RF → RS → Option RS
  | [], s => some s
  | f :: r, s => (stepB f s).bind (foldB r)
abbrev RS0 : RS := ([], false, [], 0)
def readB (l : List RF) : RO := rdOut (foldB l RS0)
def FOK (f : RF) : Prop := f.1.length ≤ 1000000 ∧ BL f.2.1 ∧ f.2.1.length ≤ 1000000
theorem rdStep_eq {f : RF} (h : FOK f) (s : RS) : rdStep f s = some (stepB f s) := by
  unfold rdStep stepB okF
  rw [named_eq _ h.1, Option.bind_some]
  cases hn : namedB f.1 with
  | false => rfl
  | true =>
    rw [Bool.not_true, cond_false, valued_eq _ h.2.1 h.2.2, Option.bind_some]
    cases valuedB f.2.1 with
    | false => rfl
    | true =>
      rw [Bool.not_true, cond_false, barred_eq, Option.bind_some]
      cases barredB f.1 f.2.1 with
      | true => rfl
      | false =>
        rw [cond_false]
        obtain ⟨n, v⟩ := f
        cases n with
        | nil => cases hn
        | cons x n =>
          show (some x).bind _ = _
          rw [Option.bind_some]
          show _ = some (cond true (cond (x == 58) _ _) none)
          rw [cond_true]
          cases x == 58 with
          | true => rfl
          | false =>
            rw [cond_false, cond_false]
            dsimp only
            cases (x :: n) == lX <;> rfl
theorem rdFold_eq : ∀ {l : List RF} (h : ∀ f ∈ l, FOK f) (s : RS), rdFold l s = some (foldB l s)
  | [], _, _ => rfl
  | f :: l, h, s => by
    show (rdStep f s).bind _ = some ((stepB f s).bind (foldB l))
    rw [rdStep_eq (h f (by simp)), Option.bind_some]
    cases stepB f s with
    | none => rfl
    | some s' => exact rdFold_eq (fun g hg => h g (by simp [hg])) s'
theorem read_eq {l : List RF} (h : ∀ f ∈ l, FOK f) (hl : l.length ≤ 1000000) : F_ask_Read l = some (readB l) := by
  unfold F_ask_Read readB
  rw [Nat.ble_eq_true_of_le hl, cond_true, rdFold_eq h]
  rfl
theorem foldB_app : ∀ (l m : List RF) (s : RS), foldB (l ++ m) s = (foldB l s).bind (foldB m)
  | [], m, s => rfl
  | f :: l, m, s => by
    show (stepB f s).bind (foldB (l ++ m)) = ((stepB f s).bind (foldB l)).bind (foldB m)
    cases stepB f s with
    | none => rfl
    | some s' => exact foldB_app l m s'
theorem fok_of {f : RF} (h : (decide (f.1.length ≤ 1000) && (decide (f.2.1.length ≤ 1000) && f.2.1.all fun x => decide (0 ≤ x) && decide (x < 256))) = true) : FOK f := by
  simp only [Bool.and_eq_true, decide_eq_true_eq, List.all_eq_true] at h
  exact ⟨by omega, fun x hx => h.2.2 x hx, by omega⟩
theorem first24 : F_wlvlaw24_first = some true := by
  unfold F_wlvlaw24_first
  rw [read_eq (fun f hf => fok_of (List.all_eq_true.1 (by decide +kernel : List.all _ (fun f => (decide (f.1.length ≤ 1000) && (decide (f.2.1.length ≤ 1000) && f.2.1.all fun x => decide (0 ≤ x) && decide (x < 256)))) = true) f hf)) (by decide), Option.bind_some, read_eq (fun f hf => fok_of (List.all_eq_true.1 (by decide +kernel : List.all _ (fun f => (decide (f.1.length ≤ 1000) && (decide (f.2.1.length ≤ 1000) && f.2.1.all fun x => decide (0 ≤ x) && decide (x < 256)))) = true) f hf)) (by decide), Option.bind_some]
  decide +kernel
/-! ### AskNames -/
def L0 : List RF := [(lM, lC, false), (lA, [97, 58, 49], false)]
def sg : List Int := [33, 35, 36, 37, 38, 39, 42, 43, 45, 46, 94, 95, 124, 126]
theorem names_fact : ∀ n : Fin 256, (readB ((([] : List RF) ++ L0) ++ [((([120] : List Int) ++ ([(n.val : Int)] : List Int)) ++ ([121] : List Int), [], false)])).2.2.2.2.2 = (((decide ((n.val : Int) ≥ 97) && decide ((n.val : Int) ≤ 122)) || (decide ((n.val : Int) ≥ 48) && decide ((n.val : Int) ≤ 57)) || sg.contains (n.val : Int)) || (n.val : Int) == 96) ∧
    (readB ((([] : List RF) ++ L0) ++ [(([120] : List Int), (([118] : List Int) ++ ([(n.val : Int)] : List Int)) ++ ([119] : List Int), false)])).2.2.2.2.2 = (((n.val : Int) != 0 && (n.val : Int) != 10) && (n.val : Int) != 13) ∧
    (readB ((([] : List RF) ++ L0) ++ [(([120] : List Int), ([(n.val : Int)] : List Int), false)])).2.2.2.2.2 = (((((n.val : Int) != 0 && (n.val : Int) != 10) && (n.val : Int) != 13) && (n.val : Int) != 32) && (n.val : Int) != 9) := by decide +kernel
theorem names_tail (c : Int) (h : 0 ≤ c ∧ c < 256) (b : Bool) (hb : b = ((decide (c ≥ 97) && decide (c ≤ 122)) || (decide (c ≥ 48) && decide (c ≤ 57)) || sg.contains c)) : F_wlvlaw24_AskNames_J7 c (L0, b) = some true := by
  have hf := names_fact ⟨c.toNat, by omega⟩
  dsimp only at hf
  rw [show ((c.toNat : Nat) : Int) = c by omega] at hf
  obtain ⟨h1, h2, h3⟩ := hf
  have hL : ∀ f ∈ L0, FOK f := fun f hf => fok_of (List.all_eq_true.1 (by decide +kernel : L0.all (fun f => (decide (f.1.length ≤ 1000) && (decide (f.2.1.length ≤ 1000) && f.2.1.all fun x => decide (0 ≤ x) && decide (x < 256)))) = true) f hf)
  have hap : ∀ g : RF, FOK g → ∀ f ∈ (([] : List RF) ++ L0) ++ [g], FOK f := fun g hg f hf => by
    rcases List.mem_append.1 hf with hf | hf
    · exact hL f hf
    · rw [List.mem_singleton.1 hf]; exact hg
  have r1 := read_eq (hap ((([120] : List Int) ++ ([c] : List Int)) ++ ([121] : List Int), [], false) ⟨Nat.le_of_ble_eq_true rfl, fun x hx => (by cases hx), Nat.le_of_ble_eq_true rfl⟩) (Nat.le_of_ble_eq_true rfl)
  have r2 := read_eq (hap (([120] : List Int), (([118] : List Int) ++ ([c] : List Int)) ++ ([119] : List Int), false) ⟨Nat.le_of_ble_eq_true rfl, fun x hx => (by simp at hx; rcases hx with rfl | rfl | rfl <;> omega), Nat.le_of_ble_eq_true rfl⟩) (Nat.le_of_ble_eq_true rfl)
  have r3 := read_eq (hap (([120] : List Int), ([c] : List Int), false) ⟨Nat.le_of_ble_eq_true rfl, fun x hx => (by simp at hx; subst hx; exact h), Nat.le_of_ble_eq_true rfl⟩) (Nat.le_of_ble_eq_true rfl)
  unfold F_wlvlaw24_AskNames_J7
  dsimp only
  have k1 : (decide ((([] : List (List Int × List Int × Bool)).length + L0.length) * 40 ≤ 140737488355328) && decide (([] : List (List Int × List Int × Bool)).length + L0.length ≤ maxLen)) = true := by decide
  rw [k1]
  simp only [chk, cond_true]
  rw [show Nat.ble (([120] : List Int).length + ([c] : List Int).length) maxLen = true from rfl, cond_true, show Nat.ble ((([120] : List Int) ++ ([c] : List Int)).length + ([121] : List Int).length) maxLen = true from rfl, cond_true]
  have k2 : ∀ g : RF, (decide (((([] : List (List Int × List Int × Bool)) ++ L0).length + ([g] : List (List Int × List Int × Bool)).length) * 40 ≤ 140737488355328) && decide ((([] : List (List Int × List Int × Bool)) ++ L0).length + ([g] : List (List Int × List Int × Bool)).length ≤ maxLen)) = true := fun g => (by decide : (decide ((2 + 1) * 40 ≤ 140737488355328) && decide (2 + 1 ≤ maxLen)) = true)
  rw [k2, cond_true, r1, Option.bind_some, show Nat.ble (([118] : List Int).length + ([c] : List Int).length) maxLen = true from rfl, cond_true, show Nat.ble ((([118] : List Int) ++ ([c] : List Int)).length + ([119] : List Int).length) maxLen = true from rfl, cond_true, k2, cond_true, r2, Option.bind_some, k2, cond_true, r3, Option.bind_some, first24, Option.bind_some]
  rw [h1, h2, h3, ← hb]
  have bq : ∀ x, bEq x x = true := fun x => by cases x <;> rfl
  rw [bq, bq, bq]
  rfl
theorem names_loop (c : Int) (b0 : Bool) : loopC (S := List RF × Bool × Int) (R := Bool ⊕ (List RF × Bool)) (F_wlvlaw24_AskNames_L9 c) (L0, b0, 0) = some (.inr (L0, b0 || sg.contains c)) := by
  obtain ⟨r, h1, h2⟩ := loop_inv (body := F_wlvlaw24_AskNames_L9 c) (I := fun t : List RF × Bool × Int => t.1 = L0 ∧ 0 ≤ t.2.2 ∧ t.2.2 ≤ 14 ∧ t.2.1 = (b0 || (sg.take t.2.2.toNat).contains c)) (m := fun t => 14 - t.2.2.toNat) (Q := fun q => q = .inr (L0, b0 || sg.contains c)) (fun t ⟨e1, h0, h14, e2⟩ => by
    obtain ⟨l, b, i⟩ := t
    dsimp only at e1 h0 h14 e2
    subst e1
    unfold F_wlvlaw24_AskNames_L9
    dsimp only
    have hd : ∀ b, decide (i < 14) = b → decide (i < (([33, 35, 36, 37, 38, 39, 42, 43, 45, 46, 94, 95, 124, 126] : List Int).length : Int)) = b := fun b h => h
    by_cases hi : i < 14
    · obtain ⟨x, hx, hx2⟩ := getI_of (l := sg) (j := i) h0 hi
      have hx' : getI ([33, 35, 36, 37, 38, 39, 42, 43, 45, 46, 94, 95, 124, 126] : List Int) i = some x := hx
      rw [hd _ (decide_eq_true hi), cond_true, wrap_in (by omega) (by omega), hx']
      have hn : (b0 || (sg.take (i + 1).toNat).contains c) = (b || x == c) := by
        rw [show (i + 1).toNat = i.toNat + 1 by omega, List.take_add_one, hx2, e2, Bool.or_assoc]
        congr 1
        simp
        cases (decide (c ∈ List.take i.toNat sg)) <;> simp
        by_cases hc : x = c
        · rw [hc]; simp
        · rw [beq_eq_false_iff_ne.2 hc, decide_eq_false (Ne.symm hc)]
      cases b with
      | true =>
        refine .inr ⟨(L0, true, i + 1), rfl, ⟨rfl, by show 0 ≤ i + 1; omega, by show i + 1 ≤ 14; omega, ?_⟩, by show 14 - (i + 1).toNat < 14 - i.toNat; omega⟩
        show true = _
        rw [hn]; rfl
      | false =>
        refine .inr ⟨(L0, (x == c), i + 1), rfl, ⟨rfl, by show 0 ≤ i + 1; omega, by show i + 1 ≤ 14; omega, ?_⟩, by show 14 - (i + 1).toNat < 14 - i.toNat; omega⟩
        show (x == c) = _
        rw [hn, Bool.false_or]
    · obtain rfl : i = 14 := by omega
      rw [hd _ (decide_eq_false hi), cond_false]
      refine .inl ⟨_, rfl, ?_⟩
      rw [e2]; rfl) (L0, b0, 0) ⟨rfl, by show (0 : Int) ≤ 0; omega, by show (0 : Int) ≤ 14; omega, by simp⟩
  rw [h1, h2]
theorem askNames_true (c : Int) (h : 0 ≤ c ∧ c < 256) : F_wlvlaw24_AskNames c = some true := by
  unfold F_wlvlaw24_AskNames
  rw [first24, Option.bind_some, Bool.not_true, cond_false]
  cases h1 : (decide (c ≥ 97)) && (decide (c ≤ 122)) with
  | true =>
    rw [cond_true]
    show joinC (loopC (S := List RF × Bool × Int) (R := Bool ⊕ (List RF × Bool)) (F_wlvlaw24_AskNames_L9 c) (L0, true, 0)) _ = _
    rw [join_inr (names_loop c true)]
    exact names_tail c h _ (by rw [h1]; rfl)
  | false =>
    rw [cond_false]
    show joinC (loopC (S := List RF × Bool × Int) (R := Bool ⊕ (List RF × Bool)) (F_wlvlaw24_AskNames_L9 c) (L0, (decide (c ≥ 48)) && (decide (c ≤ 57)), 0)) _ = _
    rw [join_inr (names_loop c _)]
    exact names_tail c h _ (by rw [h1]; rfl)
theorem askNames_wf (c : Int) (h : (Lit.int .u8 c).wf = true) : F_wlvlaw24_AskNames c = some true := askNames_true c (by
  simp [Lit.wf, IntKind.min, IntKind.max, IntKind.signed, IntKind.bits] at h
  omega)
end Go.Proofs.YtgcgdfjldeihkaaDoor
