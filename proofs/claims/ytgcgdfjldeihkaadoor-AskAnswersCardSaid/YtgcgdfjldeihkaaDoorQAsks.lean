/- AskAnswers, AskOnce: the plain parts. -/
import Derived.Test.YtgcgdfjldeihkaaDoorQAskr
import Derived.Test.YtgcgdfjldeihkaaDoorQAskM
namespace Go.Proofs.YtgcgdfjldeihkaaDoor
open Pv
set_option linter.unusedVariables false
def d3 (n : Int) : List Int := [48 + n / 100, 48 + n / 10 % 10, 48 + n % 10]
theorem byteI_ofNat {k : Nat} (h : k < 256) : byteI (UInt8.ofNat k) = (k : Int) := by
  unfold byteI
  rw [UInt8.toNat_ofNat', Nat.mod_eq_of_lt h]
theorem itoa3 {n : Int} (h1 : 100 ≤ n) (h2 : n ≤ 999) : itoaI n = d3 n := by
  obtain ⟨k, rfl⟩ : ∃ k : Nat, n = (k : Int) := ⟨n.toNat, by omega⟩
  unfold itoaI Lib.itoa
  rw [if_neg (by omega), Int.toNat_natCast, Lib.decDigits, dif_neg (by omega), Lib.decDigits_two (by omega) (by omega)]
  simp only [List.cons_append, List.nil_append, List.map_cons, List.map_nil]
  rw [byteI_ofNat (by omega), byteI_ofNat (by omega), byteI_ofNat (by omega)]
  unfold d3
  rw [show k / 10 / 10 = k / 100 by omega]
  simp only [Int.natCast_add, Int.natCast_ediv, Int.natCast_emod]
  rfl
def inR (n : Int) : Bool := decide (100 ≤ n) && decide (n ≤ 999)
def lSt : List Int := [58, 115, 116, 97, 116, 117, 115]
def fPA : RF := ([112, 114, 111, 120, 121, 45, 97, 117, 116, 104, 101, 110, 116, 105, 99, 97, 116, 101], [66, 97, 115, 105, 99, 32, 114, 101, 97, 108, 109, 61, 34, 119, 97, 121, 108, 101, 97, 118, 101, 34], false)
def ansB (n : Int) : List RF := cond (inR n) (cond (n == 407) [(lSt, d3 n, false), fPA] [(lSt, d3 n, false)]) [(lSt, [53, 48, 48], false)]
theorem answer_eq (n : Int) : F_ask_Answer n = some (ansB n) := by
  unfold F_ask_Answer ansB inR F_strconv_Itoa
  by_cases h1 : n < 100
  · rw [decide_eq_true h1, Bool.true_or, cond_true, Option.bind_some, itoa3 (by omega) (by omega), decide_eq_false (by omega), Bool.false_and, cond_false]
    rfl
  · by_cases h2 : n > 999
    · rw [decide_eq_true h2, Bool.or_true, cond_true, Option.bind_some, itoa3 (by omega) (by omega), decide_eq_false (show ¬ n ≤ 999 by omega), Bool.and_false, cond_false]
      rfl
    · rw [decide_eq_false h1, decide_eq_false h2, Bool.or_false, cond_false, Option.bind_some, itoa3 (by omega) (by omega), decide_eq_true (show 100 ≤ n by omega), decide_eq_true (show n ≤ 999 by omega), Bool.and_self, cond_true]
      cases n == 407 <;> rfl
theorem digs {n : Int} (h1 : 100 ≤ n) (h2 : n ≤ 999) : (IntKind.i64.wrap ((IntKind.i64.wrap ((IntKind.i64.wrap ((IntKind.i64.wrap (IntKind.u8.wrap ((48 + n / 100) - 48))) * 100)) + (IntKind.i64.wrap ((IntKind.i64.wrap (IntKind.u8.wrap ((48 + n / 10 % 10) - 48))) * 10)))) + (IntKind.i64.wrap (IntKind.u8.wrap ((48 + n % 10) - 48))))) = n := by
  have hu : ∀ x : Int, 0 ≤ x → x ≤ 9 → IntKind.u8.wrap ((48 + x) - 48) = x := fun x h0 h9 => by
    rw [show 48 + x - 48 = x by omega]
    show (if (false && decide (x % 256 ≥ 128)) = true then x % 256 - 256 else x % 256) = x
    rw [Bool.false_and, if_neg (by decide)]
    omega
  rw [hu _ (by omega) (by omega), hu _ (by omega) (by omega), hu _ (by omega) (by omega)]
  rw [wrap_in (x := n / 100) (by omega) (by omega), wrap_in (x := n / 10 % 10) (by omega) (by omega), wrap_in (x := n % 10) (by omega) (by omega), wrap_in (x := n / 100 * 100) (by omega) (by omega), wrap_in (x := n / 10 % 10 * 10) (by omega) (by omega), wrap_in (x := n / 100 * 100 + n / 10 % 10 * 10) (by omega) (by omega), wrap_in (by omega) (by omega)]
  omega
theorem d3_inj {a b : Int} (h1 : 100 ≤ a) (h2 : a ≤ 999) (h3 : 100 ≤ b) (h4 : b ≤ 999) : (d3 a == d3 b) = (a == b) := by
  by_cases h : a = b
  · subst h; simp
  · rw [beq_eq_false_iff_ne.2 h]
    refine beq_eq_false_iff_ne.2 fun e => h ?_
    unfold d3 at e
    simp only [List.cons.injEq, and_true] at e
    omega
theorem bEq_self (b : Bool) : bEq b b = true := by cases b <;> rfl
theorem answers_true (a b : Int) : F_wlvlaw24_AskAnswers a b = some true := by
  unfold F_wlvlaw24_AskAnswers
  rw [first24, Option.bind_some, Bool.not_true, cond_false, answer_eq, Option.bind_some, answer_eq, Option.bind_some]
  have hlen : ∀ n, 1 ≤ (ansB n).length := fun n => by
    unfold ansB
    cases inR n <;> cases n == 407 <;> exact Nat.le_of_ble_eq_true rfl
  have la := hlen a
  have lb := hlen b
  rw [decide_eq_false (show ¬ ((ansB a).length : Int) < 1 by omega), decide_eq_false (show ¬ ((ansB b).length : Int) < 1 by omega), Bool.or_false, cond_false]
  have hget : ∀ n, getI (ansB n) 0 = some (lSt, cond (inR n) (d3 n) [53, 48, 48], false) := fun n => by
    unfold ansB
    cases inR n <;> cases n == 407 <;> rfl
  rw [hget a, Option.bind_some, Option.bind_some]
  show cond (!(lSt == lSt)) _ _ = _
  rw [beq_self_eq_true, Bool.not_true, cond_false]
  have hl3 : ((((cond (inR a) (d3 a) [53, 48, 48]).length : Int)) != 3) = false := by cases inR a <;> rfl
  have hl2 : bEq (((ansB a).length : Int) == 2) (a == 407) = true := by
    unfold ansB inR
    by_cases h : a = 407
    · subst h; rfl
    · rw [beq_eq_false_iff_ne.2 h]
      cases decide (100 ≤ a) && decide (a ≤ 999) <;> rfl
  have hl4 : decide (((ansB a).length : Int) > 2) = false := by
    unfold ansB
    cases inR a <;> cases a == 407 <;> rfl
  dsimp only
  rw [hl3, hl2, hl4]
  show cond (!((decide (a ≥ 100)) && (decide (a ≤ 999)))) _ _ = _
  by_cases hr : 100 ≤ a ∧ a ≤ 999
  · have hra : inR a = true := by unfold inR; rw [decide_eq_true hr.1, decide_eq_true hr.2]; rfl
    rw [decide_eq_true (show a ≥ 100 from hr.1), decide_eq_true hr.2, Bool.and_self, Bool.not_true, cond_false, Option.bind_some, cond_true, hra]
    have hdig : ((getI (d3 a) 0).bind fun i12 => (getI (d3 a) 1).bind fun i14 => (getI (d3 a) 2).bind fun i16 => some ((IntKind.i64.wrap ((IntKind.i64.wrap ((IntKind.i64.wrap ((IntKind.i64.wrap (IntKind.u8.wrap (i12 - 48))) * 100)) + (IntKind.i64.wrap ((IntKind.i64.wrap (IntKind.u8.wrap (i14 - 48))) * 10)))) + (IntKind.i64.wrap (IntKind.u8.wrap (i16 - 48))))) == a)) = some true := by
      show some ((IntKind.i64.wrap ((IntKind.i64.wrap ((IntKind.i64.wrap ((IntKind.i64.wrap (IntKind.u8.wrap ((48 + a / 100) - 48))) * 100)) + (IntKind.i64.wrap ((IntKind.i64.wrap (IntKind.u8.wrap ((48 + a / 10 % 10) - 48))) * 10)))) + (IntKind.i64.wrap (IntKind.u8.wrap ((48 + a % 10) - 48))))) == a) = some true
      rw [digs hr.1 hr.2, beq_self_eq_true]
    simp only [cond_true, Option.bind_some]
    by_cases hb : 100 ≤ b ∧ b ≤ 999
    · have hrb : inR b = true := by unfold inR; rw [decide_eq_true hb.1, decide_eq_true hb.2]; rfl
      rw [decide_eq_false (show ¬ b < 100 by omega), decide_eq_false (show ¬ b > 999 by omega), Bool.or_false, cond_false, hget b, Option.bind_some, hrb]
      dsimp only
      rw [cond_true, d3_inj hr.1 hr.2 hb.1 hb.2, bEq_self, cond_true]
      exact hdig
    · have : ((decide (b < 100)) || (decide (b > 999))) = true := by
        by_cases h : b < 100
        · rw [decide_eq_true h, Bool.true_or]
        · rw [decide_eq_true (show b > 999 by omega), Bool.or_true]
      rw [this, cond_true]
      exact hdig
  · have hra : inR a = false := by
      unfold inR
      by_cases h : 100 ≤ a
      · rw [decide_eq_false (show ¬ a ≤ 999 by omega), Bool.and_false]
      · rw [decide_eq_false h, Bool.false_and]
    have : ((decide (a ≥ 100)) && (decide (a ≤ 999))) = false := hra
    rw [this, Bool.not_false, cond_true, Option.bind_some, cond_true, hra]
    rfl
/-! ### AskOnce -/
def sumF (l : List RF) : Nat := (l.map fun f => min f.1.length 40001 + min f.2.1.length 40001).sum
theorem sumF_mem : ∀ {l : List RF} {f : RF}, f ∈ l → min f.1.length 40001 + min f.2.1.length 40001 ≤ sumF l
  | g :: l, f, h => by
    have e : sumF (g :: l) = (min g.1.length 40001 + min g.2.1.length 40001) + sumF l := by simp [sumF]
    rw [e]
    rcases List.mem_cons.1 h with rfl | h
    · omega
    · have := sumF_mem (l := l) h
      omega
theorem sumF_le : ∀ (l : List RF), sumF l ≤ 80002 * l.length
  | [] => by simp [sumF]
  | g :: l => by
    have e : sumF (g :: l) = (min g.1.length 40001 + min g.2.1.length 40001) + sumF l := by simp [sumF]
    have := sumF_le l
    rw [e, List.length_cons]
    omega
theorem minI_nat (a b : Nat) : minI (a : Int) (b : Int) = ((min a b : Nat) : Int) := by
  unfold minI
  by_cases h : (b : Int) < (a : Int)
  · rw [decide_eq_true h, cond_true]; omega
  · rw [decide_eq_false h, cond_false]; omega
theorem few_eq (l : List RF) : ∃ b, F_wlvlaw6_Few l = some b ∧ (b = true → l.length ≤ 200 ∧ ∀ f ∈ l, f.1.length ≤ 40000 ∧ f.2.1.length ≤ 40000) := by
  obtain ⟨r, h1, h2⟩ := loop_inv (body := F_wlvlaw6_Few_L4 l) (I := fun s : Int × Int => ∃ k : Nat, s.2 = (k : Int) ∧ k ≤ l.length ∧ k ≤ 200 ∧ s.1 = (sumF (l.take k) : Int)) (m := fun s => 200 - s.2.toNat) (Q := fun q => ∃ k : Nat, k ≤ l.length ∧ (k = l.length ∨ k = 200) ∧ q = .inr (sumF (l.take k) : Int)) (fun s ⟨k, e1, hk, hk2, e2⟩ => by
    obtain ⟨t, i⟩ := s
    dsimp only at e1 e2
    subst e1; subst e2
    unfold F_wlvlaw6_Few_L4
    dsimp only
    have hb := sumF_le (l.take k)
    rw [List.length_take] at hb
    by_cases h : k < l.length ∧ k < 200
    · obtain ⟨x, hx, hx2⟩ := getI_of (l := l) (j := (k : Int)) (by omega) (by omega)
      rw [decide_eq_true (show (k : Int) < (l.length : Int) by omega), decide_eq_true (show (k : Int) < 200 by omega), Bool.and_self, cond_true, hx, Option.bind_some, Option.bind_some]
      have m1 : minI (x.1.length : Int) 40001 = ((min x.1.length 40001 : Nat) : Int) := minI_nat _ 40001
      have m2 : minI (x.2.1.length : Int) 40001 = ((min x.2.1.length 40001 : Nat) : Int) := minI_nat _ 40001
      rw [m1, m2, wrap_in (x := (sumF (l.take k) : Int) + _) (by omega) (by omega), wrap_in (by omega) (by omega), wrap_in (by omega) (by omega)]
      rw [Int.toNat_natCast] at hx2
      refine .inr ⟨_, rfl, ⟨k + 1, by show (k : Int) + 1 = _; omega, by omega, by omega, ?_⟩, by show 200 - ((k : Int) + 1).toNat < 200 - (k : Int).toNat; omega⟩
      show (sumF (l.take k) : Int) + _ + _ = _
      rw [List.take_add_one, hx2]
      simp only [sumF, List.map_append, List.sum_append, Option.toList_some, List.map_cons, List.map_nil, List.sum_cons, List.sum_nil]
      omega
    · have : ((decide ((k : Int) < (l.length : Int))) && (decide ((k : Int) < 200))) = false := by
        by_cases h1 : k < l.length
        · rw [decide_eq_false (show ¬ (k : Int) < 200 by omega), Bool.and_false]
        · rw [decide_eq_false (show ¬ (k : Int) < (l.length : Int) by omega), Bool.false_and]
      rw [this, cond_false]
      exact .inl ⟨_, rfl, k, hk, by omega, rfl⟩) (0, 0) ⟨0, rfl, by omega, by omega, by simp [sumF]⟩
  obtain ⟨k, hk, hk2, rfl⟩ := h2
  refine ⟨(decide ((l.length : Int) ≤ 200)) && (decide ((sumF (l.take k) : Int) ≤ 40000)), ?_, fun hb => ?_⟩
  · unfold F_wlvlaw6_Few
    rw [join_inr h1]; rfl
  · simp only [Bool.and_eq_true, decide_eq_true_eq] at hb
    have hl : l.length ≤ 200 := by omega
    refine ⟨hl, fun f hf => ?_⟩
    have hkl : k = l.length := by omega
    rw [hkl, List.take_length] at hb
    have := sumF_mem hf
    omega
def FieldsBL (l : List RF) : Prop := ∀ f ∈ l, BL f.2.1
theorem fields_of {W : World} {C : Com} {y : (Ty.sl tRF).D} {cs : List Value} (h : RepD W C (.sl tRF) y cs) : FieldsBL y := fun f hf => by
  obtain ⟨a, n, c, e, h4, h5, h6, h7⟩ := h
  obtain ⟨i, hi⟩ := List.mem_iff_getElem?.1 hf
  obtain ⟨ad, us, e1, e2, e3, e4⟩ := h7 i f hi
  obtain ⟨c1, c2, _, _, c3, c4, _, hs, _⟩ := e4
  exact str_of hs
theorem rdOut_no {r : Option RS} (h : (rdOut r).2.2.2.2.2 = false) : rdOut r = (false, [], [], [], 0, false) := by
  cases r with
  | none => rfl
  | some s =>
    have e : rdOut (some s) = cond (wholeI s.1) (valI s.1 lM == lC, valI s.1 lM, valI s.1 lA, s.2.2.1, s.2.2.2, true) (false, [], [], [], 0, false) := rfl
    rw [e] at h ⊢
    cases hw : wholeI s.1 with
    | true => rw [hw] at h; cases h
    | false => rfl
theorem rdOut_yes {r : Option RS} (h : (rdOut r).2.2.2.2.2 = true) : ∃ s, r = some s ∧ wholeI s.1 = true ∧ rdOut r = (valI s.1 lM == lC, valI s.1 lM, valI s.1 lA, s.2.2.1, s.2.2.2, true) := by
  cases r with
  | none => cases h
  | some s =>
    have e : rdOut (some s) = cond (wholeI s.1) (valI s.1 lM == lC, valI s.1 lM, valI s.1 lA, s.2.2.1, s.2.2.2, true) (false, [], [], [], 0, false) := rfl
    cases hw : wholeI s.1 with
    | false => rw [e, hw] at h; cases h
    | true => exact ⟨s, rfl, hw, by rw [e, hw]; rfl⟩
theorem whole_m {p : PA} (h : wholeI p = true) : ∃ v, ascI p lM = some v := by
  unfold wholeI valI at h
  cases hm : ascI p lM with
  | some v => exact ⟨v, rfl⟩
  | none =>
    rw [hm] at h
    cases h
theorem badStep {f : RF} (h : okF f = false) (s : RS) : stepB f s = none := by
  unfold stepB
  rw [h]; rfl
theorem otherKey {f : RF} (h1 : startsColon f.1 = true) (h2 : isKI f.1 = false) (s : RS) : stepB f s = none := by
  unfold stepB takesI
  rw [h1, h2]
  cases okF f <;> rfl
def bads : List RF := [([99, 111, 110, 110, 101, 99, 116, 105, 111, 110], [120], false), ([116, 101], [103, 122, 105, 112], false), ([88], [], false), ([120], [97, 10], false), ([58, 120], [], false), ([], [], false), ([120, 32, 121], [], false), ([120], [32, 97], false)]
theorem bads_none : ∀ f ∈ bads, FOK f ∧ ∀ s, stepB f s = none := fun f hf => by
  refine ⟨fok_of (List.all_eq_true.1 (by decide +kernel : bads.all (fun f => (decide (f.1.length ≤ 1000) && (decide (f.2.1.length ≤ 1000) && f.2.1.all fun x => decide (0 ≤ x) && decide (x < 256)))) = true) f hf), fun s => ?_⟩
  have h := List.all_eq_true.1 (by decide +kernel : bads.all (fun f => !okF f || (startsColon f.1 && !isKI f.1)) = true) f hf
  cases ho : okF f with
  | false => exact badStep ho s
  | true =>
    rw [ho] at h
    simp only [Bool.not_true, Bool.false_or, Bool.and_eq_true, Bool.not_eq_true'] at h
    exact otherKey h.1 h.2 s
theorem ans_no (n : Int) : (readB (ansB n)).2.2.2.2.2 = false := by
  unfold readB ansB
  have h : ∀ v r, foldB ((lSt, v, false) :: r) RS0 = none := fun v r => by
    show (stepB (lSt, v, false) RS0).bind _ = none
    rw [otherKey (f := (lSt, v, false)) rfl rfl]; rfl
  cases inR n <;> cases n == 407 <;> simp only [cond_true, cond_false, h] <;> rfl
theorem ans_fok (n : Int) : ∀ f ∈ ansB n, FOK f := fun f hf => by
  have h5 : FOK (lSt, [53, 48, 48], false) := fok_of (by decide +kernel)
  have hP : FOK fPA := fok_of (by decide +kernel)
  unfold ansB at hf
  cases hr : inR n with
  | false =>
    rw [hr] at hf
    rw [List.mem_singleton.1 hf]; exact h5
  | true =>
    have hb : 100 ≤ n ∧ n ≤ 999 := by simpa [inR] using hr
    have hS : FOK (lSt, d3 n, false) := ⟨Nat.le_of_ble_eq_true rfl, fun x hx => by
      have hx : x ∈ d3 n := hx
      simp only [d3, List.mem_cons, List.not_mem_nil, or_false] at hx
      omega, Nat.le_of_ble_eq_true rfl⟩
    rw [hr, cond_true] at hf
    cases h4 : n == 407 with
    | true =>
      rw [h4, cond_true] at hf
      simp only [List.mem_cons, List.not_mem_nil, or_false] at hf
      rcases hf with rfl | rfl
      · exact hS
      · exact hP
    | false =>
      rw [h4, cond_false] at hf
      rw [List.mem_singleton.1 hf]; exact hS
theorem ans_len (n : Int) : (ansB n).length ≤ 1000000 := by
  unfold ansB
  cases inR n <;> cases n == 407 <;> exact Nat.le_of_ble_eq_true rfl
abbrev fGet : RF := ([58, 109, 101, 116, 104, 111, 100], [71, 69, 84], false)
abbrev fMore : RF := ([120, 45, 109, 111, 114, 101], [121], false)
abbrev fAuth : RF := ([112, 114, 111, 120, 121, 45, 97, 117, 116, 104, 111, 114, 105, 122, 97, 116, 105, 111, 110], [122], false)
theorem stepMore (s : RS) : stepB fMore s = some (s.1, true, s.2.2) := by
  unfold stepB
  rw [show okF fMore = true by decide +kernel]; rfl
theorem stepAuth (s : RS) : stepB fAuth s = some (s.1, true, cond (s.2.2.2 == 0) [122] s.2.2.1, s.2.2.2 + 1) := by
  unfold stepB
  rw [show okF fAuth = true by decide +kernel]; rfl
theorem chk2 {a b : Nat} (ha : a ≤ 500) (hb : b ≤ 500) : (decide ((a + b) * 40 ≤ 140737488355328) && decide (a + b ≤ maxLen)) = true := chk_small (c := 0) (by omega) (by omega)
theorem once_true (l : List RF) (st at_ : Int) (hl : FieldsBL l) : F_wlvlaw24_AskOnce l st at_ = some true := by
  unfold F_wlvlaw24_AskOnce
  rw [first24, Option.bind_some, Bool.not_true, cond_false]
  obtain ⟨b, hb, hb2⟩ := few_eq l
  rw [hb, Option.bind_some]
  by_cases hc : b = true ∧ 0 ≤ at_ ∧ at_ ≤ (l.length : Int)
  case neg =>
    have : (((!b) || (decide (at_ < 0))) || (decide (at_ > (l.length : Int)))) = true := by
      cases b with
      | false => rfl
      | true =>
        by_cases h1 : at_ < 0
        · rw [decide_eq_true h1]; rfl
        · rw [decide_eq_true (show at_ > (l.length : Int) by simp at hc; omega)]; simp
    rw [this, cond_true, Option.bind_some]
  obtain ⟨rfl, hat0, hat1⟩ := hc
  obtain ⟨h200, hlens⟩ := hb2 rfl
  have hF : ∀ f ∈ l, FOK f := fun f hf => ⟨by have := (hlens f hf).1; omega, hl f hf, by have := (hlens f hf).2; omega⟩
  rw [decide_eq_false (show ¬ at_ < 0 by omega), decide_eq_false (show ¬ at_ > (l.length : Int) by omega), Bool.not_true, Bool.or_false, Bool.or_false, cond_false, answer_eq, Option.bind_some, read_eq (ans_fok st) (ans_len st), Option.bind_some, read_eq hF (by omega), Option.bind_some, ans_no, cond_false]
  cases hok : (readB l).2.2.2.2.2 with
  | false =>
    rw [Bool.not_false, cond_true, Option.bind_some, cond_true]
    have := rdOut_no hok
    have : readB l = (false, [], [], [], 0, false) := this
    rw [this]
    rfl
  | true =>
    rw [Bool.not_true, cond_false]
    obtain ⟨s, hs1, hs2, hs3⟩ := rdOut_yes hok
    have hs3 : readB l = (valI s.1 lM == lC, valI s.1 lM, valI s.1 lA, s.2.2.1, s.2.2.2, true) := hs3
    obtain ⟨a, rfl⟩ : ∃ a : Nat, at_ = (a : Int) := ⟨at_.toNat, by omega⟩
    have hal : a ≤ l.length := by omega
    have hloop : ∀ z : Bool × List Int × List Int × List Int × Int, loopC (S := List RF × Int × Bool × List Int × List Int × List Int × Int) (R := Bool ⊕ (Bool × List Int × List Int × List Int × Int)) (F_wlvlaw24_AskOnce_L18 l (a : Int)) (bads, 0, z) = some (.inr z) := fun z => by
      obtain ⟨r, g1, g2⟩ := loop_inv (body := F_wlvlaw24_AskOnce_L18 l (a : Int)) (I := fun t : List RF × Int × Bool × List Int × List Int × List Int × Int => ∃ k : Nat, k ≤ 8 ∧ t = (bads, (k : Int), z)) (m := fun t => 8 - t.2.1.toNat) (Q := fun q => q = .inr z) (fun t ⟨k, hk, e⟩ => by
        subst e
        unfold F_wlvlaw24_AskOnce_L18
        dsimp only
        have hlen : bads.length = 8 := rfl
        by_cases hk8 : k < 8
        · obtain ⟨x, hx, hx2⟩ := getI_of (l := bads) (j := (k : Int)) (by omega) (by rw [hlen]; omega)
          have hxb := bads_none x (List.mem_of_getElem? hx2)
          have c1 : cutI l 0 (a : Int) = some (l.take a) := by
            have := cutL_nat (s := l) (a := 0) (b := a) (by omega) (by omega)
            rwa [List.drop_zero] at this
          have c2 : cutI l (a : Int) (l.length : Int) = some (l.drop a) := by
            have := cutL_nat (s := l) (a := a) (b := l.length) (by omega) (by omega)
            rwa [List.take_length] at this
          have l1 : (l.take a).length ≤ 200 := by rw [List.length_take]; omega
          have l2 : (l.drop a).length ≤ 200 := by rw [List.length_drop]; omega
          have hF2 : ∀ f ∈ (([] : List RF) ++ l.take a) ++ [x] ++ l.drop a, FOK f := fun f hf => by
            simp only [List.nil_append, List.mem_append, List.mem_singleton] at hf
            rcases hf with (h | rfl) | h
            · exact hF f (List.mem_of_mem_take h)
            · exact hxb.1
            · exact hF f (List.mem_of_mem_drop h)
          have hno : readB ((([] : List RF) ++ l.take a) ++ [x] ++ l.drop a) = (false, [], [], [], 0, false) := by
            unfold readB
            rw [List.nil_append, foldB_app, foldB_app]
            cases foldB (l.take a) RS0 with
            | none => rfl
            | some q =>
              rw [Option.bind_some]
              show rdOut (((stepB x q).bind (foldB [])).bind _) = _
              rw [hxb.2]; rfl
          unfold chk
          rw [decide_eq_true (show (k : Int) < (bads.length : Int) by rw [hlen]; omega), cond_true, c1, Option.bind_some, chk2 (by show 0 ≤ 500; omega) (by omega), cond_true, hx, Option.bind_some, chk2 (by rw [List.length_append]; show 0 + (l.take a).length ≤ 500; omega) (by show 1 ≤ 500; omega), cond_true, c2, Option.bind_some, chk2 (by rw [List.length_append, List.length_append]; show 0 + (l.take a).length + 1 ≤ 500; omega) (by omega), cond_true]
          show (∃ r, (F_ask_Read ((([] : List RF) ++ l.take a) ++ [x] ++ l.drop a)).bind _ = _ ∧ _) ∨ ∃ s', (F_ask_Read ((([] : List RF) ++ l.take a) ++ [x] ++ l.drop a)).bind _ = _ ∧ _
          rw [read_eq hF2 (by rw [List.length_append, List.length_append, List.length_append]; show 0 + (l.take a).length + 1 + (l.drop a).length ≤ _; omega), Option.bind_some, hno]
          dsimp only
          rw [cond_false, wrap_in (by omega) (by omega)]
          exact .inr ⟨_, rfl, ⟨k + 1, by omega, by rw [show ((k + 1 : Nat) : Int) = (k : Int) + 1 by omega]⟩, by show 8 - ((k : Int) + 1).toNat < 8 - (k : Int).toNat; omega⟩
        · rw [decide_eq_false (show ¬ (k : Int) < (bads.length : Int) by rw [hlen]; omega), cond_false]
          exact .inl ⟨_, rfl, rfl⟩) (bads, 0, z) ⟨0, by omega, rfl⟩
      rw [g1, g2]
    show joinC (loopC (S := List RF × Int × Bool × List Int × List Int × List Int × Int) (R := Bool ⊕ (Bool × List Int × List Int × List Int × Int)) (F_wlvlaw24_AskOnce_L18 l (a : Int)) (bads, 0, (readB l).1, (readB l).2.1, (readB l).2.2.1, (readB l).2.2.2.1, (readB l).2.2.2.2.1)) (F_wlvlaw24_AskOnce_J16 l) = _
    rw [join_inr (hloop ((readB l).1, (readB l).2.1, (readB l).2.2.1, (readB l).2.2.2.1, (readB l).2.2.2.2.1))]
    unfold F_wlvlaw24_AskOnce_J16 chk
    dsimp only
    have hF3 : ∀ f ∈ (([] : List RF) ++ l) ++ [fGet], FOK f := fun f hf => by
      simp only [List.nil_append, List.mem_append, List.mem_singleton] at hf
      rcases hf with h | rfl
      · exact hF f h
      · exact fok_of (by decide +kernel)
    have hF4 : ∀ f ∈ (([] : List RF) ++ l) ++ [fMore, fAuth], FOK f := fun f hf => by
      simp only [List.nil_append, List.mem_append, List.mem_cons, List.not_mem_nil, or_false] at hf
      rcases hf with h | rfl | rfl
      · exact hF f h
      · exact fok_of (by decide +kernel)
      · exact fok_of (by decide +kernel)
    have r3 : readB ((([] : List RF) ++ l) ++ [fGet]) = (false, [], [], [], 0, false) := by
      unfold readB
      rw [List.nil_append, foldB_app, hs1, Option.bind_some]
      show rdOut ((stepB fGet s).bind (foldB [])) = _
      obtain ⟨v, hv⟩ := whole_m hs2
      have : stepB fGet s = none := by
        unfold stepB takesI
        have e : ascI s.1 fGet.1 = some v := hv
        rw [e]
        rw [show okF fGet = true by decide +kernel]
        show cond true (cond true ((cond (true && !s.2.1 && false) _ none).map _) _) none = none
        rw [Bool.and_false]; rfl
      rw [this]; rfl
    have r4 : readB ((([] : List RF) ++ l) ++ [fMore, fAuth]) = (valI s.1 lM == lC, valI s.1 lM, valI s.1 lA, cond (s.2.2.2 == 0) [122] s.2.2.1, s.2.2.2 + 1, true) := by
      unfold readB
      rw [List.nil_append, foldB_app, hs1, Option.bind_some]
      show rdOut ((stepB fMore s).bind fun s => (stepB fAuth s).bind (foldB [])) = _
      rw [stepMore, Option.bind_some, stepAuth, Option.bind_some]
      show cond (wholeI s.1) _ _ = _
      rw [hs2]; rfl
    have hq : 0 ≤ s.2.2.2 ∧ s.2.2.2 ≤ 200 := by
      have h1 := rdFold_q (l := l) (s := RS0) (s' := s) (by rw [rdFold_eq hF, hs1])
      have h2 : s.2.2.2 ≤ 0 + (l.length : Int) := h1.2
      have h3 : 0 ≤ s.2.2.2 := h1.1
      exact ⟨h3, by omega⟩
    rw [chk2 (by show 0 ≤ 500; omega) (by omega), cond_true, chk2 (by rw [List.length_append]; show 0 + l.length ≤ 500; omega) (by show 1 ≤ 500; omega), cond_true, read_eq hF3 (by rw [List.length_append, List.length_append]; show 0 + l.length + 1 ≤ _; omega), Option.bind_some, chk2 (by rw [List.length_append]; show 0 + l.length ≤ 500; omega) (by show 2 ≤ 500; omega), cond_true, read_eq hF4 (by rw [List.length_append, List.length_append]; show 0 + l.length + 2 ≤ _; omega), Option.bind_some, first24, Option.bind_some, r3, r4, hs3]
    dsimp only
    rw [wrap_in (by omega) (by omega), bEq_self, beq_self_eq_true, beq_self_eq_true]
    simp only [Bool.not_false, Bool.and_self, cond_true]
    have hlc : (valI s.1 lM == ([67, 79, 78, 78, 69, 67, 84] : List Int)) = (valI s.1 lM == lC) := rfl
    rw [hlc, bEq_self]
    cases hz : s.2.2.2 == 0 with
    | true => rfl
    | false => rw [cond_false, cond_false, beq_self_eq_true]; rfl
end Go.Proofs.YtgcgdfjldeihkaaDoor
