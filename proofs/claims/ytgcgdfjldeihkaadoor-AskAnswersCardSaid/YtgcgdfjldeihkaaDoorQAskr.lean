/- AskPseudo: the plain part. -/
import Derived.Test.YtgcgdfjldeihkaaDoorQAskq
namespace Go.Proofs.YtgcgdfjldeihkaaDoor
open Pv
set_option linter.unusedVariables false
abbrev lf : RF := ([58, 112, 97, 116, 104], [47], false)
noncomputable def branchB (l : List RF) (b1 : Bool) (s : List Int) (n : Nat) (i4 i5 : Int) : Option Bool :=
  (F_ask_Read l).bind fun x8 =>
        cond (!x8.2.2.2.2.2)
        ((F_wlvlaw24_first).bind fun b9 =>
          cond b9
          (chk (Nat.ble n maxLen)
            ((F_wlvlaw24_odd s).bind fun b10 =>
              some b10))
          (some false))
        (chk ((l.length : Int) != 0)
          (chk ((l.length : Int) != 0)
            ((cutI l 0 (Int.tmod i4 (l.length : Int))).bind fun l11 =>
              chk (decide ((([] : List RF).length + l11.length) * 40 ≤ 140737488355328) && decide (([] : List RF).length + l11.length ≤ maxLen))
              ((cutI l (IntKind.i64.wrap ((Int.tmod i4 (l.length : Int)) + 1)) (l.length : Int)).bind fun l12 =>
                chk (decide (((([] : List RF) ++ l11).length + l12.length) * 40 ≤ 140737488355328) && decide ((([] : List RF) ++ l11).length + l12.length ≤ maxLen))
                ((cutI l (Int.tmod i5 (l.length : Int)) (l.length : Int)).bind fun l13 =>
                  chk (decide ((([] : List RF).length + l13.length) * 40 ≤ 140737488355328) && decide (([] : List RF).length + l13.length ≤ maxLen))
                  ((cutI l 0 (Int.tmod i5 (l.length : Int))).bind fun l14 =>
                    chk (decide (((([] : List RF) ++ l13).length + l14.length) * 40 ≤ 140737488355328) && decide ((([] : List RF) ++ l13).length + l14.length ≤ maxLen))
                    ((F_ask_Read ((([] : List RF) ++ l11) ++ l12)).bind fun x15 =>
                      (F_ask_Read ((([] : List RF) ++ l13) ++ l14)).bind fun x16 =>
                      chk (decide ((([] : List RF).length + l.length) * 40 ≤ 140737488355328) && decide (([] : List RF).length + l.length ≤ maxLen))
                      (chk (decide (((([] : List RF) ++ l).length + ([lf] : List RF).length) * 40 ≤ 140737488355328) && decide ((([] : List RF) ++ l).length + ([lf] : List RF).length ≤ maxLen))
                        ((F_ask_Read ((([] : List RF) ++ l) ++ ([lf] : List RF))).bind fun x17 =>
                          (F_wlvlaw24_first).bind fun b18 =>
                          cond ((b18 && (!x15.2.2.2.2.2)) && x16.2.2.2.2.2)
                          (some ((bEq x16.1 b1) && (!x17.2.2.2.2.2)))
                          (some false))))))))))
def L2 (s2 : List Int) : List RF := [(lM, lC, false), (lA, s2, false)]
def L3 (s3 : List Int) : List RF := [(lM, [71, 69, 84], false), (lS, [104, 116, 116, 112], false), (lP, s3, false)]
theorem pseudo_form (b1 : Bool) (s2 s3 : List Int) (i4 i5 : Int) : F_wlvlaw24_AskPseudo b1 s2 s3 i4 i5 = (F_wlvlaw24_first).bind fun b6 => cond (!b6) (some false) (cond (((((decide ((s2.length : Int) > 100)) || (decide ((s3.length : Int) < 1))) || (decide ((s3.length : Int) > 100))) || (decide (i4 < 0))) || (decide (i5 < 0))) ((F_wlvlaw24_first).bind fun b7 => some b7)
    (cond b1 (branchB (L2 s2) b1 (s2 ++ s3) (s2.length + s3.length) i4 i5) (branchB (L3 s3) b1 (s2 ++ s3) (s2.length + s3.length) i4 i5))) := rfl
theorem chk_small {a b c : Nat} (h : a + b ≤ 1000000) (hc : c ≤ 1000000) : (decide ((a + b) * 40 ≤ 140737488355328) && decide (a + b ≤ maxLen)) = true := by
  rw [decide_eq_true (by omega), decide_eq_true (by have : maxLen = 9223372036854775807 := rfl; omega)]; rfl
theorem cutL_nat {α : Type} {s : List α} {a b : Nat} (h1 : a ≤ b) (h2 : b ≤ s.length) : cutI s (a : Int) (b : Int) = some ((s.take b).drop a) := by
  unfold cutI
  rw [decide_eq_true (show (0 : Int) ≤ (a : Int) by omega), decide_eq_true (show (a : Int) ≤ (b : Int) by omega), decide_eq_true (show (b : Int) ≤ (s.length : Int) by omega)]
  rfl
theorem tmod_nat {i : Int} {n : Nat} (h : 0 ≤ i) (hn : 0 < n) : ∃ k : Nat, Int.tmod i (n : Int) = (k : Int) ∧ k < n := by
  have h1 := Int.tmod_nonneg (n : Int) h
  have h2 := Int.tmod_lt_of_pos i (show (0 : Int) < (n : Int) by omega)
  exact ⟨(Int.tmod i n).toNat, by omega, by omega⟩
theorem branch_true {l : List RF} {b1 : Bool} {s : List Int} {n : Nat} {i4 i5 : Int} (h0 : 0 < l.length) (h10 : l.length ≤ 10) (hF : ∀ f ∈ l, FOK f) (h4 : 0 ≤ i4) (h5 : 0 ≤ i5) (hn : n ≤ 1000000)
    (hodd : (readB l).2.2.2.2.2 = false → F_wlvlaw24_odd s = some true)
    (hless : (readB l).2.2.2.2.2 = true → ∀ k, k < l.length → (readB (l.take k ++ l.drop (k + 1))).2.2.2.2.2 = false)
    (hround : (readB l).2.2.2.2.2 = true → ∀ t, t < l.length → (readB (l.drop t ++ l.take t)).2.2.2.2.2 = true ∧ (readB (l.drop t ++ l.take t)).1 = b1)
    (hmore : (readB l).2.2.2.2.2 = true → (readB (l ++ [lf])).2.2.2.2.2 = false) : branchB l b1 s n i4 i5 = some true := by
  unfold branchB
  rw [read_eq hF (by omega), Option.bind_some]
  cases hr : (readB l).2.2.2.2.2 with
  | false =>
    rw [Bool.not_false, cond_true, first24, Option.bind_some, cond_true, hodd hr]
    unfold chk
    rw [Nat.ble_eq_true_of_le (show n ≤ maxLen by have : maxLen = 9223372036854775807 := rfl; omega)]
    rfl
  | true =>
    obtain ⟨k, hk, hkl⟩ := tmod_nat h4 h0
    obtain ⟨t, ht, htl⟩ := tmod_nat h5 h0
    have hw : IntKind.i64.wrap ((k : Int) + 1) = ((k + 1 : Nat) : Int) := by rw [wrap_in (by omega) (by omega)]; omega
    have c1 : cutI l 0 (k : Int) = some (l.take k) := by
      have := cutL_nat (s := l) (a := 0) (b := k) (by omega) (by omega)
      rwa [List.drop_zero] at this
    have c2 : cutI l ((k + 1 : Nat) : Int) (l.length : Int) = some (l.drop (k + 1)) := by
      have := cutL_nat (s := l) (a := k + 1) (b := l.length) (by omega) (by omega)
      rwa [List.take_length] at this
    have c3 : cutI l (t : Int) (l.length : Int) = some (l.drop t) := by
      have := cutL_nat (s := l) (a := t) (b := l.length) (by omega) (by omega)
      rwa [List.take_length] at this
    have c4 : cutI l 0 (t : Int) = some (l.take t) := by
      have := cutL_nat (s := l) (a := 0) (b := t) (by omega) (by omega)
      rwa [List.drop_zero] at this
    have hne : ((l.length : Int) != 0) = true := bne_iff_ne.2 (by omega)
    have hz : ∀ a b : Nat, a ≤ 20 → b ≤ 20 → (decide ((a + b) * 40 ≤ 140737488355328) && decide (a + b ≤ maxLen)) = true := fun a b ha hb => chk_small (c := 0) (by omega) (by omega)
    have e1 : (l.take k).length ≤ 10 := by rw [List.length_take]; omega
    have e2 : (l.drop (k + 1)).length ≤ 10 := by rw [List.length_drop]; omega
    have e3 : (l.drop t).length ≤ 10 := by rw [List.length_drop]; omega
    have e4 : (l.take t).length ≤ 10 := by rw [List.length_take]; omega
    have f1 : ∀ f ∈ l.take k ++ l.drop (k + 1), FOK f := fun f hf => by
      rcases List.mem_append.1 hf with h | h
      · exact hF f (List.mem_of_mem_take h)
      · exact hF f (List.mem_of_mem_drop h)
    have f2 : ∀ f ∈ l.drop t ++ l.take t, FOK f := fun f hf => by
      rcases List.mem_append.1 hf with h | h
      · exact hF f (List.mem_of_mem_drop h)
      · exact hF f (List.mem_of_mem_take h)
    have f3 : ∀ f ∈ l ++ [lf], FOK f := fun f hf => by
      rcases List.mem_append.1 hf with h | h
      · exact hF f h
      · rw [List.mem_singleton.1 h]; exact fok_of (by decide +kernel)
    unfold chk
    rw [Bool.not_true, cond_false, hne, cond_true, cond_true, hk, c1, Option.bind_some]
    simp only [List.nil_append, List.length_nil]
    have e0 : (0 : Nat) ≤ 20 := by omega
    rw [hz 0 (l.take k).length e0 (by omega), cond_true, hw, c2, Option.bind_some, hz (l.take k).length (l.drop (k + 1)).length (by omega) (by omega), cond_true, ht, c3, Option.bind_some, hz 0 (l.drop t).length e0 (by omega), cond_true, c4, Option.bind_some, hz (l.drop t).length (l.take t).length (by omega) (by omega), cond_true]
    rw [read_eq f1 (by rw [List.length_append]; omega), Option.bind_some, read_eq f2 (by rw [List.length_append]; omega), Option.bind_some, hz 0 l.length e0 (by omega), cond_true, hz l.length ([lf] : List RF).length (by omega) (by decide), cond_true, read_eq f3 (by rw [List.length_append]; show l.length + 1 ≤ _; omega), Option.bind_some, first24, Option.bind_some]
    rw [hless hr k hkl, (hround hr t htl).1, (hround hr t htl).2, hmore hr]
    cases b1 <;> rfl
theorem odd_eq (s : List Int) (hl : s.length ≤ 1000000) (h : ∃ x ∈ s, x ≤ 32) : F_wlvlaw24_odd s = some true := by
  obtain ⟨r, h1, h2⟩ := loop_inv (body := F_wlvlaw24_odd_L3 s) (I := fun i : Int => 0 ≤ i ∧ i ≤ s.length ∧ ∀ x ∈ s.take i.toNat, ¬ x ≤ 32) (m := fun i => s.length - i.toNat) (Q := fun q => q = .inl true) (fun i ⟨h0, h3, h4⟩ => by
    unfold F_wlvlaw24_odd_L3
    dsimp only
    by_cases hi : i < (s.length : Int)
    · obtain ⟨x, hx, hx2⟩ := getI_of h0 hi
      rw [decide_eq_true hi, cond_true, hx, Option.bind_some]
      by_cases hx3 : x ≤ 32
      · rw [decide_eq_true hx3]
        exact .inl ⟨_, rfl, rfl⟩
      · rw [decide_eq_false hx3, cond_false, wrap_in (by omega) (by omega)]
        refine .inr ⟨i + 1, rfl, ⟨by omega, by omega, fun y hy => ?_⟩, by omega⟩
        rw [show (i + 1).toNat = i.toNat + 1 by omega, List.take_add_one, hx2] at hy
        rcases List.mem_append.1 hy with hy | hy
        · exact h4 y hy
        · rw [show y = x by simpa using hy]; exact hx3
    · exfalso
      obtain ⟨x, hx, hx2⟩ := h
      rw [List.take_of_length_le (by omega)] at h4
      exact h4 x hx hx2) 0 ⟨by omega, by omega, by simp⟩
  subst h2
  unfold F_wlvlaw24_odd
  rw [join_inl h1]
theorem not_valued {s : List Int} (h : valuedB s = false) : ∃ x ∈ s, x ≤ 32 := by
  unfold valuedB at h
  cases h0 : s.contains 0 with
  | true => exact ⟨0, by simpa using h0, by omega⟩
  | false =>
  cases h1 : s.contains 10 with
  | true => exact ⟨10, by simpa using h1, by omega⟩
  | false =>
  cases h2 : s.contains 13 with
  | true => exact ⟨13, by simpa using h2, by omega⟩
  | false =>
    rw [h0, h1, h2] at h
    have hb : ∀ x, blank x = true → x ≤ 32 := fun x hx => by
      unfold blank at hx
      rcases Bool.or_eq_true _ _ ▸ hx with e | e <;> (have := eq_of_beq e; omega)
    cases hL : lastOk s with
    | false =>
      unfold lastOk at hL
      split at hL
      · cases hL
      · rename_i x hx
        exact ⟨x, List.mem_of_getLast? hx, hb x (by simpa using hL)⟩
    | true =>
      cases hH : headOk s with
      | true => rw [hL, hH] at h; cases h
      | false =>
        cases s with
        | nil => cases hH
        | cons x s => exact ⟨x, by simp, hb x (by simpa [headOk] using hH)⟩
/-- A pseudo field that may be. -/
structure KOK (k v : List Int) : Prop where
  key : isKI k = true
  col : startsColon k = true
  ok : okF (k, v, false) = true
theorem okK {k v : List Int} (h : (isKI k && (startsColon k && (namedB k && (!lBars.contains k && !(k == lTe))))) = true) (hv : valuedB v = true) : KOK k v := by
  simp only [Bool.and_eq_true, Bool.not_eq_true'] at h
  obtain ⟨h1, h2, h3, h4, h5⟩ := h
  refine ⟨h1, h2, ?_⟩
  unfold okF barredB
  rw [h3, hv, h4, h5]; rfl
theorem badK {k v : List Int} (hv : valuedB v = false) (q : RS) : stepB (k, v, false) q = none := by
  unfold stepB okF
  rw [hv]
  cases namedB k <;> rfl
theorem stepK {k v : List Int} (h : KOK k v) {p : PA} {a : List Int} {n : Int} (hn : ascI p k = none) : stepB (k, v, false) (p, false, a, n) = some (p ++ [(k, v)], false, a, n) := by
  unfold stepB takesI
  rw [h.ok]
  show cond true (cond (startsColon k) ((cond (isKI k && !false && (ascI p k).isNone) (some (p ++ [(k, v)])) none).map fun p => (p, false, a, n)) _) none = _
  rw [h.col, h.key, hn]; rfl
theorem stepD {k v w : List Int} (h : KOK k v) {p : PA} {a : List Int} {n : Int} (hn : ascI p k = some w) : stepB (k, v, false) (p, false, a, n) = none := by
  unfold stepB takesI
  rw [h.ok]
  show cond true (cond (startsColon k) ((cond (isKI k && !false && (ascI p k).isNone) (some (p ++ [(k, v)])) none).map fun p => (p, false, a, n)) _) none = _
  rw [h.col, h.key, hn]; rfl
theorem fold1 {k1 v1 : List Int} (h1 : KOK k1 v1) : foldB [(k1, v1, false)] RS0 = some ([(k1, v1)], false, [], 0) := by
  show (stepB (k1, v1, false) RS0).bind (foldB []) = _
  rw [stepK h1 (p := []) rfl]; rfl
theorem fold2 {k1 v1 k2 v2 : List Int} (h1 : KOK k1 v1) (h2 : KOK k2 v2) (d12 : (k1 == k2) = false) : foldB [(k1, v1, false), (k2, v2, false)] RS0 = some ([(k1, v1), (k2, v2)], false, [], 0) := by
  show foldB ([(k1, v1, false)] ++ [(k2, v2, false)]) RS0 = _
  rw [foldB_app, fold1 h1, Option.bind_some]
  show (stepB (k2, v2, false) _).bind (foldB []) = _
  rw [stepK h2 (by show cond (k1 == k2) (some v1) none = none; rw [d12]; rfl)]; rfl
theorem fold3 {k1 v1 k2 v2 k3 v3 : List Int} (h1 : KOK k1 v1) (h2 : KOK k2 v2) (h3 : KOK k3 v3) (d12 : (k1 == k2) = false) (d13 : (k1 == k3) = false) (d23 : (k2 == k3) = false) : foldB [(k1, v1, false), (k2, v2, false), (k3, v3, false)] RS0 = some ([(k1, v1), (k2, v2), (k3, v3)], false, [], 0) := by
  show foldB ([(k1, v1, false), (k2, v2, false)] ++ [(k3, v3, false)]) RS0 = _
  rw [foldB_app, fold2 h1 h2 d12, Option.bind_some]
  show (stepB (k3, v3, false) _).bind (foldB []) = _
  rw [stepK h3 (by show cond (k1 == k3) (some v1) (cond (k2 == k3) (some v2) none) = none; rw [d13, d23]; rfl)]; rfl
theorem kM' : KOK lM lC := okK (by decide +kernel) (by decide +kernel)
theorem kG' : KOK lM [71, 69, 84] := okK (by decide +kernel) (by decide +kernel)
theorem kS' : KOK lS [104, 116, 116, 112] := okK (by decide +kernel) (by decide +kernel)
theorem kF' : KOK lP [47] := okK (by decide +kernel) (by decide +kernel)
theorem kA' {s : List Int} (h : valuedB s = true) : KOK lA s := okK (by decide +kernel) h
theorem kP' {s : List Int} (h : valuedB s = true) : KOK lP s := okK (by decide +kernel) h
theorem pseudo_true (b1 : Bool) (s2 s3 : List Int) (i4 i5 : Int) (h2 : BL s2) (h3 : BL s3) : F_wlvlaw24_AskPseudo b1 s2 s3 i4 i5 = some true := by
  rw [pseudo_form, first24, Option.bind_some, Bool.not_true, cond_false]
  by_cases c1 : (s2.length : Int) > 100
  · rw [decide_eq_true c1]; rfl
  by_cases c2 : (s3.length : Int) < 1
  · rw [decide_eq_true c2, Bool.or_true]; rfl
  by_cases c3 : (s3.length : Int) > 100
  · rw [decide_eq_true c3, Bool.or_true]; rfl
  by_cases c4 : i4 < 0
  · rw [decide_eq_true c4, Bool.or_true]; rfl
  by_cases c5 : i5 < 0
  · rw [decide_eq_true c5, Bool.or_true]; rfl
  rw [decide_eq_false c1, decide_eq_false c2, decide_eq_false c3, decide_eq_false c4, decide_eq_false c5]
  show cond b1 _ _ = _
  have hodd : (∃ x ∈ s2, x ≤ 32) ∨ (∃ x ∈ s3, x ≤ 32) → F_wlvlaw24_odd (s2 ++ s3) = some true := fun h => odd_eq _ (by rw [List.length_append]; omega) (by
    rcases h with ⟨x, hx, hx2⟩ | ⟨x, hx, hx2⟩
    · exact ⟨x, by simp [hx], hx2⟩
    · exact ⟨x, by simp [hx], hx2⟩)
  cases b1 with
  | true =>
    rw [cond_true]
    have hr1 : valuedB s2 = true → foldB (L2 s2) RS0 = some ([(lM, lC), (lA, s2)], false, [], 0) := fun h => fold2 kM' (kA' h) (by decide)
    have hr : (readB (L2 s2)).2.2.2.2.2 = valuedB s2 := by
      unfold readB
      cases hv : valuedB s2 with
      | true => rw [hr1 hv]; rfl
      | false =>
        show (rdOut (foldB ([(lM, lC, false)] ++ [(lA, s2, false)]) RS0)).2.2.2.2.2 = _
        rw [foldB_app, fold1 kM', Option.bind_some]
        show (rdOut ((stepB (lA, s2, false) _).bind (foldB []))).2.2.2.2.2 = _
        rw [badK hv]; rfl
    refine branch_true (l := L2 s2) (by show 0 < 2; omega) (by show 2 ≤ 10; omega) (fun f hf => ?_) (by omega) (by omega) (by omega) (fun h => hodd (.inl (not_valued (hr ▸ h)))) (fun h k hk => ?_) (fun h t ht => ?_) (fun h => ?_)
    · simp only [L2, List.mem_cons, List.not_mem_nil, or_false] at hf
      rcases hf with rfl | rfl
      · exact fok_of (by decide +kernel)
      · exact ⟨Nat.le_of_ble_eq_true rfl, h2, by show s2.length ≤ _; omega⟩
    all_goals rw [hr] at h
    · unfold readB
      match k, hk with
      | 0, _ => exact (congrArg (fun q => (rdOut q).2.2.2.2.2) (fold1 (kA' h))).trans rfl
      | 1, _ => exact (congrArg (fun q => (rdOut q).2.2.2.2.2) (fold1 kM')).trans rfl
    · unfold readB
      match t, ht with
      | 0, _ =>
        have e := fold2 kM' (kA' h) (by decide)
        exact ⟨(congrArg (fun q => (rdOut q).2.2.2.2.2) e).trans rfl, (congrArg (fun q => (rdOut q).1) e).trans rfl⟩
      | 1, _ =>
        have e := fold2 (kA' h) kM' (by decide)
        exact ⟨(congrArg (fun q => (rdOut q).2.2.2.2.2) e).trans rfl, (congrArg (fun q => (rdOut q).1) e).trans rfl⟩
    · exact (congrArg (fun q => (rdOut q).2.2.2.2.2) (fold3 kM' (kA' h) kF' (by decide) (by decide) (by decide))).trans rfl
  | false =>
    rw [cond_false]
    have hne : (s3 == ([] : List Int)) = false := by
      cases s3 with
      | nil => exact absurd (show ((([] : List Int).length : Nat) : Int) < 1 by decide) c2
      | cons x s => rfl
    have fin : ∀ p : PA, valI p lM = [71, 69, 84] → (ascI p lM).isSome = true → (ascI p lS).isSome = true → (ascI p lP).isSome = true → valI p lP = s3 → (rdOut (some (p, false, [], 0))).2.2.2.2.2 = true ∧ (rdOut (some (p, false, [], 0))).1 = false := fun p e1 e2 e3 e4 e5 => by
      have hw : wholeI p = true := by
        unfold wholeI
        rw [e1, e2, e3, e4, e5, hne]; rfl
      have : rdOut (some (p, false, [], 0)) = cond (wholeI p) (valI p lM == lC, valI p lM, valI p lA, [], 0, true) (false, [], [], [], 0, false) := rfl
      rw [this, hw, e1]
      exact ⟨rfl, rfl⟩
    have hr1 : valuedB s3 = true → foldB (L3 s3) RS0 = some ([(lM, [71, 69, 84]), (lS, [104, 116, 116, 112]), (lP, s3)], false, [], 0) := fun h => fold3 kG' kS' (kP' h) (by decide) (by decide) (by decide)
    have hr : (readB (L3 s3)).2.2.2.2.2 = valuedB s3 := by
      unfold readB
      cases hv : valuedB s3 with
      | true => rw [hr1 hv]; exact (fin [(lM, [71, 69, 84]), (lS, [104, 116, 116, 112]), (lP, s3)] rfl rfl rfl rfl rfl).1
      | false =>
        show (rdOut (foldB ([(lM, [71, 69, 84], false), (lS, [104, 116, 116, 112], false)] ++ [(lP, s3, false)]) RS0)).2.2.2.2.2 = _
        rw [foldB_app, fold2 kG' kS' (by decide), Option.bind_some]
        show (rdOut ((stepB (lP, s3, false) _).bind (foldB []))).2.2.2.2.2 = _
        rw [badK hv]; rfl
    refine branch_true (l := L3 s3) (by show 0 < 3; omega) (by show 3 ≤ 10; omega) (fun f hf => ?_) (by omega) (by omega) (by omega) (fun h => hodd (.inr (not_valued (hr ▸ h)))) (fun h k hk => ?_) (fun h t ht => ?_) (fun h => ?_)
    · simp only [L3, List.mem_cons, List.not_mem_nil, or_false] at hf
      rcases hf with rfl | rfl | rfl
      · exact fok_of (by decide +kernel)
      · exact fok_of (by decide +kernel)
      · exact ⟨Nat.le_of_ble_eq_true rfl, h3, by show s3.length ≤ _; omega⟩
    all_goals rw [hr] at h
    · unfold readB
      match k, hk with
      | 0, _ => exact (congrArg (fun q => (rdOut q).2.2.2.2.2) (fold2 kS' (kP' h) (by decide))).trans rfl
      | 1, _ => exact (congrArg (fun q => (rdOut q).2.2.2.2.2) (fold2 kG' (kP' h) (by decide))).trans rfl
      | 2, _ => exact (congrArg (fun q => (rdOut q).2.2.2.2.2) (fold2 kG' kS' (by decide))).trans rfl
    · unfold readB
      match t, ht with
      | 0, _ =>
        have e := fold3 kG' kS' (kP' h) (by decide) (by decide) (by decide)
        have f := fin [(lM, [71, 69, 84]), (lS, [104, 116, 116, 112]), (lP, s3)] rfl rfl rfl rfl rfl
        exact ⟨(congrArg (fun q => (rdOut q).2.2.2.2.2) e).trans f.1, (congrArg (fun q => (rdOut q).1) e).trans f.2⟩
      | 1, _ =>
        have e := fold3 kS' (kP' h) kG' (by decide) (by decide) (by decide)
        have f := fin [(lS, [104, 116, 116, 112]), (lP, s3), (lM, [71, 69, 84])] rfl rfl rfl rfl rfl
        exact ⟨(congrArg (fun q => (rdOut q).2.2.2.2.2) e).trans f.1, (congrArg (fun q => (rdOut q).1) e).trans f.2⟩
      | 2, _ =>
        have e := fold3 (kP' h) kG' kS' (by decide) (by decide) (by decide)
        have f := fin [(lP, s3), (lM, [71, 69, 84]), (lS, [104, 116, 116, 112])] rfl rfl rfl rfl rfl
        exact ⟨(congrArg (fun q => (rdOut q).2.2.2.2.2) e).trans f.1, (congrArg (fun q => (rdOut q).1) e).trans f.2⟩
    · unfold readB
      show (rdOut (foldB (L3 s3 ++ [lf]) RS0)).2.2.2.2.2 = _
      rw [foldB_app, hr1 h, Option.bind_some]
      have e := stepD kF' (p := [(lM, [71, 69, 84]), (lS, [104, 116, 116, 112]), (lP, s3)]) (w := s3) (a := []) (n := 0) rfl
      exact congrArg (fun q : Option RS => (rdOut (q.bind (foldB []))).2.2.2.2.2) e
end Go.Proofs.YtgcgdfjldeihkaaDoor
