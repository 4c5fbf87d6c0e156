/- Pure evaluation of the model's code: a region's run, recorded; the records of some of its steps laid over a state. -/
import Derived.Test.YtgcgdfjldeihkaaPa
namespace Go.Proofs.Ytgcgdfjldeihkaa
namespace Pv
set_option linter.unusedVariables false
section
variable {E : Env} {R : Type} {r : R} {ops : Array Oper} {o : Oper}
inductive Run (E : Env) (ops : Array Oper) : List Oper → PSt → List Rec → PSt → Prop
  | nil {st} : Run E ops [] st [] st
  | cons {o l st rc s1 rs s2} : pvStep E ops o st (fun rc s => some (rc, s)) = some (rc, s1) → Run E ops l s1 rs s2 → Run E ops (o :: l) st (rc :: rs) s2
theorem pvOps_run : ∀ (l : List Oper) (tr : List Rec) (st : PSt) (C : List Rec → PSt → Option R), pvOps E ops l tr st C = some r → ∃ rs s, C (tr ++ rs) s = some r ∧ Run E ops l st rs s
  | [], tr, st, C, h => ⟨[], st, by rw [List.append_nil]; exact h, .nil⟩
  | o :: l, tr, st, C, h => by
    unfold pvOps at h
    obtain ⟨rc, s, h1, h2⟩ := pvStep_nat h
    obtain ⟨rs, s2, h3, h4⟩ := pvOps_run l _ _ _ h1
    exact ⟨rc :: rs, s2, by rw [List.append_assoc] at h3; exact h3, .cons (h2 _) h4⟩
theorem Run.len {l : List Oper} {st s : PSt} {rs : List Rec} (h : Run E ops l st rs s) : rs.length = l.length := by
  induction h with
  | nil => rfl
  | cons _ _ ih => simp [ih]
/-- The records of the steps in S, laid over a state in order. -/
def fold (S : Nat → Bool) : List Oper → List Rec → Nat → PSt → PSt
  | o :: l, rc :: rs, k, X => fold S l rs (k + 1) (cond (S k) (appR o.dst rc X) X)
  | _, _, _, X => X
structure View {β : Type} (f : PSt → β) (T : Option Nat → Rec → Prop) : Prop where
  cong : ∀ d rc X X', f X = f X' → f (appR d rc X) = f (appR d rc X')
  keep : ∀ d rc X, ¬ T d rc → f (appR d rc X) = f X
section
variable {β : Type} {f : PSt → β} {T : Option Nat → Rec → Prop}
theorem fold_agree (hf : View f T) {S S' : Nat → Bool} : ∀ (l : List Oper) (rs : List Rec) (k : Nat) (X X' : PSt), f X = f X' → (∀ i o rc, l[i]? = some o → rs[i]? = some rc → S (k + i) = S' (k + i) ∨ ¬ T o.dst rc) → f (fold S l rs k X) = f (fold S' l rs k X')
  | [], _, _, _, _, h, _ => h
  | _ :: _, [], _, _, _, h, _ => h
  | o :: l, rc :: rs, k, X, X', h, hS => by
    unfold fold
    refine fold_agree hf l rs (k + 1) _ _ ?_ fun i o' rc' h1 h2 => by
      have := hS (i + 1) o' rc' h1 h2
      rw [show k + 1 + i = k + (i + 1) by omega]; exact this
    have h0 : S k = S' k ∨ ¬ T o.dst rc := hS 0 o rc rfl rfl
    rcases h0 with e | hn
    · rw [e]
      cases S' k with
      | true => exact hf.cong _ _ _ _ h
      | false => exact h
    · cases S k <;> cases S' k <;> simp only [cond_true, cond_false, hf.keep _ _ _ hn, h]
theorem fold_keep (hf : View f T) {S : Nat → Bool} : ∀ (l : List Oper) (rs : List Rec) (k : Nat) (X : PSt), (∀ i o rc, l[i]? = some o → rs[i]? = some rc → S (k + i) = true → ¬ T o.dst rc) → f (fold S l rs k X) = f X
  | [], _, _, _, _ => rfl
  | _ :: _, [], _, _, _ => rfl
  | o :: l, rc :: rs, k, X, hS => by
    unfold fold
    rw [fold_keep hf l rs (k + 1) _ fun i o' rc' h1 h2 h3 => hS (i + 1) o' rc' h1 h2 (by rw [show k + (i + 1) = k + 1 + i by omega]; exact h3)]
    cases hk : S k with
    | true => exact hf.keep _ _ _ (hS 0 o rc rfl rfl hk)
    | false => rfl
theorem fold_add (hf : View f T) {S S' : Nat → Bool} {j : Nat} {oj : Oper} {rj : Rec} (hj : S j = false) (hj' : S' j = true) (hS' : ∀ i, i ≠ j → S' i = S i) : ∀ (l : List Oper) (rs : List Rec) (k n : Nat) (X : PSt), j = k + n → l[n]? = some oj → rs[n]? = some rj →
    (T oj.dst rj → ∀ i o rc, n < i → l[i]? = some o → rs[i]? = some rc → S (k + i) = true → ¬ T o.dst rc) → f (fold S' l rs k X) = f (appR oj.dst rj (fold S l rs k X))
  | [], _, _, _, _, _, h, _, _ => by simp at h
  | _ :: _, [], _, _, _, _, _, h, _ => by simp at h
  | o :: l, rc :: rs, k, 0, X, hk, h1, h2, hT => by
    have hk : j = k := hk
    subst hk
    cases h1; cases h2
    unfold fold
    rw [hj, hj']
    show f (fold S' l rs (j + 1) (appR oj.dst rj X)) = f (appR oj.dst rj (fold S l rs (j + 1) X))
    have e1 : ∀ Y, f (fold S' l rs (j + 1) Y) = f (fold S l rs (j + 1) Y) := fun Y => fold_agree hf l rs (j + 1) _ _ rfl fun i o' rc' _ _ => .inl (hS' _ (by omega))
    rw [e1]
    by_cases ht : T oj.dst rj
    · have hq := hT ht
      have hk2 : ∀ Y, f (fold S l rs (j + 1) Y) = f Y := fun Y => fold_keep hf l rs (j + 1) Y fun i o' rc' g1 g2 g3 => hq (i + 1) o' rc' (by omega) g1 g2 (by rw [show j + (i + 1) = j + 1 + i by omega]; exact g3)
      rw [hk2, hf.cong _ _ _ _ (hk2 X)]
    · rw [hf.keep _ _ _ ht]
      exact fold_agree hf l rs (j + 1) _ _ (hf.keep _ _ _ ht) fun i o' rc' _ _ => .inl rfl
  | o :: l, rc :: rs, k, n + 1, X, hk, h1, h2, hT => by
    unfold fold
    rw [hS' k (by omega)]
    exact fold_add hf hj hj' hS' l rs (k + 1) n _ (by omega) h1 h2 fun ht i o' rc' hi g1 g2 g3 => hT ht (i + 1) o' rc' (by omega) g1 g2 (by rw [show k + (i + 1) = k + 1 + i by omega]; exact g3)
end
theorem view_φ (t : Nat) : View (fun X => X.φ t) (fun d _ => d = some t) :=
  ⟨fun d rc X X' h => by
    show putP X.φ d rc.val t = putP X'.φ d rc.val t
    by_cases e : d = some t
    · rw [e, putP_at, putP_at]
    · rw [putP_ne e, putP_ne e]; exact h, fun d rc X h => putP_ne h⟩
theorem view_L (k : Nat) : View (fun X => X.L k) (fun _ rc => k ∈ rc.keysW) :=
  ⟨fun d rc X X' h => (putL_congr (L := X'.L) (L' := X.L) h rc.loc), fun d rc X h => by
    show putL X.L rc.loc k = X.L k
    have : ∀ l : List (Nat × List Leaf), k ∉ l.map (·.1) → putL X.L l k = X.L k := fun l => by
      induction l with
      | nil => intro _; rfl
      | cons p r ih =>
        intro hn
        obtain ⟨k', ls⟩ := p
        unfold putL
        split
        · rename_i e
          exact (hn (by rw [Nat.eq_of_beq_eq_true e]; simp)).elim
        · exact ih fun e => hn (by simp at e ⊢; exact .inr e)
    exact this _ h⟩
theorem view_O (t : Tok) : View (fun X => X.O t) (fun _ rc => t ∈ rc.born ∨ t ∈ rc.gone) :=
  ⟨fun d rc X X' h => by
    show putO X.O rc.born rc.gone t = putO X'.O rc.born rc.gone t
    have h' : X.O t = X'.O t := h
    unfold putO
    rw [h'], fun d rc X h => by
    show putO X.O rc.born rc.gone t = X.O t
    unfold putO
    split
    · rename_i e; exact (h (.inl (hasT_iff.1 e))).elim
    · split
      · rename_i e; exact (h (.inr (hasT_iff.1 e))).elim
      · rfl⟩
theorem hasN_out {d : Option Nat} {l : List Nat} {x : Nat} : hasN (outN d l) x = true ↔ hasN l x = true ∧ d ≠ some x := by
  rw [hasN_iff, hasN_iff]
  exact outN_mem
theorem view_fr (x : Nat) : View (fun X => hasN X.fr x) (fun d _ => d = some x) :=
  ⟨fun d rc X X' h => by
    have h' : hasN X.fr x = hasN X'.fr x := h
    show hasN (outN d X.fr) x = hasN (outN d X'.fr) x
    rw [Bool.eq_iff_iff, hasN_out, hasN_out, h'], fun d rc X h => by
    show hasN (outN d X.fr) x = hasN X.fr x
    rw [Bool.eq_iff_iff, hasN_out]
    exact ⟨fun e => e.1, fun e => ⟨e, h⟩⟩⟩
end
end Pv
end Go.Proofs.Ytgcgdfjldeihkaa
