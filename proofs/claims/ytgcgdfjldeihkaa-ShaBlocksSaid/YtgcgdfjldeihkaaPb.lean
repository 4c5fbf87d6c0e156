/- Pure evaluation of the model's code: the steps of a region, recorded. -/
import Derived.Test.YtgcgdfjldeihkaaPc
namespace Go.Proofs.Ytgcgdfjldeihkaa
namespace Pv
set_option linter.unusedVariables false
section
variable {E : Env} {R : Type} {r : R} {ops : Array Oper} {o : Oper}
theorem stepU_nat {kn : List (Nat × Bool)} {st : PSt} {C : Rec → PSt → Option R} (hv : stepU E o kn st C = some r) : ∃ rc s, C rc s = some r ∧ ∀ {R' : Type} (C' : Rec → PSt → Option R'), stepU E o kn st C' = C' rc s := by
  unfold stepU at hv ⊢
  split at hv
  case h_2 => cases hv
  split at hv
  · split at hv
    · exact ⟨_, _, hv, fun {_} C' => rfl⟩
    · cases hv
  · obtain ⟨u, h1, h2⟩ := pvU_nat hv
    split at h1
    · rename_i hok
      refine ⟨_, _, h1, fun {_} C' => ?_⟩
      rw [h2, hok]
    · cases h1
theorem skipU_nat {kn : List (Nat × Bool)} {st : PSt} {C : Rec → PSt → Option R} (hv : skipU o kn st C = some r) : ∃ rc s, C rc s = some r ∧ ∀ {R' : Type} (C' : Rec → PSt → Option R'), skipU o kn st C' = C' rc s := by
  unfold skipU at hv ⊢
  split at hv
  · exact ⟨_, _, hv, fun {_} C' => rfl⟩
  · cases hv
theorem wayU_nat {want b : Bool} {kn : List (Nat × Bool)} {st : PSt} {C : Rec → PSt → Option R} (hv : wayU E o want b kn st C = some r) : ∃ rc s, C rc s = some r ∧ ∀ {R' : Type} (C' : Rec → PSt → Option R'), wayU E o want b kn st C' = C' rc s := by
  unfold wayU at hv ⊢
  split at hv
  · exact stepU_nat hv
  · exact skipU_nat hv
theorem guardU_nat {t : Nat} {want : Bool} : ∀ {n : Nat} {kn : List (Nat × Bool)} {st : PSt} {C : Rec → PSt → Option R}, guardU E o t want n kn st C = some r → ∃ rc s, C rc s = some r ∧ ∀ {R' : Type} (C' : Rec → PSt → Option R'), guardU E o t want n kn st C' = C' rc s
  | 0, _, _, _, hv => by cases hv
  | n + 1, kn, st, C, hv => by
    unfold guardU at hv ⊢
    split at hv
    · rename_i b hb
      split at hv
      · exact wayU_nat hv
      · split at hv
        · split at hv
          · exact ⟨_, _, hv, fun {_} C' => rfl⟩
          · cases hv
        · cases b with
          | true => exact wayU_nat hv
          | false => exact wayU_nat hv
    · exact skipU_nat hv
    · split at hv
      · split at hv
        · rename_i b1 _ _
          cases b1 with
          | true => exact guardU_nat (n := n) hv
          | false => exact guardU_nat (n := n) hv
        · cases hv
      · cases hv
    · cases hv
theorem pvStep_nat {st : PSt} {C : Rec → PSt → Option R} (hv : pvStep E ops o st C = some r) : ∃ rc s, C rc s = some r ∧ ∀ {R' : Type} (C' : Rec → PSt → Option R'), pvStep E ops o st C' = C' rc s := by
  unfold pvStep at hv ⊢
  split at hv
  · exact stepU_nat hv
  · split at hv
    · cases hv
    · exact guardU_nat hv
/-! ### what a step leaves -/
def appR (d : Option Nat) (rc : Rec) (X : PSt) : PSt := ⟨putP X.φ d rc.val, putL X.L rc.loc, putO X.O rc.born rc.gone, X.kn, X.sp, outN d X.fr⟩
/-- Two states alike but for what is known. -/
def Like (a b : PSt) : Prop := a.φ = b.φ ∧ a.L = b.L ∧ a.O = b.O ∧ ∀ x, hasN a.fr x = hasN b.fr x
/-- Facts that stand in the slots. -/
inductive KnOK (φ : Nat → PV) : List (Nat × Bool) → Prop
  | nil : KnOK φ []
  | cons {t b kn} : KnOK φ kn → (φ t = .w false [.d .bool b] ∨ ∃ t' w', φ t = .spec t' w' false [.d .bool b] ∧ knows kn t' = some w') → KnOK φ ((t, b) :: kn)
theorem knows_ne {kn : List (Nat × Bool)} {t x : Nat} {b : Bool} (h : knows ((t, b) :: kn) x = none) : t ≠ x ∧ knows kn x = none := by
  unfold knows at h
  split at h
  · cases h
  · rename_i he
    exact ⟨fun e => by subst e; simp at he, h⟩
theorem KnOK.put {φ : Nat → PV} {kn : List (Nat × Bool)} {d : Option Nat} {p : PV} (h : KnOK φ kn) (hd : ∀ x, d = some x → knows kn x = none) : KnOK (putP φ d p) kn := by
  induction h with
  | nil => exact .nil
  | @cons t b kn h0 hj ih =>
    have hne : d ≠ some t := fun e => (knows_ne (hd t e)).1 rfl
    refine .cons (ih fun x hx => (knows_ne (hd x hx)).2) ?_
    rw [putP_ne hne]
    exact hj
/-- The step's own part: it speaks of nothing unmade, makes what is unmade. -/
structure RecOK (d : Option Nat) (g : Option Nat) (kn : List (Nat × Bool)) (st : PSt) (rc : Rec) (s : PSt) : Prop where
  like : Like s (appR d rc st)
  free : ∀ x, d = some x → hasN st.sp x = false ∧ knows kn x = none
  kn : KnOK st.φ kn → KnOK s.φ s.kn
  sp : ∀ t, hasN st.sp t = true → hasN s.sp t = true
  spec : ∀ t want ag ls, rc.val = .spec t want ag ls → g = some t ∧ hasN s.sp t = true
  born : ∀ t ∈ rc.born, ∃ x j, t = .op x j ∧ d = some x ∧ hasN st.fr x = true
  gone : ∀ t ∈ rc.gone, t ≠ .zero
  ment : ∀ x ∈ outN d st.fr, mentP x rc.val = false ∧ ∀ p ∈ rc.loc, mentLs x p.2 = false
theorem freeD_free {φ : Nat → PV} {L : Nat → Option (Nat × List Leaf)} {O : Tok → Bool} {kn : List (Nat × Bool)} {sp fr : List Nat} {d : Option Nat} (h : freeD ⟨φ, L, O, kn, sp, fr⟩ d = true) : ∀ x, d = some x → hasN sp x = false ∧ knows kn x = none := fun x hx => by
  subst hx
  simp only [freeD, Bool.and_eq_true, Bool.not_eq_true'] at h
  refine ⟨h.1, ?_⟩
  have h2 := h.2
  split at h2
  · cases h2
  · assumption
theorem recOK_v {d g : Option Nat} {kn : List (Nat × Bool)} {st : PSt} {p : PV} (hf : ∀ x, d = some x → hasN st.sp x = false ∧ knows kn x = none) (hp : ∀ x, mentP x p = false) (hs : ∀ t want ag ls, p ≠ .spec t want ag ls) : RecOK d g kn st (Rec.v p) ⟨putP st.φ d p, st.L, st.O, kn, st.sp, outN d st.fr⟩ :=
  ⟨⟨rfl, rfl, putO_nil.symm, fun _ => rfl⟩, hf, fun h => h.put fun x hx => (hf x hx).2, fun t h => h, fun t want ag ls e => (hs _ _ _ _ e).elim, fun t h => (by cases h), fun t h => (by cases h), fun x _ => ⟨hp x, fun p h => (by cases h)⟩⟩
theorem okUpd_parts {st : PSt} {d : Option Nat} {u : Upd} (h : okUpd st d u = true) : (∀ t ∈ u.born, ∃ x j, t = .op x j ∧ d = some x ∧ hasN st.fr x = true) ∧ (∀ t ∈ u.gone, t ≠ .zero) ∧ (∀ x ∈ outN d st.fr, mentP x u.val = false ∧ ∀ p ∈ u.loc, mentLs x p.2 = false) := by
  simp only [okUpd, Bool.and_eq_true, List.all_eq_true, Bool.not_eq_true'] at h
  obtain ⟨⟨⟨⟨h1, h2⟩, h3⟩, h4⟩, h5⟩ := h
  refine ⟨fun t ht => ?_, fun t ht e => ?_, h1⟩
  · have := h2 t ht
    split at this
    · rename_i d' j x
      simp only [Bool.and_eq_true] at this
      exact ⟨d', j, rfl, by rw [Nat.eq_of_beq_eq_true this.1], by rw [Nat.eq_of_beq_eq_true this.1]; exact this.2⟩
    · cases this
  · subst e
    have := h3 .zero ht
    cases this
theorem pickP_bool {kn : List (Nat × Bool)} {φ : Nat → PV} {c a b : Operand} {p : PV} (h : pickP kn φ c a b = some p) : ∃ q, p = pbool q := by
  unfold pickP at h
  repeat' split at h
  all_goals first
    | (cases h; done)
    | (injection h with h; exact ⟨_, h.symm⟩)
theorem binI_ns {op : BinOp} {k : IntKind} {x y : Int} {u : Upd} (h : binI op k x y (fun p => some (Upd.v p)) = some u) : ∀ t want ag ls, u.val ≠ .spec t want ag ls := by
  unfold binI at h
  repeat' split at h
  all_goals first
    | (cases h; done)
    | (cases h; intro _ _ _ _ e; cases e; done)
    | (obtain ⟨h1, h2⟩ := chk_some h; cases h2; intro _ _ _ _ e; cases e; done)
    | (obtain ⟨y, h1, h2⟩ := bind_some2 h; repeat' split at h2
       all_goals first
        | (cases h2; done)
        | (cases h2; intro _ _ _ _ e; cases e; done))
theorem shI_ns {op : BinOp} {k : IntKind} {x y : Int} {u : Upd} (h : shI op k x y (fun p => some (Upd.v p)) = some u) : ∀ t want ag ls, u.val ≠ .spec t want ag ls := by
  unfold shI at h
  repeat' split at h
  all_goals first
    | (cases h; done)
    | (cases h; intro _ _ _ _ e; cases e; done)
    | (obtain ⟨h1, h2⟩ := chk_some h; cases h2; intro _ _ _ _ e; cases e; done)
    | (obtain ⟨y, h1, h2⟩ := bind_some2 h; repeat' split at h2
       all_goals first
        | (cases h2; done)
        | (cases h2; intro _ _ _ _ e; cases e; done))
theorem binS_ns {op : BinOp} {x y : List Int} {u : Upd} (h : binS op x y (fun p => some (Upd.v p)) = some u) : ∀ t want ag ls, u.val ≠ .spec t want ag ls := by
  unfold binS at h
  repeat' split at h
  all_goals first
    | (cases h; done)
    | (cases h; intro _ _ _ _ e; cases e; done)
    | (obtain ⟨h1, h2⟩ := chk_some h; cases h2; intro _ _ _ _ e; cases e; done)
    | (obtain ⟨y, h1, h2⟩ := bind_some2 h; repeat' split at h2
       all_goals first
        | (cases h2; done)
        | (cases h2; intro _ _ _ _ e; cases e; done))
theorem unP_ns {op : UnOp} {p q : PV} (h : unP op p = some q) : ∀ t want ag ls, q ≠ .spec t want ag ls := by
  unfold unP at h
  repeat' split at h
  all_goals first
    | (cases h; done)
    | (cases h; intro _ _ _ _ e; cases e; done)
    | (obtain ⟨h1, h2⟩ := chk_some h; cases h2; intro _ _ _ _ e; cases e; done)
    | (obtain ⟨y, h1, h2⟩ := bind_some2 h; repeat' split at h2
       all_goals first
        | (cases h2; done)
        | (cases h2; intro _ _ _ _ e; cases e; done))
theorem lenP_ns {P : Program} {t : TypeId} {p q : PV} (h : lenP P t p = some q) : ∀ t want ag ls, q ≠ .spec t want ag ls := by
  unfold lenP at h
  repeat' split at h
  all_goals first
    | (cases h; done)
    | (cases h; intro _ _ _ _ e; cases e; done)
    | (obtain ⟨h1, h2⟩ := chk_some h; cases h2; intro _ _ _ _ e; cases e; done)
    | (obtain ⟨y, h1, h2⟩ := bind_some2 h; repeat' split at h2
       all_goals first
        | (cases h2; done)
        | (cases h2; intro _ _ _ _ e; cases e; done))
theorem mmP_ns {f : Int → Int → Int} {p p' q : PV} (h : mmP f p p' = some q) : ∀ t want ag ls, q ≠ .spec t want ag ls := by
  unfold mmP at h
  repeat' split at h
  all_goals first
    | (cases h; done)
    | (cases h; intro _ _ _ _ e; cases e; done)
    | (obtain ⟨h1, h2⟩ := chk_some h; cases h2; intro _ _ _ _ e; cases e; done)
    | (obtain ⟨y, h1, h2⟩ := bind_some2 h; repeat' split at h2
       all_goals first
        | (cases h2; done)
        | (cases h2; intro _ _ _ _ e; cases e; done))
theorem resP_ns {rs : List (Bool × List LT)} {ls : List Leaf} : ∀ t want ag l, resP rs ls ≠ .spec t want ag l := by
  intro t want ag l e
  unfold resP at e
  split at e <;> cases e
theorem appP_ns {P : Program} {o : Oper} {t u : TypeId} {st : PSt} {p q : PV} {R' : Type} {C : Upd → Option R'} {r' : R'} (hv : appP P o t u st p q C = some r') : ∃ u', C u' = some r' ∧ ∀ t want ag ls, u'.val ≠ .spec t want ag ls := by
  unfold appP at hv
  repeat' split at hv
  all_goals first
    | (cases hv; done)
    | (obtain ⟨h1, h2⟩ := chk_some hv; exact ⟨_, h2, fun _ _ _ _ e => by cases e⟩)
theorem appT_ns {P : Program} {o : Oper} {t u : TypeId} {p q : PV} {R' : Type} {C : Upd → Option R'} {r' : R'} (hv : appT P o t u p q C = some r') : ∃ u', C u' = some r' ∧ ∀ t want ag ls, u'.val ≠ .spec t want ag ls := by
  unfold appT at hv
  repeat' split at hv
  all_goals first
    | (cases hv; done)
    | (obtain ⟨h1, h2⟩ := chk_some hv; exact ⟨_, h2, fun _ _ _ _ e => by cases e⟩)
theorem lendC_ns {u0 u : Upd} (h : ∀ t want ag ls, u0.val ≠ .spec t want ag ls) (hv : lendC some u0 = some u) : ∀ t want ag ls, u.val ≠ .spec t want ag ls := by
  unfold lendC at hv
  repeat' split at hv
  all_goals first
    | (cases hv; done)
    | (cases hv; exact h)
theorem appL_ns {P : Program} {o : Oper} {t u : TypeId} {st : PSt} {x y : Operand} {ev : Operand → PV} {u' : Upd} (hv : appL P o t u st x y ev some = some u') : ∀ t want ag ls, u'.val ≠ .spec t want ag ls := by
  unfold appL at hv
  split at hv
  · obtain ⟨u0, h1, h2⟩ := appP_ns hv
    cases h1
    exact h2
  · obtain ⟨_, hv⟩ := chk_some hv
    split at hv
    · split at hv
      · obtain ⟨u0, h1, h2⟩ := appT_ns hv
        exact lendC_ns h2 h1
      · cases hv
    · obtain ⟨u0, h1, h2⟩ := appP_ns hv
      exact lendC_ns h2 h1
theorem callP_ns {s : Sig} {f : s.Fn} {dst : Option Nat} {args : List Operand} {ats : List TypeId} {st : PSt} {ev : Operand → PV} {R' : Type} {C : Upd → Option R'} {r' : R'} (hv : callP E s f dst args ats st ev C = some r') : ∃ u, C u = some r' ∧ ∀ t want ag ls, u.val ≠ .spec t want ag ls := by
  unfold callP at hv
  repeat' split at hv
  all_goals first
    | (cases hv; done)
    | (obtain ⟨y, h1, h2⟩ := bind_some2 hv
       split at h2
       · exact ⟨_, h2, resP_ns⟩
       · cases h2)
theorem rowC_ns {dst : Option Nat} {fr : List Nat} {u0 u : Upd} (h : ∀ t want ag ls, u0.val ≠ .spec t want ag ls) (hv : rowC E dst fr some u0 = some u) : ∀ t want ag ls, u.val ≠ .spec t want ag ls := by
  unfold rowC at hv
  repeat' split at hv
  all_goals first
    | (cases hv; done)
    | (cases hv; intro _ _ _ _ e; cases e; done)
    | (cases hv; exact h)
    | (obtain ⟨_, h2⟩ := chk_some hv; cases h2; intro _ _ _ _ e; cases e; done)
theorem rowM_ns {dst : Option Nat} {fr : List Nat} {tt : Bool} {u0 u : Upd} (h : ∀ t want ag ls, u0.val ≠ .spec t want ag ls) (hv : rowM E dst fr tt some u0 = some u) : ∀ t want ag ls, u.val ≠ .spec t want ag ls := by
  unfold rowM at hv
  repeat' split at hv
  all_goals first
    | (cases hv; done)
    | (cases hv; intro _ _ _ _ e; cases e; done)
    | (cases hv; exact h)
    | (obtain ⟨_, h2⟩ := chk_some hv; cases h2; intro _ _ _ _ e; cases e; done)
theorem callL_ns {s : Sig} {f : s.Fn} {dst : Option Nat} {args : List Operand} {ats : List TypeId} {st : PSt} {ev : Operand → PV} {u : Upd} (hv : callL E s f dst args ats st ev some = some u) : ∀ t want ag ls, u.val ≠ .spec t want ag ls := by
  unfold callL at hv
  split at hv
  · obtain ⟨u0, h1, h2⟩ := callP_ns hv
    exact rowC_ns h2 h1
  · obtain ⟨_, hv⟩ := chk_some hv
    obtain ⟨u0, h1, h2⟩ := callP_ns hv
    unfold lendC at h1
    repeat' split at h1
    all_goals first
      | (cases h1; done)
      | exact rowC_ns h2 h1
theorem pvU_ns {st : PSt} {ev : Operand → PV} {u : Upd} (hv : pvU E o st ev some = some u) : ∀ t want ag ls, u.val ≠ .spec t want ag ls := by
  obtain ⟨dst, op, type, pos, after, guard⟩ := o
  cases op with
  | move x | assign x =>
    simp only [pvU] at hv
    split at hv
    · cases hv
    · cases hv
    · rename_i h1 h2
      injection hv with hv
      subst hv
      intro t want ag ls e
      exact h2 t want ag ls e
  | unOp op ty x =>
    simp only [pvU] at hv
    split at hv
    · rename_i p hp
      injection hv with hv
      subst hv
      exact unP_ns hp
    · cases hv
  | binOp op ty x y uy =>
    simp only [pvU] at hv
    split at hv
    · repeat' split at hv
      all_goals first
        | (cases hv; done)
        | (cases hv; intro _ _ _ _ e; cases e; done)
        | (obtain ⟨h1, h2⟩ := chk_some hv; cases h2; intro _ _ _ _ e; cases e; done)
        | (obtain ⟨y, h1, h2⟩ := bind_some2 hv; repeat' split at h2
           all_goals first
            | (cases h2; done)
            | (cases h2; intro _ _ _ _ e; cases e; done))
    · repeat' split at hv
      all_goals first
        | (cases hv; done)
        | (cases hv; intro _ _ _ _ e; cases e; done)
        | (obtain ⟨h1, h2⟩ := chk_some hv; cases h2; intro _ _ _ _ e; cases e; done)
        | (obtain ⟨y, h1, h2⟩ := bind_some2 hv; repeat' split at h2
           all_goals first
            | (cases h2; done)
            | (cases h2; intro _ _ _ _ e; cases e; done))
    · repeat' split at hv
      all_goals first
        | (cases hv; done)
        | (cases hv; intro _ _ _ _ e; cases e; done)
        | (obtain ⟨h1, h2⟩ := chk_some hv; cases h2; intro _ _ _ _ e; cases e; done)
        | (obtain ⟨y, h1, h2⟩ := bind_some2 hv; repeat' split at h2
           all_goals first
            | (cases h2; done)
            | (cases h2; intro _ _ _ _ e; cases e; done))
    · unfold binP at hv
      split at hv
      · split at hv
        · exact shI_ns hv
        · exact shI_ns hv
        · split at hv
          · exact binI_ns hv
          · cases hv
      · exact binS_ns hv
      · cases hv
  | call c =>
    obtain ⟨callee, args, argTypes⟩ := c
    cases callee with
    | builtin b =>
      simp only [pvU] at hv
      unfold bltP at hv
      split at hv
      · repeat' split at hv
        all_goals first
          | (cases hv; done)
          | (cases hv; exact lenP_ns ‹_›)
      · split at hv
        · repeat' split at hv
          all_goals first
            | (cases hv; done)
            | (cases hv; exact mmP_ns ‹_›)
        · repeat' split at hv
          all_goals first
            | (cases hv; done)
            | (cases hv; exact mmP_ns ‹_›)
        · exact appL_ns hv
        · cases hv
      · cases hv
    | value f =>
      cases f with
      | func f =>
        simp only [pvU] at hv
        split at hv
        · split at hv
          · exact callL_ns hv
          · cases hv
        · unfold extP at hv
          split at hv
          · unfold addP at hv
            obtain ⟨h1, h2⟩ := chk_some hv
            cases h2
            intro _ _ _ _ e; cases e
          · cases hv
        · cases hv
      | _ => cases hv
    | _ => cases hv
  | makeSlice t n c =>
    simp only [pvU] at hv
    repeat' split at hv
    all_goals first
      | (cases hv; done)
      | (obtain ⟨_, h2⟩ := chk_some hv
         exact rowM_ns (fun _ _ _ _ e => by cases e) h2)
  | _ =>
    simp only [pvU] at hv
    repeat' split at hv
    all_goals first
      | (cases hv; done)
      | (cases hv; intro _ _ _ _ e; cases e; done)
      | (obtain ⟨h1, h2⟩ := chk_some hv; cases h2; intro _ _ _ _ e; cases e; done)
      | (obtain ⟨y, h1, h2⟩ := bind_some2 hv; repeat' split at h2
         all_goals first
          | (cases h2; done)
          | (cases h2; intro _ _ _ _ e; cases e; done))
theorem stepU_ok {g : Option Nat} {kn : List (Nat × Bool)} {st : PSt} {rc : Rec} {s : PSt} (hv : stepU E o kn st (fun rc s => some (rc, s)) = some (rc, s)) : RecOK o.dst g kn st rc s := by
  unfold stepU at hv
  split at hv
  case h_2 => cases hv
  rename_i hf
  have hfr := freeD_free hf
  split at hv
  · split at hv
    · rename_i p hp
      injection hv with hv
      obtain ⟨rfl, rfl⟩ := Prod.mk.inj hv
      obtain ⟨q, rfl⟩ := pickP_bool hp
      exact recOK_v hfr (fun _ => rfl) (fun _ _ _ _ e => by cases e)
    · cases hv
  · obtain ⟨u, h1, h2⟩ := pvU_nat hv
    split at h1
    · rename_i hok
      injection h1 with h1
      obtain ⟨rfl, rfl⟩ := Prod.mk.inj h1
      obtain ⟨o1, o2, o3⟩ := okUpd_parts hok
      exact ⟨⟨rfl, rfl, rfl, fun _ => rfl⟩, hfr, fun h => h.put fun x hx => (hfr x hx).2, fun t h => h, fun t want ag ls e => (pvU_ns (h2 some) t want ag ls e).elim, o1, o2, o3⟩
    · cases h1
theorem skipU_ok {g : Option Nat} {kn : List (Nat × Bool)} {st : PSt} {rc : Rec} {s : PSt} (hv : skipU o kn st (fun rc s => some (rc, s)) = some (rc, s)) : RecOK o.dst g kn st rc s := by
  unfold skipU at hv
  split at hv
  case h_2 => cases hv
  rename_i hf
  injection hv with hv
  obtain ⟨rfl, rfl⟩ := Prod.mk.inj hv
  exact recOK_v (freeD_free hf) (fun _ => rfl) (fun _ _ _ _ e => by cases e)
theorem wayU_ok {g : Option Nat} {want b : Bool} {kn : List (Nat × Bool)} {st : PSt} {rc : Rec} {s : PSt} (hv : wayU E o want b kn st (fun rc s => some (rc, s)) = some (rc, s)) : RecOK o.dst g kn st rc s := by
  unfold wayU at hv
  split at hv
  · exact stepU_ok hv
  · exact skipU_ok hv
theorem RecOK.less {d g : Option Nat} {t : Nat} {b : Bool} {kn : List (Nat × Bool)} {st : PSt} {rc : Rec} {s : PSt} (h : RecOK d g ((t, b) :: kn) st rc s) (hj : st.φ t = .w false [.d .bool b] ∨ ∃ t' w', st.φ t = .spec t' w' false [.d .bool b] ∧ knows kn t' = some w') : RecOK d g kn st rc s :=
  ⟨h.like, fun x hx => ⟨(h.free x hx).1, (knows_ne (h.free x hx).2).2⟩, fun hk => h.kn (.cons hk hj), h.sp, h.spec, h.born, h.gone, h.ment⟩
/-- Why a slot is a known truth value. -/
theorem evK_bool {kn : List (Nat × Bool)} {φ : Nat → PV} {t : Nat} {b : Bool} (h : evK kn φ (.tmp t) = .w false [.d .bool b]) (hk : knows kn t = none) : φ t = .w false [.d .bool b] ∨ ∃ t' w', φ t = .spec t' w' false [.d .bool b] ∧ knows kn t' = some w' := by
  unfold evK at h
  have hev : evS φ (.tmp t) = φ t := rfl
  rw [hev] at h
  split at h
  · rename_i j want ag ls hs
    split at h
    · rename_i b' hb
      split at h
      · rename_i he
        have h := knB_none h hk
        cases h
        exact .inr ⟨j, want, hs, by rw [hb, bEq_iff.1 he]⟩
      · cases h
    · cases h
  · exact .inl (knB_none h hk)
theorem guardU_ok {t : Nat} {want : Bool} : ∀ {n : Nat} {kn : List (Nat × Bool)} {st : PSt} {rc : Rec} {s : PSt}, guardU E o t want n kn st (fun rc s => some (rc, s)) = some (rc, s) → RecOK o.dst (some t) kn st rc s
  | 0, _, _, _, _, hv => by cases hv
  | n + 1, kn, st, rc, s, hv => by
    unfold guardU at hv
    split at hv
    · rename_i b hb
      split at hv
      · exact wayU_ok hv
      · rename_i hk
        split at hv
        · rename_i ag ls hs
          split at hv
          · rename_i hfk
            simp only [Bool.and_eq_true] at hfk
            obtain ⟨o1, o2, o3⟩ := okUpd_parts hfk.2
            have hfr := freeD_free hfk.1
            injection hv with hv
            obtain ⟨rfl, rfl⟩ := Prod.mk.inj hv
            refine ⟨⟨rfl, rfl, putO_nil.symm, fun _ => rfl⟩, fun x hx => ⟨Bool.eq_false_iff.2 fun e => ?_, (hfr x hx).2⟩, fun h => h.put fun x hx => (hfr x hx).2, fun t h => hasN_iff.2 (List.mem_cons_of_mem _ (hasN_iff.1 h)), fun t' want' ag' ls' e => ?_, fun t h => (by cases h), fun t h => (by cases h), fun x hx => ⟨(o3 x hx).1, fun p h => (by cases h)⟩⟩
            · have := (hfr x hx).1
              rw [hasN_iff.2 (List.mem_cons_of_mem _ (hasN_iff.1 e))] at this
              cases this
            · have e' : PV.spec t want ag ls = .spec t' want' ag' ls' := e
              cases e'
              exact ⟨rfl, hasN_iff.2 (by simp)⟩
          · cases hv
        · cases b with
          | true => exact (wayU_ok (g := some t) (kn := (t, true) :: kn) hv).less (evK_bool hb hk)
          | false => exact (wayU_ok (g := some t) (kn := (t, false) :: kn) hv).less (evK_bool hb hk)
    · exact skipU_ok hv
    · split at hv
      · rename_i t1 _ _ _ _
        split at hv
        · rename_i b1 hb1 hk1
          cases b1 with
          | true => exact (guardU_ok (n := n) (kn := (t1, true) :: kn) hv).less (evK_bool hb1 hk1)
          | false => exact (guardU_ok (n := n) (kn := (t1, false) :: kn) hv).less (evK_bool hb1 hk1)
        · cases hv
      · cases hv
    · cases hv
/-- The slot that an operation's guard looks at. -/
def gslot (ops : Array Oper) (o : Oper) : Option Nat := match o.guard with
  | none => none
  | some (j, _) => (ops[j]?).bind (·.dst)
theorem pvStep_ok {st : PSt} {rc : Rec} {s : PSt} (hv : pvStep E ops o st (fun rc s => some (rc, s)) = some (rc, s)) : RecOK o.dst (gslot ops o) st.kn st rc s := by
  unfold pvStep at hv
  unfold gslot
  split at hv
  · exact stepU_ok hv
  · rename_i j want hg
    split at hv
    · cases hv
    · rename_i t ht
      simp only [hg, ht]
      exact guardU_ok hv
end
end Pv
end Go.Proofs.Ytgcgdfjldeihkaa
