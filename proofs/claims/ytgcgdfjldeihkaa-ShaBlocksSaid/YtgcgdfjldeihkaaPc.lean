/- Pure evaluation of the model's code: an operation's update does not hang on what comes after, nor on what it does not look at. -/
import Derived.Test.YtgcgdfjldeihkaaPi
namespace Go.Proofs.Ytgcgdfjldeihkaa
namespace Pv
set_option linter.unusedVariables false
section
variable {E : Env} {R : Type} {r : R}
theorem bind_some2 {α : Type} {x : Option α} {f : α → Option R} (h : x.bind f = some r) : ∃ y, x = some y ∧ f y = some r := by
  cases x with
  | none => cases h
  | some y => exact ⟨y, rfl, h⟩
theorem chk_bind {α : Type} {b : Bool} {x : Option α} {f : α → Option R} : (chk b x).bind f = chk b (x.bind f) := by cases b <;> rfl
theorem binI_nat {op : BinOp} {k : IntKind} {x y : Int} {C : Upd → Option R} : binI op k x y (fun p => C (Upd.v p)) = (binI op k x y (fun p => some (Upd.v p))).bind C := by
  cases op <;> simp [binI, chk_bind]
theorem shI_nat {op : BinOp} {k : IntKind} {x y : Int} {C : Upd → Option R} : shI op k x y (fun p => C (Upd.v p)) = (shI op k x y (fun p => some (Upd.v p))).bind C := by
  cases op <;> simp [shI, chk_bind]
theorem binS_nat {op : BinOp} {x y : List Int} {C : Upd → Option R} : binS op x y (fun p => C (Upd.v p)) = (binS op x y (fun p => some (Upd.v p))).bind C := by
  cases op <;> simp [binS, chk_bind]
theorem binP_nat {op : BinOp} {p q : PV} {C : Upd → Option R} : binP op p q (fun p => C (Upd.v p)) = (binP op p q (fun p => some (Upd.v p))).bind C := by
  unfold binP
  split
  · split
    · exact shI_nat
    · exact shI_nat
    · split
      · exact binI_nat
      · rfl
  · exact binS_nat
  · rfl
theorem lendC_nat {C : Upd → Option R} {u : Upd} (hv : lendC C u = some r) : C u = some r ∧ ∀ {R' : Type} (C' : Upd → Option R'), lendC C' u = C' u := by
  unfold lendC at hv ⊢
  repeat' split at hv
  all_goals first
    | (cases hv; done)
    | (refine ⟨hv, fun {_} C' => ?_⟩; simp [*]; done)
theorem appP_nat {P : Program} {o : Oper} {t u : TypeId} {st : PSt} {p q : PV} {C : Upd → Option R} (hv : appP P o t u st p q C = some r) : ∃ u', C u' = some r ∧ ∀ {R' : Type} (C' : Upd → Option R'), appP P o t u st p q C' = C' u' := by
  unfold appP at hv ⊢
  repeat' split at hv
  all_goals first
    | (cases hv; done)
    | (obtain ⟨h1, h2⟩ := chk_some hv; refine ⟨_, h2, fun {_} C' => ?_⟩; simp [*, chk]; done)
theorem appT_nat {P : Program} {o : Oper} {t u : TypeId} {p q : PV} {C : Upd → Option R} (hv : appT P o t u p q C = some r) : ∃ u', C u' = some r ∧ ∀ {R' : Type} (C' : Upd → Option R'), appT P o t u p q C' = C' u' := by
  unfold appT at hv ⊢
  repeat' split at hv
  all_goals first
    | (cases hv; done)
    | (obtain ⟨h1, h2⟩ := chk_some hv; refine ⟨_, h2, fun {_} C' => ?_⟩; simp [*, chk]; done)
theorem appL_nat {P : Program} {o : Oper} {t u : TypeId} {st : PSt} {x y : Operand} {ev : Operand → PV} {C : Upd → Option R} (hv : appL P o t u st x y ev C = some r) : ∃ u', C u' = some r ∧ ∀ {R' : Type} (C' : Upd → Option R'), appL P o t u st x y ev C' = C' u' := by
  unfold appL at hv ⊢
  cases hK : rowKeys ev [x, y] with
  | nil =>
    simp only [hK] at hv ⊢
    exact appP_nat hv
  | cons k K =>
    simp only [hK] at hv ⊢
    obtain ⟨h0, hv⟩ := chk_some hv
    simp only [h0]
    cases hr : isRow (ev x) with
    | true =>
      simp only [hr] at hv ⊢
      cases ht : isTight (ev x) with
      | true =>
        simp only [ht] at hv ⊢
        obtain ⟨u', h1, h2⟩ := appT_nat hv
        obtain ⟨h3, h4⟩ := lendC_nat h1
        exact ⟨u', h3, fun {_} C' => (h2 (lendC C')).trans (h4 C')⟩
      | false => simp only [ht] at hv; cases hv
    | false =>
      simp only [hr] at hv ⊢
      obtain ⟨u', h1, h2⟩ := appP_nat hv
      obtain ⟨h3, h4⟩ := lendC_nat h1
      exact ⟨u', h3, fun {_} C' => (h2 (lendC C')).trans (h4 C')⟩
theorem bltP_nat {o : Oper} {b : Builtin} {args : List Operand} {ts : List TypeId} {st : PSt} {ev : Operand → PV} {C : Upd → Option R} (hv : bltP E o b args ts st ev C = some r) : ∃ u, C u = some r ∧ ∀ {R' : Type} (C' : Upd → Option R'), bltP E o b args ts st ev C' = C' u := by
  unfold bltP at hv ⊢
  split at hv
  · repeat' split at hv
    all_goals first
      | (cases hv; done)
      | (refine ⟨_, hv, fun {_} C' => ?_⟩; simp [*]; done)
      | (obtain ⟨h1, h2⟩ := chk_some hv; refine ⟨_, h2, fun {_} C' => ?_⟩; simp [*, chk]; done)
  · split at hv
    · repeat' split at hv
      all_goals first
        | (cases hv; done)
        | (refine ⟨_, hv, fun {_} C' => ?_⟩; simp [*]; done)
    · repeat' split at hv
      all_goals first
        | (cases hv; done)
        | (refine ⟨_, hv, fun {_} C' => ?_⟩; simp [*]; done)
    · obtain ⟨u, h1, h2⟩ := appL_nat hv
      exact ⟨u, h1, fun {_} C' => h2 C'⟩
    · cases hv
  · cases hv
theorem callP_nat {s : Sig} {f : s.Fn} {dst : Option Nat} {args : List Operand} {ats : List TypeId} {st : PSt} {ev : Operand → PV} {C : Upd → Option R} (hv : callP E s f dst args ats st ev C = some r) : ∃ u, C u = some r ∧ ∀ {R' : Type} (C' : Upd → Option R'), callP E s f dst args ats st ev C' = C' u := by
  unfold callP at hv ⊢
  split at hv
  · split at hv
    · split at hv
      · obtain ⟨y, h1, h2⟩ := bind_some2 hv
        split at h2
        · exact ⟨_, h2, fun {_} C' => by simp [*]⟩
        · cases h2
      · cases hv
    · cases hv
  · cases hv
theorem rowC_nat {dst : Option Nat} {fr : List Nat} {C : Upd → Option R} {u : Upd} (hv : rowC E dst fr C u = some r) : ∃ u', C u' = some r ∧ ∀ {R' : Type} (C' : Upd → Option R'), rowC E dst fr C' u = C' u' := by
  unfold rowC at hv ⊢
  repeat' split at hv
  all_goals first
    | (cases hv; done)
    | (refine ⟨_, hv, fun {_} C' => ?_⟩; simp [*]; done)
    | (obtain ⟨h1, h2⟩ := chk_some hv; refine ⟨_, h2, fun {_} C' => ?_⟩; simp [*, chk]; done)
theorem rowM_nat {dst : Option Nat} {fr : List Nat} {tt : Bool} {C : Upd → Option R} {u : Upd} (hv : rowM E dst fr tt C u = some r) : ∃ u', C u' = some r ∧ ∀ {R' : Type} (C' : Upd → Option R'), rowM E dst fr tt C' u = C' u' := by
  unfold rowM at hv ⊢
  repeat' split at hv
  all_goals first
    | (cases hv; done)
    | (refine ⟨_, hv, fun {_} C' => ?_⟩; simp [*]; done)
    | (obtain ⟨h1, h2⟩ := chk_some hv; refine ⟨_, h2, fun {_} C' => ?_⟩; simp [*, chk]; done)
theorem callL_nat {s : Sig} {f : s.Fn} {dst : Option Nat} {args : List Operand} {ats : List TypeId} {st : PSt} {ev : Operand → PV} {C : Upd → Option R} (hv : callL E s f dst args ats st ev C = some r) : ∃ u, C u = some r ∧ ∀ {R' : Type} (C' : Upd → Option R'), callL E s f dst args ats st ev C' = C' u := by
  unfold callL at hv ⊢
  split at hv
  · obtain ⟨u, h1, h2⟩ := callP_nat hv
    obtain ⟨u', h3, h4⟩ := rowC_nat h1
    exact ⟨u', h3, fun {_} C' => by simp only [*]⟩
  · obtain ⟨h0, hv⟩ := chk_some hv
    obtain ⟨u, h1, h2⟩ := callP_nat hv
    obtain ⟨h3, h4⟩ := lendC_nat h1
    obtain ⟨u', h5, h6⟩ := rowC_nat h3
    exact ⟨u', h5, fun {_} C' => by rw [h0, h2, h4, h6]; rfl⟩
theorem extP_nat {fn : Func} {ps : List PV} {C : Upd → Option R} (hv : extP fn ps C = some r) : ∃ u, C u = some r ∧ ∀ {R' : Type} (C' : Upd → Option R'), extP fn ps C' = C' u := by
  unfold extP at hv ⊢
  split at hv
  · unfold addP at hv ⊢
    obtain ⟨h1, h2⟩ := chk_some hv
    exact ⟨_, h2, fun {_} C' => by simp only [h1]; rfl⟩
  · cases hv
theorem pvU_nat {o : Oper} {st : PSt} {ev : Operand → PV} {C : Upd → Option R} (hv : pvU E o st ev C = some r) : ∃ u, C u = some r ∧ ∀ {R' : Type} (C' : Upd → Option R'), pvU E o st ev C' = C' u := by
  obtain ⟨dst, op, type, pos, after, guard⟩ := o
  cases op with
  | move x =>
    simp only [pvU] at hv ⊢
    repeat' split at hv
    all_goals first
      | (cases hv; done)
      | (refine ⟨_, hv, fun {_} C' => ?_⟩; simp [*]; done)
      | (obtain ⟨h1, h2⟩ := chk_some hv; refine ⟨_, h2, fun {_} C' => ?_⟩; simp [*, chk]; done)
      | (obtain ⟨y, h1, h2⟩ := bind_some2 hv; repeat' split at h2
         all_goals first
          | (cases h2; done)
          | (refine ⟨_, h2, fun {_} C' => ?_⟩; simp [*]; done))
  | assign x =>
    simp only [pvU] at hv ⊢
    repeat' split at hv
    all_goals first
      | (cases hv; done)
      | (refine ⟨_, hv, fun {_} C' => ?_⟩; simp [*]; done)
      | (obtain ⟨h1, h2⟩ := chk_some hv; refine ⟨_, h2, fun {_} C' => ?_⟩; simp [*, chk]; done)
      | (obtain ⟨y, h1, h2⟩ := bind_some2 hv; repeat' split at h2
         all_goals first
          | (cases h2; done)
          | (refine ⟨_, h2, fun {_} C' => ?_⟩; simp [*]; done))
  | nilCheck x =>
    simp only [pvU] at hv ⊢
    repeat' split at hv
    all_goals first
      | (cases hv; done)
      | (refine ⟨_, hv, fun {_} C' => ?_⟩; simp [*]; done)
      | (obtain ⟨h1, h2⟩ := chk_some hv; refine ⟨_, h2, fun {_} C' => ?_⟩; simp [*, chk]; done)
      | (obtain ⟨y, h1, h2⟩ := bind_some2 hv; repeat' split at h2
         all_goals first
          | (cases h2; done)
          | (refine ⟨_, h2, fun {_} C' => ?_⟩; simp [*]; done))
  | alloc t =>
    simp only [pvU] at hv ⊢
    repeat' split at hv
    all_goals first
      | (cases hv; done)
      | (refine ⟨_, hv, fun {_} C' => ?_⟩; simp [*]; done)
      | (obtain ⟨h1, h2⟩ := chk_some hv; refine ⟨_, h2, fun {_} C' => ?_⟩; simp [*, chk]; done)
      | (obtain ⟨y, h1, h2⟩ := bind_some2 hv; repeat' split at h2
         all_goals first
          | (cases h2; done)
          | (refine ⟨_, h2, fun {_} C' => ?_⟩; simp [*]; done))
  | box t x =>
    simp only [pvU] at hv ⊢
    repeat' split at hv
    all_goals first
      | (cases hv; done)
      | (refine ⟨_, hv, fun {_} C' => ?_⟩; simp [*]; done)
      | (obtain ⟨h1, h2⟩ := chk_some hv; refine ⟨_, h2, fun {_} C' => ?_⟩; simp [*, chk]; done)
      | (obtain ⟨y, h1, h2⟩ := bind_some2 hv; repeat' split at h2
         all_goals first
          | (cases h2; done)
          | (refine ⟨_, h2, fun {_} C' => ?_⟩; simp [*]; done))
  | load t x =>
    simp only [pvU] at hv ⊢
    repeat' split at hv
    all_goals first
      | (cases hv; done)
      | (refine ⟨_, hv, fun {_} C' => ?_⟩; simp [*]; done)
      | (obtain ⟨h1, h2⟩ := chk_some hv; refine ⟨_, h2, fun {_} C' => ?_⟩; simp [*, chk]; done)
      | (obtain ⟨y, h1, h2⟩ := bind_some2 hv; repeat' split at h2
         all_goals first
          | (cases h2; done)
          | (refine ⟨_, h2, fun {_} C' => ?_⟩; simp [*]; done))
  | store t x y =>
    simp only [pvU] at hv ⊢
    repeat' split at hv
    all_goals first
      | (cases hv; done)
      | (refine ⟨_, hv, fun {_} C' => ?_⟩; simp [*]; done)
      | (obtain ⟨h1, h2⟩ := chk_some hv; refine ⟨_, h2, fun {_} C' => ?_⟩; simp [*, chk]; done)
      | (obtain ⟨y, h1, h2⟩ := bind_some2 hv; repeat' split at h2
         all_goals first
          | (cases h2; done)
          | (refine ⟨_, h2, fun {_} C' => ?_⟩; simp [*]; done))
  | fieldAddr s x f =>
    simp only [pvU] at hv ⊢
    repeat' split at hv
    all_goals first
      | (cases hv; done)
      | (refine ⟨_, hv, fun {_} C' => ?_⟩; simp [*]; done)
      | (obtain ⟨h1, h2⟩ := chk_some hv; refine ⟨_, h2, fun {_} C' => ?_⟩; simp [*, chk]; done)
      | (obtain ⟨y, h1, h2⟩ := bind_some2 hv; repeat' split at h2
         all_goals first
          | (cases h2; done)
          | (refine ⟨_, h2, fun {_} C' => ?_⟩; simp [*]; done))
  | indexAddr t x i =>
    simp only [pvU] at hv ⊢
    repeat' split at hv
    all_goals first
      | (cases hv; done)
      | (refine ⟨_, hv, fun {_} C' => ?_⟩; simp [*]; done)
      | (obtain ⟨h1, h2⟩ := chk_some hv; refine ⟨_, h2, fun {_} C' => ?_⟩; simp [*, chk]; done)
      | (obtain ⟨y, h1, h2⟩ := bind_some2 hv; repeat' split at h2
         all_goals first
          | (cases h2; done)
          | (refine ⟨_, h2, fun {_} C' => ?_⟩; simp [*]; done))
  | index t x i =>
    simp only [pvU] at hv ⊢
    repeat' split at hv
    all_goals first
      | (cases hv; done)
      | (refine ⟨_, hv, fun {_} C' => ?_⟩; simp [*]; done)
      | (obtain ⟨h1, h2⟩ := chk_some hv; refine ⟨_, h2, fun {_} C' => ?_⟩; simp [*, chk]; done)
      | (obtain ⟨y, h1, h2⟩ := bind_some2 hv; repeat' split at h2
         all_goals first
          | (cases h2; done)
          | (refine ⟨_, h2, fun {_} C' => ?_⟩; simp [*]; done))
  | slice t x lo hi mx =>
    simp only [pvU] at hv ⊢
    repeat' split at hv
    all_goals first
      | (cases hv; done)
      | (refine ⟨_, hv, fun {_} C' => ?_⟩; simp [*]; done)
      | (obtain ⟨h1, h2⟩ := chk_some hv; refine ⟨_, h2, fun {_} C' => ?_⟩; simp [*, chk]; done)
      | (obtain ⟨y, h1, h2⟩ := bind_some2 hv; repeat' split at h2
         all_goals first
          | (cases h2; done)
          | (refine ⟨_, h2, fun {_} C' => ?_⟩; simp [*]; done))
  | field s x f =>
    simp only [pvU] at hv ⊢
    repeat' split at hv
    all_goals first
      | (cases hv; done)
      | (refine ⟨_, hv, fun {_} C' => ?_⟩; simp [*]; done)
      | (obtain ⟨h1, h2⟩ := chk_some hv; refine ⟨_, h2, fun {_} C' => ?_⟩; simp [*, chk]; done)
      | (obtain ⟨y, h1, h2⟩ := bind_some2 hv; repeat' split at h2
         all_goals first
          | (cases h2; done)
          | (refine ⟨_, h2, fun {_} C' => ?_⟩; simp [*]; done))
  | extract x i =>
    simp only [pvU] at hv ⊢
    repeat' split at hv
    all_goals first
      | (cases hv; done)
      | (refine ⟨_, hv, fun {_} C' => ?_⟩; simp [*]; done)
      | (obtain ⟨h1, h2⟩ := chk_some hv; refine ⟨_, h2, fun {_} C' => ?_⟩; simp [*, chk]; done)
      | (obtain ⟨y, h1, h2⟩ := bind_some2 hv; repeat' split at h2
         all_goals first
          | (cases h2; done)
          | (refine ⟨_, h2, fun {_} C' => ?_⟩; simp [*]; done))
  | build t parts =>
    simp only [pvU] at hv ⊢
    repeat' split at hv
    all_goals first
      | (cases hv; done)
      | (refine ⟨_, hv, fun {_} C' => ?_⟩; simp [*]; done)
      | (obtain ⟨h1, h2⟩ := chk_some hv; refine ⟨_, h2, fun {_} C' => ?_⟩; simp [*, chk]; done)
      | (obtain ⟨y, h1, h2⟩ := bind_some2 hv; repeat' split at h2
         all_goals first
          | (cases h2; done)
          | (refine ⟨_, h2, fun {_} C' => ?_⟩; simp [*]; done))
  | buildSlice t len parts =>
    simp only [pvU] at hv ⊢
    repeat' split at hv
    all_goals first
      | (cases hv; done)
      | (refine ⟨_, hv, fun {_} C' => ?_⟩; simp [*]; done)
      | (obtain ⟨h1, h2⟩ := chk_some hv; refine ⟨_, h2, fun {_} C' => ?_⟩; simp [*, chk]; done)
      | (obtain ⟨y, h1, h2⟩ := bind_some2 hv; repeat' split at h2
         all_goals first
          | (cases h2; done)
          | (refine ⟨_, h2, fun {_} C' => ?_⟩; simp [*]; done))
  | makeSlice t n c =>
    simp only [pvU] at hv ⊢
    repeat' split at hv
    all_goals first
      | (cases hv; done)
      | (obtain ⟨h1, h2⟩ := chk_some hv
         obtain ⟨u', h3, h4⟩ := rowM_nat h2
         exact ⟨u', h3, fun {_} C' => by simp [*, chk]⟩)
  | unOp op ty x =>
    simp only [pvU] at hv ⊢
    repeat' split at hv
    all_goals first
      | (cases hv; done)
      | (refine ⟨_, hv, fun {_} C' => ?_⟩; simp [*]; done)
      | (obtain ⟨h1, h2⟩ := chk_some hv; refine ⟨_, h2, fun {_} C' => ?_⟩; simp [*, chk]; done)
      | (obtain ⟨y, h1, h2⟩ := bind_some2 hv; repeat' split at h2
         all_goals first
          | (cases h2; done)
          | (refine ⟨_, h2, fun {_} C' => ?_⟩; simp [*]; done))
  | convert src dst x =>
    simp only [pvU] at hv ⊢
    repeat' split at hv
    all_goals first
      | (cases hv; done)
      | (refine ⟨_, hv, fun {_} C' => ?_⟩; simp [*]; done)
      | (obtain ⟨h1, h2⟩ := chk_some hv; refine ⟨_, h2, fun {_} C' => ?_⟩; simp [*, chk]; done)
      | (obtain ⟨y, h1, h2⟩ := bind_some2 hv; repeat' split at h2
         all_goals first
          | (cases h2; done)
          | (refine ⟨_, h2, fun {_} C' => ?_⟩; simp [*]; done))
  | binOp op ty x y uy =>
    simp only [pvU] at hv ⊢
    split at hv
    · repeat' split at hv
      all_goals first
        | (cases hv; done)
        | (refine ⟨_, hv, fun {_} C' => ?_⟩; simp [*]; done)
        | (obtain ⟨h1, h2⟩ := chk_some hv; refine ⟨_, h2, fun {_} C' => ?_⟩; simp [*, chk]; done)
    · repeat' split at hv
      all_goals first
        | (cases hv; done)
        | (refine ⟨_, hv, fun {_} C' => ?_⟩; simp [*]; done)
        | (obtain ⟨h1, h2⟩ := chk_some hv; refine ⟨_, h2, fun {_} C' => ?_⟩; simp [*, chk]; done)
    · repeat' split at hv
      all_goals first
        | (cases hv; done)
        | (refine ⟨_, hv, fun {_} C' => ?_⟩; simp [*]; done)
        | (obtain ⟨h1, h2⟩ := chk_some hv; refine ⟨_, h2, fun {_} C' => ?_⟩; simp [*, chk]; done)
    · rename_i a b h1 h2 h3
      rw [binP_nat] at hv
      obtain ⟨u, h4, h5⟩ := bind_some2 hv
      exact ⟨u, h5, fun {_} C' => by rw [binP_nat, h4]; rfl⟩
  | call c =>
    obtain ⟨callee, args, argTypes⟩ := c
    cases callee with
    | builtin b =>
      simp only [pvU] at hv ⊢
      exact bltP_nat hv
    | value f =>
      cases f with
      | func f =>
        simp only [pvU] at hv ⊢
        split at hv
        · split at hv
          · obtain ⟨u, h1, h2⟩ := callL_nat hv
            exact ⟨u, h1, fun {_} C' => by simp [*]⟩
          · cases hv
        · obtain ⟨u, h1, h2⟩ := extP_nat hv
          exact ⟨u, h1, fun {_} C' => by simp [*]⟩
        · cases hv
      | _ => cases hv
    | _ => cases hv
  | _ => cases hv
/-! ### what an operation looks at -/
structure Sees (o : Oper) (st X : PSt) (ev ev' : Operand → PV) : Prop where
  ops : ∀ x ∈ o.op.operands, ev' x = ev x
  loc : ∀ x ∈ o.op.operands, ∀ k ∈ keyP (ev x), X.L k = st.L k
  fr : ∀ d, o.dst = some d → hasN X.fr d = hasN st.fr d
  tok : readsO o.op = true → ∀ x ∈ o.op.operands, ∀ t, t ∈ toksP (ev x) ∨ t ∈ lentToks st.L (ev x) → X.O t = st.O t
  zero : X.O .zero = st.O .zero
theorem buildLs_congr {P : Program} {t : TypeId} {ev ev' : Operand → PV} : ∀ (ps : List (Nat × Operand)) (ls : List Leaf), (∀ x ∈ ps.map (·.2), ev' x = ev x) → buildLs P t ev' ps ls = buildLs P t ev ps ls
  | [], _, _ => rfl
  | (i, x) :: r, ls, h => by
    unfold buildLs
    rw [h x (by simp)]
    have ih := fun ls => buildLs_congr (P := P) (t := t) r ls fun y hy => h y (by simp at hy ⊢; exact .inr hy)
    simp only [ih]
theorem partsD_congr {P : Program} {e : TypeId} {t : Ty} {ev ev' : Operand → PV} : ∀ (ps : List (Nat × Operand)) (n : Nat), (∀ x ∈ ps.map (·.2), ev' x = ev x) → partsD P e t ev' ps n = partsD P e t ev ps n
  | [], _, _ => rfl
  | (i, x) :: r, n, h => by
    unfold partsD
    rw [h x (by simp)]
    have ih := fun n => partsD_congr (P := P) (e := e) (t := t) r n fun y hy => h y (by simp at hy ⊢; exact .inr hy)
    simp only [ih]
theorem boundP_congr {ev ev' : Operand → PV} {x : Option Operand} {d : Int} (h : ∀ y ∈ x.toList, ev' y = ev y) : boundP ev' x d = boundP ev x d := by
  cases x with
  | none => rfl
  | some y => simp [boundP, h y (by simp)]
theorem toksLs_mem {l : Leaf} {ls : List Leaf} (h : l ∈ ls) (hz : l.tok ≠ .zero) : l.tok ∈ toksLs ls := by
  induction ls with
  | nil => cases h
  | cons x r ih =>
    unfold toksLs
    rcases List.mem_cons.1 h with rfl | h
    · refine List.mem_append.2 (.inl ?_)
      unfold gone1
      split
      · rename_i e; exact (hz e).elim
      · simp
    · exact List.mem_append.2 (.inr (ih h))
theorem toks_agree {O O' : Tok → Bool} (h0 : O' .zero = O .zero) {ls : List Leaf} (h : ∀ t ∈ toksLs ls, O' t = O t) : ∀ l ∈ ls, O' l.tok = O l.tok := fun l hl => by
  by_cases hz : l.tok = .zero
  · rw [hz, h0]
  · exact h _ (toksLs_mem hl hz)
theorem takeAll_congr {O O' : Tok → Bool} : ∀ (ts : List LT) (ls : List Leaf), (∀ l ∈ ls, O' l.tok = O l.tok) → takeAll O' ts ls = takeAll O ts ls
  | [], [], _ => rfl
  | [], _ :: _, _ => rfl
  | _ :: _, [], _ => rfl
  | t :: ts, l :: ls, h => by
    have e1 : takeLeaf O' t l = takeLeaf O t l := by
      have := h l (by simp)
      cases t with
      | d t => rfl
      | row e =>
        cases l with
        | own _ _ _ _ => rfl
        | d t x => cases t <;> rfl
      | own E e =>
        cases l with
        | d t x => rfl
        | own k E' e' x =>
          have h' : O' k = O k := this
          simp only [takeLeaf, h']
    unfold takeAll
    rw [e1, takeAll_congr ts ls fun l hl => h l (by simp [hl])]
theorem norm_or (P : Program) (t : TypeId) (p : PV) : norm P t p = p ∨ ∃ ag ls, norm P t p = .w ag ls := by
  unfold norm
  split
  · split
    · exact .inr ⟨_, _, rfl⟩
    · exact .inl rfl
  · split
    · exact .inr ⟨_, _, rfl⟩
    · exact .inl rfl
  · exact .inl rfl
theorem normP_toks {O O' : Tok → Bool} (h0 : O' .zero = O .zero) {P : Program} {ty : TypeId} {p : PV} (h : ∀ t ∈ toksP p, O' t = O t) : ∀ {ag : Bool} {ls : List Leaf}, norm P ty p = .w ag ls → ∀ l ∈ ls, O' l.tok = O l.tok := fun {ag ls} hn l hl => by
  unfold norm at hn
  split at hn
  · split at hn
    · cases hn
      obtain rfl := List.mem_singleton.1 hl
      exact h0
    · cases hn
  · split at hn
    · cases hn
      obtain rfl := List.mem_singleton.1 hl
      exact h0
    · cases hn
  · subst hn
    exact toks_agree h0 h l hl
theorem rowKeys_congr {ev ev' : Operand → PV} : ∀ {args : List Operand}, (∀ y ∈ args, ev' y = ev y) → rowKeys ev' args = rowKeys ev args
  | [], _ => rfl
  | x :: xs, h => by
    have e := rowKeys_congr (args := xs) fun y hy => h y (List.mem_cons_of_mem _ hy)
    unfold rowKeys at e ⊢
    rw [List.flatMap_cons, List.flatMap_cons, h x (by simp), e]
theorem lendPV_congr {b : Bool} {K : List Nat} {L L' : Nat → Option (Nat × List Leaf)} {p : PV} (h : ∀ k ∈ keyP p, L' k = L k) : lendPV b K L' p = lendPV b K L p := by
  cases p with
  | row k n t =>
    show lendRow b K L' k n t = lendRow b K L k n t
    unfold lendRow
    rw [h k (by simp [keyP])]
  | _ => rfl
theorem rowOk_congr {L L' : Nat → Option (Nat × List Leaf)} {p : PV} (h : ∀ k ∈ keyP p, L' k = L k) : rowOk L' p = rowOk L p := by
  cases p with
  | row k n t =>
    have e := h k (by simp [keyP])
    simp only [rowOk, e]
  | _ => rfl
theorem lendX_cases (K ts : List Nat) (L : Nat → Option (Nat × List Leaf)) (x : Operand) (p : PV) : lendX K ts L x p = p ∨ ∃ b, lendX K ts L x p = lendPV b K L p := by
  cases x with
  | tmp t => exact .inr ⟨_, rfl⟩
  | _ => exact .inl rfl
theorem lendX_congr {K ts : List Nat} {L L' : Nat → Option (Nat × List Leaf)} {x : Operand} {p : PV} (h : ∀ k ∈ keyP p, L' k = L k) : lendX K ts L' x p = lendX K ts L x p := by
  cases x with
  | tmp t => exact lendPV_congr h
  | _ => rfl
theorem toks_lendPV {b : Bool} {K : List Nat} {L : Nat → Option (Nat × List Leaf)} {p : PV} {t : Tok} (h : t ∈ toksP (lendPV b K L p)) : t ∈ toksP p := by
  rcases lendPV_cases b K L p with e | ⟨e, _⟩ | ⟨k, n, _, σ, m, q, l, _, _, _, _, e⟩
  · rw [e] at h; cases h
  · rw [e] at h; exact h
  · rw [e] at h
    have h : t ∈ ([] : List Tok) := h
    cases h
theorem keys_lendPV {b : Bool} {K : List Nat} {L : Nat → Option (Nat × List Leaf)} {p : PV} {k : Nat} (h : k ∈ keyP (lendPV b K L p)) : k ∈ keyP p ∧ hasN K k = false := by
  rcases lendPV_cases b K L p with e | ⟨e, e2⟩ | ⟨k', n, _, σ, m, q, l, _, _, _, _, e⟩
  · rw [e] at h; cases h
  · rw [e] at h; exact ⟨h, e2 k h⟩
  · rw [e] at h; cases h
theorem appP_congr {P : Program} {o : Oper} {t u : TypeId} {st X : PSt} {p q : PV} (h4 : ∀ t ∈ toksP p, X.O t = st.O t) (h0 : X.O .zero = st.O .zero) {R' : Type} (C : Upd → Option R') : appP P o t u X p q C = appP P o t u st p q C := by
  unfold appP
  split
  · split
    · rename_i k E' ty l i hn _
      have := normP_toks h0 h4 hn (.own k E' ty l) (by simp)
      have e : X.O k = st.O k := this
      rw [e]
    · rfl
  · rfl
theorem appL_congr {P : Program} {o : Oper} {t u : TypeId} {st X : PSt} {x y : Operand} {ev ev' : Operand → PV} (h1 : ∀ z ∈ [x, y], ev' z = ev z) (h2 : ∀ z ∈ [x, y], ∀ k ∈ keyP (ev z), X.L k = st.L k) (h4 : ∀ t ∈ toksP (ev x), X.O t = st.O t) (h0 : X.O .zero = st.O .zero) (C : Upd → Option R) : appL P o t u X x y ev' C = appL P o t u st x y ev C := by
  have ex := h1 x (by simp)
  have ey := h1 y (by simp)
  unfold appL
  rw [rowKeys_congr h1]
  cases rowKeys ev [x, y] with
  | nil =>
    simp only [ex, ey]
    exact appP_congr h4 h0 C
  | cons k K =>
    have l1 := lendX_congr (K := k :: K) (ts := tmpsOf [x, y]) (x := x) (h2 x (by simp))
    have l2 := lendX_congr (K := k :: K) (ts := tmpsOf [x, y]) (x := y) (h2 y (by simp))
    simp only [ex, ey, rowOk_congr (h2 x (by simp)), rowOk_congr (h2 y (by simp)), l1, l2]
    congr 1
    split
    · rfl
    · refine appP_congr (fun t ht => h4 t ?_) h0 _
      rcases lendX_cases (k :: K) (tmpsOf [x, y]) st.L x (ev x) with e | ⟨b, e⟩
      · rw [e] at ht; exact ht
      · rw [e] at ht; exact toks_lendPV ht
theorem bltP_congr {o : Oper} {b : Builtin} {args : List Operand} {ts : List TypeId} {st X : PSt} {ev ev' : Operand → PV} (h1 : ∀ y ∈ args, ev' y = ev y) (h2 : ∀ y ∈ args, ∀ k ∈ keyP (ev y), X.L k = st.L k) (h4 : b = .append → ∀ y ∈ args, ∀ t, t ∈ toksP (ev y) ∨ t ∈ lentToks st.L (ev y) → X.O t = st.O t) (h0 : X.O .zero = st.O .zero) (C : Upd → Option R) :
    bltP E o b args ts X ev' C = bltP E o b args ts st ev C := by
  unfold bltP
  split
  · rw [h1 _ (by simp)]
  · rename_i x y t u
    split
    · rw [h1 x (by simp), h1 y (by simp)]
    · rw [h1 x (by simp), h1 y (by simp)]
    · exact appL_congr h1 h2 (fun t ht => h4 rfl x (by simp) t (.inl ht)) h0 C
    · rfl
  · rfl
theorem argsP_congr {P : Program} {st X : PSt} {ev ev' : Operand → PV} : ∀ (ps : List Par) (xs : List Operand) (ts : List TypeId), (∀ y ∈ xs, ev' y = ev y) → (∀ y ∈ xs, ∀ k ∈ keyP (ev y), X.L k = st.L k) → argsP P X ev' ps xs ts = argsP P st ev ps xs ts
  | [], [], _, _, _ => rfl
  | [], _ :: _, _, _, _ => rfl
  | _ :: _, [], _, _, _ => rfl
  | p :: ps, x :: xs, ts, h1, h2 => by
    have e : argP X p (argN P ts (ev x)) = argP st p (argN P ts (ev x)) := by
      cases p with
      | v ag l => cases argN P ts (ev x) <;> rfl
      | m l =>
        have key : ∀ q, (∀ k ∈ keyP q, X.L k = st.L k) → argP X (.m l) q = argP st (.m l) q := fun q hq => by
          cases q with
          | loc k off => simp only [argP, hq k (by simp [keyP])]
          | _ => rfl
        refine key _ fun k hk => h2 x (by simp) k ?_
        cases ts with
        | nil => exact hk
        | cons t ts =>
          have hk' : k ∈ keyP (norm P t (ev x)) := hk
          rcases norm_or P t (ev x) with e | ⟨ag, l, e⟩
          · rw [e] at hk'; exact hk'
          · rw [e] at hk'; cases hk'
    unfold argsP
    rw [h1 x (by simp), e, argsP_congr ps xs ts.tail (fun y hy => h1 y (by simp [hy])) (fun y hy => h2 y (by simp [hy]))]
theorem argsP_toks {P : Program} {st X : PSt} {ev : Operand → PV} (h0 : X.O .zero = st.O .zero) : ∀ (ps : List Par) (xs : List Operand) (ts : List TypeId) (r : List Leaf × List (Nat × Nat)), (∀ y ∈ xs, ∀ t, t ∈ toksP (ev y) ∨ t ∈ lentToks st.L (ev y) → X.O t = st.O t) → argsP P st ev ps xs ts = some r → ∀ l ∈ r.1, X.O l.tok = st.O l.tok
  | [], [], _, _, _, h => by
    intro l hl
    have : ([], []) = _ := Option.some.inj h
    subst this
    cases hl
  | [], _ :: _, _, _, _, h => by cases h
  | _ :: _, [], _, _, _, h => by cases h
  | p :: ps, x :: xs, ts, r, h4, h => by
    unfold argsP at h
    split at h
    · rename_i a m b n ha hb
      injection h with h
      subst h
      intro l hl
      rcases List.mem_append.1 hl with hl | hl
      · cases p with
        | v ag lt =>
          have ha' : argP st (.v ag lt) (argN P ts (ev x)) = some (a, m) := ha
          have key : ∀ q, argP st (.v ag lt) q = some (a, m) → ∃ ag', q = .w ag' a := fun q hq => by
            cases q with
            | w ag' ls =>
              have hq' : (match bEq ag ag' && Nat.beq ls.length lt.length with | true => some (ls, []) | false => none) = some (a, m) := hq
              split at hq'
              · cases hq'; exact ⟨ag', rfl⟩
              · cases hq'
            | _ => cases hq
          obtain ⟨ag', e⟩ := key _ ha'
          cases ts with
          | nil =>
            have e' : ev x = .w ag' a := e
            exact toks_agree h0 (fun t ht => h4 x (by simp) t (.inl (by rw [e']; exact ht))) l hl
          | cons t ts => exact normP_toks h0 (fun t ht => h4 x (by simp) t (.inl ht)) e l hl
        | m lt =>
          have key : ∀ q, argP st (.m lt) q = some (a, m) → ∃ k off σ, q = .loc k off ∧ st.L k = some (σ, a) := fun q hq => by
            cases q with
            | loc k off =>
              have hq' : (match st.L k with | some (_, ls) => (match Nat.beq off 0 && Nat.beq ls.length lt.length with | true => some (ls, [(k, ls.length)]) | false => none) | none => none) = some (a, m) := hq
              split at hq'
              · split at hq'
                · cases hq'; exact ⟨k, off, _, rfl, ‹_›⟩
                · cases hq'
              · cases hq'
            | _ => cases hq
          obtain ⟨k, off, σ, e, hL⟩ := key _ ha
          have e' : ev x = .loc k off := by
            cases ts with
            | nil => exact e
            | cons t ts =>
              have e2 : norm P t (ev x) = .loc k off := e
              rcases norm_or P t (ev x) with e3 | ⟨ag, l, e3⟩
              · rw [e3] at e2; exact e2
              · rw [e3] at e2; cases e2
          refine toks_agree h0 (fun t ht => h4 x (by simp) t (.inr ?_)) l hl
          rw [e']
          show t ∈ (match st.L k with | some (_, ls) => toksLs ls | none => [])
          rw [hL]
          exact ht
      · exact argsP_toks h0 ps xs ts.tail _ (fun y hy => h4 y (by simp [hy])) hb l hl
    · cases h
theorem callP_congr {s : Sig} {f : s.Fn} {dst : Option Nat} {args : List Operand} {ats : List TypeId} {st X : PSt} {ev ev' : Operand → PV} (h1 : ∀ y ∈ args, ev' y = ev y) (h2 : ∀ y ∈ args, ∀ k ∈ keyP (ev y), X.L k = st.L k) (h4 : ∀ y ∈ args, ∀ t, t ∈ toksP (ev y) ∨ t ∈ lentToks st.L (ev y) → X.O t = st.O t)
    (h3 : ∀ d, dst = some d → hasN X.fr d = hasN st.fr d) (h0 : X.O .zero = st.O .zero) (C : Upd → Option R) : callP E s f dst args ats X ev' C = callP E s f dst args ats st ev C := by
  have e3 : newDst dst X.fr = newDst dst st.fr := by
    cases dst with
    | none => rfl
    | some d => exact h3 d rfl
  unfold callP
  rw [argsP_congr _ _ _ h1 h2, e3]
  split
  · rename_i ls ms ha
    rw [takeAll_congr _ _ (argsP_toks h0 _ _ _ _ h4 ha)]
  · rfl
theorem rowC_congr {dst : Option Nat} {fr fr' : List Nat} (h3 : ∀ d, dst = some d → hasN fr' d = hasN fr d) (C : Upd → Option R) : rowC E dst fr' C = rowC E dst fr C := by
  funext u
  unfold rowC
  cases dst with
  | none => rfl
  | some d => simp only [h3 d rfl]
theorem rowM_congr {dst : Option Nat} {fr fr' : List Nat} {tt : Bool} (h3 : ∀ d, dst = some d → hasN fr' d = hasN fr d) (C : Upd → Option R) : rowM E dst fr' tt C = rowM E dst fr tt C := by
  funext u
  unfold rowM
  cases dst with
  | none => rfl
  | some d => simp only [h3 d rfl]
theorem callL_congr {s : Sig} {f : s.Fn} {dst : Option Nat} {args : List Operand} {ats : List TypeId} {st X : PSt} {ev ev' : Operand → PV} (h1 : ∀ y ∈ args, ev' y = ev y) (h2 : ∀ y ∈ args, ∀ k ∈ keyP (ev y), X.L k = st.L k) (h4 : ∀ y ∈ args, ∀ t, t ∈ toksP (ev y) ∨ t ∈ lentToks st.L (ev y) → X.O t = st.O t)
    (h3 : ∀ d, dst = some d → hasN X.fr d = hasN st.fr d) (h0 : X.O .zero = st.O .zero) (C : Upd → Option R) : callL E s f dst args ats X ev' C = callL E s f dst args ats st ev C := by
  unfold callL
  rw [rowKeys_congr h1, rowC_congr h3]
  split
  · exact callP_congr h1 h2 h4 h3 h0 _
  · rename_i k K _
    have e0 : (args.all fun x => rowOk X.L (ev' x)) = args.all fun x => rowOk st.L (ev x) := by
      rw [Bool.eq_iff_iff, List.all_eq_true, List.all_eq_true]
      exact ⟨fun h y hy => by have := h y hy; rw [h1 y hy, rowOk_congr (h2 y hy)] at this; exact this, fun h y hy => by rw [h1 y hy, rowOk_congr (h2 y hy)]; exact h y hy⟩
    rw [e0]
    congr 1
    refine callP_congr (X := lendSt (k :: K) (tmpsOf args) X) (st := lendSt (k :: K) (tmpsOf args) st) (fun y hy => ?_) (fun y hy j hj => ?_) (fun y hy t ht => ?_) h3 h0 _
    · show lendX (k :: K) (tmpsOf args) X.L y (ev' y) = lendX (k :: K) (tmpsOf args) st.L y (ev y)
      rw [h1 y hy]
      exact lendX_congr (h2 y hy)
    · show (match hasN (k :: K) j with | true => (match X.L j with | some _ => some (0, []) | none => none) | false => X.L j) = match hasN (k :: K) j with | true => (match st.L j with | some _ => some (0, []) | none => none) | false => st.L j
      have hj : j ∈ keyP (lendX (k :: K) (tmpsOf args) st.L y (ev y)) := hj
      have j1 : j ∈ keyP (ev y) := by
        rcases lendX_cases (k :: K) (tmpsOf args) st.L y (ev y) with e | ⟨b, e⟩
        · rw [e] at hj; exact hj
        · rw [e] at hj; exact (keys_lendPV hj).1
      rw [h2 y hy j j1]
    · refine h4 y hy t ?_
      have ht : t ∈ toksP (lendX (k :: K) (tmpsOf args) st.L y (ev y)) ∨ t ∈ lentToks (lendSt (k :: K) (tmpsOf args) st).L (lendX (k :: K) (tmpsOf args) st.L y (ev y)) := ht
      have key : ∀ p : PV, t ∈ lentToks (lendSt (k :: K) (tmpsOf args) st).L p → t ∈ lentToks st.L p := fun p ht => by
        cases p with
        | loc j f =>
          have ht : t ∈ (match (match hasN (k :: K) j with | true => (match st.L j with | some _ => some ((0 : Nat), ([] : List Leaf)) | none => none) | false => st.L j) with | some (_, ls) => toksLs ls | none => []) := ht
          cases hj : hasN (k :: K) j with
          | true =>
            rw [hj] at ht
            cases hs : st.L j with
            | none => rw [hs] at ht; cases ht
            | some q => rw [hs] at ht; cases ht
          | false => rw [hj] at ht; exact ht
        | _ => cases ht
      rcases lendX_cases (k :: K) (tmpsOf args) st.L y (ev y) with e | ⟨b, e⟩
      · rw [e] at ht
        rcases ht with ht | ht
        · exact .inl ht
        · exact .inr (key _ ht)
      · rw [e] at ht
        rcases ht with ht | ht
        · exact .inl (toks_lendPV ht)
        · right
          rcases lendPV_cases b (k :: K) st.L (ev y) with e | ⟨e, e2⟩ | ⟨k', n, _, σ, m, q, l, _, _, _, _, e⟩
          · rw [e] at ht; cases ht
          · rw [e] at ht; exact key _ ht
          · rw [e] at ht; cases ht
theorem extP_congr {fn : Func} {args : List Operand} {ev ev' : Operand → PV} (h1 : ∀ y ∈ args, ev' y = ev y) (C : Upd → Option R) : extP fn (args.map ev') C = extP fn (args.map ev) C := by
  rw [List.map_congr_left h1]
theorem ownNow_congr {O O' : Tok → Bool} (h0 : O' .zero = O .zero) {p : PV} (h : ∀ t ∈ toksP p, O' t = O t) : ownNow O' p = ownNow O p := by
  unfold ownNow
  split
  · rename_i k E e l
    have : O' k = O k := toks_agree h0 (ls := [.own k E e l]) h (.own k E e l) (by simp)
    rw [this]
  · rfl
theorem pvU_congr {o : Oper} {st X : PSt} {ev ev' : Operand → PV} (h : Sees o st X ev ev') (C : Upd → Option R) : pvU E o X ev' C = pvU E o st ev C := by
  obtain ⟨dst', op, type, pos, after, guard⟩ := o
  obtain ⟨h1, h2, h3, h4, h5⟩ := h
  cases op with
  | move x | assign x | nilCheck x | fieldAddr s x f | field s x f | extract x i | unOp op ty x =>
    have e1 := h1 x (by simp [Op.operands])
    simp only [pvU, e1]
  | convert src dstT x =>
    have e1 := h1 x (by simp [Op.operands])
    have e2 := ownNow_congr h5 (p := ev x) fun t ht => h4 rfl x (by simp [Op.operands]) t (.inl ht)
    have e3 := h2 x (by simp [Op.operands])
    have e4 : ∀ d, dst' = some d → hasN X.fr d = hasN st.fr d := h3
    simp only [pvU, e1]
    generalize ev x = p at e2 e3 ⊢
    split
    · rfl
    · rfl
    · split
      · rw [e4 _ rfl]
      · rfl
    · simp only [e2]
    · rw [e3 _ (by simp [keyP])]
    · rfl
    · rfl
  | index t x i | binOp op ty x i uy =>
    have e1 := h1 x (by simp [Op.operands])
    have e2 := h1 i (by simp [Op.operands])
    simp only [pvU, e1, e2]
  | makeSlice t x i =>
    have e1 := h1 x (by simp [Op.operands])
    have e2 := h1 i (by simp [Op.operands])
    simp only [rowM_congr h3, pvU, e1, e2]
  | alloc t =>
    simp only [pvU]
    split
    · rw [h3 _ rfl]
    · rfl
  | box t x =>
    have e1 := h1 x (by simp [Op.operands])
    simp only [pvU, e1]
    split
    · rw [h3 _ rfl]
    · rfl
  | load t x =>
    have e1 := h1 x (by simp [Op.operands])
    have e2 := h2 x (by simp [Op.operands])
    simp only [pvU, e1]
    split
    · split
      · rename_i k off he
        rw [e2 k (by rw [he]; simp [keyP])]
      · rename_i k off e j s he
        rw [e2 k (by rw [he]; simp [keyP])]
      · rfl
      · rfl
    · rfl
  | store t x y =>
    have e1 := h1 x (by simp [Op.operands])
    have e3 := h1 y (by simp [Op.operands])
    have e2 := h2 x (by simp [Op.operands])
    simp only [pvU, e1, e3]
    split
    · rename_i k off _ _ _ he _ _
      rw [e2 k (by rw [he]; simp [keyP])]
    · rename_i k off e j s _ _ _ he _ _
      rw [e2 k (by rw [he]; simp [keyP])]
    · rfl
  | indexAddr t x i =>
    have e1 := h1 x (by simp [Op.operands])
    have e3 := h1 i (by simp [Op.operands])
    have e2 := h2 x (by simp [Op.operands])
    simp only [pvU, e1, e3]
    split
    · rename_i e k n tt j _ he _
      rw [e2 k (by rw [he]; simp [keyP])]
    · rfl
    · rename_i n e k off j _ he _
      rw [e2 k (by rw [he]; simp [keyP])]
    · rfl
    · rfl
  | slice t x lo hi mx =>
    have e1 := h1 x (by simp [Op.operands])
    have e2 : ∀ y ∈ lo.toList, ev' y = ev y := fun y hy => h1 y (by simp [Op.operands] at hy ⊢; simp [hy])
    have e3 : ∀ y ∈ hi.toList, ev' y = ev y := fun y hy => h1 y (by simp [Op.operands] at hy ⊢; simp [hy])
    have e4 : ∀ y ∈ mx.toList, ev' y = ev y := fun y hy => h1 y (by simp [Op.operands] at hy ⊢; simp [hy])
    have e5 : hi.bind (fun y => intP (ev' y)) = hi.bind (fun y => intP (ev y)) := by
      cases hi with
      | none => rfl
      | some y => simp only [Option.bind_some, e3 y (by simp)]
    simp only [pvU, e1, boundP_congr e2, boundP_congr e3, e5]
    split
    · rfl
    · rfl
    · rw [e4 _ (by simp)]
    · rfl
  | build t parts =>
    have e1 : ∀ y ∈ parts.toList.map (·.2), ev' y = ev y := fun y hy => h1 y (by simpa [Op.operands] using hy)
    simp only [pvU, buildLs_congr _ _ e1, partsD_congr _ _ e1]
  | buildSlice t len parts =>
    have e1 : ∀ y ∈ parts.toList.map (·.2), ev' y = ev y := fun y hy => h1 y (by simpa [Op.operands] using hy)
    simp only [pvU, partsD_congr _ _ e1]
  | call c =>
    obtain ⟨callee, args, argTypes⟩ := c
    have e1 : ∀ y ∈ args.toList, ev' y = ev y := fun y hy => h1 y (by cases callee <;> simp_all [Op.operands, Call.operands])
    have e2 : ∀ y ∈ args.toList, ∀ k ∈ keyP (ev y), X.L k = st.L k := fun y hy => h2 y (by cases callee <;> simp_all [Op.operands, Call.operands])
    cases callee with
    | builtin b =>
      simp only [pvU]
      exact bltP_congr e1 e2 (fun hb y hy => h4 (by subst hb; rfl) y (by simp_all [Op.operands, Call.operands])) h5 C
    | value f =>
      cases f with
      | func f =>
        simp only [pvU]
        split
        · split
          · exact callL_congr e1 e2 (fun y hy => h4 rfl y (by simp_all [Op.operands, Call.operands])) h3 h5 C
          · rfl
        · exact extP_congr e1 C
        · rfl
      | _ => rfl
    | _ => rfl
  | _ => rfl
end
end Pv
end Go.Proofs.Ytgcgdfjldeihkaa
