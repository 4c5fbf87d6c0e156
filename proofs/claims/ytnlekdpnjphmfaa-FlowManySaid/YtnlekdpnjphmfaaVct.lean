/- The conditions of Vc are sound for the model's code: the states of a region that draws its order. -/
import Derived.Test.YtnlekdpnjphmfaaVcr
namespace Go.Proofs.Ytnlekdpnjphmfaa
namespace Vc
section
variable {E : Env} {v0 w0 : World} {n : Nat} {ρ : Nat → Nat} {a : Act} {w : World} {g : Option (Nat × Bool)} {b : Option (Bool × Bool)}
/-! ### shapes -/
def mentions (k : Nat) : SV → Prop
  | .loc k' _ => k' = k
  | .spec _ _ s => mentions k s
  | _ => False
def specOn (j : Nat) : SV → Prop
  | .spec j' _ _ => j' = j
  | _ => False
theorem killLoc_no {k : Nat} : ∀ {s : SV}, ¬ mentions k s → killLoc k s = s
  | .val _, _ => rfl
  | .dead, _ => rfl
  | .loc k' o, h => by
    show (match Nat.beq k' k with | true => SV.dead | false => .loc k' o) = _
    rw [show Nat.beq k' k = false from Bool.eq_false_iff.2 fun e => h (Nat.eq_of_beq_eq_true e)]
  | .spec j w s, h => by
    show SV.spec j w (killLoc k s) = _
    rw [killLoc_no (s := s) h]
theorem unspec_no {d : Nat} : ∀ {s : SV}, ¬ specOn d s → unspec d s = s
  | .val _, _ => rfl
  | .dead, _ => rfl
  | .loc _ _, _ => rfl
  | .spec j w s, h => by
    show (match Nat.beq j d with | true => SV.dead | false => .spec j w s) = _
    rw [show Nat.beq j d = false from Bool.eq_false_iff.2 fun e => h (Nat.eq_of_beq_eq_true e)]
theorem evG_mentions {φ : Slots} {x : Operand} {k off : Nat} (h : evG g φ x = .loc k off) : mentions k (evS φ x) := by
  unfold evG at h
  split at h
  · rename_i j w s hs
    rw [hs]
    show mentions k s
    split at h
    · split at h
      · split at h
        · rw [h]; rfl
        · cases h
      · cases h
    · cases h
  · rename_i hne
    rw [h]; rfl
theorem specPlain_val {P : Program} {o : Op} {ty : TypeId} {φ : Slots} {s : SV} (h : specPlain P g o ty φ = some s) : ∃ x, s = .val x := by
  unfold specPlain at h
  split at h
  · split at h
    · simp only [Option.some.injEq] at h; exact ⟨_, h.symm⟩
    · cases h
  · cases h
theorem pickOp_val {φ : Slots} {c x y : Operand} {s : SV} (h : pickOp φ c x y = some s) : ∃ u, s = .val u := by
  unfold pickOp at h
  repeat' split at h
  all_goals first
    | (cases h; done)
    | (simp only [Option.some.injEq] at h; exact ⟨_, h.symm⟩)
def Shape (g : Option (Nat × Bool)) (φ : Slots) (o : Oper) (s : SV) : Prop := (∃ x, s = .val x) ∨ ∃ k off off' x, s = .loc k off ∧ x ∈ o.op.operands ∧ evG g φ x = .loc k off'
theorem specOp_shape {P : Program} {o : Oper} {st : St} {s : SV} (h : specOp P g o.op o.type st = some s) : Shape g st.φ o s := by
  unfold Shape
  cases ho : o.op <;> rw [ho] at h
  case pick c x y =>
    unfold specOp at h
    cases g with
    | none => exact .inl (pickOp_val h)
    | some p => cases h
  case move x =>
    unfold specOp at h
    simp only at h
    split at h
    · simp only [Option.some.injEq] at h; exact .inl ⟨_, h.symm⟩
    · rename_i k f e; simp only [Option.some.injEq] at h; exact .inr ⟨k, f, f, x, h.symm, by simp [Op.operands], e⟩
    · cases h
  case assign x =>
    unfold specOp at h
    simp only at h
    split at h
    · simp only [Option.some.injEq] at h; exact .inl ⟨_, h.symm⟩
    · rename_i k f e; simp only [Option.some.injEq] at h; exact .inr ⟨k, f, f, x, h.symm, by simp [Op.operands], e⟩
    · cases h
  case nilCheck x =>
    unfold specOp at h
    simp only at h
    split at h
    · rename_i k f e; simp only [Option.some.injEq] at h; exact .inr ⟨k, f, f, x, h.symm, by simp [Op.operands], e⟩
    · cases h
  case load t x =>
    unfold specOp at h
    simp only at h
    split at h
    · split at h
      · simp only [Option.some.injEq] at h; exact .inl ⟨_, h.symm⟩
      · cases h
    · cases h
  case fieldAddr t x f =>
    unfold specOp at h
    simp only at h
    split at h
    · rename_i k off e
      split at h
      · simp only [Option.some.injEq] at h; exact .inr ⟨k, _, off, x, h.symm, by simp [Op.operands], e⟩
      · cases h
    · split at h
      · simp only [Option.some.injEq] at h; exact .inl ⟨_, h.symm⟩
      · cases h
    · cases h
  case binOp op ty x y uy =>
    unfold specOp at h
    simp only at h
    split at h
    · split at h
      · simp only [Option.some.injEq] at h; exact .inl ⟨_, h.symm⟩
      · cases h
    · exact .inl (specPlain_val h)
  all_goals (unfold specOp at h; exact .inl (specPlain_val h))
theorem det_shape {o : Oper} {φ : Slots} {L : Locals} {v : World} {s : SV} (h : detR E g b o φ L v s) : Shape g φ o s := by
  unfold detR at h
  cases hs : specOp E.P g o.op o.type ⟨φ, L, v⟩ with
  | some s' => rw [hs] at h; simp only at h; subst h; exact specOp_shape hs
  | none =>
    rw [hs] at h
    simp only at h
    unfold detM at h
    unfold Shape
    cases ho : o.op <;> simp only [ho] at h <;> try exact h.elim
    case load t x => obtain ⟨ad, cs, m, hx, hsz, hl, hu, ha, hc, rfl⟩ := h; exact .inl ⟨_, rfl⟩
    case nilCheck x => obtain ⟨p, ad, hx, hc, rfl⟩ := h; exact .inl ⟨_, rfl⟩
    case indexAddr t x i => obtain ⟨p, m, c, k, j, e, sz, ad, hx, hi, hu, hsz, hc, rfl⟩ := h; exact .inl ⟨_, rfl⟩
    case index t x i => obtain ⟨str, k, j, c, hx, hi, hu, hc, rfl⟩ := h; exact .inl ⟨_, rfl⟩
    case slice t x lo hi mx =>
      obtain ⟨rfl, h⟩ := h
      rcases h with ⟨str, l, hh, hx, hu, hl, hhh, hc, rfl⟩ | ⟨p, m, c, e, sz, l, hh, hx, hu, hsz, hl, hhh, hc, rfl⟩
      · exact .inl ⟨_, rfl⟩
      · exact .inl ⟨_, rfl⟩
    case call c => obtain ⟨f, args, ts, fn, x, _, _, _, _, _, rfl⟩ := h; exact .inl ⟨_, rfl⟩
theorem isPk_facts {o : Op} (h : isPk o = true) : (∀ t x, o ≠ .load t x) ∧ (∀ f args ts, o ≠ .call ⟨.value (.func f), args, ts⟩) ∧ (∀ t, o ≠ .alloc t) := by
  refine ⟨fun t x e => ?_, fun f args ts e => ?_, fun t e => ?_⟩ <;> subst e <;> cases h
theorem det_pure {o : Oper} (hp : isPk o.op = true) {φ : Slots} {L L' : Locals} {v v' : World} {s : SV} (h : detR E g b o φ L v s) : detR E g b o φ L' v' s := by
  obtain ⟨h1, h2, _⟩ := isPk_facts hp
  unfold detR at h ⊢
  rw [specOp_congr (v := v) (L := L) (φ := φ) h1 (fun _ _ => rfl)]
  cases hs : specOp E.P g o.op o.type ⟨φ, L, v⟩ with
  | some s' => rw [hs] at h; exact h
  | none =>
    rw [hs] at h
    simp only at h ⊢
    unfold detM at h ⊢
    cases ho : o.op <;> simp only [ho] at h ⊢ <;> try exact h
    case load t x => exact (h1 t x ho).elim
    case call c =>
      obtain ⟨f, args, ts, fn, x, rfl, _⟩ := h
      exact (h2 _ _ _ ho).elim

/-! ### flags -/
theorem flags_spec {q : Oper → Bool} : ∀ (l : List Oper) (acc : List Bool), ∃ t : List Bool, flagsH q l acc = acc ++ t ∧ t.length = l.length ∧
    ∀ k o, l[k]? = some o → t.getD k false = true → q o = true ∧ ∀ e ∈ o.after, Region.binds .any e = true → e.on < acc.length + k ∧ (acc ++ t).getD e.on false = true
  | [], acc => ⟨[], by simp [flagsH], rfl, fun k o h => by simp at h⟩
  | o :: l, acc => by
    obtain ⟨t, h1, h2, h3⟩ := flags_spec l (acc ++ [q o && o.after.toList.all fun e => !(Region.binds .any e) || acc.getD e.on false])
    refine ⟨(q o && o.after.toList.all fun e => !(Region.binds .any e) || acc.getD e.on false) :: t, by rw [flagsH, h1]; simp, by simp [h2], fun k o' ho hk => ?_⟩
    cases k with
    | zero =>
      simp only [List.getElem?_cons_zero, Option.some.injEq] at ho
      subst ho
      simp only [List.getD_cons_zero, Bool.and_eq_true] at hk
      refine ⟨hk.1, fun e he hb => ?_⟩
      have := (List.all_eq_true.1 hk.2) e (by simpa using he)
      rw [hb] at this
      simp only [Bool.not_true, Bool.false_or] at this
      have hlt : e.on < acc.length := by
        rcases Nat.lt_or_ge e.on acc.length with h | h
        · exact h
        · rw [List.getD_eq_getElem?_getD, List.getElem?_eq_none h] at this; cases this
      refine ⟨by omega, ?_⟩
      rw [List.getD_eq_getElem?_getD, List.getElem?_append_left hlt, ← List.getD_eq_getElem?_getD]; exact this
    | succ k =>
      obtain ⟨r1, r2⟩ := h3 k o' (by simpa using ho) (by simpa using hk)
      refine ⟨r1, fun e he hb => ?_⟩
      obtain ⟨r3, r4⟩ := r2 e he hb
      refine ⟨by simp at r3; omega, ?_⟩
      simpa using r4

/-! ### the states, one by one -/
def StepD (E : Env) (ops : Array Oper) (o : Oper) (st st' : St) : Prop :=
  match isLA E o with
  | true => ∃ t d i z, o.op = .alloc t ∧ o.dst = some d ∧ o.guard = none ∧ E.P.info? t = some i ∧ i.zero = some z ∧ st' = ⟨updS st.φ (some d) (.loc d 0), at_ st.L d (some z.cells.toList), st.v⟩
  | false => ∃ s', st' = ⟨updS st.φ o.dst s', st.L, st.v⟩ ∧ ((o.guard = none ∧ detR E none none o st.φ st.L st.v s') ∨
      ∃ j want t, o.guard = some (j, want) ∧ (ops[j]?).bind (·.dst) = some t ∧
        ((∃ q s, st.φ t = .val (.bool q) ∧ detR E (some (t, want)) (some (q, want)) o st.φ st.L st.v s ∧ s' = .spec t want s) ∨ ∃ x, st.φ t = .val x ∧ (∀ q, x ≠ .bool q) ∧ s' = .val undef))
theorem drun_chain {ops : Array Oper} {K : St → Prop} : ∀ (l : List Oper) (bs : List Bool) (st : St), bs.length = l.length → drun E ops l bs st K →
    ∃ sts : Nat → St, sts 0 = st ∧ (∀ k o, l[k]? = some o → (bs.getD k false = false → sts (k + 1) = sts k) ∧ (bs.getD k false = true → StepD E ops o (sts k) (sts (k + 1)))) ∧ K (sts l.length)
  | [], [], st, _, h => ⟨fun _ => st, rfl, fun k o ho => by simp at ho, h⟩
  | [], _ :: _, _, hl, _ => by simp at hl
  | _ :: _, [], _, hl, _ => by simp at hl
  | o :: l, q :: bs, st, hl, h => by
    have ext : ∀ st', (q = false → st' = st) → (q = true → StepD E ops o st st') → drun E ops l bs st' K → ∃ sts : Nat → St, sts 0 = st ∧ (∀ k o', (o :: l)[k]? = some o' → ((q :: bs).getD k false = false → sts (k + 1) = sts k) ∧ ((q :: bs).getD k false = true → StepD E ops o' (sts k) (sts (k + 1)))) ∧ K (sts (o :: l).length) := fun st' h1 h2 h3 => by
      obtain ⟨sts, e0, hs, hK⟩ := drun_chain l bs st' (by simpa using hl) h3
      refine ⟨fun k => match k with | 0 => st | k + 1 => sts k, rfl, fun k o' ho => ?_, hK⟩
      cases k with
      | zero =>
        simp only [List.getElem?_cons_zero, Option.some.injEq] at ho
        subst ho
        simp only [List.getD_cons_zero]
        rw [e0]
        exact ⟨h1, h2⟩
      | succ k => simpa using hs k o' (by simpa using ho)
    unfold drun at h
    cases q with
    | false => exact ext st (fun _ => rfl) (fun e => by cases e) h
    | true =>
      simp only at h
      cases hla : isLA E o with
      | true =>
        simp only [hla] at h
        split at h
        · rename_i t d hop hdst hgd
          split at h
          · rename_i i hi
            split at h
            · rename_i z hz
              exact ext _ (fun e => by cases e) (fun _ => by unfold StepD; rw [hla]; exact ⟨t, d, i, z, hop, hdst, hgd, hi, hz, rfl⟩) h
            · exact h.elim
          · exact h.elim
        · exact h.elim
      | false =>
        simp only [hla] at h
        split at h
        · rename_i hgd
          obtain ⟨s, hd, hK⟩ := det_R h
          exact ext _ (fun e => by cases e) (fun _ => by unfold StepD; rw [hla]; exact ⟨s, rfl, .inl ⟨hgd, hd⟩⟩) hK
        · rename_i j want hgd
          split at h
          · exact h.elim
          · rename_i t ht
            split at h
            · rename_i q hq
              obtain ⟨s, hd, hK⟩ := det_R h
              exact ext _ (fun e => by cases e) (fun _ => by unfold StepD; rw [hla]; exact ⟨_, rfl, .inr ⟨j, want, t, hgd, ht, .inl ⟨q, s, hq, hd, rfl⟩⟩⟩) hK
            · rename_i x hne hx
              exact ext _ (fun e => by cases e) (fun _ => by unfold StepD; rw [hla]; exact ⟨_, rfl, .inr ⟨j, want, t, hgd, ht, .inr ⟨x, hx, fun q e => hne q (by rw [e]), rfl⟩⟩⟩) h
            · exact h.elim
end
end Vc
end Go.Proofs.Ytnlekdpnjphmfaa
