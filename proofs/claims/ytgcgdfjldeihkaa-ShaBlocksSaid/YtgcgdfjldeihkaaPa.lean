/- Pure evaluation of the model's code: a step at another state, alike where it looks. -/
import Derived.Test.YtgcgdfjldeihkaaPb
namespace Go.Proofs.Ytgcgdfjldeihkaa
namespace Pv
set_option linter.unusedVariables false
section
variable {E : Env} {R : Type} {r : R} {ops : Array Oper} {o : Oper} {A : Nat → Prop}
/-- Alike in what a step looks at. -/
structure Foot (d : Option Nat) (rc : Rec) (st X : PSt) : Prop where
  L : ∀ k, k ∈ rc.keysR ∨ k ∈ rc.keysW → X.L k = st.L k
  O : ∀ t ∈ rc.toksR, X.O t = st.O t
  zero : X.O .zero = st.O .zero
  fr : ∀ x, d = some x → hasN X.fr x = hasN st.fr x
  free : ∀ x, d = some x → hasN X.sp x = false
  ment : ∀ x ∈ outN d X.fr, mentP x rc.val = false ∧ ∀ p ∈ rc.loc, mentLs x p.2 = false
/-- The slots are alike. -/
structure Alike (A : Nat → Prop) (st X : PSt) (kn kn' : List (Nat × Bool)) : Prop where
  φ : ∀ t, A t → X.φ t = st.φ t
  kn : ∀ t, A t → knows kn' t = knows kn t
  cl : ∀ t, A t → ∀ j w ag ls, st.φ t = .spec j w ag ls → A j
theorem Alike.cons {st X : PSt} {kn kn' : List (Nat × Bool)} (h : Alike A st X kn kn') (t : Nat) (b : Bool) : Alike A st X ((t, b) :: kn) ((t, b) :: kn') :=
  ⟨h.φ, fun x hx => by
    unfold knows
    split
    · rfl
    · exact h.kn x hx, h.cl⟩
theorem Alike.ev {st X : PSt} {kn kn' : List (Nat × Bool)} (h : Alike A st X kn kn') {x : Operand} (hx : ∀ t, x = .tmp t → A t) : evK kn' X.φ x = evK kn st.φ x := by
  unfold evK
  have e : evS X.φ x = evS st.φ x := by
    cases x with
    | tmp t => exact h.φ t (hx t rfl)
    | _ => rfl
  rw [e]
  have hb : ∀ p, knB kn' x p = knB kn x p := fun p => knB_congr fun t e => h.kn t (hx t e)
  split
  · rename_i j want ag ls hs
    have hj : A j := by
      cases x with
      | tmp t => exact h.cl t (hx t rfl) j want ag ls hs
      | const c =>
        exfalso
        have hs' : constPV c = .spec j want ag ls := hs
        unfold constPV at hs'
        repeat' split at hs'
        all_goals cases hs'
      | _ => cases hs
    rw [h.kn j hj, hb]
  · exact hb _
theorem putL_congr {L L' : Nat → Option (Nat × List Leaf)} {k : Nat} (h : L' k = L k) : ∀ (l : List (Nat × List Leaf)), putL L' l k = putL L l k
  | [] => h
  | (j, ls) :: r => by
    unfold putL
    split
    · rfl
    · exact putL_congr h r
theorem okUpd_at {st X : PSt} {d : Option Nat} {u : Upd} (h : okUpd st d u = true) (h1 : ∀ k ∈ keyP u.val, X.L k = st.L k) (h2 : ∀ p ∈ u.loc, X.L p.1 = st.L p.1) (h3 : ∀ x, d = some x → hasN X.fr x = hasN st.fr x) (h4 : ∀ x ∈ outN d X.fr, mentP x u.val = false ∧ ∀ p ∈ u.loc, mentLs x p.2 = false) : okUpd X d u = true := by
  simp only [okUpd, Bool.and_eq_true, List.all_eq_true, Bool.not_eq_true'] at h ⊢
  obtain ⟨⟨⟨⟨_, g2⟩, g3⟩, g4⟩, g5⟩ := h
  refine ⟨⟨⟨⟨h4, fun t ht => ?_⟩, g3⟩, fun k hk => ?_⟩, fun p hp => ?_⟩
  · have := g2 t ht
    split
    · rename_i d' j x
      dsimp only at this
      rw [h3 _ rfl]; exact this
    · rename_i hn
      split at this
      · exact (hn _ _ _ rfl rfl).elim
      · cases this
  · have := g4 k hk
    rw [putL_congr (h1 k hk)]; exact this
  · have := g5 p hp
    rw [h2 p hp]
    split
    · rfl
    · rename_i hn
      rw [hn] at this
      dsimp only at this
      cases d with
      | none => cases this
      | some x => dsimp only at this ⊢; rw [h3 x rfl]; exact this
theorem freeD_at {φ : Nat → PV} {L : Nat → Option (Nat × List Leaf)} {O : Tok → Bool} {kn : List (Nat × Bool)} {sp fr : List Nat} {d : Option Nat} (h : ∀ x, d = some x → hasN sp x = false ∧ knows kn x = none) : freeD ⟨φ, L, O, kn, sp, fr⟩ d = true := by
  cases d with
  | none => rfl
  | some x => simp [freeD, (h x rfl).1, (h x rfl).2]
theorem flatMap_same {α β : Type} {f g : α → List β} : ∀ (l : List α), (∀ x ∈ l, f x = g x) → l.flatMap f = l.flatMap g
  | [], _ => rfl
  | x :: r, h => by rw [List.flatMap_cons, List.flatMap_cons, h x (by simp), flatMap_same r fun y hy => h y (by simp [hy])]
theorem recU_at {st X : PSt} {kn kn' : List (Nat × Bool)} {u : Upd} (he : ∀ x ∈ o.op.operands, evK kn' X.φ x = evK kn st.φ x) (hl : ∀ x ∈ o.op.operands, ∀ k ∈ keyP (evK kn st.φ x), X.L k = st.L k) : recU o X kn' u = recU o st kn u := by
  have e1 : o.op.operands.toList.map (evK kn' X.φ) = o.op.operands.toList.map (evK kn st.φ) := List.map_congr_left fun x hx => he x (by simpa using hx)
  have e2 : (o.op.operands.toList.map (evK kn st.φ)).flatMap (lentToks X.L) = (o.op.operands.toList.map (evK kn st.φ)).flatMap (lentToks st.L) := by
    rw [List.flatMap_map, List.flatMap_map]
    refine flatMap_same _ fun x hx => ?_
    have hk := hl x (by simpa using hx)
    generalize evK kn st.φ x = p at hk
    cases p with
    | loc k off => simp only [lentToks, hk k (by simp [keyP])]
    | _ => rfl
  unfold recU
  dsimp only
  rw [e1, e2]
/-- What the step's own kind of state gives back. -/
def SpIn (X : PSt) (g : Option Nat) (s : PSt) : Prop := ∀ t, hasN s.sp t = true → hasN X.sp t = true ∨ g = some t
theorem stepU_at {g : Option Nat} {st X : PSt} {kn kn' : List (Nat × Bool)} {rc : Rec} {s : PSt} (hA : Alike A st X kn kn') (hops : ∀ t, .tmp t ∈ o.op.operands → A t) (hk : ∀ x, o.dst = some x → knows kn' x = none) (hF : Foot o.dst rc st X) (hv : stepU E o kn st (fun rc s => some (rc, s)) = some (rc, s)) :
    ∃ s', stepU E o kn' X (fun rc s => some (rc, s)) = some (rc, s') ∧ Like s' (appR o.dst rc X) ∧ SpIn X g s' := by
  have hev : ∀ x ∈ o.op.operands, evK kn' X.φ x = evK kn st.φ x := fun x hx => hA.ev fun t e => hops t (e ▸ hx)
  have hfd := freeD_at (φ := X.φ) (L := X.L) (O := X.O) (fr := X.fr) fun x hx => ⟨hF.free x hx, hk x hx⟩
  unfold stepU at hv ⊢
  rw [hfd]
  split at hv
  case h_2 => cases hv
  dsimp only
  split at hv
  · rename_i c a b hop
    split at hv
    · rename_i p hp
      injection hv with hv
      obtain ⟨rfl, rfl⟩ := Prod.mk.inj hv
      have e : pickP kn' X.φ c a b = pickP kn st.φ c a b := by
        have hc := hev c (by simp [hop, Op.operands])
        unfold pickP
        split
        · rename_i t
          rw [hc]
          have e1 := (hA.cons t true).ev (x := a) fun t e => hops t (by simp [hop, Op.operands, e])
          have e2 := (hA.cons t false).ev (x := b) fun t e => hops t (by simp [hop, Op.operands, e])
          rw [e1, e2]
        · rfl
      rw [e, hp]
      exact ⟨_, rfl, ⟨rfl, rfl, putO_nil.symm, fun _ => rfl⟩, fun t h => .inl h⟩
    · cases hv
  · obtain ⟨u, h1, h2⟩ := pvU_nat hv
    split at h1
    · rename_i hok
      injection h1 with h1
      obtain ⟨rfl, rfl⟩ := Prod.mk.inj h1
      have hlk : ∀ x ∈ o.op.operands, ∀ k ∈ keyP (evK kn st.φ x), X.L k = st.L k := fun x hx k hk => hF.L k (.inl (List.mem_append.2 (.inl (List.mem_flatMap.2 ⟨_, List.mem_map.2 ⟨x, by simpa using hx, rfl⟩, hk⟩))))
      have hs : Sees o ⟨st.φ, st.L, st.O, kn, st.sp, st.fr⟩ ⟨X.φ, X.L, X.O, kn', X.sp, X.fr⟩ (evK kn st.φ) (evK kn' X.φ) := by
        refine ⟨hev, hlk, hF.fr, fun hr x hx t ht => hF.O t ?_, hF.zero⟩
        show t ∈ (recU o st kn u).toksR
        unfold recU
        rw [hr]
        have hm : evK kn st.φ x ∈ o.op.operands.toList.map (evK kn st.φ) := List.mem_map.2 ⟨x, by simpa using hx, rfl⟩
        rcases ht with ht | ht
        · exact List.mem_append.2 (.inl (List.mem_flatMap.2 ⟨_, hm, ht⟩))
        · exact List.mem_append.2 (.inr (List.mem_flatMap.2 ⟨_, hm, ht⟩))
      have hok' : okUpd ⟨X.φ, X.L, X.O, kn', X.sp, X.fr⟩ o.dst u = true := okUpd_at (X := ⟨X.φ, X.L, X.O, kn', X.sp, X.fr⟩) hok (fun k hk => hF.L k (.inl (List.mem_append.2 (.inr hk)))) (fun p hp => hF.L p.1 (.inr (List.mem_map.2 ⟨p, hp, rfl⟩))) hF.fr hF.ment
      rw [pvU_congr hs, h2, hok', recU_at hev hlk]
      exact ⟨_, rfl, ⟨rfl, rfl, rfl, fun _ => rfl⟩, fun t h => .inl h⟩
    · cases h1
theorem skipU_at {g : Option Nat} {st X : PSt} {kn kn' : List (Nat × Bool)} {rc : Rec} {s : PSt} (hk : ∀ x, o.dst = some x → knows kn' x = none) (hF : ∀ x, o.dst = some x → hasN X.sp x = false) (hv : skipU o kn st (fun rc s => some (rc, s)) = some (rc, s)) :
    ∃ s', skipU o kn' X (fun rc s => some (rc, s)) = some (rc, s') ∧ Like s' (appR o.dst rc X) ∧ SpIn X g s' := by
  have hfd := freeD_at (φ := X.φ) (L := X.L) (O := X.O) (fr := X.fr) fun x hx => ⟨hF x hx, hk x hx⟩
  unfold skipU at hv ⊢
  rw [hfd]
  split at hv
  case h_2 => cases hv
  injection hv with hv
  obtain ⟨rfl, rfl⟩ := Prod.mk.inj hv
  exact ⟨_, rfl, ⟨rfl, rfl, putO_nil.symm, fun _ => rfl⟩, fun t h => .inl h⟩
theorem wayU_at {g : Option Nat} {want b : Bool} {st X : PSt} {kn kn' : List (Nat × Bool)} {rc : Rec} {s : PSt} (hA : Alike A st X kn kn') (hops : ∀ t, .tmp t ∈ o.op.operands → A t) (hk : ∀ x, o.dst = some x → knows kn' x = none) (hF : Foot o.dst rc st X) (hv : wayU E o want b kn st (fun rc s => some (rc, s)) = some (rc, s)) :
    ∃ s', wayU E o want b kn' X (fun rc s => some (rc, s)) = some (rc, s') ∧ Like s' (appR o.dst rc X) ∧ SpIn X g s' := by
  unfold wayU at hv ⊢
  split at hv
  · exact stepU_at hA hops hk hF hv
  · exact skipU_at hk hF.free hv
theorem totalO_at {ev ev' : Operand → PV} (h : ∀ x ∈ o.op.operands, ev' x = ev x) : totalO ev' o.op = totalO ev o.op := by
  obtain ⟨dst, op, type, pos, after, guard⟩ := o
  cases op with
  | binOp op ty x y uy =>
    have e := h x (by simp [Op.operands])
    simp only [totalO, e]
  | call c =>
    obtain ⟨callee, args, argTypes⟩ := c
    cases callee with
    | builtin b => cases b <;> rfl
    | _ => rfl
  | _ => rfl
theorem pvU_total {st X : PSt} {ev ev' : Operand → PV} (h : ∀ x ∈ o.op.operands, ev' x = ev x) (ht : totalO ev o.op = true) (C : Upd → Option R) : pvU E o X ev' C = pvU E o st ev C := by
  obtain ⟨dst, op, type, pos, after, guard⟩ := o
  cases op with
  | move x | assign x | field s x f | extract x i | unOp op ty x =>
    have e1 := h x (by simp [Op.operands])
    simp only [pvU, e1]
  | binOp op ty x i uy =>
    have e1 := h x (by simp [Op.operands])
    have e2 := h i (by simp [Op.operands])
    simp only [pvU, e1, e2]
  | call c =>
    obtain ⟨callee, args, argTypes⟩ := c
    cases callee with
    | builtin b =>
      cases b with
      | len =>
        simp only [pvU]
        unfold bltP
        split
        · rename_i x t ha _
          have hm : x ∈ args.toList := by rw [ha]; simp
          rw [h x (by simpa [Op.operands, Call.operands] using hm)]
        · rfl
        · rfl
      | _ => cases ht
    | _ => cases ht
  | _ => cases ht
theorem specU_at {st X : PSt} {kn kn' : List (Nat × Bool)} (hA : Alike A st X kn kn') (hops : ∀ t, .tmp t ∈ o.op.operands → A t) : specU E o kn' X = specU E o kn st := by
  have hev : ∀ x ∈ o.op.operands, evK kn' X.φ x = evK kn st.φ x := fun x hx => hA.ev fun t e => hops t (e ▸ hx)
  unfold specU
  rw [totalO_at hev]
  split
  · rename_i ht
    exact pvU_total hev ht _
  · rfl
theorem guardU_at {t : Nat} {want : Bool} {X : PSt} (hops : ∀ t, .tmp t ∈ o.op.operands → A t) (ht : A t) : ∀ {n : Nat} {kn kn' : List (Nat × Bool)} {st : PSt} {rc : Rec} {s : PSt}, Alike A st X kn kn' → (∀ x, o.dst = some x → knows kn' x = none ∧ ¬ A x) → Foot o.dst rc st X → guardU E o t want n kn st (fun rc s => some (rc, s)) = some (rc, s) →
    ∃ s', guardU E o t want n kn' X (fun rc s => some (rc, s)) = some (rc, s') ∧ Like s' (appR o.dst rc X) ∧ SpIn X (some t) s'
  | 0, _, _, _, _, _, _, _, _, hv => by cases hv
  | n + 1, kn, kn', st, rc, s, hA, hk, hF, hv => by
    have hx : ∀ x, o.dst = some x → knows kn' x = none := fun x hx => (hk x hx).1
    have hkc : ∀ (t' : Nat) (b' : Bool), A t' → ∀ x, o.dst = some x → knows ((t', b') :: kn') x = none ∧ ¬ A x := fun t' b' ht' x hx => by
      refine ⟨?_, (hk x hx).2⟩
      unfold knows
      split
      · rename_i e
        exact ((hk x hx).2 (Nat.eq_of_beq_eq_true e ▸ ht')).elim
      · exact (hk x hx).1
    have hev := hA.ev (x := .tmp t) fun t' e => by cases e; exact ht
    unfold guardU at hv ⊢
    rw [hev, hA.kn t ht, hA.φ t ht]
    split at hv
    · rename_i b hb
      split at hv
      · exact wayU_at hA hops hx hF hv
      · rename_i hkt
        dsimp only
        rw [specU_at (hA.cons t want) hops]
        split at hv
        · rename_i ag ls hs
          split at hv
          · rename_i hfk
            simp only [Bool.and_eq_true] at hfk
            injection hv with hv
            obtain ⟨rfl, rfl⟩ := Prod.mk.inj hv
            have hfr := freeD_free hfk.1
            have hne : ∀ x, o.dst = some x → hasN (t :: X.sp) x = false := fun x hx => by
              refine Bool.eq_false_iff.2 fun e => ?_
              rcases List.mem_cons.1 (hasN_iff.1 e) with rfl | e
              · exact (hk _ hx).2 ht
              · have := hF.free x hx
                rw [hasN_iff.2 e] at this
                cases this
            have hfd := freeD_at (φ := X.φ) (L := X.L) (O := X.O) (fr := X.fr) (kn := kn') (sp := t :: X.sp) fun x hx' => ⟨hne x hx', hx x hx'⟩
            have hkeep : keepUpd X o.dst (.w ag ls) = true := okUpd_at (st := st) hfk.2 (fun k hk => by cases hk) (fun p hp => by cases hp) hF.fr fun x hx => ⟨(hF.ment x hx).1, fun p hp => by cases hp⟩
            have hev2 : ∀ x ∈ o.op.operands, evK ((t, want) :: kn') X.φ x = evK ((t, want) :: kn) st.φ x := fun x hx => (hA.cons t want).ev fun t e => hops t (e ▸ hx)
            have hlk : ∀ x ∈ o.op.operands, ∀ k ∈ keyP (evK ((t, want) :: kn) st.φ x), X.L k = st.L k := fun x hx k hk => hF.L k (.inl (List.mem_append.2 (.inl (List.mem_flatMap.2 ⟨_, List.mem_map.2 ⟨x, by simpa using hx, rfl⟩, hk⟩))))
            rw [hfd, hkeep]
            rw [recU_at hev2 hlk]
            refine ⟨_, rfl, ⟨rfl, rfl, putO_nil.symm, fun _ => rfl⟩, fun t' h => ?_⟩
            rcases List.mem_cons.1 (hasN_iff.1 h) with rfl | e
            · exact .inr rfl
            · exact .inl (hasN_iff.2 e)
          · cases hv
        · cases b with
          | true => exact wayU_at (hA.cons t true) hops (fun x hx => (hkc t true ht x hx).1) hF hv
          | false => exact wayU_at (hA.cons t false) hops (fun x hx => (hkc t false ht x hx).1) hF hv
    · exact skipU_at hx hF.free hv
    · split at hv
      · rename_i t1 w1 ag1 ls1 hs1
        have ht1 : A t1 := hA.cl t ht _ _ _ _ hs1
        have hev1 := hA.ev (x := .tmp t1) fun t' e => by cases e; exact ht1
        rw [hev1, hA.kn t1 ht1]
        split at hv
        · rename_i b1 hb1 hk1
          cases b1 with
          | true => exact guardU_at hops ht (hA.cons t1 true) (hkc t1 true ht1) hF hv
          | false => exact guardU_at hops ht (hA.cons t1 false) (hkc t1 false ht1) hF hv
        · cases hv
      · cases hv
    · cases hv
theorem pvStep_at {st X : PSt} {rc : Rec} {s : PSt} (hA : Alike A st X st.kn X.kn) (hl : ∀ t, t ∈ o.looksAt ops → A t) (hk : ∀ x, o.dst = some x → knows X.kn x = none ∧ ¬ A x) (hF : Foot o.dst rc st X) (hv : pvStep E ops o st (fun rc s => some (rc, s)) = some (rc, s)) :
    ∃ s', pvStep E ops o X (fun rc s => some (rc, s)) = some (rc, s') ∧ Like s' (appR o.dst rc X) ∧ SpIn X (gslot ops o) s' := by
  have hops : ∀ t, .tmp t ∈ o.op.operands → A t := fun t ht => hl t (List.mem_append.2 (.inl (List.mem_filterMap.2 ⟨.tmp t, by simpa using ht, rfl⟩)))
  unfold pvStep at hv ⊢
  unfold gslot
  split at hv
  · exact stepU_at hA hops (fun x hx => (hk x hx).1) hF hv
  · rename_i j want hg
    split at hv
    · cases hv
    · rename_i t ht
      simp only [hg, ht]
      refine guardU_at hops (hl t (List.mem_append.2 (.inr ?_))) hA hk hF hv
      rw [hg]
      simp [ht]
end
end Pv
end Go.Proofs.Ytgcgdfjldeihkaa
