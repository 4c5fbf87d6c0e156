/- Pure evaluation of the model's code: the state at a cut. -/
import Derived.Test.YtgcgdfjldeihkaaPz
namespace Go.Proofs.Ytgcgdfjldeihkaa
namespace Pv
set_option linter.unusedVariables false
section
variable {P : Program} {E : Env} {F : Fr} {g g' g0 : Gh} {st st' s : PSt} {a a' a0 : Act} {w w' w0 : World} {R : Type} {r : R} {O O' : Tok → Bool} {σ : Tok → Tok → Prop}
theorem slotLs_len {φ : Nat → PV} : ∀ {sl : List (Nat × Bool × List LT)} {la : List Leaf}, slotLs φ sl = some la → la.length = lenTs sl
  | [], la, h => by
    simp only [slotLs, Option.some.injEq] at h
    subst h; rfl
  | (i, ag, ts) :: r, la, h => by
    unfold slotLs at h
    split at h
    · rename_i ag' ls l hp hr
      split at h
      · rename_i hb
        simp only [Bool.and_eq_true] at hb
        simp only [Option.some.injEq] at h
        subst h
        have := slotLs_len hr
        have hl := Nat.eq_of_beq_eq_true hb.2
        unfold lenTs at this ⊢
        simp [this, hl]
      · cases h
    · cases h
theorem slot_at {φ : Nat → PV} {rest : List Leaf} {i : Nat} {p : PV} : ∀ {sl : List (Nat × Bool × List LT)} {la : List Leaf}, slotLs φ sl = some la → nthS sl (la ++ rest) i = some p → φ i = p
  | [], la, _, hn => by cases hn
  | (j, ag, ts) :: r, la, h, hn => by
    unfold slotLs at h
    split at h
    · rename_i ag' ls l hp hr
      split at h
      · rename_i hb
        simp only [Bool.and_eq_true] at hb
        simp only [Option.some.injEq] at h
        subst h
        have hl : ls.length = ts.length := Nat.eq_of_beq_eq_true hb.2
        have hag := bEq_iff.1 hb.1
        unfold nthS at hn
        rw [← hl, List.append_assoc, List.take_left, List.drop_left] at hn
        split at hn
        · rename_i hij
          have e : i = j := Nat.eq_of_beq_eq_true hij
          injection hn with hn
          rw [e, hp, ← hn, hag]
        · exact slot_at hr hn
      · cases h
    · cases h
theorem nthS_same : ∀ {sl : List (Nat × Bool × List LT)} {q q' : List Leaf} {i : Nat} {p' : PV}, SameLs σ q q' → nthS sl q' i = some p' → ∃ ag l l', p' = .w ag l' ∧ nthS sl q i = some (.w ag l) ∧ SameLs σ l l'
  | [], _, _, _, _, _, h => by cases h
  | (j, ag, ts) :: r, q, q', i, p', hs, h => by
    unfold nthS at h
    split at h
    · rename_i hij
      injection h with h
      refine ⟨ag, q.take ts.length, q'.take ts.length, h.symm, ?_, hs.take _⟩
      unfold nthS
      rw [hij]
    · rename_i hij
      obtain ⟨ag', l, l', h1, h2, h3⟩ := nthS_same (hs.drop ts.length) h
      refine ⟨ag', l, l', h1, ?_, h3⟩
      unfold nthS
      rw [hij]; exact h2
theorem local_at {L : Nat → Option (Nat × List Leaf)} {k : Nat} {l : List Leaf} : ∀ {lo : List (Nat × List LT)} {lb : List Leaf}, localLs L lo = some lb → nthL lo lb k = some l → ∃ σ, L k = some (σ, l)
  | [], la, _, hn => by cases hn
  | (j, ts) :: r, lb, h, hn => by
    unfold localLs at h
    split at h
    · rename_i σ ls q hp hr
      split at h
      · rename_i hb
        simp only [Option.some.injEq] at h
        subst h
        have hl : ls.length = ts.length := Nat.eq_of_beq_eq_true hb
        unfold nthL at hn
        rw [← hl, List.take_left, List.drop_left] at hn
        split at hn
        · rename_i hij
          have e : k = j := Nat.eq_of_beq_eq_true hij
          injection hn with hn
          exact ⟨σ, by rw [e, hp, ← hn]⟩
        · exact local_at hr hn
      · cases h
    · cases h
theorem nthL_same : ∀ {lo : List (Nat × List LT)} {q q' : List Leaf} {k : Nat} {l' : List Leaf}, SameLs σ q q' → nthL lo q' k = some l' → ∃ l, nthL lo q k = some l ∧ SameLs σ l l'
  | [], _, _, _, _, _, h => by cases h
  | (j, ts) :: r, q, q', k, l', hs, h => by
    unfold nthL at h
    split at h
    · rename_i hij
      injection h with h
      refine ⟨q.take ts.length, ?_, by rw [← h]; exact hs.take _⟩
      unfold nthL
      rw [hij]
    · rename_i hij
      obtain ⟨l, h2, h3⟩ := nthL_same (hs.drop ts.length) h
      refine ⟨l, ?_, h3⟩
      unfold nthL
      rw [hij]; exact h2
theorem nthL_has : ∀ {lo : List (Nat × List LT)} {q : List Leaf} {k : Nat}, hasN (lo.map (·.1)) k = true → ∃ l, nthL lo q k = some l
  | [], q, k, h => by cases h
  | (j, ts) :: r, q, k, h => by
    unfold nthL
    cases hb : Nat.beq k j with
    | true => exact ⟨_, rfl⟩
    | false =>
      have hm := hasN_iff.1 h
      simp only [List.map_cons, List.mem_cons] at hm
      rcases hm with e | hm
      · rw [e] at hb; simp at hb
      · exact nthL_has (hasN_iff.2 hm)
theorem LocOk.turn {F' : Fr} (T : Turn F g O F' g' O' σ) (hF : ∀ b o, Wr F b o → Wr F' b o) {ls ls' : List Leaf} (hs : SameLs σ ls ls') {p : Nat × Nat} (h : LocOk F g w O ls p) : LocOk F' g' w O' ls' p := by
  obtain ⟨cur, T0, h1, h2, h3, h4, h5⟩ := h
  refine ⟨cur, T0, h1, by rw [hs.sizes]; exact h2, by rw [hs.sizes]; exact h3.turn T hs, fun o x y => ?_, fun o ho => h5 o (by rw [hs.sizes] at ho; exact ho)⟩
  rw [hs.sizes] at y
  obtain ⟨z1, z2⟩ := h4 o x y
  exact ⟨by rw [T.C]; exact z1, hF _ _ z2⟩
def headG (g : Gh) (n : Ann) (st : PSt) (ks : List Tok) : Gh :=
  ⟨g.C, fun t => match t with | .hd i j => (match Nat.beq i n.id with | true => g.blk (ks.getD j .zero) | false => none) | _ => none, g.ρ, fun k σ => match Nat.beq σ n.id with | true => (match keptL n st k with | some (_, ls) => ls | none => []) | false => g.H k σ⟩
theorem headG_H {n : Ann} {ks : List Tok} {k σ : Nat} (h : σ ≠ n.id) : (headG g n st ks).H k σ = g.H k σ := by
  show (match Nat.beq σ n.id with | true => _ | false => g.H k σ) = _
  rw [show Nat.beq σ n.id = false from Bool.eq_false_iff.2 fun e => h (Nat.eq_of_beq_eq_true e)]
theorem keptL_some {n : Ann} {k σ : Nat} {ls : List Leaf} (h : keptL n st k = some (σ, ls)) : σ = n.id ∧ k ∈ n.kept ∧ ∃ σ0 l0, st.L k = some (σ0, l0) ∧ ls = l0.map unown := by
  unfold keptL at h
  split at h
  · rename_i hk
    split at h
    · rename_i σ0 l0 h0
      simp only [Option.some.injEq, Prod.mk.injEq] at h
      exact ⟨h.1.symm, hasN_iff.1 hk, σ0, l0, h0, h.2.symm⟩
    · cases h
  · cases h
theorem unownP_rel {tmf tmf' : Nat → Value} {u : Value} {p : PV} (h : RelP F g0 w0 O tmf u p) (G : Gw w0 g0.C w g.C) (hρ : ∀ k, k ∈ keyP p → g.ρ k = g0.ρ k) : RelP F g w O' tmf' u (unownP p) := by
  have hd : ∀ (ls : List Leaf) k E e x, Leaf.own k E e x ∈ ls.map unown → False := fun ls k E e x hm => by
    obtain ⟨l, _, hl⟩ := List.mem_map.1 hm
    have := unown_D l
    rw [hl] at this; cases this
  cases p with
  | w ag ls => exact (RelV.less (O' := O') unown_less h).gw G fun k E e x hm => (hd ls k E e x hm).elim
  | tup xs =>
    obtain ⟨us, e, ht⟩ := h
    refine ⟨us, e, (RelT.less (O' := O') unown_less ht).gw G fun k E e x ⟨y, hy, hm⟩ => ?_⟩
    obtain ⟨z, _, rfl⟩ := List.mem_map.1 hy
    exact (hd z.2 k E e x hm).elim
  | loc k f =>
    show u = _
    rw [hρ k (by simp [keyP])]; exact h
  | locE k f e j q =>
    refine ⟨h.1, ?_⟩
    rw [hρ k (by simp [keyP])]; exact h.2
  | row k m t =>
    obtain ⟨cap, h1, h2⟩ := h
    refine ⟨cap, ?_, h2⟩
    rw [hρ k (by simp [keyP])]; exact h1
  | elem ls => exact RelP.gw (tmf' := tmf') (elem_less (O'' := O') h) G (fun k hk => hk.elim) (fun k hk => by cases hk) (fun _ _ _ _ e => by cases e)
  | raw v => exact h
  | spec _ _ _ _ => trivial
  | dead => trivial
theorem slotLs_arr (h : MRel F g s (tm a) w) : ∀ {sl : List (Nat × Bool × List LT)} {la : List Leaf}, slotLs s.φ sl = some la → ∀ l ∈ la, arrOk l
  | [], la, hs, l, hl => by
    simp only [slotLs, Option.some.injEq] at hs
    subst hs
    cases hl
  | (i, ag, ts) :: r, la, hs, l, hl => by
    unfold slotLs at hs
    split at hs
    · rename_i ag' ls q hφ hq
      split at hs
      · injection hs with hs
        subst hs
        rcases List.mem_append.1 hl with hl | hl
        · have h0 := h.slots i
          rw [hφ] at h0
          obtain ⟨cs, h1, _⟩ := h0
          exact repLs_arr h1 l hl
        · exact slotLs_arr h hq l hl
      · cases hs
    · cases hs
theorem localLs_arr (h : MRel F g s (tm a) w) : ∀ {lo : List (Nat × List LT)} {lb : List Leaf}, localLs s.L lo = some lb → ∀ l ∈ lb, arrOk l
  | [], lb, hs, l, hl => by
    simp only [localLs, Option.some.injEq] at hs
    subst hs
    cases hl
  | (k, ts) :: r, lb, hs, l, hl => by
    unfold localLs at hs
    split at hs
    · rename_i σ ls q hL hq
      split at hs
      · injection hs with hs
        subst hs
        rcases List.mem_append.1 hl with hl | hl
        · obtain ⟨cur, T, _, _, h1, _⟩ := h.locals k σ ls hL
          exact repLs_arr h1 l hl
        · exact localLs_arr h hq l hl
      · cases hs
    · cases hs
theorem head_rel {n : Ann} {x : n.D} {hd : PSt} {M I : Nat → Prop} (h0 : MRel F g0 st (tm a0) w0) (hl : Lft M I g0 a0 w0 g a w) (hM : ∀ i, M i → n.has i = true) (h : MRel F g s (tm a) w) (hc : collect n s = some x)
    (hk : ∀ k, k ∈ n.kept → ∀ σ0 ls0, st.L k = some (σ0, ls0) → ∃ σ ls, s.L k = some (σ, ls) ∧ ls.map unown = ls0.map unown) (hh : headSt n st x = some hd) :
    ∃ g', MRel F g' hd (tm a) w ∧ g'.C = g.C ∧ g'.ρ = g.ρ ∧ (∀ k σ, σ ≠ n.id → g'.H k σ = g.H k σ) ∧ ∀ k ls, keptL n st k = some (n.id, ls) → g'.H k n.id = ls := by
  unfold collect at hc
  split at hc
  case h_2 => cases hc
  rename_i la lb hla hlb
  split at hc
  case h_2 => cases hc
  rename_i ks xs htake
  split at hc
  case h_2 => cases hc
  rename_i hdt
  have hun : unpackD (n.ts.map LT.ty) x = xs := unpack_pack _ _ _ hc
  unfold headSt at hh
  rw [hun] at hh
  split at hh
  · cases hh
  rename_i ls' hmk
  injection hh with hh
  obtain ⟨hsame, _⟩ := take_mk (fun l hl => .inl (by
    rcases List.mem_append.1 hl with hl | hl
    · exact slotLs_arr h hla l hl
    · exact localLs_arr h hlb l hl)) htake hmk
  have T : Turn F g s.O F (headG g n st ks) (fun t => hasT (.zero :: labs (Tok.hd n.id) n.ts 0) t) (fun k k' => TokAt n.ts ks (Tok.hd n.id) 0 k k' ∧ s.O k = true) := by
    refine ⟨rfl, fun k k' hσ _ => ⟨hσ.2, ?_⟩, fun k k' b o _ _ _ _ hw => hw⟩
    obtain ⟨⟨i, E, e, h1, h2, rfl⟩, _⟩ := hσ
    show (match Nat.beq n.id n.id with | true => g.blk (ks.getD (0 + i) .zero) | false => none) = _
    rw [show Nat.beq n.id n.id = true by simp, List.getD_eq_getElem?_getD, Nat.zero_add, h2]; rfl
  have liveH : ∀ k, hasT (.zero :: labs (Tok.hd n.id) n.ts 0) k = true → k = .zero ∨ ∃ i k0, k = .hd n.id i ∧ ks[i]? = some k0 ∧ s.O k0 = true ∧ (headG g n st ks).blk k = g.blk k0 := fun k hk => by
    rcases List.mem_cons.1 (hasT_iff.1 hk) with rfl | hm
    · exact .inl rfl
    · obtain ⟨i, E, e, h1, rfl⟩ := labs_mem.1 hm
      obtain ⟨k0, q1, q2⟩ := take_ks htake i E e h1
      refine .inr ⟨i, k0, by rw [Nat.zero_add], q1, q2, ?_⟩
      show (match Nat.beq n.id n.id with | true => g.blk (ks.getD (0 + i) .zero) | false => none) = _
      rw [show Nat.beq n.id n.id = true by simp, List.getD_eq_getElem?_getD, Nat.zero_add, q1]; rfl
  have hlen : la.length = lenTs n.slots := slotLs_len hla
  -- the locals of the head
  have locH : ∀ k σ l, hd.L k = some (σ, l) → (σ = 0 ∧ ∃ σ1 l1, s.L k = some (σ1, l1) ∧ SameLs (fun k k' => TokAt n.ts ks (Tok.hd n.id) 0 k k' ∧ s.O k = true) l1 l) ∨
      (σ = n.id ∧ keptL n st k = some (n.id, l) ∧ (∀ y ∈ l, isD y = true) ∧ ∃ σ1 l1, s.L k = some (σ1, l1) ∧ l = l1.map unown) := fun k σ l hL => by
    rw [← hh] at hL
    have hL' : (match nthL n.locals (ls'.drop (lenTs n.slots)) k with | some l => some (0, l) | none => keptL n st k) = some (σ, l) := hL
    split at hL'
    · rename_i l0 hn
      simp only [Option.some.injEq, Prod.mk.injEq] at hL'
      obtain ⟨rfl, rfl⟩ := hL'
      obtain ⟨l1, h1, h2⟩ := nthL_same (hsame.drop (lenTs n.slots)) hn
      rw [← hlen, List.drop_left] at h1
      obtain ⟨σ1, h3⟩ := local_at hlb h1
      exact .inl ⟨rfl, σ1, l1, h3, h2⟩
    · obtain ⟨e1, e2, σ0, l0, e3, e4⟩ := keptL_some hL'
      obtain ⟨σ1, l1, q1, q2⟩ := hk k e2 σ0 l0 e3
      subst e1
      exact .inr ⟨rfl, hL', by rw [e4]; intro y hy; obtain ⟨z, _, rfl⟩ := List.mem_map.1 hy; exact unown_D z, σ1, l1, q1, by rw [e4, q2]⟩
  have locS : ∀ k y, hd.L k = some y → ∃ z, s.L k = some z := fun k y hy => by
    rcases locH k y.1 y.2 hy with ⟨_, σ1, l1, h1, _⟩ | ⟨_, _, _, σ1, l1, h1, _⟩ <;> exact ⟨_, h1⟩
  have hO : ∀ k, hd.O k = hasT (.zero :: labs (Tok.hd n.id) n.ts 0) k := fun k => by rw [← hh]
  have slotH : ∀ i, (∃ ag l l', hd.φ i = .w ag l' ∧ s.φ i = .w ag l ∧ SameLs (fun k k' => TokAt n.ts ks (Tok.hd n.id) 0 k k' ∧ s.O k = true) l l') ∨ hd.φ i = .dead ∨ (n.has i = false ∧ hd.φ i = unownP (st.φ i) ∧ ∀ k, k ∈ keyP (st.φ i) → n.has k = false ∧ n.knowsL st k = true) := fun i => by
    rw [← hh]
    show (∃ ag l l', (match nthS n.slots ls' i with | some p => p | none => _) = PV.w ag l' ∧ _) ∨ (match nthS n.slots ls' i with | some p => p | none => _) = PV.dead ∨ (_ ∧ (match nthS n.slots ls' i with | some p => p | none => _) = _ ∧ _)
    cases hn : nthS n.slots ls' i with
    | some p =>
      obtain ⟨ag, l, l', h1, h2, h3⟩ := nthS_same hsame hn
      exact .inl ⟨ag, l, l', h1, slot_at hla h2, h3⟩
    | none =>
      right
      simp only
      cases hdd : hasN n.dead i with
      | true => exact .inl rfl
      | false =>
        simp only
        have hnot : n.has i = false := by
          unfold Ann.has
          rw [hdd, Bool.false_or]
          apply Bool.eq_false_iff.2
          intro hany
          obtain ⟨p, hp, hb⟩ := List.any_eq_true.1 hany
          have hsome : ∀ (sl : List (Nat × Bool × List LT)) (q : List Leaf), p ∈ sl → nthS sl q i ≠ none := by
            intro sl
            induction sl with
            | nil => intro q hm; cases hm
            | cons y sl ih =>
              intro q hm
              obtain ⟨j, ag, ts⟩ := y
              unfold nthS
              cases hij : Nat.beq i j with
              | true => simp
              | false =>
                rcases List.mem_cons.1 hm with rfl | hm
                · rw [hij] at hb; cases hb
                · exact ih _ hm
          exact hsome _ _ hp hn
        cases hp : st.φ i with
        | w ag l => exact .inr ⟨hnot, rfl, fun k hk => by cases hk⟩
        | tup xs => exact .inr ⟨hnot, rfl, fun k hk => by cases hk⟩
        | elem l => exact .inr ⟨hnot, rfl, fun k hk => by cases hk⟩
        | raw v => exact .inr ⟨hnot, rfl, fun k hk => by cases hk⟩
        | spec _ _ _ _ => exact .inl rfl
        | dead => exact .inl rfl
        | loc k f =>
          simp only [unownP]
          cases hb : (!(n.has k) && n.knowsL st k) with
          | false => exact .inl rfl
          | true =>
            simp only [Bool.and_eq_true, Bool.not_eq_true'] at hb
            exact .inr ⟨hnot, rfl, fun k' hk => by have e : k' = k := by simpa [keyP] using hk
                                                   rw [e]; exact hb⟩
        | row k m t =>
          simp only [unownP]
          cases hb : (!(n.has k) && n.knowsL st k) with
          | false => exact .inl rfl
          | true =>
            simp only [Bool.and_eq_true, Bool.not_eq_true'] at hb
            exact .inr ⟨hnot, rfl, fun k' hk => by have e : k' = k := by simpa [keyP] using hk
                                                   rw [e]; exact hb⟩
        | locE k f e j q =>
          simp only [unownP]
          cases hb : (!(n.has k) && n.knowsL st k) with
          | false => exact .inl rfl
          | true =>
            simp only [Bool.and_eq_true, Bool.not_eq_true'] at hb
            exact .inr ⟨hnot, rfl, fun k' hk => by have e : k' = k := by simpa [keyP] using hk
                                                   rw [e]; exact hb⟩
  have notM : ∀ i, n.has i = false → ¬ M i := fun i hi hm => by rw [hM i hm] at hi; cases hi
  refine ⟨headG g n st ks, ⟨h.fr, fun i => ?_, fun k σ l hL => ?_, fun k σ l hL hσ => ?_, fun t b hb => ?_, fun i t want ag l hs => ?_, fun d hdd => ?_, fun i k hkk => ?_, rfl, fun k k' b hk1 hk2 hb hb' => ?_, fun k b j y hk1 hb hL => ?_, fun k b hk1 hb => ?_, fun k b hk1 hb => ?_, fun j j' y y' hj hj' he => ?_⟩,
    rfl, rfl, fun k σ hne => headG_H hne, fun k ls hkl => ?_⟩
  · rcases slotH i with ⟨ag, l, l', e1, e2, e3⟩ | e | ⟨e1, e2, e3⟩
    · rw [e1]
      have h1 := h.slots i
      rw [e2] at h1
      have h2 : RelV F g w s.O (tm a i) ag l := h1
      have h3 := h2.turn T e3
      obtain ⟨cs, q1, q2⟩ := h3
      refine ⟨cs, ?_, q2⟩
      have : hd.O = fun t => hasT (.zero :: labs (Tok.hd n.id) n.ts 0) t := funext hO
      rw [this]; exact q1
    · rw [e]; trivial
    · rw [e2, hl.tmp i (notM i e1)]
      exact unownP_rel (h0.slots i) hl.gw fun k hk => hl.ρ k (notM k (e3 k hk).1)
  · have eO : hd.O = fun t => hasT (.zero :: labs (Tok.hd n.id) n.ts 0) t := funext hO
    rw [eO]
    rcases locH k σ l hL with ⟨_, σ1, l1, h1, h2⟩ | ⟨_, _, _, σ1, l1, h1, h2⟩
    · exact (h.locals k σ1 l1 h1).turn T (fun _ _ hw => hw) h2
    · rw [h2]
      have h3 := LocOk.less (O' := fun _ => false) unown_less (h.locals k σ1 l1 h1)
      obtain ⟨cur, T0, c1, c2, c3, c4⟩ := h3
      refine ⟨cur, T0, c1, c2, c3.gw (g' := headG g n st ks) (Gw.refl w g.C) fun k' E e x hm => ?_, c4⟩
      obtain ⟨z, _, hz⟩ := List.mem_map.1 hm
      have := unown_D z
      rw [hz] at this; cases this
  · rcases locH k σ l hL with ⟨e, _⟩ | ⟨e, hkl, hD, _⟩
    · exact (hσ e).elim
    · refine ⟨?_, hD⟩
      subst e
      show (match Nat.beq n.id n.id with | true => (match keptL n st k with | some (_, ls) => ls | none => []) | false => _) = l
      rw [show Nat.beq n.id n.id = true by simp, hkl]
  · rw [← hh] at hb; cases hb
  · rcases slotH i with ⟨ag', l1, l', e1, e2, e3⟩ | e | ⟨e1, e2, e3⟩
    · rw [e1] at hs; cases hs
    · rw [e] at hs; cases hs
    · rw [e2] at hs
      cases hp : st.φ i <;> rw [hp] at hs <;> simp only [unownP] at hs <;> cases hs
  · rw [← hh] at hdd; cases hdd
  · rcases slotH i with ⟨ag', l1, l', e1, e2, e3⟩ | e | ⟨e1, e2, e3⟩
    · rw [e1] at hkk; cases hkk
    · rw [e] at hkk; cases hkk
    · rw [e2] at hkk
      have hkk' : k ∈ keyP (st.φ i) := by
        cases hp : st.φ i <;> rw [hp] at hkk <;> simp only [unownP] at hkk <;> first | exact hkk | cases hkk
      have hkn := (e3 k hkk').2
      rw [← hh]
      show (match nthL n.locals (ls'.drop (lenTs n.slots)) k with | some l => some (0, l) | none => keptL n st k).isSome = true
      unfold Ann.knowsL at hkn
      simp only [Bool.or_eq_true] at hkn
      rcases hkn with hloc | hkp
      · obtain ⟨l, hl'⟩ := nthL_has (q := ls'.drop (lenTs n.slots)) hloc
        rw [hl']; rfl
      · cases nthL n.locals (ls'.drop (lenTs n.slots)) k with
        | some l => rfl
        | none =>
          cases hq : keptL n st k with
          | some y => rfl
          | none => rw [hq] at hkp; cases hkp
  · rw [hO] at hk1 hk2
    rcases liveH k hk1 with rfl | ⟨i, k0, rfl, q1, q2, q3⟩
    · cases hb
    rcases liveH k' hk2 with rfl | ⟨i', k0', rfl, q1', q2', q3'⟩
    · cases hb'
    rw [q3] at hb; rw [q3'] at hb'
    have e1 := h.blkI k0 k0' b q2 q2' hb hb'
    subst e1
    have hz : k0 ≠ .zero := fun e => by rw [e, h.blk0] at hb; cases hb
    rw [distinct_at hdt q1 q1' hz]
  · rw [hO] at hk1
    rcases liveH k hk1 with rfl | ⟨i, k0, rfl, q1, q2, q3⟩
    · cases hb
    rw [q3] at hb
    obtain ⟨z, hz⟩ := locS j y hL
    exact h.blkL k0 b j z q2 hb hz
  · rw [hO] at hk1
    rcases liveH k hk1 with rfl | ⟨i, k0, rfl, q1, q2, q3⟩
    · cases hb
    rw [q3] at hb
    exact h.blkS k0 b q2 hb
  · rw [hO] at hk1
    rcases liveH k hk1 with rfl | ⟨i, k0, rfl, q1, q2, q3⟩
    · cases hb
    rw [q3] at hb
    exact h.blkW k0 b q2 hb
  · obtain ⟨z, hz⟩ := locS j y hj
    obtain ⟨z', hz'⟩ := locS j' y' hj'
    exact h.ρI j j' z z' hz hz' he
  · show (match Nat.beq n.id n.id with | true => (match keptL n st k with | some (_, ls) => ls | none => []) | false => _) = ls
    rw [show Nat.beq n.id n.id = true by simp, hkl]
end
end Pv
end Go.Proofs.Ytgcgdfjldeihkaa
