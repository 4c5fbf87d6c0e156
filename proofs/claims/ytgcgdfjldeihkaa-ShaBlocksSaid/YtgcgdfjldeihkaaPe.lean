/- Pure evaluation of the model's code: code and functions. -/
import Derived.Test.YtgcgdfjldeihkaaPd
import Derived.Deep.LoopGhost
import Derived.Scope
import Derived.ScopeJumps
namespace Go.Proofs.Ytgcgdfjldeihkaa
namespace Pv
set_option linter.unusedVariables false
section
variable {E : Env} {F : Fr} {g g' g1 : Gh} {st st' s : PSt} {a a' : Act} {w w' : World}
def Xt.out : Xt → Exit
  | .normal => .normal
  | .exit id => .exit id
  | .ret => .ret
  | .goto l => .goto l
theorem stamp_rel {tmf : Nat → Value} (n : Ann) (h : MRel F g st tmf w) : ∃ g', MRel F g' (stampSt n st) tmf w ∧ g'.C = g.C ∧ g'.ρ = g.ρ ∧ (∀ k σ, σ ≠ n.id → g'.H k σ = g.H k σ) ∧ ∀ k ls, keptL n st k = some (n.id, ls) → g'.H k n.id = ls := by
  let g' : Gh := ⟨g.C, g.blk, g.ρ, fun k σ => match Nat.beq σ n.id with | true => (match keptL n st k with | some (_, ls) => ls | none => g.H k σ) | false => g.H k σ⟩
  have hH : ∀ k ls, keptL n st k = some (n.id, ls) → g'.H k n.id = ls := fun k ls hk => by
    show (match Nat.beq n.id n.id with | true => (match keptL n st k with | some (_, ls) => ls | none => g.H k n.id) | false => g.H k n.id) = ls
    rw [show Nat.beq n.id n.id = true by simp, hk]
  have Lc : ∀ k σ ls, (stampSt n st).L k = some (σ, ls) → (keptL n st k = some (σ, ls) ∧ σ = n.id ∧ ∃ σ0 l0, st.L k = some (σ0, l0) ∧ ls = l0.map unown) ∨ (keptL n st k = none ∧ st.L k = some (σ, ls)) := fun k σ ls hL => by
    have hL' : (match keptL n st k with | some x => some x | none => st.L k) = some (σ, ls) := hL
    split at hL'
    · rename_i x hx
      rw [hL'] at hx
      obtain ⟨e1, _, σ0, l0, e3, e4⟩ := keptL_some hx
      exact .inl ⟨hx, e1, σ0, l0, e3, e4⟩
    · rename_i hx
      exact .inr ⟨hx, hL'⟩
  have Ls : ∀ k y, (stampSt n st).L k = some y → ∃ z, st.L k = some z := fun k y hy => by
    rcases Lc k y.1 y.2 hy with ⟨_, _, σ0, l0, h0, _⟩ | ⟨_, h0⟩ <;> exact ⟨_, h0⟩
  refine ⟨g', ⟨h.fr, fun i => ?_, fun k σ ls hL => ?_, fun k σ ls hL hσ => ?_, h.kn, h.sp, fun d hd => ?_, fun i k hk => ?_, h.blk0, h.blkI, fun k b j x hk hb hL => ?_, h.blkS, h.blkW, fun j j' x x' hj hj' he => ?_⟩, rfl, rfl, fun k σ hne => ?_, hH⟩
  · exact (h.slots i).gw (g' := g') (Gw.refl w g.C) (fun k _ ho => ⟨ho, rfl, fun b _ => ⟨rfl, fun _ => Iff.rfl⟩⟩) (fun _ _ => rfl) (fun _ _ _ _ _ => rfl)
  · have gwl : ∀ ls, LocOk F g w st.O ls (g.ρ k) → LocOk F g' w st.O ls (g'.ρ k) := fun ls hl => by
      obtain ⟨cur, T, c1, c2, c3, c4⟩ := hl
      exact ⟨cur, T, c1, c2, c3.gw (g' := g') (Gw.refl w g.C) fun k E e x _ ho => ⟨ho, rfl, fun b _ => ⟨rfl, fun _ => Iff.rfl⟩⟩, c4⟩
    rcases Lc k σ ls hL with ⟨_, _, σ0, l0, h0, rfl⟩ | ⟨_, h0⟩
    · exact gwl _ (LocOk.less unown_less (h.locals k σ0 l0 h0))
    · exact gwl _ (h.locals k σ ls h0)
  · rcases Lc k σ ls hL with ⟨hk, e, σ0, l0, h0, rfl⟩ | ⟨hk, h0⟩
    · subst e
      exact ⟨hH k _ hk, fun l hl => by obtain ⟨z, _, rfl⟩ := List.mem_map.1 hl; exact unown_D z⟩
    · obtain ⟨q1, q2⟩ := h.hist k σ ls h0 hσ
      refine ⟨?_, q2⟩
      show (match Nat.beq σ n.id with | true => (match keptL n st k with | some (_, ls) => ls | none => g.H k σ) | false => g.H k σ) = ls
      rw [hk]
      cases Nat.beq σ n.id <;> exact q1
  · obtain ⟨f1, f2, f3, f4⟩ := h.fresh d hd
    refine ⟨f1, fun k σ ls hL => ?_, f3, ?_⟩
    · rcases Lc k σ ls hL with ⟨_, _, σ0, l0, h0, rfl⟩ | ⟨_, h0⟩
      · have hgen : ∀ q : List Leaf, mentLs d (q.map unown) = false := by
          intro q
          induction q with
          | nil => rfl
          | cons y q ih =>
            show (mentL d (unown y) || mentLs d (q.map unown)) = false
            rw [ih]
            cases y <;> rfl
        exact hgen l0
      · exact f2 k σ ls h0
    · show (match keptL n st d with | some x => some x | none => st.L d) = none
      have : keptL n st d = none := by
        unfold keptL
        rw [f4]
        cases hasN n.kept d <;> rfl
      rw [this]; exact f4
  · have := h.locL i k hk
    show (match keptL n st k with | some x => some x | none => st.L k).isSome = true
    cases keptL n st k with
    | some x => rfl
    | none => exact this
  · obtain ⟨z, hz⟩ := Ls j x hL
    exact h.blkL k b j z hk hb hz
  · obtain ⟨z, hz⟩ := Ls j x hj
    obtain ⟨z', hz'⟩ := Ls j' x' hj'
    exact h.ρI j j' z z' hz hz' he
  · show (match Nat.beq σ n.id with | true => _ | false => g.H k σ) = _
    rw [show Nat.beq σ n.id = false from Bool.eq_false_iff.2 fun e => hne (Nat.eq_of_beq_eq_true e)]
/-- What was kept is as it was. -/
theorem kept_same {n : Ann} {I : Nat → Prop} {M : Nat → Prop} (hid : n.id ≠ 0) (hI : ¬ I n.id) (hl : Lft M I g1 a w g' a' w') (h1 : ∀ k ls, keptL n st k = some (n.id, ls) → g1.H k n.id = ls) (h : MRel F g' s (tm a') w') (hk : keptOk n s = true) :
    ∀ k, k ∈ n.kept → ∀ σ0 ls0, st.L k = some (σ0, ls0) → ∃ σ ls, s.L k = some (σ, ls) ∧ ls.map unown = ls0.map unown := fun k hkm σ0 ls0 h0 => by
  unfold keptOk at hk
  have h2 := List.all_eq_true.1 hk k hkm
  split at h2
  · rename_i σ ls hL
    have e : σ = n.id := Nat.eq_of_beq_eq_true h2
    subst e
    obtain ⟨q1, q2⟩ := h.hist k _ ls hL hid
    have hkl : keptL n st k = some (n.id, ls0.map unown) := by
      unfold keptL
      rw [hasN_iff.2 hkm, h0]
    have q3 := h1 k _ hkl
    have q4 := hl.H k n.id hI hid
    refine ⟨_, ls, hL, ?_⟩
    rw [map_D (fun l hl => unown_same hl) q2, ← q1, q4, q3]
  · cases h2
theorem iter_of_loop {S R : Type} {body : S → Option (R ⊕ S)} {x : S} {r : R} (h : loopC body x = some r) : ∃ n, iterC body n x = some r := by
  unfold loopC at h
  split at h
  · rename_i hex
    injection h with h
    obtain ⟨n, hn⟩ := hex.choose_spec
    exact ⟨n, by rw [hn, h]⟩
  · cases h
theorem iter_succ {S R : Type} {body : S → Option (R ⊕ S)} {k : Nat} {x : S} {r : R} (h : iterC body (k + 1) x = some r) : body x = some (.inl r) ∨ ∃ x2, body x = some (.inr x2) ∧ iterC body k x2 = some r := by
  unfold iterC at h
  split at h
  · cases h
  · rename_i r' hb
    injection h with h
    exact .inl (by rw [hb, h])
  · rename_i x2 hb
    exact .inr ⟨x2, hb, h⟩
theorem join_some {S R : Type} {A : Option (R ⊕ S)} {B : S → Option R} {r : R} (h : joinC A B = some r) : A = some (.inl r) ∨ ∃ x, A = some (.inr x) ∧ B x = some r := by
  unfold joinC at h
  split at h
  · cases h
  · injection h with h; exact .inl (by rw [h])
  · rename_i x; exact .inr ⟨x, rfl, h⟩
/-- What a piece of code leaves alone; where it returns, it may lay waste what nobody asks for any more. -/
structure LftX (x : Xt) (M I : Nat → Prop) (g : Gh) (a : Act) (w : World) (g' : Gh) (a' : Act) (w' : World) : Prop where
  ρ : ∀ k, ¬ M k → g'.ρ k = g.ρ k
  lft : x ≠ .ret → Lft M I g a w g' a' w'
theorem Lft.x {M I : Nat → Prop} {x : Xt} (h : Lft M I g a w g' a' w') : LftX x M I g a w g' a' w' := ⟨h.ρ, fun _ => h⟩
theorem LftX.mono {M I M' I' : Nat → Prop} {x : Xt} (h : LftX x M I g a w g' a' w') (hm : ∀ i, M i → M' i) (hi : ∀ i, I i → I' i) : LftX x M' I' g a w g' a' w' :=
  ⟨fun i hn => h.ρ i fun e => hn (hm i e), fun e => (h.lft e).mono hm hi⟩
theorem Lft.transX {M I : Nat → Prop} {x : Xt} {g2 : Gh} {a2 : Act} {w2 : World} (h : Lft M I g a w g' a' w') (k : LftX x M I g' a' w' g2 a2 w2) : LftX x M I g a w g2 a2 w2 :=
  ⟨fun i hi => (k.ρ i hi).trans (h.ρ i hi), fun e => h.trans (k.lft e)⟩
/-- A piece of code that was walked by hand: it returns. -/
def HandS (P : Program) (F : Fr) (c : Code) (h : PSt → Option (Bool × PSt)) : Prop :=
  ∀ (g : Gh) (st st' : PSt) (a : Act) (w : World), AR F g st a w → h st = some (true, st') → c.wp P (fun e a' w' => e = .ret ∧ ∃ g', AR F g' st' a' w' ∧ g'.ρ = g.ρ) a w
def PostC {R : Type} (F : Fr) (M I : Nat → Prop) (g : Gh) (a : Act) (w : World) (Q : Xt → PSt → Option R) (r : R) : Exit → Act → World → Prop := fun e a' w' => ∃ x st' g', e = x.out ∧ Q x st' = some r ∧ AR F g' st' a' w' ∧ LftX x M I g a w g' a' w'
theorem PostC.mono {R R' : Type} {M I M' I' : Nat → Prop} {Q : Xt → PSt → Option R} {r : R} {Q' : Xt → PSt → Option R'} {r' : R'} {g0 : Gh} {a0 : Act} {w0 : World} {e : Exit} (h : PostC F M I g a w Q r e a' w') (hm : ∀ i, M i → M' i) (hi : ∀ i, I i → I' i) (hf : Lft M' I' g0 a0 w0 g a w)
    (hq : ∀ x s, Q x s = some r → Q' x s = some r') : PostC F M' I' g0 a0 w0 Q' r' e a' w' := by
  obtain ⟨x, st', g', he, hQ, hR, hl⟩ := h
  exact ⟨x, st', g', he, hq _ _ hQ, hR, hf.transX (hl.mono hm hi)⟩
/-- A scope: what holds at a jump to each of its labels, and a number that goes down. -/
theorem wp_scope_ghost {P : Program} {Q : Exit → Act → World → Prop} {a : Act} {w : World} {c : Code} (I : Nat → Nat → Act → World → Prop)
    (first : c.wp P (fun e a' w' => match e with | .goto l => (∃ n, I l n a' w' ∧ (findLabel c l).isSome = true) ∨ (findLabel c l = none ∧ Q (.goto l) a' w') | e => Q e a' w') a w)
    (pass : ∀ l n a w rest, findLabel c l = some rest → I l n a w → rest.wp P (fun e a' w' => match e with | .goto l' => (∃ n', n' < n ∧ I l' n' a' w' ∧ (findLabel c l').isSome = true) ∨ (findLabel c l' = none ∧ Q (.goto l') a' w') | e => Q e a' w') a w) : (Code.scope c).wp P Q a w := by
  intro b k cs
  have key : ∀ n l rest a w, findLabel c l = some rest → I l n a w → ∃ e a' w', Q e a' w' ∧ Arrives P (lone (b.at a (.code rest :: .inScope c :: k)) cs w) b k cs e a' w' := by
    intro n
    induction n using Nat.strongRecOn with
    | _ n ih =>
      intro l rest a w hf hI
      obtain ⟨e, a₁, w₁, hq, harr⟩ := pass l n a w rest hf hI b (.inScope c :: k) cs
      cases e with
      | normal => exact ⟨.normal, a₁, w₁, hq, Steps.trans harr (.one step_inScope)⟩
      | exit id => exact ⟨.exit id, a₁, w₁, hq, fun k' hk => harr k' (by simp [exitTo, hk])⟩
      | goto l' =>
        rcases hq with ⟨n', hlt, hI', hs⟩ | ⟨hn, hq⟩
        · obtain ⟨rest', hr'⟩ := Option.isSome_iff_exists.1 hs
          obtain ⟨e₂, a₂, w₂, hq₂, harr₂⟩ := ih n' hlt l' rest' a₁ w₁ hr' hI'
          exact ⟨e₂, a₂, w₂, hq₂, .of_steps (harr _ (by simp [gotoIn, hr'])) harr₂⟩
        · exact ⟨.goto l', a₁, w₁, hq, fun k' hk => harr k' (by simp [gotoIn, hn, hk])⟩
      | ret => exact ⟨_, a₁, w₁, hq, harr⟩
      | panic ch => exact ⟨_, a₁, w₁, hq, harr⟩
      | outgrown => exact ⟨_, a₁, w₁, hq, harr⟩
  obtain ⟨e, a₁, w₁, hq, harr⟩ := first b (.inScope c :: k) cs
  cases e with
  | normal => exact ⟨.normal, a₁, w₁, hq, .head step_scope (Steps.trans harr (.one step_inScope))⟩
  | exit id => exact ⟨.exit id, a₁, w₁, hq, fun k' hk => .head step_scope (harr k' (by simp [exitTo, hk]))⟩
  | goto l' =>
    rcases hq with ⟨n', hI', hs⟩ | ⟨hn, hq⟩
    · obtain ⟨rest', hr'⟩ := Option.isSome_iff_exists.1 hs
      obtain ⟨e₂, a₂, w₂, hq₂, harr₂⟩ := key n' l' rest' a₁ w₁ hr' hI'
      exact ⟨e₂, a₂, w₂, hq₂, .of_steps (.head step_scope (harr _ (by simp [gotoIn, hr']))) harr₂⟩
    · exact ⟨.goto l', a₁, w₁, hq, fun k' hk => .head step_scope (harr k' (by simp [gotoIn, hn, hk]))⟩
  | ret => exact ⟨_, a₁, w₁, hq, .of_steps (.one step_scope) harr⟩
  | panic ch => exact ⟨_, a₁, w₁, hq, .of_steps (.one step_scope) harr⟩
  | outgrown => exact ⟨_, a₁, w₁, hq, .of_steps (.one step_scope) harr⟩
theorem codeLabs_none : ∀ {c : Code} {l : Nat}, hasN (codeLabs c) l = false → findLabel c l = none := by
  intro c
  induction c with
  | seq a b iha ihb =>
    intro l h
    have h' : ¬ l ∈ codeLabs a ++ codeLabs b := fun hm => by rw [show hasN (codeLabs (.seq a b)) l = true from hasN_iff.2 hm] at h; cases h
    unfold findLabel
    rw [iha (Bool.eq_false_iff.2 fun e => h' (List.mem_append_left _ (hasN_iff.1 e)))]
    exact ihb (Bool.eq_false_iff.2 fun e => h' (List.mem_append_right _ (hasN_iff.1 e)))
  | label l' =>
    intro l h
    unfold findLabel
    rw [if_neg]
    intro e
    have : l' = l := by simpa using e
    rw [this, show hasN (codeLabs (.label l)) l = true from hasN_iff.2 List.mem_cons_self] at h
    cases h
  | _ => intro l h; rfl
theorem codeLabs_some : ∀ {c : Code} {l : Nat}, hasN (codeLabs c) l = true → ∃ rest, findLabel c l = some rest := by
  intro c
  induction c with
  | seq a b iha ihb =>
    intro l h
    unfold findLabel
    cases hf : findLabel a l with
    | some rest => exact ⟨_, rfl⟩
    | none =>
      rcases List.mem_append.1 (hasN_iff.1 h) with h | h
      · obtain ⟨rest, hr⟩ := iha (hasN_iff.2 h)
        rw [hr] at hf; cases hf
      · exact ihb (hasN_iff.2 h)
  | label l' =>
    intro l h
    have : l = l' := by simpa [codeLabs] using hasN_iff.1 h
    subst this
    unfold findLabel
    rw [if_pos (by simp)]
    exact ⟨_, rfl⟩
  | _ => intro l h; cases h
theorem labs_none : ∀ {c : AC} {l : Nat}, hasN c.labs l = false → findLabel c.erase l = none
  | .seq a b, l, h => by
    have h' : ¬ l ∈ a.labs ++ b.labs := fun hm => by rw [show hasN (AC.seq a b).labs l = true from hasN_iff.2 hm] at h; cases h
    have ha := labs_none (c := a) (l := l) (Bool.eq_false_iff.2 fun e => h' (List.mem_append_left _ (hasN_iff.1 e)))
    have hb := labs_none (c := b) (l := l) (Bool.eq_false_iff.2 fun e => h' (List.mem_append_right _ (hasN_iff.1 e)))
    show findLabel (.seq a.erase b.erase) l = none
    unfold findLabel
    rw [ha]; exact hb
  | .join n a b, l, h => by
    have h' : ¬ l ∈ a.labs ++ b.labs := fun hm => by rw [show hasN (AC.join n a b).labs l = true from hasN_iff.2 hm] at h; cases h
    have ha := labs_none (c := a) (l := l) (Bool.eq_false_iff.2 fun e => h' (List.mem_append_left _ (hasN_iff.1 e)))
    have hb := labs_none (c := b) (l := l) (Bool.eq_false_iff.2 fun e => h' (List.mem_append_right _ (hasN_iff.1 e)))
    show findLabel (.seq a.erase b.erase) l = none
    unfold findLabel
    rw [ha]; exact hb
  | .label l', l, h => by
    show findLabel (.label l') l = none
    unfold findLabel
    rw [if_neg]
    intro e
    have : l' = l := by simpa using e
    rw [this, show hasN (AC.label l).labs l = true from hasN_iff.2 List.mem_cons_self] at h
    cases h
  | .skip, _, _ => rfl
  | .region _ _ _, _, _ => rfl
  | .cond _ _ _, _, _ => rfl
  | .block _ _, _, _ => rfl
  | .loop _ _, _, _ => rfl
  | .exit _, _, _ => rfl
  | .ret, _, _ => rfl
  | .goto _, _, _ => rfl
  | .scope _ _, _, _ => rfl
  | .hand _ _, _, h => codeLabs_none h
theorem labs_some : ∀ {c : AC} {l : Nat}, hasN c.labs l = true → ∃ rest, findLabel c.erase l = some rest
  | .seq a b, l, h => by
    show ∃ rest, findLabel (.seq a.erase b.erase) l = some rest
    unfold findLabel
    cases hf : findLabel a.erase l with
    | some rest => exact ⟨_, rfl⟩
    | none =>
      rcases List.mem_append.1 (hasN_iff.1 h) with h | h
      · obtain ⟨rest, hr⟩ := labs_some (c := a) (hasN_iff.2 h)
        rw [hr] at hf; cases hf
      · exact labs_some (c := b) (hasN_iff.2 h)
  | .join n a b, l, h => by
    show ∃ rest, findLabel (.seq a.erase b.erase) l = some rest
    unfold findLabel
    cases hf : findLabel a.erase l with
    | some rest => exact ⟨_, rfl⟩
    | none =>
      rcases List.mem_append.1 (hasN_iff.1 h) with h | h
      · obtain ⟨rest, hr⟩ := labs_some (c := a) (hasN_iff.2 h)
        rw [hr] at hf; cases hf
      · exact labs_some (c := b) (hasN_iff.2 h)
  | .label l', l, h => by
    have : l = l' := by simpa [AC.labs] using hasN_iff.1 h
    subst this
    show ∃ rest, findLabel (.label l) l = some rest
    unfold findLabel
    rw [if_pos (by simp)]
    exact ⟨_, rfl⟩
  | .skip, _, h => by cases h
  | .region _ _ _, _, h => by cases h
  | .cond _ _ _, _, h => by cases h
  | .block _ _, _, h => by cases h
  | .loop _ _, _, h => by cases h
  | .exit _, _, h => by cases h
  | .ret, _, h => by cases h
  | .goto _, _, h => by cases h
  | .scope _ _, _, h => by cases h
  | .hand _ _, _, h => codeLabs_some h
def PVS (E : Env) (F : Fr) (c : AC) : Prop := ∀ {R : Type} (Q : Xt → PSt → Option R) (st : PSt) (r : R) (g : Gh) (a : Act) (w : World), c.good = true → (∀ d ∈ c.dsts, d < F.n) → AR F g st a w → pv E c Q st = some r →
    c.erase.wp E.P (PostC F (· ∈ c.dsts) (· ∈ c.ids) g a w Q r) a w
def FRS (E : Env) (F : Fr) (c : AC) : Prop := ∀ {R : Type} (l : Nat) (rest : Code) (Q : Xt → PSt → Option R) (st : PSt) (r : R) (g : Gh) (a : Act) (w : World), findLabel c.erase l = some rest → c.labOk = true → c.good = true → (∀ d ∈ c.dsts, d < F.n) → AR F g st a w → pvFrom E c l Q st = some r →
    rest.wp E.P (PostC F (· ∈ c.dsts) (· ∈ c.ids) g a w Q r) a w
theorem frs_none {c : AC} (h : ∀ l, findLabel c.erase l = none) : FRS E F c := fun l rest Q st r g a w hf => by rw [h l] at hf; cases hf
theorem pv_both (hE : E.okF F) : ∀ c : AC, (∀ p ∈ c.hands, HandS E.P F p.1 p.2) → PVS E F c ∧ FRS E F c := by
  intro c
  induction c with
  | hand c h =>
    intro hh
    refine ⟨?_, ?_⟩
    · intro R Q st r g a w _ _ hA hv
      unfold pv at hv
      split at hv
      · rename_i b s hs
        obtain ⟨rfl, hv⟩ := chk_some hv
        refine Code.wp_mono (fun e a' w' hp => ?_) (hh (c, h) List.mem_cons_self g st s a w hA hs)
        obtain ⟨rfl, g', h1, h2⟩ := hp
        exact ⟨.ret, s, g', rfl, hv, h1, fun k _ => by rw [h2], fun e => (e rfl).elim⟩
      · cases hv
    · intro R l rest Q st r g a w hf hlo hg hd h hv
      unfold pvFrom at hv
      cases hv
  | skip =>
    intro _
    refine ⟨?_, frs_none fun _ => rfl⟩
    intro R Q st r g a w _ _ h hv; exact wp_skip ⟨.normal, st, g, rfl, hv, h, (Lft.refl _ _).x⟩
  | exit id =>
    intro _
    refine ⟨?_, frs_none fun _ => rfl⟩
    intro R Q st r g a w _ _ h hv; exact wp_exit ⟨.exit id, st, g, rfl, hv, h, (Lft.refl _ _).x⟩
  | ret =>
    intro _
    refine ⟨?_, frs_none fun _ => rfl⟩
    intro R Q st r g a w _ _ h hv; exact wp_ret ⟨.ret, st, g, rfl, hv, h, (Lft.refl _ _).x⟩
  | region id ops d =>
    intro _
    refine ⟨?_, frs_none fun _ => rfl⟩
    intro R Q st r g a w _ hd h hv
    have hmem : ∀ o ∈ ops.toList, ∀ x, o.dst = some x → x < F.n ∧ x ∈ (AC.region id ops d).dsts := fun o ho x hx => by
      have hm : x ∈ (AC.region id ops d).dsts := List.mem_filterMap.2 ⟨o, ho, hx⟩
      exact ⟨hd x hm, hm⟩
    have h' : AR F g (sanSt (madeBy ops.toList) st) a w := ⟨h.size, h.defers, san_rel _ h.rel⟩
    cases d with
    | true =>
      refine draw_sound (M := (· ∈ (AC.region id ops true).dsts)) hE hmem h' hv fun a' w' g' st' hK h2 hl => ⟨.normal, st', g', rfl, hK, h2, (hl.mono (fun _ h => h) (fun _ h => h.elim)).x⟩
    | false =>
      refine wp_region_list (pvOps_sound (M := (· ∈ (AC.region id ops false).dsts)) hE ops.toList [] g _ a w _ hmem h' hv fun a' w' g' tr' st' hK h2 hl => ⟨.normal, st', g', rfl, hK, h2, (hl.mono (fun _ h => h) (fun _ h => h.elim)).x⟩)
  | seq x y ihx ihy =>
    intro hh
    obtain ⟨ihx, fx⟩ := ihx fun p hp => hh p (List.mem_append_left _ hp)
    obtain ⟨ihy, fy⟩ := ihy fun p hp => hh p (List.mem_append_right _ hp)
    refine ⟨?_, ?_⟩
    case refine_2 =>
      intro R l rest Q st r g a w hf hlo hg hd h hv
      simp only [AC.good, Bool.and_eq_true] at hg
      simp only [AC.labOk, Bool.and_eq_true] at hlo
      have hdx : ∀ d ∈ x.dsts, d < F.n := fun d hm => hd d (List.mem_append_left _ hm)
      have hdy : ∀ d ∈ y.dsts, d < F.n := fun d hm => hd d (List.mem_append_right _ hm)
      have hf : (match findLabel x.erase l with | some rest => some (.seq rest y.erase) | none => findLabel y.erase l) = some rest := hf
      unfold pvFrom at hv
      cases hx : hasN x.labs l with
      | false =>
        rw [hx] at hv
        rw [labs_none hx] at hf
        exact Code.wp_mono (fun e a2 w2 hp => hp.mono (fun i hi => List.mem_append_right _ hi) (fun i hi => List.mem_append_right _ hi) (Lft.refl _ _) fun _ _ q => q) (fy l rest Q st r g a w hf hlo.2 hg.2 hdy h hv)
      | true =>
        rw [hx] at hv
        obtain ⟨r1, hr1⟩ := labs_some hx
        rw [hr1] at hf
        injection hf with hf
        subst hf
        refine wp_seq (Code.wp_mono (fun e a' w' hp => ?_) (fx l r1 _ st r g a w hr1 hlo.1 hg.1 hdx h hv))
        obtain ⟨xt, st', g', rfl, hQ, hR, hl⟩ := hp
        have hl' : LftX xt (· ∈ (AC.seq x y).dsts) (· ∈ (AC.seq x y).ids) g a w g' a' w' := hl.mono (fun i hi => List.mem_append_left _ hi) (fun i hi => List.mem_append_left _ hi)
        cases xt with
        | exit i => exact ⟨.exit i, st', g', rfl, hQ, hR, hl'⟩
        | goto i => exact ⟨.goto i, st', g', rfl, hQ, hR, hl'⟩
        | ret => exact ⟨.ret, st', g', rfl, hQ, hR, hl'⟩
        | normal =>
          refine Code.wp_mono (fun e a2 w2 hp => ?_) (ihy Q st' r g' a' w' hg.2 hdy hR hQ)
          exact hp.mono (fun i hi => List.mem_append_right _ hi) (fun i hi => List.mem_append_right _ hi) (hl'.lft (by intro e; cases e)) fun _ _ q => q
    intro R Q st r g a w hg hd h hv
    simp only [AC.good, Bool.and_eq_true] at hg
    have hdx : ∀ d ∈ x.dsts, d < F.n := fun d hm => hd d (List.mem_append_left _ hm)
    have hdy : ∀ d ∈ y.dsts, d < F.n := fun d hm => hd d (List.mem_append_right _ hm)
    refine wp_seq (Code.wp_mono (fun e a' w' hp => ?_) (ihx _ st r g a w hg.1 hdx h hv))
    obtain ⟨xt, st', g', rfl, hQ, hR, hl⟩ := hp
    have hl' : LftX xt (· ∈ (AC.seq x y).dsts) (· ∈ (AC.seq x y).ids) g a w g' a' w' := hl.mono (fun i hi => List.mem_append_left _ hi) (fun i hi => List.mem_append_left _ hi)
    cases xt with
    | exit i => exact ⟨.exit i, st', g', rfl, hQ, hR, hl'⟩
    | goto i => exact ⟨.goto i, st', g', rfl, hQ, hR, hl'⟩
    | ret => exact ⟨.ret, st', g', rfl, hQ, hR, hl'⟩
    | normal =>
      refine Code.wp_mono (fun e a2 w2 hp => ?_) (ihy Q st' r g' a' w' hg.2 hdy hR hQ)
      exact hp.mono (fun i hi => List.mem_append_right _ hi) (fun i hi => List.mem_append_right _ hi) (hl'.lft (by intro e; cases e)) fun _ _ q => q
  | join n x y ihx ihy =>
    intro hh
    obtain ⟨ihx, fx⟩ := ihx fun p hp => hh p (List.mem_append_left _ hp)
    obtain ⟨ihy, fy⟩ := ihy fun p hp => hh p (List.mem_append_right _ hp)
    refine ⟨?_, ?_⟩
    case refine_2 =>
      intro R l rest Q st r g a w hf hlo hg hd h hv
      unfold pvFrom at hv
      cases hv
    intro R Q st r g a w hg hd h hv
    simp only [AC.good, Bool.and_eq_true] at hg
    obtain ⟨⟨⟨⟨hg1, hg2⟩, hg3⟩, hg4⟩, hg5⟩ := hg
    have hdx : ∀ d ∈ x.dsts, d < F.n := fun d hm => hd d (List.mem_append_left _ hm)
    have hdy : ∀ d ∈ y.dsts, d < F.n := fun d hm => hd d (List.mem_append_right _ hm)
    have hM : ∀ d, d ∈ x.dsts → n.has d = true := fun d hm => List.all_eq_true.1 hg3 d hm
    simp only [okIds, Bool.and_eq_true, Bool.not_eq_true'] at hg4
    have hid : n.id ≠ 0 := fun e => by have h4 := hg4.1; rw [e] at h4; cases h4
    have hnot : ¬ n.id ∈ x.ids := fun hm => by have h4 := hg4.2; rw [hasN_iff.2 hm] at h4; cases h4
    obtain ⟨g1, hrel1, hC1, hρ1, hH1, hK1⟩ := stamp_rel n h.rel
    have h1 : AR F g1 (stampSt n st) a w := ⟨h.size, h.defers, hrel1⟩
    have tolx : ∀ {g' a' w'}, Lft (· ∈ x.dsts) (· ∈ x.ids) g1 a w g' a' w' → Lft (· ∈ x.dsts) (· ∈ (AC.join n x y).ids) g a w g' a' w' := fun {g' a' w'} hl =>
      ⟨fun i hi => hl.tmp i hi, fun k hk => (hl.ρ k hk).trans (by rw [hρ1]), by have := hl.gw; rw [hC1] at this; exact this,
        fun k σ hσ h0 => (hl.H k σ (fun hm => hσ (List.mem_cons_of_mem _ (List.mem_append_left _ hm))) h0).trans (hH1 k σ fun e => hσ (by rw [e]; exact List.mem_cons_self))⟩
    have tol : ∀ {g' a' w'}, Lft (· ∈ x.dsts) (· ∈ x.ids) g1 a w g' a' w' → Lft (· ∈ (AC.join n x y).dsts) (· ∈ (AC.join n x y).ids) g a w g' a' w' := fun {g' a' w'} hl => (tolx hl).mono (fun i hi => List.mem_append_left _ hi) (fun _ hi => hi)
    have tolX : ∀ {x' g' a' w'}, LftX x' (· ∈ x.dsts) (· ∈ x.ids) g1 a w g' a' w' → LftX x' (· ∈ (AC.join n x y).dsts) (· ∈ (AC.join n x y).ids) g a w g' a' w' := fun {x' g' a' w'} hl => ⟨fun k hk => (hl.ρ k fun hm => hk (List.mem_append_left _ hm)).trans (by rw [hρ1]), fun e => tol (hl.lft e)⟩
    rcases join_some hv with hv | ⟨xd, hv, hb⟩
    · refine wp_seq (Code.wp_mono (fun e a' w' hp => ?_) (ihx _ _ _ g1 a w hg1 hdx h1 hv))
      obtain ⟨xt, st', g', rfl, hQ, hR, hl⟩ := hp
      cases xt with
      | exit i =>
        obtain ⟨q, hq, he⟩ := Option.map_eq_some_iff.1 hQ
        injection he with he
        subst he
        exact ⟨.exit i, st', g', rfl, hq, hR, tolX hl⟩
      | goto i =>
        obtain ⟨q, hq, he⟩ := Option.map_eq_some_iff.1 hQ
        injection he with he
        subst he
        exact ⟨.goto i, st', g', rfl, hq, hR, tolX hl⟩
      | ret =>
        obtain ⟨q, hq, he⟩ := Option.map_eq_some_iff.1 hQ
        injection he with he
        subst he
        exact ⟨.ret, st', g', rfl, hq, hR, tolX hl⟩
      | normal =>
        exfalso
        simp only at hQ
        split at hQ
        · obtain ⟨q, hq, he⟩ := Option.map_eq_some_iff.1 hQ
          cases he
        · cases hQ
    · refine wp_seq (Code.wp_mono (fun e a' w' hp => ?_) (ihx _ _ _ g1 a w hg1 hdx h1 hv))
      obtain ⟨xt, st', g', rfl, hQ, hR, hl⟩ := hp
      cases xt with
      | exit i => obtain ⟨q, hq, he⟩ := Option.map_eq_some_iff.1 hQ; cases he
      | goto i => obtain ⟨q, hq, he⟩ := Option.map_eq_some_iff.1 hQ; cases he
      | ret => obtain ⟨q, hq, he⟩ := Option.map_eq_some_iff.1 hQ; cases he
      | normal =>
        simp only at hQ
        split at hQ
        · rename_i hko
          obtain ⟨q, hq, he⟩ := Option.map_eq_some_iff.1 hQ
          injection he with he
          subst he
          split at hb
          · rename_i hd' hhd
            have hl := hl.lft (by intro e; cases e)
            have hks := kept_same hid hnot hl hK1 hR.rel hko
            obtain ⟨g2, hrel2, e1, e2, e3, e4⟩ := head_rel (M := (· ∈ x.dsts)) (n := n) h.rel (tolx hl) hM hR.rel hq hks hhd
            refine Code.wp_mono (fun e a2 w2 hp => ?_) (ihy Q hd' r g2 a' w' hg2 hdy ⟨hR.size, hR.defers, hrel2⟩ hb)
            refine hp.mono (fun i hi => List.mem_append_right _ hi) (fun i hi => List.mem_cons_of_mem _ (List.mem_append_right _ hi)) ?_ fun _ _ q => q
            exact (tol hl).trans ⟨fun _ _ => rfl, fun k _ => by rw [e2], by rw [e1]; exact Gw.refl _ _, fun k σ hσ _ => e3 k σ fun e => hσ (by rw [e]; exact List.mem_cons_self)⟩
          · cases hb
        · cases hQ
  | label l' =>
    intro _
    refine ⟨?_, ?_⟩
    · intro R Q st r g a w _ _ h hv; exact wp_label ⟨.normal, st, g, rfl, hv, h, (Lft.refl _ _).x⟩
    · intro R l rest Q st r g a w hf _ _ _ h hv
      have hf : (if l' == l then some Code.skip else none) = some rest := hf
      split at hf
      · injection hf with hf
        subst hf
        exact wp_skip ⟨.normal, st, g, rfl, hv, h, (Lft.refl _ _).x⟩
      · cases hf
  | goto l =>
    intro _
    refine ⟨?_, frs_none fun _ => rfl⟩
    intro R Q st r g a w _ _ h hv; exact wp_goto ⟨.goto l, st, g, rfl, hv, h, (Lft.refl _ _).x⟩
  | scope n b ih =>
    intro hh
    obtain ⟨ih, fb⟩ := ih hh
    refine ⟨?_, frs_none fun _ => rfl⟩
    intro R Q st r g a w hg hd h hv
    simp only [AC.good, Bool.and_eq_true] at hg
    obtain ⟨⟨⟨⟨hg1, hg3⟩, hg4⟩, hg5⟩, hg6⟩ := hg
    have hM : ∀ d, d ∈ b.dsts → n.has d = true := fun d hm => List.all_eq_true.1 hg3 d hm
    simp only [okIds, Bool.and_eq_true, Bool.not_eq_true'] at hg4
    have hid : n.id ≠ 0 := fun e => by have h4 := hg4.1; rw [e] at h4; cases h4
    have hnot : ¬ n.id ∈ b.ids := fun hm => by have h4 := hg4.2; rw [hasN_iff.2 hm] at h4; cases h4
    obtain ⟨g1, hrel1, hC1, hρ1, hH1, hK1⟩ := stamp_rel n h.rel
    have h1 : AR F g1 (stampSt n st) a w := ⟨h.size, h.defers, hrel1⟩
    have tol : ∀ {g' a' w'}, Lft (· ∈ b.dsts) (· ∈ b.ids) g1 a w g' a' w' → Lft (· ∈ b.dsts) (· ∈ (AC.scope n b).ids) g a w g' a' w' := fun {g' a' w'} hl =>
      ⟨fun i hi => hl.tmp i hi, fun k hk => (hl.ρ k hk).trans (by rw [hρ1]), by have := hl.gw; rw [hC1] at this; exact this,
        fun k σ hσ h0 => (hl.H k σ (fun hm => hσ (List.mem_cons_of_mem _ hm)) h0).trans (hH1 k σ fun e => hσ (by rw [e]; exact List.mem_cons_self))⟩
    have tolX : ∀ {x' g' a' w'}, LftX x' (· ∈ b.dsts) (· ∈ b.ids) g1 a w g' a' w' → LftX x' (· ∈ b.dsts) (· ∈ (AC.scope n b).ids) g a w g' a' w' := fun {x' g' a' w'} hl => ⟨fun k hk => (hl.ρ k hk).trans (by rw [hρ1]), fun e => tol (hl.lft e)⟩
    rcases join_some hv with hv | ⟨⟨l0, x0⟩, hv, hb⟩
    · refine wp_scope_ghost (fun _ _ _ _ => False) (Code.wp_mono (fun e a' w' hp => ?_) (ih _ _ _ g1 a w hg1 hd h1 hv)) (fun _ _ _ _ _ _ hF => hF.elim)
      obtain ⟨xt, st', g', rfl, hQ, hR, hl⟩ := hp
      cases xt with
      | exit i =>
        obtain ⟨q, hq, he⟩ := Option.map_eq_some_iff.1 hQ
        injection he with he
        subst he
        exact ⟨.exit i, st', g', rfl, hq, hR, tolX hl⟩
      | normal =>
        obtain ⟨q, hq, he⟩ := Option.map_eq_some_iff.1 hQ
        injection he with he
        subst he
        exact ⟨.normal, st', g', rfl, hq, hR, tolX hl⟩
      | ret =>
        obtain ⟨q, hq, he⟩ := Option.map_eq_some_iff.1 hQ
        injection he with he
        subst he
        exact ⟨.ret, st', g', rfl, hq, hR, tolX hl⟩
      | goto i =>
        simp only at hQ
        cases hi : hasN b.labs i with
        | true =>
          rw [hi] at hQ
          simp only at hQ
          split at hQ
          · obtain ⟨q, hq, he⟩ := Option.map_eq_some_iff.1 hQ
            cases he
          · cases hQ
        | false =>
          rw [hi] at hQ
          obtain ⟨q, hq, he⟩ := Option.map_eq_some_iff.1 hQ
          injection he with he
          subst he
          exact .inr ⟨labs_none hi, .goto i, st', g', rfl, hq, hR, tolX hl⟩
    · obtain ⟨k0, hk0⟩ := iter_of_loop hb
      obtain ⟨B, hk0, hB⟩ : ∃ B : Nat × n.D → Option (R ⊕ (Nat × n.D)), iterC B k0 (l0, x0) = some r ∧ ∀ p, B p = (match headSt n st p.2 with
        | some h => pvFrom E b p.1 (fun x s => match x with
          | .goto l => match hasN b.labs l with
            | true => match keptOk n s with | true => (collect n s).map fun y => .inr (l, y) | false => none
            | false => (Q (.goto l) s).map .inl
          | x => (Q x s).map .inl) h
        | none => none) := ⟨_, hk0, fun _ => rfl⟩
      have mk : ∀ {g' a' w' s x hd'}, AR F g' s a' w' → Lft (· ∈ b.dsts) (· ∈ (AC.scope n b).ids) g a w g' a' w' → collect n s = some x → (∀ k, k ∈ n.kept → ∀ σ0 ls0, st.L k = some (σ0, ls0) → ∃ σ ls, s.L k = some (σ, ls) ∧ ls.map unown = ls0.map unown) → headSt n st x = some hd' →
          ∃ g2, AR F g2 hd' a' w' ∧ Lft (· ∈ b.dsts) (· ∈ (AC.scope n b).ids) g a w g2 a' w' ∧ ∀ k ls, keptL n st k = some (n.id, ls) → g2.H k n.id = ls := fun {g' a' w' s x hd'} hs hl hc hks hhd => by
        obtain ⟨g2, hrel2, e1, e2, e3, e4⟩ := head_rel (M := (· ∈ b.dsts)) (n := n) h.rel hl hM hs.rel hc hks hhd
        exact ⟨g2, ⟨hs.size, hs.defers, hrel2⟩, hl.trans ⟨fun _ _ => rfl, fun k _ => by rw [e2], by rw [e1]; exact Gw.refl _ _, fun k σ hσ _ => e3 k σ fun e => hσ (by rw [e]; exact List.mem_cons_self)⟩, e4⟩
      refine wp_scope_ghost (fun l k a' w' => ∃ x s g', iterC B k (l, x) = some r ∧ AR F g' s a' w' ∧ Lft (· ∈ b.dsts) (· ∈ (AC.scope n b).ids) g a w g' a' w' ∧ collect n s = some x ∧ (∀ k, k ∈ n.kept → ∀ σ0 ls0, st.L k = some (σ0, ls0) → ∃ σ ls, s.L k = some (σ, ls) ∧ ls.map unown = ls0.map unown))
        (Code.wp_mono (fun e a' w' hp => ?_) (ih _ _ _ g1 a w hg1 hd h1 hv)) ?_
      · obtain ⟨xt, st', g', rfl, hQ, hR, hl⟩ := hp
        cases xt with
        | exit i => obtain ⟨q, hq, he⟩ := Option.map_eq_some_iff.1 hQ; cases he
        | normal => obtain ⟨q, hq, he⟩ := Option.map_eq_some_iff.1 hQ; cases he
        | ret => obtain ⟨q, hq, he⟩ := Option.map_eq_some_iff.1 hQ; cases he
        | goto i =>
          simp only at hQ
          cases hi : hasN b.labs i with
          | false =>
            rw [hi] at hQ
            obtain ⟨q, hq, he⟩ := Option.map_eq_some_iff.1 hQ
            cases he
          | true =>
            rw [hi] at hQ
            simp only at hQ
            split at hQ
            · rename_i hko
              obtain ⟨q, hq, he⟩ := Option.map_eq_some_iff.1 hQ
              injection he with he
              injection he with he1 he2
              subst he1; subst he2
              obtain ⟨r1, hr1⟩ := labs_some hi
              exact .inl ⟨k0, ⟨q, st', g', hk0, hR, tol (hl.lft (by intro e; cases e)), hq, kept_same hid hnot (hl.lft (by intro e; cases e)) hK1 hR.rel hko⟩, by rw [hr1]; rfl⟩
            · cases hQ
      · rintro l k a' w' rest hf ⟨x, s, g', hit, hs, hl, hc, hks⟩
        cases k with
        | zero => cases hit
        | succ k =>
          rcases iter_succ hit with hbody | ⟨⟨l2, x2⟩, hbody, hit'⟩ <;> rw [hB] at hbody
          · cases hhd : headSt n st x with
            | none => rw [hhd] at hbody; cases hbody
            | some hd' =>
              rw [hhd] at hbody
              simp only at hbody
              obtain ⟨g2, h2, hl2, hK2⟩ := mk hs hl hc hks hhd
              refine Code.wp_mono (fun e a2 w2 hp => ?_) (fb l rest _ hd' _ g2 a' w' hf hg6 hg1 hd h2 hbody)
              obtain ⟨xt, st2, g3, rfl, hQ, hR, hl3⟩ := hp
              have hl4 := hl2.transX (hl3.mono (fun _ hi => hi) (fun _ hi => List.mem_cons_of_mem _ hi))
              cases xt with
              | exit i =>
                obtain ⟨q, hq, he⟩ := Option.map_eq_some_iff.1 hQ
                injection he with he
                subst he
                exact ⟨.exit i, st2, g3, rfl, hq, hR, hl4⟩
              | normal =>
                obtain ⟨q, hq, he⟩ := Option.map_eq_some_iff.1 hQ
                injection he with he
                subst he
                exact ⟨.normal, st2, g3, rfl, hq, hR, hl4⟩
              | ret =>
                obtain ⟨q, hq, he⟩ := Option.map_eq_some_iff.1 hQ
                injection he with he
                subst he
                exact ⟨.ret, st2, g3, rfl, hq, hR, hl4⟩
              | goto i =>
                simp only at hQ
                cases hi : hasN b.labs i with
                | true =>
                  rw [hi] at hQ
                  simp only at hQ
                  split at hQ
                  · obtain ⟨q, hq, he⟩ := Option.map_eq_some_iff.1 hQ
                    cases he
                  · cases hQ
                | false =>
                  rw [hi] at hQ
                  obtain ⟨q, hq, he⟩ := Option.map_eq_some_iff.1 hQ
                  injection he with he
                  subst he
                  exact .inr ⟨labs_none hi, .goto i, st2, g3, rfl, hq, hR, hl4⟩
          · cases hhd : headSt n st x with
            | none => rw [hhd] at hbody; cases hbody
            | some hd' =>
              rw [hhd] at hbody
              simp only at hbody
              obtain ⟨g2, h2, hl2, hK2⟩ := mk hs hl hc hks hhd
              refine Code.wp_mono (fun e a2 w2 hp => ?_) (fb l rest _ hd' _ g2 a' w' hf hg6 hg1 hd h2 hbody)
              obtain ⟨xt, st2, g3, rfl, hQ, hR, hl3⟩ := hp
              have hl4 := hl2.transX (hl3.mono (fun _ hi => hi) (fun _ hi => List.mem_cons_of_mem _ hi))
              cases xt with
              | exit i => obtain ⟨q, hq, he⟩ := Option.map_eq_some_iff.1 hQ; cases he
              | normal => obtain ⟨q, hq, he⟩ := Option.map_eq_some_iff.1 hQ; cases he
              | ret => obtain ⟨q, hq, he⟩ := Option.map_eq_some_iff.1 hQ; cases he
              | goto i =>
                simp only at hQ
                cases hi : hasN b.labs i with
                | false =>
                  rw [hi] at hQ
                  obtain ⟨q, hq, he⟩ := Option.map_eq_some_iff.1 hQ
                  cases he
                | true =>
                  rw [hi] at hQ
                  simp only at hQ
                  split at hQ
                  · rename_i hko
                    obtain ⟨q, hq, he⟩ := Option.map_eq_some_iff.1 hQ
                    injection he with he
                    injection he with he1 he2
                    subst he1; subst he2
                    obtain ⟨r1, hr1⟩ := labs_some hi
                    exact .inl ⟨k, Nat.lt_succ_self k, ⟨q, st2, g3, hit', hR, hl4.lft (by intro e; cases e), hq, kept_same hid hnot (hl3.lft (by intro e; cases e)) hK2 hR.rel hko⟩, by rw [hr1]; rfl⟩
                  · cases hQ
  | cond c x y ihx ihy =>
    intro hh
    obtain ⟨ihx, fx⟩ := ihx fun p hp => hh p (List.mem_append_left _ hp)
    obtain ⟨ihy, fy⟩ := ihy fun p hp => hh p (List.mem_append_right _ hp)
    refine ⟨?_, frs_none fun _ => rfl⟩
    intro R Q st r g a w hg hd h hv
    simp only [AC.good, Bool.and_eq_true] at hg
    have hdx : ∀ d ∈ x.dsts, d < F.n := fun d hm => hd d (List.mem_append_left _ hm)
    have hdy : ∀ d ∈ y.dsts, d < F.n := fun d hm => hd d (List.mem_append_right _ hm)
    unfold pv at hv
    split at hv
    · rename_i b hb
      have hc := evS_rel h.rel c
      rw [hb] at hc
      have hc' : a.eval c = .bool b := rel_bool hc
      have key : ∀ q : Bool, b = q → (cond q (pv E x Q st) (pv E y Q st)) = some r → (Code.cond c x.erase y.erase).wp E.P (PostC F (· ∈ (AC.cond c x y).dsts) (· ∈ (AC.cond c x y).ids) g a w Q r) a w := fun q e hv => by
        subst e
        cases b with
        | true => exact wp_cond_true hc' (Code.wp_mono (fun e a' w' hp => hp.mono (fun i hi => List.mem_append_left _ hi) (fun i hi => List.mem_append_left _ hi) (Lft.refl _ _) (fun _ _ q => q)) (ihx Q st r g a w hg.1 hdx h hv))
        | false => exact wp_cond_false hc' (Code.wp_mono (fun e a' w' hp => hp.mono (fun i hi => List.mem_append_right _ hi) (fun i hi => List.mem_append_right _ hi) (Lft.refl _ _) (fun _ _ q => q)) (ihy Q st r g a w hg.2 hdy h hv))
      exact key b rfl hv
    · cases hv
  | block id b ih =>
    intro hh
    obtain ⟨ih, fb⟩ := ih hh
    refine ⟨?_, frs_none fun _ => rfl⟩
    intro R Q st r g a w hg hd h hv
    refine wp_block (Code.wp_mono (fun e a' w' hp => ?_) (ih _ st r g a w hg hd h hv))
    obtain ⟨x, st', g', rfl, hQ, hr, hF⟩ := hp
    cases x with
    | normal => exact ⟨.normal, st', g', rfl, hQ, hr, hF⟩
    | ret => exact ⟨.ret, st', g', rfl, hQ, hr, hF⟩
    | goto i => exact ⟨.goto i, st', g', rfl, hQ, hr, hF⟩
    | exit i =>
      have hF' := hF.lft (by intro e; cases e)
      show (if i = id then _ else _)
      cases hb : Nat.beq i id with
      | true =>
        rw [if_pos (Nat.eq_of_beq_eq_true hb)]
        simp only [hb] at hQ
        exact ⟨.normal, st', g', rfl, hQ, hr, hF'.x⟩
      | false =>
        rw [if_neg (fun e => by rw [e] at hb; simp at hb)]
        simp only [hb] at hQ
        exact ⟨.exit i, st', g', rfl, hQ, hr, hF⟩
  | loop n b ih =>
    intro hh
    obtain ⟨ih, fb⟩ := ih hh
    refine ⟨?_, frs_none fun _ => rfl⟩
    intro R Q st r g a w hg hd h hv
    simp only [AC.good, Bool.and_eq_true] at hg
    obtain ⟨⟨⟨hg1, hg3⟩, hg4⟩, hg5⟩ := hg
    have hM : ∀ d, d ∈ b.dsts → n.has d = true := fun d hm => List.all_eq_true.1 hg3 d hm
    simp only [okIds, Bool.and_eq_true, Bool.not_eq_true'] at hg4
    have hid : n.id ≠ 0 := fun e => by have h4 := hg4.1; rw [e] at h4; cases h4
    have hnot : ¬ n.id ∈ b.ids := fun hm => by have h4 := hg4.2; rw [hasN_iff.2 hm] at h4; cases h4
    unfold pv at hv
    split at hv
    case h_2 => cases hv
    rename_i x0 hx0
    obtain ⟨k0, hk0⟩ := iter_of_loop hv
    -- the head, from a state whose data are these
    have mk : ∀ {g' a' w' s x hd'}, AR F g' s a' w' → Lft (· ∈ b.dsts) (· ∈ (AC.loop n b).ids) g a w g' a' w' → collect n s = some x → (∀ k, k ∈ n.kept → ∀ σ0 ls0, st.L k = some (σ0, ls0) → ∃ σ ls, s.L k = some (σ, ls) ∧ ls.map unown = ls0.map unown) → headSt n st x = some hd' →
        ∃ g2, AR F g2 hd' a' w' ∧ Lft (· ∈ b.dsts) (· ∈ (AC.loop n b).ids) g a w g2 a' w' ∧ ∀ k ls, keptL n st k = some (n.id, ls) → g2.H k n.id = ls := fun {g' a' w' s x hd'} hs hl hc hks hhd => by
      obtain ⟨g2, hrel2, e1, e2, e3, e4⟩ := head_rel (M := (· ∈ b.dsts)) (n := n) h.rel hl hM hs.rel hc hks hhd
      exact ⟨g2, ⟨hs.size, hs.defers, hrel2⟩, hl.trans ⟨fun _ _ => rfl, fun k _ => by rw [e2], by rw [e1]; exact Gw.refl _ _, fun k σ hσ _ => e3 k σ fun e => hσ (by rw [e]; exact List.mem_cons_self)⟩, e4⟩
    refine wp_loop_ghost (fun k a' w' => ∃ x s g', iterC _ k x = some r ∧ AR F g' s a' w' ∧ Lft (· ∈ b.dsts) (· ∈ (AC.loop n b).ids) g a w g' a' w' ∧ collect n s = some x ∧ (∀ k, k ∈ n.kept → ∀ σ0 ls0, st.L k = some (σ0, ls0) → ∃ σ ls, s.L k = some (σ, ls) ∧ ls.map unown = ls0.map unown)) k0
      ⟨x0, st, g, hk0, h, Lft.refl _ _, hx0, fun k _ σ0 ls0 h0 => ⟨σ0, ls0, h0, rfl⟩⟩ ?_
    rintro k a' w' ⟨x, s, g', hit, hs, hl, hc, hks⟩
    cases k with
    | zero => cases hit
    | succ k =>
      rcases iter_succ hit with hbody | ⟨x2, hbody, hit'⟩
      · cases hhd : headSt n st x with
        | none => rw [hhd] at hbody; cases hbody
        | some hd' =>
          rw [hhd] at hbody
          simp only at hbody
          obtain ⟨g2, h2, hl2, hK2⟩ := mk hs hl hc hks hhd
          refine Code.wp_mono (fun e a2 w2 hp => ?_) (ih _ hd' _ g2 a' w' hg1 hd h2 hbody)
          obtain ⟨xt, st2, g3, rfl, hQ, hR, hl3⟩ := hp
          have hl4 := hl2.transX (hl3.mono (fun _ hi => hi) (fun _ hi => List.mem_cons_of_mem _ hi))
          cases xt with
          | exit i =>
            obtain ⟨q, hq, he⟩ := Option.map_eq_some_iff.1 hQ
            injection he with he
            subst he
            exact ⟨.exit i, st2, g3, rfl, hq, hR, hl4⟩
          | goto i =>
            obtain ⟨q, hq, he⟩ := Option.map_eq_some_iff.1 hQ
            injection he with he
            subst he
            exact ⟨.goto i, st2, g3, rfl, hq, hR, hl4⟩
          | ret =>
            obtain ⟨q, hq, he⟩ := Option.map_eq_some_iff.1 hQ
            injection he with he
            subst he
            exact ⟨.ret, st2, g3, rfl, hq, hR, hl4⟩
          | normal =>
            exfalso
            simp only at hQ
            split at hQ
            · obtain ⟨q, hq, he⟩ := Option.map_eq_some_iff.1 hQ
              cases he
            · cases hQ
      · cases hhd : headSt n st x with
        | none => rw [hhd] at hbody; cases hbody
        | some hd' =>
          rw [hhd] at hbody
          simp only at hbody
          obtain ⟨g2, h2, hl2, hK2⟩ := mk hs hl hc hks hhd
          refine Code.wp_mono (fun e a2 w2 hp => ?_) (ih _ hd' _ g2 a' w' hg1 hd h2 hbody)
          obtain ⟨xt, st2, g3, rfl, hQ, hR, hl3⟩ := hp
          have hl4 := hl2.transX (hl3.mono (fun _ hi => hi) (fun _ hi => List.mem_cons_of_mem _ hi))
          cases xt with
          | exit i => obtain ⟨q, hq, he⟩ := Option.map_eq_some_iff.1 hQ; cases he
          | goto i => obtain ⟨q, hq, he⟩ := Option.map_eq_some_iff.1 hQ; cases he
          | ret => obtain ⟨q, hq, he⟩ := Option.map_eq_some_iff.1 hQ; cases he
          | normal =>
            simp only at hQ
            split at hQ
            · rename_i hko
              obtain ⟨q, hq, he⟩ := Option.map_eq_some_iff.1 hQ
              injection he with he
              subst he
              exact ⟨k, Nat.lt_succ_self k, _, st2, g3, hit', hR, hl4.lft (by intro e; cases e), hq, kept_same hid hnot (hl3.lft (by intro e; cases e)) hK2 hR.rel hko⟩
            · cases hQ

theorem pv_sound (hE : E.okF F) (c : AC) (hh : ∀ p ∈ c.hands, HandS E.P F p.1 p.2) {R : Type} (Q : Xt → PSt → Option R) (st : PSt) (r : R) (g : Gh) (a : Act) (w : World) (hg : c.good = true) (hd : ∀ d ∈ c.dsts, d < F.n) (h : AR F g st a w) (hv : pv E c Q st = some r) :
    c.erase.wp E.P (PostC F (· ∈ c.dsts) (· ∈ c.ids) g a w Q r) a w := (pv_both hE c hh).1 Q st r g a w hg hd h hv

/-! ### results and functions -/
theorem run_mapM {P : Program} {α β : Type} {f : α → Sem β} : ∀ (l : List α) (r : List β), (∀ (i : Nat) (x : α), l[i]? = some x → ∃ y, r[i]? = some y ∧ (f x).run P w = .ok y w) → r.length = l.length → (l.mapM f).run P w = .ok r w
  | [], r, _, hl => by
    have : r = [] := List.eq_nil_of_length_eq_zero (by simpa using hl)
    subst this; rfl
  | x :: l, [], _, hl => by simp at hl
  | x :: l, y :: r, h, hl => by
    obtain ⟨y', hy, hr⟩ := h 0 x rfl
    obtain rfl : y = y' := by simpa using hy
    rw [List.mapM_cons, Sem.run_bind, hr, Result.andThen_ok, Sem.run_bind, run_mapM l r (fun i z hz => h (i + 1) z hz) (by simpa using hl)]
    rfl
/-- One result. -/
theorem resLs_rel {P : Program} (h : AR F g st a w) {rv : ResultVar} {ag : Bool} {ts : List LT} {ls : List Leaf} (hr : resLs P st rv (ag, ts) = some ls) :
    ls.length = ts.length ∧ ∃ v, (match rv with | .tmp t => (pure (a.tmps.getD t undef) : Sem Value) | .cell x t => (do loadVar t (← asAddr (a.tmps.getD x undef)))).run P w = .ok v w ∧ RelV F g w st.O v ag ls := by
  cases rv with
  | tmp t =>
    have hr' : (match st.φ t with | .w ag' ls => (match bEq ag ag' && Nat.beq ls.length ts.length with | true => some ls | false => none) | _ => none) = some ls := hr
    split at hr'
    · rename_i ag' l hp
      split at hr'
      · rename_i hb
        simp only [Bool.and_eq_true] at hb
        injection hr' with e
        subst e
        have h1 := h.rel.slots t
        rw [hp] at h1
        rw [bEq_iff.1 hb.1]
        exact ⟨Nat.eq_of_beq_eq_true hb.2, _, rfl, h1⟩
      · cases hr'
    · cases hr'
  | cell x t =>
    have hr' : (match st.φ x with
      | .loc k off => match st.L k with
        | some (_, ls) => match atLs P t ls off, bEq ag (isAg P t) && (P.underlying t).isSome with | some vs, true => (match Nat.beq vs.length ts.length with | true => some vs | false => none) | _, _ => none
        | none => none
      | _ => none) = some ls := hr
    split at hr'
    case h_2 => cases hr'
    rename_i k off hp
    split at hr'
    case h_2 => cases hr'
    rename_i σ l hL
    split at hr'
    case h_2 => cases hr'
    rename_i vs hvs hb
    simp only [Bool.and_eq_true] at hb
    split at hr'
    case h_2 => cases hr'
    rename_i hlen
    injection hr' with e
    subst e
    have h1 := h.rel.slots x
    rw [hp] at h1
    have hx : a.tmps.getD x undef = .pointer (some ⟨(g.ρ k).1, (g.ρ k).2 + off, none⟩) := h1
    obtain ⟨cs, hr1, hc⟩ := loc_cells h.rel hL
    obtain ⟨p, q, rfl, hsz, hh⟩ := atLs_some hvs
    obtain ⟨c1, c2, rfl, hr2, hr3⟩ := repLs_split hr1
    have hl : c1.length = off := (repLs_len hr2).trans hsz
    obtain ⟨v, hrun, hrel⟩ := load_at (P := P) (ad := ⟨(g.ρ k).1, (g.ρ k).2 + off, none⟩) hb.2 (fun j x hj => by
      rw [add_at, Nat.add_assoc]
      exact hc _ x (by rw [List.getElem?_append_right (by omega), hl, Nat.add_sub_cancel_left]; exact hj)) hr3 hh
    refine ⟨Nat.eq_of_beq_eq_true hlen, v, ?_, by rw [bEq_iff.1 hb.1]; exact hrel⟩
    simp [hx, asAddr, hrun]
def resVal (a : Act) : ResultVar → Sem Value
  | .tmp t => pure (a.tmps.getD t undef)
  | .cell x t => do loadVar t (← asAddr (a.tmps.getD x undef))
theorem resAll_rel {P : Program} (h : AR F g st a w) : ∀ {rvs : List ResultVar} {rs : List (Bool × List LT)} {la : List Leaf}, resAll P st rvs rs = some la →
    la.length = (rs.flatMap (·.2)).length ∧ ∃ us : List Value, us.length = rs.length ∧ us.length = rvs.length ∧ (∀ (i : Nat) (x : ResultVar), rvs[i]? = some x → ∃ y, us[i]? = some y ∧ (resVal a x).run P w = .ok y w) ∧
      ∀ (rest : List Leaf) (i : Nat), i < rs.length → ∃ ag l, resAt rs (la ++ rest) i = .w ag l ∧ RelV F g w st.O (us.getD i undef) ag l
  | [], [], la, hr => by
    have : la = [] := (Option.some.inj (show some [] = some la from hr)).symm
    subst this
    exact ⟨rfl, [], rfl, rfl, fun i x hx => by simp at hx, fun rest i hi => by simp at hi⟩
  | [], _ :: _, _, hr => by cases hr
  | _ :: _, [], _, hr => by cases hr
  | rv :: rvs, (ag, ts) :: rs, la, hr => by
    unfold resAll at hr
    split at hr
    · rename_i l1 l2 h1 h2
      injection hr with hr
      subst hr
      obtain ⟨q1, v, q2, q3⟩ := resLs_rel h h1
      obtain ⟨i1, us, i2, i3, i4, i5⟩ := resAll_rel h h2
      refine ⟨by simp [q1, i1], v :: us, by simp [i2], by simp [i3], fun i x hx => ?_, fun rest i hi => ?_⟩
      · cases i with
        | zero =>
          simp only [List.getElem?_cons_zero, Option.some.injEq] at hx
          subst hx
          refine ⟨v, rfl, ?_⟩
          cases rv <;> exact q2
        | succ i => exact i4 i x (by simpa using hx)
      · cases i with
        | zero =>
          refine ⟨ag, l1, ?_, q3⟩
          show PV.w ag ((l1 ++ l2 ++ rest).take ts.length) = _
          rw [← q1, List.append_assoc, List.take_left]
        | succ i =>
          obtain ⟨ag', l, e1, e2⟩ := i5 rest i (by simpa using hi)
          refine ⟨ag', l, ?_, e2⟩
          show resAt rs ((l1 ++ l2 ++ rest).drop ts.length) i = _
          rw [← q1, List.append_assoc, List.drop_left]; exact e1
    · cases hr
theorem inoutLs_at : ∀ {ps : List Par} {j : Nat} {lb : List Leaf}, inoutLs st ps j = some lb → ∀ (rest : List Leaf) (k : Nat) (l : List Leaf), inoutAt ps (lb ++ rest) k = some l → ∃ σ, st.L (j + k) = some (σ, l)
  | [], j, lb, h, rest, k, l, hk => by cases hk
  | .v ag ts :: r, j, lb, h, rest, k, l, hk => by
    cases k with
    | zero => cases hk
    | succ k =>
      obtain ⟨σ, hs⟩ := inoutLs_at (ps := r) (j := j + 1) h rest k l hk
      exact ⟨σ, by rw [← hs]; congr 1; omega⟩
  | .m ts :: r, j, lb, h, rest, k, l, hk => by
    unfold inoutLs at h
    split at h
    · rename_i σ ls q hL hr
      split at h
      · rename_i hb
        have hl : ls.length = ts.length := Nat.eq_of_beq_eq_true hb
        injection h with h
        subst h
        cases k with
        | zero =>
          have hk' : some ((ls ++ q ++ rest).take ts.length) = some l := hk
          rw [← hl, List.append_assoc, List.take_left] at hk'
          injection hk' with e
          subst e
          exact ⟨σ, hL⟩
        | succ k =>
          have hk' : inoutAt r ((ls ++ q ++ rest).drop ts.length) k = some l := hk
          rw [← hl, List.append_assoc, List.drop_left] at hk'
          obtain ⟨σ, hs⟩ := inoutLs_at (ps := r) (j := j + 1) hr rest k l hk'
          exact ⟨σ, by rw [← hs]; congr 1; omega⟩
      · cases h
    · cases h
theorem resAt_same {σ : Tok → Tok → Prop} : ∀ {rs : List (Bool × List LT)} {q q' : List Leaf} {i : Nat} {ag : Bool} {l : List Leaf}, SameLs σ q q' → resAt rs q i = .w ag l → ∃ l', resAt rs q' i = .w ag l' ∧ SameLs σ l l'
  | [], _, _, _, _, _, _, h => by cases h
  | (ag0, ts) :: r, q, q', 0, ag, l, hs, h => by
    have h' : PV.w ag0 (q.take ts.length) = .w ag l := h
    injection h' with e1 e2
    subst e1; subst e2
    exact ⟨_, rfl, hs.take _⟩
  | (ag0, ts) :: r, q, q', i + 1, ag, l, hs, h => resAt_same (rs := r) (hs.drop _) h
theorem resAt_out : ∀ {rs : List (Bool × List LT)} {q : List Leaf} {i : Nat}, rs.length ≤ i → resAt rs q i = .dead
  | [], _, _, _ => rfl
  | _ :: _, _, 0, h => by simp at h
  | (_, ts) :: r, q, i + 1, h => resAt_out (rs := r) (by simpa using h)
def exitG (g : Gh) (ks : List Tok) : Gh := ⟨g.C, fun t => match t with | .hd 0 j => g.blk (ks.getD j .zero) | _ => none, g.ρ, fun _ _ => []⟩
theorem exit_rel {P : Program} {s : Sig} {rvs : List ResultVar} {y : s.out.D} (h : AR F g st a w) (hr : retP P rvs s st = some y) :
    ∃ (us : List Value) (g' : Gh) (stX : PSt), us.length = s.rs.length ∧ us.length = rvs.length ∧ (∀ (i : Nat) (x : ResultVar), rvs[i]? = some x → ∃ y, us[i]? = some y ∧ (resVal a x).run P w = .ok y w) ∧ exitSt s y = some stX ∧ MRel F g' stX (fun i => us.getD i undef) w ∧ g'.ρ = g.ρ := by
  unfold retP at hr
  split at hr
  case h_2 => cases hr
  rename_i la lb hla hlb
  split at hr
  case h_2 => cases hr
  rename_i ks xs htake0
  obtain ⟨htake, hno⟩ := takeAllN_some htake0
  split at hr
  case h_2 => cases hr
  rename_i hdt
  have hun : unpackD (s.outs.map LT.ty) y = xs := unpack_pack _ _ _ hr
  obtain ⟨q1, us, q2, q3, q4, q5⟩ := resAll_rel h hla
  obtain ⟨osX, hmk⟩ := mk_some (lab := Tok.hd 0) (j := 0) htake
  obtain ⟨hsame, _⟩ := take_mk (fun l _ => .inr hno) htake hmk
  have hex : exitSt s y = some ⟨resAt s.rs osX, fun k => match inoutAt s.ps (osX.drop s.nres) k with | some l => some (0, l) | none => none, fun t => hasT (.zero :: labs (Tok.hd 0) s.outs 0) t, [], [], []⟩ := by
    unfold exitSt
    rw [hun, hmk]
    rfl
  have T : Turn F g st.O F (exitG g ks) (fun t => hasT (.zero :: labs (Tok.hd 0) s.outs 0) t) (fun k k' => TokAt s.outs ks (Tok.hd 0) 0 k k' ∧ st.O k = true) := by
    refine ⟨rfl, fun k k' hσ _ => ⟨hσ.2, ?_⟩, fun k k' b o _ _ _ _ hw => hw⟩
    obtain ⟨⟨i, E, e, h1, h2, rfl⟩, _⟩ := hσ
    show g.blk (ks.getD (0 + i) .zero) = _
    rw [List.getD_eq_getElem?_getD, Nat.zero_add, h2]; rfl
  have liveH : ∀ k, hasT (.zero :: labs (Tok.hd 0) s.outs 0) k = true → k = .zero ∨ ∃ i k0, k = .hd 0 i ∧ ks[i]? = some k0 ∧ st.O k0 = true ∧ (exitG g ks).blk k = g.blk k0 := fun k hk => by
    rcases List.mem_cons.1 (hasT_iff.1 hk) with rfl | hm
    · exact .inl rfl
    · obtain ⟨i, E, e, h1, rfl⟩ := labs_mem.1 hm
      obtain ⟨k0, r1, r2⟩ := take_ks htake i E e h1
      refine .inr ⟨i, k0, by rw [Nat.zero_add], r1, r2, ?_⟩
      show g.blk (ks.getD (0 + i) .zero) = _
      rw [List.getD_eq_getElem?_getD, Nat.zero_add, r1]; rfl
  have locH : ∀ k y, (match inoutAt s.ps (osX.drop s.nres) k with | some l => some ((0 : Nat), l) | none => none) = some y → y.1 = 0 ∧ ∃ σ l, st.L k = some (σ, l) ∧ SameLs (fun k k' => TokAt s.outs ks (Tok.hd 0) 0 k k' ∧ st.O k = true) l y.2 := fun k y hy => by
    split at hy
    · rename_i l' hl'
      injection hy with hy
      subst hy
      obtain ⟨l, h1, h2⟩ := inoutAt_same (hsame.drop s.nres) hl'
      have hnr : s.nres = la.length := by unfold Sig.nres; rw [q1]
      rw [hnr, List.drop_left] at h1
      obtain ⟨σ, h3⟩ := inoutLs_at hlb [] k l (by rw [List.append_nil]; exact h1)
      rw [Nat.zero_add] at h3
      exact ⟨rfl, σ, l, h3, h2⟩
    · cases hy
  refine ⟨us, exitG g ks, _, q2, q3, q4, hex, ⟨h.rel.fr, fun i => ?_, fun k σ l hL => ?_, fun k σ l hL hσ => ?_, fun t b hb => by (cases hb), fun i t want ag l hs => ?_, fun d hd => by (cases hd), fun i k hk => ?_, rfl, fun k k' b hk1 hk2 hb hb' => ?_, fun k b j y hk1 hb hL => ?_, fun k b hk1 hb => ?_, fun k b hk1 hb => ?_, fun j j' y y' hj hj' he => ?_⟩, rfl⟩
  · by_cases hi : i < s.rs.length
    · obtain ⟨ag, l, e1, e2⟩ := q5 lb i hi
      obtain ⟨l', e3, e4⟩ := resAt_same hsame e1
      show RelP F _ w _ _ _ (resAt s.rs osX i)
      rw [e3]
      exact e2.turn T e4
    · show RelP F _ w _ _ _ (resAt s.rs osX i)
      rw [resAt_out (by omega)]; trivial
  · obtain ⟨e, σ1, l1, h1, h2⟩ := locH k (σ, l) hL
    exact (h.rel.locals k σ1 l1 h1).turn T (fun _ _ hw => hw) h2
  · exact (hσ (locH k (σ, l) hL).1).elim
  · by_cases hi : i < s.rs.length
    · obtain ⟨ag', l', e1, e2⟩ := q5 lb i hi
      obtain ⟨l2, e3, e4⟩ := resAt_same hsame e1
      have hs' : resAt s.rs osX i = .spec t want ag l := hs
      rw [e3] at hs'; cases hs'
    · have hs' : resAt s.rs osX i = .spec t want ag l := hs
      rw [resAt_out (by omega)] at hs'; cases hs'
  · by_cases hi : i < s.rs.length
    · obtain ⟨ag', l', e1, e2⟩ := q5 lb i hi
      obtain ⟨l2, e3, e4⟩ := resAt_same hsame e1
      have hk' : k ∈ keyP (resAt s.rs osX i) := hk
      rw [e3] at hk'; cases hk'
    · have hk' : k ∈ keyP (resAt s.rs osX i) := hk
      rw [resAt_out (by omega)] at hk'; cases hk'
  · rcases liveH k hk1 with rfl | ⟨i, k0, rfl, r1, r2, r3⟩
    · cases hb
    rcases liveH k' hk2 with rfl | ⟨i', k0', rfl, r1', r2', r3'⟩
    · cases hb'
    rw [r3] at hb; rw [r3'] at hb'
    have e1 := h.rel.blkI k0 k0' b r2 r2' hb hb'
    subst e1
    have hz : k0 ≠ .zero := fun e => by rw [e, h.rel.blk0] at hb; cases hb
    rw [distinct_at hdt r1 r1' hz]
  · rcases liveH k hk1 with rfl | ⟨i, k0, rfl, r1, r2, r3⟩
    · cases hb
    rw [r3] at hb
    obtain ⟨_, σ1, l1, h1, _⟩ := locH j y hL
    exact h.rel.blkL k0 b j _ r2 hb h1
  · rcases liveH k hk1 with rfl | ⟨i, k0, rfl, r1, r2, r3⟩
    · cases hb
    rw [r3] at hb
    exact h.rel.blkS k0 b r2 hb
  · rcases liveH k hk1 with rfl | ⟨i, k0, rfl, r1, r2, r3⟩
    · cases hb
    rw [r3] at hb
    exact h.rel.blkW k0 b r2 hb
  · obtain ⟨_, σ1, l1, h1, _⟩ := locH j y hj
    obtain ⟨_, σ2, l2, h2, _⟩ := locH j' y' hj'
    exact h.rel.ρI j j' _ _ h1 h2 he
theorem exit_relF {P : Program} {s : Sig} {rvs : List ResultVar} {y : s.out.D} (h : AR F g st a w) (hr : retF P rvs s st = some y) :
    ∃ (us : List Value) (g' : Gh) (stX : PSt), us.length = s.rs.length ∧ us.length = rvs.length ∧ (∀ (i : Nat) (x : ResultVar), rvs[i]? = some x → ∃ y, us[i]? = some y ∧ (resVal a x).run P w = .ok y w) ∧ exitSt s y = some stX ∧ MRel F g' stX (fun i => us.getD i undef) w ∧ g'.ρ = g.ρ := by
  unfold retF at hr
  split at hr
  · exact exit_rel h hr
  · rename_i k K _
    obtain ⟨hall, hr⟩ := chk_some hr
    have hA : AR F (lendG g st (k :: K)) (lendSt (k :: K) (resTmps rvs) st) a w := ⟨h.size, h.defers, lend_rel (k :: K) _ h.rel fun i hi => List.all_eq_true.1 hall i (hasN_iff.1 hi)⟩
    have h2 := exit_rel hA hr
    exact h2
theorem annot_erase {A : List (Nat × Ann)} : ∀ (c : Code) (k : Nat) (ac : AC) (k' : Nat), annot A c k = some (ac, k') → ac.erase = c := by
  intro c
  induction c with
  | skip => intro k ac k' h; simp only [annot, Option.some.injEq, Prod.mk.injEq] at h; rw [← h.1]; rfl
  | region id ops d => intro k ac k' h; simp only [annot, Option.some.injEq, Prod.mk.injEq] at h; rw [← h.1]; rfl
  | exit id => intro k ac k' h; simp only [annot, Option.some.injEq, Prod.mk.injEq] at h; rw [← h.1]; rfl
  | ret => intro k ac k' h; simp only [annot, Option.some.injEq, Prod.mk.injEq] at h; rw [← h.1]; rfl
  | label l => intro k ac k' h; simp only [annot, Option.some.injEq, Prod.mk.injEq] at h; rw [← h.1]; rfl
  | goto l => intro k ac k' h; simp only [annot, Option.some.injEq, Prod.mk.injEq] at h; rw [← h.1]; rfl
  | scope b ih =>
    intro k ac k' h
    unfold annot at h
    split at h
    · rename_i m b' k1 h0 h1
      simp only [Option.some.injEq, Prod.mk.injEq] at h
      rw [← h.1]
      simp only [AC.erase, ih _ _ _ h1]
    · cases h
  | seq x y ihx ihy =>
    intro k ac k' h
    unfold annot at h
    split at h
    · rename_i a' k1 h1
      split at h
      · rename_i b' k2 h2
        split at h <;>
        · simp only [Option.some.injEq, Prod.mk.injEq] at h
          rw [← h.1]
          simp only [AC.erase, ihx _ _ _ h1, ihy _ _ _ h2]
      · cases h
    · cases h
  | cond c x y ihx ihy =>
    intro k ac k' h
    unfold annot at h
    split at h
    · rename_i a' k1 h1
      split at h
      · rename_i b' k2 h2
        simp only [Option.some.injEq, Prod.mk.injEq] at h
        rw [← h.1]
        simp only [AC.erase, ihx _ _ _ h1, ihy _ _ _ h2]
      · cases h
    · cases h
  | block id b ih =>
    intro k ac k' h
    unfold annot at h
    split at h
    · rename_i b' k1 h1
      simp only [Option.some.injEq, Prod.mk.injEq] at h
      rw [← h.1]
      simp only [AC.erase, ih _ _ _ h1]
    · cases h
  | loop b ih =>
    intro k ac k' h
    unfold annot at h
    split at h
    · rename_i m b' k1 h0 h1
      simp only [Option.some.injEq, Prod.mk.injEq] at h
      rw [← h.1]
      simp only [AC.erase, ih _ _ _ h1]
    · cases h
  | _ => intro k ac k' h; cases h
theorem annot_hands {A : List (Nat × Ann)} : ∀ (c : Code) (k : Nat) (ac : AC) (k' : Nat), annot A c k = some (ac, k') → ac.hands = [] := by
  intro c
  induction c with
  | skip => intro k ac k' h; simp only [annot, Option.some.injEq, Prod.mk.injEq] at h; rw [← h.1]; rfl
  | region id ops d => intro k ac k' h; simp only [annot, Option.some.injEq, Prod.mk.injEq] at h; rw [← h.1]; rfl
  | exit id => intro k ac k' h; simp only [annot, Option.some.injEq, Prod.mk.injEq] at h; rw [← h.1]; rfl
  | ret => intro k ac k' h; simp only [annot, Option.some.injEq, Prod.mk.injEq] at h; rw [← h.1]; rfl
  | label l => intro k ac k' h; simp only [annot, Option.some.injEq, Prod.mk.injEq] at h; rw [← h.1]; rfl
  | goto l => intro k ac k' h; simp only [annot, Option.some.injEq, Prod.mk.injEq] at h; rw [← h.1]; rfl
  | scope b ih =>
    intro k ac k' h
    unfold annot at h
    split at h
    · rename_i m b' k1 h0 h1
      simp only [Option.some.injEq, Prod.mk.injEq] at h
      rw [← h.1]
      simp only [AC.hands, ih _ _ _ h1]
    · cases h
  | seq x y ihx ihy =>
    intro k ac k' h
    unfold annot at h
    split at h
    · rename_i a' k1 h1
      split at h
      · rename_i b' k2 h2
        split at h <;>
        · simp only [Option.some.injEq, Prod.mk.injEq] at h
          rw [← h.1]
          simp only [AC.hands, ihx _ _ _ h1, ihy _ _ _ h2, List.append_nil]
      · cases h
    · cases h
  | cond c x y ihx ihy =>
    intro k ac k' h
    unfold annot at h
    split at h
    · rename_i a' k1 h1
      split at h
      · rename_i b' k2 h2
        simp only [Option.some.injEq, Prod.mk.injEq] at h
        rw [← h.1]
        simp only [AC.hands, ihx _ _ _ h1, ihy _ _ _ h2, List.append_nil]
      · cases h
    · cases h
  | block id b ih =>
    intro k ac k' h
    unfold annot at h
    split at h
    · rename_i b' k1 h1
      simp only [Option.some.injEq, Prod.mk.injEq] at h
      rw [← h.1]
      simp only [AC.hands, ih _ _ _ h1]
    · cases h
  | loop b ih =>
    intro k ac k' h
    unfold annot at h
    split at h
    · rename_i m b' k1 h0 h1
      simp only [Option.some.injEq, Prod.mk.injEq] at h
      rw [← h.1]
      simp only [AC.hands, ih _ _ _ h1]
    · cases h
  | _ => intro k ac k' h; cases h
theorem erase_hand (r : Nat) (h : PSt → Option (Bool × PSt)) : ∀ ac : AC, (ac.withHand r h).erase = ac.erase := by
  intro ac
  induction ac with
  | seq a b iha ihb =>
    cases a with
    | region id ops d =>
      unfold AC.withHand
      split
      · rfl
      · show Code.seq _ (AC.withHand r h b).erase = _
        rw [ihb]; rfl
    | _ => exact (congrArg (fun z => Code.seq z (AC.erase (AC.withHand r h b))) iha).trans (congrArg (Code.seq _) ihb)
  | join n a b iha ihb => exact (congrArg (fun z => Code.seq z (AC.erase (AC.withHand r h b))) iha).trans (congrArg (Code.seq _) ihb)
  | cond c a b iha ihb => exact (congrArg (fun z => Code.cond c z (AC.erase (AC.withHand r h b))) iha).trans (congrArg (Code.cond c _) ihb)
  | block id b ih => exact congrArg (Code.block id) ih
  | loop n b ih => exact congrArg Code.loop ih
  | scope n b ih => exact congrArg Code.scope ih
  | _ => rfl
theorem results_run {P : Program} {fn : Func} {us : List Value} (hl : us.length = fn.results.toList.length) (h : ∀ (i : Nat) (x : ResultVar), fn.results.toList[i]? = some x → ∃ y, us[i]? = some y ∧ (resVal a x).run P w = .ok y w) : (results fn a.tmps).run P w = .ok (retV us) w := by
  have key : (results fn a.tmps).run P w = .ok (if h : (⟨us⟩ : Array Value).size = 1 then (⟨us⟩ : Array Value)[0] else .tuple ⟨us⟩) w := by
    unfold results
    rw [Array.mapM_eq_mapM_toList, Sem.run_bind, Sem.run_map, run_mapM fn.results.toList us (fun i x hx => ?_) hl]
    · rfl
    obtain ⟨y, hy, hr⟩ := h i x hx
    exact ⟨y, hy, by cases x <;> exact hr⟩
  rw [key]
  match us with
  | [] => rfl
  | [_] => rfl
  | _ :: _ :: _ => rfl
theorem fn_sound {T : Tab} (hE : E.ok T) {A : List (Nat × Ann)} {f : FuncId} {fn : Func} {s : Sig} (hf : E.P.funcs[f]? = some fn) : SoundFn E.P T f s ⟨pvFn E A fn s⟩ := by
  intro F g st xs y tmf w args hT hent happ hrel hw hn hsz htm
  have hv := appF_curry _ _ _ _ happ
  unfold pvFnL at hv
  rw [hent] at hv
  split at hv
  case h_2 => cases hv
  rename_i c st0 hb he
  injection he with he
  subst he
  split at hv
  case h_2 => cases hv
  rename_i ac k hac
  split at hv
  case h_2 => cases hv
  rename_i hgd
  simp only [Bool.and_eq_true] at hgd
  obtain ⟨⟨⟨⟨hg1, hg2⟩, hg3⟩, hg4⟩, hg5⟩ := hgd
  have hFn := hn fn hf
  have hle : args.size ≤ fn.ntmps := by rw [hsz]; rw [Nat.ble_eq] at hg3; exact hg3
  have hdst : ∀ d ∈ ac.dsts, d < F.n := fun d hd => by
    have := List.all_eq_true.1 hg2 d hd
    rw [Nat.blt_eq] at this
    omega
  have htm' : tm { tmps := args ++ Array.replicate (fn.ntmps - args.size) undef, defers := [] } = tmf := by
    funext i
    rw [htm i]
    unfold tm
    simp only [Array.getD_eq_getD_getElem?, Array.getElem?_append]
    by_cases hlt : i < args.size
    · simp [hlt]
    · rw [if_neg hlt, Array.getElem?_eq_none (show args.size ≤ i by omega)]
      simp only [Array.getElem?_replicate, Option.getD_none]
      split <;> rfl
  have hAR : AR F g st { tmps := args ++ Array.replicate (fn.ntmps - args.size) undef, defers := [] } w := ⟨by simp; omega, rfl, by rw [htm']; exact hrel⟩
  have he := annot_erase c 0 ac k hac
  refine calls_of_wp hf hb ?_
  have hs := pv_sound ⟨T, hE, hT⟩ ac (by rw [annot_hands c 0 ac k hac]; intro p hp; cases hp) _ st y g _ w hg1 hdst hAR hv
  rw [he] at hs
  have fin : ∀ {x a' w' g' st'}, retF E.P fn.results.toList s st' = some y → AR F g' st' a' w' → LftX x (· ∈ ac.dsts) (· ∈ ac.ids) g { tmps := args ++ Array.replicate (fn.ntmps - args.size) undef, defers := [] } w g' a' w' →
      a'.defers = [] ∧ ∃ v, (results fn a'.tmps).run E.P w' = .ok v w' ∧ ∃ us g' st', Ending.returned v = .returned (retV us) ∧ us.length = s.rs.length ∧ exitSt s y = some st' ∧ MRel F g' st' (fun i => us.getD i undef) w' ∧ ∀ k, isM s.ps k = true → g'.ρ k = g.ρ k := fun {x a' w' g' st'} hr hA hl => by
    obtain ⟨us, g2, stX, r1, r2, r3, r4, r5, r6⟩ := exit_relF hA hr
    refine ⟨hA.defers, retV us, results_run r2 r3, us, g2, stX, rfl, r1, r4, r5, fun k hk => ?_⟩
    rw [r6]
    refine hl.ρ k fun hm => ?_
    have hlt : k < s.ps.length := by
      obtain ⟨ts, hts⟩ := isM_iff.1 hk
      exact (List.getElem?_eq_some_iff.1 hts).1
    have := List.all_eq_true.1 hg5 k (List.mem_range.2 hlt)
    rw [hk, hasN_iff.2 hm] at this
    cases this
  refine Code.wp_mono (fun e a' w' hp => ?_) hs
  obtain ⟨x, st', g', rfl, hQ, hr, hl⟩ := hp
  cases x with
  | exit i => cases hQ
  | normal => exact fin hQ hr hl
  | ret => exact fin hQ hr hl
  | goto i => cases hQ
end
end Pv
end Go.Proofs.Ytgcgdfjldeihkaa
