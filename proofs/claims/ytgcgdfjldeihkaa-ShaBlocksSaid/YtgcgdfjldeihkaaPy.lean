/- Pure evaluation of the model's code: one operation after another. -/
import Derived.Test.YtgcgdfjldeihkaaPx
namespace Go.Proofs.Ytgcgdfjldeihkaa
namespace Pv
set_option linter.unusedVariables false
section
variable {P : Program} {E : Env} {F : Fr} {g g' : Gh} {st st' : PSt} {a a' : Act} {w w' : World} {o : Oper} {ops : Array Oper} {R : Type} {r : R}
structure AR (F : Fr) (g : Gh) (st : PSt) (a : Act) (w : World) : Prop where
  size : a.tmps.size = F.n
  defers : a.defers = []
  rel : MRel F g st (tm a) w
/-- What a piece of code leaves alone. -/
structure Lft (M : Nat → Prop) (I : Nat → Prop) (g : Gh) (a : Act) (w : World) (g' : Gh) (a' : Act) (w' : World) : Prop where
  tmp : ∀ i, ¬ M i → tm a' i = tm a i
  ρ : ∀ k, ¬ M k → g'.ρ k = g.ρ k
  gw : Gw w g.C w' g'.C
  H : ∀ k σ, ¬ I σ → σ ≠ 0 → g'.H k σ = g.H k σ
theorem Lft.refl (M I : Nat → Prop) : Lft M I g a w g a w := ⟨fun _ _ => rfl, fun _ _ => rfl, Gw.refl _ _, fun _ _ _ _ => rfl⟩
theorem Lft.trans {M I : Nat → Prop} {g2 : Gh} {a2 : Act} {w2 : World} (h : Lft M I g a w g' a' w') (k : Lft M I g' a' w' g2 a2 w2) : Lft M I g a w g2 a2 w2 :=
  ⟨fun i hi => (k.tmp i hi).trans (h.tmp i hi), fun i hi => (k.ρ i hi).trans (h.ρ i hi), h.gw.trans k.gw, fun x σ h1 h2 => (k.H x σ h1 h2).trans (h.H x σ h1 h2)⟩
theorem Lft.mono {M I M' I' : Nat → Prop} (h : Lft M I g a w g' a' w') (hm : ∀ i, M i → M' i) (hi : ∀ i, I i → I' i) : Lft M' I' g a w g' a' w' :=
  ⟨fun i hn => h.tmp i fun e => hn (hm i e), fun i hn => h.ρ i fun e => hn (hm i e), h.gw, fun x σ h1 h2 => h.H x σ (fun e => h1 (hi σ e)) h2⟩
/-- More is known of guards. -/
theorem MRel.knMore {tmf : Nat → Value} (h : MRel F g st tmf w) {kn : List (Nat × Bool)} (hk : ∀ t b, knows kn t = some b → tmf t = .bool b) : MRel F g ⟨st.φ, st.L, st.O, kn, st.sp, st.fr⟩ tmf w :=
  ⟨h.fr, h.slots, h.locals, h.hist, hk, h.sp, h.fresh, h.locL, h.blk0, h.blkI, h.blkL, h.blkS, h.blkW, h.ρI⟩
theorem MRel.spMore {tmf : Nat → Value} (h : MRel F g st tmf w) (t : Nat) : MRel F g ⟨st.φ, st.L, st.O, st.kn, t :: st.sp, st.fr⟩ tmf w :=
  ⟨h.fr, h.slots, h.locals, h.hist, h.kn, fun i t' want ag ls hs => hasN_iff.2 (List.mem_cons_of_mem _ (hasN_iff.1 (h.sp i t' want ag ls hs))), h.fresh, h.locL, h.blk0, h.blkI, h.blkL, h.blkS, h.blkW, h.ρI⟩
/-- A value in a slot, the memory as it is. -/
theorem MRel.putV {d : Option Nat} {p : PV} {u : Value} (h : MRel F g st (tm a) w) (ha : a.tmps.size = F.n) (hd : ∀ x, d = some x → x < F.n) (hv : ∀ tmf, (∀ t want ag ls, p = .spec t want ag ls → tmf t = tm a t) → RelP F g w st.O tmf u p)
    (hfree : freeD st d = true) (hsp : ∀ t want ag ls, p = .spec t want ag ls → hasN st.sp t = true) (hm : ∀ x, x ∈ outN d st.fr → mentP x p = false) (hk : ∀ k, k ∈ keyP p → (st.L k).isSome = true) :
    MRel F g ⟨putP st.φ d p, st.L, st.O, st.kn, st.sp, outN d st.fr⟩ (tm (a.put d u)) w := by
  have hput : ∀ i, tm (a.put d u) i = if d = some i then u else tm a i := fun i => tm_put a d u i fun x hx => by rw [ha]; exact hd x hx
  have hdne : ∀ t, hasN st.sp t = true ∨ (∃ b, knows st.kn t = some b) → d ≠ some t := fun t ht e => by
    subst e
    simp only [freeD, Bool.and_eq_true, Bool.not_eq_true'] at hfree
    rcases ht with hs | ⟨b, hb⟩
    · rw [hs] at hfree; cases hfree.1
    · rw [hb] at hfree; cases hfree.2
  refine ⟨h.fr, fun i => ?_, h.locals, h.hist, fun t b hb => ?_, fun i t want ag ls hs => ?_, fun x hx => ?_, fun i k hk' => ?_, h.blk0, h.blkI, h.blkL, h.blkS, h.blkW, h.ρI⟩
  · show RelP F g w st.O _ _ (putP st.φ d p i)
    rw [hput]
    by_cases hi : d = some i
    · rw [if_pos hi, hi, putP_at]
      exact hv _ fun t want ag ls e => by rw [← hi, hput, if_neg (hdne t (.inl (hsp t want ag ls e)))]
    · rw [if_neg hi, putP_ne hi]
      exact (h.slots i).gw (Gw.refl _ _) (fun k _ => Lives.refl k) (fun _ _ => rfl) fun t want ag ls hs => by rw [hput, if_neg (hdne t (.inl (h.sp i t want ag ls hs)))]
  · rw [hput, if_neg (hdne t (.inr ⟨b, hb⟩))]; exact h.kn t b hb
  · have hs' : putP st.φ d p i = .spec t want ag ls := hs
    by_cases hi : d = some i
    · rw [hi, putP_at] at hs'; exact hsp t want ag ls hs'
    · rw [putP_ne hi] at hs'; exact h.sp i t want ag ls hs'
  · have hx' : x ∈ outN d st.fr := hasN_iff.1 hx
    obtain ⟨f1, f2, f3, f4⟩ := h.fresh x (hasN_iff.2 (outN_mem.1 hx').1)
    refine ⟨fun i => ?_, f2, f3, f4⟩
    show mentP x (putP st.φ d p i) = false
    by_cases hi : d = some i
    · rw [hi, putP_at]; exact hm x hx'
    · rw [putP_ne hi]; exact f1 i
  · have hk2 : k ∈ keyP (putP st.φ d p i) := hk'
    by_cases hi : d = some i
    · rw [hi, putP_at] at hk2; exact hk k hk2
    · rw [putP_ne hi] at hk2; exact h.locL i k hk2
/-- What an operation leaves alone. -/
def Fr1 (d : Option Nat) (g : Gh) (a : Act) (w : World) (g' : Gh) (a' : Act) (w' : World) : Prop := Lft (fun i => d = some i) (fun _ => False) g a w g' a' w'
theorem put_lft (ha : a.tmps.size = F.n) {d : Option Nat} (hd : ∀ x, d = some x → x < F.n) (v : Value) : Fr1 d g a w g (a.put d v) w :=
  ⟨fun i hi => by rw [tm_put a d v i fun x hx => by rw [ha]; exact hd x hx, if_neg hi], fun _ _ => rfl, Gw.refl _ _, fun _ _ _ _ => rfl⟩
theorem okUpd_loc {d : Option Nat} {u : Upd} (hok : okUpd st d u = true) {k : Nat} {ls : List Leaf} (hm : (k, ls) ∈ u.loc) (hn : st.L k = none) : d = some k := by
  simp only [okUpd, Bool.and_eq_true, List.all_eq_true] at hok
  have := hok.2 (k, ls) hm
  simp only [hn] at this
  cases d with
  | none => cases this
  | some x =>
    simp only [Bool.and_eq_true] at this
    rw [Nat.eq_of_beq_eq_true this.1]
theorem knows_cons {kn : List (Nat × Bool)} {t : Nat} {b : Bool} {tmf : Nat → Value} (ht : tmf t = .bool b) (h : ∀ t b, knows kn t = some b → tmf t = .bool b) : ∀ t' b', knows ((t, b) :: kn) t' = some b' → tmf t' = .bool b' := fun t' b' hk => by
  unfold knows at hk
  split at hk
  · rename_i hb
    have e : t = t' := Nat.eq_of_beq_eq_true hb
    injection hk with hk
    subst e; subst hk; exact ht
  · exact h t' b' hk
theorem pick_run {c x y : Operand} {b : Bool} (hop : o.op = .pick c x y) (hc : a.eval c = .bool b) : (execOp a.eval o).run P w = .ok (.value (if b then a.eval x else a.eval y)) w := by
  simp only [execOp, hop, Sem.run_bind, Sem.run_pure, hc, asBool, Result.andThen_ok]
theorem pick_sound {kn : List (Nat × Bool)} (h : MRel F g ⟨st.φ, st.L, st.O, kn, st.sp, st.fr⟩ (tm a) w) {c x y : Operand} {p : PV} (hop : o.op = .pick c x y) (hp : pickP kn st.φ c x y = some p) : ∃ b, p = pbool b ∧ (execOp a.eval o).run P w = .ok (.value (.bool b)) w := by
  unfold pickP at hp
  split at hp
  case h_2 => cases hp
  rename_i t
  split at hp
  case h_2 => cases hp
  rename_i b hb
  have hx := ev_rel h (.tmp t)
  have hx' : RelP F g w st.O (tm a) (a.eval (.tmp t)) (evK kn st.φ (.tmp t)) := hx
  rw [hb] at hx'
  have htm : tm a t = .bool b := rel_bool hx'
  have hc : a.eval (.tmp t) = .bool b := htm
  have hex := pick_run (P := P) (w := w) hop hc
  have side : ∀ (want : Bool) (z : Operand) (q : Bool), b = want → evK ((t, want) :: kn) st.φ z = .w false [.d .bool q] → a.eval z = .bool q := fun want z q e hz => by
    subst e
    have h2 := h.knMore (kn := (t, b) :: kn) (knows_cons htm h.kn)
    have h3 := ev_rel h2 z
    have h3' : RelP F g w st.O (tm a) (a.eval z) (evK ((t, b) :: kn) st.φ z) := h3
    rw [hz] at h3'
    exact rel_bool h3'
  split at hp
  · split at hp
    · rename_i q hq
      injection hp with hp
      refine ⟨b && q, hp.symm, ?_⟩
      rw [hex]
      cases b with
      | true => rw [if_pos rfl, side true x q rfl hq]; rfl
      | false => rfl
    · cases b with
      | true => cases hp
      | false =>
        injection hp with hp
        exact ⟨false, hp.symm, by rw [hex]; rfl⟩
  · split at hp
    · split at hp
      · rename_i q hq
        injection hp with hp
        refine ⟨b || q, hp.symm, ?_⟩
        rw [hex]
        cases b with
        | true => rfl
        | false => rw [if_neg Bool.false_ne_true, side false y q rfl hq]; rfl
      · cases b with
        | false => cases hp
        | true =>
          injection hp with hp
          exact ⟨true, hp.symm, by rw [hex]; rfl⟩
    · cases hp
theorem stepU_sound (hE : E.okF F) {kn : List (Nat × Bool)} (h : AR F g ⟨st.φ, st.L, st.O, kn, st.sp, st.fr⟩ a w) (hd : ∀ x, o.dst = some x → x < F.n) {C : Rec → PSt → Option R} (hv : stepU E o kn st C = some r) {N : Act → World → Prop} {Q : Exit → Act → World → Prop}
    (hN : ∀ a' w' g' rc st', C rc st' = some r → AR F g' st' a' w' → Fr1 o.dst g a w g' a' w' → N a' w') : o.wp E.P a w N Q := by
  unfold stepU at hv
  split at hv
  case h_2 => cases hv
  rename_i hfree
  split at hv
  · rename_i c x y hop
    split at hv
    · rename_i p hp
      obtain ⟨b, rfl, hr⟩ := pick_sound (P := E.P) h.rel hop hp
      unfold Oper.wp
      rw [hr]
      refine hN _ _ g _ _ hv ⟨(put_size a o.dst _).trans h.size, (put_defers a o.dst _).trans h.defers, ?_⟩ (put_lft h.size hd _)
      exact h.rel.putV h.size hd (fun _ _ => mk_bool) hfree (fun _ _ _ _ e => by cases e) (fun _ _ => rfl) (fun _ e => by cases e)
    · cases hv
  · rename_i hnp
    have hg := pvU_sound (o := o) hE h.rel hv
    refine hg N Q fun v w' g' u hC hU => ?_
    simp only at hC
    split at hC
    · rename_i hok
      refine hN _ _ g' _ _ hC ⟨(put_size a o.dst v).trans h.size, (put_defers a o.dst v).trans h.defers, hU.put h.rel h.size hd hok hfree⟩ ⟨fun i hi => ?_, fun k hk => ?_, hU.gw, fun k σ _ _ => by rw [hU.H]⟩
      · rw [tm_put a o.dst v i fun x hx => by rw [h.size]; exact hd x hx, if_neg hi]
      · rcases hU.ρn k with e | ⟨e, ls, hm⟩
        · exact e
        · exact (hk (okUpd_loc hok hm e)).elim
    · cases hC
theorem skipU_sound {kn : List (Nat × Bool)} (h : AR F g ⟨st.φ, st.L, st.O, kn, st.sp, st.fr⟩ a w) (hd : ∀ x, o.dst = some x → x < F.n) {C : Rec → PSt → Option R} (hv : skipU o kn st C = some r) {N : Act → World → Prop}
    (hN : ∀ a' w' g' rc st', C rc st' = some r → AR F g' st' a' w' → Fr1 o.dst g a w g' a' w' → N a' w') : N (a.put o.dst undef) w := by
  unfold skipU at hv
  split at hv
  · rename_i hfree
    refine hN _ _ g _ _ hv ⟨(put_size a o.dst _).trans h.size, (put_defers a o.dst _).trans h.defers, ?_⟩ (put_lft h.size hd _)
    exact h.rel.putV h.size hd (fun _ _ => rfl) hfree (fun _ _ _ _ e => by cases e) (fun _ _ => rfl) (fun _ e => by cases e)
  · cases hv
/-- What a guarded operation must do. -/
def Way (E : Env) (ops : Array Oper) (o : Oper) (a : Act) (w : World) (N : Act → World → Prop) (Q : Exit → Act → World → Prop) : Prop :=
  if Region.wanted o (yielded ops a.tmps) then o.wp E.P a w N Q else N (a.put o.dst undef) w
def isWant (want : Bool) : Value → Bool
  | .bool b => b == want
  | _ => false
theorem isWant_ne {b want : Bool} (h : b ≠ want) : ¬ isWant want (.bool b) = true := by simpa [isWant] using h
theorem isWant_eq {b want : Bool} (h : b = want) : isWant want (.bool b) = true := by simp [isWant, h]
theorem wanted_eq {j t : Nat} {want : Bool} (hg : o.guard = some (j, want)) (ht : (ops[j]?).bind (·.dst) = some t) : Region.wanted o (yielded ops a.tmps) = isWant want (tm a t) := by
  unfold Region.wanted yielded
  simp only [hg, ht, Option.bind_some]
  unfold tm
  by_cases hlt : t < a.tmps.size
  · have e : a.tmps[t]? = some (a.tmps.getD t undef) := by simp [hlt]
    rw [e]
    generalize a.tmps.getD t undef = x
    cases x <;> simp [isWant]
  · have e : a.tmps[t]? = none := by simp; omega
    have e2 : a.tmps.getD t undef = undef := by simp [e]
    rw [e, e2]
    rfl
/-- A value that stands under a guard. -/
theorem MRel.toSpec {tmf : Nat → Value} {d : Nat} {ag : Bool} {ls : List Leaf} {t : Nat} {want : Bool} {kn kn' : List (Nat × Bool)} {φ : Nat → PV} {sp fr : List Nat} (h : MRel F g ⟨putP φ (some d) (.w ag ls), st.L, st.O, kn', sp, fr⟩ tmf w) (ht : tmf t = .bool want)
    (hk : ∀ t b, knows kn t = some b → tmf t = .bool b) : MRel F g ⟨putP φ (some d) (.spec t want ag ls), st.L, st.O, kn, t :: sp, fr⟩ tmf w := by
  refine ⟨h.fr, fun i => ?_, h.locals, h.hist, hk, fun i t' want' ag' ls' hs => ?_, fun x hx => ?_, fun i k hk' => ?_, h.blk0, h.blkI, h.blkL, h.blkS, h.blkW, h.ρI⟩
  · have h1 := h.slots i
    show RelP F g w st.O tmf (tmf i) (putP φ (some d) (.spec t want ag ls) i)
    by_cases hi : d = i
    · subst hi
      rw [putP_at]
      have h1' : RelP F g w st.O tmf (tmf d) (putP φ (some d) (.w ag ls) d) := h1
      rw [putP_at] at h1'
      exact ⟨want, ht, fun _ => h1', fun e => (e rfl).elim⟩
    · rw [putP_ne (by simpa using hi)]
      have h1' : RelP F g w st.O tmf (tmf i) (putP φ (some d) (.w ag ls) i) := h1
      rw [putP_ne (by simpa using hi)] at h1'
      exact h1'
  · have hs' : putP φ (some d) (.spec t want ag ls) i = .spec t' want' ag' ls' := hs
    by_cases hi : d = i
    · subst hi
      rw [putP_at] at hs'
      injection hs' with e
      subst e
      exact hasN_iff.2 (by simp)
    · rw [putP_ne (by simpa using hi)] at hs'
      have := h.sp i t' want' ag' ls' (by show putP φ (some d) (.w ag ls) i = _; rw [putP_ne (by simpa using hi)]; exact hs')
      exact hasN_iff.2 (List.mem_cons_of_mem _ (hasN_iff.1 this))
  · obtain ⟨f1, f2, f3, f4⟩ := h.fresh x hx
    refine ⟨fun i => ?_, f2, f3, f4⟩
    have h1 := f1 i
    show mentP x (putP φ (some d) (.spec t want ag ls) i) = false
    by_cases hi : d = i
    · subst hi
      rw [putP_at]
      have h1' : mentP x (putP φ (some d) (.w ag ls) d) = false := h1
      rw [putP_at] at h1'
      exact h1'
    · rw [putP_ne (by simpa using hi)]
      have h1' : mentP x (putP φ (some d) (.w ag ls) i) = false := h1
      rw [putP_ne (by simpa using hi)] at h1'
      exact h1'
  · have hk2 : k ∈ keyP (putP φ (some d) (.spec t want ag ls) i) := hk'
    by_cases hi : d = i
    · subst hi
      rw [putP_at] at hk2
      cases hk2
    · rw [putP_ne (by simpa using hi)] at hk2
      exact h.locL i k (by show k ∈ keyP (putP φ (some d) (.w ag ls) i); rw [putP_ne (by simpa using hi)]; exact hk2)
theorem wayU_sound (hE : E.okF F) {kn : List (Nat × Bool)} {j t : Nat} {want b : Bool} (hg : o.guard = some (j, want)) (ht : (ops[j]?).bind (·.dst) = some t) (h : AR F g ⟨st.φ, st.L, st.O, kn, st.sp, st.fr⟩ a w) (hb : tm a t = .bool b) (hd : ∀ x, o.dst = some x → x < F.n)
    {C : Rec → PSt → Option R} (hv : wayU E o want b kn st C = some r) {N : Act → World → Prop} {Q : Exit → Act → World → Prop} (hN : ∀ a' w' g' rc st', C rc st' = some r → AR F g' st' a' w' → Fr1 o.dst g a w g' a' w' → N a' w') : Way E ops o a w N Q := by
  unfold Way
  rw [wanted_eq hg ht, hb]
  unfold wayU at hv
  split at hv
  · rename_i he
    have := bEq_iff.1 he
    subst this
    rw [if_pos (by simp [isWant])]
    exact stepU_sound hE h hd hv hN
  · rename_i he
    have hne : b ≠ want := fun e => by rw [bEq_iff.2 e] at he; cases he
    rw [if_neg (by simpa [isWant] using hne)]
    exact skipU_sound h hd hv hN
theorem guardU_sound (hE : E.okF F) {j t : Nat} {want : Bool} (hg : o.guard = some (j, want)) (ht : (ops[j]?).bind (·.dst) = some t) (hd : ∀ x, o.dst = some x → x < F.n) {C : Rec → PSt → Option R} {N : Act → World → Prop} {Q : Exit → Act → World → Prop}
    (hN : ∀ a' w' g' rc st', C rc st' = some r → AR F g' st' a' w' → Fr1 o.dst g a w g' a' w' → N a' w') : ∀ (n : Nat) (kn : List (Nat × Bool)), AR F g ⟨st.φ, st.L, st.O, kn, st.sp, st.fr⟩ a w → guardU E o t want n kn st C = some r → Way E ops o a w N Q
  | 0, _, _, hv => by cases hv
  | n + 1, kn, h, hv => by
    unfold guardU at hv
    have hx := ev_rel h.rel (.tmp t)
    have hx' : RelP F g w st.O (tm a) (a.eval (.tmp t)) (evK kn st.φ (.tmp t)) := hx
    split at hv
    · rename_i b hb
      rw [hb] at hx'
      have htm : tm a t = .bool b := rel_bool hx'
      split at hv
      · rename_i b' hk
        have hb' : tm a t = .bool b' := h.rel.kn t b' hk
        exact wayU_sound hE hg ht h hb' hd hv hN
      · rename_i hk
        split at hv
        · rename_i ag ls hs
          split at hv
          · rename_i hfk
            simp only [Bool.and_eq_true] at hfk
            have hft := hfk.1
            have hdt : o.dst ≠ some t := fun e => by
              rw [e] at hft
              simp only [freeD, Bool.and_eq_true, Bool.not_eq_true'] at hft
              have := hft.1
              rw [hasN_iff.2 (by simp)] at this
              cases this
            have hfree : ∀ kn2, (∀ x, o.dst = some x → knows kn2 x = none) → freeD ⟨st.φ, st.L, st.O, kn2, st.sp, st.fr⟩ o.dst = true := fun kn2 hkn => by
              cases hdd : o.dst with
              | none => rfl
              | some x =>
                rw [hdd] at hft
                simp only [freeD, Bool.and_eq_true, Bool.not_eq_true'] at hft ⊢
                refine ⟨Bool.eq_false_iff.2 fun e => ?_, by rw [hkn x hdd]⟩
                have := hft.1
                rw [hasN_iff.2 (List.mem_cons_of_mem _ (hasN_iff.1 e))] at this
                cases this
            have hknd : ∀ x, o.dst = some x → knows kn x = none := fun x hdd => by
              rw [hdd] at hft
              simp only [freeD, Bool.and_eq_true] at hft
              have h2 := hft.2
              cases hkx : knows kn x with
              | none => rfl
              | some q =>
                have : (match knows kn x with | some _ => false | none => true) = true := h2
                rw [hkx] at this
                cases this
            unfold Way
            rw [wanted_eq hg ht, htm]
            by_cases hbw : b = want
            · rw [if_pos (isWant_eq hbw)]
              unfold specU at hs
              split at hs
              case h_2 => cases hs
              have htw : tm a t = .bool want := by rw [htm, hbw]
              have h2 := h.rel.knMore (kn := (t, want) :: kn) (knows_cons htw h.rel.kn)
              have hgo := pvU_sound (o := o) hE h2 hs
              refine hgo N Q fun v w' g' u hC hU => ?_
              simp only at hC
              split at hC
              · rename_i ag' ls' e1 e2 e3 e4
                simp only [Option.some.injEq, Prod.mk.injEq] at hC
                obtain ⟨rfl, rfl⟩ := hC
                have eu : u = Upd.v (.w ag' ls') := by
                  obtain ⟨u1, u2, u3, u4⟩ := u
                  simp only at e1 e2 e3 e4
                  subst e1; subst e2; subst e3; subst e4
                  rfl
                subst eu
                have hok : okUpd ⟨st.φ, st.L, st.O, (t, want) :: kn, st.sp, st.fr⟩ o.dst (Upd.v (.w ag' ls')) = true := hfk.2
                have hput := hU.put h2 h.size hd hok (hfree _ fun x hdd => by
                  have h3 := hknd x hdd
                  unfold knows
                  have hne : t ≠ x := fun e => hdt (by rw [hdd, e])
                  rw [show Nat.beq t x = false from Bool.eq_false_iff.2 fun e => hne (Nat.eq_of_beq_eq_true e)]
                  exact h3)
                have hρk : ∀ k, g'.ρ k = g.ρ k := fun k => by
                  rcases hU.ρn k with e | ⟨e, l, hm⟩
                  · exact e
                  · cases hm
                have hlft : Fr1 o.dst g a w g' (a.put o.dst v) w' := ⟨fun i hi => by rw [tm_put a o.dst v i fun x hx => by rw [h.size]; exact hd x hx, if_neg hi], fun k _ => hρk k, hU.gw, fun k σ _ _ => by rw [hU.H]⟩
                have htm2 : tm (a.put o.dst v) t = .bool want := by rw [tm_put a o.dst v t fun x hx => by rw [h.size]; exact hd x hx, if_neg hdt]; exact htw
                have hkn2 : ∀ t' b', knows kn t' = some b' → tm (a.put o.dst v) t' = .bool b' := fun t' b' hk' => by
                  rw [tm_put a o.dst v t' fun x hx => by rw [h.size]; exact hd x hx, if_neg fun e => ?_]
                  · exact h.rel.kn t' b' hk'
                  · rw [hknd t' e] at hk'; cases hk'
                refine hN _ _ g' _ _ hv ⟨(put_size a o.dst v).trans h.size, (put_defers a o.dst v).trans h.defers, ?_⟩ hlft
                cases hdd : o.dst with
                | none =>
                  rw [hdd] at hput hkn2 htm2
                  have := (hput.knMore hkn2).spMore t
                  exact this
                | some d =>
                  rw [hdd] at hput hkn2 htm2
                  have hput' : MRel F g' ⟨putP st.φ (some d) (.w ag' ls'), st.L, putO st.O [] [], (t, want) :: kn, st.sp, outN (some d) st.fr⟩ (tm (a.put (some d) v)) w' := hput
                  rw [putO_nil] at hput'
                  exact MRel.toSpec (st := st) hput' htm2 hkn2
              · cases hC
            · rw [if_neg (isWant_ne hbw)]
              refine hN _ _ g _ _ hv ⟨(put_size a o.dst _).trans h.size, (put_defers a o.dst _).trans h.defers, ?_⟩ (put_lft h.size hd _)
              have hkeep : okUpd ⟨st.φ, st.L, st.O, kn, st.sp, st.fr⟩ o.dst (Upd.v (.w ag ls)) = true := hfk.2
              simp only [okUpd, Bool.and_eq_true, List.all_eq_true] at hkeep
              have := (h.rel.spMore t).putV (d := o.dst) (p := .spec t want ag ls) (u := undef) h.size hd (fun tmf htmf => ⟨b, (htmf t want ag ls rfl).trans htm, fun e => (hbw e).elim, fun _ => rfl⟩) hft
                (fun t' want' ag' ls' e => by injection e with e; subst e; exact hasN_iff.2 (by simp)) (fun x hx => by
                  have h3 := (hkeep.1.1.1.1 x hx).1
                  simp only [Bool.not_eq_true'] at h3
                  exact h3) (fun k hk => by cases hk)
              exact this
          · cases hv
        · have key : ∀ q : Bool, b = q → wayU E o want q ((t, q) :: kn) st C = some r → Way E ops o a w N Q := fun q e hv => by
            subst e
            exact wayU_sound hE hg ht ⟨h.size, h.defers, h.rel.knMore (knows_cons htm h.rel.kn)⟩ htm hd hv hN
          cases b with
          | true => exact key true rfl hv
          | false => exact key false rfl hv
    · rename_i vs hb
      rw [hb] at hx'
      have htm : tm a t = .tuple vs := hx'
      unfold Way
      rw [wanted_eq hg ht, htm, if_neg (by simp [isWant])]
      exact skipU_sound h hd hv hN
    · split at hv
      · rename_i t1 w1 ag1 ls1 hs1
        split at hv
        · rename_i b1 hb1 hk1
          have hx1 := ev_rel h.rel (.tmp t1)
          have hx1' : RelP F g w st.O (tm a) (a.eval (.tmp t1)) (evK kn st.φ (.tmp t1)) := hx1
          rw [hb1] at hx1'
          have htm1 : tm a t1 = .bool b1 := rel_bool hx1'
          have key : ∀ q : Bool, b1 = q → guardU E o t want n ((t1, q) :: kn) st C = some r → Way E ops o a w N Q := fun q e hv => by
            subst e
            exact guardU_sound hE hg ht hd hN n _ ⟨h.size, h.defers, h.rel.knMore (knows_cons htm1 h.rel.kn)⟩ hv
          cases b1 with
          | true => exact key true rfl hv
          | false => exact key false rfl hv
        · cases hv
      · cases hv
    · cases hv
theorem pvStep_sound (hE : E.okF F) (h : AR F g st a w) (hd : ∀ x, o.dst = some x → x < F.n) {C : Rec → PSt → Option R} (hv : pvStep E ops o st C = some r) {N : Act → World → Prop} {Q : Exit → Act → World → Prop}
    (hN : ∀ a' w' g' rc st', C rc st' = some r → AR F g' st' a' w' → Fr1 o.dst g a w g' a' w' → N a' w') : Way E ops o a w N Q := by
  unfold pvStep at hv
  split at hv
  · rename_i hg
    unfold Way
    rw [if_pos (by simp [Region.wanted, hg])]
    exact stepU_sound hE h hd hv hN
  · rename_i j want hg
    split at hv
    · cases hv
    · rename_i t ht
      exact guardU_sound hE hg ht hd hN 4 _ h hv
/-- A region in the order of its text. -/
theorem pvOps_sound (hE : E.okF F) {M : Nat → Prop} {Q : Exit → Act → World → Prop} : ∀ (l : List Oper) (tr : List Rec) (g : Gh) (st : PSt) (a : Act) (w : World) (C : List Rec → PSt → Option R), (∀ o ∈ l, ∀ x, o.dst = some x → x < F.n ∧ M x) → AR F g st a w → pvOps E ops l tr st C = some r →
    (∀ a' w' g' tr' st', C tr' st' = some r → AR F g' st' a' w' → Lft M (fun _ => False) g a w g' a' w' → Q .normal a' w') → wpList E.P ops Q l a w
  | [], tr, g, st, a, w, C, _, h, hv, hQ => hQ a w g tr st hv h (Lft.refl _ _)
  | o :: l, tr, g, st, a, w, C, hd, h, hv, hQ => by
    refine wpList_step fun K hK => ?_
    unfold pvOps at hv
    refine pvStep_sound (Q := Q) hE h (fun x hx => (hd o (by simp) x hx).1) hv fun a' w' g' rc st' hC h' hl => hK _ _ ?_
    refine pvOps_sound hE l _ g' st' a' w' C (fun o ho => hd o (by simp [ho])) h' hC fun a2 w2 g2 tr2 st2 hC2 h2 hl2 => hQ a2 w2 g2 tr2 st2 hC2 h2 ?_
    exact (hl.mono (fun i hi => (hd o (by simp) i hi).2) (fun _ hi => hi)).trans hl2
end
end Pv
end Go.Proofs.Ytgcgdfjldeihkaa
