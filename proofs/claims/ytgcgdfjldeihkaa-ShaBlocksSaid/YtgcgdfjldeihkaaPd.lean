/- Pure evaluation of the model's code: a region that draws its order. -/
import Derived.Test.YtgcgdfjldeihkaaPf
namespace Go.Proofs.Ytgcgdfjldeihkaa
namespace Pv
set_option linter.unusedVariables false
section
variable {E : Env} {F : Fr} {R : Type} {r : R} {ops : Array Oper} {g : Gh} {w : World} {tmf : Nat → Value}
theorem MRel.drew {st : PSt} (h : MRel F g st tmf w) : MRel F g st tmf { w with drawn := w.drawn + 1 } := by
  have G : Gw w g.C { w with drawn := w.drawn + 1 } g.C := fun a u hc hC => ⟨hc, hC⟩
  have K : ∀ b, Kp g w g { w with drawn := w.drawn + 1 } b := fun b => ⟨rfl, fun _ => Iff.rfl⟩
  have Lv : ∀ k, Lives g w st.O g { w with drawn := w.drawn + 1 } st.O k := fun k hk => ⟨hk, rfl, fun b _ => K b⟩
  exact ⟨⟨h.fr.size, h.fr.os, h.fr.tape, h.fr.output, h.fr.old, h.fr.shape, h.fr.com, h.fr.mono, h.fr.lim⟩, fun i => (h.slots i).gw G (fun k _ => Lv k) (fun _ _ => rfl) (fun _ _ _ _ _ => rfl), fun k σ ls hL => (h.locals k σ ls hL).gw (st := st) G (fun k _ _ _ _ => Lv k) (K _),
    h.hist, h.kn, h.sp, h.fresh, h.locL, h.blk0, h.blkI, h.blkL, h.blkS, h.blkW, h.ρI⟩
theorem MRel.relike {s X : PSt} (h : MRel F g s tmf w) (hφ : s.φ = X.φ) (hL : s.L = X.L) (hO : s.O = X.O) (hf : ∀ x, hasN X.fr x = true → hasN s.fr x = true) (hs : ∀ i t want ag ls, X.φ i = .spec t want ag ls → hasN X.sp t = true) (hk : ∀ t b, knows X.kn t = some b → tmf t = .bool b) : MRel F g X tmf w := by
  obtain ⟨φ, L, O, kn, sp, fr⟩ := X
  cases hφ; cases hL; cases hO
  exact ⟨h.fr, h.slots, h.locals, h.hist, hk, hs, fun d hd => h.fresh d (hf d hd), h.locL, h.blk0, h.blkI, h.blkL, h.blkS, h.blkW, h.ρI⟩
/-- Facts that stand in the slots are true. -/
theorem facts {A : Nat → Prop} {X : PSt} {φ : Nat → PV} {kn : List (Nat × Bool)} (hM : ∀ i, RelP F g w X.O tmf (tmf i) (X.φ i)) (hφ : ∀ t, A t → X.φ t = φ t) (hcl : ∀ t, A t → ∀ j w ag ls, φ t = .spec j w ag ls → A j) (hk : KnOK φ kn) : ∀ t b, A t → knows kn t = some b → tmf t = .bool b := by
  induction hk with
  | nil => intro t b _ h; cases h
  | @cons t0 b0 kn h0 hj ih =>
    intro t b ht h
    unfold knows at h
    split at h
    · rename_i e
      have e := Nat.eq_of_beq_eq_true e
      subst e
      injection h with h
      subst h
      have h1 := hM t0
      rw [hφ t0 ht] at h1
      rcases hj with hj | ⟨t', w', hj, hk'⟩
      · rw [hj] at h1
        exact rel_bool h1
      · have h2 := ih t' w' (hcl t0 ht _ _ _ _ hj) hk'
        rw [hj] at h1
        obtain ⟨b', g1, g2, g3⟩ := h1
        rw [h2] at g1
        have e : b' = w' := by injection g1 with g1; exact g1.symm
        exact rel_bool (tmf := tmf) (g2 e)
    · exact ih t b ht h
/-! ### what the checks say -/
theorem like_refl (a : PSt) : Like a a := ⟨rfl, rfl, rfl, fun _ => rfl⟩
theorem Like.trans {a b c : PSt} (h : Like a b) (k : Like b c) : Like a c := ⟨h.1.trans k.1, h.2.1.trans k.2.1, h.2.2.1.trans k.2.2.1, fun x => (h.2.2.2 x).trans (k.2.2.2 x)⟩
theorem fold_like {S S' : Nat → Bool} {l : List Oper} {rs : List Rec} {k : Nat} {X X' : PSt} (h : Like X X') (hS : ∀ i, i < l.length → S (k + i) = S' (k + i)) : Like (fold S l rs k X) (fold S' l rs k X') := by
  have hS' : ∀ i (o : Oper) (rc : Rec), l[i]? = some o → rs[i]? = some rc → ∀ T : Prop, S (k + i) = S' (k + i) ∨ ¬ T := fun i o rc h1 _ _ => .inl (hS i (List.getElem?_eq_some_iff.1 h1).1)
  exact ⟨funext fun t => fold_agree (view_φ t) l rs k X X' (by rw [h.1]) fun i o rc h1 h2 => hS' i o rc h1 h2 _, funext fun t => fold_agree (view_L t) l rs k X X' (by rw [h.2.1]) fun i o rc h1 h2 => hS' i o rc h1 h2 _,
    funext fun t => fold_agree (view_O t) l rs k X X' (by rw [h.2.2.1]) fun i o rc h1 h2 => hS' i o rc h1 h2 _, fun x => fold_agree (view_fr x) l rs k X X' (h.2.2.2 x) fun i o rc h1 h2 => hS' i o rc h1 h2 _⟩
theorem fold_none {S : Nat → Bool} : ∀ (l : List Oper) (rs : List Rec) (k : Nat) (X : PSt), (∀ i, k ≤ i → S i = false) → fold S l rs k X = X
  | [], _, _, _, _ => rfl
  | _ :: _, [], _, _, _ => rfl
  | o :: l, rc :: rs, k, X, h => by
    unfold fold
    rw [h k (Nat.le_refl k)]
    exact fold_none l rs (k + 1) X fun i hi => h i (by omega)
theorem Run.at {l : List Oper} {st s : PSt} {rs : List Rec} (h : Run E ops l st rs s) : ∀ (k j : Nat) (o : Oper), l[j]? = some o → ∃ rc sj sj', rs[j]? = some rc ∧ pvStep E ops o sj (fun rc s => some (rc, s)) = some (rc, sj') ∧ Like sj (fold (fun i => decide (i < k + j)) l rs k st) ∧ (KnOK st.φ st.kn → KnOK sj.φ sj.kn) := by
  induction h with
  | nil => intro k j o h; simp at h
  | @cons o l st rc s1 rs s2 h1 h2 ih =>
    intro k j o' hj
    cases j with
    | zero =>
      cases hj
      refine ⟨rc, st, s1, rfl, h1, ?_, fun h => h⟩
      rw [fold_none _ _ _ _ fun i hi => by simp; omega]
      exact like_refl st
    | succ j =>
      obtain ⟨rc', sj, sj', g1, g2, g3, g4⟩ := ih (k + 1) j o' hj
      have hok := pvStep_ok h1
      refine ⟨rc', sj, sj', g1, g2, g3.trans ?_, fun h => g4 (hok.kn h)⟩
      have e : fold (fun i => decide (i < k + (j + 1))) (o :: l) (rc :: rs) k st = fold (fun i => decide (i < k + (j + 1))) l rs (k + 1) (appR o.dst rc st) := by
        show fold _ l rs (k + 1) (cond (decide (k < k + (j + 1))) (appR o.dst rc st) st) = _
        rw [decide_eq_true (by omega)]; rfl
      rw [e]
      exact fold_like hok.like fun i _ => by congr 1; simp; omega
theorem Run.last {l : List Oper} {st s : PSt} {rs : List Rec} (h : Run E ops l st rs s) : ∀ k : Nat, Like s (fold (fun _ => true) l rs k st) ∧ (KnOK st.φ st.kn → KnOK s.φ s.kn) ∧ ((∀ i t want ag ls, st.φ i = .spec t want ag ls → hasN st.sp t = true) → ∀ i t want ag ls, s.φ i = .spec t want ag ls → hasN s.sp t = true) := by
  induction h with
  | nil => exact fun k => ⟨like_refl _, fun h => h, fun h => h⟩
  | @cons o l st rc s1 rs s2 h1 h2 ih =>
    intro k
    obtain ⟨g1, g2, g3⟩ := ih (k + 1)
    have hok := pvStep_ok h1
    refine ⟨g1.trans (fold_like hok.like fun _ _ => rfl), fun h => g2 (hok.kn h), fun h => g3 fun i t want ag ls hs => ?_⟩
    rw [hok.like.1] at hs
    have hs' : putP st.φ o.dst rc.val i = .spec t want ag ls := hs
    by_cases hi : o.dst = some i
    · rw [hi, putP_at] at hs'
      exact (hok.spec t want ag ls hs').2
    · rw [putP_ne hi] at hs'
      exact hok.sp t (h i t want ag ls hs')
theorem insN_mem {n i : Nat} {l : List Nat} (h : i ∈ insN n l) : i = n ∨ i ∈ l := by
  unfold insN at h
  split at h
  · exact .inr h
  · exact List.mem_cons.1 h
theorem unionN_mem {i : Nat} : ∀ {l l' : List Nat}, i ∈ unionN l l' → i ∈ l ∨ i ∈ l'
  | [], _, h => .inr h
  | x :: r, l', h => by
    have h' : i ∈ insN x (unionN r l') := h
    rcases insN_mem h' with e | h'
    · exact .inl (by simp [e])
    · rcases unionN_mem h' with h' | h'
      · exact .inl (by simp [h'])
      · exact .inr h'
theorem ancs_fold {acc : List (List Nat)} {i : Nat} : ∀ {es : List Edge}, i ∈ es.foldr (fun e l => insN e.on (unionN (acc.getD e.on []) l)) [] → ∃ e ∈ es, i = e.on ∨ i ∈ acc.getD e.on []
  | [], h => by cases h
  | e :: es, h => by
    rw [List.foldr_cons] at h
    rcases insN_mem h with h | h
    · exact ⟨e, by simp, .inl h⟩
    · rcases unionN_mem h with h | h
      · exact ⟨e, by simp, .inr h⟩
      · obtain ⟨e', h1, h2⟩ := ancs_fold h
        exact ⟨e', by simp [h1], h2⟩
theorem ancs_old : ∀ (l : List Oper) (acc : List (List Nat)) (j : Nat), j < acc.length → (ancs l acc).getD j [] = acc.getD j []
  | [], _, _, _ => rfl
  | o :: l, acc, j, h => by
    unfold ancs
    rw [ancs_old l _ j (by simp; omega)]
    simp [List.getD_eq_getElem?_getD, List.getElem?_append_left h]
theorem ancs_get : ∀ (l : List Oper) (acc : List (List Nat)) (n : Nat) (o : Oper), l[n]? = some o → ∀ i, i ∈ (ancs l acc).getD (acc.length + n) [] → ∃ e ∈ o.after.toList, Region.binds .any e = true ∧ (i = e.on ∨ (e.on < acc.length + n ∧ i ∈ (ancs l acc).getD e.on []))
  | [], _, _, _, h, _, _ => by simp at h
  | o :: l, acc, 0, o', h, i, hi => by
    cases h
    unfold ancs at hi ⊢
    rw [ancs_old l _ _ (by simp)] at hi
    have hi' : i ∈ (o.after.toList.filter (Region.binds .any)).foldr (fun e l => insN e.on (unionN (acc.getD e.on []) l)) [] := by simpa [List.getD_eq_getElem?_getD] using hi
    obtain ⟨e, h1, h2⟩ := ancs_fold hi'
    obtain ⟨h1, h3⟩ := List.mem_filter.1 h1
    refine ⟨e, h1, h3, ?_⟩
    rcases h2 with h2 | h2
    · exact .inl h2
    · have hlt : e.on < acc.length := by
        by_cases hlt : e.on < acc.length
        · exact hlt
        · simp [List.getD_eq_getElem?_getD, List.getElem?_eq_none (show acc.length ≤ e.on by omega)] at h2
      refine .inr ⟨hlt, ?_⟩
      rw [ancs_old l _ _ (by simp; omega)]
      simpa [List.getD_eq_getElem?_getD, List.getElem?_append_left hlt] using h2
  | o :: l, acc, n + 1, o', h, i, hi => by
    unfold ancs at hi ⊢
    have := ancs_get l (acc ++ [(o.after.toList.filter (Region.binds .any)).foldr (fun e l => insN e.on (unionN (acc.getD e.on []) l)) []]) n o' h i (by rw [List.length_append, List.length_singleton, Nat.add_assoc, Nat.add_comm 1 n]; exact hi)
    rw [List.length_append, List.length_singleton, Nat.add_assoc, Nat.add_comm 1 n] at this
    exact this
/-- What a ready operation waits for is done. -/
theorem waits_in {S : Nat → Bool} (hc : ∀ j o, ops[j]? = some o → S j = true → ∀ e ∈ o.after.toList, Region.binds .any e = true → S e.on = true) : ∀ (n j : Nat), j < n → ∀ o, ops[j]? = some o → (∀ e ∈ o.after.toList, Region.binds .any e = true → S e.on = true) → ∀ i, waitsN (ancs ops.toList []) j i = true → S i = true
  | 0, j, hn, _, _, _, _, _ => by omega
  | n + 1, j, hn, o, ho, hr, i, hw => by
    have hi : i ∈ (ancs ops.toList []).getD (([] : List (List Nat)).length + j) [] := by
      rw [List.length_nil, Nat.zero_add]; exact hasN_iff.1 hw
    obtain ⟨e, h1, h2, h3⟩ := ancs_get ops.toList [] j o (by simpa using ho) i hi
    rcases h3 with rfl | ⟨h3, h4⟩
    · exact hr e h1 h2
    · simp at h3
      have hlt : e.on < ops.size := by
        have := (Array.getElem?_eq_some_iff.1 ho).1
        omega
      exact waits_in hc n e.on (by omega) ops[e.on] (by simp [hlt]) (hc e.on ops[e.on] (by simp [hlt]) (hr e h1 h2)) i (hasN_iff.2 h4)
/-- The checks, one by one. -/
structure Apart (ops : Array Oper) (oi oj : Oper) (ri rj : Rec) : Prop where
  looks : ∀ d, oi.dst = some d → d ∉ oj.looksAt ops ∧ mentP d rj.val = false ∧ ∀ p ∈ rj.loc, mentLs d p.2 = false
  back : ∀ d, oj.dst = some d → d ∉ oi.looksAt ops
  keys : ∀ k ∈ ri.keysW, k ∉ rj.keysW ∧ k ∉ rj.keysR
  keysB : ∀ k ∈ rj.keysW, k ∉ ri.keysR
  toks : ∀ t ∈ ri.toks, t ∉ rj.toks
structure Chk (ops : Array Oper) (rs : List Rec) : Prop where
  self : ∀ (j : Nat) (o : Oper), ops[j]? = some o → ∀ d, o.dst = some d → d ∉ o.looksAt ops
  on : ∀ (j : Nat) (o : Oper), ops[j]? = some o → ∀ e ∈ o.after.toList, Region.binds .any e = true → e.on < j
  grd : ∀ (j : Nat) (o : Oper), ops[j]? = some o → ∀ i b, o.guard = some (i, b) → waitsN (ancs ops.toList []) j i = true
  dist : ∀ (i j : Nat) (oi oj : Oper), ops[i]? = some oi → ops[j]? = some oj → i ≠ j → ∀ d, oi.dst = some d → oj.dst ≠ some d
  apart : ∀ (i j : Nat) (oi oj : Oper) (ri rj : Rec), i < j → ops[i]? = some oi → ops[j]? = some oj → rs[i]? = some ri → rs[j]? = some rj → waitsN (ancs ops.toList []) j i = false → Apart ops oi oj ri rj
theorem hasN_not {l : List Nat} {x : Nat} (h : hasN l x = false) : x ∉ l := fun e => by rw [hasN_iff.2 e] at h; cases h
theorem hasT_not {l : List Tok} {x : Tok} (h : hasT l x = false) : x ∉ l := fun e => by rw [hasT_iff.2 e] at h; cases h
theorem okDraw_chk {rs : List Rec} (hl : rs.length = ops.size) (h : okDraw ops rs = true) : Chk ops rs := by
  simp only [okDraw, Bool.and_eq_true, List.all_eq_true, List.mem_range] at h
  have one : ∀ (j : Nat) (o : Oper), ops[j]? = some o → (match o.dst with | some d => !(hasN (o.looksAt ops) d) | none => true) = true ∧ (∀ e ∈ o.after.toList, (!Region.binds .any e || Nat.blt e.on j) = true) ∧ (match o.guard with | some (g, _) => waitsN (ancs ops.toList []) j g | none => true) = true := fun j o ho => by
    have := (h.2 j (Array.getElem?_eq_some_iff.1 ho).1).1
    unfold okOne at this
    simp only [ho, Bool.and_eq_true, List.all_eq_true] at this
    exact ⟨this.1.1, this.1.2, this.2⟩
  have two : ∀ (i j : Nat) (oi oj : Oper) (ri rj : Rec), i < j → ops[i]? = some oi → ops[j]? = some oj → rs[i]? = some ri → rs[j]? = some rj → (match oi.dst, oj.dst with | some d, some d' => !(Nat.beq d d') | _, _ => true) = true ∧ (waitsN (ancs ops.toList []) j i = true ∨ Apart ops oi oj ri rj) := fun i j oi oj ri rj hij hi hj hri hrj => by
    have := (h.2 j (Array.getElem?_eq_some_iff.1 hj).1).2 i hij
    unfold okTwo at this
    simp only [hi, hj, hri, hrj, Bool.and_eq_true, Bool.or_eq_true, List.all_eq_true, Bool.not_eq_true'] at this
    refine ⟨this.1, this.2.imp (fun h => h) fun h => ?_⟩
    obtain ⟨⟨⟨⟨h1, h2⟩, h3⟩, h4⟩, h5⟩ := h
    refine ⟨fun d hd => ?_, fun d hd => ?_, fun k hk => ⟨hasN_not (h3 k hk).1, hasN_not (h3 k hk).2⟩, fun k hk => hasN_not (h4 k hk), fun t ht => hasT_not (h5 t ht)⟩
    · rw [hd] at h1
      simp only [Bool.and_eq_true, Bool.not_eq_true', List.all_eq_true] at h1
      exact ⟨hasN_not h1.1.1, h1.1.2, h1.2⟩
    · rw [hd] at h2
      simp only [Bool.not_eq_true'] at h2
      exact hasN_not h2
  have rget : ∀ (j : Nat) (o : Oper), ops[j]? = some o → ∃ rc, rs[j]? = some rc := fun j o ho => ⟨rs[j]'(by rw [hl]; exact (Array.getElem?_eq_some_iff.1 ho).1), by simp⟩
  refine ⟨fun j o ho d hd => ?_, fun j o ho e he hb => ?_, fun j o ho i b hg => ?_, fun i j oi oj hi hj hij d hd hd' => ?_, fun i j oi oj ri rj hij hi hj hri hrj hw => ?_⟩
  · have := (one j o ho).1
    rw [hd] at this
    simp only [Bool.not_eq_true'] at this
    exact hasN_not this
  · have := (one j o ho).2.1 e he
    rw [hb] at this
    simpa [Nat.blt_eq] using this
  · have := (one j o ho).2.2
    rw [hg] at this
    exact this
  · obtain ⟨ri, hri⟩ := rget i oi hi
    obtain ⟨rj, hrj⟩ := rget j oj hj
    have key : ∀ (i j : Nat) (oi oj : Oper) (ri rj : Rec), i < j → ops[i]? = some oi → ops[j]? = some oj → rs[i]? = some ri → rs[j]? = some rj → oi.dst = some d → oj.dst = some d → False := fun i j oi oj ri rj hij hi hj hri hrj hd hd' => by
      have := (two i j oi oj ri rj hij hi hj hri hrj).1
      rw [hd, hd'] at this
      simp at this
    rcases Nat.lt_or_gt_of_ne hij with hlt | hlt
    · exact key i j oi oj ri rj hlt hi hj hri hrj hd hd'
    · exact key j i oj oi rj ri hlt hj hi hrj hri hd' hd
  · rcases (two i j oi oj ri rj hij hi hj hri hrj).2 with h | h
    · rw [h] at hw; cases hw
    · exact h
def spOf (ops : Array Oper) (S : Nat → Bool) : List Nat := (List.range ops.size).filterMap fun i => match S i with | true => (ops[i]?).bind (·.dst) | false => none
theorem mem_spOf {S : Nat → Bool} {t : Nat} : hasN (spOf ops S) t = true ↔ ∃ i o, ops[i]? = some o ∧ S i = true ∧ o.dst = some t := by
  rw [hasN_iff]
  unfold spOf
  rw [List.mem_filterMap]
  constructor
  · rintro ⟨i, h1, h2⟩
    split at h2
    · rename_i hS
      cases ho : ops[i]? with
      | none => rw [ho] at h2; cases h2
      | some o => rw [ho] at h2; exact ⟨i, o, ho, hS, h2⟩
    · cases h2
  · rintro ⟨i, o, h1, h2, h3⟩
    refine ⟨i, List.mem_range.2 (Array.getElem?_eq_some_iff.1 h1).1, ?_⟩
    rw [h2, h1]
    exact h3
theorem gslot_some {o : Oper} {t : Nat} (h : gslot ops o = some t) : ∃ i b og, o.guard = some (i, b) ∧ ops[i]? = some og ∧ og.dst = some t := by
  unfold gslot at h
  split at h
  · cases h
  · rename_i i b hg
    cases ho : ops[i]? with
    | none => rw [ho] at h; cases h
    | some og => rw [ho] at h; exact ⟨i, b, og, hg, ho, h⟩
theorem fold_fr {S : Nat → Bool} {x : Nat} : ∀ (l : List Oper) (rs : List Rec) (k : Nat) (X : PSt), hasN (fold S l rs k X).fr x = true → hasN X.fr x = true
  | [], _, _, _, h => h
  | _ :: _, [], _, _, h => h
  | o :: l, rc :: rs, k, X, h => by
    unfold fold at h
    have := fold_fr l rs (k + 1) _ h
    cases hk : S k with
    | true => rw [hk] at this; exact (hasN_out.1 this).1
    | false => rw [hk] at this; exact this
theorem fold_out {S : Nat → Bool} {x : Nat} : ∀ (l : List Oper) (rs : List Rec) (k n : Nat) (o : Oper) (rc : Rec) (X : PSt), l[n]? = some o → rs[n]? = some rc → S (k + n) = true → o.dst = some x → hasN (fold S l rs k X).fr x = false
  | [], _, _, _, _, _, _, h, _, _, _ => by simp at h
  | _ :: _, [], _, _, _, _, _, _, h, _, _ => by simp at h
  | o :: l, rc :: rs, k, 0, o', rc', X, h1, h2, h3, h4 => by
    cases h1
    refine Bool.eq_false_iff.2 fun h => ?_
    unfold fold at h
    have h3 : S k = true := h3
    have := fold_fr l rs (k + 1) _ h
    rw [h3] at this
    exact (hasN_out.1 this).2 h4
  | o :: l, rc :: rs, k, n + 1, o', rc', X, h1, h2, h3, h4 => by
    unfold fold
    exact fold_out l rs (k + 1) n o' rc' _ h1 h2 (by rw [← h3]; congr 1; omega) h4
def mkSt (ops : Array Oper) (S : Nat → Bool) (rs : List Rec) (st0 : PSt) : PSt := ⟨(fold S ops.toList rs 0 st0).φ, (fold S ops.toList rs 0 st0).L, (fold S ops.toList rs 0 st0).O, [], spOf ops S, (fold S ops.toList rs 0 st0).fr⟩
theorem knows_filter {A : Nat → Bool} {kn : List (Nat × Bool)} {t : Nat} : knows (kn.filter fun p => A p.1) t = match A t with | true => knows kn t | false => none := by
  induction kn with
  | nil => cases A t <;> rfl
  | cons p r ih =>
    obtain ⟨j, b⟩ := p
    by_cases hj : j = t
    · subst hj
      cases hA : A j with
      | true => rw [List.filter_cons_of_pos (by simpa using hA)]; simp [knows]
      | false => rw [List.filter_cons_of_neg (by simp [hA]), ih, hA]
    · have hb : Nat.beq j t = false := Bool.eq_false_iff.2 fun e => hj (Nat.eq_of_beq_eq_true e)
      cases hA : A j with
      | true =>
        rw [List.filter_cons_of_pos (by simpa using hA)]
        simp only [knows, hb]
        exact ih
      | false =>
        rw [List.filter_cons_of_neg (by simp [hA]), ih]
        simp only [knows, hb]
open Classical in
theorem draw_step (hE : E.okF F) {rs : List Rec} {st0 s : PSt} (hrun : Run E ops ops.toList st0 rs s) (hc : Chk ops rs) (hst0 : ∀ i t want ag ls, st0.φ i ≠ .spec t want ag ls) (hkn0 : st0.kn = []) {S S' : Nat → Bool} {j : Nat} {oj : Oper} {a : Act} (hj : S j = false) (hS' : ∀ i, S' i = true ↔ S i = true ∨ i = j)
    (hcl : ∀ j o, ops[j]? = some o → S j = true → ∀ e ∈ o.after.toList, Region.binds .any e = true → S e.on = true) (hoj : ops[j]? = some oj) (hready : ∀ e ∈ oj.after.toList, Region.binds .any e = true → S e.on = true) (hd : ∀ x, oj.dst = some x → x < F.n)
    (h : AR F g (mkSt ops S rs st0) a w) {N : Act → World → Prop} {Q : Exit → Act → World → Prop} (hN : ∀ a' w' g', AR F g' (mkSt ops S' rs st0) a' w' → Fr1 oj.dst g a w g' a' w' → N a' w') : Way E ops oj a w N Q := by
  obtain ⟨rc, sj, sj', hrc, hstep, hlike, hknok⟩ := hrun.at 0 j oj (by simpa using hoj)
  simp only [Nat.zero_add] at hlike
  have hok := pvStep_ok hstep
  have hdone : ∀ i, waitsN (ancs ops.toList []) j i = true → S i = true := waits_in hcl (j + 1) j (by omega) oj hoj hready
  have hnot : ∀ i o, ops[i]? = some o → S i = true → waitsN (ancs ops.toList []) i j = false := fun i o ho hi => Bool.eq_false_iff.2 fun e => by
    have := waits_in hcl (i + 1) i (by omega) o ho (hcl i o ho hi) j e
    rw [hj] at this; cases this
  have hcmp : ∀ i oi ri, ops[i]? = some oi → rs[i]? = some ri → S i ≠ decide (i < j) → (i < j ∧ S i = false ∧ Apart ops oi oj ri rc) ∨ (j < i ∧ S i = true ∧ Apart ops oj oi rc ri) := fun i oi ri hoi hri hne => by
    rcases Nat.lt_trichotomy i j with hlt | heq | hgt
    · rw [decide_eq_true hlt] at hne
      have hSi : S i = false := by simpa using hne
      exact .inl ⟨hlt, hSi, hc.apart i j oi oj ri rc hlt hoi hoj hri hrc (Bool.eq_false_iff.2 fun e => hne (hdone i e))⟩
    · subst heq
      rw [hj] at hne; simp at hne
    · rw [decide_eq_false (by omega)] at hne
      have hSi : S i = true := by simpa using hne
      exact .inr ⟨hgt, hSi, hc.apart j i oj oi rc ri hgt hoj hoi hrc hri (hnot i oi hoi hSi)⟩
  have hφS : ∀ t, (∀ i oi, ops[i]? = some oi → oi.dst = some t → S i = decide (i < j)) → (fold S ops.toList rs 0 st0).φ t = sj.φ t := fun t ht => by
    rw [hlike.1]
    refine fold_agree (view_φ t) ops.toList rs 0 _ _ rfl fun i o ri h1 h2 => ?_
    rw [Nat.zero_add]
    by_cases e : o.dst = some t
    · exact .inl (ht i o (by simpa using h1) e)
    · exact .inr e
  have hLS : ∀ k, k ∈ rc.keysR ∨ k ∈ rc.keysW → (fold S ops.toList rs 0 st0).L k = sj.L k := fun k hk => by
    rw [hlike.2.1]
    refine fold_agree (view_L k) ops.toList rs 0 _ _ rfl fun i o ri h1 h2 => ?_
    rw [Nat.zero_add]
    by_cases e : S i = decide (i < j)
    · exact .inl e
    · refine .inr fun hkw => ?_
      rcases hcmp i o ri (by simpa using h1) h2 e with ⟨_, _, ha⟩ | ⟨_, _, ha⟩
      · have := ha.keys k hkw
        rcases hk with hk | hk
        · exact this.2 hk
        · exact this.1 hk
      · rcases hk with hk | hk
        · exact ha.keysB k hkw hk
        · exact (ha.keys k hk).1 hkw
  have hrec : ∀ (i : Nat) (o : Oper) (ri : Rec), ops[i]? = some o → rs[i]? = some ri → Tok.zero ∉ ri.born ∧ Tok.zero ∉ ri.gone := fun i o ri h1 h2 => by
    obtain ⟨ri', si, si', g1, g2, _, _⟩ := hrun.at 0 i o (by simpa using h1)
    rw [h2] at g1; cases g1
    have := pvStep_ok g2
    exact ⟨fun e => (by obtain ⟨x, j, e', _⟩ := this.born _ e; cases e'), fun e => this.gone _ e rfl⟩
  have hOS : ∀ t, t = .zero ∨ t ∈ rc.toks → (fold S ops.toList rs 0 st0).O t = sj.O t := fun t ht => by
    rw [hlike.2.2.1]
    refine fold_agree (view_O t) ops.toList rs 0 _ _ rfl fun i o ri h1 h2 => ?_
    rw [Nat.zero_add]
    by_cases e : S i = decide (i < j)
    · exact .inl e
    · refine .inr fun hbg => ?_
      rcases ht with rfl | ht
      · have := hrec i o ri (by simpa using h1) h2
        rcases hbg with hbg | hbg
        · exact this.1 hbg
        · exact this.2 hbg
      · have hm : t ∈ ri.toks := by
          unfold Rec.toks
          rcases hbg with hbg | hbg <;> simp [hbg]
        rcases hcmp i o ri (by simpa using h1) h2 e with ⟨_, _, ha⟩ | ⟨_, _, ha⟩
        · exact ha.toks t hm ht
        · exact ha.toks t ht hm
  have hfrS : ∀ x, (∀ i oi, ops[i]? = some oi → oi.dst = some x → S i = decide (i < j)) → hasN (fold S ops.toList rs 0 st0).fr x = hasN sj.fr x := fun x hx => by
    rw [hlike.2.2.2]
    refine fold_agree (view_fr x) ops.toList rs 0 _ _ rfl fun i o ri h1 h2 => ?_
    rw [Nat.zero_add]
    by_cases e : o.dst = some x
    · exact .inl (hx i o (by simpa using h1) e)
    · exact .inr e
  have hself : ∀ x, oj.dst = some x → ∀ i oi, ops[i]? = some oi → oi.dst = some x → S i = decide (i < j) := fun x hx i oi hoi hdi => by
    have e : i = j := by
      by_cases e : i = j
      · exact e
      · exact (hc.dist i j oi oj hoi hoj e x hdi hx).elim
    subst e
    rw [hj]; simp
  let A : Nat → Prop := fun t => (∀ i oi, ops[i]? = some oi → oi.dst = some t → S i = decide (i < j)) ∧ oj.dst ≠ some t
  have hAcl : ∀ t, A t → ∀ j' w ag ls, sj.φ t = .spec j' w ag ls → A j' := fun t ht j' want ag ls hs => by
    rw [hlike.1] at hs
    by_cases hex : ∃ i oi, ops[i]? = some oi ∧ oi.dst = some t ∧ i < j
    · obtain ⟨i, oi, hoi, hdi, hij⟩ := hex
      obtain ⟨ri, si, si', g1, g2, g3, _⟩ := hrun.at 0 i oi (by simpa using hoi)
      have hoki := pvStep_ok g2
      have e : (fold (fun i => decide (i < j)) ops.toList rs 0 st0).φ t = ri.val := by
        have := fold_add (view_φ t) (S := fun k => decide (k < j) && decide (k ≠ i)) (S' := fun k => decide (k < j)) (j := i) (oj := oi) (rj := ri) (by simp) (by simpa using hij) (fun k hk => by simp [hk]) ops.toList rs 0 i st0 (by omega) (by simpa using hoi) g1 (fun _ k ok rk hk h1 h2 h3 h4 => hc.dist i k oi ok hoi (by simpa using h1) (by omega) t hdi h4)
        rw [this]
        show putP _ oi.dst ri.val t = _
        rw [hdi, putP_at]
      rw [e] at hs
      obtain ⟨hgs, _⟩ := hoki.spec j' want ag ls hs
      obtain ⟨i0, b0, og, q1, q2, q3⟩ := gslot_some hgs
      have hSi : S i = true := by rw [ht.1 i oi hoi hdi]; simpa using hij
      have hw0 := hc.grd i oi hoi i0 b0 q1
      have hS0 : S i0 = true := waits_in hcl (i + 1) i (by omega) oi hoi (hcl i oi hoi hSi) i0 hw0
      have hi0 : i0 < i := by
        refine waits_in (S := fun k => decide (k < i)) (fun k ok hk1 hk2 e he1 he2 => ?_) (i + 1) i (by omega) oi hoi (fun e he1 he2 => ?_) i0 hw0 |> fun h => by simpa using h
        · have := hc.on k ok hk1 e he1 he2
          simp at hk2 ⊢; omega
        · have := hc.on i oi hoi e he1 he2
          simpa using this
      refine ⟨fun k ok hok hdk => ?_, fun e => ?_⟩
      · have : k = i0 := by
          by_cases e : k = i0
          · exact e
          · exact (hc.dist k i0 ok og hok q2 e j' hdk q3).elim
        subst this
        rw [hS0, decide_eq_true (by omega)]
      · exact hc.dist i0 j og oj q2 hoj (by omega) j' q3 e
    · exfalso
      have e : (fold (fun i => decide (i < j)) ops.toList rs 0 st0).φ t = st0.φ t := fold_keep (view_φ t) ops.toList rs 0 st0 fun i o ri h1 h2 h3 h4 => hex ⟨i, o, by simpa using h1, h4, by simpa using h3⟩
      rw [e] at hs
      exact hst0 t j' want ag ls hs
  have hlooks : ∀ t, t ∈ oj.looksAt ops → A t := fun t ht => by
    refine ⟨fun i oi hoi hdi => ?_, fun e => hc.self j oj hoj t e ht⟩
    by_cases e : S i = decide (i < j)
    · exact e
    · exfalso
      obtain ⟨ri, si, si', g1, g2, g3, _⟩ := hrun.at 0 i oi (by simpa using hoi)
      rcases hcmp i oi ri hoi g1 e with ⟨_, _, ha⟩ | ⟨_, _, ha⟩
      · exact (ha.looks t hdi).1 ht
      · exact ha.back t hdi ht
  have hmem : ∀ t, hasN (spOf ops S) t = true → oj.dst ≠ some t := fun t ht e => by
    obtain ⟨i, o, h1, h2, h3⟩ := mem_spOf.1 ht
    have := hself t e i o h1 h3
    rw [h2] at this
    have hij : i < j := by simpa using this.symm
    exact hc.dist i j o oj h1 hoj (by omega) t h3 e
  have hM : MRel F g ⟨(fold S ops.toList rs 0 st0).φ, (fold S ops.toList rs 0 st0).L, (fold S ops.toList rs 0 st0).O, sj.kn.filter (fun p => decide (A p.1)), spOf ops S, (fold S ops.toList rs 0 st0).fr⟩ (tm a) w := by
    refine h.rel.knMore (st := mkSt ops S rs st0) fun t b hk => ?_
    rw [knows_filter (A := fun t => decide (A t))] at hk
    split at hk
    · rename_i hA
      exact facts (A := A) (X := mkSt ops S rs st0) (φ := sj.φ) h.rel.slots (fun t ht => hφS t ht.1) hAcl (hknok (by rw [hkn0]; exact .nil)) t b (of_decide_eq_true hA) hk
    · cases hk
  have hF : Foot oj.dst rc sj ⟨(fold S ops.toList rs 0 st0).φ, (fold S ops.toList rs 0 st0).L, (fold S ops.toList rs 0 st0).O, sj.kn.filter (fun p => decide (A p.1)), spOf ops S, (fold S ops.toList rs 0 st0).fr⟩ := by
    refine ⟨hLS, fun t ht => hOS t (.inr ?_), hOS _ (.inl rfl), fun x hx => hfrS x (hself x hx), fun x hx => Bool.eq_false_iff.2 fun e => hmem x e hx, fun x hx => ?_⟩
    · unfold Rec.toks
      simp [ht]
    · obtain ⟨hx1, hx2⟩ := hasN_out.1 (hasN_iff.2 hx)
      by_cases hex : ∃ i oi, ops[i]? = some oi ∧ oi.dst = some x ∧ i < j ∧ S i = false
      · obtain ⟨i, oi, hoi, hdi, hij, hSi⟩ := hex
        obtain ⟨ri, si, si', g1, g2, g3, _⟩ := hrun.at 0 i oi (by simpa using hoi)
        rcases hcmp i oi ri hoi g1 (by rw [hSi, decide_eq_true hij]; simp) with ⟨_, _, ha⟩ | ⟨h1, _, ha⟩
        · exact (ha.looks x hdi).2
        · omega
      · refine hok.ment x (hasN_iff.1 (hasN_out.2 ⟨?_, hx2⟩))
        rw [← hfrS x fun i oi hoi hdi => ?_]
        · exact hx1
        · rcases Nat.lt_trichotomy i j with hlt | heq | hgt
          · rw [decide_eq_true hlt]
            cases hSi : S i with
            | true => rfl
            | false => exact (hex ⟨i, oi, hoi, hdi, hlt, hSi⟩).elim
          · subst heq
            rw [hj]; simp
          · rw [decide_eq_false (by omega)]
            cases hSi : S i with
            | false => rfl
            | true =>
              obtain ⟨ri, si, si', g1, g2, g3, _⟩ := hrun.at 0 i oi (by simpa using hoi)
              have := fold_out (S := S) ops.toList rs 0 i oi ri st0 (by simpa using hoi) g1 (by rw [Nat.zero_add]; exact hSi) hdi
              rw [show hasN (fold S ops.toList rs 0 st0).fr x = true from hx1] at this
              cases this
  obtain ⟨s', g1, g2, g3⟩ := pvStep_at (A := A) (X := ⟨(fold S ops.toList rs 0 st0).φ, (fold S ops.toList rs 0 st0).L, (fold S ops.toList rs 0 st0).O, sj.kn.filter (fun p => decide (A p.1)), spOf ops S, (fold S ops.toList rs 0 st0).fr⟩) ⟨fun t ht => hφS t ht.1, fun t ht => by rw [knows_filter (A := fun t => decide (A t)), decide_eq_true ht], hAcl⟩ hlooks (fun x hx => ⟨by rw [knows_filter (A := fun t => decide (A t)), decide_eq_false fun h => h.2 hx], fun h => h.2 hx⟩) hF hstep
  refine pvStep_sound (Q := Q) hE ⟨h.size, h.defers, hM⟩ hd g1 fun a' w' g' rc' st' hC hAR hl => ?_
  injection hC with hC
  obtain ⟨e1, e2⟩ := Prod.mk.inj hC
  have e1 := e1.symm
  have e2 := e2.symm
  subst e1; subst e2
  refine hN a' w' g' ⟨hAR.size, hAR.defers, ?_⟩ hl
  have hj' : S' j = true := (hS' j).2 (.inr rfl)
  have hSS : ∀ i, i ≠ j → S' i = S i := fun i hi => by
    rw [Bool.eq_iff_iff, hS']
    exact ⟨fun h => h.resolve_right hi, .inl⟩
  have hadd : ∀ {β : Type} {f : PSt → β} {T : Option Nat → Rec → Prop}, View f T → (T oj.dst rc → ∀ i o ri, j < i → ops[i]? = some o → rs[i]? = some ri → S i = true → ¬ T o.dst ri) → f (fold S' ops.toList rs 0 st0) = f (appR oj.dst rc (fold S ops.toList rs 0 st0)) := fun hf hT =>
    fold_add hf hj hj' hSS ops.toList rs 0 j st0 (by omega) (by simpa using hoj) hrc fun ht i o ri h1 h2 h3 h4 => hT ht i o ri h1 (by simpa using h2) h3 (by rw [Nat.zero_add] at h4; exact h4)
  have hap : ∀ i o ri, j < i → ops[i]? = some o → rs[i]? = some ri → S i = true → Apart ops oj o rc ri := fun i o ri h1 h2 h3 h4 => hc.apart j i oj o rc ri h1 hoj h2 hrc h3 (hnot i o h2 h4)
  have f1 : ∀ t, (fold S' ops.toList rs 0 st0).φ t = putP (fold S ops.toList rs 0 st0).φ oj.dst rc.val t := fun t => hadd (view_φ t) fun ht i o ri h1 h2 h3 h4 h5 => hc.dist j i oj o hoj h2 (by omega) t ht h5
  have f2 : ∀ k, (fold S' ops.toList rs 0 st0).L k = putL (fold S ops.toList rs 0 st0).L rc.loc k := fun k => hadd (view_L k) fun ht i o ri h1 h2 h3 h4 h5 => ((hap i o ri h1 h2 h3 h4).keys k ht).1 h5
  have f3 : ∀ t, (fold S' ops.toList rs 0 st0).O t = putO (fold S ops.toList rs 0 st0).O rc.born rc.gone t := fun t => hadd (view_O t) fun ht i o ri h1 h2 h3 h4 h5 => (hap i o ri h1 h2 h3 h4).toks t (by unfold Rec.toks; rcases ht with ht | ht <;> simp [ht]) (by unfold Rec.toks; rcases h5 with h5 | h5 <;> simp [h5])
  have f4 : ∀ x, hasN (fold S' ops.toList rs 0 st0).fr x = hasN (outN oj.dst (fold S ops.toList rs 0 st0).fr) x := fun x => hadd (view_fr x) fun ht i o ri h1 h2 h3 h4 h5 => hc.dist j i oj o hoj h2 (by omega) x ht h5
  refine hAR.rel.relike (g2.1.trans (funext fun t => (f1 t).symm)) (g2.2.1.trans (funext fun t => (f2 t).symm)) (g2.2.2.1.trans (funext fun t => (f3 t).symm)) (fun x hx => ?_) (fun i t want ag ls hs => ?_) fun t b hk => by cases hk
  · rw [g2.2.2.2 x]
    have hx' : hasN (fold S' ops.toList rs 0 st0).fr x = true := hx
    rw [f4 x] at hx'
    exact hx'
  · have hs' : (fold S' ops.toList rs 0 st0).φ i = .spec t want ag ls := hs
    rw [f1 i] at hs'
    have hst : s'.φ i = .spec t want ag ls := by rw [g2.1]; exact hs'
    have hsp := hAR.rel.sp i t want ag ls hst
    show hasN (spOf ops S') t = true
    rcases g3 t hsp with h1 | h1
    · obtain ⟨i, o, q1, q2, q3⟩ := mem_spOf.1 (show hasN (spOf ops S) t = true from h1)
      exact mem_spOf.2 ⟨i, o, q1, (hS' i).2 (.inl q2), q3⟩
    · obtain ⟨i0, b0, og, q1, q2, q3⟩ := gslot_some h1
      exact mem_spOf.2 ⟨i0, og, q2, (hS' i0).2 (.inl (hdone i0 (hc.grd j oj hoj i0 b0 q1))), q3⟩
end
section
variable {E : Env} {F : Fr} {R : Type} {r : R}
section
variable {ops : Array Oper} {listed : Array Bool}
theorem getD_tf (i : Nat) (hi : i < listed.size) : listed.getD i true = listed.getD i false := by
  rw [Array.getD_eq_getD_getElem?, Array.getD_eq_getD_getElem?]
  simp [hi]
theorem ready_mem {i : Nat} : i ∈ Region.ready .any ops listed ↔ i < ops.size ∧ listed.getD i true = false ∧ ∃ o, ops[i]? = some o ∧ ∀ e ∈ o.after.toList, Region.binds .any e = true → listed.getD e.on false = true := by
  unfold Region.ready
  rw [List.mem_filter, List.mem_range]
  refine and_congr_right fun hi => ?_
  rw [Bool.and_eq_true, Bool.not_eq_true']
  refine and_congr_right fun _ => ?_
  have ho : ops[i]? = some ops[i] := by simp [hi]
  rw [ho]
  rw [Option.map_some, Option.getD_some, ← Array.all_toList, List.all_eq_true]
  constructor
  · intro h
    refine ⟨_, rfl, fun e he hb => ?_⟩
    have := h e he
    rw [hb] at this
    simpa using this
  · rintro ⟨o, h1, h2⟩ e he
    injection h1 with h1
    subst h1
    cases hb : Region.binds .any e with
    | false => rfl
    | true => simpa using h2 e he hb
theorem ready_nil {rs : List Rec} (hc : Chk ops rs) (hs : listed.size = ops.size) (h : Region.ready .any ops listed = []) : ∀ (n j : Nat), j < n → j < ops.size → listed.getD j false = true
  | 0, _, hn, _ => by omega
  | n + 1, j, hn, hj => by
    cases hl : listed.getD j false with
    | true => rfl
    | false =>
      exfalso
      have ho : ops[j]? = some ops[j] := by simp [hj]
      have : j ∈ Region.ready .any ops listed := ready_mem.2 ⟨hj, by rw [getD_tf j (by omega)]; exact hl, _, ho, fun e he hb => by
        have hlt := hc.on j _ ho e he hb
        exact ready_nil hc hs h n e.on (by omega) (by omega)⟩
      rw [h] at this
      cases this
theorem setB_get {i k : Nat} (hi : i < listed.size) : (listed.setIfInBounds i true).getD k false = true ↔ listed.getD k false = true ∨ k = i := by
  rw [Array.getD_eq_getD_getElem?, Array.getD_eq_getD_getElem?, Array.getElem?_setIfInBounds]
  by_cases e : i = k
  · subst e
    simp [hi]
  · rw [if_neg e]
    exact ⟨.inl, fun h => h.resolve_right fun e' => e e'.symm⟩
end
theorem draw_walk (hE : E.okF F) {ops : Array Oper} {M : Nat → Prop} {g0 : Gh} {a0 : Act} {w0 : World} {Q : Exit → Act → World → Prop} (hd : ∀ o ∈ ops.toList, ∀ x, o.dst = some x → x < F.n ∧ M x) {rs : List Rec} {st0 s : PSt} (hrun : Run E ops ops.toList st0 rs s) (hc : Chk ops rs) (hst0 : ∀ i t want ag ls, st0.φ i ≠ .spec t want ag ls) (hkn0 : st0.kn = [])
    (hQ : ∀ S a' w' g', (∀ i, i < ops.size → S i = true) → AR F g' (mkSt ops S rs st0) a' w' → Lft M (fun _ => False) g0 a0 w0 g' a' w' → Q .normal a' w') : ∀ (fuel : Nat) (U : List Nat) (listed : Array Bool) (g : Gh) (a : Act) (w : World), U.length ≤ fuel → listed.size = ops.size → (∀ i, i < ops.size → listed.getD i false = false → i ∈ U) →
    (∀ j o, ops[j]? = some o → listed.getD j false = true → ∀ e ∈ o.after.toList, Region.binds .any e = true → listed.getD e.on false = true) → AR F g (mkSt ops (fun i => listed.getD i false) rs st0) a w → Lft M (fun _ => False) g0 a0 w0 g a w → wpAny E.P .any ops Q fuel listed a w
  | 0, U, listed, g, a, w, hU, hs, hm, hcl, h, hl => by
    have hall : ∀ i, i < ops.size → listed.getD i false = true := fun i hi => by
      cases e : listed.getD i false with
      | true => rfl
      | false =>
        have := hm i hi e
        have hU : U = [] := List.eq_nil_of_length_eq_zero (by omega)
        rw [hU] at this
        cases this
    refine wpAny_done ?_ (hQ _ a w g hall h hl) 0
    refine List.eq_nil_iff_forall_not_mem.2 fun i hi => ?_
    obtain ⟨h1, h2, _⟩ := ready_mem.1 hi
    rw [getD_tf i (by omega), hall i h1] at h2
    cases h2
  | fuel + 1, U, listed, g, a, w, hU, hs, hm, hcl, h, hl => by
    refine ⟨fun hr => hQ _ a w g (fun i hi => ready_nil hc hs hr (i + 1) i (by omega) hi) h hl, fun i hi => ?_⟩
    obtain ⟨h1, h2, o, ho, h3⟩ := ready_mem.1 hi
    have hS : listed.getD i false = false := by rw [← getD_tf i (by omega)]; exact h2
    have hmem : o ∈ ops.toList := List.mem_of_getElem? (i := i) (by simpa using ho)
    have hw : Way E ops o a w (wpAny E.P .any ops Q fuel (listed.setIfInBounds i true)) Q :=
      draw_step hE hrun hc hst0 hkn0 (S := fun i => listed.getD i false) (S' := fun k => (listed.setIfInBounds i true).getD k false) (j := i) hS (fun k => setB_get (by omega)) hcl ho h3 (fun x hx => (hd o hmem x hx).1) h fun a' w' g' h' hl' => by
        refine draw_walk hE hd hrun hc hst0 hkn0 hQ fuel (U.erase i) (listed.setIfInBounds i true) g' a' w' ?_ (by simpa using hs) (fun k hk hk' => ?_) (fun k ok hk hk' e he hb => ?_) h' (hl.trans (hl'.mono (fun x hx => (hd o hmem x hx).2) fun _ h => h))
        · have := List.length_erase_of_mem (hm i h1 hS)
          omega
        · have hne : k ≠ i := fun e => by
            have := (setB_get (listed := listed) (i := i) (k := k) (by omega)).2 (.inr e)
            rw [this] at hk'
            cases hk'
          refine (List.mem_erase_of_ne hne).2 (hm k hk (Bool.eq_false_iff.2 fun e => ?_))
          have := (setB_get (listed := listed) (i := i) (k := k) (by omega)).2 (.inl e)
          rw [this] at hk'
          cases hk'
        · refine (setB_get (by omega)).2 (.inl ?_)
          rcases (setB_get (by omega)).1 hk' with h4 | h4
          · exact hcl k ok hk h4 e he hb
          · subst h4
            rw [ho] at hk
            cases hk
            exact h3 e he hb
    unfold wpOp
    rw [ho]
    show if Region.wanted o (yielded ops a.tmps) then _ else _
    unfold Way at hw
    split
    · rename_i hy
      rw [if_pos hy] at hw
      exact .inl hw
    · rename_i hy
      rw [if_neg hy] at hw
      exact hw
theorem draw_sound (hE : E.okF F) {id : Nat} {ops : Array Oper} {M : Nat → Prop} {g : Gh} {st : PSt} {a : Act} {w : World} {K : PSt → Option R} {Q : Exit → Act → World → Prop} (hd : ∀ o ∈ ops.toList, ∀ x, o.dst = some x → x < F.n ∧ M x)
    (h : AR F g (sanSt (madeBy ops.toList) st) a w) (hv : pvOps E ops ops.toList [] (sanSt (madeBy ops.toList) st) (fun tr s => match E.P.follows .mixedOrders && okDraw ops tr with | true => K s | false => none) = some r)
    (hQ : ∀ a' w' g' st', K st' = some r → AR F g' st' a' w' → Lft M (fun _ => False) g a w g' a' w' → Q .normal a' w') : (Code.region id ops true).wp E.P Q a w := by
  obtain ⟨rs, s, hC, hrun⟩ := pvOps_run _ _ _ _ hv
  rw [List.nil_append] at hC
  split at hC
  · rename_i hb
    rw [Bool.and_eq_true] at hb
    have hc := okDraw_chk (by rw [hrun.len]; simp) hb.2
    have hst0 : ∀ i t want ag ls, (sanSt (madeBy ops.toList) st).φ i ≠ .spec t want ag ls := fun i t want ag ls e => by
      have e : sanP (madeBy ops.toList) (st.φ i) = .spec t want ag ls := e
      unfold sanP at e
      split at e
      · cases e
      · cases e
      · split at e <;> cases e
      · split at e <;> cases e
      · split at e <;> cases e
      · cases e
      · cases e
      · cases e
      · cases e
    refine wp_region_any hb.1 (draw_walk hE (g0 := g) (a0 := a) (w0 := w) hd hrun hc hst0 rfl (fun S a' w' g' hall hAR hl => ?_) ops.size (List.range ops.size) (Array.replicate ops.size false) g a _ (by simp) (by simp) (fun i hi _ => List.mem_range.2 hi) (fun j o ho hj => ?_) ?_ ?_)
    · obtain ⟨g1, g2, g3⟩ := hrun.last 0
      have hlk : Like s (fold S ops.toList rs 0 (sanSt (madeBy ops.toList) st)) := g1.trans (fold_like (like_refl _) fun i hi => by rw [Nat.zero_add, hall i (by simpa using hi)])
      refine hQ a' w' g' s hC ⟨hAR.size, hAR.defers, ?_⟩ hl
      refine hAR.rel.relike (X := s) hlk.1.symm hlk.2.1.symm hlk.2.2.1.symm (fun x hx => ?_) (g3 fun i t want ag ls hs => (hst0 i t want ag ls hs).elim) fun t b hk => ?_
      · show hasN (fold S ops.toList rs 0 (sanSt (madeBy ops.toList) st)).fr x = true
        rw [← hlk.2.2.2 x]; exact hx
      · exact facts (A := fun _ => True) (X := mkSt ops S rs (sanSt (madeBy ops.toList) st)) (φ := s.φ) hAR.rel.slots (fun t _ => by rw [hlk.1]; rfl) (fun _ _ _ _ _ _ _ => trivial) (g2 .nil) t b trivial hk
    · exfalso
      rw [Array.getD_eq_getD_getElem?] at hj
      by_cases hlt : j < ops.size <;> simp [hlt] at hj
    · have e : fold (fun i => (Array.replicate ops.size false).getD i false) ops.toList rs 0 (sanSt (madeBy ops.toList) st) = sanSt (madeBy ops.toList) st := fold_none _ _ _ _ fun i _ => by
        rw [Array.getD_eq_getD_getElem?]
        by_cases hlt : i < ops.size <;> simp [hlt]
      refine ⟨h.size, h.defers, h.rel.drew.relike (by unfold mkSt; rw [e]) (by unfold mkSt; rw [e]) (by unfold mkSt; rw [e]) (fun x hx => ?_) (fun i t want ag ls hs => ?_) fun t b hk => by cases hk⟩
      · unfold mkSt at hx
        rw [e] at hx
        exact hx
      · unfold mkSt at hs
        rw [e] at hs
        exact (hst0 i t want ag ls hs).elim
    · exact ⟨fun _ _ => rfl, fun _ _ => rfl, fun a u hc hC => ⟨hc, hC⟩, fun _ _ _ _ => rfl⟩
  · cases hC
end
end Pv
end Go.Proofs.Ytgcgdfjldeihkaa
