/- Pure evaluation of the model's code: what an update does to the relation. -/
import Derived.Test.YtgcgdfjldeihkaaPr
namespace Go.Proofs.Ytgcgdfjldeihkaa
namespace Pv
set_option linter.unusedVariables false

def tm (a : Act) (i : Nat) : Value := a.tmps.getD i undef
theorem put_size (a : Act) (d : Option Nat) (u : Value) : (a.put d u).tmps.size = a.tmps.size := by cases d <;> simp [Act.put]
theorem put_defers (a : Act) (d : Option Nat) (u : Value) : (a.put d u).defers = a.defers := by cases d <;> rfl
theorem tm_put (a : Act) (d : Option Nat) (u : Value) (i : Nat) (hd : ∀ x, d = some x → x < a.tmps.size) : tm (a.put d u) i = if d = some i then u else tm a i := by
  cases d with
  | none => simp [Act.put, tm]
  | some x =>
    have hx := hd x rfl
    simp only [Act.put, tm, Option.some.injEq]
    by_cases e : x = i
    · subst e; simp [hx]
    · rw [if_neg e]; simp [e]
theorem beq_iff (i j : Nat) : Nat.beq i j = true ↔ i = j := by simp
theorem bEq_iff {a b : Bool} : bEq a b = true ↔ a = b := by cases a <;> cases b <;> simp [bEq]
theorem hasN_iff {l : List Nat} {n : Nat} : hasN l n = true ↔ n ∈ l := by
  unfold hasN
  rw [List.any_eq_true]
  constructor
  · rintro ⟨x, hx, h⟩
    have : n = x := Nat.eq_of_beq_eq_true h
    rw [this]; exact hx
  · exact fun h => ⟨n, h, by simp⟩
theorem tokEq_iff {a b : Tok} : tokEq a b = true ↔ a = b := by
  cases a <;> cases b <;> simp [tokEq]
theorem hasT_iff {l : List Tok} {t : Tok} : hasT l t = true ↔ t ∈ l := by
  unfold hasT
  rw [List.any_eq_true]
  constructor
  · rintro ⟨x, hx, h⟩
    rw [tokEq_iff] at h
    rw [h]; exact hx
  · exact fun h => ⟨t, h, tokEq_iff.2 rfl⟩
theorem putO_true {O : Tok → Bool} {born gone : List Tok} {k : Tok} : putO O born gone k = true ↔ k ∈ born ∨ (k ∉ gone ∧ O k = true) := by
  unfold putO
  cases hb : hasT born k with
  | true => simp [hasT_iff.1 hb]
  | false =>
    have hb' : k ∉ born := fun h => by rw [hasT_iff.2 h] at hb; cases hb
    cases hg : hasT gone k with
    | true => simp [hb', hasT_iff.1 hg]
    | false =>
      have hg' : k ∉ gone := fun h => by rw [hasT_iff.2 h] at hg; cases hg
      simp [hb', hg']
theorem putL_out {L : Nat → Option (Nat × List Leaf)} {k : Nat} : ∀ {us : List (Nat × List Leaf)}, k ∉ us.map (·.1) → putL L us k = L k
  | [], _ => rfl
  | (j, ls) :: us, h => by
    simp only [List.map_cons, List.mem_cons, not_or] at h
    show (match Nat.beq k j with | true => some (0, ls) | false => putL L us k) = _
    rw [show Nat.beq k j = false from Bool.eq_false_iff.2 fun e => h.1 (Nat.eq_of_beq_eq_true e)]
    exact putL_out h.2
theorem putL_in {L : Nat → Option (Nat × List Leaf)} {k : Nat} : ∀ {us : List (Nat × List Leaf)}, k ∈ us.map (·.1) → ∃ ls, (k, ls) ∈ us ∧ putL L us k = some (0, ls)
  | (j, ls) :: us, h => by
    show ∃ ls', _ ∧ (match Nat.beq k j with | true => some (0, ls) | false => putL L us k) = some (0, ls')
    cases e : Nat.beq k j with
    | true =>
      have := Nat.eq_of_beq_eq_true e
      subst this
      exact ⟨ls, by simp, rfl⟩
    | false =>
      have hne : k ≠ j := fun e' => by rw [e'] at e; simp at e
      simp only [List.map_cons, List.mem_cons] at h
      obtain ⟨ls', h1, h2⟩ := putL_in (L := L) (h.resolve_left hne)
      exact ⟨ls', List.mem_cons_of_mem _ h1, h2⟩
theorem putP_at {φ : Nat → PV} {d : Nat} {p : PV} : putP φ (some d) p d = p := by unfold putP; simp
theorem putP_ne {φ : Nat → PV} {d : Option Nat} {p : PV} {i : Nat} (h : d ≠ some i) : putP φ d p i = φ i := by
  unfold putP
  cases d with
  | none => rfl
  | some d =>
    have : Nat.beq i d = false := Bool.eq_false_iff.2 fun e => h (by rw [Nat.eq_of_beq_eq_true e])
    simp only [this]
theorem outN_mem {d : Option Nat} {l : List Nat} {x : Nat} : x ∈ outN d l ↔ x ∈ l ∧ d ≠ some x := by
  cases d with
  | none => simp [outN]
  | some d =>
    simp only [outN, List.mem_filter, Bool.not_eq_true', ne_eq, Option.some.injEq]
    constructor
    · rintro ⟨h1, h2⟩
      exact ⟨h1, fun e => by rw [e] at h2; simp at h2⟩
    · rintro ⟨h1, h2⟩
      exact ⟨h1, Bool.eq_false_iff.2 fun e => h2 (Nat.eq_of_beq_eq_true e).symm⟩

/-- What must hold of an operation's result for the update to be right. -/
structure OutR (F : Fr) (g : Gh) (st : PSt) (w : World) (u : Upd) (v : Value) (g' : Gh) (w' : World) : Prop where
  fr : Frame F g'.C w'
  gw : Gw w g.C w' g'.C
  live : ∀ k, k ∉ u.born → Lives g w st.O g' w' (putO st.O u.born u.gone) k
  ρ : ∀ k x, st.L k = some x → g'.ρ k = g.ρ k
  ρn : ∀ k, g'.ρ k = g.ρ k ∨ (st.L k = none ∧ ∃ ls, (k, ls) ∈ u.loc)
  H : g'.H = g.H
  val : ∀ tmf, RelP F g' w' (putO st.O u.born u.gone) tmf v u.val
  nospec : ∀ t want ag ls, u.val ≠ .spec t want ag ls
  locs : ∀ k ls, (k, ls) ∈ u.loc → LocOk F g' w' (putO st.O u.born u.gone) ls (g'.ρ k)
  rest : ∀ k x, st.L k = some x → k ∉ u.loc.map (·.1) → Kp g w g' w' (g.ρ k).1
  blk0 : g'.blk .zero = none
  born : ∀ k b, k ∈ u.born → g'.blk k = some b → (w.heap.size ≤ b ∨ ∃ k0, k0 ∈ u.gone ∧ st.O k0 = true ∧ g.blk k0 = some b) ∧ b < w'.heap.size
  bornI : ∀ k k' b, k ∈ u.born → k' ∈ u.born → g'.blk k = some b → g'.blk k' = some b → k = k'
  new : ∀ k ls, (k, ls) ∈ u.loc → st.L k = none → w.heap.size ≤ (g'.ρ k).1 ∧ (∀ t b, t ∈ u.born → g'.blk t = some b → b ≠ (g'.ρ k).1) ∧ ∀ k' ls', (k', ls') ∈ u.loc → st.L k' = none → (g'.ρ k').1 = (g'.ρ k).1 → k' = k
section
variable {F : Fr} {g g' : Gh} {st : PSt} {a : Act} {w w' : World} {u : Upd} {v : Value} {d : Option Nat}
theorem mentL_own {d j : Nat} {E : TypeId} {e : Ty} {l : List e.D} : mentL d (.own (.op d j) E e l) = true := by simp [mentL]
theorem mentLs_mem {d j : Nat} {E : TypeId} {e : Ty} {l : List e.D} : ∀ {ls : List Leaf}, Leaf.own (.op d j) E e l ∈ ls → mentLs d ls = true
  | x :: ls, h => by
    unfold mentLs
    rcases List.mem_cons.1 h with rfl | h
    · rw [mentL_own]; rfl
    · rw [mentLs_mem h, Bool.or_true]
theorem mentP_tok {d j : Nat} {p : PV} (h : tokIn (.op d j) p) : mentP d p = true := by
  cases p with
  | w ag ls => obtain ⟨E, e, x, hx⟩ := h; exact mentLs_mem hx
  | tup xs =>
    obtain ⟨E, e, x, y, hy, hx⟩ := h
    exact List.any_eq_true.2 ⟨y, hy, mentLs_mem hx⟩
  | spec _ _ _ ls => obtain ⟨E, e, x, hx⟩ := h; exact mentLs_mem hx
  | loc _ _ => exact h.elim
  | locE _ _ _ _ _ => exact h.elim
  | row _ _ _ => exact h.elim
  | elem _ => exact h.elim
  | raw _ => exact h.elim
  | dead => exact h.elim
theorem mentP_key {d : Nat} {p : PV} (h : d ∈ keyP p) : mentP d p = true := by
  cases p <;> simp [keyP] at h <;> simp [mentP, h]
theorem LocOk.gw {O' : Tok → Bool} {ls : List Leaf} {p : Nat × Nat} (h : LocOk F g w st.O ls p) (G : Gw w g.C w' g'.C) (hk : ∀ k E e x, Leaf.own k E e x ∈ ls → Lives g w st.O g' w' O' k) (hb : Kp g w g' w' p.1) : LocOk F g' w' O' ls p := by
  obtain ⟨cur, T, h1, h2, h3, h4, h5⟩ := h
  exact ⟨cur, T, hb.1.trans h1, h2, h3.gw G hk, fun o ho ho' => ⟨fun hc => (h4 o ho ho').1 ((hb.2 o).1 hc), (h4 o ho ho').2⟩, h5⟩
theorem OutR.put (h : MRel F g st (tm a) w) (ha : a.tmps.size = F.n) (hd : ∀ x, d = some x → x < F.n) (hU : OutR F g st w u v g' w') (hok : okUpd st d u = true) (hfree : freeD st d = true) :
    MRel F g' (applyU u d st) (tm (a.put d v)) w' := by
  have hput : ∀ i, tm (a.put d v) i = if d = some i then v else tm a i := fun i => tm_put a d v i fun x hx => by rw [ha]; exact hd x hx
  simp only [okUpd, Bool.and_eq_true, List.all_eq_true] at hok
  obtain ⟨⟨⟨⟨ok1, ok2⟩, ok3⟩, ok4⟩, ok5⟩ := hok
  have bornF : ∀ k, k ∈ u.born → ∃ x j, d = some x ∧ k = .op x j ∧ hasN st.fr x = true := fun k hk => by
    have := ok2 k hk
    cases k with
    | op d' j =>
      cases d with
      | none => cases this
      | some x =>
        simp only [Bool.and_eq_true] at this
        have e := Nat.eq_of_beq_eq_true this.1
        subst e
        exact ⟨d', j, rfl, rfl, this.2⟩
    | zero => cases this
    | hd _ _ => cases this
  have slotTok : ∀ i k, tokIn k (st.φ i) → k ∉ u.born := fun i k hk hb => by
    obtain ⟨x, j, _, rfl, hx⟩ := bornF k hb
    have := (h.fresh x hx).1 i
    rw [mentP_tok hk] at this
    cases this
  have locTok : ∀ i σ ls k E e x, st.L i = some (σ, ls) → Leaf.own k E e x ∈ ls → k ∉ u.born := fun i σ ls k E e x hL hk hb => by
    obtain ⟨y, j, _, rfl, hy⟩ := bornF k hb
    have := (h.fresh y hy).2.1 i σ ls hL
    rw [mentLs_mem hk] at this
    cases this
  have hdne : ∀ t, (∃ i want ag ls, st.φ i = .spec t want ag ls) ∨ (∃ b, knows st.kn t = some b) → d ≠ some t := fun t ht e => by
    subst e
    simp only [freeD, Bool.and_eq_true, Bool.not_eq_true'] at hfree
    rcases ht with ⟨i, want, ag, ls, hs⟩ | ⟨b, hb⟩
    · rw [h.sp i t want ag ls hs] at hfree; cases hfree.1
    · rw [hb] at hfree; cases hfree.2
  have Lcase : ∀ k x, putL st.L u.loc k = some x → (∃ ls, (k, ls) ∈ u.loc ∧ x = (0, ls)) ∨ (k ∉ u.loc.map (·.1) ∧ st.L k = some x) := fun k x hx => by
    by_cases hm : k ∈ u.loc.map (·.1)
    · obtain ⟨ls, h1, h2⟩ := putL_in (L := st.L) hm
      rw [h2] at hx
      exact .inl ⟨ls, h1, (Option.some.inj hx).symm⟩
    · rw [putL_out hm] at hx
      exact .inr ⟨hm, hx⟩
  have Lsome : ∀ k, (st.L k).isSome = true → (putL st.L u.loc k).isSome = true := fun k hk => by
    by_cases hm : k ∈ u.loc.map (·.1)
    · obtain ⟨ls, _, h2⟩ := putL_in (L := st.L) hm
      rw [h2]; rfl
    · rw [putL_out hm]; exact hk
  have goneLive : ∀ k, k ∉ u.born → putO st.O u.born u.gone k = true → st.O k = true ∧ k ∉ u.gone ∧ g'.blk k = g.blk k := fun k hk ho => by
    rcases putO_true.1 ho with hb | ⟨hg, _⟩
    · exact (hk hb).elim
    · obtain ⟨h1, h2, _⟩ := hU.live k hk ho
      exact ⟨h1, hg, h2⟩
  refine ⟨hU.fr, fun i => ?_, fun k σ ls hL => ?_, fun k σ ls hL hσ => ?_, fun t b hb => ?_, fun i t want ag ls hs => ?_, fun x hx => ?_, fun i k hk => ?_, hU.blk0, fun k k' b hk hk' hb hb' => ?_, fun k b j x hk hb hL => ?_, fun k b hk hb => ?_, fun k b hk hb => ?_, fun j j' x x' hj hj' he => ?_⟩
  · show RelP F g' w' (putO st.O u.born u.gone) _ _ (putP st.φ d u.val i)
    rw [hput]
    by_cases hi : d = some i
    · rw [if_pos hi, hi, putP_at]
      exact hU.val _
    · rw [if_neg hi, putP_ne hi]
      refine (h.slots i).gw hU.gw (fun k hk => hU.live k (slotTok i k hk)) (fun k hk => ?_) fun t want ag ls hs => ?_
      · obtain ⟨x, hx⟩ := Option.isSome_iff_exists.1 (h.locL i k hk)
        exact hU.ρ k x hx
      · rw [hput, if_neg (hdne t (.inl ⟨i, want, ag, ls, hs⟩))]
  · rcases Lcase k _ hL with ⟨ls', hm, he⟩ | ⟨hm, hL'⟩
    · cases he
      exact hU.locs k ls hm
    · rw [hU.ρ k _ hL']
      exact (h.locals k σ ls hL').gw hU.gw (fun k' E e x hk => hU.live k' (locTok k σ ls k' E e x hL' hk)) (hU.rest k _ hL' hm)
  · rcases Lcase k _ hL with ⟨ls', hm, he⟩ | ⟨hm, hL'⟩
    · cases he; exact (hσ rfl).elim
    · rw [hU.H]; exact h.hist k σ ls hL' hσ
  · rw [hput, if_neg (hdne t (.inr ⟨b, hb⟩))]
    exact h.kn t b hb
  · have hs' : putP st.φ d u.val i = .spec t want ag ls := hs
    by_cases hi : d = some i
    · rw [hi, putP_at] at hs'
      exact (hU.nospec t want ag ls hs').elim
    · rw [putP_ne hi] at hs'
      exact h.sp i t want ag ls hs'
  · have hx' : x ∈ outN d st.fr := hasN_iff.1 hx
    obtain ⟨hx1, hx2⟩ := outN_mem.1 hx'
    obtain ⟨f1, f2, f3, f4⟩ := h.fresh x (hasN_iff.2 hx1)
    have hk := ok1 x hx'
    simp only [Bool.not_eq_true'] at hk
    refine ⟨fun i => ?_, fun k σ ls hL => ?_, fun j => ?_, ?_⟩
    · show mentP x (putP st.φ d u.val i) = false
      by_cases hi : d = some i
      · rw [hi, putP_at]; exact hk.1
      · rw [putP_ne hi]; exact f1 i
    · rcases Lcase k _ hL with ⟨ls', hm, he⟩ | ⟨hm, hL'⟩
      · cases he
        exact hk.2 (k, ls) hm
      · exact f2 k σ ls hL'
    · cases ho : putO st.O u.born u.gone (.op x j) with
      | false => exact ho
      | true =>
        rcases putO_true.1 ho with hb | ⟨_, ho'⟩
        · obtain ⟨y, j', hy, e, _⟩ := bornF _ hb
          cases e
          exact (hx2 hy).elim
        · rw [f3 j] at ho'; cases ho'
    · show putL st.L u.loc x = none
      rw [putL_out]
      · exact f4
      · intro hm
        obtain ⟨p, hp, e⟩ := List.mem_map.1 hm
        have := ok5 p hp
        rw [e, f4] at this
        cases d with
        | none => cases this
        | some y =>
          simp only [Bool.and_eq_true] at this
          exact hx2 (by rw [Nat.eq_of_beq_eq_true this.1])
  · show (putL st.L u.loc k).isSome = true
    have hk' : k ∈ keyP (putP st.φ d u.val i) := hk
    by_cases hi : d = some i
    · rw [hi, putP_at] at hk'
      have := ok4 k hk'
      cases hL : putL st.L u.loc k with
      | none => rw [hL] at this; cases this
      | some x => rfl
    · rw [putP_ne hi] at hk'
      exact Lsome k (h.locL i k hk')
  · by_cases m : k ∈ u.born <;> by_cases m' : k' ∈ u.born
    · exact hU.bornI k k' b m m' hb hb'
    · obtain ⟨o1, o2, o3⟩ := goneLive k' m' hk'
      rw [o3] at hb'
      rcases (hU.born k b m hb).1 with hge | ⟨k0, hk0, ho0, hb0⟩
      · have := h.blkS k' b o1 hb'; omega
      · have := h.blkI k0 k' b ho0 o1 hb0 hb'
        subst this
        exact (o2 hk0).elim
    · obtain ⟨o1, o2, o3⟩ := goneLive k m hk
      rw [o3] at hb
      rcases (hU.born k' b m' hb').1 with hge | ⟨k0, hk0, ho0, hb0⟩
      · have := h.blkS k b o1 hb; omega
      · have := h.blkI k0 k b ho0 o1 hb0 hb
        subst this
        exact (o2 hk0).elim
    · obtain ⟨o1, _, o3⟩ := goneLive k m hk
      obtain ⟨o1', _, o3'⟩ := goneLive k' m' hk'
      rw [o3] at hb; rw [o3'] at hb'
      exact h.blkI k k' b o1 o1' hb hb'
  · rcases Lcase j _ hL with ⟨ls', hm, he⟩ | ⟨hm, hL'⟩
    · cases hLj : st.L j with
      | none =>
        obtain ⟨n1, n2, _⟩ := hU.new j ls' hm hLj
        by_cases m : k ∈ u.born
        · exact fun e => n2 k b m hb e.symm
        · obtain ⟨o1, _, o3⟩ := goneLive k m hk
          rw [o3] at hb
          have := h.blkS k b o1 hb
          omega
      | some y =>
        rw [hU.ρ j y hLj]
        by_cases m : k ∈ u.born
        · rcases (hU.born k b m hb).1 with hge | ⟨k0, hk0, ho0, hb0⟩
          · obtain ⟨cur, T, hc, _⟩ := h.locals j y.1 y.2 hLj
            have : (g.ρ j).1 < w.heap.size := by
              rcases Nat.lt_or_ge (g.ρ j).1 w.heap.size with hlt | hge'
              · exact hlt
              · rw [Array.getElem?_eq_none hge'] at hc; cases hc
            omega
          · exact h.blkL k0 b j y ho0 hb0 hLj
        · obtain ⟨o1, _, o3⟩ := goneLive k m hk
          rw [o3] at hb
          exact h.blkL k b j y o1 hb hLj
    · rw [hU.ρ j x hL']
      by_cases m : k ∈ u.born
      · rcases (hU.born k b m hb).1 with hge | ⟨k0, hk0, ho0, hb0⟩
        · obtain ⟨cur, T, hc, _⟩ := h.locals j x.1 x.2 hL'
          have : (g.ρ j).1 < w.heap.size := by
            rcases Nat.lt_or_ge (g.ρ j).1 w.heap.size with hlt | hge'
            · exact hlt
            · rw [Array.getElem?_eq_none hge'] at hc; cases hc
          omega
        · exact h.blkL k0 b j x ho0 hb0 hL'
      · obtain ⟨o1, _, o3⟩ := goneLive k m hk
        rw [o3] at hb
        exact h.blkL k b j x o1 hb hL'
  · by_cases m : k ∈ u.born
    · exact (hU.born k b m hb).2
    · obtain ⟨o1, _, o3⟩ := goneLive k m hk
      obtain ⟨_, _, hkp⟩ := hU.live k m hk
      rw [o3] at hb
      have hlt := h.blkS k b o1 hb
      have := (hkp b hb).1
      rcases Nat.lt_or_ge b w'.heap.size with hlt' | hge'
      · exact hlt'
      · rw [Array.getElem?_eq_none hge'] at this
        simp [hlt] at this
  · by_cases m : k ∈ u.born
    · rcases (hU.born k b m hb).1 with hge | ⟨k0, hk0, ho0, hb0⟩
      · exact .inl (Nat.le_trans h.fr.size hge)
      · exact h.blkW k0 b ho0 hb0
    · obtain ⟨o1, _, o3⟩ := goneLive k m hk
      rw [o3] at hb
      exact h.blkW k b o1 hb
  · have old : ∀ j x, st.L j = some x → (g.ρ j).1 < w.heap.size := fun j x hj => by
      obtain ⟨cur, T, hc, _⟩ := h.locals j x.1 x.2 hj
      rcases Nat.lt_or_ge (g.ρ j).1 w.heap.size with hlt | hge'
      · exact hlt
      · rw [Array.getElem?_eq_none hge'] at hc; cases hc
    have cls : ∀ j x, putL st.L u.loc j = some x → (∃ y, st.L j = some y) ∨ (st.L j = none ∧ ∃ ls, (j, ls) ∈ u.loc) := fun j x hj => by
      cases hLj : st.L j with
      | some y => exact .inl ⟨y, rfl⟩
      | none =>
        rcases Lcase j x hj with ⟨ls, hm, _⟩ | ⟨_, hL'⟩
        · exact .inr ⟨rfl, ls, hm⟩
        · rw [hLj] at hL'; cases hL'
    rcases cls j x hj with ⟨y, hy⟩ | ⟨hn, ls, hm⟩ <;> rcases cls j' x' hj' with ⟨y', hy'⟩ | ⟨hn', ls', hm'⟩
    · rw [hU.ρ j y hy, hU.ρ j' y' hy'] at he
      exact h.ρI j j' y y' hy hy' he
    · rw [hU.ρ j y hy] at he
      have := old j y hy
      have := (hU.new j' ls' hm' hn').1
      omega
    · rw [hU.ρ j' y' hy'] at he
      have := old j' y' hy'
      have := (hU.new j ls hm hn).1
      omega
    · exact (hU.new j' ls' hm' hn').2.2 j ls hm hn he
theorem Lives.refl (k : Tok) : Lives g w st.O g w st.O k := fun h => ⟨h, rfl, fun b _ => ⟨rfl, fun _ => Iff.rfl⟩⟩
/-- A value alone. -/
theorem OutR.same (h : MRel F g st (tm a) w) {p : PV} (hv : ∀ tmf, RelP F g w st.O tmf v p) (hs : ∀ t want ag ls, p ≠ .spec t want ag ls) : OutR F g st w (Upd.v p) v g w where
  fr := h.fr
  gw := Gw.refl _ _
  live := fun k _ => Lives.refl k
  ρ := fun _ _ _ => rfl
  ρn := fun _ => .inl rfl
  H := rfl
  val := hv
  nospec := hs
  locs := fun k ls hm => by cases hm
  rest := fun _ _ _ _ => ⟨rfl, fun _ => Iff.rfl⟩
  blk0 := h.blk0
  born := fun k b hm => by cases hm
  bornI := fun k k' b hm => by cases hm
  new := fun k ls hm => by cases hm
end
end Pv
end Go.Proofs.Ytgcgdfjldeihkaa
