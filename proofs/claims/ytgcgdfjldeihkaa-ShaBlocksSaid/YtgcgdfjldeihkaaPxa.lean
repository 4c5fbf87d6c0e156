/- Pure evaluation of the model's code: a call's result taken as a row, rows lent to a call, bits.Add64. -/
import Derived.Test.YtgcgdfjldeihkaaPj
import Derived.Laws.Externs
namespace Go.Proofs.Ytgcgdfjldeihkaa
namespace Pv
set_option linter.unusedVariables false
section
variable {P : Program} {E : Env} {F : Fr} {g g' : Gh} {st : PSt} {a : Act} {w w' : World} {o : Oper} {R : Type} {C : Upd → Option R} {r : R} {v : Value}
theorem flat_rep {w w' : World} {C C' : Com} : ∀ {t : Ty} {x : t.D} {cs : List Value}, flatT t = true → RepD w C t x cs → RepD w' C' t x cs
  | .int _, _, _, _, h => h
  | .bool, _, _, _, h => h
  | .str, _, _, _, h => h
  | .flo _, _, _, _, h => h
  | .err, _, _, _, h => h
  | .un, _, _, _, h => h
  | .sl e, _, _, hf, _ => by cases hf
  | .arr n e, l, cs, hf, h => ⟨h.1, h.2.1, fun i x hx => flat_rep (t := e) hf (h.2.2 i x hx)⟩
  | .pr a b, x, cs, hf, h => by
    have hf : (flatT a && flatT b) = true := hf
    rw [Bool.and_eq_true] at hf
    obtain ⟨c1, c2, h1, h2, h3⟩ := h
    exact ⟨c1, c2, h1, flat_rep hf.1 h2, flat_rep hf.2 h3⟩
/-! ### rows lent -/
def lendR (g : Gh) (st : PSt) (K : List Nat) : Com := fun b o => ∃ k σ ls, hasN K k = true ∧ st.L k = some (σ, ls) ∧ b = (g.ρ k).1 ∧ (g.ρ k).2 ≤ o ∧ o < (g.ρ k).2 + sizeLs ls
def lendG (g : Gh) (st : PSt) (K : List Nat) : Gh := ⟨fun b o => g.C b o ∨ lendR g st K b o, g.blk, g.ρ, g.H⟩
def lendB (g : Gh) (st : PSt) (K : List Nat) (g' : Gh) : Gh := ⟨fun b o => g'.C b o ∧ ¬ lendR g st K b o, g'.blk, g'.ρ, g'.H⟩
theorem lend_fact (h : MRel F g st (tm a) w) {K : List Nat} {b o : Nat} (hR : lendR g st K b o) : ¬ g.C b o ∧ Wr F b o ∧ b < w.heap.size := by
  obtain ⟨k, σ, ls, _, hL, rfl, h1, h2⟩ := hR
  obtain ⟨cur, T, hc, _, _, hw, _⟩ := h.locals k σ ls hL
  exact ⟨(hw o h1 h2).1, (hw o h1 h2).2, lt_of_cells hc⟩
theorem lend_tok (h : MRel F g st (tm a) w) {K : List Nat} {b o : Nat} {k : Tok} (hO : st.O k = true) (hb : g.blk k = some b) : ¬ lendR g st K b o := fun ⟨j, σ, ls, _, hL, e, _⟩ => h.blkL k b j _ hO hb hL e.symm
theorem lend_loc (h : MRel F g st (tm a) w) {K : List Nat} {j o : Nat} {x : Nat × List Leaf} (hL : st.L j = some x) (hj : hasN K j = false) : ¬ lendR g st K (g.ρ j).1 o := fun ⟨k, σ, ls, hk, hL', e, _⟩ => by
  rw [h.ρI j k _ _ hL hL' e, hk] at hj
  cases hj
theorem lend_kp (h : MRel F g st (tm a) w) {K : List Nat} {b : Nat} (hb : ∀ o, ¬ lendR g st K b o) : Kp g w (lendG g st K) w b := ⟨rfl, fun o => ⟨fun hc => hc.elim id fun hR => (hb o hR).elim, .inl⟩⟩
theorem lend_rel (K ts : List Nat) (h : MRel F g st (tm a) w) (hok : ∀ i, hasN ts i = true → rowOk st.L (st.φ i) = true) : MRel F (lendG g st K) (lendSt K ts st) (tm a) w := by
  have G : Gw w g.C w (lendG g st K).C := fun ad u hc hC => ⟨hc, .inl hC⟩
  have hLv : ∀ k, Lives g w st.O (lendG g st K) w st.O k := fun k hO => ⟨hO, rfl, fun b hb => lend_kp h fun o => lend_tok h hO hb⟩
  have hLs : ∀ k x, (lendSt K ts st).L k = some x → (hasN K k = false ∧ st.L k = some x) ∨ (x = (0, []) ∧ ∃ y, st.L k = some y) := fun k x hL => by
    have hL : (match hasN K k with | true => (match st.L k with | some _ => some (0, []) | none => none) | false => st.L k) = some x := hL
    split at hL
    · split at hL
      · injection hL with hL
        exact .inr ⟨hL.symm, _, by assumption⟩
      · cases hL
    · exact .inl ⟨by assumption, hL⟩
  have hLy : ∀ k x, (lendSt K ts st).L k = some x → ∃ y, st.L k = some y := fun k x hL => (hLs k x hL).elim (fun h1 => ⟨_, h1.2⟩) fun h1 => h1.2
  refine {
    fr := {
      size := h.fr.size
      os := h.fr.os
      tape := h.fr.tape
      output := h.fr.output
      old := h.fr.old
      shape := h.fr.shape
      com := fun b o hlt hx => ⟨fun hc => hc.elim (h.fr.com b o hlt hx).1 fun hR => ?_, fun hc => .inl ((h.fr.com b o hlt hx).2 hc)⟩
      mono := fun b o hc => .inl (h.fr.mono b o hc)
      lim := fun b o hc => hc.elim (h.fr.lim b o) fun hR => (lend_fact h hR).2.2 }
    slots := fun i => ?_
    locals := fun k σ ls hL => ?_
    hist := fun k σ ls hL hσ => (hLs k _ hL).elim (fun h1 => h.hist k σ ls h1.2 hσ) fun h1 => absurd (congrArg Prod.fst h1.1) hσ
    kn := h.kn
    sp := fun i t want ag ls hi => h.sp i t want ag ls ?_
    fresh := fun d hd => ?_
    locL := fun i k hk => ?_
    blk0 := h.blk0
    blkI := h.blkI
    blkL := fun k b j x hO hb hL => (hLy j _ hL).elim fun y hy => h.blkL k b j y hO hb hy
    blkS := h.blkS
    blkW := h.blkW
    ρI := fun j j' x x' hL hL' => (hLy j _ hL).elim fun y hy => (hLy j' _ hL').elim fun y' hy' => h.ρI j j' y y' hy hy' }
  · rcases (lend_fact h hR).2.1 with h1 | h1
    · omega
    · exact (hx h1).elim
  · have hs := h.slots i
    show RelP F (lendG g st K) w st.O (tm a) (tm a i) (lendPV (hasN ts i) K st.L (st.φ i))
    have gen : RelP F (lendG g st K) w st.O (tm a) (tm a i) (st.φ i) := hs.gw G (fun k _ => hLv k) (fun _ _ => rfl) fun _ _ _ _ _ => rfl
    rcases lendPV_cases (hasN ts i) K st.L (st.φ i) with e | ⟨e, _⟩ | ⟨k, n, tt, σ, m, q, l, hp, hk, hL, hn, e⟩
    · rw [e]; trivial
    · rw [e]; exact gen
    rw [e]
    rw [hp] at hs
    have hn := hok i hn
    rw [hp] at hn
    have hn : n ≤ l.length := by simpa [rowOk, hL] using hn
    obtain ⟨cap, hv, hcap, hmax, _⟩ := hs
    obtain ⟨cur, T, hc, hsz, hrep, hw, _⟩ := h.locals k σ _ hL
    obtain ⟨r1, r2, r3⟩ := repLs_single.1 hrep
    have hsl : sizeLs [Leaf.d (.arr m (.int q)) l] = m := by
      show m * 1 + 0 = _
      omega
    rw [hsl] at hsz hw
    refine ⟨[.slice (some ⟨(g.ρ k).1, (g.ρ k).2, none⟩) n cap], repLs_single.2 ⟨_, n, cap, rfl, ?_, hcap, hmax, fun j x hx => ?_⟩, by rw [hv]⟩
    · show (List.take (α := Int) n l).length = n
      rw [List.length_take]; omega
    · have hx : (List.take (α := Int) n l)[j]? = some x := hx
      rw [List.getElem?_take] at hx
      split at hx
      case isFalse => cases hx
      rename_i hjn
      have r4 : (((cur.toList.drop (g.ρ k).2).take (sizeLs [Leaf.d (.arr m (.int q)) l])).drop (j * 1)).take 1 = [Value.int q x] ∧ (Lit.int q x).wf = true := r3 j x hx
      have hjm : j < m := by
        have r1 : List.length (α := Int) l = m := r1
        omega
      have r5 : cur.toList[(g.ρ k).2 + j]? = some (.int q x) := by
        have h2 := congrArg (fun z => z[0]?) r4.1
        simp only [List.getElem?_take, List.getElem?_drop, hsl] at h2
        rw [if_pos (by omega), Nat.mul_one, Nat.add_zero, if_pos hjm] at h2
        exact h2
      refine ⟨_, [.int q x], rfl, rfl, fun j' u' hu' => ?_, rfl, r4.2⟩
      have hj0 : j' = 0 := by
        have := (List.getElem?_eq_some_iff.1 hu').1
        simpa using this
      subst hj0
      have hu' : some (Value.int q x) = some u' := hu'
      injection hu' with hu'
      subst hu'
      refine ⟨?_, .inr ⟨k, σ, _, hk, hL, rfl, ?_, ?_⟩⟩
      · show w.cell? (Addr.add ⟨(g.ρ k).1, (g.ρ k).2, none⟩ (j * 1 + 0)) = _
        have : Addr.add ⟨(g.ρ k).1, (g.ρ k).2, none⟩ (j * 1 + 0) = ⟨(g.ρ k).1, (g.ρ k).2 + j, none⟩ := by
          unfold Addr.add
          split <;> simp_all
        rw [this, cell_at hc]
        simpa using r5
      · show (g.ρ k).2 ≤ (g.ρ k).2 + (j * 1 + 0)
        omega
      · show (g.ρ k).2 + (j * 1 + 0) < (g.ρ k).2 + sizeLs [Leaf.d (.arr m (.int q)) l]
        rw [hsl]
        omega
  · rcases hLs k _ hL with ⟨h1, h2⟩ | ⟨h1, y, h2⟩
    · exact (h.locals k σ ls h2).gw (O' := st.O) G (fun k' E e x _ => hLv k') (lend_kp h fun o => lend_loc h h2 h1)
    · have e : ls = [] := congrArg Prod.snd h1
      subst e
      obtain ⟨cur, T, q1, q2, _⟩ := h.locals k y.1 y.2 h2
      refine ⟨cur, T, q1, ?_, ?_, fun o h3 h4 => ?_, fun o h4 => ?_⟩
      · show (g.ρ k).2 + 0 ≤ cur.size
        omega
      · show ((cur.toList.drop (g.ρ k).2).take 0) = []
        rfl
      · have h4 : o < (g.ρ k).2 + 0 := h4
        have h3 : (g.ρ k).2 ≤ o := h3
        omega
      · obtain ⟨cur2, T2, q3, _, _, _, q4⟩ := h.locals k y.1 y.2 h2
        rw [q1] at q3
        injection q3 with q3
        have h4 : o < (g.ρ k).2 + 0 := h4
        have eT : T.2 = T2.2 := by
          injection q3
        show Thaw T.2 o
        rw [eT]
        exact q4 o (by omega)
  · have hi : lendPV (hasN ts i) K st.L (st.φ i) = _ := hi
    rcases lendPV_cases (hasN ts i) K st.L (st.φ i) with e | ⟨e, _⟩ | ⟨k, n, tt, σ, m, q, l, hp, hk, hL, hn, e⟩
    · rw [e] at hi; cases hi
    · rw [e] at hi; exact hi
    · rw [e] at hi; cases hi
  · obtain ⟨f1, f2, f3, f4⟩ := h.fresh d hd
    refine ⟨fun i => ?_, fun k σ ls hL => (hLs k _ hL).elim (fun h1 => f2 k σ ls h1.2) fun h1 => (by rw [show ls = [] from congrArg Prod.snd h1.1]; rfl), f3, ?_⟩
    · have := f1 i
      show mentP d (lendPV (hasN ts i) K st.L (st.φ i)) = false
      rcases lendPV_cases (hasN ts i) K st.L (st.φ i) with e | ⟨e, _⟩ | ⟨k, n, tt, σ, m, q, l, hp, hk, hL, hn, e⟩
      · rw [e]; rfl
      · rw [e]; exact this
      · rw [e]; rfl
    · show (match hasN K d with | true => (match st.L d with | some _ => some (0, []) | none => none) | false => st.L d) = none
      rw [f4]
      split <;> rfl
  · have hk : k ∈ keyP (lendPV (hasN ts i) K st.L (st.φ i)) := hk
    obtain ⟨k1, k2⟩ : k ∈ keyP (st.φ i) ∧ hasN K k = false := by
      rcases lendPV_cases (hasN ts i) K st.L (st.φ i) with e | ⟨e, e2⟩ | ⟨k', n, tt, σ, m, q, l, hp, hk', hL, hn, e⟩
      · rw [e] at hk; cases hk
      · rw [e] at hk; exact ⟨hk, e2 k hk⟩
      · rw [e] at hk; cases hk
    show (match hasN K k with | true => (match st.L k with | some _ => some (0, []) | none => none) | false => st.L k).isSome = true
    rw [k2]
    exact h.locL i k k1
theorem knB_cases (kn : List (Nat × Bool)) (x : Operand) (p : PV) : knB kn x p = p ∨ ∃ b, knB kn x p = pbool b ∧ ∃ b', p = pbool b' := by
  unfold knB
  split
  · split
    · split
      · exact .inr ⟨_, rfl, _, rfl⟩
      · exact .inl rfl
    · exact .inl rfl
  · exact .inl rfl
theorem knB_fix {kn : List (Nat × Bool)} {x : Operand} {p : PV} (h : ∀ b, p ≠ pbool b) : knB kn x p = p := by
  rcases knB_cases kn x p with e | ⟨b, _, b', e⟩
  · exact e
  · exact (h b' e).elim
theorem lend_ev {kn : List (Nat × Bool)} {φ : Nat → PV} {K ts : List Nat} {L : Nat → Option (Nat × List Leaf)} (x : Operand) : evK kn (fun i => lendPV (hasN ts i) K L (φ i)) x = lendX K ts L x (evK kn φ x) := by
  have knw : ∀ b ag ls, lendPV b K L (knB kn x (.w ag ls)) = knB kn x (.w ag ls) := fun b0 ag ls => by
    rcases knB_cases kn x (.w ag ls) with e | ⟨b, e, _⟩
    · rw [e]; rfl
    · rw [e]; rfl
  cases x with
  | tmp t =>
    show (match lendPV (hasN ts t) K L (φ t) with | .spec j want ag ls => (match knows kn j with | some b => (match bEq b want with | true => knB kn (.tmp t) (.w ag ls) | false => .raw undef) | none => .dead) | p => knB kn (.tmp t) p) = lendPV (hasN ts t) K L (match φ t with | .spec j want ag ls => (match knows kn j with | some b => (match bEq b want with | true => knB kn (.tmp t) (.w ag ls) | false => .raw undef) | none => .dead) | p => knB kn (.tmp t) p)
    cases hp : φ t with
    | spec j want ag ls =>
      show (match knows kn j with | some b => (match bEq b want with | true => knB kn (.tmp t) (.w ag ls) | false => .raw undef) | none => .dead) = lendPV (hasN ts t) K L (match knows kn j with | some b => (match bEq b want with | true => knB kn (.tmp t) (.w ag ls) | false => .raw undef) | none => .dead)
      split
      · split
        · exact (knw _ ag ls).symm
        · rfl
      · rfl
    | w ag ls => exact (knw _ ag ls).symm
    | row k n tt =>
      show _ = lendPV (hasN ts t) K L (knB kn (.tmp t) (.row k n tt))
      rw [knB_fix (fun b e => by cases e)]
      rcases lendPV_cases (hasN ts t) K L (.row k n tt) with e | ⟨e, _⟩ | ⟨k', n', _, σ, m, q, l, _, _, _, _, e⟩
      · rw [e]; rfl
      · rw [e]; rfl
      · rw [e]; rfl
    | loc k f =>
      show _ = lendPV (hasN ts t) K L (knB kn (.tmp t) (.loc k f))
      rw [knB_fix (fun b e => by cases e)]
      rcases lendPV_cases (hasN ts t) K L (.loc k f) with e | ⟨e, _⟩ | ⟨k', n', _, σ, m, q, l, h, _⟩
      · rw [e]; rfl
      · rw [e]; rfl
      · cases h
    | locE k f e j s =>
      show _ = lendPV (hasN ts t) K L (knB kn (.tmp t) (.locE k f e j s))
      rw [knB_fix (fun b e => by cases e)]
      rcases lendPV_cases (hasN ts t) K L (.locE k f e j s) with e | ⟨e, _⟩ | ⟨k', n', _, σ, m, q, l, h, _⟩
      · rw [e]; rfl
      · rw [e]; rfl
      · cases h
    | tup _ => rfl
    | elem _ => rfl
    | raw _ => rfl
    | dead => rfl
  | const v => rfl
  | global _ => rfl
  | func _ => rfl
theorem flat_leaf {F : Fr} {g1 g2 : Gh} {w : World} {O' : Tok → Bool} {born : List Tok} {l : Leaf} {cs : List Value} (hf : flatL born l = true) (hlive : ∀ k ∈ born, O' k = true) (hb : g2.blk = g1.blk) (hC : ∀ k ∈ born, ∀ b, g1.blk k = some b → ∀ o, g1.C b o ↔ g2.C b o) (h : RepL F g1 w O' l cs) : RepL F g2 w O' l cs := by
  cases l with
  | d t x => exact flat_rep hf h
  | own k E0 e l =>
    have hf : (flatT e && hasT born k) = true := hf
    rw [Bool.and_eq_true] at hf
    have hk := hasT_iff.1 hf.2
    obtain ⟨hrd, hown⟩ := h
    obtain ⟨v, rfl, hO⟩ := hown (hlive k hk)
    have hO' : OwnR F g2 w k E0 e l v := by
      rcases hO with ⟨a0, h1, h2, h3⟩ | ⟨b, cap, cur, h1, h2, h3, h4, h5, h6, h7, h8, h9⟩
      · exact .inl ⟨a0, h1, h2, by rw [hb]; exact h3⟩
      · exact .inr ⟨b, cap, cur, h1, by rw [hb]; exact h2, h3, h4, h5, h6, fun i x hx => flat_rep hf.1 (h7 i x hx), fun o => ((hC k hk b h2 o).symm).trans (h8 o), h9⟩
    refine ⟨?_, fun _ => ⟨v, rfl, hO'⟩⟩
    obtain ⟨a1, n, c, e1, e2, e3, e4, e5⟩ := hrd
    refine ⟨a1, n, c, e1, e2, e3, e4, fun i x hx => ?_⟩
    obtain ⟨ad, us, f1, f2, f3, f4⟩ := e5 i x hx
    refine ⟨ad, us, f1, f2, fun j u hu => ⟨(f3 j u hu).1, ?_⟩, flat_rep hf.1 f4⟩
    rcases hO with ⟨a0, h1, h2, h3⟩ | ⟨b, cap, cur, h1, h2, _⟩
    · rw [h2] at hx; cases hx
    · have e : Value.slice (some ⟨b, 0, none⟩) (List.length l) cap = .slice a1 n c := by
        have e1 : [v] = [Value.slice a1 n c] := e1
        injection e1 with e1
        rw [← h1, e1]
      injection e with e _ _
      rw [f1] at e
      injection e with e
      subst e
      exact (hC k hk b h2 _).1 (f3 j u hu).2
theorem flat_leaves {F : Fr} {g1 g2 : Gh} {w : World} {O' : Tok → Bool} {born : List Tok} (hlive : ∀ k ∈ born, O' k = true) (hb : g2.blk = g1.blk) (hC : ∀ k ∈ born, ∀ b, g1.blk k = some b → ∀ o, g1.C b o ↔ g2.C b o) : ∀ {ls : List Leaf} {cs : List Value}, ls.all (flatL born) = true → RepLs F g1 w O' ls cs → RepLs F g2 w O' ls cs
  | [], _, _, h => h
  | l :: ls, cs, hf, h => by
    rw [List.all_cons, Bool.and_eq_true] at hf
    obtain ⟨c1, c2, rfl, h1, h2⟩ := h
    exact ⟨c1, c2, rfl, flat_leaf hf.1 hlive hb hC h1, flat_leaves hlive hb hC hf.2 h2⟩
theorem flat_tup {F : Fr} {g1 g2 : Gh} {w : World} {O' : Tok → Bool} {born : List Tok} (hlive : ∀ k ∈ born, O' k = true) (hb : g2.blk = g1.blk) (hC : ∀ k ∈ born, ∀ b, g1.blk k = some b → ∀ o, g1.C b o ↔ g2.C b o) : ∀ {us : List Value} {xs : List (Bool × List Leaf)}, xs.all (fun x => x.2.all (flatL born)) = true → RelT F g1 w O' us xs → RelT F g2 w O' us xs
  | [], [], _, _ => trivial
  | u :: us, x :: xs, hf, h => by
    rw [List.all_cons, Bool.and_eq_true] at hf
    obtain ⟨⟨cs, h1, h2⟩, h3⟩ := h
    exact ⟨⟨cs, flat_leaves hlive hb hC hf.1 h1, h2⟩, flat_tup hlive hb hC hf.2 h3⟩
  | [], _ :: _, _, h => h.elim
  | _ :: _, [], _, h => h.elim
theorem lend_back (K ts : List Nat) (h : MRel F g st (tm a) w) {u : Upd} (hU : OutR F (lendG g st K) (lendSt K ts st) w u v g' w') (hC : lendC C u = some r) :
    C u = some r ∧ OutR F g st w u v (lendB g st K g') w' := by
  obtain ⟨hc, hloc, hflat⟩ : C u = some r ∧ u.loc = [] ∧ (match u.val with | .w _ ls => ls.all (flatL u.born) | .tup xs => xs.all (fun x => x.2.all (flatL u.born)) | _ => false) = true := by
    unfold lendC at hC
    split at hC
    · split at hC
      · exact ⟨hC, by assumption, by simp [*]⟩
      · cases hC
    · split at hC
      · exact ⟨hC, by assumption, by simp [*]⟩
      · cases hC
    · cases hC
  refine ⟨hc, ?_⟩
  have hnb : ∀ k ∈ u.born, ∀ b, g'.blk k = some b → ∀ o, ¬ lendR g st K b o := fun k hk b hb o hR => by
    rcases (hU.born k b hk hb).1 with h1 | ⟨k0, _, h2, h3⟩
    · have := (lend_fact h hR).2.2
      omega
    · exact lend_tok h h2 h3 hR
  have hKp : ∀ b, Kp (lendG g st K) w g' w' b → Kp g w (lendB g st K g') w' b := fun b hk => ⟨hk.1, fun o => ⟨fun hx => ((hk.2 o).1 hx.1).elim id fun hR => (hx.2 hR).elim, fun hx => ⟨(hk.2 o).2 (.inl hx), fun hR => (lend_fact h hR).1 hx⟩⟩⟩
  have hρ : ∀ k, g'.ρ k = g.ρ k := fun k => by
    rcases hU.ρn k with h1 | ⟨_, ls, h2⟩
    · exact h1
    · rw [hloc] at h2; cases h2
  exact {
    fr := {
      size := hU.fr.size
      os := hU.fr.os
      tape := hU.fr.tape
      output := hU.fr.output
      old := hU.fr.old
      shape := hU.fr.shape
      com := fun b o hlt hx => ⟨fun hc => (hU.fr.com b o hlt hx).1 hc.1, fun hc => ⟨(hU.fr.com b o hlt hx).2 hc, fun hR => (lend_fact h hR).1 (h.fr.mono b o hc)⟩⟩
      mono := fun b o hc => ⟨hU.fr.mono b o hc, fun hR => (lend_fact h hR).1 (h.fr.mono b o hc)⟩
      lim := fun b o hc => hU.fr.lim b o hc.1 }
    gw := fun ad u hc hC => ⟨(hU.gw ad u hc (.inl hC)).1, (hU.gw ad u hc (.inl hC)).2, fun hR => (lend_fact h hR).1 hC⟩
    live := fun k hk hO => by
      obtain ⟨h1, h2, h3⟩ := hU.live k hk hO
      exact ⟨h1, h2, fun b hb => hKp b (h3 b hb)⟩
    ρ := fun k x _ => hρ k
    ρn := fun k => .inl (hρ k)
    H := hU.H
    val := fun tmf => by
      have hv := hU.val tmf
      have hlive : ∀ k ∈ u.born, putO st.O u.born u.gone k = true := fun k hk => putO_true.2 (.inl hk)
      have hCC : ∀ k ∈ u.born, ∀ b, g'.blk k = some b → ∀ o, g'.C b o ↔ (lendB g st K g').C b o := fun k hk b hb o => ⟨fun hx => ⟨hx, hnb k hk b hb o⟩, fun hx => hx.1⟩
      cases hu : u.val with
      | w ag ls =>
        rw [hu] at hv hflat
        obtain ⟨cs, h1, h2⟩ := hv
        exact ⟨cs, flat_leaves (g1 := g') (g2 := lendB g st K g') hlive rfl hCC hflat h1, h2⟩
      | tup xs =>
        rw [hu] at hv hflat
        obtain ⟨us, h1, h2⟩ := hv
        exact ⟨us, h1, flat_tup (g1 := g') (g2 := lendB g st K g') hlive rfl hCC hflat h2⟩
      | _ => rw [hu] at hflat; cases hflat
    nospec := hU.nospec
    locs := fun k ls hk => by rw [hloc] at hk; cases hk
    rest := fun k x hL hk => by
      cases hj : hasN K k with
      | false => exact hKp _ (hU.rest k x (by show (match hasN K k with | true => (match st.L k with | some _ => some (0, []) | none => none) | false => st.L k) = some x; rw [hj]; exact hL) hk)
      | true => exact hKp _ (hU.rest k (0, []) (by show (match hasN K k with | true => (match st.L k with | some _ => some (0, []) | none => none) | false => st.L k) = some (0, []); rw [hj, hL]) hk)
    blk0 := hU.blk0
    born := hU.born
    bornI := hU.bornI
    new := fun k ls hk => by rw [hloc] at hk; cases hk }
/-! ### rows and append -/
theorem tmp_ok {x : Operand} {i : Nat} (hx : (match x with | .tmp t => some t | _ => none) = some i) (h : rowOk st.L (evK st.kn st.φ x) = true) : rowOk st.L (st.φ i) = true := by
  cases x with
  | tmp t =>
    have e : t = i := by
      have hx : some t = some i := hx
      injection hx
    subst e
    cases hp : st.φ t with
    | row k n tt =>
      have h2 : evK st.kn st.φ (.tmp t) = .row k n tt := by
        show (match st.φ t with | .spec j want ag ls => (match knows st.kn j with | some b => (match bEq b want with | true => knB st.kn (.tmp t) (.w ag ls) | false => .raw undef) | none => .dead) | p => knB st.kn (.tmp t) p) = _
        rw [hp]
        exact knB_fix fun b e => by cases e
      rw [h2] at h
      exact h
    | _ => rfl
  | _ => cases hx
theorem go_appT (h : MRel F g st (tm a) w) {x y : Operand} {t u : TypeId} (hop : o.op = .call { callee := .builtin .append, args := #[x, y], argTypes := #[t, u] }) {p q : PV} (hx : RelP F g w st.O (tm a) (a.eval x) p) (hy : RelP F g w st.O (tm a) (a.eval y) q)
    (htight : ∃ ad n, a.eval x = .slice (some ad) n n) (hv : appT E.P o t u p q C = some r) : Goes E F g st a w o C r := by
  unfold appT at hv
  split at hv
  case h_2 => cases hv
  rename_i e d hu hd
  split at hv
  case h_2 => cases hv
  rename_i ty l i hsl hi
  split at hv
  case h_2 => cases hv
  rename_i z m hz hm
  split at hm
  case h_2 => cases hm
  rename_i hst
  simp only [Bool.and_eq_true, Bool.not_eq_true'] at hst
  have hut : t = u := by simpa using hst.1
  subst hut
  split at hv
  case h_2 => cases hv
  rename_i hsz
  simp only [Bool.and_eq_true] at hsz
  obtain ⟨hc, hv⟩ := chk_some hv
  simp only [Bool.and_eq_true, decide_eq_true_eq, Nat.blt_eq] at hc
  obtain ⟨⟨hmpos, hbytes⟩, h63⟩ := hc
  have hsize : i.size = ty.size := by simpa using hsz.1.1
  have hpos : 0 < i.size := by have := hsz.1.2; rw [Nat.blt_eq] at this; exact this
  have hzs : z.cells.size = i.size := by simpa using hsz.2
  have hxr := slP_rep hsl hx
  have hyr : RepD w g.C (.sl ty) m [a.eval y] := by
    rcases tailP_rel hm hy with ⟨s, hs, rfl, hl, _⟩ | hr
    · exfalso
      have hnot := hst.2
      unfold tailP at hm
      have : ∃ q', strP q = some q' := by
        cases hq : strP q with
        | some q' => exact ⟨q', rfl⟩
        | none =>
          rw [hq] at hm
          simp only at hm
          split at hm
          · rename_i e' l' hsl'
            obtain ⟨_, _, _, e1, _⟩ := slP_rep hsl' hy
            rw [hs] at e1; simp at e1
          · split at hm
            · have hy' : a.eval y = .slice none 0 0 := hy
              rw [hs] at hy'; cases hy'
            · cases hm
      obtain ⟨q', hq⟩ := this
      unfold strP at hq
      split at hq
      · cases hnot
      · cases hq
    · exact hr
  obtain ⟨ad, n, hxe⟩ := htight
  rw [hxe] at hxr
  have hxr0 := hxr
  obtain ⟨_, _, _, x1, x2, _⟩ := hxr0
  have hn : l.length = n := by
    simp only [List.cons.injEq, Value.slice.injEq, and_true] at x1
    rw [x1.2.1]; exact x2
  have hyr0 := hyr
  obtain ⟨ya, yn, yc, y1, y2, _, _, y5⟩ := hyr0
  have hye : a.eval y = .slice ya yn yc := by simpa using y1
  have hmn : m.length = yn := y2
  obtain ⟨yad, rfl⟩ : ∃ yad, ya = some yad := by
    obtain ⟨ad', us, e1, _⟩ := y5 0 _ (List.getElem?_eq_getElem hmpos)
    exact ⟨ad', e1⟩
  rw [hye] at hyr
  obtain ⟨olds, o1, o2, o3, o4⟩ := slice_cells (e := ty) (by omega) hxr
  obtain ⟨news, n1, n2, n3, n4⟩ := slice_cells (e := ty) (by omega) hyr
  obtain ⟨v', w', hr, how, hgr⟩ := run_append_arg_grows (P := E.P) w t o.type e i z ty.size i.bytes hu hi hz hsize rfl (by rw [hzs, hsize]) (by omega) ad n n olds (by rw [o1, hn]) o2 yad yn yc news (by rw [n1, hmn]) n2 (by omega) (by omega) (by rw [← hn, ← hmn]; exact hbytes)
  obtain ⟨cb, hrb⟩ := run_builtin (P := E.P) (w := w) (f := a.eval) hop
  have hres : (execOp a.eval o).run E.P w = .ok (.value v') w' := by
    rw [hrb]
    simp [builtin, hxe, hye, hr]
  rcases how.2 with ⟨_, hz0⟩ | ⟨B, cap, cur, rfl, hB, hb, hlc, hmax, hcs, htake⟩
  · omega
  · have hBlt : B < w'.heap.size := lt_of_cells hb
    have hll : (l ++ m).length = n + yn := by rw [List.length_append, hn, hmn]
    have hU := out_newRow (F := F) (d := d) (B := B) (cap := cap) (E0 := e) (l := l ++ m) (cur := cur) (gs := []) (w' := w') h hB hBlt hgr.size (fun b hb => hgr.block b hb (by simp)) hgr.os hgr.tape hgr.output hb (by rw [hll]; exact hlc) hmax hcs
      (rows_app o1 n1 (by rw [hn, hmn]; exact htake) o4 n4)
    rw [hll] at hU
    exact goes_val hres hU hv
theorem go_append (h : MRel F g st (tm a) w) {args : Array Operand} {ts : Array TypeId} (hop : o.op = .call { callee := .builtin .append, args := args, argTypes := ts }) (hv : pvU E o st (evK st.kn st.φ) C = some r) : Goes E F g st a w o C r := by
  simp only [pvU, hop] at hv
  unfold bltP at hv
  split at hv
  · cases hv
  case h_3 => cases hv
  rename_i x y t u hargs hts
  obtain rfl : args = #[x, y] := by cases args; simp_all
  obtain rfl : ts = #[t, u] := by cases ts; simp_all
  simp only at hv
  unfold appL at hv
  split at hv
  · exact go_appP h hop hv
  · rename_i k K _
    obtain ⟨hall, hv⟩ := chk_some hv
    rw [Bool.and_eq_true] at hall
    have hok : ∀ i, hasN (tmpsOf [x, y]) i = true → rowOk st.L (st.φ i) = true := fun i hi => by
      obtain ⟨z, hz, hzi⟩ := List.mem_filterMap.1 (hasN_iff.1 hi)
      have hz1 : rowOk st.L (evK st.kn st.φ z) = true := by
        simp only [List.mem_cons, List.not_mem_nil, or_false] at hz
        rcases hz with rfl | rfl
        · exact hall.1
        · exact hall.2
      exact tmp_ok hzi hz1
    have hrel := lend_rel (k :: K) (tmpsOf [x, y]) h hok
    have ex : lendX (k :: K) (tmpsOf [x, y]) st.L x (evK st.kn st.φ x) = evK (lendSt (k :: K) (tmpsOf [x, y]) st).kn (lendSt (k :: K) (tmpsOf [x, y]) st).φ x := (lend_ev x).symm
    have ey : lendX (k :: K) (tmpsOf [x, y]) st.L y (evK st.kn st.φ y) = evK (lendSt (k :: K) (tmpsOf [x, y]) st).kn (lendSt (k :: K) (tmpsOf [x, y]) st).φ y := (lend_ev y).symm
    rw [ex, ey] at hv
    have back : ∀ {N : Act → World → Prop} {Q : Exit → Act → World → Prop}, Goes E F (lendG g st (k :: K)) (lendSt (k :: K) (tmpsOf [x, y]) st) a w o (lendC C) r → (∀ v w' g' u, C u = some r → OutR F g st w u v g' w' → N (a.put o.dst v) w') → o.wp E.P a w N Q := fun {N Q} hg hN => hg N Q fun v w' g' u hC hU => by
      obtain ⟨h1, h2⟩ := lend_back (k :: K) _ h hU hC
      exact hN v w' _ u h1 h2
    split at hv
    · rename_i hrow
      split at hv
      · rename_i htt
        intro N Q hN
        refine back ?_ hN
        refine go_appT hrel hop (ev_rel hrel x) (ev_rel hrel y) ?_ hv
        have hx := ev_rel h x
        cases hp : evK st.kn st.φ x with
        | row k' n tt =>
          rw [hp] at hx htt
          obtain ⟨cap, q1, _, _, q4⟩ := hx
          have htt : tt = true := htt
          exact ⟨_, n, by rw [q1, q4 htt]⟩
        | _ => rw [hp] at hrow; cases hrow
      · cases hv
    · intro N Q hN
      exact back (go_appP hrel hop hv) hN
/-! ### bits.Add64 -/
theorem go_add (h : MRel F g st (tm a) w) {f : FuncId} {fn : Func} {args : Array Operand} {ts : Array TypeId} (hop : o.op = .call { callee := .value (.func f), args := args, argTypes := ts }) (hfn : E.P.funcs[f]? = some fn) (hadd : isAdd fn = true) (x y z : Int)
    (hargs : args.toList.map (evK st.kn st.φ) = [PV.w false [.d (.int .u64) x], .w false [.d (.int .u64) y], .w false [.d (.int .u64) z]]) (hv : addP x y z C = some r) : Goes E F g st a w o C r := by
  unfold addP at hv
  obtain ⟨hz, hv⟩ := chk_some hv
  have hz : z = 0 := beq_iff_eq.1 hz
  subst hz
  unfold isAdd at hadd
  simp only [Bool.and_eq_true, beq_iff_eq] at hadd
  obtain ⟨⟨hname, horig⟩, hbody⟩ := hadd
  obtain ⟨al⟩ := args
  have hargs : al.map (evK st.kn st.φ) = [PV.w false [.d (.int .u64) x], .w false [.d (.int .u64) y], .w false [.d (.int .u64) (0 : Int)]] := hargs
  rcases al with _ | ⟨x1, _ | ⟨x2, _ | ⟨x3, _ | ⟨x4, al⟩⟩⟩⟩ <;> try (simp at hargs; done)
  injection hargs with q1 hargs
  injection hargs with q2 hargs
  injection hargs with q3 _
  have r1 := ev_rel h x1
  have r2 := ev_rel h x2
  have r3 := ev_rel h x3
  rw [q1] at r1
  rw [q2] at r2
  rw [q3] at r3
  obtain ⟨e1, f1⟩ := rel_int r1
  obtain ⟨e2, f2⟩ := rel_int r2
  obtain ⟨e3, f3⟩ := rel_int r3
  have b1 : 0 ≤ x ∧ x < 18446744073709551616 := by
    simp [Lit.wf, IntKind.min, IntKind.max, IntKind.signed, IntKind.bits] at f1
    omega
  have b2 : 0 ≤ y ∧ y < 18446744073709551616 := by
    simp [Lit.wf, IntKind.min, IntKind.max, IntKind.signed, IntKind.bits] at f2
    omega
  have ef : a.eval (.func f) = .func (.func f) #[] #[] := rfl
  have hex : execOp a.eval o = callFunc f #[.int .u64 x, .int .u64 y, .int .u64 0] := by
    unfold execOp
    simp [hop, resolve, Deferred.ofValue, invoke, ef, e1, e2, e3]
  have hfind : Extern.find fn = some add64Entry := by
    unfold Extern.find
    rw [hname, horig]
    kernel_rfl
  have hnext : Extern.findNext fn = none := by
    unfold Extern.findNext
    rw [hname, horig]
    kernel_rfl
  refine goes_same h (v := .tuple #[.int .u64 ((x + y) % 18446744073709551616), .int .u64 ((x + y) / 18446744073709551616)]) ?_ ?_ (fun _ _ _ _ e => by cases e) hv
  · rw [hex, run_callFunc_extern hfn (by rw [hname]; decide) hbody hnext hfind, run_add64 x y 0 b1.1 b2.1 (by omega) (by omega)]
    simp only [Result.andThen, Int.add_zero]
  · refine ⟨_, rfl, ⟨[_], repLs_single.2 ⟨rfl, ?_⟩, rfl⟩, ⟨[_], repLs_single.2 ⟨rfl, ?_⟩, rfl⟩, trivial⟩
    · simp [Lit.wf, IntKind.min, IntKind.max, IntKind.signed, IntKind.bits]
      omega
    · simp [Lit.wf, IntKind.min, IntKind.max, IntKind.signed, IntKind.bits]
      omega
theorem go_extP (h : MRel F g st (tm a) w) {f : FuncId} {fn : Func} {args : Array Operand} {ts : Array TypeId} (hop : o.op = .call { callee := .value (.func f), args := args, argTypes := ts }) (hfn : E.P.funcs[f]? = some fn) (hv : extP fn (args.toList.map (evK st.kn st.φ)) C = some r) : Goes E F g st a w o C r := by
  unfold extP at hv
  split at hv
  · exact go_add h hop hfn (by assumption) _ _ _ (by assumption) hv
  · cases hv
end
end Pv
end Go.Proofs.Ytgcgdfjldeihkaa
