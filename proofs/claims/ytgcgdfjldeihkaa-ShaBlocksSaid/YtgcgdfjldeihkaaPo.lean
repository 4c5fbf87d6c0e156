/- Pure evaluation of the model's code: operations that read. -/
import Derived.Test.YtgcgdfjldeihkaaPu
import Derived.Laws.StructEq
import Derived.Laws.Slices
import Derived.Laws.Rows
import Derived.OpenShut
import Derived.Laws.Build
namespace Go.Proofs.Ytgcgdfjldeihkaa
namespace Pv
set_option linter.unusedVariables false
section
variable {P : Program}
theorem sizeT_info {t : TypeId} {n : Nat} (h : sizeT P t = some n) : ∃ i, P.info? t = some i ∧ i.size = n := by
  unfold sizeT at h
  cases hi : P.info? t with
  | none => rw [hi] at h; cases h
  | some i => rw [hi] at h; exact ⟨i, rfl, by simpa using h⟩
theorem run_sizeOf {t : TypeId} {n : Nat} (h : sizeT P t = some n) (w : World) : (sizeOf t).run P w = .ok n w := by
  obtain ⟨i, hi, hs⟩ := sizeT_info h
  simp [sizeOf, typeInfo, hi, hs]
theorem isAg_desc {t : TypeId} {b : Bool} (h : isAg P t = b) {d : TypeDesc} (hd : P.underlying t = some d) : (match d with | .struct _ | .array _ _ => true | _ => false) = b := by
  unfold isAg at h
  rw [hd] at h
  cases d <;> simpa using h
theorem run_isAgg {t : TypeId} {b : Bool} (h : isAg P t = b) {d : TypeDesc} (hd : P.underlying t = some d) (w : World) : (isAgg t).run P w = .ok b w := by
  have := isAg_desc h hd
  unfold isAgg
  rw [Sem.run_bind, run_underlying hd w]
  cases d <;> simp_all
theorem under_some_of_ag {t : TypeId} (h : isAg P t = true) : ∃ d, P.underlying t = some d := by
  unfold isAg at h
  cases hu : P.underlying t with
  | none => rw [hu] at h; cases h
  | some d => exact ⟨d, rfl⟩
theorem cell_at {w : World} {b : Nat} {cs : Array Value} {t : TypeId} {fr : Nat × Nat} (h : w.heap[b]? = some (.cells cs t fr)) (i : Nat) : w.cell? ⟨b, i, none⟩ = cs[i]? := by
  simp [World.cell?, h]
theorem add_at (b off i : Nat) : (⟨b, off, none⟩ : Addr).add i = ⟨b, off + i, none⟩ := by
  unfold Addr.add; split <;> simp_all
theorem add_add (a : Addr) (i j : Nat) : (a.add i).add j = a.add (i + j) := by
  unfold Addr.add
  by_cases hi : i = 0
  · subst hi; simp
  · by_cases hj : j = 0
    · subst hj; simp [hi]
    · simp [hi, hj, Nat.add_assoc]
/-- A variable read, its cells known one by one. -/
theorem run_loadVar_cells {w : World} {t : TypeId} {ad : Addr} {us : List Value} {n : Nat} (hn : sizeT P t = some n) (hl : us.length = n) (ha : isAg P t = true)
    (hc : ∀ j x, us[j]? = some x → w.cell? (ad.add j) = some x) : (loadVar t ad).run P w = .ok (.agg ⟨us⟩) w := by
  obtain ⟨d, hd⟩ := under_some_of_ag ha
  have h1 := run_loadCells_list (P := P) w ad us hc
  subst hl
  simp only [loadVar, Sem.run_bind, run_isAgg ha hd, Result.andThen_ok, if_true, run_sizeOf hn, h1, Sem.run_pure]
theorem run_loadVar_one {w : World} {t : TypeId} {ad : Addr} {x : Value} (ha : isAg P t = false) (hu : (P.underlying t).isSome = true)
    (hc : w.cell? ad = some x) : (loadVar t ad).run P w = .ok x w := by
  obtain ⟨d, hd⟩ := Option.isSome_iff_exists.1 hu
  simp [loadVar, run_isAgg ha hd, run_load, hc]
theorem run_part {w : World} {t : TypeId} {cs : Array Value} {off n : Nat} {us : List Value} (hn : sizeT P t = some n) (hl : us.length = n) (hu : (P.underlying t).isSome = true) (hsz : isAg P t = false → n = 1)
    (hc : ∀ j x, us[j]? = some x → cs[off + j]? = some x) : ∃ v, (part t cs off).run P w = .ok v w ∧ match isAg P t with | true => v = .agg ⟨us⟩ | false => us = [v] := by
  obtain ⟨d, hd⟩ := Option.isSome_iff_exists.1 hu
  cases ha : isAg P t with
  | true =>
    refine ⟨.agg ⟨us⟩, ?_, rfl⟩
    have : cs.extract off (off + n) = ⟨us⟩ := by
      apply Array.ext_getElem?
      intro j
      rw [Array.getElem?_extract]
      simp only [List.getElem?_toArray]
      by_cases hj : j < n
      · obtain ⟨x, hx⟩ : ∃ x, us[j]? = some x := ⟨us[j], by simp [hl, hj]⟩
        have h1 := hc j x hx
        have h2 : off + j < cs.size := (Array.getElem?_eq_some_iff.1 h1).1
        rw [if_pos (by omega), h1, hx]
      · rw [if_neg (by omega), List.getElem?_eq_none (by omega)]
    simp [part, run_isAgg ha hd, run_sizeOf hn, this]
  | false =>
    have h1 := hsz ha
    cases us with
    | nil => simp at hl; omega
    | cons x r =>
      cases r with
      | cons y r => simp at hl; omega
      | nil =>
        have := hc 0 x rfl
        exact ⟨x, by simp [part, run_isAgg ha hd, show cs[off]? = some x from this], rfl⟩
theorem run_fieldPlace {s : TypeId} {ad : Addr} {f fo : Nat} {ft : TypeId} (h : fieldAt P s f = some (fo, ft)) (w : World) : (Instr.fieldAt s (.pointer (some ad)) f).run P w = .ok (.pointer (some (ad.add fo))) w := by
  unfold fieldAt at h
  split at h
  · rename_i fs hu
    split at h
    · rename_i x hx
      split at h
      · rename_i i hi
        split at h
        · cases h
        · rename_i hne
          simp only [Option.some.injEq, Prod.mk.injEq] at h
          obtain ⟨rfl, rfl⟩ := h
          have hz : ¬ i.size = 0 := hne
          simp [Instr.fieldAt, run_underlying hu, hx, Instr.sureAddr, fieldPlace, sizeOf, typeInfo, hi, hz]
      · cases h
    · cases h
  · cases h
theorem fieldAt_some {s : TypeId} {f fo : Nat} {ft : TypeId} (h : fieldAt P s f = some (fo, ft)) : ∃ fs x i, P.underlying s = some (.struct fs) ∧ fs[f]? = some x ∧ x.offset = fo ∧ x.type = ft ∧ P.info? ft = some i ∧ 0 < i.size := by
  unfold fieldAt at h
  split at h
  · rename_i fs hu
    split at h
    · rename_i x hx
      split at h
      · rename_i i hi
        split at h
        · cases h
        · rename_i hne
          simp only [Option.some.injEq, Prod.mk.injEq] at h
          obtain ⟨rfl, rfl⟩ := h
          exact ⟨fs, x, i, hu, hx, rfl, rfl, hi, Nat.pos_of_ne_zero hne⟩
      · cases h
    · cases h
  · cases h
end

section
variable {E : Env} {F : Fr} {g : Gh} {st : PSt} {a : Act} {w : World} {o : Oper} {R : Type} {C : Upd → Option R} {r : R} {tmf : Nat → Value} {O : Tok → Bool} {P : Program}
def Goes (E : Env) (F : Fr) (g : Gh) (st : PSt) (a : Act) (w : World) (o : Oper) (C : Upd → Option R) (r : R) : Prop :=
  ∀ (N : Act → World → Prop) (Q : Exit → Act → World → Prop), (∀ v w' g' u, C u = some r → OutR F g st w u v g' w' → N (a.put o.dst v) w') → o.wp E.P a w N Q
theorem goes_val {v : Value} {w' : World} {g' : Gh} {u : Upd} (hr : (execOp a.eval o).run E.P w = .ok (.value v) w') (hU : OutR F g st w u v g' w') (hC : C u = some r) : Goes E F g st a w o C r := fun N Q hN => by
  unfold Oper.wp; rw [hr]; exact hN v w' g' u hC hU
theorem goes_skip {w' : World} {g' : Gh} {u : Upd} (hr : (execOp a.eval o).run E.P w = .ok .skip w') (hU : OutR F g st w u undef g' w') (hC : C u = some r) : Goes E F g st a w o C r := fun N Q hN => by
  unfold Oper.wp; rw [hr]; exact hN undef w' g' u hC hU
theorem goes_same (h : MRel F g st (tm a) w) {v : Value} {p : PV} (hr : (execOp a.eval o).run E.P w = .ok (.value v) w) (hv : RelP F g w st.O (tm a) v p) (hs : ∀ t want ag ls, p ≠ .spec t want ag ls) (hC : C (Upd.v p) = some r) : Goes E F g st a w o C r := by
  refine goes_val hr (OutR.same h (fun tmf => ?_) hs) hC
  cases p with
  | spec t want ag ls => exact (hs t want ag ls rfl).elim
  | w _ _ => exact hv
  | tup _ => exact hv
  | loc _ _ => exact hv
  | locE _ _ _ _ _ => exact hv
  | row _ _ _ => exact hv
  | elem _ => exact hv
  | raw _ => exact hv
  | dead => exact hv

/-! ### operands -/
theorem rel_leaf {u : Value} {t : Ty} {x : t.D} : RelP F g w O tmf u (.w false [.d t x]) ↔ RepD w g.C t x [u] := by
  constructor
  · rintro ⟨cs, h1, rfl⟩; exact repLs_single.1 h1
  · exact fun h => ⟨[u], repLs_single.2 h, rfl⟩
theorem rel_int {u : Value} {k : IntKind} {n : Int} (h : RelP F g w O tmf u (.w false [.d (.int k) n])) : u = .int k n ∧ (Lit.int k n).wf = true := by
  have := rel_leaf.1 h
  exact ⟨by simpa using this.1, this.2⟩
theorem mk_int {k : IntKind} {n : Int} (h : (Lit.int k n).wf = true) : RelP F g w O tmf (.int k n) (pint k n) := rel_leaf.2 ⟨rfl, h⟩
theorem rel_bool {u : Value} {b : Bool} (h : RelP F g w O tmf u (.w false [.d .bool b])) : u = .bool b := by
  have h1 : [u] = [.bool b] := rel_leaf.1 h
  simpa using h1
theorem mk_bool {b : Bool} : RelP F g w O tmf (.bool b) (pbool b) := rel_leaf.2 rfl
theorem rel_str {u : Value} {l : List Int} (h : RelP F g w O tmf u (.w false [.d .str l])) : ∃ s : ByteArray, u = .string s ∧ bytesL s = l ∧ s.size ≤ maxLen := by
  obtain ⟨s, h1, h2, h3⟩ := rel_leaf.1 h
  exact ⟨s, by simpa using h1, h2, h3⟩
theorem mk_str {s : ByteArray} {l : List Int} (h : bytesL s = l) (hs : s.size ≤ maxLen) : RelP F g w O tmf (.string s) (pstr l) := rel_leaf.2 ⟨s, rfl, h, hs⟩
theorem rel_const (v : Value) : RelP F g w O tmf v (constPV v) := by
  unfold constPV
  split
  · split
    · rename_i h; exact mk_int h
    · trivial
  · exact mk_bool
  · exact rel_leaf.2 rfl
  · split
    · rename_i h; exact mk_str rfl (by simpa using h)
    · trivial
  · rfl
theorem evS_rel (h : MRel F g st (tm a) w) (x : Operand) : RelP F g w st.O (tm a) (a.eval x) (evS st.φ x) := by
  cases x with
  | tmp t => exact h.slots t
  | const v => exact rel_const v
  | global k => rfl
  | func f => rfl
theorem knB_rel {kn : List (Nat × Bool)} {x : Operand} {p : PV} (hk : ∀ t b, knows kn t = some b → tm a t = .bool b) (hx : RelP F g w st.O (tm a) (a.eval x) p) : RelP F g w st.O (tm a) (a.eval x) (knB kn x p) := by
  unfold knB
  split
  · split
    · rename_i t
      split
      · rename_i b' hb
        have h1 := hk t b' hb
        have h2 : a.eval (.tmp t) = .bool b' := h1
        rw [h2]; exact mk_bool
      · exact hx
    · exact hx
  · exact hx
theorem ev_rel (h : MRel F g st (tm a) w) (x : Operand) : RelP F g w st.O (tm a) (a.eval x) (evK st.kn st.φ x) := by
  have hx := evS_rel h x
  unfold evK
  split
  · rename_i j want ag ls hs
    rw [hs] at hx
    split
    · rename_i b hk
      obtain ⟨b', h1, h2, h3⟩ := hx
      have h4 := h.kn j b hk
      rw [h4] at h1
      have e : b = b' := by simpa using h1
      subst e
      split
      · rename_i hb; exact knB_rel h.kn (h2 (bEq_iff.1 hb))
      · rename_i hb; exact h3 fun e => by rw [bEq_iff.2 e] at hb; cases hb
    · trivial
  · exact knB_rel h.kn hx
theorem ev_nospec {kn : List (Nat × Bool)} {φ : Nat → PV} (x : Operand) (t : Nat) (want : Bool) (ag : Bool) (ls : List Leaf) : evK kn φ x ≠ .spec t want ag ls := by
  unfold evK
  split
  · split
    · split
      · exact knB_nospec (by intro e; cases e)
      · intro e; cases e
    · intro e; cases e
  · rename_i p hne
    exact knB_nospec fun e => hne t want ag ls e
theorem norm_rel {u : Value} {ty : TypeId} {p : PV} (h0 : g.blk .zero = none) (h : RelP F g w O tmf u p) : RelP F g w O tmf u (norm P ty p) := by
  unfold norm
  split
  · have hu : u = .slice none 0 0 := h
    split
    · rename_i E e _
      refine ⟨[u], ?_, rfl⟩
      rw [hu]
      exact repLs_single.2 ⟨⟨none, 0, 0, rfl, rfl, Nat.le_refl _, by unfold maxLen; omega, fun i x hx => by simp at hx⟩, fun _ => ⟨_, rfl, .inl ⟨none, rfl, rfl, h0⟩⟩⟩
    · exact h
  · have hu : u = .nilIface := h
    split
    · rw [hu]; exact rel_leaf.2 ⟨_, rfl, .inl ⟨rfl, rfl⟩⟩
    · exact h
  · exact h
theorem norm_nospec {ty : TypeId} {p : PV} (h : ∀ t want ag ls, p ≠ .spec t want ag ls) (t : Nat) (want : Bool) (ag : Bool) (ls : List Leaf) : norm P ty p ≠ .spec t want ag ls := by
  unfold norm
  split
  · split <;> simp
  · split <;> simp [perr]
  · exact h t want ag ls
theorem int_rel {u : Value} {p : PV} {j : Int} (h : intP p = some j) (hr : RelP F g w O tmf u p) : ∃ k, u = .int k j ∧ (Lit.int k j).wf = true := by
  unfold intP at h
  split at h
  · rename_i k n
    injection h with h
    subst h
    exact ⟨k, rel_int hr⟩
  · cases h
theorem val_rel {u : Value} {p : PV} {ag : Bool} {ls : List Leaf} (h : valP p = some (ag, ls)) (hr : RelP F g w O tmf u p) : RelV F g w O u ag ls := by
  unfold valP at h
  split at h
  · simp only [Option.some.injEq, Prod.mk.injEq] at h
    obtain ⟨rfl, rfl⟩ := h
    exact hr
  · cases h

/-! ### loads -/
theorem headLs_some {t : TypeId} {ls vs : List Leaf} (h : headLs P t ls = some vs) : ∃ n rest, sizeT P t = some n ∧ ls = vs ++ rest ∧ sizeLs vs = n ∧ (isAg P t = false → n = 1) := by
  unfold headLs at h
  split at h
  · rename_i n hn
    split at h
    · rename_i p q hs
      obtain ⟨h1, h2⟩ := splitLs_some hs
      split at h
      · rename_i x hag
        simp only [Option.some.injEq] at h
        subst h
        exact ⟨n, q, hn, h1, h2, fun e => by rw [hag] at e; cases e⟩
      · rename_i l hag
        split at h
        · rename_i hb
          simp only [Option.some.injEq] at h
          subst h
          refine ⟨n, q, hn, h1, h2, fun _ => ?_⟩
          rw [← h2]
          have : l.size = 1 := by simpa using hb
          simp [sizeLs, this]
        · cases h
      · cases h
    · cases h
  · cases h
theorem load_at {t : TypeId} {ls vs : List Leaf} {ad : Addr} {cs : List Value} (hu : (P.underlying t).isSome = true) (hc : ∀ j x, cs[j]? = some x → w.cell? (ad.add j) = some x) (hr : RepLs F g w O ls cs) (hh : headLs P t ls = some vs) :
    ∃ v, (loadVar t ad).run P w = .ok v w ∧ RelV F g w O v (isAg P t) vs := by
  obtain ⟨n, rest, hn, rfl, hsz, h1⟩ := headLs_some hh
  obtain ⟨c1, c2, rfl, hr1, hr2⟩ := repLs_split hr
  have hl : c1.length = n := (repLs_len hr1).trans hsz
  have hc1 : ∀ j x, c1[j]? = some x → w.cell? (ad.add j) = some x := fun j x hj => hc j x (by rw [List.getElem?_append_left (List.getElem?_eq_some_iff.1 hj).1]; exact hj)
  cases ha : isAg P t with
  | true => exact ⟨.agg ⟨c1⟩, run_loadVar_cells hn hl ha hc1, c1, hr1, rfl⟩
  | false =>
    have := h1 ha
    cases c1 with
    | nil => simp at hl; omega
    | cons x q =>
      cases q with
      | cons y q => simp at hl; omega
      | nil =>
        have := hc1 0 x rfl
        rw [Addr.add_zero'] at this
        exact ⟨x, run_loadVar_one ha hu this, [x], hr1, rfl⟩
theorem loc_cells {k σ : Nat} {ls : List Leaf} (h : MRel F g st tmf w) (hL : st.L k = some (σ, ls)) : ∃ cs, RepLs F g w st.O ls cs ∧ ∀ j x, cs[j]? = some x → w.cell? ⟨(g.ρ k).1, (g.ρ k).2 + j, none⟩ = some x := by
  obtain ⟨cur, T, h1, h2, h3, _⟩ := h.locals k σ ls hL
  refine ⟨_, h3, fun j x hj => ?_⟩
  rw [cell_at h1]
  rw [List.getElem?_take] at hj
  split at hj
  · rw [List.getElem?_drop] at hj
    simpa using hj
  · cases hj
theorem atLs_some {t : TypeId} {ls vs : List Leaf} {off : Nat} (h : atLs P t ls off = some vs) : ∃ p q, ls = p ++ q ∧ sizeLs p = off ∧ headLs P t q = some vs := by
  unfold atLs at h
  split at h
  · rename_i p q hs
    obtain ⟨h1, h2⟩ := splitLs_some hs
    exact ⟨p, q, h1, h2, h⟩
  · cases h
theorem oneAt_some {ls : List Leaf} {off : Nat} {l : Leaf} (h : oneAt ls off = some l) : ∃ p q, ls = p ++ l :: q ∧ sizeLs p = off := by
  unfold oneAt at h
  split at h
  · rename_i p l' q hs
    simp only [Option.some.injEq] at h
    subst h
    obtain ⟨h1, h2⟩ := splitLs_some hs
    exact ⟨p, q, h1, h2⟩
  · cases h
theorem getI_some {α : Type} {l : List α} {j : Int} {x : α} (h : getI l j = some x) : 0 ≤ j ∧ l[j.toNat]? = some x ∧ j < (l.length : Int) := by
  unfold getI at h
  cases hd : decide (0 ≤ j) with
  | false => rw [hd] at h; cases h
  | true =>
    rw [hd] at h
    have h0 : 0 ≤ j := by simpa using hd
    have h1 : l[j.toNat]? = some x := h
    have := (List.getElem?_eq_some_iff.1 h1).1
    exact ⟨h0, h1, by omega⟩
theorem chk_some {R : Type} {b : Bool} {x : Option R} {r : R} (h : chk b x = some r) : b = true ∧ x = some r := by
  cases b with
  | true => exact ⟨rfl, h⟩
  | false => cases h
theorem flat_isD : ∀ (t : Ty) (x : t.D), ∀ l ∈ flat t x, isD l = true
  | .pr a b, x, l, hl => by
    have hl' : l ∈ flat a x.1 ++ flat b x.2 := hl
    rcases List.mem_append.1 hl' with h | h
    · exact flat_isD a _ l h
    · exact flat_isD b _ l h
  | .un, _, l, hl => by cases hl
  | .int _, _, l, hl => by rw [List.mem_singleton.1 hl]; rfl
  | .bool, _, l, hl => by rw [List.mem_singleton.1 hl]; rfl
  | .str, _, l, hl => by rw [List.mem_singleton.1 hl]; rfl
  | .flo _, _, l, hl => by rw [List.mem_singleton.1 hl]; rfl
  | .err, _, l, hl => by rw [List.mem_singleton.1 hl]; rfl
  | .sl _, _, l, hl => by rw [List.mem_singleton.1 hl]; rfl
  | .arr _ _, _, l, hl => by rw [List.mem_singleton.1 hl]; rfl
theorem go_load (h : MRel F g st (tm a) w) {t : TypeId} {x : Operand} (hop : o.op = .load t x) (hv : pvU E o st (evK st.kn st.φ) C = some r) : Goes E F g st a w o C r := by
  simp only [pvU, hop] at hv
  have hx := ev_rel h x
  have ns : ∀ (vs : List Leaf) (t' : Nat) (want ag : Bool) (ls : List Leaf), PV.w (isAg E.P t) vs ≠ .spec t' want ag ls := fun _ _ _ _ _ e => by cases e
  split at hv
  case isFalse => cases hv
  rename_i hu
  split at hv
  · rename_i k off he
    rw [he] at hx
    split at hv
    · rename_i σ ls hL
      split at hv
      · rename_i vs hvs
        obtain ⟨p, q, rfl, hsz, hh⟩ := atLs_some hvs
        obtain ⟨cs, hr, hc⟩ := loc_cells h hL
        obtain ⟨c1, c2, rfl, hr1, hr2⟩ := repLs_split hr
        have hl1 : c1.length = off := (repLs_len hr1).trans hsz
        obtain ⟨v, hrun, hrel⟩ := load_at (P := E.P) (ad := ⟨(g.ρ k).1, (g.ρ k).2 + off, none⟩) hu (fun j x hj => by
          rw [add_at, Nat.add_assoc]
          exact hc _ x (by rw [List.getElem?_append_right (by omega), hl1, Nat.add_sub_cancel_left]; exact hj)) hr2 hh
        have hx' : a.eval x = _ := hx
        exact goes_same h (v := v) (p := .w (isAg E.P t) vs) (by simp [execOp, hop, hx', Instr.loadAt, Instr.sureAddr, hrun]) hrel (ns _) hv
      · cases hv
    · cases hv
  · rename_i k off e j s he
    rw [he] at hx
    split at hv
    · rename_i σ ls hL
      split at hv
      · rename_i m e' l hone
        split at hv
        · rename_i hteq
          have := teq_eq hteq
          subst this
          obtain ⟨y, hy, hv⟩ := Option.bind_eq_some_iff.1 hv
          obtain ⟨h0, hget, _⟩ := getI_some hy
          split at hv
          · rename_i vs hvs
            obtain ⟨p, q, rfl, hsz⟩ := oneAt_some hone
            obtain ⟨p2, q2, hfl, hsz2, hh⟩ := atLs_some hvs
            obtain ⟨cs, hr, hc⟩ := loc_cells h hL
            obtain ⟨c1, c2, rfl, hr1, hr2⟩ := repLs_split hr
            obtain ⟨c3, c4, rfl, hr3, hr4⟩ := hr2
            have hl1 : c1.length = off := (repLs_len hr1).trans hsz
            obtain ⟨a1, a2, a3⟩ := hr3
            have hrow := a3 j.toNat y hget
            have hfr := repLs_flat (F := F) (g := g) (w := w) (O := st.O) hrow
            rw [hfl] at hfr
            obtain ⟨d1, d2, hd, hr5, hr6⟩ := repLs_split hfr
            have hl2 : d1.length = s := (repLs_len hr5).trans hsz2
            have hx' : a.eval x = _ := hx.2
            obtain ⟨v, hrun, hrel⟩ := load_at (P := E.P) (ad := ⟨(g.ρ k).1, (g.ρ k).2 + off + j.toNat * e'.size + s, none⟩) hu (fun i x hi => by
              rw [add_at, show (g.ρ k).2 + off + j.toNat * e'.size + s + i = (g.ρ k).2 + (off + (j.toNat * e'.size + (s + i))) by omega]
              have h3 : ((c3.drop (j.toNat * e'.size)).take e'.size)[s + i]? = some x := by
                rw [hd, List.getElem?_append_right (by omega), hl2, Nat.add_sub_cancel_left]; exact hi
              rw [List.getElem?_take] at h3
              split at h3
              · rw [List.getElem?_drop] at h3
                exact hc _ x (by
                  rw [List.getElem?_append_right (by omega), hl1, Nat.add_sub_cancel_left, List.getElem?_append_left (List.getElem?_eq_some_iff.1 h3).1]
                  exact h3)
              · cases h3) hr6 hh
            exact goes_same h (v := v) (p := .w (isAg E.P t) vs) (by simp [execOp, hop, hx', Instr.loadAt, Instr.sureAddr, hrun]) hrel (ns _) hv
          · cases hv
        · cases hv
      · cases hv
    · cases hv
  · rename_i ls he
    rw [he] at hx
    split at hv
    · rename_i vs hvs
      obtain ⟨ad, cs, hx', hr, hD, hc⟩ := hx
      obtain ⟨v, hrun, hrel⟩ := load_at (P := E.P) (ad := ad) hu (fun j x hj => (hc j x hj).1) hr hvs
      exact goes_same h (v := v) (p := .w (isAg E.P t) vs) (by simp [execOp, hop, hx', Instr.loadAt, Instr.sureAddr, hrun]) hrel (ns _) hv
    · cases hv
  · cases hv
theorem go_nilCheck (h : MRel F g st (tm a) w) {x : Operand} (hop : o.op = .nilCheck x) (hv : pvU E o st (evK st.kn st.φ) C = some r) : Goes E F g st a w o C r := by
  simp only [pvU, hop] at hv
  have hx := ev_rel h x
  split at hv
  · rename_i k f he
    rw [he] at hx
    have hx' : a.eval x = _ := hx
    exact goes_same h (v := a.eval x) (p := _) (by simp [execOp, hop, hx']) hx (fun _ _ _ _ e => by cases e) hv
  · rename_i k f e j s he
    rw [he] at hx
    have hx' : a.eval x = _ := hx.2
    exact goes_same h (v := a.eval x) (p := _) (by simp [execOp, hop, hx']) hx (fun _ _ _ _ e => by cases e) hv
  · rename_i ls he
    rw [he] at hx
    have hx2 := hx
    obtain ⟨ad, cs, hx', _⟩ := hx
    exact goes_same h (v := a.eval x) (by simp [execOp, hop, hx']) hx2 (fun _ _ _ _ e => by cases e) hv
  · cases hv
theorem go_fieldAddr (h : MRel F g st (tm a) w) {s : TypeId} {x : Operand} {f : Nat} (hop : o.op = .fieldAddr s x f) (hv : pvU E o st (evK st.kn st.φ) C = some r) : Goes E F g st a w o C r := by
  simp only [pvU, hop] at hv
  have hx := ev_rel h x
  split at hv
  · rename_i fo ft hf
    split at hv
    · rename_i k off he
      rw [he] at hx
      have hx' : a.eval x = _ := hx
      refine goes_same h (v := .pointer (some ⟨(g.ρ k).1, (g.ρ k).2 + (off + fo), none⟩)) (p := .loc k (off + fo)) (by simp [execOp, hop, hx', run_fieldPlace hf, add_at, Nat.add_assoc]) rfl (fun _ _ _ _ e => by cases e) hv
    · rename_i k off e j s' he
      rw [he] at hx
      have hx' : a.eval x = _ := hx.2
      refine goes_same h (v := .pointer (some ⟨(g.ρ k).1, (g.ρ k).2 + off + j.toNat * e.size + (s' + fo), none⟩)) (p := .locE k off e j (s' + fo)) (by simp [execOp, hop, hx', run_fieldPlace hf, add_at, Nat.add_assoc]) ⟨hx.1, rfl⟩ (fun _ _ _ _ e => by cases e) hv
    · rename_i ls he
      rw [he] at hx
      obtain ⟨ad, cs, hx', hr, hD, hc⟩ := hx
      split at hv
      · rename_i p q hs
        obtain ⟨rfl, hsz⟩ := splitLs_some hs
        obtain ⟨c1, c2, rfl, hr1, hr2⟩ := repLs_split hr
        have hl1 : c1.length = fo := (repLs_len hr1).trans hsz
        refine goes_same h (v := .pointer (some (ad.add fo))) (p := .elem q) (by simp [execOp, hop, hx', run_fieldPlace hf]) ⟨ad.add fo, c2, rfl, hr2, fun l hl => hD l (by simp [hl]), fun j x hj => ?_⟩ (fun _ _ _ _ e => by cases e) hv
        have := hc (fo + j) x (by rw [List.getElem?_append_right (by omega), hl1, Nat.add_sub_cancel_left]; exact hj)
        rw [add_add, add_block, add_off, Nat.add_assoc]
        exact this
      · cases hv
    · cases hv
  · cases hv
theorem go_indexAddr (h : MRel F g st (tm a) w) {t : TypeId} {x i : Operand} (hop : o.op = .indexAddr t x i) (hv : pvU E o st (evK st.kn st.φ) C = some r) : Goes E F g st a w o C r := by
  simp only [pvU, hop] at hv
  have hx := ev_rel h x
  have hi := ev_rel h i
  split at hv
  · rename_i e k n tt j hu hp hj
    obtain ⟨ik, hi', _⟩ := int_rel hj hi
    rw [hp] at hx
    obtain ⟨cap, hx', _⟩ := hx
    split at hv
    · rename_i σ ls sz hL hsz
      split at hv
      · rename_i m ty l hone
        split at hv
        · rename_i hb
          have hs : sz = ty.size := by simpa using hb
          obtain ⟨hc, hv⟩ := chk_some hv
          simp only [Bool.and_eq_true, decide_eq_true_eq] at hc
          refine goes_same h (v := .pointer (some ⟨(g.ρ k).1, (g.ρ k).2 + 0 + j.toNat * ty.size, none⟩)) (p := .locE k 0 ty j 0) (by simp [execOp, hop, hx', hi', Instr.indexAt, asIntOf, run_underlying hu, hc.1, hc.2, run_sizeOf hsz, add_at, hs]) ⟨hc.1, rfl⟩ (fun _ _ _ _ e => by cases e) hv
        · cases hv
      · cases hv
    · cases hv
  · rename_i e j hu hj hnr
    obtain ⟨ik, hi', _⟩ := int_rel hj hi
    split at hv
    · rename_i ty l n hsl hn
      split at hv
      · rename_i hnt
        have hnt' : n = ty.size := by simpa using hnt
        obtain ⟨y, hy, hv⟩ := Option.bind_eq_some_iff.1 hv
        obtain ⟨h0, hget, hlt⟩ := getI_some hy
        have hr := slP_rep hsl hx
        obtain ⟨sa, sn, sc, e1, e2, e3, e4, e5⟩ := hr
        have hxv : a.eval x = .slice sa sn sc := by simpa using e1
        obtain ⟨ad, us, rfl, e6, e7, e8⟩ := e5 j.toNat y hget
        have hlt2 : j < (sn : Int) := by rw [← e2]; exact hlt
        refine goes_same h (v := .pointer (some (ad.add (j.toNat * n)))) (p := .elem (flat ty y)) (by simp [execOp, hop, hxv, hi', Instr.indexAt, asIntOf, run_underlying hu, h0, hlt2, run_sizeOf hn]) ?_ (fun _ _ _ _ e => by cases e) hv
        refine ⟨_, us, rfl, repLs_flat e8, flat_isD ty y, fun k u hu => ?_⟩
        rw [hnt', add_add, add_block, add_off, Nat.add_assoc]
        exact e7 k u hu
      · cases hv
    · cases hv
  · rename_i n e k off j hu hp hj
    obtain ⟨ik, hi', _⟩ := int_rel hj hi
    rw [hp] at hx
    have hx' : a.eval x = _ := hx
    split at hv
    · rename_i σ ls sz hL hsz
      split at hv
      · rename_i m ty l hone
        split at hv
        · rename_i hb
          simp only [Bool.and_eq_true] at hb
          have hm : m = n := by simpa using hb.1
          have hs : sz = ty.size := by simpa using hb.2
          obtain ⟨hc, hv⟩ := chk_some hv
          simp only [Bool.and_eq_true, decide_eq_true_eq] at hc
          refine goes_same h (v := .pointer (some ⟨(g.ρ k).1, (g.ρ k).2 + off + j.toNat * ty.size, none⟩)) (p := .locE k off ty j 0) (by simp [execOp, hop, hx', hi', Instr.indexAt, Instr.sureAddr, asIntOf, run_underlying hu, hc.1, hc.2, run_sizeOf hsz, add_at, hs]) ⟨hc.1, rfl⟩ (fun _ _ _ _ e => by cases e) hv
        · cases hv
      · cases hv
    · cases hv
  · rename_i n e m ty l rest j hu hp hj
    obtain ⟨ik, hi', _⟩ := int_rel hj hi
    rw [hp] at hx
    obtain ⟨ad, cs, hx', hr, hD, hc⟩ := hx
    split at hv
    · rename_i sz hmn hsz
      split at hv
      · rename_i hs
        have hs' : sz = ty.size := by simpa using hs
        have hm : m = n := by simpa using hmn
        obtain ⟨y, hy, hv⟩ := Option.bind_eq_some_iff.1 hv
        obtain ⟨h0, hget, hlt⟩ := getI_some hy
        obtain ⟨c1, c2, rfl, hr1, hr2⟩ := hr
        obtain ⟨a1, a2, a3⟩ := hr1
        have hlt2 : j < (n : Int) := by rw [← hm]; rw [← a1]; exact hlt
        have hrow := a3 j.toNat y hget
        refine goes_same h (v := .pointer (some (ad.add (j.toNat * sz)))) (p := .elem (flat ty y)) (by simp [execOp, hop, hx', hi', Instr.indexAt, Instr.sureAddr, asIntOf, run_underlying hu, h0, hlt2, run_sizeOf hsz]) ?_ (fun _ _ _ _ e => by cases e) hv
        refine ⟨_, _, rfl, repLs_flat hrow, flat_isD ty y, fun i u hu => ?_⟩
        rw [hs', add_add, add_block, add_off, Nat.add_assoc]
        rw [List.getElem?_take] at hu
        split at hu
        · rw [List.getElem?_drop] at hu
          exact hc _ u (by rw [List.getElem?_append_left (List.getElem?_eq_some_iff.1 hu).1]; exact hu)
        · cases hu
      · cases hv
    · cases hv
  · cases hv
end
end Pv
end Go.Proofs.Ytgcgdfjldeihkaa
