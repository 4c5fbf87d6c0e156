/- The conditions of Vc are sound for the model's code: operations that look at memory, or may go wrong. -/
import Derived.Test.YtnlekdpnjphmfaaVcp
import Derived.Laws.Slices
namespace Go.Proofs.Ytnlekdpnjphmfaa
namespace Vc
section
variable {P : Program} {E : Env} {v0 w0 : World} {n : Nat} {ρ : Nat → Nat} {st : St} {a : Act} {w : World} {K : St → Prop} {Q : Exit → Act → World → Prop}

/-- Only the slot d (and the place of the local d) has turned. -/
def Fr (d : Option Nat) (ρ : Nat → Nat) (a : Act) (ρ' : Nat → Nat) (a' : Act) : Prop := (∀ k, d ≠ some k → ρ' k = ρ k) ∧ ∀ i, d ≠ some i → tm a' i = tm a i
def Next' (v0 w0 : World) (n : Nat) (d : Option Nat) (ρ : Nat → Nat) (a : Act) (K : St → Prop) : Act → World → Prop :=
  fun a' w' => ∃ st' ρ', K st' ∧ Rel v0 w0 n ρ' st' a' w' ∧ Fr d ρ a ρ' a'
theorem Fr.put (h : Rel v0 w0 n ρ st a w) {d : Option Nat} (hd : ∀ x, d = some x → x < n) (u : Value) : Fr d ρ a ρ (a.put d u) :=
  ⟨fun _ _ => rfl, fun i hi => by rw [tm_put a d u i (fun x hx => by rw [h.size]; exact hd x hx), if_neg hi]⟩
theorem wp_value {o : Oper} {u : Value} {w' : World} {N : Act → World → Prop} (hr : (execOp a.eval o).run P w = .ok (.value u) w') (hn : N (a.put o.dst u) w') : o.wp P a w N Q := by
  unfold Oper.wp; rw [hr]; exact hn
theorem wp_skipped {o : Oper} {w' : World} {N : Act → World → Prop} (hr : (execOp a.eval o).run P w = .ok .skip w') (hn : N (a.put o.dst undef) w') : o.wp P a w N Q := by
  unfold Oper.wp; rw [hr]; exact hn
/-- An operation that yields a value and leaves the world. -/
theorem wp_yield (h : Rel v0 w0 n ρ st a w) {o : Oper} (hd : ∀ x, o.dst = some x → x < n) {s : SV} (hy : Yields P ρ a w o s) (hK : K ⟨put st.φ o.dst s, st.L, st.v⟩) :
    o.wp P a w (Next' v0 w0 n o.dst ρ a K) Q := by
  obtain ⟨u, hr, hs⟩ := hy
  exact wp_value hr ⟨_, ρ, hK, h.put hd hs.toS, Fr.put h hd u⟩
/-- The same, the world turned in step. -/
theorem wp_world (h : Rel v0 w0 n ρ st a w) {o : Oper} (hd : ∀ x, o.dst = some x → x < n) {u : Value} {w' v' : World} (hr : (execOp a.eval o).run P w = .ok (.value u) w') (hv : Vis v' w') (hk : Keep st.v w v' w')
    (hK : K ⟨put st.φ o.dst (.val u), st.L, v'⟩) : o.wp P a w (Next' v0 w0 n o.dst ρ a K) Q :=
  wp_value hr ⟨_, ρ, hK, (h.world hv hk).put hd rfl, Fr.put h hd u⟩
theorem none_g : ∀ t want, (none : Option (Nat × Bool)) = some (t, want) → tm a t = .bool want := fun _ _ h => by cases h

/-! ### a local variable is laid -/
def newRho (ρ : Nat → Nat) (d b : Nat) : Nat → Nat := fun k => if k = d then b else ρ k
theorem Rel.newLocal (h : Rel v0 w0 n ρ st a w) (d : Nat) (cs : List Value) (t : TypeId) :
    Rel v0 w0 n (newRho ρ d w.heap.size) ⟨fun i => killLoc d (st.φ i), at_ st.L d (some cs), hv st.v⟩ a (w.alloc (.cells ⟨cs⟩ t)) := by
  have hold : ∀ k, k ≠ d → newRho ρ d w.heap.size k = ρ k := fun k hk => if_neg hk
  have hsz := h.vis.size
  refine ⟨h.size, h.defers, fun i => RelS.rho d hold (h.slots i), h.vis.alloc _ _ (fun e => by cases e), h.keep.trans (Keep.alloc h.vis _ _), fun k c hc => ?_, fun k k' c c' hc hc' he => ?_⟩
  · change at_ st.L d (some cs) k = some c at hc
    by_cases hk : k = d
    · subst hk
      have hc2 : cs = c := by
        have : at_ st.L k (some cs) k = some cs := by unfold at_; rw [show Nat.beq k k = true by simp]
        rw [this] at hc; simpa using hc
      subst hc2
      have e : newRho ρ k w.heap.size k = w.heap.size := if_pos rfl
      rw [e]
      refine ⟨by have := h.keep.size; omega, ⟨hole, by rw [← hsz.symm]; exact heap_alloc_new _ _, rfl⟩, t, heap_alloc_new _ _⟩
    · have hc2 : st.L k = some c := by
        have : at_ st.L d (some cs) k = st.L k := by unfold at_; rw [show Nat.beq k d = false from Bool.eq_false_iff.2 fun e => hk (Nat.eq_of_beq_eq_true e)]
        rw [this] at hc; exact hc
      obtain ⟨h1, ⟨o, ho, hh⟩, t', ht⟩ := h.locals k c hc2
      rw [hold k hk]
      exact ⟨h1, ⟨o, by unfold hv; rw [heap_alloc_old _ _ _ (some_lt ho)]; exact ho, hh⟩, t', by rw [heap_alloc_old _ _ _ (some_lt ht)]; exact ht⟩
  · have key : ∀ k c, at_ st.L d (some cs) k = some c → k ≠ d → ρ k < w.heap.size := fun k c hc hk => by
      have hc2 : st.L k = some c := by
        have : at_ st.L d (some cs) k = st.L k := by unfold at_; rw [show Nat.beq k d = false from Bool.eq_false_iff.2 fun e => hk (Nat.eq_of_beq_eq_true e)]
        rw [this] at hc; exact hc
      obtain ⟨_, _, t', ht⟩ := h.locals k c hc2
      exact some_lt ht
    have back : ∀ k c, at_ st.L d (some cs) k = some c → k ≠ d → st.L k = some c := fun k c hc hk => by
      have : at_ st.L d (some cs) k = st.L k := by unfold at_; rw [show Nat.beq k d = false from Bool.eq_false_iff.2 fun e => hk (Nat.eq_of_beq_eq_true e)]
      rw [this] at hc; exact hc
    by_cases hk : k = d <;> by_cases hk' : k' = d
    · rw [hk, hk']
    · rw [hold k' hk', hk, show newRho ρ d w.heap.size d = w.heap.size from if_pos rfl] at he
      have := key k' c' hc' hk'
      omega
    · rw [hold k hk, hk', show newRho ρ d w.heap.size d = w.heap.size from if_pos rfl] at he
      have := key k c hc hk
      omega
    · rw [hold k hk, hold k' hk'] at he
      exact h.inj k k' c c' (back k c hc hk) (back k' c' hc' hk') he
theorem wp_local (h : Rel v0 w0 n ρ st a w) {o : Oper} {d : Nat} (hdst : o.dst = some d) (hd : d < n) {cs : List Value} {t : TypeId}
    (hr : (execOp a.eval o).run P w = .ok (.value (.pointer (some ⟨w.heap.size, 0, none⟩))) (w.alloc (.cells ⟨cs⟩ t)))
    (hK : K ⟨put (fun i => killLoc d (st.φ i)) (some d) (.loc d 0), at_ st.L d (some cs), hv st.v⟩) : o.wp P a w (Next' v0 w0 n o.dst ρ a K) Q := by
  have h1 := h.newLocal d cs t
  have hs : RelS (newRho ρ d w.heap.size) (tm a) (.pointer (some ⟨w.heap.size, 0, none⟩)) (.loc d 0) := by
    show _ = Value.pointer (some ⟨newRho ρ d w.heap.size d, 0, none⟩)
    rw [show newRho ρ d w.heap.size d = w.heap.size from if_pos rfl]
  refine wp_value hr ⟨_, newRho ρ d w.heap.size, hK, ?_, ?_⟩
  · rw [hdst]; exact h1.put (d := some d) (fun x hx => by injection hx with e; omega) hs
  · refine ⟨fun k hk => if_neg (fun e => hk (by rw [hdst, e])), fun i hi => ?_⟩
    rw [tm_put a o.dst _ i (fun x hx => by rw [h.size]; rw [hdst] at hx; injection hx with e; omega), if_neg hi]

/-! ### a store to a local variable -/
theorem one_eq (x : Value) : one x = x.oneCell' := by cases x <;> rfl
theorem run_store_ok {w : World} {ad : Addr} {x y : Value} (hx : one x = true) (hc : w.cell? ad = some y) (hf : w.frozen? ad = false) : (store ad x).run P w = .ok () (w.setCell ad x) := by
  rw [run_store P w ad x .plain (by rw [← one_eq]; exact hx), hc]
  simp [hf]
theorem frozen_at {w : World} {b : Nat} {cs : List Value} {t : TypeId} (h : w.heap[b]? = some (.cells ⟨cs⟩ t (0, 0))) (i : Nat) : w.frozen? ⟨b, i, none⟩ = false := by
  simp [World.frozen?, h]
theorem set_cons (cs : List Value) (off : Nat) (u : Value) (us : List Value) (h : off + (us.length + 1) ≤ cs.length) :
    (cs.set off u).take (off + 1) ++ us ++ (cs.set off u).drop (off + 1 + us.length) = cs.take off ++ (u :: us) ++ cs.drop (off + (us.length + 1)) := by
  have h1 : (cs.set off u).take (off + 1) = cs.take off ++ [u] := by
    rw [List.take_succ_eq_append_getElem (by simp; omega)]
    simp [List.take_set_of_le]
  have h2 : (cs.set off u).drop (off + 1 + us.length) = cs.drop (off + (us.length + 1)) := by
    rw [List.drop_set_of_lt (by omega)]
    congr 1; omega
  rw [h1, h2]; simp
theorem run_storeCells_row : ∀ (us : List Value) (w : World) (b off i : Nat) (cs : List Value) (t : TypeId), w.heap[b]? = some (.cells ⟨cs⟩ t (0, 0)) → off + i + us.length ≤ cs.length → us.all one = true →
    ∃ w', (storeCells ⟨b, off, none⟩ us i).run P w = .ok () w' ∧ w'.heap[b]? = some (.cells ⟨cs.take (off + i) ++ us ++ cs.drop (off + i + us.length)⟩ t (0, 0)) ∧
      (∀ j, j ≠ b → w'.heap[j]? = w.heap[j]?) ∧ w'.heap.size = w.heap.size ∧ w'.os = w.os ∧ w'.tape = w.tape ∧ w'.output = w.output
  | [], w, b, off, i, cs, t, hb, _, _ => ⟨w, rfl, by simpa using hb, fun _ _ => rfl, rfl, rfl, rfl, rfl⟩
  | u :: us, w, b, off, i, cs, t, hb, hl, hu => by
    simp only [List.all_cons, Bool.and_eq_true] at hu
    simp only [List.length_cons] at hl
    have hlt : off + i < cs.length := by omega
    have hc : w.cell? ⟨b, off + i, none⟩ = some cs[off + i] := by rw [cell_at hb]; simp [hlt]
    have hst := run_store_ok (P := P) hu.1 hc (frozen_at hb _)
    have hb' : (w.setCell ⟨b, off + i, none⟩ u).heap[b]? = some (.cells ⟨cs.set (off + i) u⟩ t (0, 0)) := by
      rw [setCell_heap, if_pos rfl, hb]; simp
    obtain ⟨w', h1, h2, h3, h4, h5, h6, h7⟩ := run_storeCells_row us (w.setCell ⟨b, off + i, none⟩ u) b off (i + 1) (cs.set (off + i) u) t hb' (by simp; omega) hu.2
    refine ⟨w', ?_, ?_, fun j hj => ?_, ?_, h5, h6, h7⟩
    · unfold storeCells
      rw [Sem.run_bind, add_at, hst]
      exact h1
    · rw [h2]
      congr 3
      have e := set_cons cs (off + i) u us (by omega)
      rw [show off + (i + 1) = off + i + 1 by omega, e]
      rfl
    · rw [h3 j hj, setCell_heap, if_neg hj]
    · rw [h4]; simp [World.setCell]
theorem paste_some {cs cs' us : List Value} {off : Nat} (h : paste cs off us = some cs') : off + us.length ≤ cs.length ∧ cs' = cs.take off ++ us ++ cs.drop (off + us.length) := by
  unfold paste at h
  cases hb : Nat.ble (off + us.length) cs.length with
  | true => rw [hb] at h; exact ⟨by simpa using hb, by simpa using h.symm⟩
  | false => rw [hb] at h; cases h
theorem Rel.store (h : Rel v0 w0 n ρ st a w) {k : Nat} {cs cs' : List Value} (hL : st.L k = some cs) {w' : World} {t : TypeId} (h2 : w'.heap[ρ k]? = some (.cells ⟨cs'⟩ t (0, 0)))
    (h3 : ∀ j, j ≠ ρ k → w'.heap[j]? = w.heap[j]?) (h4 : w'.heap.size = w.heap.size) (h5 : w'.os = w.os) (h6 : w'.tape = w.tape) (h7 : w'.output = w.output) :
    Rel v0 w0 n ρ ⟨st.φ, at_ st.L k (some cs'), st.v⟩ a w' := by
  obtain ⟨hge, ⟨o, ho, hh⟩, t0, ht0⟩ := h.locals k cs hL
  have hat : ∀ j c, at_ st.L k (some cs') j = some c → (j = k ∧ c = cs') ∨ (j ≠ k ∧ st.L j = some c) := fun j c hc => by
    by_cases hj : j = k
    · subst hj
      have : at_ st.L j (some cs') j = some cs' := by unfold at_; rw [show Nat.beq j j = true by simp]
      rw [this] at hc; exact .inl ⟨rfl, by simpa using hc.symm⟩
    · have : at_ st.L k (some cs') j = st.L j := by unfold at_; rw [show Nat.beq j k = false from Bool.eq_false_iff.2 fun e => hj (Nat.eq_of_beq_eq_true e)]
      rw [this] at hc; exact .inr ⟨hj, hc⟩
  refine ⟨h.size, h.defers, h.slots, ⟨h4.trans h.vis.size, h5.trans h.vis.os, h6.trans h.vis.tape, h7.trans h.vis.output, fun b x hb hx => ?_⟩,
    ⟨h.keep.size, h5.trans h.keep.os, h6.trans h.keep.tape, h7.trans h.keep.output, fun b x hb hx => ?_⟩, fun j c hc => ?_, fun j j' c c' hc hc' he => ?_⟩
  · have hne : b ≠ ρ k := by rintro rfl; rw [ho] at hb; injection hb with e; subst e; rw [hh] at hx; cases hx
    rw [h3 b hne]; exact h.vis.block b x hb hx
  · have hlt := some_lt hb
    have hne : b ≠ ρ k := by omega
    exact ⟨(h.keep.hole b x hb hx).1, (h3 b hne).trans (h.keep.hole b x hb hx).2⟩
  · rcases hat j c hc with ⟨rfl, rfl⟩ | ⟨hj, hc2⟩
    · exact ⟨hge, ⟨o, ho, hh⟩, t, h2⟩
    · obtain ⟨g1, g2, t', ht'⟩ := h.locals j c hc2
      have hne : ρ j ≠ ρ k := fun e => hj (h.inj j k c cs hc2 hL e)
      exact ⟨g1, g2, t', by rw [h3 _ hne]; exact ht'⟩
  · have e1 : ∃ x, st.L j = some x := by rcases hat j c hc with ⟨rfl, _⟩ | ⟨_, hc2⟩ <;> exact ⟨_, by assumption⟩
    have e2 : ∃ x, st.L j' = some x := by rcases hat j' c' hc' with ⟨rfl, _⟩ | ⟨_, hc2⟩ <;> exact ⟨_, by assumption⟩
    obtain ⟨x, hx⟩ := e1
    obtain ⟨y, hy⟩ := e2
    exact h.inj j j' x y hx hy he
theorem run_storeVar {t : TypeId} {ad : Addr} {u : Value} (hn : sizeT P t = some u.cells.toList.length) (w : World) : (storeVar t ad u).run P w = (storeCells ad u.cells.toList).run P w := by
  unfold storeVar
  rw [Sem.run_bind, run_sizeOf hn]
  simp

/-! ### cells of the world -/
theorem kex_some {F : Value → Prop} : ∀ {k : Kd}, kex k F → ∃ x, F x
  | .int _, ⟨_, h⟩ => ⟨_, h⟩
  | .bool, ⟨_, h⟩ => ⟨_, h⟩
  | .str, ⟨_, h⟩ => ⟨_, h⟩
  | .ptr, ⟨_, h⟩ => ⟨_, h⟩
  | .slice, ⟨_, _, _, h⟩ => ⟨_, h⟩
  | .float _, ⟨_, h⟩ => ⟨_, h⟩
  | .cplx _, ⟨_, _, h⟩ => ⟨_, h⟩
  | .any, ⟨_, h⟩ => ⟨_, h⟩
theorem readC_sound {v : World} {ad : Addr} {F : List Value → Prop} : ∀ (ks : List Kd) (i : Nat), readC v ad i ks F → ∃ cs, cs.length = ks.length ∧ (∀ j x, cs[j]? = some x → v.cell? (ad.add (i + j)) = some x) ∧ F cs
  | [], _, h => ⟨[], rfl, fun j x hx => by simp at hx, h⟩
  | k :: ks, i, h => by
    obtain ⟨x, hx, hr⟩ := kex_some h
    obtain ⟨cs, hl, hc, hF⟩ := readC_sound (F := fun xs => F (x :: xs)) ks (i + 1) hr
    refine ⟨x :: cs, by simp [hl], fun j y hy => ?_, hF⟩
    cases j with
    | zero => simp only [List.getElem?_cons_zero, Option.some.injEq] at hy; subst hy; exact hx
    | succ j => simp only [List.getElem?_cons_succ] at hy; have := hc j y hy; rwa [show i + 1 + j = i + (j + 1) by omega] at this
theorem writeC_sound {F : World → Prop} {ad : Addr} : ∀ (us : List Value) (i : Nat) (v w : World), Vis v w → us.all one = true → writeC v ad i us F →
    ∃ w' v', (storeCells ad us i).run P w = .ok () w' ∧ Vis v' w' ∧ Keep v w v' w' ∧ F v'
  | [], _, v, w, hv, _, h => ⟨w, v, rfl, hv, Keep.refl v w, h⟩
  | u :: us, i, v, w, hv, hu, h => by
    simp only [List.all_cons, Bool.and_eq_true] at hu
    obtain ⟨⟨y, hy⟩, hf, hr⟩ := h
    have hst := run_store_ok (P := P) hu.1 (hv.cell hy) ((hv.frozen hy).trans hf)
    obtain ⟨w', v', h1, h2, h3, h4⟩ := writeC_sound us (i + 1) _ _ (hv.setCell hy u) hu.2 hr
    refine ⟨w', v', ?_, h2, (Keep.setCell hy u).trans h3, h4⟩
    unfold storeCells
    rw [Sem.run_bind, hst]
    exact h1

/-! ### results by type -/
theorem exT_sound {F : List Value → Prop} : ∀ {ks : List Kd}, exT ks F → ∃ cs, F cs
  | [], h => ⟨[], h⟩
  | k :: ks, h => by
    obtain ⟨x, hx⟩ := kex_some h
    obtain ⟨cs, hc⟩ := exT_sound hx
    exact ⟨_, hc⟩
theorem exV_sound {F : Value → Prop} {t : TypeId} (h : exV P t F) : ∃ x, F x := by
  unfold exV at h
  split at h
  · obtain ⟨cs, hc⟩ := exT_sound h; exact ⟨_, hc⟩
  · exact h.elim
theorem exVs_sound : ∀ {ts : List TypeId} {F : List Value → Prop}, exVs P ts F → ∃ xs, F xs
  | [], _, h => ⟨[], h⟩
  | t :: ts, F, h => by
    obtain ⟨x, hx⟩ := exV_sound h
    obtain ⟨xs, hxs⟩ := exVs_sound hx
    exact ⟨_, hxs⟩
theorem exR_sound {F : Value → Prop} {t : TypeId} (h : exR P t F) : ∃ x, F x := by
  unfold exR at h
  split at h
  · obtain ⟨xs, hx⟩ := exVs_sound h; exact ⟨_, hx⟩
  · exact exV_sound h
theorem run_callFunc {f : FuncId} {fn : Func} (hf : P.funcs[f]? = some fn) (h : (fn.body.isSome && !(fn.name == "runtime.NumGoroutine")) = true) (args : Array Value) (w : World) :
    (callFunc f args).run P w = .ok (.enter f args) w := by
  simp only [Bool.and_eq_true, Bool.not_eq_true'] at h
  have h1 : fn.body ≠ none := by intro e; rw [e] at h; simp at h
  have h2 : fn.name ≠ "runtime.NumGoroutine" := by simpa using h.2
  simp [callFunc, hf, h2, h1]
theorem bound_sound {f : Operand → Value} {x : Option Operand} {d l : Int} (h : bound x f d = some l) : (x = none ∧ l = d) ∨ ∃ y k, x = some y ∧ f y = .int k l := by
  unfold bound at h
  split at h
  · exact .inl ⟨rfl, by simpa using h.symm⟩
  · rename_i y
    split at h
    · rename_i k m hm
      simp only [Option.some.injEq] at h
      subst h
      exact .inr ⟨y, k, rfl, hm⟩
    · cases h
end
end Vc
end Go.Proofs.Ytnlekdpnjphmfaa
