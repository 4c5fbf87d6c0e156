/- Pure evaluation of the model's code: operations that make memory. -/
import Derived.Test.YtgcgdfjldeihkaaPs
import Derived.Laws.MakeOwn
import Derived.Laws.OwnMore
import Derived.ArgAppend
import Derived.Lib.ConvBytes
namespace Go.Proofs.Ytgcgdfjldeihkaa
namespace Pv
set_option linter.unusedVariables false
structure Grew (w : World) (C : Com) (w' : World) (C' : Com) : Prop where
  size : w.heap.size ≤ w'.heap.size
  old : ∀ b, b < w.heap.size → w'.heap[b]? = w.heap[b]?
  os : w'.os = w.os
  tape : w'.tape = w.tape
  output : w'.output = w.output
  com : ∀ b o, b < w.heap.size → (C' b o ↔ C b o)
  lim : ∀ b o, C' b o → b < w'.heap.size
theorem cell_lt {w : World} {a : Addr} {u : Value} (h : w.cell? a = some u) : a.block < w.heap.size := by
  unfold World.cell? at h
  rcases Nat.lt_or_ge a.block w.heap.size with hlt | hge
  · exact hlt
  · rw [Array.getElem?_eq_none hge] at h; cases h
section
variable {F : Fr} {w w' : World} {C C' : Com}
theorem Grew.gw (G : Grew w C w' C') : Gw w C w' C' := fun a u h hc => by
  have hlt := cell_lt h
  refine ⟨?_, (G.com _ _ hlt).2 hc⟩
  unfold World.cell? at h ⊢
  rw [G.old _ hlt]; exact h
theorem Frame.grew (h : Frame F C w) (G : Grew w C w' C') : Frame F C' w' where
  size := Nat.le_trans h.size G.size
  os := G.os.trans h.os
  tape := G.tape.trans h.tape
  output := G.output.trans h.output
  old := fun b hb hx => (G.old b (Nat.lt_of_lt_of_le hb h.size)).trans (h.old b hb hx)
  shape := fun b cs T fr hb hcs => by
    obtain ⟨cs', fr', h1, h2, h3⟩ := h.shape b cs T fr hb hcs
    exact ⟨cs', fr', (G.old b (Nat.lt_of_lt_of_le hb h.size)).trans h1, h2, h3⟩
  com := fun b o hb hx => (G.com b o (Nat.lt_of_lt_of_le hb h.size)).trans (h.com b o hb hx)
  mono := fun b o hc => by
    have := h.mono b o hc
    exact (G.com b o (h.lim b o this)).2 this
  lim := G.lim
theorem Grew.alloc (hlim : ∀ b o, C b o → b < w.heap.size) (o : Obj) : Grew w C (w.alloc o) C where
  size := by rw [World.size_alloc]; omega
  old := fun b hb => heap_alloc_old _ _ _ hb
  os := rfl
  tape := rfl
  output := rfl
  com := fun _ _ _ => Iff.rfl
  lim := fun b o hc => by have := hlim b o hc; rw [World.size_alloc]; omega
end
section
variable {E : Env} {F : Fr} {g g' : Gh} {st : PSt} {a : Act} {w w' : World} {o : Oper} {R : Type} {C : Upd → Option R} {r : R} {tmf : Nat → Value} {O : Tok → Bool} {P : Program} {u : Upd} {v : Value}
theorem lives_grew (h : MRel F g st tmf w) (G : Grew w g.C w' g'.C) {O' : Tok → Bool} {k : Tok} (hO : O' k = true → st.O k = true) (hb : O' k = true → g'.blk k = g.blk k) : Lives g w st.O g' w' O' k := fun ho =>
  ⟨hO ho, hb ho, fun b hbl => ⟨G.old b (h.blkS k b (hO ho) hbl), fun x => G.com b x (h.blkS k b (hO ho) hbl)⟩⟩
theorem OutR.grew (h : MRel F g st (tm a) w) (G : Grew w g.C w' g'.C) (hlive : ∀ k, k ∉ u.born → putO st.O u.born u.gone k = true → g'.blk k = g.blk k) (hρ : ∀ k, g'.ρ k = g.ρ k ∨ (st.L k = none ∧ ∃ ls, (k, ls) ∈ u.loc)) (hH : g'.H = g.H)
    (hval : ∀ tmf, RelP F g' w' (putO st.O u.born u.gone) tmf v u.val) (hns : ∀ t want ag ls, u.val ≠ .spec t want ag ls) (hlocs : ∀ k ls, (k, ls) ∈ u.loc → LocOk F g' w' (putO st.O u.born u.gone) ls (g'.ρ k))
    (hb0 : g'.blk .zero = none) (hborn : ∀ k b, k ∈ u.born → g'.blk k = some b → (w.heap.size ≤ b ∨ ∃ k0, k0 ∈ u.gone ∧ st.O k0 = true ∧ g.blk k0 = some b) ∧ b < w'.heap.size)
    (hbi : ∀ k k' b, k ∈ u.born → k' ∈ u.born → g'.blk k = some b → g'.blk k' = some b → k = k')
    (hnew : ∀ k ls, (k, ls) ∈ u.loc → st.L k = none → w.heap.size ≤ (g'.ρ k).1 ∧ (∀ t b, t ∈ u.born → g'.blk t = some b → b ≠ (g'.ρ k).1) ∧ ∀ k' ls', (k', ls') ∈ u.loc → st.L k' = none → (g'.ρ k').1 = (g'.ρ k).1 → k' = k) :
    OutR F g st w u v g' w' where
  fr := h.fr.grew G
  gw := G.gw
  live := fun k hk => lives_grew h G (fun ho => ((putO_true.1 ho).resolve_left hk).2) (hlive k hk)
  ρ := fun k x hL => by
    rcases hρ k with e | ⟨e, _⟩
    · exact e
    · rw [e] at hL; cases hL
  ρn := hρ
  H := hH
  val := hval
  nospec := hns
  locs := hlocs
  rest := fun k x hL _ => by
    obtain ⟨cur, T, hc, _⟩ := h.locals k x.1 x.2 hL
    have hlt : (g.ρ k).1 < w.heap.size := by
      rcases Nat.lt_or_ge (g.ρ k).1 w.heap.size with hlt | hge
      · exact hlt
      · rw [Array.getElem?_eq_none hge] at hc; cases hc
    exact ⟨G.old _ hlt, fun x => G.com _ x hlt⟩
  blk0 := hb0
  born := hborn
  bornI := hbi
  new := hnew
def newRho (ρ : Nat → Nat × Nat) (d b : Nat) : Nat → Nat × Nat := fun k => if k = d then (b, 0) else ρ k
theorem putO_nil {O : Tok → Bool} : putO O [] [] = O := funext fun k => rfl
/-- A local variable is laid. -/
theorem out_local (h : MRel F g st (tm a) w) {d : Nat} (hd : st.L d = none) {ls : List Leaf} {cs : Array Value} {T : TypeId} (hr : RepLs F g w st.O ls cs.toList) :
    OutR F g st w ⟨.loc d 0, [(d, ls)], [], []⟩ (.pointer (some ⟨w.heap.size, 0, none⟩)) { g with ρ := newRho g.ρ d w.heap.size } (w.alloc (.cells cs T)) := by
  have G : Grew w g.C (w.alloc (.cells cs T)) g.C := Grew.alloc h.fr.lim _
  have hb : w.heap.size ≥ F.w0.heap.size := h.fr.size
  refine OutR.grew h G (fun k _ _ => rfl) (fun k => ?_) rfl (fun tmf => ?_) (fun _ _ _ _ e => by cases e) (fun k l hm => ?_) h.blk0 (fun k b hm => by cases hm) (fun k k' b hm => by cases hm) (fun k l hm hn => ?_)
  · by_cases hne : k = d
    · subst hne; exact .inr ⟨hd, ls, by simp⟩
    · exact .inl (if_neg hne)
  · show _ = Value.pointer (some ⟨(newRho g.ρ d w.heap.size d).1, (newRho g.ρ d w.heap.size d).2 + 0, none⟩)
    unfold newRho
    rw [if_pos rfl]
  · have hm' : (k, l) = (d, ls) := by simpa using hm
    cases hm'
    show LocOk F _ _ _ ls (newRho g.ρ d w.heap.size d)
    unfold newRho
    rw [if_pos rfl]
    refine ⟨cs, (T, (0, 0)), heap_alloc_new _ _, ?_, ?_, fun o _ _ => ⟨fun hc => ?_, .inl hb⟩, fun o _ => .inr (Nat.zero_le o)⟩
    · have := repLs_len hr
      simp at this
      simp [this]
    · have hl := repLs_len hr
      rw [List.drop_zero, List.take_of_length_le (by omega), putO_nil]
      exact hr.gw G.gw fun k' E e x _ => lives_grew h G (fun ho => ho) (fun _ => rfl)
    · have := h.fr.lim _ _ hc
      omega
  · have hm' : (k, l) = (d, ls) := by simpa using hm
    cases hm'
    have e : newRho g.ρ d w.heap.size d = (w.heap.size, 0) := if_pos rfl
    refine ⟨by show w.heap.size ≤ (newRho g.ρ d w.heap.size d).1; rw [e]; exact Nat.le_refl _, fun t b ht => by (cases ht), fun k' ls' hm2 _ _ => ?_⟩
    have hm3 : (k', ls') = (d, ls) := by simpa using hm2
    cases hm3
    rfl
theorem go_alloc (h : MRel F g st (tm a) w) {t : TypeId} (hop : o.op = .alloc t) (hv : pvU E o st (evK st.kn st.φ) C = some r) : Goes E F g st a w o C r := by
  simp only [pvU, hop] at hv
  split at hv
  · rename_i ts i d hts hi hd
    split at hv
    · rename_i z hz
      split at hv
      · rename_i hb
        simp only [Bool.and_eq_true] at hb
        have hr := zeroTs_rep (F := F) (g := g) (w := w) (O := st.O) h.blk0 hb.1
        exact goes_val (v := .pointer (some ⟨w.heap.size, 0, none⟩)) (by simp [execOp, hop, Instr.alloc, zeroValue, typeInfo, hi, hz, newVar, newRow]) (out_local (T := t) h (h.fresh d hb.2).2.2.2 hr) hv
      · cases hv
    · cases hv
  · cases hv
theorem go_box (h : MRel F g st (tm a) w) {t : TypeId} {x : Operand} (hop : o.op = .box t x) (hv : pvU E o st (evK st.kn st.φ) C = some r) : Goes E F g st a w o C r := by
  simp only [pvU, hop] at hv
  have hx := norm_rel (P := E.P) (ty := t) h.blk0 (ev_rel h x)
  split at hv
  · rename_i ag ls d he hd
    rw [he] at hx
    split at hv
    · rename_i hf
      exact goes_val (v := .pointer (some ⟨w.heap.size, 0, none⟩)) (by simp [execOp, hop, Instr.box, newVar, newRow]) (out_local (T := t) h (h.fresh d hf).2.2.2 (relV_cells hx)) hv
    · cases hv
  · cases hv

/-! ### a store to a local variable -/
theorem one_eq (x : Value) : one x = x.oneCell' := by cases x <;> rfl
theorem run_store_ok {w : World} {ad : Addr} {x y : Value} (hx : one x = true) (hc : w.cell? ad = some y) (hf : w.frozen? ad = false) : (store ad x).run P w = .ok () (w.setCell ad x) := by
  rw [run_store P w ad x .plain (by rw [← one_eq]; exact hx), hc]
  simp [hf]
theorem frozen_at {w : World} {b : Nat} {cs : Array Value} {t : TypeId} {f : Nat × Nat} (h : w.heap[b]? = some (.cells cs t f)) {i : Nat} (hi : Thaw f i) : w.frozen? ⟨b, i, none⟩ = false := by
  obtain ⟨lo, hf⟩ := f
  simp only [World.frozen?, h]
  rcases hi with hi | hi
  · have hi : i < lo := hi
    simp; omega
  · have hi : hf ≤ i := hi
    simp; omega
theorem setCell_heap (w : World) (a : Addr) (u : Value) (b : Nat) : (w.setCell a u).heap[b]? = if b = a.block then (w.heap[b]?).map (fun o => match o with | .cells c e f => .cells (if a.spot.isSome then c else c.setIfInBounds a.off u) e f | o => o) else w.heap[b]? := by
  unfold World.setCell
  simp only [Array.getElem?_modify]
  by_cases e : a.block = b
  · subst e; simp; congr 1
  · rw [if_neg e, if_neg (fun h => e h.symm)]
theorem run_storeCells_row {f : Nat × Nat} : ∀ (us : List Value) (w : World) (b off i : Nat) (cs : Array Value) (t : TypeId), w.heap[b]? = some (.cells cs t f) → off + i + us.length ≤ cs.size → (∀ o, o < off + i + us.length → Thaw f o) → us.all one = true →
    ∃ w' cs', (storeCells ⟨b, off, none⟩ us i).run P w = .ok () w' ∧ w'.heap[b]? = some (.cells cs' t f) ∧ cs'.size = cs.size ∧ (∀ k, cs'[k]? = if off + i ≤ k ∧ k < off + i + us.length then us[k - (off + i)]? else cs[k]?) ∧
      (∀ j, j ≠ b → w'.heap[j]? = w.heap[j]?) ∧ w'.heap.size = w.heap.size ∧ w'.os = w.os ∧ w'.tape = w.tape ∧ w'.output = w.output
  | [], w, b, off, i, cs, t, hb, _, _, _ => ⟨w, cs, rfl, hb, rfl, fun k => by simp only [List.length_nil]; rw [if_neg (by omega)], fun _ _ => rfl, rfl, rfl, rfl, rfl⟩
  | u :: us, w, b, off, i, cs, t, hb, hl, hth, hu => by
    simp only [List.all_cons, Bool.and_eq_true] at hu
    simp only [List.length_cons] at hl hth
    have hlt : off + i < cs.size := by omega
    have hc : w.cell? ⟨b, off + i, none⟩ = some cs[off + i] := by rw [cell_at hb]; simp [hlt]
    have hst := run_store_ok (P := P) hu.1 hc (frozen_at hb (hth _ (by omega)))
    have hb' : (w.setCell ⟨b, off + i, none⟩ u).heap[b]? = some (.cells (cs.setIfInBounds (off + i) u) t f) := by
      rw [setCell_heap, if_pos rfl, hb]; simp
    obtain ⟨w', cs', h1, h2, h8, h9, h3, h4, h5, h6, h7⟩ := run_storeCells_row us (w.setCell ⟨b, off + i, none⟩ u) b off (i + 1) (cs.setIfInBounds (off + i) u) t hb' (by simp; omega) (fun o ho => hth o (by omega)) hu.2
    refine ⟨w', cs', ?_, h2, by simpa using h8, fun k => ?_, fun j hj => ?_, ?_, h5, h6, h7⟩
    · unfold storeCells
      rw [Sem.run_bind, add_at, hst]
      exact h1
    · rw [h9 k]
      simp only [List.length_cons]
      by_cases e : k = off + i
      · subst e
        rw [if_neg (by omega), if_pos (by omega)]
        simp [hlt]
      · by_cases hin : off + (i + 1) ≤ k ∧ k < off + (i + 1) + us.length
        · rw [if_pos hin, if_pos (by omega), show k - (off + i) = (k - (off + (i + 1))) + 1 by omega, List.getElem?_cons_succ]
        · rw [if_neg hin, if_neg (by omega)]
          simp [Ne.symm e]
    · rw [h3 j hj, setCell_heap, if_neg hj]
    · rw [h4]; simp [World.setCell]
theorem run_storeVar {t : TypeId} {ad : Addr} {u : Value} (hn : sizeT P t = some u.cells.toList.length) (w : World) : (storeVar t ad u).run P w = (storeCells ad u.cells.toList).run P w := by
  unfold storeVar
  rw [Sem.run_bind, run_sizeOf hn]
  simp
/-- One block is written, at cells that are not committed. -/
theorem write_block {b : Nat} {cur cur' : Array Value} {T : TypeId} {f : Nat × Nat} {C : Com} (hF : Frame F C w) (hb : w.heap[b]? = some (.cells cur T f)) (hb' : w'.heap[b]? = some (.cells cur' T f)) (hsz : cur'.size = cur.size)
    (hne : ∀ j, j ≠ b → w'.heap[j]? = w.heap[j]?) (hs : w'.heap.size = w.heap.size) (h5 : w'.os = w.os) (h6 : w'.tape = w.tape) (h7 : w'.output = w.output) (hk : ∀ o, cur'[o]? = cur[o]? ∨ (¬ C b o ∧ Wr F b o)) : Frame F C w' ∧ Gw w C w' C := by
  refine ⟨⟨by rw [hs]; exact hF.size, h5.trans hF.os, h6.trans hF.tape, h7.trans hF.output, fun j hj hx => ?_, fun j cs T' fr hj hcs => ?_, hF.com, hF.mono, fun j o hc => by rw [hs]; exact hF.lim j o hc⟩, fun ad u hc hC => ⟨?_, hC⟩⟩
  · by_cases e : j = b
    · subst e
      rw [← hF.old j hj hx, hb, hb']
      congr 2
      apply Array.ext_getElem?
      intro o
      rcases hk o with h | ⟨_, h⟩
      · exact h
      · exfalso
        rcases h with h | h
        · omega
        · exact hx o h
    · rw [hne j e]; exact hF.old j hj hx
  · obtain ⟨cs', fr', h1, h2, h3⟩ := hF.shape j cs T' fr hj hcs
    by_cases e : j = b
    · subst e
      rw [hb] at h1
      injection h1 with h1
      injection h1 with e1 e2 e3
      subst e1; subst e2; subst e3
      refine ⟨cur', _, hb', hsz.trans h2, fun o ho => ?_⟩
      rcases hk o with h | ⟨_, h⟩
      · rw [h]; exact h3 o ho
      · exfalso
        rcases h with h | h
        · omega
        · exact ho h
    · exact ⟨cs', fr', (hne j e).trans h1, h2, h3⟩
  · unfold World.cell? at hc ⊢
    by_cases e : ad.block = b
    · rw [e, hb'] ; rw [e, hb] at hc
      simp only at hc ⊢
      by_cases hsp : ad.spot.isSome = true
      · rw [if_pos hsp] at hc; cases hc
      · rw [if_neg hsp] at hc ⊢
        rcases hk ad.off with h | ⟨h, _⟩
        · rw [h]; exact hc
        · rw [e] at hC; exact (h hC).elim
    · rw [hne _ e]; exact hc
theorem sizeLs_append : ∀ (a b : List Leaf), sizeLs (a ++ b) = sizeLs a + sizeLs b
  | [], b => by simp [sizeLs]
  | l :: a, b => by simp [sizeLs, sizeLs_append a b, Nat.add_assoc]
theorem loc_list {k σ : Nat} {ls : List Leaf} (h : MRel F g st tmf w) (hL : st.L k = some (σ, ls)) : ∃ cs, RepLs F g w st.O ls cs ∧ ∃ (cur : Array Value) (T : TypeId × (Nat × Nat)), w.heap[(g.ρ k).1]? = some (.cells cur T.1 T.2) ∧ (g.ρ k).2 + sizeLs ls ≤ cur.size ∧ cs = (cur.toList.drop (g.ρ k).2).take (sizeLs ls) := by
  obtain ⟨cur, T, hb, hle, hrep, _⟩ := h.locals k σ ls hL
  exact ⟨_, hrep, cur, T, hb, hle, rfl⟩
/-- Cells of a local variable are overwritten. -/
theorem out_write (h : MRel F g st (tm a) w) {k σ q : Nat} {ls ls' : List Leaf} {us cs : List Value} (hL : st.L k = some (σ, ls)) (hsz : sizeLs ls' = sizeLs ls) (hq : q + us.length ≤ sizeLs ls) (hone : us.all one = true)
    (hnew : ∀ cs, RepLs F g w st.O ls cs → RepLs F g w st.O ls' (cs.take q ++ us ++ cs.drop (q + us.length))) :
    ∃ w', (storeCells ⟨(g.ρ k).1, (g.ρ k).2 + q, none⟩ us).run P w = .ok () w' ∧ OutR F g st w ⟨.raw undef, [(k, ls')], [], []⟩ undef g w' := by
  obtain ⟨cur, T, hb, hle, hrep, hwr, hth⟩ := h.locals k σ ls hL
  obtain ⟨w', cur', h1, h2, h3, h4, h5, h6, h7, h8, h9⟩ := run_storeCells_row (P := P) us w (g.ρ k).1 ((g.ρ k).2 + q) 0 cur T.1 hb (by omega) (fun o ho => hth o (by omega)) hone
  have hkk : ∀ o, cur'[o]? = cur[o]? ∨ (¬ g.C (g.ρ k).1 o ∧ Wr F (g.ρ k).1 o) := fun o => by
    rw [h4 o]
    by_cases hin : (g.ρ k).2 + q + 0 ≤ o ∧ o < (g.ρ k).2 + q + 0 + us.length
    · exact .inr (hwr o (by omega) (by omega))
    · rw [if_neg hin]; exact .inl rfl
  obtain ⟨hF, hG⟩ := write_block h.fr hb h2 h3 h5 h6 h7 h8 h9 hkk
  have hkp : ∀ b, b ≠ (g.ρ k).1 → Kp g w g w' b := fun b hne => ⟨h5 b hne, fun _ => Iff.rfl⟩
  have hlive : ∀ t, Lives g w st.O g w' st.O t := fun t ho => ⟨ho, rfl, fun b hbl => hkp b fun e => h.blkL t b k _ ho hbl hL e.symm⟩
  refine ⟨w', h1, ⟨hF, hG, fun t _ => by rw [putO_nil]; exact hlive t, fun _ _ _ => rfl, fun _ => .inl rfl, rfl, fun _ => rfl, fun _ _ _ _ e => by (cases e), fun k' l2 hm' => ?_, fun j x hj hnm => hkp _ fun e => ?_, h.blk0, fun _ _ hm => by (cases hm), fun _ _ _ hm => by (cases hm), fun k' l2 hm' hn => ?_⟩⟩
  · have e : (k', l2) = (k, ls') := by simpa using hm'
    cases e
    rw [putO_nil]
    refine ⟨cur', T, h2, by rw [h3, hsz]; exact hle, ?_, fun o ho ho' => by rw [hsz] at ho'; exact hwr o ho ho', fun o ho => by rw [hsz] at ho; exact hth o ho⟩
    have hn := hnew _ hrep
    have hcl : ((cur.toList.drop (g.ρ k).2).take (sizeLs ls)).length = sizeLs ls := by
      rw [List.length_take, List.length_drop]; simp; omega
    have : (cur'.toList.drop (g.ρ k).2).take (sizeLs ls') = ((cur.toList.drop (g.ρ k).2).take (sizeLs ls)).take q ++ us ++ ((cur.toList.drop (g.ρ k).2).take (sizeLs ls)).drop (q + us.length) := by
      apply List.ext_getElem?
      intro i
      rw [hsz, List.getElem?_take, List.getElem?_drop, Array.getElem?_toList, h4]
      by_cases h1 : i < q
      · rw [if_pos (by omega), if_neg (by omega), List.append_assoc, List.getElem?_append_left (by simp; omega), List.getElem?_take, if_pos h1, List.getElem?_take, if_pos (by omega), List.getElem?_drop, Array.getElem?_toList]
      · have hlq : (((cur.toList.drop (g.ρ k).2).take (sizeLs ls)).take q).length = q := by rw [List.length_take, hcl]; omega
        by_cases h2 : i < q + us.length
        · rw [if_pos (by omega), if_pos (by omega), List.append_assoc, List.getElem?_append_right (by omega), hlq, List.getElem?_append_left (by omega)]
          congr 1; omega
        · rw [List.append_assoc, List.getElem?_append_right (by omega), hlq, List.getElem?_append_right (by omega), List.getElem?_drop, List.getElem?_take]
          by_cases h3 : i < sizeLs ls
          · rw [if_pos h3, if_neg (by omega), if_pos (by omega), List.getElem?_drop, Array.getElem?_toList]
            congr 1; omega
          · rw [if_neg h3, if_neg (by omega)]
    rw [this]
    exact hn.gw hG fun t E e x _ => hlive t
  · have := h.ρI j k x _ hj hL e
    subst this
    simp at hnm
  · have e : (k', l2) = (k, ls') := by simpa using hm'
    cases e
    rw [hL] at hn; cases hn
theorem out_store (h : MRel F g st (tm a) w) {k σ : Nat} {ls p m c vs : List Leaf} {us : List Value} (hL : st.L k = some (σ, ls)) (hls : ls = p ++ m ++ c) (hm : sizeLs m = sizeLs vs) (hvs : RepLs F g w st.O vs us) :
    ∃ w', (storeCells ⟨(g.ρ k).1, (g.ρ k).2 + sizeLs p, none⟩ us).run P w = .ok () w' ∧ OutR F g st w ⟨.raw undef, [(k, p ++ vs ++ c)], [], []⟩ undef g w' := by
  have hlen := repLs_len hvs
  refine out_write (cs := []) h hL (by rw [hls]; simp only [sizeLs_append]; omega) (by rw [hls]; simp only [sizeLs_append]; omega) (repLs_one hvs) fun cs hcs => ?_
  rw [hls] at hcs
  obtain ⟨c12, c3, rfl, hr12, hr3⟩ := repLs_split hcs
  obtain ⟨c1, c2, rfl, hr1, hr2⟩ := repLs_split hr12
  have hl1 := repLs_len hr1
  have hl2 := repLs_len hr2
  have e1 : (c1 ++ c2 ++ c3).take (sizeLs p) = c1 := by rw [← hl1, List.append_assoc]; simp
  have e2 : (c1 ++ c2 ++ c3).drop (sizeLs p + us.length) = c3 := by
    rw [show sizeLs p + us.length = (c1 ++ c2).length by simp; omega]; simp
  rw [e1, e2]
  exact repLs_append (repLs_append hr1 hvs) hr3
theorem row_over {n s : Nat} {ca us : List Value} {j : Nat} (hl : ca.length = n * s) (hus : us.length = s) (hj : j < n) (i : Nat) (hi : i < n) :
    ((ca.take (j * s) ++ us ++ ca.drop (j * s + s)).drop (i * s)).take s = if i = j then us else (ca.drop (i * s)).take s := by
  have hjs : j * s + s ≤ n * s := by have := Nat.mul_le_mul_right s (show j + 1 ≤ n by omega); rw [Nat.add_mul] at this; omega
  have his : i * s + s ≤ n * s := by have := Nat.mul_le_mul_right s (show i + 1 ≤ n by omega); rw [Nat.add_mul] at this; omega
  have hlt : (ca.take (j * s)).length = j * s := by rw [List.length_take]; omega
  by_cases e : i = j
  · subst e
    rw [if_pos rfl, List.append_assoc, List.drop_append_of_le_length (by omega), List.drop_of_length_le (by omega), List.nil_append, List.take_append_of_le_length (by omega), List.take_of_length_le (by omega)]
  · rw [if_neg e]
    apply List.ext_getElem?
    intro q
    rw [List.getElem?_take, List.getElem?_take, List.getElem?_drop, List.getElem?_drop]
    by_cases hq : q < s
    · rw [if_pos hq, if_pos hq]
      rcases Nat.lt_or_gt_of_ne e with hlt' | hgt
      · have : i * s + s ≤ j * s := by have := Nat.mul_le_mul_right s (show i + 1 ≤ j by omega); rw [Nat.add_mul] at this; omega
        rw [List.append_assoc, List.getElem?_append_left (by omega), List.getElem?_take, if_pos (by omega)]
      · have : j * s + s ≤ i * s := by have := Nat.mul_le_mul_right s (show j + 1 ≤ i by omega); rw [Nat.add_mul] at this; omega
        rw [List.append_assoc, List.getElem?_append_right (by omega), hlt, List.getElem?_append_right (by omega), List.getElem?_drop]
        congr 1; omega
    · rw [if_neg hq, if_neg hq]
theorem set_get {α : Type} {l : List α} {i j : Nat} {x : α} (h : i < l.length) : (l.set i x)[j]? = if i = j then some x else l[j]? := by
  rw [List.getElem?_set]; simp [h]
theorem arr_set {C : Com} {n : Nat} {e : Ty} {l : List e.D} {ca us : List Value} {j : Nat} {z : e.D} (h : RepD w C (.arr n e) l ca) (hz : RepD w C e z us) (hj : j < n) :
    RepD w C (.arr n e) (l.set j z) (ca.take (j * e.size) ++ us ++ ca.drop (j * e.size + e.size)) := by
  obtain ⟨a1, a2, a3⟩ := h
  have hll : l.length = n := a1
  have hlen := hz.len
  have hjs : j * e.size + e.size ≤ n * e.size := by have := Nat.mul_le_mul_right e.size (show j + 1 ≤ n by omega); rw [Nat.add_mul] at this; omega
  refine ⟨(List.length_set ..).trans a1, ?_, fun i x hi => ?_⟩
  · simp only [List.length_append, List.length_take, List.length_drop, hlen]
    omega
  · have hi' : (l.set j z)[i]? = some x := hi
    rw [set_get (by omega)] at hi'
    have him : i < n := by
      by_cases hij : j = i
      · omega
      · rw [if_neg hij] at hi'
        have := (List.getElem?_eq_some_iff.1 hi').1
        omega
    rw [row_over a2 hlen hj i him]
    by_cases hij : j = i
    · rw [if_pos hij] at hi'
      injection hi' with hi'
      rw [if_pos hij.symm, ← hi']
      exact hz
    · rw [if_neg hij] at hi'
      rw [if_neg (fun e => hij e.symm)]
      exact a3 i x hi'
theorem go_store (h : MRel F g st (tm a) w) {t : TypeId} {x y : Operand} (hop : o.op = .store t x y) (hv : pvU E o st (evK st.kn st.φ) C = some r) : Goes E F g st a w o C r := by
  simp only [pvU, hop] at hv
  have hx := ev_rel h x
  have hy := norm_rel (P := E.P) (ty := t) h.blk0 (ev_rel h y)
  split at hv
  · rename_i k off ag vs n he hvs hn
    rw [he] at hx
    have hx' : a.eval x = _ := hx
    split at hv
    · rename_i σ ls hL hnv
      split at hv
      · rename_i ls' hov
        obtain ⟨p, m, c, hls, hsp, hsm, rfl⟩ := overLs_some hov
        have hcs := relV_cells (val_rel hvs hy)
        have hn' : n = sizeLs vs := by simpa using hnv
        obtain ⟨w', h1, hU⟩ := out_store (P := E.P) h hL hls hsm hcs
        rw [hsp] at h1
        have hs := run_storeVar (P := E.P) (t := t) (ad := ⟨(g.ρ k).1, (g.ρ k).2 + off, none⟩) (u := a.eval y) (by rw [repLs_len hcs, ← hn']; exact hn) w
        exact goes_skip (w' := w') (by simp only [execOp, hop, hx', Instr.storeAt, Instr.sureAddr, Sem.run_bind, Sem.run_pure, Result.andThen_ok, hs, h1]) hU hv
      · cases hv
    · cases hv
  · rename_i k off e j s ag vs n he hvs hn
    rw [he] at hx
    obtain ⟨h0, hx'⟩ := hx
    split at hv
    · rename_i σ ls hL hb
      simp only [Bool.and_eq_true] at hb
      have hn1 : n = sizeLs vs := by simpa using hb.1.1
      have hn2 : n = e.size := by simpa using hb.1.2
      have hs0 : s = 0 := by simpa using hb.2
      subst hs0
      split at hv
      · rename_i p m e' l q hsplit
        split at hv
        · rename_i z hte hz
          have := teq_eq hte
          subst this
          obtain ⟨hjm, hv⟩ := chk_some hv
          have hjm' : j < (m : Int) := by simpa using hjm
          obtain ⟨hls, hsp⟩ := splitLs_some hsplit
          have hcs := relV_cells (val_rel hvs hy)
          have hzr := unflatAll_rep hz hcs
          have hlen : (a.eval y).cells.toList.length = e'.size := hzr.len
          have hjn : j.toNat < m := by omega
          have hjs : j.toNat * e'.size + e'.size ≤ m * e'.size := by have := Nat.mul_le_mul_right e'.size (show j.toNat + 1 ≤ m by omega); rw [Nat.add_mul] at this; omega
          have hsize : sizeLs ls = off + (m * e'.size + sizeLs q) := by rw [hls, sizeLs_append, hsp]; rfl
          obtain ⟨w', h1, hU⟩ := out_write (P := E.P) (cs := []) (ls' := p ++ Leaf.d (.arr m e') (List.set (α := e'.D) l j.toNat z) :: q) (q := off + j.toNat * e'.size) (us := (a.eval y).cells.toList) h hL
            (by rw [hls, sizeLs_append, sizeLs_append]; rfl) (by omega) (repLs_one hcs) fun cs hcs2 => by
            rw [hls] at hcs2
            obtain ⟨c1, c2, rfl, hr1, hr2⟩ := repLs_split hcs2
            obtain ⟨c3, c4, rfl, hr3, hr4⟩ := hr2
            have hl1 : c1.length = off := (repLs_len hr1).trans hsp
            obtain ⟨a1, a2, a3⟩ := hr3
            have e1 : (c1 ++ (c3 ++ c4)).take (off + j.toNat * e'.size) = c1 ++ c3.take (j.toNat * e'.size) := by
              rw [List.take_append, hl1, List.take_of_length_le (by omega), List.take_append_of_le_length (by omega)]
              congr 2; omega
            have e2 : (c1 ++ (c3 ++ c4)).drop (off + j.toNat * e'.size + (a.eval y).cells.toList.length) = c3.drop (j.toNat * e'.size + e'.size) ++ c4 := by
              rw [List.drop_append, hl1, List.drop_of_length_le (by omega), List.nil_append, hlen, show off + j.toNat * e'.size + e'.size - off = j.toNat * e'.size + e'.size by omega, List.drop_append_of_le_length (by omega)]
            rw [e1, e2]
            have e3 : c1 ++ c3.take (j.toNat * e'.size) ++ (a.eval y).cells.toList ++ (c3.drop (j.toNat * e'.size + e'.size) ++ c4) = c1 ++ ((c3.take (j.toNat * e'.size) ++ (a.eval y).cells.toList ++ c3.drop (j.toNat * e'.size + e'.size)) ++ c4) := by simp
            rw [e3]
            exact repLs_append hr1 ⟨_, _, rfl, arr_set (l := l) ⟨a1, a2, a3⟩ hzr hjn, hr4⟩
          have hs := run_storeVar (P := E.P) (t := t) (ad := ⟨(g.ρ k).1, (g.ρ k).2 + off + j.toNat * e'.size + 0, none⟩) (u := a.eval y) (by rw [repLs_len hcs, ← hn1]; exact hn) w
          rw [show (g.ρ k).2 + (off + j.toNat * e'.size) = (g.ρ k).2 + off + j.toNat * e'.size + 0 by omega] at h1
          exact goes_skip (w' := w') (by simp only [execOp, hop, hx', Instr.storeAt, Instr.sureAddr, Sem.run_bind, Sem.run_pure, Result.andThen_ok, hs, h1]) hU hv
        · cases hv
      · cases hv
    · cases hv
  · cases hv
end
end Pv
end Go.Proofs.Ytgcgdfjldeihkaa
