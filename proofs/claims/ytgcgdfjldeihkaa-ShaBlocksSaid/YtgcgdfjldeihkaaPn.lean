/- Pure evaluation of the model's code: append, bytes and strings. -/
import Derived.Test.YtgcgdfjldeihkaaPm
namespace Go.Proofs.Ytgcgdfjldeihkaa
namespace Pv
set_option linter.unusedVariables false
section
variable {E : Env} {F : Fr} {g g' : Gh} {st : PSt} {a : Act} {w w' : World} {o : Oper} {R : Type} {C : Upd → Option R} {r : R} {tmf : Nat → Value} {O : Tok → Bool} {P : Program} {u : Upd} {v : Value}
theorem rows_of {C : Com} {e : Ty} : ∀ {l : List e.D} {Q : Nat → List Value → Prop}, (∀ (i : Nat) (x : e.D), l[i]? = some x → ∃ us, us.length = e.size ∧ Q i us ∧ RepD w C e x us) →
    ∃ rows : List (List Value), rows.length = l.length ∧ (∀ (i : Nat) us, rows[i]? = some us → us.length = e.size ∧ Q i us) ∧ ∀ (i : Nat) (x : e.D), l[i]? = some x → ∃ us, rows[i]? = some us ∧ RepD w C e x us
  | [], Q, _ => ⟨[], rfl, fun i us h => by simp at h, fun i x h => by simp at h⟩
  | x :: l, Q, h => by
    obtain ⟨us, h1, h2, h3⟩ := h 0 x rfl
    obtain ⟨rows, g1, g2, g3⟩ := rows_of (l := l) (Q := fun i us => Q (i + 1) us) fun i y hy => h (i + 1) y (by simpa using hy)
    refine ⟨us :: rows, by simp [g1], fun i vs hvs => ?_, fun i y hy => ?_⟩
    · cases i with
      | zero => simp at hvs; subst hvs; exact ⟨h1, h2⟩
      | succ i => exact g2 i vs (by simpa using hvs)
    · cases i with
      | zero => simp at hy; subst hy; exact ⟨us, rfl, h3⟩
      | succ i => simpa using g3 i y (by simpa using hy)
theorem flat_row {s : Nat} : ∀ {rows : List (List Value)} {i : Nat} {us : List Value}, (∀ r ∈ rows, r.length = s) → rows[i]? = some us → (rows.flatten.drop (i * s)).take s = us
  | [], i, us, _, h => by simp at h
  | r :: rows, 0, us, hs, h => by
    simp only [List.getElem?_cons_zero, Option.some.injEq] at h
    subst h
    have := hs r (by simp)
    simp [← this]
  | r :: rows, i + 1, us, hs, h => by
    have hr := hs r (by simp)
    rw [List.flatten_cons, show (i + 1) * s = r.length + i * s by rw [hr, Nat.add_mul]; omega, List.drop_append]
    simp only [Nat.add_sub_cancel_left]
    rw [List.drop_eq_nil_of_le (by omega), List.nil_append]
    exact flat_row (fun r hr => hs r (by simp [hr])) (by simpa using h)
theorem flat_len {s : Nat} : ∀ {rows : List (List Value)}, (∀ r ∈ rows, r.length = s) → rows.flatten.length = rows.length * s
  | [], _ => by simp
  | r :: rows, hs => by rw [List.flatten_cons, List.length_append, hs r (by simp), flat_len fun r hr => hs r (by simp [hr]), List.length_cons, Nat.add_mul]; omega
/-- The cells of a slice that came as data. -/
theorem slice_cells {C : Com} {e : Ty} {l : List e.D} {ad : Addr} {n c : Nat} (hpos : 0 < e.size) (h : RepD w C (.sl e) l [.slice (some ad) n c]) :
    ∃ news : List Value, news.length = l.length * e.size ∧ (∀ j u, news[j]? = some u → w.cell? (ad.add j) = some u) ∧ (∀ u ∈ news, u.oneCell' = true) ∧ ∀ (i : Nat) (x : e.D), l[i]? = some x → RepD w C e x ((news.drop (i * e.size)).take e.size) := by
  obtain ⟨a', n', c', e1, e2, e3, e4, e5⟩ := h
  simp only [List.cons.injEq, Value.slice.injEq, and_true] at e1
  obtain ⟨rfl, rfl, rfl⟩ := e1
  obtain ⟨rows, h1, h2, h3⟩ := rows_of (w := w) (C := C) (e := e) (l := l) (Q := fun i us => us.all one = true ∧ ∀ j u, us[j]? = some u → w.cell? (ad.add (i * e.size + j)) = some u) fun i x hx => by
    obtain ⟨ad', us, f1, f2, f3, f4⟩ := e5 i x hx
    cases f1
    exact ⟨us, f2, ⟨f4.one, fun j u hj => (f3 j u hj).1⟩, f4⟩
  have hall : ∀ r ∈ rows, r.length = e.size := fun r hr => by
    obtain ⟨i, hi⟩ := List.mem_iff_getElem?.1 hr
    exact (h2 i r hi).1
  refine ⟨rows.flatten, by rw [flat_len hall, h1], fun j u hj => ?_, fun u hu => ?_, fun i x hx => ?_⟩
  · have hlt := (List.getElem?_eq_some_iff.1 hj).1
    rw [flat_len hall] at hlt
    have hdiv : j / e.size < rows.length := Nat.div_lt_of_lt_mul (by rwa [Nat.mul_comm] at hlt)
    have hrow := flat_row hall (List.getElem?_eq_getElem hdiv)
    obtain ⟨_, _, hc⟩ := h2 (j / e.size) _ (List.getElem?_eq_getElem hdiv)
    have := hc (j % e.size) u (by
      rw [← hrow, List.getElem?_take, if_pos (Nat.mod_lt _ hpos), List.getElem?_drop, Nat.div_add_mod' j e.size]; exact hj)
    rwa [Nat.div_add_mod' j e.size] at this
  · obtain ⟨r, hr, hu⟩ := List.mem_flatten.1 hu
    obtain ⟨i, hi⟩ := List.mem_iff_getElem?.1 hr
    rw [← one_eq]
    exact List.all_eq_true.1 (h2 i r hi).2.1 u hu
  · obtain ⟨us, h4, h5⟩ := h3 i x hx
    rw [flat_row hall h4]
    exact h5
/-- Rows, behind them further rows. -/
theorem rows_app {C : Com} {e : Ty} {l m : List e.D} {xs news T : List Value} (hx : xs.length = l.length * e.size) (hn : news.length = m.length * e.size) (hT : T.take ((l.length + m.length) * e.size) = xs ++ news)
    (h1 : ∀ (i : Nat) (x : e.D), l[i]? = some x → RepD w C e x ((xs.drop (i * e.size)).take e.size)) (h2 : ∀ (i : Nat) (x : e.D), m[i]? = some x → RepD w C e x ((news.drop (i * e.size)).take e.size)) :
    ∀ (i : Nat) (x : e.D), (l ++ m)[i]? = some x → RepD w C e x ((T.drop (i * e.size)).take e.size) := fun i x hi => by
  have hlt : i < l.length + m.length := by have := (List.getElem?_eq_some_iff.1 hi).1; simpa using this
  have hle : (i + 1) * e.size ≤ (l.length + m.length) * e.size := Nat.mul_le_mul_right _ hlt
  rw [Nat.add_mul] at hle
  have key : (T.drop (i * e.size)).take e.size = ((xs ++ news).drop (i * e.size)).take e.size := by
    rw [← hT, List.drop_take, List.take_take, Nat.min_eq_left (by omega)]
  rw [key]
  by_cases hil : i < l.length
  · have hle2 : (i + 1) * e.size ≤ l.length * e.size := Nat.mul_le_mul_right _ hil
    rw [Nat.add_mul] at hle2
    rw [List.drop_append_of_le_length (by omega), List.take_append_of_le_length (by rw [List.length_drop]; omega)]
    exact h1 i x (by rw [List.getElem?_append_left hil] at hi; exact hi)
  · have hle2 : l.length * e.size ≤ i * e.size := Nat.mul_le_mul_right _ (by omega)
    rw [List.drop_append, List.drop_of_length_le (by omega), List.nil_append, show i * e.size - xs.length = (i - l.length) * e.size by rw [hx, Nat.sub_mul]]
    exact h2 (i - l.length) x (by rw [List.getElem?_append_right (by omega)] at hi; exact hi)
theorem Frame.more {C C' : Com} (h : Frame F C w) (hC : ∀ b o, C b o → C' b o) (hn : ∀ b o, C' b o → C b o ∨ (Wr F b o ∧ b < w.heap.size)) : Frame F C' w where
  size := h.size
  os := h.os
  tape := h.tape
  output := h.output
  old := h.old
  shape := h.shape
  com := fun b o hb hx => ⟨fun hc => by
    rcases hn b o hc with hc | ⟨hw | hw, _⟩
    · exact (h.com b o hb hx).1 hc
    · omega
    · exact (hx hw).elim, fun hc => hC b o ((h.com b o hb hx).2 hc)⟩
  mono := fun b o hc => hC b o (h.mono b o hc)
  lim := fun b o hc => by
    rcases hn b o hc with hc | ⟨_, hc⟩
    · exact h.lim b o hc
    · exact hc
theorem gone_mem {k : Tok} (h : k ≠ .zero) : k ∈ gone1 k := by cases k <;> first | exact absurd rfl h | exact List.mem_singleton.2 rfl
theorem gone_eq {k k' : Tok} (h : k' ∈ gone1 k) : k' = k := by cases k <;> first | (cases h; done) | exact List.mem_singleton.1 h
/-- A row is marked: it is no longer owned. -/
theorem mark_block {b : Nat} {cur : Array Value} {T : TypeId} {fz : Nat × Nat} {C : Com} (hF : Frame F C w) (hW : F.w0.heap.size ≤ b ∨ ∃ o, F.X b o) (hb : w.heap[b]? = some (.cells cur T (0, 0))) (hb' : w'.heap[b]? = some (.cells cur T fz))
    (hne : ∀ j, j ≠ b → w'.heap[j]? = w.heap[j]?) (hs : w'.heap.size = w.heap.size) (h5 : w'.os = w.os) (h6 : w'.tape = w.tape) (h7 : w'.output = w.output) : Frame F C w' ∧ Gw w C w' C := by
  refine ⟨⟨by rw [hs]; exact hF.size, h5.trans hF.os, h6.trans hF.tape, h7.trans hF.output, fun j hj hx => ?_, fun j cs T' fr hj hcs => ?_, hF.com, hF.mono, fun j o hc => by rw [hs]; exact hF.lim j o hc⟩, fun ad u hc hC => ⟨?_, hC⟩⟩
  · by_cases e : j = b
    · subst e
      exfalso
      rcases hW with h | ⟨o, h⟩
      · omega
      · exact hx o h
    · rw [hne j e]; exact hF.old j hj hx
  · obtain ⟨cs', fr', h1, h2, h3⟩ := hF.shape j cs T' fr hj hcs
    by_cases e : j = b
    · subst e
      rw [hb] at h1
      injection h1 with h1
      injection h1 with e1 e2 e3
      subst e1; subst e2
      exact ⟨_, _, hb', h2, h3⟩
    · exact ⟨cs', fr', (hne j e).trans h1, h2, h3⟩
  · unfold World.cell? at hc ⊢
    by_cases e : ad.block = b
    · rw [e, hb] at hc
      rw [e, hb']
      exact hc
    · rw [hne _ e]; exact hc
theorem out_mark (h : MRel F g st (tm a) w) {b : Nat} {k : Tok} {E0 : TypeId} {e : Ty} {l : List e.D} {cur : Array Value} {fz : Nat × Nat} {v : Value} (hk : st.O k = true) (hbk : g.blk k = some b) (hr : RepD w g.C (.sl e) l [v]) (hb : w.heap[b]? = some (.cells cur E0 (0, 0))) (hb' : w'.heap[b]? = some (.cells cur E0 fz))
    (hne : ∀ j, j ≠ b → w'.heap[j]? = w.heap[j]?) (hs : w'.heap.size = w.heap.size) (h5 : w'.os = w.os) (h6 : w'.tape = w.tape) (h7 : w'.output = w.output) : OutR F g st w ⟨.w false [.d (.sl e) l], [], [], gone1 k⟩ v g w' := by
  obtain ⟨hF, hG⟩ := mark_block h.fr (h.blkW k b hk hbk) hb hb' hne hs h5 h6 h7
  have hkz : k ≠ .zero := fun e => by rw [e, h.blk0] at hbk; cases hbk
  have hkp : ∀ j, j ≠ b → Kp g w g w' j := fun j hj => ⟨hne j hj, fun o => Iff.rfl⟩
  refine ⟨hF, hG, fun t ht ho => ?_, fun _ _ _ => rfl, fun _ => .inl rfl, rfl, fun tmf => ⟨_, repLs_single.2 (hr.gw hG), rfl⟩,
    fun _ _ _ _ e => by (cases e), fun k ls hm => by (cases hm), fun j x hL _ => hkp _ fun e => h.blkL k b j x hk hbk hL e, h.blk0, fun k' b' hm hbl => (by cases hm), fun k1 k2 b' hm1 hm2 _ _ => (by cases hm1), fun k ls hm => by (cases hm)⟩
  rcases putO_true.1 ho with hb1 | ⟨hg1, ho1⟩
  · exact (ht hb1).elim
  · refine ⟨ho1, rfl, fun b1 hbl => hkp b1 fun e => ?_⟩
    subst e
    have := h.blkI t k b1 ho1 hk hbl hbk
    subst this
    exact hg1 (gone_mem hkz)
/-- A row grows where it stands. -/
theorem out_inPlace (h : MRel F g st (tm a) w) {d b cap : Nat} {k : Tok} {E0 : TypeId} {e : Ty} {l m : List e.D} {cur cur' : Array Value} (hk : st.O k = true) (hbk : g.blk k = some b) (hb : w.heap[b]? = some (.cells cur E0 (0, 0)))
    (hcom : ∀ o, g.C b o ↔ o < l.length * e.size) (hwr : ∀ o, l.length * e.size ≤ o → Wr F b o) (hb' : w'.heap[b]? = some (.cells cur' E0 (0, 0))) (hsz : cur'.size = cur.size) (hne : ∀ j, j ≠ b → w'.heap[j]? = w.heap[j]?)
    (hs : w'.heap.size = w.heap.size) (h5 : w'.os = w.os) (h6 : w'.tape = w.tape) (h7 : w'.output = w.output) (hcap : l.length + m.length ≤ cap) (hmax : cap ≤ maxLen) (hcs : cur.size = cap * e.size)
    (hsame : ∀ o, o < l.length * e.size → cur'[o]? = cur[o]?) (hrow : ∀ (i : Nat) (x : e.D), (l ++ m)[i]? = some x → RepD w g.C e x ((cur'.toList.drop (i * e.size)).take e.size)) :
    OutR F g st w ⟨.w false [.own (.op d 0) E0 e (l ++ m)], [], [.op d 0], gone1 k⟩ (.slice (some ⟨b, 0, none⟩) (l.length + m.length) cap) { g with C := comR g.C b ((l.length + m.length) * e.size), blk := blkT g.blk (.op d 0) (some b) } w' := by
  obtain ⟨hF, hG⟩ := write_block h.fr hb hb' hsz hne hs h5 h6 h7 fun o => by
    by_cases ho : o < l.length * e.size
    · exact .inl (hsame o ho)
    · exact .inr ⟨fun hc => ho ((hcom o).1 hc), hwr o (by omega)⟩
  have hblt : b < w'.heap.size := by
    rcases Nat.lt_or_ge b w'.heap.size with hlt | hge
    · exact hlt
    · rw [Array.getElem?_eq_none hge] at hb'; cases hb'
  have hF2 : Frame F (comR g.C b ((l.length + m.length) * e.size)) w' := hF.more (fun _ _ hc => .inl hc) fun b' o hc => by
    rcases hc with hc | ⟨rfl, ho⟩
    · exact .inl hc
    · by_cases hol : o < l.length * e.size
      · exact .inl ((hcom o).2 hol)
      · exact .inr ⟨hwr o (by omega), hblt⟩
  have hG2 : Gw w g.C w' (comR g.C b ((l.length + m.length) * e.size)) := fun ad u x y => ⟨(hG ad u x y).1, .inl y⟩
  have hkz : k ≠ .zero := fun e => by rw [e, h.blk0] at hbk; cases hbk
  have hlen : (l ++ m).length = l.length + m.length := List.length_append ..
  have hkp : ∀ j, j ≠ b → Kp g w { g with C := comR g.C b ((l.length + m.length) * e.size), blk := blkT g.blk (.op d 0) (some b) } w' j := fun j hj => ⟨hne j hj, fun o => ⟨fun hc => hc.resolve_right fun ⟨e, _⟩ => hj e, .inl⟩⟩
  have hrow' : ∀ (i : Nat) (x : e.D), (l ++ m)[i]? = some x → RepD w' (comR g.C b ((l.length + m.length) * e.size)) e x ((cur'.toList.drop (i * e.size)).take e.size) := fun i x hx => (hrow i x hx).gw hG2
  refine ⟨hF2, hG2, fun t ht ho => ?_, fun _ _ _ => rfl, fun _ => .inl rfl, rfl, fun tmf => ⟨_, repLs_single.2 ⟨?_, fun _ => ⟨_, rfl, .inr ⟨b, cap, cur', by rw [hlen], blkT_at, hb', by rw [hlen]; exact hcap, hmax, hsz.trans hcs, hrow', fun o => ?_, fun o ho => hwr o ?_⟩⟩⟩, rfl⟩,
    fun _ _ _ _ e => by (cases e), fun k ls hm => by (cases hm), fun j x hL _ => hkp _ fun e => h.blkL k b j x hk hbk hL e, (blkT_ne (f := g.blk) (t := .op d 0) (k := .zero) (b := some b) (fun e => by cases e)).trans h.blk0, fun k' b' hm hbl => ?_, fun k1 k2 b' hm1 hm2 _ _ => ?_, fun k ls hm => by (cases hm)⟩
  · rcases putO_true.1 ho with hb1 | ⟨hg1, ho1⟩
    · exact (ht hb1).elim
    · refine ⟨ho1, blkT_ne (fun e => ht (List.mem_singleton.2 e)), fun b1 hbl => hkp b1 fun e => ?_⟩
      subst e
      have := h.blkI t k b1 ho1 hk hbl hbk
      subst this
      exact hg1 (gone_mem hkz)
  · have := repD_row (w := w') (C := comR g.C b ((l.length + m.length) * e.size)) (e := e) (l := l ++ m) (B := b) (cap := cap) (cur := cur') hb' hmax (by rw [hlen]; exact hcap) (fun o ho => .inr ⟨rfl, by rw [hlen] at ho; exact ho⟩) hrow'
    rw [hlen] at this
    exact this
  · rw [hlen]
    constructor
    · rintro (hc | ⟨_, ho⟩)
      · have h1 := (hcom o).1 hc
        have : l.length * e.size ≤ (l.length + m.length) * e.size := Nat.mul_le_mul_right _ (by omega)
        omega
      · exact ho
    · exact fun ho => .inr ⟨rfl, ho⟩
  · rw [hlen] at ho
    have : l.length * e.size ≤ (l.length + m.length) * e.size := Nat.mul_le_mul_right _ (by omega)
    omega
  · have e1 : k' = .op d 0 := List.mem_singleton.1 hm
    subst e1
    have e2 : b = b' := by
      have : blkT g.blk (.op d 0) (some b) (.op d 0) = some b' := hbl
      rw [blkT_at] at this
      exact Option.some.inj this
    subst e2
    exact ⟨.inr ⟨k, gone_mem hkz, hk, hbk⟩, hblt⟩
  · rw [List.mem_singleton.1 hm1, List.mem_singleton.1 hm2]
/-- A row without room stays as it is. -/
theorem out_empty (h : MRel F g st (tm a) w) {d : Nat} {E0 : TypeId} {e : Ty} {p : Option Addr} {gs : List Tok} : OutR F g st w ⟨.w false [.own (.op d 0) E0 e []], [], [.op d 0], gs⟩ (.slice p 0 0) { g with blk := blkT g.blk (.op d 0) none } w := by
  have G : Grew w g.C w g.C := ⟨Nat.le_refl _, fun _ _ => rfl, rfl, rfl, rfl, fun _ _ _ => Iff.rfl, h.fr.lim⟩
  refine OutR.grew h G (fun k hk _ => blkT_ne (fun e => hk (List.mem_singleton.2 e))) (fun _ => .inl rfl) rfl (fun tmf => ⟨_, repLs_single.2 ⟨⟨p, 0, 0, rfl, rfl, Nat.le_refl _, by unfold maxLen; omega, fun i x hx => by simp at hx⟩, fun _ => ⟨_, rfl, .inl ⟨p, rfl, rfl, blkT_at⟩⟩⟩, rfl⟩)
    (fun _ _ _ _ e => by cases e) (fun k ls hm => by cases hm) ((blkT_ne (f := g.blk) (t := .op d 0) (k := .zero) (b := none) (fun e => by cases e)).trans h.blk0) (fun k b hm hbl => ?_) (fun k k' b hm hm' _ _ => ?_) (fun k ls hm => by cases hm)
  · have e1 : k = .op d 0 := List.mem_singleton.1 hm
    subst e1
    have : blkT g.blk (.op d 0) none (.op d 0) = some b := hbl
    rw [blkT_at] at this
    cases this
  · rw [List.mem_singleton.1 hm, List.mem_singleton.1 hm']
end
end Pv
end Go.Proofs.Ytgcgdfjldeihkaa
