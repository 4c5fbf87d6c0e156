/- Pure evaluation of the model's code: operations that only compute, the rest. -/
import Derived.Test.YtgcgdfjldeihkaaPp
import Derived.WideLaws
namespace Go.Proofs.Ytgcgdfjldeihkaa
namespace Pv
set_option linter.unusedVariables false
section
variable {E : Env} {F : Fr} {g : Gh} {st : PSt} {a : Act} {w : World} {o : Oper} {R : Type} {C : Upd → Option R} {r : R} {tmf : Nat → Value} {O : Tok → Bool} {P : Program}
theorem relV_cells {u : Value} {ag : Bool} {ls : List Leaf} (h : RelV F g w O u ag ls) : RepLs F g w O ls u.cells.toList := by
  obtain ⟨cs, h1, h2⟩ := h
  cases ag with
  | true => have h2' : u = .agg ⟨cs⟩ := h2; rw [h2']; exact h1
  | false =>
    have h2' : cs = [u] := h2
    have h3 := repLs_one h1
    rw [h2'] at h3 h1
    cases u <;> first | exact h1 | (simp [one] at h3)
theorem part_rel {t : TypeId} {ls vs : List Leaf} {off : Nat} {cs : Array Value} (hu : (P.underlying t).isSome = true) (hr : RepLs F g w O ls cs.toList) (h : atLs P t ls off = some vs) :
    ∃ v, (part t cs off).run P w = .ok v w ∧ RelV F g w O v (isAg P t) vs := by
  obtain ⟨p, q, rfl, hsz, hh⟩ := atLs_some h
  obtain ⟨n, rest, hn, rfl, hsz2, h1⟩ := headLs_some hh
  obtain ⟨c1, c2, hc, hr1, hr2⟩ := repLs_split hr
  obtain ⟨c3, c4, rfl, hr3, hr4⟩ := repLs_split hr2
  have hl1 : c1.length = off := (repLs_len hr1).trans hsz
  have hl3 : c3.length = n := (repLs_len hr3).trans hsz2
  obtain ⟨v, hv, hs⟩ := run_part (P := P) (w := w) (cs := cs) (off := off) hn hl3 hu h1 fun j x hj => by
    rw [← Array.getElem?_toList, hc, List.getElem?_append_right (by omega), show off + j - c1.length = j by omega, List.getElem?_append_left (List.getElem?_eq_some_iff.1 hj).1]
    exact hj
  refine ⟨v, hv, c3, hr3, ?_⟩
  cases ha : isAg P t with
  | true => rw [ha] at hs; exact hs
  | false => rw [ha] at hs; exact hs
theorem go_field (h : MRel F g st (tm a) w) {t : TypeId} {x : Operand} {f : Nat} (hop : o.op = .field t x f) (hv : pvU E o st (evK st.kn st.φ) C = some r) : Goes E F g st a w o C r := by
  simp only [pvU, hop] at hv
  have hx := ev_rel h x
  split at hv
  · rename_i fo ft ls hf he
    rw [he] at hx
    obtain ⟨fs, fd, i, hu, hfd, rfl, rfl, hi, _⟩ := fieldAt_some hf
    split at hv
    case isFalse => cases hv
    rename_i hft
    split at hv
    · rename_i vs hvs
      obtain ⟨cs, hr, hxv⟩ := hx
      have hxv' : a.eval x = .agg ⟨cs⟩ := hxv
      obtain ⟨v, hrun, hrel⟩ := part_rel (P := E.P) (cs := ⟨cs⟩) hft hr hvs
      exact goes_same h (v := v) (p := .w (isAg E.P fd.type) vs) (by simp [execOp, hop, hxv', Instr.field, run_underlying hu, hfd, asAgg, hrun]) hrel (fun _ _ _ _ e => by cases e) hv
    · cases hv
  · cases hv
theorem go_indexA (h : MRel F g st (tm a) w) {t : TypeId} {x i : Operand} (hop : o.op = .index t x i) (hns : E.P.underlying t ≠ some .string) (hv : pvU E o st (evK st.kn st.φ) C = some r) : Goes E F g st a w o C r := by
  simp only [pvU, hop] at hv
  have hx := ev_rel h x
  have hi := ev_rel h i
  split at hv
  · rename_i l j hu he hj
    exact absurd hu hns
  · rename_i n e m ty l j hu he hj
    rw [he] at hx
    obtain ⟨ik, hi', _⟩ := int_rel hj hi
    obtain ⟨cs, hr, hxv⟩ := hx
    have hxv' : a.eval x = .agg ⟨cs⟩ := hxv
    have hr := repLs_single.1 hr
    obtain ⟨a1, a2, a3⟩ := hr
    split at hv
    · rename_i sz hmn hsz
      split at hv
      · rename_i hb
        simp only [Bool.and_eq_true] at hb
        have hs : sz = ty.size := by simpa using hb.1
        have hm : m = n := by simpa using hmn
        obtain ⟨y, hy, hv⟩ := Option.bind_eq_some_iff.1 hv
        obtain ⟨h0, hget, hlt⟩ := getI_some hy
        have hlt2 : j < (n : Int) := by rw [← hm]; rw [← a1]; exact hlt
        have hjn : j.toNat < m := by omega
        have hrow := a3 j.toNat y hget
        split at hv
        · rename_i vs hvs
          obtain ⟨k, rest, hk, hfl, hsz2, h1⟩ := headLs_some hvs
          have hkz : k = sz := by rw [hsz] at hk; injection hk with hk; exact hk.symm
          subst hkz
          have hrl : RepLs F g w st.O (flat ty y) ((cs.drop (j.toNat * ty.size)).take ty.size) := repLs_flat hrow
          rw [hfl] at hrl
          obtain ⟨c3, c4, hc, hr3, hr4⟩ := repLs_split hrl
          have hl3 : c3.length = k := (repLs_len hr3).trans hsz2
          have hcl : ((cs.drop (j.toNat * ty.size)).take ty.size).length = ty.size := RepD.len hrow
          have hc4 : c4 = [] := by
            have := congrArg List.length hc
            rw [hcl, List.length_append, hl3] at this
            exact List.eq_nil_of_length_eq_zero (by omega)
          subst hc4
          rw [List.append_nil] at hc
          obtain ⟨v, hv', hsv⟩ := run_part (P := E.P) (w := w) (cs := ⟨cs⟩) (off := j.toNat * ty.size) hk hl3 hb.2 h1 fun i2 x2 hj2 => by
            rw [← Array.getElem?_toList]
            rw [← hc] at hj2
            rw [List.getElem?_take] at hj2
            split at hj2
            · rw [List.getElem?_drop] at hj2; exact hj2
            · cases hj2
          refine goes_same h (v := v) (p := .w (isAg E.P e) vs) (by simp [execOp, hop, hxv', hi', Instr.index, asIntOf, run_underlying hu, h0, hlt2, run_sizeOf hsz, hs, hv']) ⟨c3, hr3, ?_⟩ (fun _ _ _ _ e => by cases e) hv
          cases ha : isAg E.P e with
          | true => rw [ha] at hsv; exact hsv
          | false => rw [ha] at hsv; exact hsv
        · cases hv
      · cases hv
    · cases hv
  · cases hv
theorem relT_get : ∀ {us : List Value} {xs : List (Bool × List Leaf)} {i : Nat} {y : Bool × List Leaf}, RelT F g w O us xs → xs[i]? = some y → ∃ v, us[i]? = some v ∧ RelV F g w O v y.1 y.2
  | [], [], i, y, _, hy => by simp at hy
  | u :: us, x :: xs, 0, y, h, hy => by
    simp only [List.getElem?_cons_zero, Option.some.injEq] at hy
    subst hy
    exact ⟨u, rfl, h.1⟩
  | u :: us, x :: xs, i + 1, y, h, hy => by
    obtain ⟨v, h1, h2⟩ := relT_get h.2 (by simpa using hy)
    exact ⟨v, by simpa using h1, h2⟩
  | [], _ :: _, _, _, h, _ => h.elim
  | _ :: _, [], _, _, h, _ => h.elim
theorem go_extract (h : MRel F g st (tm a) w) {x : Operand} {i : Nat} (hop : o.op = .extract x i) (hv : pvU E o st (evK st.kn st.φ) C = some r) : Goes E F g st a w o C r := by
  simp only [pvU, hop] at hv
  have hx := ev_rel h x
  split at hv
  · rename_i xs he
    rw [he] at hx
    obtain ⟨us, hu, ht⟩ := hx
    split at hv
    · rename_i ag ls hi
      obtain ⟨v, h1, h2⟩ := relT_get ht hi
      exact goes_same h (v := v) (p := .w ag ls) (by simp [execOp, hop, hu, Instr.extract, h1]) h2 (fun _ _ _ _ e => by cases e) hv
    · cases hv
  · cases hv

/-! ### structs and arrays built -/
theorem over_list (cp cm cc cs : List Value) (hl : cm.length = cs.length) (k : Nat) :
    (if cp.length ≤ k ∧ k < cp.length + cs.length ∧ k < (cp ++ cm ++ cc).length then cs[k - cp.length]? else (cp ++ cm ++ cc)[k]?) = (cp ++ cs ++ cc)[k]? := by
  simp only [List.length_append]
  by_cases h1 : k < cp.length
  · rw [if_neg (by omega), List.append_assoc, List.append_assoc, List.getElem?_append_left h1, List.getElem?_append_left h1]
  · by_cases h2 : k < cp.length + cs.length
    · rw [if_pos (by omega), List.append_assoc, List.getElem?_append_right (by omega), List.getElem?_append_left (by omega)]
    · rw [if_neg (by omega), List.append_assoc, List.append_assoc, List.getElem?_append_right (by omega), List.getElem?_append_right (by omega), List.getElem?_append_right (by omega), List.getElem?_append_right (by omega), hl]
theorem fold_over (cells : Array Value) (cp cm cc cs : List Value) (h : cells.toList = cp ++ cm ++ cc) (hl : cm.length = cs.length) :
    (cs.zipIdx.foldl (fun (cs : Array Value) (x : Value × Nat) => cs.setIfInBounds (cp.length + x.2) x.1) cells).toList = cp ++ cs ++ cc := by
  obtain ⟨h1, h2⟩ := Great.foldl_set cp.length cs 0 cells
  apply List.ext_getElem?
  intro k
  rw [Array.getElem?_toList, h2 k, ← over_list cp cm cc cs hl k, ← h, Array.getElem?_toList]
  simp
theorem overLs_some {ls vs ls' : List Leaf} {off : Nat} (h : overLs ls off vs = some ls') : ∃ p m c, ls = p ++ m ++ c ∧ sizeLs p = off ∧ sizeLs m = sizeLs vs ∧ ls' = p ++ vs ++ c := by
  unfold overLs at h
  split at h
  · rename_i p q hs
    split at h
    · rename_i m c hs2
      obtain ⟨rfl, h1⟩ := splitLs_some hs
      obtain ⟨rfl, h2⟩ := splitLs_some hs2
      exact ⟨p, m, c, by simp, h1, h2, (Option.some.inj h).symm⟩
    · cases h
  · cases h
theorem fill_struct (h : MRel F g st (tm a) w) {t : TypeId} {place : Nat → Option (Nat × Nat)} (hpl : ∀ i off ft n, fieldAt P t i = some (off, ft) → sizeT P ft = some n → place i = some (off, n)) :
    ∀ {parts : List (Nat × Operand)} {ls ls' : List Leaf} {cells : Array Value}, buildLs P t (evK st.kn st.φ) parts ls = some ls' → RepLs F g w st.O ls cells.toList →
      ∃ cells', Instr.fill place cells (parts.map fun x => (x.1, a.eval x.2)) = some cells' ∧ RepLs F g w st.O ls' cells'.toList
  | [], ls, ls', cells, hb, hr => ⟨cells, rfl, by rw [← Option.some.inj (show some ls = some ls' from hb)]; exact hr⟩
  | (i, x) :: parts, ls, ls', cells, hb, hr => by
    unfold buildLs at hb
    split at hb
    · rename_i off ft hf
      split at hb
      · rename_i ag vs hvs
        split at hb
        · rename_i n hn
          split at hb
          · rename_i hnv
            split at hb
            · rename_i ls2 hov
              obtain ⟨p, m, c, rfl, hsp, hsm, rfl⟩ := overLs_some hov
              have hval := val_rel hvs (norm_rel (P := P) (ty := ft) h.blk0 (ev_rel h x))
              have hcs := relV_cells hval
              have hlen := repLs_len hcs
              obtain ⟨c12, c3, hc, hr12, hr3⟩ := repLs_split hr
              obtain ⟨c1, c2, rfl, hr1, hr2⟩ := repLs_split hr12
              have hl1 : c1.length = off := (repLs_len hr1).trans hsp
              have hl2 : c2.length = (a.eval x).cells.toList.length := by rw [repLs_len hr2, hlen, hsm]
              have hn' : n = sizeLs vs := by simpa using hnv
              obtain ⟨f1, _⟩ := Great.foldl_set off (a.eval x).cells.toList 0 cells
              have hover := fold_over cells c1 c2 c3 (a.eval x).cells.toList hc hl2
              rw [hl1] at hover
              obtain ⟨cells', h1, h2⟩ := fill_struct h hpl (cells := (a.eval x).cells.toList.zipIdx.foldl (fun (cs : Array Value) (x : Value × Nat) => cs.setIfInBounds (off + x.2) x.1) cells) hb (by
                rw [hover]; exact repLs_append (repLs_append hr1 hcs) hr3)
              refine ⟨cells', ?_, h2⟩
              have hsz : (a.eval x).cells.size = n := by rw [hn', ← hlen]; simp
              have hle : off + (a.eval x).cells.size ≤ cells.size := by
                have e1 : cells.size = (c1 ++ c2 ++ c3).length := by rw [← hc]; simp
                rw [e1, List.length_append, List.length_append, hl1, hl2]
                simp
              rw [List.map_cons]
              unfold Instr.fill
              simp only [hpl i off ft n hf hn]
              rw [if_neg (by simp [hsz]; omega)]
              rw [← h1]
              have efold : (a.eval x).cells.zipIdx.foldl (fun (cs : Array Value) (x : Value × Nat) => cs.setIfInBounds (off + x.2) x.1) cells = (a.eval x).cells.toList.zipIdx.foldl (fun (cs : Array Value) (x : Value × Nat) => cs.setIfInBounds (off + x.2) x.1) cells := by
                rw [← Array.foldl_toList, Array.toList_zipIdx]
              exact congrArg (fun c => Instr.fill place c (parts.map fun x => (x.1, a.eval x.2))) efold
            · cases hb
          · cases hb
        · cases hb
      · cases hb
    · cases hb
theorem zeroTs_rep (h0 : g.blk .zero = none) : ∀ {ts : List LT} {cs : List Value}, zeroTs ts cs = true → RepLs F g w O (zeroLs ts) cs
  | [], [], _ => rfl
  | [], _ :: _, h => by cases h
  | .d t :: r, cs, h => by
    unfold zeroTs at h
    simp only [Bool.and_eq_true] at h
    exact ⟨_, _, (List.take_append_drop _ cs).symm, RepD.zero h.1, zeroTs_rep h0 h.2⟩
  | .row e :: r, cs, h => by
    unfold zeroTs at h
    simp only [Bool.and_eq_true] at h
    exact ⟨_, _, (List.take_append_drop _ cs).symm, RepD.zero (t := .sl e) h.1, zeroTs_rep h0 h.2⟩
  | .own E e :: r, cs, h => by
    unfold zeroTs at h
    simp only [Bool.and_eq_true] at h
    have hz : RepD w g.C (.sl e) (zeroD (.sl e)) (cs.take (LT.own E e).size) := RepD.zero h.1
    refine ⟨_, _, (List.take_append_drop _ cs).symm, ⟨hz, fun _ => ?_⟩, zeroTs_rep h0 h.2⟩
    have h1 : zeroC (.sl e) (cs.take (LT.own E e).size) = true := h.1
    generalize cs.take (LT.own E e).size = q at h1
    unfold zeroC at h1
    split at h1 <;> first | (cases h1; done) | skip
    all_goals first | contradiction | exact ⟨_, rfl, .inl ⟨none, rfl, rfl, h0⟩⟩
theorem mapM_places {fs : List Field} (h : fs.all (fun f => (P.info? f.type).isSome) = true) : ∃ places, fs.mapM (fun f => (P.info? f.type).map fun i => (f.offset, i.size)) = some places ∧ places.length = fs.length ∧
    ∀ (i : Nat) (f : Field), fs[i]? = some f → ∃ j, P.info? f.type = some j ∧ places[i]? = some (f.offset, j.size) := by
  induction fs with
  | nil => exact ⟨[], rfl, rfl, fun i f hf => by simp at hf⟩
  | cons f fs ih =>
    simp only [List.all_cons, Bool.and_eq_true] at h
    obtain ⟨places, h1, h2, h3⟩ := ih h.2
    obtain ⟨j, hj⟩ := Option.isSome_iff_exists.1 h.1
    refine ⟨(f.offset, j.size) :: places, by simp [List.mapM_cons, h1, hj], by simp [h2], fun i x hx => ?_⟩
    cases i with
    | zero => simp at hx; subst hx; exact ⟨j, hj, rfl⟩
    | succ i => simpa using h3 i x (by simpa using hx)
theorem partsD_rel (h : MRel F g st (tm a) w) {e : TypeId} {t : Ty} : ∀ {parts : List (Nat × Operand)} {n : Nat} {l : List t.D}, partsD P e t (evK st.kn st.φ) parts n = some l →
    parts.map (fun x => (x.1, a.eval x.2)) = ((parts.map fun x => a.eval x.2).zipIdx n).map (fun x => (x.2, x.1)) ∧ l.length = parts.length ∧
      ∀ (i : Nat) (x : t.D), l[i]? = some x → ∃ v, (parts.map fun x => a.eval x.2)[i]? = some v ∧ RepD w g.C t x v.cells.toList
  | [], n, l, hp => by
    have : l = [] := (Option.some.inj (show some [] = some l from hp)).symm
    subst this
    exact ⟨rfl, rfl, fun i x hx => by simp at hx⟩
  | (j, x) :: parts, n, l, hp => by
    unfold partsD at hp
    split at hp
    · rename_i hj
      split at hp
      · rename_i ag vs l' hvs hl'
        split at hp
        · rename_i y hy
          have : l = y :: l' := (Option.some.inj hp).symm
          subst this
          obtain ⟨h1, h2, h3⟩ := partsD_rel h hl'
          have hj' : j = n := by simpa using hj
          subst hj'
          refine ⟨by simp [h1], by simp [h2], fun i z hz => ?_⟩
          cases i with
          | zero =>
            simp only [List.getElem?_cons_zero, Option.some.injEq] at hz
            subst hz
            exact ⟨a.eval x, by simp, unflatAll_rep hy (relV_cells (val_rel hvs (norm_rel (P := P) (ty := e) h.blk0 (ev_rel h x))))⟩
          | succ i => simpa using h3 i z (by simpa using hz)
        · cases hp
      · cases hp
    · cases hp
/-- Rows side by side. -/
theorem rows_get {s : Nat} : ∀ {vs : List Value} {i : Nat} {v : Value}, (∀ v ∈ vs, v.cells.size = s) → vs[i]? = some v → ((vs.flatMap fun v => v.cells.toList).drop (i * s)).take s = v.cells.toList
  | [], i, v, _, h => by simp at h
  | x :: vs, 0, v, hs, h => by
    simp only [List.getElem?_cons_zero, Option.some.injEq] at h
    subst h
    have := hs x (by simp)
    simp [this]
  | x :: vs, i + 1, v, hs, h => by
    have hx := hs x (by simp)
    rw [List.flatMap_cons, show (i + 1) * s = x.cells.toList.length + i * s by simp [hx, Nat.add_mul]; omega, List.drop_append]
    simp only [Nat.add_sub_cancel_left]
    rw [List.drop_eq_nil_of_le (by omega), List.nil_append]
    exact rows_get (fun v hv => hs v (by simp [hv])) (by simpa using h)
theorem go_build (h : MRel F g st (tm a) w) {t : TypeId} {parts : Array (Nat × Operand)} (hop : o.op = .build t parts) (hv : pvU E o st (evK st.kn st.φ) C = some r) : Goes E F g st a w o C r := by
  simp only [pvU, hop] at hv
  have hex : execOp a.eval o = (do pure (Next.value (← Instr.build t (parts.map fun x => (x.1, a.eval x.2))))) := by simp [execOp, hop]
  split at hv
  · rename_i fs ts i hu hts hi
    split at hv
    · rename_i z hz
      split at hv
      · rename_i hb
        simp only [Bool.and_eq_true] at hb
        split at hv
        · rename_i ls hls
          obtain ⟨places, hp1, hp2, hp3⟩ := mapM_places hb.2
          obtain ⟨cells, hf, hr⟩ := fill_struct (P := E.P) h (t := t) (place := (places.toArray[·]?)) (fun k off ft n hk hn => by
            obtain ⟨fs', x, j, hu', hx, rfl, rfl, hj, _⟩ := fieldAt_some hk
            rw [hu] at hu'
            injection hu' with e
            injection e with e
            subst e
            obtain ⟨j', hj', hpl⟩ := hp3 k x (by simpa using hx)
            obtain ⟨j2, hj2, hs2⟩ := sizeT_info hn
            rw [hj'] at hj2
            cases hj2
            rw [← hs2]
            simpa using hpl) hls (zeroTs_rep h.blk0 hb.1)
          have hbuilt : E.P.built t (parts.map fun x => (x.1, a.eval x.2)).toList = some cells := by
            unfold Program.built
            rw [hi, hu]
            simp only [hz, hp1, Array.toList_map]
            exact hf
          refine goes_same h (v := .agg cells) (p := .w true ls) ?_ ⟨cells.toList, hr, rfl⟩ (fun _ _ _ _ e => by cases e) hv
          rw [hex, Sem.run_bind, run_build w t _ cells hbuilt]
          rfl
        · cases hv
      · cases hv
    · cases hv
  · rename_i n e m ty i hu hts hi
    split at hv
    · rename_i z hz
      split at hv
      · rename_i l sz hzt hl hsz
        split at hv
        · rename_i hb
          simp only [Bool.and_eq_true] at hb
          obtain ⟨hlm, hnm⟩ := hb.1
          have hlm' : l.length = m := by simpa using hlm
          have hnm' : n = m := by simpa using hnm
          have hs' : sz = ty.size := by simpa using hb.2
          obtain ⟨h1, h2, h3⟩ := partsD_rel (P := E.P) h hl
          obtain ⟨ie, hie, hies⟩ := sizeT_info hsz
          have hsize : ∀ v ∈ parts.toList.map (fun x => a.eval x.2), v.cells.size = ie.size := fun v hm => by
            obtain ⟨k, hk⟩ := List.mem_iff_getElem?.1 hm
            have hlt : k < l.length := by
              have := (List.getElem?_eq_some_iff.1 hk).1
              rw [h2]; simpa using this
            obtain ⟨v', hv', hr⟩ := h3 k _ (List.getElem?_eq_getElem hlt)
            rw [hk] at hv'
            cases hv'
            have := hr.len
            rw [hies, hs', ← this]; simp
          have hz2 : zeroC (.arr m ty) (z.cells.toList.take (LT.d (.arr m ty)).size) = true := by
            unfold zeroTs at hzt
            simp only [Bool.and_eq_true] at hzt
            exact hzt.1
          have hz3 : zeroTs [] (z.cells.toList.drop (LT.d (.arr m ty)).size) = true := by
            unfold zeroTs at hzt
            simp only [Bool.and_eq_true] at hzt
            exact hzt.2
          have hzl : z.cells.size = m * ty.size := by
            have e1 := (RepD.zero (w := w) (C := g.C) hz2).len
            have e2 : z.cells.toList.drop (LT.d (.arr m ty)).size = [] := by
              generalize z.cells.toList.drop (LT.d (.arr m ty)).size = q at hz3
              cases q with
              | nil => rfl
              | cons _ _ => cases hz3
            have e3 : (LT.d (.arr m ty)).size = m * ty.size := rfl
            rw [e3] at e1 e2
            have e4 : (Ty.arr m ty).size = m * ty.size := rfl
            rw [e4, List.length_take] at e1
            have e5 := List.drop_eq_nil_iff.1 e2
            simp at e1 e5
            omega
          split at hv
          case h_2 => cases hv
          rename_i hpos
          have hzero : ¬ ie.size = 0 := by
            rw [Nat.blt_eq] at hpos
            rw [hies]
            omega
          · have hfw := Great.fill_whole (s := ie.size) (Nat.pos_of_ne_zero hzero) (parts.toList.map fun x => a.eval x.2) z.cells hsize (by rw [List.length_map, ← h2, hlm', hzl, hies, hs'])
            have hbuilt : E.P.built t (parts.map fun x => (x.1, a.eval x.2)).toList = some ((parts.toList.map fun x => a.eval x.2).flatMap fun v => v.cells.toList).toArray := by
              unfold Program.built
              rw [hi, hu]
              simp only [hz, hie, Array.toList_map]
              rw [h1]
              exact hfw
            refine goes_same h (v := .agg _) (p := .w true [.d (.arr m ty) l]) ?_ ⟨((parts.toList.map fun x => a.eval x.2).flatMap fun v => v.cells.toList), repLs_single.2 ⟨hlm', ?_, fun i x hx => ?_⟩, rfl⟩ (fun _ _ _ _ e => by cases e) hv
            · rw [hex, Sem.run_bind, run_build w t _ _ hbuilt]
              rfl
            · rw [List.length_flatMap]
              have : ((parts.toList.map fun x => a.eval x.2).map fun v => v.cells.toList.length) = List.replicate m ty.size := by
                rw [List.eq_replicate_iff]
                refine ⟨by simp; rw [← hlm', h2]; simp, fun b hb => ?_⟩
                obtain ⟨v, hv, rfl⟩ := List.mem_map.1 hb
                have := hsize v hv
                rw [Array.length_toList, this, hies, hs']
              rw [this]
              simp [List.sum_replicate_nat]
            · obtain ⟨v, hv', hr⟩ := h3 i x hx
              have := rows_get hsize hv'
              rw [hies, hs'] at this
              rw [this]
              exact hr
        · cases hv
      · cases hv
    · cases hv
  · cases hv
end
end Pv
end Go.Proofs.Ytgcgdfjldeihkaa
