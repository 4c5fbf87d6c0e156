/- Pure evaluation of the model's code: append, bytes and strings. -/
import Derived.Test.YtgcgdfjldeihkaaPn
namespace Go.Proofs.Ytgcgdfjldeihkaa
namespace Pv
set_option linter.unusedVariables false
section
variable {E : Env} {F : Fr} {g g' : Gh} {st : PSt} {a : Act} {w w' : World} {o : Oper} {R : Type} {C : Upd → Option R} {r : R} {tmf : Nat → Value} {O : Tok → Bool} {P : Program} {u : Upd} {v : Value}
theorem run_append_zero {t ty e : TypeId} {i : TypeInfo} (ht : P.underlying t = some (.slice e)) (hi : P.info? e = some i) (p : Option Addr) (c : Nat) (q : Option Addr) (n : Nat) (hn : n ≤ c) :
    (Builtin.append_ #[t, t] ty #[.slice p n c, .slice none 0 0]).run P w = .ok (.slice p n c) w := by
  cases p with
  | none => simp [Builtin.append_, run_underlying ht, sizeOf, typeInfo, hi, Builtin.lenOf, Builtin.firstCells, hn]
  | some ad => simp [Builtin.append_, run_underlying ht, sizeOf, typeInfo, hi, Builtin.lenOf, Builtin.firstCells, hn, storeCells]
theorem run_append_zero' {t ty e : TypeId} {i : TypeInfo} (ht : P.underlying t = some (.slice e)) (hi : P.info? e = some i) (p : Option Addr) (c : Nat) (ad : Addr) (c' : Nat) (n : Nat) (hn : n ≤ c) :
    (Builtin.append_ #[t, t] ty #[.slice p n c, .slice (some ad) 0 c']).run P w = .ok (.slice p n c) w := by
  have hl : (loadCells ad 0).run P w = .ok #[] w := run_loadCells_list (P := P) w ad [] fun j v h => by simp at h
  cases p with
  | none => simp [Builtin.append_, run_underlying ht, sizeOf, typeInfo, hi, Builtin.lenOf, Builtin.firstCells, hn, hl]
  | some ad' => simp [Builtin.append_, run_underlying ht, sizeOf, typeInfo, hi, Builtin.lenOf, Builtin.firstCells, hn, hl, storeCells]
/-- The same row once more, under a new token. -/
theorem out_again (h : MRel F g st (tm a) w) {d : Nat} {k : Tok} {E0 : TypeId} {e : Ty} {l : List e.D} (hk : st.O k = true) (hr : RepD w g.C (.sl e) l [v]) (ho : OwnR F g w k E0 e l v) :
    ∃ g', OutR F g st w ⟨.w false [.own (.op d 0) E0 e l], [], [.op d 0], gone1 k⟩ v g' w := by
  rcases ho with ⟨p, rfl, rfl, hb⟩ | ⟨b, cap, cur, rfl, hbk, hb, hlc, hmax, hcs, hrow, hcom, hwr⟩
  · exact ⟨_, out_empty h⟩
  · have := out_inPlace (F := F) (w' := w) (d := d) (m := ([] : List e.D)) h hk hbk hb hcom hwr hb rfl (fun _ _ => rfl) rfl rfl rfl rfl (by simpa using hlc) hmax hcs (fun _ _ => rfl) (fun i x hx => hrow i x (by simpa using hx))
    simp only [List.append_nil, List.length_nil, Nat.add_zero] at this
    exact ⟨_, this⟩
theorem own_world {b cap n : Nat} {E0 : TypeId} {size : Nat} {cur : Array Value} (hb : w.heap[b]? = some (.cells cur E0 (0, 0))) (hlc : n ≤ cap) (hmax : cap ≤ maxLen) (hcs : cur.size = cap * size) : w.ownsRow 0 E0 size (.slice (some ⟨b, 0, none⟩) n cap) n (cur.toList.take (n * size)) := by
  have hle : n * size ≤ cap * size := Nat.mul_le_mul_right _ hlc
  exact ⟨by rw [List.length_take]; simp; omega, .inr ⟨b, cap, cur, rfl, Nat.zero_le _, hb, hlc, hmax, hcs, rfl⟩⟩
theorem take_row {T : List Value} {n i s : Nat} (hi : i < n) : ((T.take (n * s)).drop (i * s)).take s = (T.drop (i * s)).take s := by
  have hle : (i + 1) * s ≤ n * s := Nat.mul_le_mul_right _ hi
  rw [Nat.add_mul] at hle
  rw [List.drop_take, List.take_take, Nat.min_eq_left (by omega)]
theorem append_core (h : MRel F g st (tm a) w) {d : Nat} {k : Tok} {t ty e0 : TypeId} {i : TypeInfo} {z : Value} {e : Ty} {l m : List e.D} {v x : Value} (hk : st.O k = true) (ht : P.underlying t = some (.slice e0)) (hi : P.info? e0 = some i) (hz : i.zero = some z)
    (hsize : i.size = e.size) (hpos : 0 < i.size) (hzs : z.cells.size = i.size) (hv : RepD w g.C (.sl e) l [v]) (ho : OwnR F g w k e0 e l v) (hx : RepD w g.C (.sl e) m [x]) (hbytes : (l.length + m.length) * i.bytes ≤ 140737488355328) (h63 : l.length + m.length ≤ maxLen) :
    ∃ r w' g', (Builtin.append_ #[t, t] ty #[v, x]).run P w = .ok r w' ∧ OutR F g st w ⟨.w false [.own (.op d 0) e0 e (l ++ m)], [], [.op d 0], gone1 k⟩ r g' w' := by
  have hx0 := hx
  obtain ⟨xa, xn, xc, x1, x2, x3, x4, x5⟩ := hx0
  have ex : x = .slice xa xn xc := by simpa using x1
  have hmn : m.length = xn := x2
  subst ex
  by_cases hm0 : m.length = 0
  · have hmnil : m = [] := List.eq_nil_of_length_eq_zero hm0
    subst hmnil
    obtain ⟨g', hU⟩ := out_again (d := d) h hk hv ho
    obtain ⟨va, vn, vc, v1, v2, v3, _, _⟩ := hv
    have ev : v = .slice va vn vc := by simpa using v1
    subst ev
    have hxn : xn = 0 := by rw [← hmn]; rfl
    subst hxn
    refine ⟨_, w, g', ?_, by rw [List.append_nil]; exact hU⟩
    cases xa with
    | none =>
      have : (Builtin.append_ #[t, t] ty #[.slice va vn vc, .slice none 0 xc]).run P w = .ok (.slice va vn vc) w := by
        cases va with
        | none => simp [Builtin.append_, run_underlying ht, sizeOf, typeInfo, hi, Builtin.lenOf, Builtin.firstCells, v3]
        | some ad => simp [Builtin.append_, run_underlying ht, sizeOf, typeInfo, hi, Builtin.lenOf, Builtin.firstCells, v3, storeCells]
      exact this
    | some ad => exact run_append_zero' ht hi va vc ad xc vn v3
  · have hxa : ∃ ad, xa = some ad := by
      have hlt : 0 < m.length := by omega
      obtain ⟨ad, us, e1, _⟩ := x5 0 _ (List.getElem?_eq_getElem hlt)
      exact ⟨ad, e1⟩
    obtain ⟨ad, rfl⟩ := hxa
    obtain ⟨news, n1, n2, n3, n4⟩ := slice_cells (e := e) (by omega) hx
    have n1' : news.length = xn * e.size := by rw [n1, hmn]
    have newrow : ∀ {xs : List Value} {v' : Value} {w' : World}, xs.length = l.length * e.size → (∀ (i : Nat) (x : e.D), l[i]? = some x → RepD w g.C e x ((xs.drop (i * e.size)).take e.size)) →
        w'.ownsRow w.heap.size e0 e.size v' (l.length + xn) (xs ++ news) → w.grownBy w' none → ∃ g', OutR F g st w ⟨.w false [.own (.op d 0) e0 e (l ++ m)], [], [.op d 0], gone1 k⟩ v' g' w' := fun {xs v' w'} hxl hxr how hgr => by
      rcases how.2 with ⟨_, hz0⟩ | ⟨B, cap, cur, rfl, hB, hb, hlc, hmax, hcs, htake⟩
      · omega
      · have hBlt : B < w'.heap.size := by
          rcases Nat.lt_or_ge B w'.heap.size with hlt | hge
          · exact hlt
          · rw [Array.getElem?_eq_none hge] at hb; cases hb
        have hll : (l ++ m).length = l.length + xn := by rw [List.length_append, hmn]
        have := out_newRow (F := F) (d := d) (B := B) (cap := cap) (E0 := e0) (l := l ++ m) (cur := cur) (gs := gone1 k) (w' := w') h hB hBlt hgr.size (fun b hb => hgr.block b hb (by simp)) hgr.os hgr.tape hgr.output hb (by rw [hll]; exact hlc) hmax hcs
          (rows_app hxl n1 (by rw [hmn]; exact htake) hxr n4)
        rw [hll] at this
        exact ⟨_, this⟩
    rcases ho with ⟨p, rfl, rfl, hb⟩ | ⟨b, cap, cur, rfl, hbk, hb, hlc, hmax, hcs, hrow, hcom, hwr⟩
    · have hgr := run_append_arg_grows (P := P) w t ty e0 i z e.size i.bytes ht hi hz hsize rfl (by rw [hzs, hsize]) (by omega) (p.getD ⟨0, 0, none⟩) 0 0 [] (by simp) (fun j u hj => by simp at hj) ad xn xc news n1' n2 (by omega) (by simpa [hmn] using h63) (by simpa [hmn] using hbytes)
      cases p with
      | some p =>
        obtain ⟨v', w', hr, how, hg⟩ := hgr
        obtain ⟨g', hU⟩ := newrow (xs := []) (by simp) (fun i x hx => by simp at hx) (by simpa using how) hg
        exact ⟨v', w', g', hr, hU⟩
      | none =>
        obtain ⟨v', w', hr, how, hg, _⟩ := run_append_own (P := P) w w.heap.size t ty e0 i z e.size i.bytes ht hi hz hsize rfl (by rw [hzs, hsize]) (by omega) (.slice none 0 0) 0 [] (World.ownsRow_nil w _ e0 e.size) ad xn xc news n1' n2 n3 (by simpa [hmn] using h63) (by simpa [hmn] using hbytes) (Nat.le_refl _)
        obtain ⟨g', hU⟩ := newrow (xs := []) (by simp) (fun i x hx => by simp at hx) (by simpa using how) hg
        exact ⟨v', w', g', hr, hU⟩
    · have how0 := own_world (size := e.size) hb hlc hmax hcs
      have hxl : (cur.toList.take (l.length * e.size)).length = l.length * e.size := how0.1
      have hxr : ∀ (i : Nat) (x : e.D), l[i]? = some x → RepD w g.C e x (((cur.toList.take (l.length * e.size)).drop (i * e.size)).take e.size) := fun i x hx => by
        rw [take_row (List.getElem?_eq_some_iff.1 hx).1]; exact hrow i x hx
      by_cases hroom : l.length + xn ≤ cap
      · have hone : news.all one = true := List.all_eq_true.2 fun u hu => by rw [one_eq]; exact n3 u hu
        have hfit : l.length * e.size + xn * e.size ≤ cur.size := by rw [hcs, ← Nat.add_mul]; exact Nat.mul_le_mul_right _ hroom
        obtain ⟨w', cur', s1, s2, s3, s4, s5, s6, s7, s8, s9⟩ := run_storeCells_row (P := P) news w b (l.length * e.size) 0 cur e0 hb (by omega) (fun o _ => .inr (Nat.zero_le o)) hone
        have hload : (loadCells ad (xn * e.size)).run P w = .ok news.toArray w := by rw [← n1']; exact run_loadCells_list (P := P) w ad news n2
        have hr : (Builtin.append_ #[t, t] ty #[.slice (some ⟨b, 0, none⟩) l.length cap, .slice (some ad) xn xc]).run P w = .ok (.slice (some ⟨b, 0, none⟩) (l.length + xn) cap) w' := by
          simp [Builtin.append_, run_underlying ht, sizeOf, typeInfo, hi, Builtin.lenOf, Builtin.firstCells, hroom, hsize, hload, add_at, s1]
        have hlow : ∀ o, o < l.length * e.size → cur'[o]? = cur[o]? := fun o ho => by rw [s4, if_neg (by omega)]
        have htake : cur'.toList.take ((l.length + xn) * e.size) = cur.toList.take (l.length * e.size) ++ news := by
          apply List.ext_getElem?
          intro q
          rw [List.getElem?_take, Array.getElem?_toList, Nat.add_mul, s4]
          by_cases h1 : q < l.length * e.size
          · rw [if_pos (by omega), if_neg (by omega), List.getElem?_append_left (by omega), List.getElem?_take, if_pos h1, Array.getElem?_toList]
          · rw [List.getElem?_append_right (by omega), hxl]
            by_cases h2 : q < l.length * e.size + xn * e.size
            · rw [if_pos h2, if_pos (by omega), Nat.add_zero]
            · rw [if_neg h2, List.getElem?_eq_none (by omega)]
        have := out_inPlace (F := F) (d := d) (m := m) h hk hbk hb hcom hwr s2 s3 s5 s6 s7 s8 s9 (by rw [hmn]; exact hroom) hmax hcs hlow (rows_app hxl n1 (by rw [hmn]; exact htake) hxr n4)
        rw [hmn] at this
        exact ⟨_, w', _, hr, this⟩
      · obtain ⟨v', w', hr, how, hg⟩ := run_append_arg_grows (P := P) w t ty e0 i z e.size i.bytes ht hi hz hsize rfl (by rw [hzs, hsize]) (by omega) ⟨b, 0, none⟩ l.length cap _ hxl (fun j u hj => by
          rw [add_at, Nat.zero_add, cell_at hb]
          rw [List.getElem?_take] at hj
          split at hj
          · rw [← Array.getElem?_toList]; exact hj
          · cases hj) ad xn xc news n1' n2 (by omega) (by rw [← hmn]; exact h63) (by rw [← hmn]; exact hbytes)
        obtain ⟨g', hU⟩ := newrow hxl hxr how hg
        exact ⟨v', w', g', hr, hU⟩
theorem go_appP (h : MRel F g st (tm a) w) {x y : Operand} {t u : TypeId} (hop : o.op = .call { callee := .builtin .append, args := #[x, y], argTypes := #[t, u] }) (hv : appP E.P o t u st (evK st.kn st.φ x) (evK st.kn st.φ y) C = some r) : Goes E F g st a w o C r := by
  unfold appP at hv
  have hx := norm_rel (P := E.P) (ty := t) h.blk0 (ev_rel h x)
  have hy := ev_rel h y
  split at hv
  · rename_i e d hu hd
    split at hv
    · rename_i k E0 ty l i he hi
      rw [he] at hx
      split at hv
      · rename_i z m hb hz hm
        simp only [Bool.and_eq_true] at hb
        have hE : E0 = e := by simpa using hb.1
        subst hE
        split at hm
        · rename_i hst
          simp only [Bool.and_eq_true, Bool.not_eq_true'] at hst
          have hut : t = u := by simpa using hst.1
          subst hut
          split at hv
          · rename_i hsz
            simp only [Bool.and_eq_true] at hsz
            obtain ⟨hc, hv⟩ := chk_some hv
            simp only [Bool.and_eq_true, decide_eq_true_eq] at hc
            obtain ⟨cs, hr1, hr2⟩ := hx
            have hcs : cs = [a.eval x] := hr2
            rw [hcs] at hr1
            obtain ⟨q1, q2⟩ := repLs_single.1 hr1
            obtain ⟨v, hv1, hown⟩ := q2 hb.2
            have hev : v = a.eval x := by simpa using hv1.symm
            subst hev
            have hyr : RepD w g.C (.sl ty) m [a.eval y] := by
              rcases tailP_rel hm hy with ⟨s, hs, rfl, hl, _⟩ | hr
              · exfalso
                have hnot := hst.2
                unfold tailP at hm
                have : ∃ q, strP (evK st.kn st.φ y) = some q := by
                  cases hq : strP (evK st.kn st.φ y) with
                  | some q => exact ⟨q, rfl⟩
                  | none =>
                    rw [hq] at hm
                    simp only at hm
                    split at hm
                    · rename_i e' l' hsl
                      obtain ⟨_, _, _, e1, _⟩ := slP_rep hsl hy
                      rw [hs] at e1; simp at e1
                    · split at hm
                      · rename_i hraw
                        rw [hraw] at hy
                        have hy' : a.eval y = .slice none 0 0 := hy
                        rw [hs] at hy'; cases hy'
                      · cases hm
                obtain ⟨q, hq⟩ := this
                unfold strP at hq
                split at hq
                · rename_i l' hl'
                  rw [hl'] at hnot
                  cases hnot
                · cases hq
              · exact hr
            obtain ⟨res, w', g', hrun, hU⟩ := append_core (P := E.P) (d := d) (ty := o.type) h hb.2 hu hi hz (by simpa using hsz.1.1) (by have := hsz.1.2; rw [Nat.blt_eq] at this; exact this) (by simpa using hsz.2) q1 hown hyr hc.1 hc.2
            obtain ⟨cb, hrb⟩ := run_builtin (P := E.P) (w := w) (f := a.eval) hop
            refine goes_val (v := res) (w' := w') ?_ hU hv
            rw [hrb]
            simp [builtin, hrun]
          · cases hv
        · cases hm
      · cases hv
    · cases hv
  · cases hv
end
end Pv
end Go.Proofs.Ytgcgdfjldeihkaa
