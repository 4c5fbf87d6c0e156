/- Pure evaluation of the model's code: a row of the call's own, new, taken as a row that one may store to. -/
import Derived.Test.YtgcgdfjldeihkaaPu
import Derived.Test.YtgcgdfjldeihkaaPo
namespace Go.Proofs.Ytgcgdfjldeihkaa
namespace Pv
set_option linter.unusedVariables false
section
variable {P : Program} {E : Env} {F : Fr} {g g' : Gh} {st : PSt} {a : Act} {w w' : World} {o : Oper} {R : Type} {C : Upd → Option R} {r : R} {v : Value}
theorem lt_of_cells {w : World} {b : Nat} {x : Obj} (h : w.heap[b]? = some x) : b < w.heap.size := by
  rcases Nat.lt_or_ge b w.heap.size with hlt | hge
  · exact hlt
  · rw [Array.getElem?_eq_none hge] at h; cases h
theorem loc_lt (h : MRel F g st (tm a) w) {k : Nat} {x : Nat × List Leaf} (hL : st.L k = some x) : (g.ρ k).1 < w.heap.size := by
  obtain ⟨cur, T, hc, _⟩ := h.locals k x.1 x.2 hL
  exact lt_of_cells hc
/-! ### a result taken as a row -/
theorem row_gen (h : MRel F g st (tm a) w) {d : Nat} {u : Upd} {k : Tok} {E0 : TypeId} {q : IntKind} {l : List Int} (tt : Bool) (hfr : st.L d = none) (hborn : ∀ t ∈ u.born, st.O t = false) (hU : OutR F g st w u v g' w') (hval : u.val = .w false [.own k E0 (.int q) l]) (hloc : u.loc = []) (hgone : u.gone = []) (hkb : k ∈ u.born)
    (hnil : 0 < l.length ∨ g'.blk k ≠ none) (htt : tt = true → ∀ a n c, v = .slice a n c → c = n) : ∃ g'', OutR F g st w ⟨.row d l.length tt, [(d, [.d (.arr l.length (.int q)) l])], [], []⟩ v g'' w' := by
  have hv := hU.val (tm a)
  rw [hval] at hv
  obtain ⟨cs, hcs, hcs1⟩ := hv
  obtain ⟨hrd, hown⟩ := repLs_single.1 hcs
  obtain ⟨v', hv', hO⟩ := hown (putO_true.2 (.inl hkb))
  have e : v = v' := by
    have h : [v] = [v'] := hcs1.symm.trans hv'
    injection h
  subst e
  rcases hO with ⟨a0, _, h2, h3⟩ | ⟨b, cap, cur, hv, hblk, hheap, hle, hcap, hsz, hel, hCb, hW⟩
  · rcases hnil with hpos | hne
    · rw [h2] at hpos; exact absurd hpos (Nat.lt_irrefl 0)
    · exact (hne h3).elim
  have hb := hU.born k b hkb hblk
  have hge : w.heap.size ≤ b := by
    rcases hb.1 with h1 | ⟨k0, h1, _⟩
    · exact h1
    · rw [hgone] at h1; cases h1
  have hw0 := h.fr.size
  refine ⟨⟨fun b' o => g'.C b' o ∧ b' ≠ b, g.blk, fun k' => if k' = d then (b, 0) else g'.ρ k', g'.H⟩, ?_⟩
  have hel' : ∀ (i : Nat) (x : Int), (l : List Int)[i]? = some x → cur.toList[i]? = some (.int q x) ∧ (Lit.int q x).wf = true := fun i x hx => by
    have h1 : (cur.toList.drop (i * 1)).take 1 = [Value.int q x] ∧ (Lit.int q x).wf = true := hel i x hx
    refine ⟨?_, h1.2⟩
    have h2 := congrArg (fun z => z[0]?) h1.1
    simp only [List.getElem?_take, List.getElem?_drop] at h2
    simpa using h2
  have hKp : ∀ b', b' < w.heap.size → Kp g w g' w' b' → Kp g w ⟨fun b' o => g'.C b' o ∧ b' ≠ b, g.blk, fun k' => if k' = d then (b, 0) else g'.ρ k', g'.H⟩ w' b' := fun b' hlt hk => ⟨hk.1, fun o => ⟨fun hx => (hk.2 o).1 hx.1, fun hx => ⟨(hk.2 o).2 hx, by omega⟩⟩⟩
  refine {
    fr := {
      size := hU.fr.size
      os := hU.fr.os
      tape := hU.fr.tape
      output := hU.fr.output
      old := hU.fr.old
      shape := hU.fr.shape
      com := fun b' o hlt hx => ⟨fun hc => (hU.fr.com b' o hlt hx).1 hc.1, fun hc => ⟨(hU.fr.com b' o hlt hx).2 hc, by omega⟩⟩
      mono := fun b' o hc => ⟨hU.fr.mono b' o hc, by have := h.fr.lim b' o (h.fr.mono b' o hc); omega⟩
      lim := fun b' o hc => hU.fr.lim b' o hc.1 }
    gw := fun ad u hc hC => ⟨(hU.gw ad u hc hC).1, (hU.gw ad u hc hC).2, by have := h.fr.lim _ _ hC; omega⟩
    live := fun k' hk' => fun hO' => ?_
    ρ := fun k' x hL => ?_
    ρn := fun k' => ?_
    H := hU.H
    val := fun tmf => ⟨cap, ?_, hle, hcap, fun e => htt e _ _ _ hv⟩
    nospec := fun _ _ _ _ e => by cases e
    locs := fun k' ls hk' => ?_
    rest := fun k' x hL hk' => ?_
    blk0 := h.blk0
    born := fun k' b' hk' => by cases hk'
    bornI := fun k' _ _ hk' => by cases hk'
    new := fun k' ls hk' hL => ?_ }
  · have hO' : st.O k' = true := hO'
    refine ⟨hO', rfl, fun b' hb' => hKp b' (h.blkS k' b' hO' hb') ?_⟩
    have hnb : k' ∉ u.born := fun hm => by rw [hborn k' hm] at hO'; cases hO'
    exact (hU.live k' hnb (putO_true.2 (.inr ⟨by rw [hgone]; simp, hO'⟩))).2.2 b' hb'
  · show (if k' = d then (b, 0) else g'.ρ k') = g.ρ k'
    rw [if_neg fun e => by rw [e, hfr] at hL; cases hL]
    exact hU.ρ k' x hL
  · show (if k' = d then (b, 0) else g'.ρ k') = g.ρ k' ∨ _
    by_cases hkd : k' = d
    · subst hkd
      exact .inr ⟨hfr, _, List.mem_singleton.2 rfl⟩
    · rw [if_neg hkd]
      rcases hU.ρn k' with h1 | ⟨h1, ls, h2⟩
      · exact .inl h1
      · rw [hloc] at h2; cases h2
  · show v = .slice (some ⟨(if d = d then (b, 0) else g'.ρ d).1, (if d = d then (b, 0) else g'.ρ d).2, none⟩) _ _
    rw [if_pos rfl]
    exact hv
  · simp only [List.mem_singleton, Prod.mk.injEq] at hk'
    obtain ⟨rfl, rfl⟩ := hk'
    show LocOk F _ w' _ _ (if k' = k' then (b, 0) else g'.ρ k')
    rw [if_pos rfl]
    have hcl : cur.toList.length = cap := by
      have : cur.size = cap * 1 := hsz
      simpa using this
    have hsl : sizeLs [Leaf.d (.arr (List.length (α := Int) l) (.int q)) l] = List.length (α := Int) l := by
      show List.length (α := Int) l * 1 + 0 = _
      omega
    refine ⟨cur, (E0, (0, 0)), hheap, ?_, ?_, fun o _ ho => ?_, fun o _ => .inr (Nat.zero_le _)⟩
    · rw [hsl]
      have : cur.size = cap * 1 := hsz
      have hle : List.length (α := Int) l ≤ cap := hle
      show 0 + _ ≤ _
      omega
    · rw [hsl, List.drop_zero]
      refine repLs_single.2 ⟨rfl, ?_, fun i x hx => ?_⟩
      · show ((cur.toList.take _).length) = List.length (α := Int) l * 1
        have hle : List.length (α := Int) l ≤ cap := hle
        rw [List.length_take, hcl]; omega
      · obtain ⟨h1, h2⟩ := hel' i x hx
        have hi : i < List.length (α := Int) l := (List.getElem?_eq_some_iff.1 hx).1
        refine ⟨?_, h2⟩
        show ((cur.toList.take _).drop (i * 1)).take 1 = [Value.int q x]
        have hcur : i < cur.toList.length := (List.getElem?_eq_some_iff.1 h1).1
        rw [Nat.mul_one, List.drop_take, List.take_take, List.drop_eq_getElem_cons hcur, (List.getElem?_eq_some_iff.1 h1).2, Nat.min_eq_left (by omega)]
        rfl
    · refine ⟨fun hc => hc.2 rfl, .inl ?_⟩
      show F.w0.heap.size ≤ b
      omega
  · simp only [List.map_cons, List.map_nil, List.mem_singleton] at hk'
    exact hKp _ (loc_lt h hL) (hU.rest k' x hL (by rw [hloc]; simp))
  · simp only [List.mem_singleton, Prod.mk.injEq] at hk'
    obtain ⟨rfl, rfl⟩ := hk'
    show w.heap.size ≤ (if k' = k' then (b, 0) else g'.ρ k').1 ∧ _
    rw [if_pos rfl]
    refine ⟨hge, fun t b' ht => (by cases ht), fun k2 ls2 hk2 _ _ => ?_⟩
    simp only [List.mem_singleton, Prod.mk.injEq] at hk2
    exact hk2.1
theorem row_out (h : MRel F g st (tm a) w) {d : Nat} {u : Upd} (hborn : hasN st.fr d = true → ∀ t ∈ u.born, st.O t = false) (hU : OutR F g st w u v g' w') (hC : rowC E (some d) st.fr C u = some r) :
    ∃ u' g'', C u' = some r ∧ OutR F g st w u' v g'' w' := by
  unfold rowC at hC
  dsimp only at hC
  split at hC
  case h_2 => exact ⟨u, g', hC, hU⟩
  split at hC
  case h_2 => cases hC
  rename_i k E0 q l hval hloc hgone
  obtain ⟨hk, hC⟩ := chk_some hC
  rw [Bool.and_eq_true, Bool.and_eq_true] at hk
  have hpos : 0 < List.length (α := Int) l := by
    have := hk.2
    rwa [Nat.blt_eq] at this
  obtain ⟨g'', hg⟩ := row_gen h false (h.fresh d hk.1.1).2.2.2 (hborn hk.1.1) hU hval hloc hgone (hasT_iff.1 hk.1.2) (.inl hpos) (fun e => by cases e)
  exact ⟨_, g'', hC, hg⟩
theorem rowM_out (h : MRel F g st (tm a) w) {d : Nat} {u : Upd} {tt : Bool} (hborn : hasN st.fr d = true → ∀ t ∈ u.born, st.O t = false) (hU : OutR F g st w u v g' w') (hnil : ∀ k ∈ u.born, g'.blk k ≠ none) (htt : tt = true → ∀ a n c, v = .slice a n c → c = n) (hC : rowM E (some d) st.fr tt C u = some r) :
    ∃ u' g'', C u' = some r ∧ OutR F g st w u' v g'' w' := by
  unfold rowM at hC
  dsimp only at hC
  split at hC
  case h_2 => exact ⟨u, g', hC, hU⟩
  split at hC
  case h_2 => cases hC
  rename_i k E0 q l hval hloc hgone
  obtain ⟨hk, hC⟩ := chk_some hC
  rw [Bool.and_eq_true] at hk
  obtain ⟨g'', hg⟩ := row_gen h tt (h.fresh d hk.1).2.2.2 (hborn hk.1) hU hval hloc hgone (hasT_iff.1 hk.2) (.inr (hnil k (hasT_iff.1 hk.2))) htt
  exact ⟨_, g'', hC, hg⟩
end
end Pv
end Go.Proofs.Ytgcgdfjldeihkaa
