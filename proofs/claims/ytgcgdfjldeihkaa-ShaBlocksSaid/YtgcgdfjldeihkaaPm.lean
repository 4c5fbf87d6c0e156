/- Pure evaluation of the model's code: rows that are made, and that grow. -/
import Derived.Test.YtgcgdfjldeihkaaPt
import Derived.Test.YtgcgdfjldeihkaaPua
namespace Go.Proofs.Ytgcgdfjldeihkaa
namespace Pv
set_option linter.unusedVariables false
section
variable {E : Env} {F : Fr} {g g' : Gh} {st : PSt} {a : Act} {w w' : World} {o : Oper} {R : Type} {C : Upd → Option R} {r : R} {tmf : Nat → Value} {O : Tok → Bool} {P : Program} {u : Upd} {v : Value}
/-- A new row, committed up to its length. -/
def comR (C : Com) (B n : Nat) : Com := fun b o => C b o ∨ (b = B ∧ o < n)
def blkT (f : Tok → Option Nat) (t : Tok) (b : Option Nat) : Tok → Option Nat := fun k => match tokEq k t with | true => b | false => f k
theorem blkT_at {f : Tok → Option Nat} {t : Tok} {b : Option Nat} : blkT f t b t = b := by unfold blkT; rw [tokEq_iff.2 rfl]
theorem blkT_ne {f : Tok → Option Nat} {t k : Tok} {b : Option Nat} (h : k ≠ t) : blkT f t b k = f k := by
  unfold blkT
  rw [Bool.eq_false_iff.2 fun e => h (tokEq_iff.1 e)]
theorem repD_row {C : Com} {e : Ty} {l : List e.D} {B cap : Nat} {cur : Array Value} {T : TypeId} {fr : Nat × Nat} (hb : w.heap[B]? = some (.cells cur T fr)) (hc : cap ≤ maxLen) (hl : l.length ≤ cap)
    (hcom : ∀ o, o < l.length * e.size → C B o) (hrow : ∀ (i : Nat) (x : e.D), l[i]? = some x → RepD w C e x ((cur.toList.drop (i * e.size)).take e.size)) : RepD w C (.sl e) l [.slice (some ⟨B, 0, none⟩) l.length cap] := by
  refine ⟨_, _, _, rfl, rfl, hl, hc, fun i x hx => ?_⟩
  have hx' : l[i]? = some x := hx
  have hr := hrow i x hx'
  have hlt := (List.getElem?_eq_some_iff.1 hx').1
  refine ⟨⟨B, 0, none⟩, _, rfl, hr.len, fun j u hj => ?_, hr⟩
  have hjl := (List.getElem?_eq_some_iff.1 hj).1
  have hjs : j < e.size := by rw [hr.len] at hjl; exact hjl
  rw [List.getElem?_take, if_pos hjs, List.getElem?_drop, Array.getElem?_toList] at hj
  refine ⟨?_, ?_⟩
  · rw [add_at, cell_at hb, Nat.zero_add]; exact hj
  · show C B (0 + (i * e.size + j))
    have : (i + 1) * e.size ≤ l.length * e.size := Nat.mul_le_mul_right _ hlt
    rw [Nat.add_mul] at this
    exact hcom _ (by omega)
theorem out_newRow (h : MRel F g st (tm a) w) {d B cap : Nat} {E0 : TypeId} {e : Ty} {l : List e.D} {cur : Array Value} {gs : List Tok} (hB : w.heap.size ≤ B) (hB' : B < w'.heap.size) (hsz : w.heap.size ≤ w'.heap.size)
    (hold : ∀ b, b < w.heap.size → w'.heap[b]? = w.heap[b]?) (h5 : w'.os = w.os) (h6 : w'.tape = w.tape) (h7 : w'.output = w.output) (hb : w'.heap[B]? = some (.cells cur E0 (0, 0)))
    (hcap : l.length ≤ cap) (hmax : cap ≤ maxLen) (hcs : cur.size = cap * e.size) (hrow : ∀ (i : Nat) (x : e.D), l[i]? = some x → RepD w g.C e x ((cur.toList.drop (i * e.size)).take e.size)) :
    OutR F g st w ⟨.w false [.own (.op d 0) E0 e l], [], [.op d 0], gs⟩ (.slice (some ⟨B, 0, none⟩) l.length cap) { g with C := comR g.C B (l.length * e.size), blk := blkT g.blk (.op d 0) (some B) } w' := by
  have G : Grew w g.C w' (comR g.C B (l.length * e.size)) := by
    refine ⟨hsz, hold, h5, h6, h7, fun b o hlt => ⟨fun hc => hc.resolve_right fun ⟨e, _⟩ => by omega, .inl⟩, fun b o hc => ?_⟩
    rcases hc with hc | ⟨rfl, _⟩
    · have := h.fr.lim b o hc; omega
    · exact hB'
  have hrow' : ∀ (i : Nat) (x : e.D), l[i]? = some x → RepD w' (comR g.C B (l.length * e.size)) e x ((cur.toList.drop (i * e.size)).take e.size) := fun i x hx => (hrow i x hx).gw G.gw
  refine OutR.grew h G (fun k hk _ => blkT_ne (fun e => hk (List.mem_singleton.2 e))) (fun _ => .inl rfl) rfl (fun tmf => ⟨_, repLs_single.2 ⟨?_, fun _ => ⟨_, rfl, .inr ⟨B, cap, cur, rfl, blkT_at, hb, hcap, hmax, hcs, hrow', fun o => ?_, fun o _ => .inl (Nat.le_trans h.fr.size hB)⟩⟩⟩, rfl⟩)
    (fun _ _ _ _ e => by cases e) (fun k ls hm => by cases hm) ((blkT_ne (f := g.blk) (t := .op d 0) (k := .zero) (b := some B) (fun e => by cases e)).trans h.blk0) (fun k b hm hbl => ?_) (fun k k' b hm hm' _ _ => ?_) (fun k ls hm => by cases hm)
  · exact repD_row hb hmax hcap (fun o ho => .inr ⟨rfl, ho⟩) hrow'
  · constructor
    · rintro (hc | ⟨_, ho⟩)
      · have := h.fr.lim B o hc; omega
      · exact ho
    · exact fun ho => .inr ⟨rfl, ho⟩
  · have e1 : k = .op d 0 := by simpa using hm
    subst e1
    have e2 : B = b := by
      have : blkT g.blk (.op d 0) (some B) (.op d 0) = some b := hbl
      rw [blkT_at] at this
      exact Option.some.inj this
    subst e2
    exact ⟨.inl hB, hB'⟩
  · have e1 : k = .op d 0 := by simpa using hm
    have e2 : k' = .op d 0 := by simpa using hm'
    rw [e1, e2]
theorem go_buildSlice (h : MRel F g st (tm a) w) {t : TypeId} {len : Nat} {parts : Array (Nat × Operand)} (hop : o.op = .buildSlice t len parts) (hv : pvU E o st (evK st.kn st.φ) C = some r) : Goes E F g st a w o C r := by
  simp only [pvU, hop] at hv
  split at hv
  · rename_i e d hu hd
    split at hv
    · rename_i ty n hty hn
      split at hv
      · rename_i l hl
        split at hv
        · rename_i hb
          simp only [Bool.and_eq_true] at hb
          obtain ⟨⟨⟨⟨hb1, hb2⟩, hb3⟩, hb4⟩, hb5⟩ := hb
          have hlen : l.length = len := by simpa using hb1
          have hnt : n = ty.size := by simpa using hb2
          have hsm : len * n ≤ 2 ^ 24 := by rw [Nat.ble_eq] at hb3; exact hb3
          have hpos : 0 < n := by rw [Nat.blt_eq] at hb4; exact hb4
          obtain ⟨h1, h2, h3⟩ := partsD_rel (P := E.P) h hl
          obtain ⟨ie, hie, hies⟩ := sizeT_info hn
          rw [hie] at hb5
          obtain ⟨z, hz⟩ := Option.isSome_iff_exists.1 hb5
          have hsize : ∀ v ∈ parts.toList.map (fun x => a.eval x.2), v.cells.size = ie.size := fun v hm => by
            obtain ⟨k, hk⟩ := List.mem_iff_getElem?.1 hm
            have hlt : k < l.length := by
              have := (List.getElem?_eq_some_iff.1 hk).1
              rw [h2]; simpa using this
            obtain ⟨v', hv', hr⟩ := h3 k _ (List.getElem?_eq_getElem hlt)
            rw [hk] at hv'
            cases hv'
            have := hr.len
            rw [hies, hnt, ← this]; simp
          have hlenp : (parts.toList.map fun x => a.eval x.2).length = len := by rw [List.length_map, ← h2, hlen]
          have hrun : (Instr.buildSlice t len (parts.map fun x => (x.1, a.eval x.2))).run E.P w = .ok (.slice (some ⟨w.heap.size, 0, none⟩) len len) (w.alloc (.cells ((parts.toList.map fun x => a.eval x.2).flatMap fun v => v.cells.toList).toArray e)) := by
            by_cases h0 : len * ie.size = 0
            · have hl0 : len = 0 := by rcases Nat.mul_eq_zero.1 h0 with h | h <;> omega
              subst hl0
              have hpn : parts.toList = [] := by
                have : parts.toList.length = 0 := by rw [← h2, hlen]
                exact List.eq_nil_of_length_eq_zero this
              have hpe : parts = #[] := by cases parts; simp_all
              subst hpe
              simp [Instr.buildSlice, run_underlying hu, sizeOf, typeInfo, hie, Instr.fill, newRow]
              congr 2
              exact Array.eq_empty_of_size_eq_zero (by simp)
            · refine run_buildSlice w t e len _ _ ie z hu hie hz (by rw [hies]; omega) h0 ?_
              rw [Array.toList_map, h1]
              exact Great.fill_whole (s := ie.size) (by omega) (parts.toList.map fun x => a.eval x.2) ((Array.range (len * ie.size)).map (z.cells[· % z.cells.size]!)) hsize (by simp [hlenp])
          have hsum : ((parts.toList.map fun x => a.eval x.2).flatMap fun v => v.cells.toList).length = len * ty.size := by
            rw [List.length_flatMap]
            have : ((parts.toList.map fun x => a.eval x.2).map fun v => v.cells.toList.length) = List.replicate len ty.size := by
              rw [List.eq_replicate_iff]
              refine ⟨by rw [List.length_map]; exact hlenp, fun b hb => ?_⟩
              obtain ⟨v, hv, rfl⟩ := List.mem_map.1 hb
              have := hsize v hv
              rw [Array.length_toList, this, hies, hnt]
            rw [this]
            simp [List.sum_replicate_nat]
          have hU := out_newRow (F := F) (d := d) (B := w.heap.size) (cap := len) (E0 := e) (l := l) (cur := ((parts.toList.map fun x => a.eval x.2).flatMap fun v => v.cells.toList).toArray) (gs := [])
            (w' := w.alloc (.cells ((parts.toList.map fun x => a.eval x.2).flatMap fun v => v.cells.toList).toArray e)) h (Nat.le_refl _) (by rw [World.size_alloc]; omega) (by rw [World.size_alloc]; omega)
            (fun b hb => heap_alloc_old _ _ _ hb) rfl rfl rfl (heap_alloc_new _ _) (by omega) (by unfold maxLen; have : len ≤ len * n := Nat.le_mul_of_pos_right _ hpos; omega) (by simp only [List.size_toArray]; exact hsum) (fun i x hx => by
              obtain ⟨v, hv', hr⟩ := h3 i x hx
              have := rows_get hsize hv'
              rw [hies, hnt] at this
              show RepD w g.C ty x ((((parts.toList.map fun x => a.eval x.2).flatMap fun v => v.cells.toList).drop (i * ty.size)).take ty.size)
              rw [this]
              exact hr)
          rw [hlen] at hU
          refine goes_val (v := .slice (some ⟨w.heap.size, 0, none⟩) len len) ?_ hU hv
          simp only [execOp, hop, Sem.run_bind]
          rw [show (parts.map fun x => match x with | (i, x) => (i, a.eval x)) = parts.map fun x => (x.1, a.eval x.2) from rfl, hrun]
          rfl
        · cases hv
      · cases hv
    · cases hv
  · cases hv
theorem go_makeSlice (h : MRel F g st (tm a) w) {t : TypeId} {n c : Operand} (hop : o.op = .makeSlice t n c) (hv : pvU E o st (evK st.kn st.φ) C = some r) : Goes E F g st a w o C r := by
  simp only [pvU, hop] at hv
  split at hv
  · rename_i e d x y hu hd hx hy
    obtain ⟨k1, hx1, _⟩ := int_rel hx (ev_rel h n)
    obtain ⟨k2, hy1, _⟩ := int_rel hy (ev_rel h c)
    split at hv
    · rename_i ty i hty hi
      split at hv
      · rename_i z hz
        split at hv
        · rename_i hb
          simp only [Bool.and_eq_true] at hb
          have hsz : i.size = ty.size := by simpa using hb.1.2
          have hpos : 0 < i.size := by have := hb.2; rw [Nat.blt_eq] at this; exact this
          obtain ⟨hc, hv⟩ := chk_some hv
          simp only [Bool.and_eq_true, decide_eq_true_eq] at hc
          obtain ⟨⟨⟨h0, h1⟩, h2⟩, h3⟩ := hc
          have h3' : y ≤ 9223372036854775807 := by unfold maxLen at h3; omega
          have hrun := run_make (P := E.P) w t e i z hu hi hz k1 k2 x y h0 h1 (by rw [Int.mul_comm]; omega) h3'
          have hzl : z.cells.size = ty.size := by have := (RepD.zero (w := w) (C := g.C) hb.1.1).len; simpa using this
          have hU := out_newRow (F := F) (d := d) (B := w.heap.size) (cap := y.toNat) (E0 := e) (l := List.replicate x.toNat (zeroD ty)) (cur := madeCells z.cells (y.toNat * i.size)) (gs := [])
            (w' := w.alloc (.cells (madeCells z.cells (y.toNat * i.size)) e)) h (Nat.le_refl _) (by rw [World.size_alloc]; omega) (by rw [World.size_alloc]; omega)
            (fun b hb => heap_alloc_old _ _ _ hb) rfl rfl rfl (heap_alloc_new _ _) (by simp; omega) (by omega) (by rw [size_madeCells, hsz]) (fun j v hj => by
              rw [List.getElem?_replicate] at hj
              split at hj
              · rename_i hlt
                cases hj
                have hrow : ((madeCells z.cells (y.toNat * i.size)).toList.drop (j * ty.size)).take ty.size = z.cells.toList := by
                  apply List.ext_getElem?
                  intro q
                  rw [List.getElem?_take, List.getElem?_drop, Array.getElem?_toList, Array.getElem?_toList]
                  by_cases hq : q < ty.size
                  · have hjy : j < y.toNat := by omega
                    have hle : (j + 1) * ty.size ≤ y.toNat * ty.size := Nat.mul_le_mul_right _ hjy
                    rw [Nat.add_mul] at hle
                    have hm : (j * ty.size + q) % z.cells.size = q := by rw [hzl, Nat.add_comm, Nat.add_mul_mod_self_right]; exact Nat.mod_eq_of_lt hq
                    have hlt2 : j * ty.size + q < y.toNat * i.size := by rw [hsz]; omega
                    rw [if_pos hq]
                    have hqz : q < z.cells.size := by omega
                    simp [madeCells, hlt2, hm, hqz]
                  · rw [if_neg hq, Array.getElem?_eq_none (by omega)]
                rw [hrow]
                exact RepD.zero hb.1.1
              · cases hj)
          simp only [List.length_replicate] at hU
          rw [hd] at hv
          obtain ⟨u', g'', hv, hU⟩ := rowM_out h (fun hf t ht => by
            have ht : t = .op d 0 := by simpa using ht
            rw [ht]
            exact (h.fresh d hf).2.2.1 0) hU (fun t ht => by
            have ht : t = .op d 0 := by simpa using ht
            rw [ht]
            show blkT g.blk (.op d 0) (some w.heap.size) (.op d 0) ≠ none
            rw [blkT_at]
            intro e; cases e) (fun e a0 n0 c0 hvv => by
            injection hvv with _ h4 h5
            have hxy : x = y := by
              unfold sameOp at e
              split at e
              · have e := Nat.eq_of_beq_eq_true e
                subst e
                rw [hx] at hy
                injection hy
              · cases e
            rw [← h4, ← h5, hxy]) hv
          refine goes_val (v := .slice (some ⟨w.heap.size, 0, none⟩) x.toNat y.toNat) ?_ hU hv
          simp only [execOp, hop, Sem.run_bind, hx1, hy1]
          rw [hrun]
          rfl
        · cases hv
      · cases hv
    · cases hv
  · cases hv
end
end Pv
end Go.Proofs.Ytgcgdfjldeihkaa
