/- Pure evaluation of the model's code: conversions. -/
import Derived.Test.YtgcgdfjldeihkaaPh
namespace Go.Proofs.Ytgcgdfjldeihkaa
namespace Pv
set_option linter.unusedVariables false
section
variable {E : Env} {F : Fr} {g g' : Gh} {st : PSt} {a : Act} {w w' : World} {o : Oper} {R : Type} {C : Upd → Option R} {r : R} {tmf : Nat → Value} {O : Tok → Bool} {P : Program} {u : Upd} {v : Value}
theorem push_all : ∀ (l : List Int) (acc : ByteArray), (l.foldl (fun r n => r.push (UInt8.ofNat n.toNat)) acc).data.toList = acc.data.toList ++ l.map fun n => UInt8.ofNat n.toNat
  | [], acc => by simp
  | x :: l, acc => by
    rw [List.foldl_cons, push_all l]
    simp [ByteArray.push]
theorem byte_back {x : Int} (h : (Lit.int .u8 x).wf = true) : byteI (UInt8.ofNat x.toNat) = x := by
  simp [Lit.wf, IntKind.min, IntKind.max, IntKind.signed, IntKind.bits] at h
  unfold byteI
  have : (UInt8.ofNat x.toNat).toNat = x.toNat := by
    rw [UInt8.toNat_ofNat']
    omega
  omega
theorem tailP_slice {p : PV} {u : Value} {e : Ty} {l : List e.D} (hs : isStrP p = false) (h : tailP e p = some l) (hr : RelP F g w O tmf u p) : RepD w g.C (.sl e) l [u] := by
  rcases tailP_rel h hr with ⟨s, hsu, rfl, hl, _⟩ | hr'
  · exfalso
    unfold tailP at h
    cases hq : strP p with
    | some q =>
      unfold strP at hq
      split at hq
      · cases hs
      · cases hq
    | none =>
      rw [hq] at h
      simp only at h
      split at h
      · rename_i e' l' hsl
        obtain ⟨_, _, _, e1, _⟩ := slP_rep hsl hr
        rw [hsu] at e1; simp at e1
      · split at h
        · have hy' : u = .slice none 0 0 := hr
          rw [hsu] at hy'; cases hy'
        · cases h
  · exact hr'
/-- A slice of bytes as a string. -/
theorem bytes_run {src dst e : TypeId} {l : List Int} {u : Value} (hs : P.underlying src = some (.slice e)) (he : P.underlying e = some (.int .u8)) (hd : P.underlying dst = some .string) {C : Com} (hr : RepD w C (.sl (.int .u8)) l [u]) :
    ∃ s : ByteArray, (convert src dst u).run P w = .ok (.string s) w ∧ bytesL s = l ∧ s.size ≤ maxLen := by
  have hr0 := hr
  obtain ⟨xa, xn, xc, x1, x2, x3, x4, x5⟩ := hr0
  have eu : u = .slice xa xn xc := by simpa using x1
  subst eu
  have hln : l.length = xn := x2
  cases xa with
  | none =>
    have h0 : l = [] := by
      cases l with
      | nil => rfl
      | cons x l =>
        obtain ⟨ad, us, e1, _⟩ := x5 0 x rfl
        cases e1
    subst h0
    refine ⟨ByteArray.empty, ?_, rfl, by unfold maxLen; simp⟩
    exact run_convert_bytes_nil w src e hs he xn xc dst hd
  | some ad =>
    obtain ⟨news, n1, n2, n3, n4⟩ := slice_cells (e := .int .u8) (by show 0 < 1; omega) hr
    have hwf : ∀ x ∈ l, (Lit.int .u8 x).wf = true := fun x hx => by
      obtain ⟨i, hi⟩ := List.mem_iff_getElem?.1 hx
      exact (n4 i x hi).2
    have hnews : news = l.map (Value.int .u8) := by
      have hnl : news.length = l.length := by rw [n1]; show List.length (α := Int) l * 1 = _; omega
      apply List.ext_getElem?
      intro i
      by_cases hi : i < l.length
      · have hrow : (news.drop (i * 1)).take 1 = [.int .u8 l[i]] := (n4 i l[i] (List.getElem?_eq_getElem hi)).1
        have h1 := congrArg (fun q : List Value => q[0]?) hrow
        simp only [List.getElem?_take, List.getElem?_drop] at h1
        simp at h1
        rw [List.getElem?_map, List.getElem?_eq_getElem hi]
        simp
        exact h1
      · rw [List.getElem?_eq_none (by omega), List.getElem?_eq_none (by simpa using hi)]
    have hload : (loadCells ad xn).run P w = .ok (l.map (Value.int .u8)).toArray w := by
      have := run_loadCells_list (P := P) w ad news n2
      rw [hnews] at this
      rw [← hln]
      simpa using this
    refine ⟨l.foldl (fun r n => r.push (UInt8.ofNat n.toNat)) ByteArray.empty, ?_, ?_, ?_⟩
    · rw [run_convert_bytes_string w src dst e _ xn xc hs he hd, run_bytesToString w _ xn xc l hload]
    · unfold bytesL
      rw [push_all]
      simp only [List.map_append, List.map_map]
      have : (ByteArray.empty.data.toList.map byteI) = [] := rfl
      rw [this, List.nil_append]
      have h2 : ∀ x ∈ l, (byteI ∘ fun n : Int => UInt8.ofNat n.toNat) x = x := fun x hx => byte_back (hwf x hx)
      exact (List.map_congr_left h2).trans (List.map_id' l)
    · have h3 := congrArg List.length (push_all l ByteArray.empty)
      have h4 : ByteArray.empty.data.toList = [] := rfl
      rw [h4] at h3
      simp at h3
      have : (l.foldl (fun r n => r.push (UInt8.ofNat n.toNat)) ByteArray.empty).size = l.length := by
        rw [← h3]
      rw [this]
      exact hln ▸ (by omega)
theorem out_bytes (h : MRel F g st (tm a) w) (e : TypeId) {s : ByteArray} (hz : s.size ≤ maxLen) :
    OutR F g st w (Upd.v (.w false [.d (.sl (.int .u8)) (bytesL s)])) (.slice (some ⟨w.heap.size, 0, none⟩) s.size (grownCap w s.size 0 e)) { g with C := comR g.C w.heap.size s.size } (Lib.bytesWorld w e s) := by
  have hnew := Lib.bytesWorld_at_new w e s
  have hsz := Lib.bytesWorld_size w e s
  have hge := grownCap_ge w s.size 0 e
  have hle := grownCap_le_maxLen w s.size 0 e hz
  have hlen : (bytesL s).length = s.size := bytes_len s
  have G : Grew w g.C (Lib.bytesWorld w e s) (comR g.C w.heap.size s.size) := by
    refine ⟨by omega, fun b hb => Lib.bytesWorld_at_old w e s b hb, rfl, rfl, rfl, fun b o hlt => ⟨fun hc => hc.resolve_right fun ⟨e, _⟩ => by omega, .inl⟩, fun b o hc => ?_⟩
    rcases hc with hc | ⟨rfl, _⟩
    · have := h.fr.lim b o hc; omega
    · omega
  have hrow : ∀ (i : Nat) (y : (Ty.int .u8).D), gt (α := (Ty.int .u8).D) (bytesL s) i = some y → RepD (Lib.bytesWorld w e s) (comR g.C w.heap.size s.size) (.int .u8) y (((Lib.bytesCells w e s).toList.drop (i * (Ty.int .u8).size)).take (Ty.int .u8).size) := fun i y hy => by
    have hy' : (bytesL s)[i]? = some y := hy
    rw [bytes_get] at hy'
    obtain ⟨c, hc, rfl⟩ := Option.map_eq_some_iff.1 hy'
    have hi : i < s.size := by
      have : (bytesL s)[i]? = some (byteI c) := by rw [bytes_get, hc]; rfl
      have := (List.getElem?_eq_some_iff.1 this).1
      rwa [bytes_len] at this
    refine ⟨?_, byte_wf c⟩
    have e1 : (Ty.int .u8).size = 1 := rfl
    rw [e1, Nat.mul_one]
    have hcell : (Lib.bytesCells w e s).toList[i]? = some (.int .u8 (byteI c)) := by
      rw [Array.getElem?_toList]
      have hci : s.data[i]? = some c := by
        have : s[i]? = s.data[i]? := by simp only [getElem?_def]; rfl
        rw [← this]; exact hc
      unfold Lib.bytesCells
      rw [Array.getElem?_append_left (by simpa using hi)]
      simp [hci, byteI]
    rw [List.drop_eq_getElem_cons (List.getElem?_eq_some_iff.1 hcell).1]
    simp [(List.getElem?_eq_some_iff.1 hcell).2]
  refine OutR.grew h G (fun _ _ _ => rfl) (fun _ => .inl rfl) rfl (fun tmf => rel_leaf.2 ?_) (fun _ _ _ _ e => by cases e) (fun _ _ hm => by cases hm) h.blk0 (fun _ _ hm => by cases hm) (fun _ _ _ hm => by cases hm) (fun _ _ hm => by cases hm)
  have hlen' : List.length (α := (Ty.int .u8).D) (bytesL s) = s.size := hlen
  have e1 : (Ty.int .u8).size = 1 := rfl
  have := repD_row (w := Lib.bytesWorld w e s) (C := comR g.C w.heap.size s.size) (e := .int .u8) (l := bytesL s) (B := w.heap.size) (cap := grownCap w s.size 0 e) hnew hle (by rw [hlen']; exact hge) (fun o ho => .inr ⟨rfl, by rw [hlen', e1] at ho; omega⟩) hrow
  rw [hlen'] at this
  exact this
theorem freeze_facts {b n : Nat} {cur : Array Value} {T : TypeId} (hb : w.heap[b]? = some (.cells cur T (0, 0))) : (w.freeze ⟨b, n, none⟩ 1).heap[b]? = some (.cells cur T (n, n + 1)) ∧ (∀ j, j ≠ b → (w.freeze ⟨b, n, none⟩ 1).heap[j]? = w.heap[j]?) ∧ (w.freeze ⟨b, n, none⟩ 1).heap.size = w.heap.size ∧
    (w.freeze ⟨b, n, none⟩ 1).os = w.os ∧ (w.freeze ⟨b, n, none⟩ 1).tape = w.tape ∧ (w.freeze ⟨b, n, none⟩ 1).output = w.output := by
  unfold World.freeze
  rw [if_neg (by decide)]
  refine ⟨?_, fun j hj => ?_, ?_, rfl, rfl, rfl⟩
  · show (w.heap.modify b _)[b]? = _
    rw [Array.getElem?_modify, if_pos rfl, hb]
    rfl
  · show (w.heap.modify b _)[j]? = _
    rw [Array.getElem?_modify, if_neg (fun e => hj e.symm)]
  · show (w.heap.modify b _).size = _
    simp
/-- A row of one's own, laid as a local variable. -/
theorem out_rowB (h : MRel F g st (tm a) w) {d : Nat} (hd : st.L d = none) (e : TypeId) {s : ByteArray} (hz : s.size ≤ maxLen) :
    OutR F g st w ⟨.row d (List.length (α := Int) (bytesL s)) false, [(d, [.d (.arr (List.length (α := Int) (bytesL s)) (.int .u8)) (bytesL s)])], [], []⟩ (.slice (some ⟨w.heap.size, 0, none⟩) s.size (grownCap w s.size 0 e)) { g with ρ := newRho g.ρ d w.heap.size } (Lib.bytesWorld w e s) := by
  have hnew := Lib.bytesWorld_at_new w e s
  have hsz := Lib.bytesWorld_size w e s
  have hge := grownCap_ge w s.size 0 e
  have hle := grownCap_le_maxLen w s.size 0 e hz
  have hlen : List.length (α := Int) (bytesL s) = s.size := bytes_len s
  have G : Grew w g.C (Lib.bytesWorld w e s) g.C := by
    refine ⟨by omega, fun b hb => Lib.bytesWorld_at_old w e s b hb, rfl, rfl, rfl, fun b o hlt => Iff.rfl, fun b o hc => ?_⟩
    have := h.fr.lim b o hc; omega
  have hb : w.heap.size ≥ F.w0.heap.size := h.fr.size
  refine OutR.grew h G (fun k _ _ => rfl) (fun k => ?_) rfl (fun tmf => ?_) (fun _ _ _ _ e => by cases e) (fun k l hm => ?_) h.blk0 (fun k b hm => by cases hm) (fun k k' b hm => by cases hm) (fun k l hm hn => ?_)
  · by_cases hne : k = d
    · subst hne; exact .inr ⟨hd, _, by simp; rfl⟩
    · exact .inl (if_neg hne)
  · refine ⟨grownCap w s.size 0 e, ?_, by omega, hle, fun e => by cases e⟩
    show _ = Value.slice (some ⟨(newRho g.ρ d w.heap.size d).1, (newRho g.ρ d w.heap.size d).2, none⟩) _ _
    unfold newRho
    rw [if_pos rfl, hlen]
  · have hm' : (k, l) = _ := List.mem_singleton.1 hm
    cases hm'
    show LocOk F _ _ _ _ (newRho g.ρ d w.heap.size d)
    unfold newRho
    rw [if_pos rfl]
    have hsl : sizeLs [Leaf.d (.arr (List.length (α := Int) (bytesL s)) (.int .u8)) (bytesL s)] = s.size := by
      show List.length (α := Int) (bytesL s) * 1 + 0 = _
      omega
    have hcs : (Lib.bytesCells w e s).size ≥ s.size := by
      unfold Lib.bytesCells
      simp
    refine ⟨Lib.bytesCells w e s, (e, _), hnew, by rw [hsl]; show 0 + s.size ≤ _; omega, ?_, fun o _ _ => ⟨fun hc => ?_, .inl hb⟩, fun o ho => .inl ?_⟩
    · rw [hsl, List.drop_zero]
      refine repLs_single.2 ⟨rfl, ?_, fun i y hy => ?_⟩
      · rw [List.length_take, Array.length_toList]
        show min s.size _ = List.length (α := Int) (bytesL s) * 1
        omega
      · have hy' : (bytesL s)[i]? = some y := hy
        rw [bytes_get] at hy'
        obtain ⟨c, hc, rfl⟩ := Option.map_eq_some_iff.1 hy'
        have hi : i < s.size := by
          have : (bytesL s)[i]? = some (byteI c) := by rw [bytes_get, hc]; rfl
          have := (List.getElem?_eq_some_iff.1 this).1
          rwa [bytes_len] at this
        refine ⟨?_, byte_wf c⟩
        have e1 : (Ty.int .u8).size = 1 := rfl
        rw [e1, Nat.mul_one]
        have hcell : ((Lib.bytesCells w e s).toList.take s.size)[i]? = some (.int .u8 (byteI c)) := by
          rw [List.getElem?_take, if_pos hi, Array.getElem?_toList]
          have hci : s.data[i]? = some c := by
            have : s[i]? = s.data[i]? := by simp only [getElem?_def]; rfl
            rw [← this]; exact hc
          unfold Lib.bytesCells
          rw [Array.getElem?_append_left (by simpa using hi)]
          simp [hci, byteI]
        rw [List.drop_eq_getElem_cons (List.getElem?_eq_some_iff.1 hcell).1]
        simp [(List.getElem?_eq_some_iff.1 hcell).2]
    · have := h.fr.lim _ _ hc
      omega
    · rw [hsl] at ho
      have ho : o < 0 + s.size := ho
      show o < (Lib.bytesCells w e s).size
      omega
  · have hm' : (k, l) = _ := List.mem_singleton.1 hm
    cases hm'
    have e : newRho g.ρ d w.heap.size d = (w.heap.size, 0) := if_pos rfl
    refine ⟨by show w.heap.size ≤ (newRho g.ρ d w.heap.size d).1; rw [e]; exact Nat.le_refl _, fun t b ht => by (cases ht), fun k' ls' hm2 _ _ => ?_⟩
    have hm3 : (k', ls') = _ := List.mem_singleton.1 hm2
    cases hm3
    rfl
/-- Such a row, read. -/
theorem row_rep (h : MRel F g st tmf w) {k n σ m : Nat} {t : Bool} {ls : List Leaf} {ty : Ty} {l : (Ty.arr m ty).D} {l' : List Int} {u : Value} (hL : st.L k = some (σ, ls)) (hone : oneAt ls 0 = some (.d (.arr m ty) l)) (hcast : castD (t := .sl ty) (.sl (.int .u8)) l = some l')
    (hu : RelP F g w O tmf u (.row k n t)) (hle : n ≤ l'.length) : RepD w (fun _ _ => True) (.sl (.int .u8)) (l'.take n) [u] := by
  have ht : ty = .int .u8 := by
    unfold castD at hcast
    split at hcast
    · rename_i ht
      have := teq_eq ht
      injection this
    · cases hcast
  subst ht
  have el : l = l' := by
    unfold castD at hcast
    split at hcast
    · injection hcast
    · cases hcast
  have el2 : l' = l := el.symm
  subst el2
  obtain ⟨cap, rfl, h1, h2, _⟩ := hu
  obtain ⟨cur, T, hb, hsz, hrep, _⟩ := h.locals k σ ls hL
  unfold oneAt at hone
  cases ls with
  | nil => cases hone
  | cons x r =>
    have hx : x = .d (.arr m (.int .u8)) l' := by
      have : some x = some (Leaf.d (.arr m (.int .u8)) l') := hone
      injection this
    subst hx
    obtain ⟨c1, c2, ec, hr1, _⟩ := hrep
    obtain ⟨a1, a2, a3⟩ := hr1
    have a1 : List.length (α := Int) l' = m := a1
    have e1 : (Ty.int .u8).size = 1 := rfl
    rw [e1, Nat.mul_one] at a2
    refine ⟨_, _, _, rfl, (List.length_take (α := Int) (i := n) (l := l')).trans (by omega), h1, h2, fun i x hi => ?_⟩
    have hi' : (List.take (α := Int) n l')[i]? = some x := hi
    rw [List.getElem?_take] at hi'
    split at hi'
    case isFalse => cases hi'
    rename_i hin
    have hr := a3 i x hi'
    rw [e1, Nat.mul_one] at hr
    obtain ⟨hr1, hr2⟩ := hr
    have hci : c1[i]? = some (.int .u8 x) := by
      have := congrArg (fun q : List Value => q[0]?) hr1
      simp only [List.getElem?_take, List.getElem?_drop] at this
      simpa using this
    refine ⟨_, [.int .u8 x], rfl, rfl, fun j v hj => ⟨?_, trivial⟩, ⟨rfl, hr2⟩⟩
    have hj0 : j = 0 := by
      have := (List.getElem?_eq_some_iff.1 hj).1
      simp at this
      omega
    subst hj0
    have hv : v = .int .u8 x := by simpa using hj.symm
    subst hv
    rw [add_at, cell_at hb]
    have hcc : (c1 ++ c2)[i]? = some (.int .u8 x) := by
      rw [List.getElem?_append_left (List.getElem?_eq_some_iff.1 hci).1]; exact hci
    rw [← ec, List.getElem?_take, List.getElem?_drop, Array.getElem?_toList] at hcc
    split at hcc
    case isFalse => cases hcc
    rw [e1, Nat.mul_one, Nat.add_zero]
    exact hcc
theorem go_convert (h : MRel F g st (tm a) w) {src dst : TypeId} {x : Operand} (hop : o.op = .convert src dst x) (hv : pvU E o st (evK st.kn st.φ) C = some r) : Goes E F g st a w o C r := by
  simp only [pvU, hop] at hv
  have hx := ev_rel h x
  split at hv
  · rename_i k0 k k1 n hs hd he
    rw [he] at hx
    obtain ⟨ex, wx⟩ := rel_int hx
    have hr : (convert src dst (.int k1 n)).run E.P w = .ok (.int k (k.wrap n)) w := by
      simp [convert, run_underlying hs, run_underlying hd, Conv.intToInt]
    refine goes_same h (v := .int k (k.wrap n)) (p := pint k (k.wrap n)) ?_ (mk_int (wf_wrap _ _)) (fun _ _ _ _ e => by cases e) hv
    simp only [execOp, hop, Sem.run_bind]
    rw [ex, hr]
    rfl
  · rename_i l hs hd he
    rw [he] at hx
    obtain ⟨s, ex, hb, hz⟩ := rel_str hx
    have hr : (convert src dst (.string s)).run E.P w = .ok (.string s) w := by
      simp [convert, run_underlying hs, run_underlying hd]
    refine goes_same h (v := .string s) (p := pstr l) ?_ (mk_str hb hz) (fun _ _ _ _ e => by cases e) hv
    simp only [execOp, hop, Sem.run_bind]
    rw [ex, hr]
    rfl
  · rename_i e l hs hd he
    rw [he] at hx
    obtain ⟨s, ex, hb, hz⟩ := rel_str hx
    split at hv
    · rename_i d hdst heu
      have hrun := Lib.run_convert_string_bytes (P := E.P) w src dst e s hs hd heu
      subst hb
      split at hv
      · split at hv
        · rename_i hfr
          have hln : List.length (α := Int) (bytesL s) = s.size := bytes_len s
          refine goes_val (v := .slice (some ⟨w.heap.size, 0, none⟩) s.size (grownCap w s.size 0 e)) (w' := Lib.bytesWorld w e s) (u := ⟨.row d (List.length (α := Int) (bytesL s)) false, [(d, [.d (.arr (List.length (α := Int) (bytesL s)) (.int .u8)) (bytesL s)])], [], []⟩) ?_ (out_rowB h (h.fresh d hfr).2.2.2 e hz) hv
          simp only [execOp, hop, Sem.run_bind]
          rw [ex, hrun]
          rfl
        · cases hv
      refine goes_val (v := .slice (some ⟨w.heap.size, 0, none⟩) s.size (grownCap w s.size 0 e)) (w' := Lib.bytesWorld w e s) (u := Upd.v (.w false [.d (.sl (.int .u8)) (bytesL s)])) ?_ (out_bytes h e hz) hv
      simp only [execOp, hop, Sem.run_bind]
      rw [ex, hrun]
      rfl
    · cases hv
  · rename_i e0 e hs hd
    split at hv
    · rename_i k e' l hsd heu hl
      have hsd := Nat.eq_of_beq_eq_true hsd
      subst hsd
      unfold ownNow at hl
      split at hl
      · rename_i k1 E1 e1 l1 he
        split at hl
        · rename_i hO
          injection hl with hl1
          obtain ⟨hl2, hl3⟩ := Prod.mk.inj hl1
          clear hl1
          subst hl2
          cases hl3
          rw [Bool.and_eq_true] at hO
          rw [he] at hx
          obtain ⟨cs, hcs, hag⟩ := hx
          obtain ⟨hr, hown⟩ := repLs_single.1 hcs
          have hag : cs = [a.eval x] := hag
          subst hag
          obtain ⟨v, hv1, hO2⟩ := hown hO.1
          injection hv1 with hv1
          rcases hO2 with ⟨p, _, hnil, _⟩ | ⟨b, cap, cur, hv2, hbk, hb, _⟩
          · rw [hnil] at hO
            cases hO.2
          · rw [hv2] at hv1
            obtain ⟨q1, q2, q3, q4, q5, q6⟩ := freeze_facts (w := w) (n := cur.size) hb
            have hrun : (convert src src (a.eval x)).run E.P w = .ok (a.eval x) (w.freeze ⟨b, cur.size, none⟩ 1) := by
              rw [hv1]
              have hsh : w.shape? b = some (E1, cur.size) := by simp [World.shape?, hb]
              have e00 : e0 = e := by
                rw [hs] at hd
                injection hd with hd
                injection hd
              subst e00
              simp [convert, run_underlying hs, run_underlying heu, markStringish, hsh]
            refine goes_val (w' := w.freeze ⟨b, cur.size, none⟩ 1) (v := a.eval x) (u := ⟨.w false [.d (.sl e') l], [], [], gone1 k1⟩) ?_ (out_mark h hO.1 hbk hr hb q1 q2 q3 q4 q5 q6) hv
            simp only [execOp, hop, Sem.run_bind]
            rw [hrun]
            rfl
        · cases hl
      · cases hl
    · cases hv
  · rename_i e k n tt hs hd he
    rw [he] at hx
    split at hv
    · rename_i σ ls heu hL
      split at hv
      · rename_i m ty l hone
        split at hv
        · rename_i l' hcast
          obtain ⟨hle, hv⟩ := chk_some hv
          have hle : n ≤ List.length (α := Int) l' := Nat.le_of_ble_eq_true hle
          obtain ⟨s, hrun, hb, hz⟩ := bytes_run (P := E.P) hs heu hd (row_rep h hL hone hcast hx hle)
          refine goes_same h (v := .string s) (p := pstr (List.take (α := Int) n l')) ?_ (mk_str hb hz) (fun _ _ _ _ e => by cases e) hv
          simp only [execOp, hop, Sem.run_bind]
          rw [hrun]
          rfl
        · cases hv
      · cases hv
    · cases hv
  · rename_i e hs hd hnr
    split at hv
    · rename_i l heu hst hl
      obtain ⟨s, hrun, hb, hz⟩ := bytes_run (P := E.P) hs heu hd (tailP_slice hst hl hx)
      refine goes_same h (v := .string s) (p := pstr l) ?_ (mk_str hb hz) (fun _ _ _ _ e => by cases e) hv
      simp only [execOp, hop, Sem.run_bind]
      rw [hrun]
      rfl
    · cases hv
  · cases hv
end
end Pv
end Go.Proofs.Ytgcgdfjldeihkaa
