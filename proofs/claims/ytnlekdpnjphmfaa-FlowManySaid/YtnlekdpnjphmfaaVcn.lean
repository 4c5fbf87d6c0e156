/- The conditions of Vc are sound for the model's code: every operation, and a list of them. -/
import Derived.Test.YtnlekdpnjphmfaaVcm
namespace Go.Proofs.Ytnlekdpnjphmfaa
namespace Vc
section
variable {E : Env} {v0 w0 : World} {n : Nat} {ρ : Nat → Nat} {st : St} {a : Act} {w : World} {K : St → Prop} {Q : Exit → Act → World → Prop}

theorem runs_sound (h : Rel v0 w0 n ρ st a w) {o : Oper} (hd : ∀ x, o.dst = some x → x < n) (hsel : ∀ cs b, o.op ≠ .select cs b) (hok : o.op.operands.toList.all (isVal none st.φ) = true)
    (hv : Runs E.P (execOp (rhoG none st.φ) ⟨none, o.op, o.type, "", #[], none⟩) st.v fun r v' => exR E.P o.type fun x => r = .value x ∧ K ⟨put st.φ o.dst (.val x), st.L, v'⟩) :
    o.wp E.P a w (Next' v0 w0 n o.dst ρ a K) Q := by
  obtain ⟨r, w', v', hr, hvis, hk, hx⟩ := hv w h.vis
  obtain ⟨x, rfl, hK⟩ := exR_sound hx
  refine wp_world h hd ?_ hvis hk hK
  rw [exec_all h none_g o hsel hok, execOp_core]
  exact hr
theorem call_sound (h : Rel v0 w0 n ρ st a w) {o : Oper} (hd : ∀ x, o.dst = some x → x < n) {f : FuncId} {fn : Func} {args : Array Operand} {ts : Array TypeId} (ho : o.op = .call { callee := .value (.func f), args, argTypes := ts })
    (hok : o.op.operands.toList.all (isVal none st.φ) = true) (hf : E.P.funcs[f]? = some fn) (hb : (fn.body.isSome && !(fn.name == "runtime.NumGoroutine")) = true)
    (hv : CallsV E.P f (args.map (rhoG none st.φ)) st.v fun r v' => exR E.P o.type fun x => r = x ∧ K ⟨put st.φ o.dst (.val x), st.L, v'⟩) :
    o.wp E.P a w (Next' v0 w0 n o.dst ρ a K) Q := by
  have hargs : args.map a.eval = args.map (rhoG none st.φ) := Array.map_congr_left fun x hx => rho_all h none_g hok x (by rw [ho]; simp [Op.operands, Call.operands, hx])
  have hex : execOp a.eval o = callFunc f (args.map a.eval) := by
    have ef : a.eval (.func f) = .func (.func f) #[] #[] := rfl
    unfold execOp
    simp [ho, resolve, Deferred.ofValue, invoke, ef]
  unfold Oper.wp
  rw [hex, run_callFunc hf hb]
  rw [Oper.upon_enter, hargs]
  refine (hv w h.vis).mono fun e w' hR => ?_
  obtain ⟨r, v', rfl, hvis, hk, hx⟩ := hR
  obtain ⟨x, rfl, hK⟩ := exR_sound hx
  exact ⟨_, ρ, hK, (h.world hvis hk).put hd rfl, Fr.put h hd r⟩
theorem alloc_sound (h : Rel v0 w0 n ρ st a w) {o : Oper} (hd : ∀ x, o.dst = some x → x < n) {d : Nat} (hdst : o.dst = some d) {t : TypeId} {cs : Array Value}
    (hr : (execOp a.eval o).run E.P w = .ok (.value (.pointer (some ⟨w.heap.size, 0, none⟩))) (w.alloc (.cells cs t)))
    (hv : match hasN E.esc d with
        | true => K ⟨put st.φ (some d) (.val (.pointer (some ⟨st.v.heap.size, 0, none⟩))), st.L, st.v.alloc (.cells cs t)⟩
        | false => K ⟨put (fun i => killLoc d (st.φ i)) (some d) (.loc d 0), at_ st.L d (some cs.toList), Vc.hv st.v⟩) :
    o.wp E.P a w (Next' v0 w0 n o.dst ρ a K) Q := by
  cases he : hasN E.esc d with
  | true =>
    rw [he] at hv
    refine wp_world h hd hr (h.vis.alloc (.cells cs t) (.cells cs t) (fun _ => rfl)) (Keep.alloc h.vis _ _) ?_
    rw [hdst, h.vis.size]; exact hv
  | false =>
    rw [he] at hv
    exact wp_local h hdst (hd d hdst) hr hv
theorem run_bound {P : Program} (k : IntKind) (i : Int) (y : Nat) (code : BoundsCode) (h0 : 0 ≤ i) (h1 : i ≤ y) (w : World) : (Instr.sliceBound (.int k i) y code).run P w = .ok i.toNat w := run_sliceBound w k i y code h0 h1
theorem mem_sound (h : Rel v0 w0 n ρ st a w) {o : Oper} (hd : ∀ x, o.dst = some x → x < n) (hv : vcMem E o st K) : o.wp E.P a w (Next' v0 w0 n o.dst ρ a K) Q := by
  have val := fun {x : Operand} {u : Value} (hx : evG none st.φ x = .val u) => evG_val h none_g hx
  have loc := fun {x : Operand} {k f : Nat} (hx : evG none st.φ x = .loc k f) => evG_loc h none_g hx
  obtain ⟨dst, op, ty, pos, after, guard⟩ := o
  have fall : ∀ (hsel : ∀ cs b, op ≠ .select cs b), (match op.operands.toList.all (isVal none st.φ) with
      | true => Runs E.P (execOp (rhoG none st.φ) ⟨none, op, ty, "", #[], none⟩) st.v fun r v' => exR E.P ty fun x => r = .value x ∧ K ⟨put st.φ dst (.val x), st.L, v'⟩
      | false => False) → Oper.wp E.P ⟨dst, op, ty, pos, after, guard⟩ a w (Next' v0 w0 n dst ρ a K) Q := fun hsel hh => by
    cases hok : op.operands.toList.all (isVal none st.φ) with
    | false => rw [hok] at hh; exact hh.elim
    | true => rw [hok] at hh; exact runs_sound h hd hsel hok hh
  cases op <;> simp only [vcMem] at hv
  case alloc t =>
    split at hv
    · rename_i i d hi
      split at hv
      · rename_i z hz
        refine alloc_sound h hd rfl ?_ hv
        simp [execOp, Instr.alloc, zeroValue, typeInfo, hi, hz, newVar, newRow]
      · exact hv.elim
    · exact hv.elim
  case box t x =>
    split at hv
    · rename_i u d hu
      refine alloc_sound h hd rfl ?_ hv
      simp [execOp, val hu, Instr.box, newVar, newRow]
    · exact hv.elim
  case store t x y =>
    split at hv
    · rename_i k off u hx hy
      split at hv
      · rename_i cs m hL hm
        split at hv
        · rename_i hb
          simp only [Bool.and_eq_true] at hb
          have hl : u.cells.toList.length = m := by simpa using hb.1
          split at hv
          · rename_i cs' hp
            obtain ⟨hle, rfl⟩ := paste_some hp
            obtain ⟨_, _, t', ht'⟩ := h.locals k cs hL
            obtain ⟨w', h1, h2, h3, h4, h5, h6, h7⟩ := run_storeCells_row (P := E.P) u.cells.toList w (ρ k) off 0 cs t' ht' (by simpa using hle) hb.2
            refine wp_skipped (w' := w') ?_ ⟨_, ρ, hv, (h.store hL (by simpa using h2) h3 h4 h5 h6 h7).put hd rfl, Fr.put h hd _⟩
            have hs := run_storeVar (P := E.P) (t := t) (ad := ⟨ρ k, off, none⟩) (u := u) (by rw [hl]; exact hm) w
            simp only [execOp, loc hx, val hy, Instr.storeAt, Instr.sureAddr, Sem.run_bind, Sem.run_pure, Result.andThen_ok, hs, h1]
          · exact hv.elim
        · exact hv.elim
      · exact hv.elim
    · rename_i ad u hx hy
      split at hv
      · rename_i m hm
        split at hv
        · rename_i hb
          simp only [Bool.and_eq_true] at hb
          have hl : u.cells.toList.length = m := by simpa using hb.1
          obtain ⟨w', v', h1, h2, h3, h4⟩ := writeC_sound (P := E.P) _ 0 _ _ h.vis hb.2 hv
          refine wp_skipped (w' := w') ?_ ⟨_, ρ, h4, (h.world h2 h3).put hd rfl, Fr.put h hd _⟩
          have hs := run_storeVar (P := E.P) (t := t) (ad := ad) (u := u) (by rw [hl]; exact hm) w
          simp only [execOp, val hx, val hy, Instr.storeAt, Instr.sureAddr, Sem.run_bind, Sem.run_pure, Result.andThen_ok, hs, h1]
        · exact hv.elim
      · exact hv.elim
    · exact hv.elim
  case load t x =>
    split at hv
    · rename_i ad hx
      split at hv
      · rename_i ks m hks hm
        split at hv
        · rename_i hb
          simp only [Bool.and_eq_true, Bool.or_eq_true] at hb
          have hl : ks.length = m := by simpa using hb.1
          obtain ⟨cs, hcl, hc, hK⟩ := readC_sound ks 0 hv
          have hu : (E.P.underlying t).isSome = true := by
            have : kinds E.P deep t = some ks := hks
            unfold deep kinds at this
            cases hu : E.P.underlying t with
            | none => rw [hu] at this; cases this
            | some d => rfl
          have hc' : ∀ j x, cs[j]? = some x → w.cell? (ad.add j) = some x := fun j x hj => h.vis.cell (by have := hc j x hj; rwa [Nat.zero_add] at this)
          refine wp_value (u := shut E.P t cs) (w' := w) ?_ ⟨_, ρ, hK, h.put hd rfl, Fr.put h hd _⟩
          have hr : (loadVar t ad).run E.P w = .ok (shut E.P t cs) w := by
            unfold shut
            cases ha : isAg E.P t with
            | true => exact run_loadVar_cells hm (by omega) ha hc'
            | false =>
              rw [ha] at hb
              have h1 : m = 1 := by simpa using hb.2
              cases cs with
              | nil => simp at hcl; omega
              | cons u r =>
                refine run_loadVar_one ha hu ?_
                have := hc' 0 u rfl
                rwa [Addr.add_zero'] at this
          simp only [execOp, val hx, Instr.loadAt, Instr.sureAddr, Sem.run_bind, Sem.run_pure, Result.andThen_ok, hr]
        · exact hv.elim
      · exact hv.elim
    · exact hv.elim
  case nilCheck x =>
    split at hv
    · rename_i p hx
      obtain ⟨ad, rfl, hK⟩ := hv
      exact wp_yield h hd (s := .val (.pointer (some ad))) ⟨_, by simp [execOp, val hx], rfl⟩ hK
    · exact hv.elim
  case indexAddr t x i =>
    split at hv
    · rename_i p m c k j e hx hi hu
      split at hv
      · rename_i sz hsz
        obtain ⟨ad, rfl, h0, h1, hK⟩ := hv
        refine wp_yield h hd (s := .val (.pointer (some (ad.add (j.toNat * sz))))) ⟨_, ?_, rfl⟩ hK
        simp [execOp, val hx, val hi, Instr.indexAt, asIntOf, run_underlying hu, h0, h1, run_sizeOf hsz]
      · exact hv.elim
    · exact hv.elim
  case index t x i =>
    split at hv
    · rename_i s k j hx hi hu
      obtain ⟨c, h0, h1, hK⟩ := hv
      refine wp_yield h hd (s := .val (.int .u8 (c.toNat : Int))) ⟨_, ?_, rfl⟩ hK
      simp [execOp, val hx, val hi, Instr.index, asIntOf, run_underlying hu, h0, h1]
    · exact hv.elim
  case slice t x lo hi mx =>
    split at hv
    · rename_i s hx hu
      split at hv
      · rename_i l hh hl' hh'
        obtain ⟨h0, h1, h2, hK⟩ := hv
        have hop : ∀ y, lo = some y ∨ hi = some y → ∀ k m, rhoG none st.φ y = .int k m → a.eval y = .int k m := fun y _ k m hm => by
          unfold rhoG at hm
          cases hy : evG none st.φ y with
          | val u => rw [hy] at hm; rw [val hy]; exact hm
          | loc k o => rw [hy] at hm; cases hm
          | dead => rw [hy] at hm; cases hm
          | spec j w s => rw [hy] at hm; cases hm
        refine wp_yield h hd (s := .val (.string (s.extract l.toNat hh.toNat))) ⟨_, ?_, rfl⟩ hK
        have hb : (Instr.sliceBounds false s.size s.size (lo.map a.eval) (hi.map a.eval) none).run E.P w = .ok (l.toNat, hh.toNat, s.size) w := by
          rcases bound_sound hl' with ⟨rfl, rfl⟩ | ⟨y, k, rfl, hy⟩ <;> rcases bound_sound hh' with ⟨rfl, rfl⟩ | ⟨y', k', rfl, hy'⟩
          · simp [Instr.sliceBounds]
          · simp [Instr.sliceBounds, hop y' (.inr rfl) _ _ hy', run_bound k' hh s.size _ (by omega) h2]
          · simp [Instr.sliceBounds, hop y (.inl rfl) _ _ hy, run_bound k l s.size _ h0 h1]
          · have h3 : l ≤ ((hh.toNat : Nat) : Int) := by omega
            simp [Instr.sliceBounds, hop y (.inl rfl) _ _ hy, hop y' (.inr rfl) _ _ hy', run_bound k' hh s.size _ (by omega) h2, run_bound k l hh.toNat _ h0 h3]
        simp [execOp, val hx, Instr.sliceAt, Instr.slice, run_underlying hu, hb]
      · exact hv.elim
    · rename_i p m c e hx hu
      split at hv
      · rename_i l hh sz hl' hh' hsz
        obtain ⟨h0, h1, h2, hK⟩ := hv
        have hop : ∀ y, lo = some y ∨ hi = some y → ∀ k m, rhoG none st.φ y = .int k m → a.eval y = .int k m := fun y _ k m hm => by
          unfold rhoG at hm
          cases hy : evG none st.φ y with
          | val u => rw [hy] at hm; rw [val hy]; exact hm
          | loc k o => rw [hy] at hm; cases hm
          | dead => rw [hy] at hm; cases hm
          | spec j w s => rw [hy] at hm; cases hm
        refine wp_yield h hd (s := .val (.slice (if c = l.toNat then p else p.map (·.add (l.toNat * sz))) (hh.toNat - l.toNat) (c - l.toNat))) ⟨_, ?_, rfl⟩ hK
        have hb : (Instr.sliceBounds true m c (lo.map a.eval) (hi.map a.eval) none).run E.P w = .ok (l.toNat, hh.toNat, c) w := by
          rcases bound_sound hl' with ⟨rfl, rfl⟩ | ⟨y, k, rfl, hy⟩ <;> rcases bound_sound hh' with ⟨rfl, rfl⟩ | ⟨y', k', rfl, hy'⟩
          · simp [Instr.sliceBounds]
          · simp [Instr.sliceBounds, hop y' (.inr rfl) _ _ hy', run_bound k' hh c _ (by omega) h2]
          · simp [Instr.sliceBounds, hop y (.inl rfl) _ _ hy, run_bound k l m _ h0 h1]
          · have h3 : l ≤ ((hh.toNat : Nat) : Int) := by omega
            simp [Instr.sliceBounds, hop y (.inl rfl) _ _ hy, hop y' (.inr rfl) _ _ hy', run_bound k' hh c _ (by omega) h2, run_bound k l hh.toNat _ h0 h3]
        simp [execOp, val hx, Instr.sliceAt, Instr.slice, run_underlying hu, hb, run_sizeOf hsz]
      · exact hv.elim
    · exact hv.elim
  case binOp op t x y uy =>
    split at hv
    · rename_i k q k' q' hx hy
      split at hv
      · rename_i hb
        simp only [Bool.and_eq_true] at hb
        obtain rfl : k = k' := by have := hb.1; cases k <;> cases k' <;> first | rfl | cases this
        obtain ⟨r, hr, hK⟩ := hv
        refine wp_yield h hd (s := .val (.float k r)) ⟨_, ?_, rfl⟩ hK
        cases op <;> simp only [floatR] at hr <;> first | (cases hr; done) | simp [execOp, val hx, val hy, binOp, Op.floatArith, hr, eqGuard]
      · exact hv.elim
    · rename_i k q1 q2 k' q3 q4 hx hy
      split at hv
      · rename_i hb
        simp only [Bool.and_eq_true] at hb
        obtain rfl : k = k' := by have := hb.1; cases k <;> cases k' <;> first | rfl | cases this
        obtain ⟨r, i, hr, hi, hK⟩ := hv
        refine wp_yield h hd (s := .val (.complex k r i)) ⟨_, ?_, rfl⟩ hK
        cases op <;> (try (cases hb.2; done)) <;> simp only [floatR] at hr hi <;> simp [execOp, val hx, val hy, binOp, Op.complexOp, Op.Complex.arith, Op.floatArith, hr, hi, eqGuard]
      · exact hv.elim
    · exact fall (fun cs b e => by cases e) hv
  case convert t d x =>
    split at hv
    · rename_i s b k hx hu h3
      obtain ⟨m, h0, h1, h2, hK⟩ := hv
      refine wp_yield h hd (s := .val (.int k m)) ⟨_, ?_, rfl⟩ hK
      have hs : ∃ d', E.P.underlying t = some d' := Option.isSome_iff_exists.1 h3
      obtain ⟨d', hd'⟩ := hs
      have hc : (convert t d (.float s b)).run E.P w = (Conv.floatToInt s b k).run E.P w := by
        simp [convert, run_underlying hd', run_underlying hu]
      simp [execOp, val hx, hc, Conv.floatToInt, h0, h1, h2]
    · exact fall (fun cs b e => by cases e) hv
  case call c =>
    obtain ⟨callee, args, ts⟩ := c
    cases callee with
    | value x =>
      cases x with
      | func f =>
        simp only at hv
        split at hv
        · rename_i fn hok hf
          split at hv
          · rename_i hb
            exact call_sound h hd rfl hok hf hb hv
          · exact hv.elim
        · exact hv.elim
      | tmp _ => exact fall (fun cs b e => by cases e) hv
      | const _ => exact fall (fun cs b e => by cases e) hv
      | global _ => exact fall (fun cs b e => by cases e) hv
    | invoke _ _ => exact fall (fun cs b e => by cases e) hv
    | builtin _ => exact fall (fun cs b e => by cases e) hv
  all_goals exact fall (fun cs b e => by cases e) hv
end
end Vc
end Go.Proofs.Ytnlekdpnjphmfaa
