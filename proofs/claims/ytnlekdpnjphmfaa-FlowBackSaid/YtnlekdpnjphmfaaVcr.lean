/- The conditions of Vc are sound for the model's code: regions that draw their order. -/
import Derived.Test.YtnlekdpnjphmfaaVcq
namespace Go.Proofs.Ytnlekdpnjphmfaa
namespace Vc
section
variable {E : Env} {v0 w0 : World} {n : Nat} {ρ : Nat → Nat} {st : St} {a : Act} {w : World} {g : Option (Nat × Bool)} {b : Option (Bool × Bool)}
theorem rho_val (h : Rel v0 w0 n ρ st a w) (hg : ∀ t want, g = some (t, want) → tm a t = .bool want) {y : Operand} {k : IntKind} {m : Int} (hm : rhoG g st.φ y = .int k m) : a.eval y = .int k m := by
  unfold rhoG at hm
  cases hy : evG g st.φ y with
  | val u => rw [hy] at hm; rw [evG_val h hg hy]; exact hm
  | loc k o => rw [hy] at hm; cases hm
  | dead => rw [hy] at hm; cases hm
  | spec j w s => rw [hy] at hm; cases hm
theorem run_bounds (h : Rel v0 w0 n ρ st a w) (hg : ∀ t want, g = some (t, want) → tm a t = .bool want) {q : Bool} {lo hi : Option Operand} {m c : Nat} {l hh : Int}
    (hl' : bound lo (rhoG g st.φ) 0 = some l) (hh' : bound hi (rhoG g st.φ) (m : Int) = some hh) (h0 : 0 ≤ l) (h1 : l ≤ hh) (h2 : hh ≤ (c : Int)) (w : World) :
    (Instr.sliceBounds q m c (lo.map a.eval) (hi.map a.eval) none).run E.P w = .ok (l.toNat, hh.toNat, c) w := by
  have hop := fun y k m hm => rho_val (y := y) (k := k) (m := m) h hg hm
  rcases bound_sound hl' with ⟨rfl, rfl⟩ | ⟨y, k, rfl, hy⟩ <;> rcases bound_sound hh' with ⟨rfl, rfl⟩ | ⟨y', k', rfl, hy'⟩
  · simp [Instr.sliceBounds]
  · simp [Instr.sliceBounds, hop y' _ _ hy', run_bound k' hh c _ (by omega) h2]
  · simp [Instr.sliceBounds, hop y _ _ hy, run_bound k l m _ h0 h1]
  · have h3 : l ≤ ((hh.toNat : Nat) : Int) := by omega
    simp [Instr.sliceBounds, hop y _ _ hy, hop y' _ _ hy', run_bound k' hh c _ (by omega) h2, run_bound k l hh.toNat _ h0 h3]
theorem det_yields (h : Rel v0 w0 n ρ st a w) (hg : ∀ t want, g = some (t, want) → tm a t = .bool want) {o : Oper} (hsel : ∀ cs b, o.op ≠ .select cs b)
    (hnc : ∀ f args ts, o.op ≠ .call ⟨.value (.func f), args, ts⟩) (hm : met b) {s : SV} (hd : detR E g b o st.φ st.L st.v s) : Yields E.P ρ a w o s := by
  have val := fun {x : Operand} {u : Value} (hx : evG g st.φ x = .val u) => evG_val h hg hx
  unfold detR at hd
  cases hs : specOp E.P g o.op o.type ⟨st.φ, st.L, st.v⟩ with
  | some s' =>
    rw [hs] at hd
    simp only at hd
    subst hd
    exact spec_sound h hg hsel hs
  | none =>
    rw [hs] at hd
    simp only at hd
    unfold detM at hd
    cases ho : o.op <;> simp only [ho] at hd <;> try exact hd.elim
    case load t x =>
      obtain ⟨ad, cs, m, hx, hsz, hl, hu, ha, hc, rfl⟩ := hd
      have hc' : ∀ j x, cs[j]? = some x → w.cell? (ad.add j) = some x := fun j x hj => h.vis.cell (by have := readsC_get (cnd_met hc hm) j x hj; rwa [Nat.zero_add] at this)
      refine ⟨shut E.P t cs, ?_, rfl⟩
      have hr : (loadVar t ad).run E.P w = .ok (shut E.P t cs) w := by
        unfold shut
        cases hag : isAg E.P t with
        | true => exact run_loadVar_cells hsz (by omega) hag hc'
        | false =>
          rw [hag] at ha
          have h1 : m = 1 := by simpa using ha
          cases cs with
          | nil => simp at hl; omega
          | cons u r =>
            refine run_loadVar_one hag hu ?_
            have := hc' 0 u rfl
            rwa [Addr.add_zero'] at this
      simp only [execOp, ho, val hx, Instr.loadAt, Instr.sureAddr, Sem.run_bind, Sem.run_pure, Result.andThen_ok, hr]
    case nilCheck x =>
      obtain ⟨p, ad, hx, hc, rfl⟩ := hd
      obtain rfl := cnd_met hc hm
      exact ⟨_, by simp [execOp, ho, val hx], rfl⟩
    case indexAddr t x i =>
      obtain ⟨p, m, c, k, j, e, sz, ad, hx, hi, hu, hsz, hc, rfl⟩ := hd
      obtain ⟨rfl, h0, h1⟩ := cnd_met hc hm
      refine ⟨_, ?_, rfl⟩
      simp [execOp, ho, val hx, val hi, Instr.indexAt, asIntOf, run_underlying hu, h0, h1, run_sizeOf hsz]
    case index t x i =>
      obtain ⟨str, k, j, c, hx, hi, hu, hc, rfl⟩ := hd
      obtain ⟨h0, h1⟩ := cnd_met hc hm
      refine ⟨_, ?_, rfl⟩
      simp [execOp, ho, val hx, val hi, Instr.index, asIntOf, run_underlying hu, h0, h1]
    case slice t x lo hi mx =>
      obtain ⟨rfl, hd⟩ := hd
      rcases hd with ⟨str, l, hh, hx, hu, hl, hhh, hc, rfl⟩ | ⟨p, m, c, e, sz, l, hh, hx, hu, hsz, hl, hhh, hc, rfl⟩
      · obtain ⟨h0, h1, h2⟩ := cnd_met hc hm
        refine ⟨_, ?_, rfl⟩
        have hb := run_bounds (E := E) (q := false) (c := str.size) h hg hl hhh h0 h1 h2 w
        simp [execOp, ho, val hx, Instr.sliceAt, Instr.slice, run_underlying hu, hb]
      · obtain ⟨h0, h1, h2⟩ := cnd_met hc hm
        refine ⟨_, ?_, rfl⟩
        have hb := run_bounds (E := E) (q := true) (c := c) h hg hl hhh h0 h1 h2 w
        simp [execOp, ho, val hx, Instr.sliceAt, Instr.slice, run_underlying hu, hb, run_sizeOf hsz]
    case call c =>
      obtain ⟨f, args, ts, fn, x, rfl, _⟩ := hd
      exact (hnc _ _ _ ho).elim
/-- What a call does whose condition is met. -/
theorem det_call (h : Rel v0 w0 n ρ st a w) (hg : ∀ t want, g = some (t, want) → tm a t = .bool want) {o : Oper} {f : FuncId} {args : Array Operand} {ts : Array TypeId} (ho : o.op = .call ⟨.value (.func f), args, ts⟩)
    (hm : met b) {s : SV} (hd : detR E g b o st.φ st.L st.v s) {K : Act → World → Prop} {Q : Exit → Act → World → Prop}
    (hK : ∀ u w' v', RelF ρ u s → Pad st.v v' → Vis v' w' → Keep st.v w v' w' → K (a.put o.dst u) w') : o.wp E.P a w K Q := by
  have hs : specOp E.P g o.op o.type ⟨st.φ, st.L, st.v⟩ = none := by
    rw [ho]
    unfold specOp specPlain
    simp [plainOp]
  unfold detR at hd
  rw [hs] at hd
  simp only at hd
  unfold detM at hd
  simp only [ho] at hd
  obtain ⟨f', args', ts', fn, x, e, hall, hfn, hb, hc, rfl⟩ := hd
  simp only [Call.mk.injEq, Callee.value.injEq, Operand.func.injEq] at e
  obtain ⟨rfl, rfl, rfl⟩ := e
  have hargs : args.map a.eval = args.map (rhoG g st.φ) := Array.map_congr_left fun x hx => rho_all h hg hall x (by simp [Op.operands, Call.operands, hx])
  have hex : execOp a.eval o = callFunc f (args.map a.eval) := by
    have ef : a.eval (.func f) = .func (.func f) #[] #[] := rfl
    unfold execOp
    simp [ho, resolve, Deferred.ofValue, invoke, ef]
  unfold Oper.wp
  rw [hex, run_callFunc hfn hb, Oper.upon_enter, hargs]
  refine (cnd_met hc hm st.v .refl w h.vis).mono fun e w' hR => ?_
  obtain ⟨r, v', rfl, hvis, hk, rfl, hp⟩ := hR
  exact hK _ _ _ rfl hp hvis hk
end
end Vc
end Go.Proofs.Ytnlekdpnjphmfaa
