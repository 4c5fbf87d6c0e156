/- The conditions of Vc are sound for the model's code: operations that look at no memory but the local variables. -/
import Derived.Test.YtnlekdpnjphmfaaVcs
namespace Go.Proofs.Ytnlekdpnjphmfaa
namespace Vc
section
variable {P : Program}

theorem sizeT_info {t : TypeId} {n : Nat} (h : sizeT P t = some n) : ∃ i, P.info? t = some i ∧ i.size = n := by
  unfold sizeT at h
  cases hi : P.info? t with
  | none => rw [hi] at h; cases h
  | some i => rw [hi] at h; exact ⟨i, rfl, by simpa using h⟩
theorem run_sizeOf {t : TypeId} {n : Nat} (h : sizeT P t = some n) (w : World) : (sizeOf t).run P w = .ok n w := by
  obtain ⟨i, hi, hs⟩ := sizeT_info h
  simp [sizeOf, typeInfo, hi, hs]
theorem isAg_desc {t : TypeId} {b : Bool} (h : isAg P t = b) {d : TypeDesc} (hd : P.underlying t = some d) : (match d with | .struct _ | .array _ _ => true | _ => false) = b := by
  unfold isAg at h
  rw [hd] at h
  cases d <;> simpa using h
theorem run_isAgg {t : TypeId} {b : Bool} (h : isAg P t = b) {d : TypeDesc} (hd : P.underlying t = some d) (w : World) : (isAgg t).run P w = .ok b w := by
  have := isAg_desc h hd
  unfold isAgg
  rw [Sem.run_bind, run_underlying hd w]
  cases d <;> simp_all
theorem under_some_of_ag {t : TypeId} (h : isAg P t = true) : ∃ d, P.underlying t = some d := by
  unfold isAg at h
  cases hu : P.underlying t with
  | none => rw [hu] at h; cases h
  | some d => exact ⟨d, rfl⟩
theorem cut_some {cs us : List Value} {off n : Nat} (h : cut cs off n = some us) : off + n ≤ cs.length ∧ us = (cs.drop off).take n := by
  unfold cut at h
  cases hb : Nat.ble (off + n) cs.length with
  | true => rw [hb] at h; exact ⟨by simpa using hb, by simpa using h.symm⟩
  | false => rw [hb] at h; cases h
theorem cut_get {cs us : List Value} {off n : Nat} (h : cut cs off n = some us) (j : Nat) (x : Value) (hx : us[j]? = some x) : cs[off + j]? = some x := by
  obtain ⟨h1, rfl⟩ := cut_some h
  rw [List.getElem?_take] at hx
  split at hx
  · rw [List.getElem?_drop] at hx; exact hx
  · cases hx
theorem cut_len {cs us : List Value} {off n : Nat} (h : cut cs off n = some us) : us.length = n := by
  obtain ⟨h1, rfl⟩ := cut_some h
  simp; omega
theorem cell_at {w : World} {b : Nat} {cs : List Value} {t : TypeId} {fr : Nat × Nat} (h : w.heap[b]? = some (.cells ⟨cs⟩ t fr)) (i : Nat) : w.cell? ⟨b, i, none⟩ = cs[i]? := by
  simp [World.cell?, h]
theorem add_at (b off i : Nat) : (⟨b, off, none⟩ : Addr).add i = ⟨b, off + i, none⟩ := by
  unfold Addr.add; split <;> simp_all
/-- A variable read, its cells known one by one. -/
theorem run_loadVar_cells {w : World} {t : TypeId} {ad : Addr} {us : List Value} {n : Nat} (hn : sizeT P t = some n) (hl : us.length = n) (ha : isAg P t = true)
    (hc : ∀ j x, us[j]? = some x → w.cell? (ad.add j) = some x) : (loadVar t ad).run P w = .ok (.agg ⟨us⟩) w := by
  obtain ⟨d, hd⟩ := under_some_of_ag ha
  have h1 := run_loadCells_list (P := P) w ad us hc
  subst hl
  simp only [loadVar, Sem.run_bind, run_isAgg ha hd, Result.andThen_ok, if_true, run_sizeOf hn, h1, Sem.run_pure]
theorem run_loadVar_one {w : World} {t : TypeId} {ad : Addr} {x : Value} (ha : isAg P t = false) (hu : (P.underlying t).isSome = true)
    (hc : w.cell? ad = some x) : (loadVar t ad).run P w = .ok x w := by
  obtain ⟨d, hd⟩ := Option.isSome_iff_exists.1 hu
  simp [loadVar, run_isAgg ha hd, run_load, hc]
theorem run_loadL {v0 v w : World} {L : Locals} {t k off b : Nat} {x : Value} (hl : ∀ cs, L k = some cs → LocOk v0 v w b cs) (h : loadL P L t k off = some x) :
    (loadVar t ⟨b, off, none⟩).run P w = .ok x w := by
  unfold loadL at h
  split at h
  · rename_i cs n hL hn ha hu
    obtain ⟨_, _, t', ht⟩ := hl cs hL
    split at h
    · rename_i us hc
      obtain rfl : Value.agg ⟨us⟩ = x := by simpa using h
      exact run_loadVar_cells hn (cut_len hc) ha fun j y hy => by rw [add_at, cell_at ht]; exact cut_get hc j y hy
    · cases h
  · rename_i cs n hL hn ha hu
    obtain ⟨_, _, t', ht⟩ := hl cs hL
    split at h
    · rename_i u r hc
      obtain rfl : u = x := by simpa using h
      exact run_loadVar_one ha hu (by rw [cell_at ht]; have := cut_get hc 0 u rfl; simpa using this)
    · cases h
  · cases h

/-! ### == by the type -/
theorem run_partV {t : TypeId} {cs : Array Value} {off : Nat} {x : Value} (h : partV P t cs off = some x) (hu : (P.underlying t).isSome = true) (w : World) : (part t cs off).run P w = .ok x w := by
  obtain ⟨d, hd⟩ := Option.isSome_iff_exists.1 hu
  unfold partV at h
  cases ha : isAg P t with
  | true =>
    rw [ha] at h
    cases hn : sizeT P t with
    | none => rw [hn] at h; cases h
    | some n =>
      simp only [hn, Option.some.injEq] at h
      subst h
      simp [part, run_isAgg ha hd, run_sizeOf hn]
  | false =>
    simp only [ha] at h
    simp [part, run_isAgg ha hd, h]
theorem eqV_under {n : Nat} {t : TypeId} {x y : Value} {r : Bool} (h : eqV P n t x y = some r) : (P.underlying t).isSome = true := by
  cases n with
  | zero => cases h
  | succ n =>
    unfold eqV at h
    cases hu : P.underlying t with
    | none => rw [hu] at h; cases h
    | some d => rfl
theorem ikEq_iff {k k' : IntKind} (h : ikEq k k' = true) : k = k' := by cases k <;> cases k' <;> first | rfl | cases h
theorem eqFs_run {f : TypeId → Value → Value → Option Bool} {d : Nat} (hf : ∀ t x y r, f t x y = some r → (P.underlying t).isSome = true ∧ ∀ w, (Op.equalIn d t x y).run P w = .ok r w) (xs ys : Array Value) :
    ∀ (l : List Field) (r : Bool), eqFs P f xs ys l = some r → ∀ w, (Op.eqFields d xs ys l).run P w = .ok r w
  | [], r, h, w => by
    simp only [eqFs, Option.some.injEq] at h
    subst h
    simp [Op.eqFields]
  | fd :: fs, r, h, w => by
    unfold eqFs at h
    unfold Op.eqFields
    cases hnm : fd.name == "_" with
    | true =>
      have e : fd.name = "_" := by simpa using hnm
      simp only [hnm] at h
      rw [if_neg (by simp [e])]
      exact eqFs_run hf xs ys fs r h w
    | false =>
      have e : fd.name ≠ "_" := by simpa using hnm
      simp only [hnm] at h
      rw [if_pos e]
      cases ha : partV P fd.type xs fd.offset with
      | none => rw [ha] at h; cases h
      | some x =>
        cases hb : partV P fd.type ys fd.offset with
        | none => rw [ha, hb] at h; cases h
        | some y =>
          cases hr : f fd.type x y with
          | none => simp only [ha, hb, hr] at h; cases h
          | some r1 =>
            cases hq : eqFs P f xs ys fs with
            | none => simp only [ha, hb, hr, hq] at h; cases h
            | some q =>
              simp only [ha, hb, hr, hq, Option.some.injEq] at h
              obtain ⟨hu, hrun⟩ := hf _ _ _ _ hr
              simp only [Sem.run_bind, run_partV ha hu, run_partV hb hu, hrun, Result.andThen_ok]
              cases r1 with
              | false => simp at h ⊢; exact h
              | true =>
                simp only [Bool.true_and] at h
                subst h
                simp only [Bool.not_true, Bool.false_eq_true, if_false]
                exact eqFs_run hf xs ys fs q hq w
theorem eqV_run : ∀ (n d : Nat), n ≤ d → ∀ (t : TypeId) (x y : Value) (r : Bool), eqV P n t x y = some r → ∀ w, (Op.equalIn d t x y).run P w = .ok r w
  | 0, _, _, _, _, _, _, h, _ => by cases h
  | n + 1, 0, hd, _, _, _, _, _, _ => by omega
  | n + 1, d + 1, hd, t, x, y, r, h, w => by
    unfold eqV at h
    split at h
    · rename_i k' k a k2 b hu
      cases hk : ikEq k k2 with
      | false => rw [hk] at h; cases h
      | true =>
        obtain rfl := ikEq_iff hk
        simp only [hk, Option.some.injEq] at h
        rw [run_equalIn_int w d t k k' a b hu, h]
    · rename_i a b hu
      simp only [Option.some.injEq] at h
      rw [run_equalIn_bool' w d t a b hu, h]
    · rename_i a b hu
      simp only [Option.some.injEq] at h
      rw [run_equalIn_string w d t a b hu, h]
    · rename_i fs xs ys hu
      cases hs : P.stoodInHeld t with
      | true => rw [hs] at h; cases h
      | false =>
        simp only [hs] at h
        have hfo : P.fieldsOf t = fs := by simp [Program.fieldsOf, hu]
        rw [run_equalIn_struct w d t xs ys (by rw [hfo]; exact hu) hs, hfo]
        exact eqFs_run (fun t x y r h => ⟨eqV_under h, fun w => eqV_run n d (by omega) t x y r h w⟩) xs ys _ r h w
    · cases h
theorem eqAg_run {op : BinOp} {t : TypeId} {x y : Operand} {xs ys : Array Value} {v : Value} (h : eqAg P op t (.agg xs) (.agg ys) = some v) (w : World) :
    (do eqGuard op t x y (.agg xs) (.agg ys); binOp op t (.agg xs) (.agg ys) : Sem Value).run P w = .ok v w := by
  cases hg : P.eqGuardType P.depth t with
  | true => cases op <;> simp [eqAg, hg] at h
  | false =>
    cases hr : eqV P 20 t (.agg xs) (.agg ys) with
    | none => cases op <;> simp [eqAg, hg, hr] at h
    | some r =>
      have hq := eqV_run 20 10000 (by omega) _ _ _ _ hr w
      cases op <;> simp only [eqAg, hg, hr] at h
      case eql =>
        simp only [Option.some.injEq] at h
        subst h
        simp only [Sem.run_bind, run_eqGuard_agg w _ t x y xs ys hg, Result.andThen_ok, run_eql_struct, hq]
      case neq =>
        simp only [Option.some.injEq] at h
        subst h
        simp only [Sem.run_bind, run_eqGuard_agg w _ t x y xs ys hg, Result.andThen_ok, run_neq_struct, hq]
      all_goals cases h
theorem execOp_core (f : Operand → Value) (o : Oper) : execOp f o = execOp f ⟨none, o.op, o.type, "", #[], none⟩ := by
  obtain ⟨dst, op, ty, pos, after, guard⟩ := o
  rfl
theorem run_fieldAt {s : TypeId} {ad : Addr} {f fo : Nat} (h : fieldOff P s f = some fo) (w : World) : (Instr.fieldAt s (.pointer (some ad)) f).run P w = .ok (.pointer (some (ad.add fo))) w := by
  unfold fieldOff at h
  split at h
  · rename_i fs hu
    split at h
    · rename_i x hx
      split at h
      · rename_i i hi
        split at h
        · cases h
        · rename_i hne
          simp only [Option.some.injEq] at h
          subst h
          have hz : ¬ i.size = 0 := hne
          simp [Instr.fieldAt, run_underlying hu, hx, Instr.sureAddr, fieldPlace, sizeOf, typeInfo, hi, hz]
      · cases h
    · cases h
  · cases h
variable {v0 w0 : World} {n : Nat} {ρ : Nat → Nat} {st : St} {a : Act} {w : World} {g : Option (Nat × Bool)}
/-- What is said of an operation that only yields a value. -/
def Yields (P : Program) (ρ : Nat → Nat) (a : Act) (w : World) (o : Oper) (s : SV) : Prop := ∃ u, (execOp a.eval o).run P w = .ok (.value u) w ∧ RelF ρ u s
theorem yields_move {o : Oper} {x : Operand} (h : Rel v0 w0 n ρ st a w) (hg : ∀ t want, g = some (t, want) → tm a t = .bool want) (ho : o.op = .move x ∨ o.op = .assign x) {s : SV} (hs : evG g st.φ x = s) :
    Yields P ρ a w o s := by
  refine ⟨a.eval x, ?_, hs ▸ evG_sound h hg x⟩
  rcases ho with ho | ho <;> simp [execOp, ho]
theorem plain_sound (h : Rel v0 w0 n ρ st a w) (hg : ∀ t want, g = some (t, want) → tm a t = .bool want) {o : Oper} (hsel : ∀ cs b, o.op ≠ .select cs b) {s : SV} (hs : specPlain P g o.op o.type st.φ = some s) :
    Yields P ρ a w o s := by
  unfold specPlain at hs
  split at hs
  · rename_i hb
    simp only [Bool.and_eq_true] at hb
    split at hs
    · rename_i v hv
      simp only [Option.some.injEq] at hs
      subst hs
      refine ⟨v, ?_, rfl⟩
      rw [exec_all h hg o hsel hb.2, execOp_core]
      exact pureRun_sound _ hv w
    · cases hs
  · cases hs
theorem pick_sound (h : Rel v0 w0 n ρ st a w) {o : Oper} {c x y : Operand} (ho : o.op = .pick c x y) {s : SV} (hs : pickOp st.φ c x y = some s) : Yields P ρ a w o s := by
  have hex : (execOp a.eval o).run P w = ((asBool (a.eval c)).run P w).andThen fun b w' => .ok (.value (if b then a.eval x else a.eval y)) w' := by
    simp only [execOp, ho, Sem.run_bind, Sem.run_pure]
  unfold pickOp at hs
  split at hs
  case h_2 => cases hs
  rename_i t
  split at hs
  case h_2 => cases hs
  rename_i b hb
  have htm : tm a t = .bool b := by have := h.slots t; rw [hb] at this; exact this
  have hc : a.eval (.tmp t) = .bool b := htm
  rw [hc] at hex
  simp only [asBool, Sem.run_pure, Result.andThen_ok] at hex
  have side : ∀ want (z : Operand), b = want → RelF ρ (a.eval z) (evG (some (t, want)) st.φ z) := fun want z e => evG_sound h (fun t' w' he => by
    simp only [Option.some.injEq, Prod.mk.injEq] at he
    obtain ⟨rfl, rfl⟩ := he
    rw [htm, e]) z
  split at hs
  · split at hs
    · rename_i y' hy
      simp only [Option.some.injEq] at hs
      subst hs
      refine ⟨_, hex, ?_⟩
      cases b with
      | false => rfl
      | true =>
        have := side true x rfl
        rw [hy] at this
        exact this
    · cases b with
      | false =>
        simp only [Option.some.injEq] at hs
        subst hs
        exact ⟨_, hex, rfl⟩
      | true => cases hs
  · split at hs
    · split at hs
      · rename_i y' hy
        simp only [Option.some.injEq] at hs
        subst hs
        refine ⟨_, hex, ?_⟩
        cases b with
        | true => rfl
        | false =>
          have := side false y rfl
          rw [hy] at this
          exact this
      · cases b with
        | true =>
          simp only [Option.some.injEq] at hs
          subst hs
          exact ⟨_, hex, rfl⟩
        | false => cases hs
    · cases hs
theorem spec_sound (h : Rel v0 w0 n ρ st a w) (hg : ∀ t want, g = some (t, want) → tm a t = .bool want) {o : Oper} (hsel : ∀ cs b, o.op ≠ .select cs b) {s : SV} (hs : specOp P g o.op o.type st = some s) :
    Yields P ρ a w o s := by
  cases ho : o.op <;> rw [ho] at hs
  case pick c x y =>
    unfold specOp at hs
    cases g with
    | none => exact pick_sound h ho hs
    | some p => cases hs
  case move x =>
    unfold specOp at hs
    simp only at hs
    split at hs
    · rename_i e1
      exact yields_move h hg (.inl ho) (e1.trans (Option.some.inj hs))
    · rename_i e1
      exact yields_move h hg (.inl ho) (e1.trans (Option.some.inj hs))
    · cases hs
  case assign x =>
    unfold specOp at hs
    simp only at hs
    split at hs
    · rename_i e1
      exact yields_move h hg (.inr ho) (e1.trans (Option.some.inj hs))
    · rename_i e1
      exact yields_move h hg (.inr ho) (e1.trans (Option.some.inj hs))
    · cases hs
  case nilCheck x =>
    unfold specOp at hs
    simp only at hs
    split at hs
    · rename_i e1
      simp only [Option.some.injEq] at hs
      subst hs
      have := evG_loc h hg e1
      exact ⟨_, by simp [execOp, ho, this], rfl⟩
    · cases hs
  case load t x =>
    unfold specOp at hs
    simp only at hs
    split at hs
    · rename_i k off e1
      split at hs
      · rename_i v hv
        simp only [Option.some.injEq] at hs
        subst hs
        refine ⟨v, ?_, rfl⟩
        have he := evG_loc h hg e1
        have hr := run_loadL (P := P) (b := ρ k) (h.locals k) hv
        simp [execOp, ho, he, Instr.loadAt, Instr.sureAddr, hr]
      · cases hs
    · cases hs
  case fieldAddr t x f =>
    unfold specOp at hs
    simp only at hs
    split at hs
    · rename_i k off e1
      split at hs
      · rename_i fo hf
        simp only [Option.some.injEq] at hs
        subst hs
        have he := evG_loc h hg e1
        exact ⟨.pointer (some ⟨ρ k, off + fo, none⟩), by simp [execOp, ho, he, run_fieldAt hf, add_at], rfl⟩
      · cases hs
    · rename_i ad e1
      split at hs
      · rename_i fo hf
        simp only [Option.some.injEq] at hs
        subst hs
        have he := evG_val h hg e1
        exact ⟨.pointer (some (ad.add fo)), by simp [execOp, ho, he, run_fieldAt hf], rfl⟩
      · cases hs
    · cases hs
  case binOp op ty x y uy =>
    unfold specOp at hs
    simp only at hs
    split at hs
    · rename_i xs ys e1 e2
      split at hs
      · rename_i v hv
        simp only [Option.some.injEq] at hs
        subst hs
        refine ⟨v, ?_, rfl⟩
        have h1 := evG_val h hg e1
        have h2 := evG_val h hg e2
        have hr := eqAg_run (x := x) (y := y) hv w
        simp only [execOp, ho, h1, h2]
        rw [Sem.run_bind, hr]
        rfl
      · cases hs
    · exact plain_sound h hg hsel (by rw [ho]; exact hs)
  all_goals exact plain_sound h hg hsel (by rw [ho]; exact hs)
end
end Vc
end Go.Proofs.Ytnlekdpnjphmfaa
