/- The conditions of Vc are sound for the model's code: a region that draws its order, one operation is made. -/
import Derived.Test.YtnlekdpnjphmfaaVcu
namespace Go.Proofs.Ytnlekdpnjphmfaa
namespace Vc
section
variable {E : Env} {v0 w0 : World} {n : Nat} {ops : Array Oper} {hf : List Bool} {sts : Nat → St} {ρ : Nat → Nat} {a : Act} {w : World}
variable (D : DOk E ops hf sts)
include D
/-- What a step has written. -/
inductive Wrote (E : Env) (ops : Array Oper) (o : Oper) (st : St) : SV → Prop where
  | plain (hg : o.guard = none) {s : SV} (hd : detR E none none o st.φ st.L st.v s) : Wrote E ops o st s
  | way {j t : Nat} {want q : Bool} (hg : o.guard = some (j, want)) (ht : (ops[j]?).bind (·.dst) = some t) (hq : st.φ t = .val (.bool q)) {s : SV} (hd : detR E (some (t, want)) (some (q, want)) o st.φ st.L st.v s) : Wrote E ops o st (.spec t want s)
  | off {j t : Nat} {want : Bool} (hg : o.guard = some (j, want)) (ht : (ops[j]?).bind (·.dst) = some t) {x : Value} (hx : st.φ t = .val x) (hn : ∀ q, x ≠ .bool q) : Wrote E ops o st (.val undef)
theorem DOk.what {j : Nat} {o : Oper} (ho : ops[j]? = some o) (hH : HF hf j) :
    (isLA E o = true ∧ ∃ t d i z, o.op = .alloc t ∧ o.dst = some d ∧ o.guard = none ∧ E.P.info? t = some i ∧ i.zero = some z ∧ (sts (j + 1)).φ d = .loc d 0 ∧ (sts (j + 1)).L d = some z.cells.toList) ∨
    (isLA E o = false ∧ ∃ s, (∀ d, o.dst = some d → (sts (j + 1)).φ d = s) ∧ Wrote E ops o (sts j) s) := by
  have hs := D.step j o ho hH
  unfold StepD at hs
  cases hla : isLA E o with
  | true =>
    rw [hla] at hs
    obtain ⟨t, d, i, z, h1, h2, h3, h4, h5, e⟩ := hs
    refine .inl ⟨rfl, t, d, i, z, h1, h2, h3, h4, h5, ?_, ?_⟩
    · rw [e]; show (match Nat.beq d d with | true => SV.loc d 0 | false => _) = _; rw [show Nat.beq d d = true by simp]
    · rw [e]; show at_ _ d _ d = _; unfold at_; rw [show Nat.beq d d = true by simp]
  | false =>
    rw [hla] at hs
    obtain ⟨s, e, hc⟩ := hs
    refine .inr ⟨rfl, s, fun d hd => ?_, ?_⟩
    · rw [e, hd]; show (match Nat.beq d d with | true => s | false => _) = _; rw [show Nat.beq d d = true by simp]
    · rcases hc with ⟨hg, hdd⟩ | ⟨j', want, t, hg, ht, ⟨q, s', hq, hdd, rfl⟩ | ⟨x, hx, hn, rfl⟩⟩
      · exact .plain hg hdd
      · exact .way hg ht hq hdd
      · exact .off hg ht hx hn
omit D in
theorem look_op {o : Oper} {t : Nat} (h : Operand.tmp t ∈ o.op.operands) : t ∈ o.looksAt ops := List.mem_append_left _ (List.mem_filterMap.2 ⟨.tmp t, by simpa using h, rfl⟩)
omit D in
theorem look_guard {o : Oper} {j t : Nat} {want : Bool} (hg : o.guard = some (j, want)) (ht : (ops[j]?).bind (·.dst) = some t) : t ∈ o.looksAt ops := by
  unfold Oper.looksAt
  rw [hg]
  simp [ht]
theorem DOk.clean_step {S : Nat → Prop} (hC : Clean E ops hf sts S) {j : Nat} {o : Oper} (ho : ops[j]? = some o) (hH : HF hf j) (hn : ¬ S j) (hw : ∀ i, waits ops j i = true → S i) : Clean E ops hf sts (plus S j) := by
  obtain ⟨m1, m2⟩ := D.mask_step (S := S) ho hH
  have pm : ∀ t, pend ops hf (plus S j) t → pend ops hf S t := fun t ⟨i, o', h1, h2, h3, h4⟩ => ⟨i, o', h1, h2, fun h => h3 (.inl h), h4⟩
  have pa : ∀ t, pendA E ops hf (plus S j) t → pendA E ops hf S t := fun t ⟨i, o', h1, h2, h3, h4⟩ => ⟨i, o', h1, h2, fun h => h3 (.inl h), h4⟩
  have pp : ∀ t, pendA E ops hf (plus S j) t → pend ops hf (plus S j) t := fun t ⟨i, o', h1, h2, h3, h4, h5⟩ => ⟨i, o', h1, h2, h3, h5⟩
  have src : ∀ (g : Option (Nat × Bool)) (s : SV), Shape g (sts j).φ o s → (∀ k, mentions k s → ¬ pendA E ops hf S k) ∧ ∀ k, ¬ specOn k s := fun g s hs => by
    rcases hs with ⟨x, rfl⟩ | ⟨k, off, off', x, rfl, hx, he⟩
    · exact ⟨fun k h => h.elim, fun k h => h⟩
    · refine ⟨fun k' hk => ?_, fun k h => h⟩
      have hk' : k = k' := hk
      subst hk'
      have hm := evG_mentions he
      cases x with
      | tmp t =>
        have := D.agree hC.shut ho hH hn hw (look_op hx)
        exact hC.loc t k (by rw [this]; exact hm)
      | const _ => exact hm.elim
      | global _ => exact hm.elim
      | func _ => exact hm.elim
  refine ⟨fun i k hi hk => ?_, fun t k hm hp => ?_, fun t k hm hp => ?_⟩
  · rcases hi with hi | rfl
    · exact .inl (hC.shut i k hi hk)
    · exact .inl (hw k hk)
  · by_cases hd : o.dst = some t
    · rw [(m1 t hd).1] at hm
      rcases D.what ho hH with ⟨_, _, d, _, _, _, hd', _, _, _, hφ, _⟩ | ⟨_, s, hφ, hW⟩
      · rw [hd'] at hd; cases hd
        rw [hφ] at hm
        have : t = k := hm
        subst this
        exact (m1 t hd').2 (pp t hp)
      · rw [hφ t hd] at hm
        cases hW with
        | plain hg hdd => exact (src _ _ (det_shape hdd)).1 k hm (pa k hp)
        | way hg ht hq hdd => exact (src _ _ (det_shape hdd)).1 k hm (pa k hp)
        | off => exact hm
    · rw [m2 t hd] at hm; exact hC.loc t k hm (pa k hp)
  · by_cases hd : o.dst = some t
    · rw [(m1 t hd).1] at hm
      rcases D.what ho hH with ⟨_, _, d, _, _, _, hd', _, _, _, hφ, _⟩ | ⟨_, s, hφ, hW⟩
      · rw [hd'] at hd; cases hd
        rw [hφ] at hm
        exact hm
      · rw [hφ t hd] at hm
        cases hW with
        | plain hg hdd => exact (src _ _ (det_shape hdd)).2 k hm
        | @way g t0 want q hg ht hq s hdd =>
          have hk : t0 = k := hm
          subst hk
          obtain ⟨Hg, wg⟩ := D.guard j o g want ho hH hg
          obtain ⟨og, hog, hdg⟩ := Option.bind_eq_some_iff.1 ht
          obtain ⟨i, o', h1, h2, h3, h4⟩ := hp
          have e := D.uniq hog h1 Hg h2 hdg h4
          subst e
          exact h3 (.inl (hw _ wg))
        | off => exact hm
    · rw [m2 t hd] at hm; exact hC.spec t k hm (pm k hp)
omit D in
theorem upd_put {φ : Slots} {d : Option Nat} {s : SV} (h1 : ∀ x, d = some x → ¬ specOn x s) (h2 : ∀ x t, d = some x → t ≠ x → ¬ specOn x (φ t)) : updS φ d s = put φ d s := by
  funext t
  unfold updS put
  cases d with
  | none => rfl
  | some x =>
    simp only
    cases he : Nat.beq t x with
    | true => exact (unspec_no (h1 x rfl)).symm
    | false => exact (unspec_no (h2 x t rfl (fun e => by rw [e] at he; simp at he))).symm
/-- The state after a step, where the step left the places of locals. -/
theorem DOk.after {S : Nat → Prop} (hC : Clean E ops hf sts S) {j : Nat} {o : Oper} (ho : ops[j]? = some o) (hH : HF hf j) (hn : ¬ S j) (hla : isLA E o = false) {s : SV} (hs : ∀ d, o.dst = some d → (sts (j + 1)).φ d = s)
    (hW : Wrote E ops o (sts j) s) {v' : World} (h : Rel v0 w0 n ρ ⟨mask ops hf sts S, maskL E ops hf sts S, v'⟩ a w) (hd : ∀ x, o.dst = some x → x < n) {u : Value} (hu : RelS ρ (tm a) u s) :
    Rel v0 w0 n ρ ⟨mask ops hf sts (plus S j), maskL E ops hf sts (plus S j), v'⟩ (a.put o.dst u) w := by
  rw [D.mask_upd ho hH hs, maskL_step ho hH hla, upd_put ?_ ?_]
  · exact h.put (d := o.dst) hd hu
  · intro x hx hsp
    cases hW with
    | plain hg hdd => rcases det_shape hdd with ⟨_, rfl⟩ | ⟨_, _, _, _, rfl, _⟩ <;> exact hsp
    | way hg ht hq hdd =>
      have e : _ = x := hsp
      exact D.self j o x ho hH hx (by rw [← e]; exact look_guard hg ht)
    | off => exact hsp
  · intro x t hx _ hsp
    exact hC.spec t x hsp ⟨j, o, ho, hH, hn, hx⟩
/-- What the operation is asked to do, at the state that the machine is in. -/
theorem DOk.moved {S : Nat → Prop} (hC : Clean E ops hf sts S) {j : Nat} {o : Oper} (ho : ops[j]? = some o) (hH : HF hf j) (hn : ¬ S j) (hw : ∀ i, waits ops j i = true → S i) {g : Option (Nat × Bool)} {b : Option (Bool × Bool)} {s : SV}
    (hd : detR E g b o (sts j).φ (sts j).L (sts j).v s) {v' : World} (hp : Pad (sts 0).v v') : detR E g b o (mask ops hf sts S) (maskL E ops hf sts S) v' s := by
  have hj := D.lt hH
  refine det_congr hd (fun x hx => ?_) (fun x hx k off cs he hL => ?_) (by rw [D.world (by omega)]; exact hp)
  · cases x with
    | tmp t => exact D.agree hC.shut ho hH hn hw (look_op hx)
    | const _ => rfl
    | global _ => rfl
    | func _ => rfl
  · have hm := evG_mentions he
    have hna : ¬ pendA E ops hf S k := by
      cases x with
      | tmp t => exact hC.loc t k (by rw [D.agree hC.shut ho hH hn hw (look_op hx)]; exact hm)
      | const _ => exact hm.elim
      | global _ => exact hm.elim
      | func _ => exact hm.elim
    unfold maskL
    rw [if_neg hna]
    exact D.Llast (by omega) (Nat.le_refl _) hL
theorem DOk.bool {S : Nat → Prop} (hC : Clean E ops hf sts S) {j : Nat} {o : Oper} (ho : ops[j]? = some o) (hH : HF hf j) (hn : ¬ S j) (hw : ∀ i, waits ops j i = true → S i) {g t : Nat} {want : Bool} (hg : o.guard = some (g, want))
    (ht : (ops[g]?).bind (·.dst) = some t) {x : Value} (hx : (sts j).φ t = .val x) {v' : World} (h : Rel v0 w0 n ρ ⟨mask ops hf sts S, maskL E ops hf sts S, v'⟩ a w) : tm a t = x := by
  have h1 := h.slots t
  have e : mask ops hf sts S t = (sts j).φ t := D.agree hC.shut ho hH hn hw (look_guard hg ht)
  change RelS ρ (tm a) (tm a t) (mask ops hf sts S t) at h1
  rw [e, hx] at h1
  exact h1
theorem DOk.exec {S : Nat → Prop} (hC : Clean E ops hf sts S) {v' : World} (hp : Pad (sts 0).v v') (h : Rel v0 w0 n ρ ⟨mask ops hf sts S, maskL E ops hf sts S, v'⟩ a w) {j : Nat} {o : Oper} (ho : ops[j]? = some o) (hH : HF hf j) (hn : ¬ S j)
    (hw : ∀ i, waits ops j i = true → S i) (hd : ∀ x, o.dst = some x → x < n) {K : Act → World → Prop} {Q : Exit → Act → World → Prop}
    (hK : ∀ a' w' ρ' v'', Pad (sts 0).v v'' → Rel v0 w0 n ρ' ⟨mask ops hf sts (plus S j), maskL E ops hf sts (plus S j), v''⟩ a' w' → Fr o.dst ρ a ρ' a' → K a' w') : wpOp E.P ops Q j K a w := by
  have hsel : ∀ cs b, o.op ≠ .select cs b := fun cs b => Region.noSelect_spec D.nosel j o cs b ho
  unfold wpOp
  simp only [ho]
  rcases D.what ho hH with ⟨hla, t, d, i, z, hop, hdst, hg, hi, hz, hφ, hL⟩ | ⟨hla, s, hφ, hW⟩
  · rw [if_pos (by simp [Region.wanted, hg])]
    refine .inl (wp_value (u := .pointer (some ⟨w.heap.size, 0, none⟩)) (w' := w.alloc (.cells z.cells t)) (by simp [execOp, hop, Instr.alloc, zeroValue, typeInfo, hi, hz, newVar, newRow]) ?_)
    have h1 := h.newLocal d z.cells.toList t
    have hpd : pendA E ops hf S d := ⟨j, o, ho, hH, hn, hla, hdst⟩
    refine hK _ _ (newRho ρ d w.heap.size) (Vc.hv v') hp.hv ?_ ?_
    · rw [D.mask_upd (S := S) ho hH (s := .loc d 0) (fun x hx => by rw [hdst] at hx; cases hx; exact hφ), upd_put (s := .loc d 0) (fun x _ hsp => (show False from hsp)) (fun x t hx _ hsp => hC.spec t x hsp ⟨j, o, ho, hH, hn, hx⟩)]
      have e1 : (fun i => killLoc d (mask ops hf sts S i)) = mask ops hf sts S := funext fun t => killLoc_no fun hm => hC.loc t d hm hpd
      have e2 : maskL E ops hf sts (plus S j) = at_ (maskL E ops hf sts S) d (some z.cells.toList) := by
        funext c
        unfold at_
        cases hc : Nat.beq c d with
        | true =>
          have : c = d := Nat.eq_of_beq_eq_true hc
          subst this
          show maskL E ops hf sts (plus S j) c = some z.cells.toList
          unfold maskL
          rw [if_neg (fun ⟨i', o', h1, h2, h3, h4, h5⟩ => h3 (.inr (D.uniq ho h1 hH h2 hdst h5).symm))]
          exact D.Llast (D.lt hH) (Nat.le_refl _) hL
        | false =>
          have hne : c ≠ d := fun e => by rw [e] at hc; simp at hc
          show maskL E ops hf sts (plus S j) c = maskL E ops hf sts S c
          unfold maskL
          have : pendA E ops hf (plus S j) c ↔ pendA E ops hf S c := ⟨fun ⟨i, o', h1, h2, h3, h4⟩ => ⟨i, o', h1, h2, fun h => h3 (.inl h), h4⟩, fun ⟨i, o', h1, h2, h3, h4, h5⟩ =>
            ⟨i, o', h1, h2, fun h => h.elim h3 fun e => by (subst e; rw [ho] at h1; cases h1; rw [hdst] at h5; cases h5; exact hne rfl), h4, h5⟩⟩
          rw [propext this]
      rw [e1] at h1
      rw [e2]
      have := h1.put (d := o.dst) hd (u := .pointer (some ⟨w.heap.size, 0, none⟩)) (s := .loc d 0) (by
        show _ = Value.pointer (some ⟨newRho ρ d w.heap.size d, 0, none⟩)
        rw [show newRho ρ d w.heap.size d = w.heap.size from if_pos rfl])
      exact this
    · refine ⟨fun k hk => if_neg (fun e => hk (by rw [hdst, e])), fun i hi => ?_⟩
      rw [tm_put a o.dst _ i (fun x hx => by rw [h.size]; exact hd x hx), if_neg hi]
  · have run : ∀ (g : Option (Nat × Bool)) (b : Option (Bool × Bool)) (s1 : SV), (∀ t want, g = some (t, want) → tm a t = .bool want) → met b → detR E g b o (sts j).φ (sts j).L (sts j).v s1 →
        (∀ u, RelF ρ u s1 → RelS ρ (tm a) u s) → o.wp E.P a w K Q := fun g b s1 hg hm hdd hrel => by
      have hdd' := D.moved hC ho hH hn hw hdd hp
      by_cases hcall : ∃ f args ts, o.op = .call ⟨.value (.func f), args, ts⟩
      · obtain ⟨f, args, ts, hop⟩ := hcall
        exact det_call h hg hop hm hdd' fun u w' v2 hr hp2 hv2 hk2 => hK _ _ ρ v2 (hp.trans hp2) (D.after hC ho hH hn hla hφ hW (h.world hv2 hk2) hd (hrel u hr)) (Fr.put h hd u)
      · obtain ⟨u, hr, hf⟩ := det_yields h hg hsel (fun f args ts e => hcall ⟨f, args, ts, e⟩) hm hdd'
        exact wp_value hr (hK _ _ ρ v' hp (D.after hC ho hH hn hla hφ hW h hd (hrel u hf)) (Fr.put h hd u))
    have hW' := hW
    cases hW with
    | plain hg hdd =>
      rw [if_pos (by simp [Region.wanted, hg])]
      exact .inl (run none none s none_g trivial hdd fun u hu => hu.toS)
    | @way g t want q hg ht hq s1 hdd =>
      have htm := D.bool hC ho hH hn hw hg ht hq h
      rw [wanted_eq hg ht, htm]
      by_cases hqw : q = want
      · rw [if_pos (by simp [isWant, hqw])]
        exact .inl (run (some (t, want)) (some (q, want)) s1 (fun t' w' e => by simp only [Option.some.injEq, Prod.mk.injEq] at e; obtain ⟨rfl, rfl⟩ := e; rw [htm, hqw]) hqw hdd fun u hu => ⟨q, htm, fun _ => hu, fun e => (e hqw).elim⟩)
      · rw [if_neg (by simpa [isWant] using hqw)]
        exact hK _ _ ρ v' hp (D.after hC ho hH hn hla hφ hW' h hd ⟨q, htm, fun e => (hqw e).elim, fun _ => rfl⟩) (Fr.put h hd undef)
    | @off g t want hg ht x hx hnb =>
      have htm := D.bool hC ho hH hn hw hg ht hx h
      rw [wanted_eq hg ht, htm, if_neg (by cases x <;> first | exact (hnb _ rfl).elim | simp [isWant])]
      exact hK _ _ ρ v' hp (D.after hC ho hH hn hla hφ hW' h hd rfl) (Fr.put h hd undef)
end
end Vc
end Go.Proofs.Ytnlekdpnjphmfaa
