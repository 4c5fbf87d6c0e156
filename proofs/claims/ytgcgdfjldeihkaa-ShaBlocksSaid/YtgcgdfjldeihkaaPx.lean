/- Pure evaluation of the model's code: every operation. -/
import Derived.Test.YtgcgdfjldeihkaaPxa
namespace Go.Proofs.Ytgcgdfjldeihkaa
namespace Pv
set_option linter.unusedVariables false
section
variable {P : Program} {E : Env} {F : Fr} {g g' : Gh} {st : PSt} {a : Act} {w w' : World} {o : Oper} {R : Type} {C : Upd → Option R} {r : R}
def Env.ok (E : Env) (T : Tab) : Prop := ∀ p ∈ E.fns, SoundFn E.P T p.1 p.2.1 p.2.2
def Env.okF (E : Env) (F : Fr) : Prop := ∃ T, E.ok T ∧ TabF T F
theorem findF_mem : ∀ {l : List (FuncId × (s : Sig) × s.Fn)} {f : FuncId} {x : (s : Sig) × s.Fn}, findF l f = some x → (f, x) ∈ l
  | [], _, _, h => by cases h
  | (g, y) :: l, f, x, h => by
    unfold findF at h
    split at h
    · rename_i hb
      have e : g = f := Nat.eq_of_beq_eq_true hb
      injection h with h
      subst e; subst h
      exact List.mem_cons_self
    · exact List.mem_cons_of_mem _ (findF_mem h)
theorem run_callFunc {f : FuncId} {fn : Func} (hf : P.funcs[f]? = some fn) (h : (fn.body.isSome && !(fn.name == "runtime.NumGoroutine")) = true) (args : Array Value) (w : World) :
    (callFunc f args).run P w = .ok (.enter f args) w := by
  simp only [Bool.and_eq_true, Bool.not_eq_true'] at h
  have h1 : fn.body ≠ none := by intro e; rw [e] at h; simp at h
  have h2 : fn.name ≠ "runtime.NumGoroutine" := by simpa using h.2
  simp [callFunc, hf, h2, h1]
/-- A call by its contract; what it leaves as it was. -/
def Kept (g : Gh) (st : PSt) (w : World) (u : Upd) (g' : Gh) (w' : World) : Prop := (∀ t ∈ u.born, st.O t = false) ∧ (u.loc = [] → ∀ b, b < w.heap.size → (∀ k, st.O k = true → g.blk k ≠ some b) → Kp g w g' w' b)
theorem go_callP (hE : E.okF F) (h : MRel F g st (tm a) w) {f : FuncId} {args : Array Operand} {ts : Array TypeId} (hop : o.op = .call { callee := .value (.func f), args := args, argTypes := ts }) {s : Sig} {fn : s.Fn} {fd : Func} (hfind : findF E.fns f = some ⟨s, fn⟩) (hfd : E.P.funcs[f]? = some fd)
    (hbody : (fd.body.isSome && !(fd.name == "runtime.NumGoroutine")) = true) (hv : callP E s fn o.dst args.toList ts.toList st (evK st.kn st.φ) C = some r)
    (N : Act → World → Prop) (Q : Exit → Act → World → Prop) (hN : ∀ v w' g' u, C u = some r → OutR F g st w u v g' w' → Kept g st w u g' w' → N (a.put o.dst v) w') : o.wp E.P a w N Q := by
  unfold callP at hv
  split at hv
  case h_2 => cases hv
  rename_i ls ms hargs
  split at hv
  case h_2 => cases hv
  rename_i ks xs htake
  split at hv
  case h_2 => cases hv
  rename_i hb
  simp only [Bool.and_eq_true] at hb
  obtain ⟨⟨hdt, hdk⟩, hdst⟩ := hb
  obtain ⟨y, hy, hv⟩ := Option.bind_eq_some_iff.1 hv
  split at hv
  case h_2 => cases hv
  rename_i os hos
  cases hd : o.dst with
  | none => rw [hd] at hdst; cases hdst
  | some d =>
    rw [hd] at hdst hos hv
    have hfr : hasN st.fr d = true := hdst
    have hfresh := (h.fresh d hfr).2.2.1
    obtain ⟨lsE, hlsE⟩ := mk_some (lab := Tok.hd 0) (j := 0) htake
    have hent : ∃ stE, entrySt s xs = some stE := by
      unfold entrySt
      rw [hlsE]
      exact ⟨_, rfl⟩
    obtain ⟨stE, hstE⟩ := hent
    have hrelE := entry_rel (n0 := fd.ntmps) h hargs htake hdt hdk hstE
    have hlen := (argsP_facts h hargs).1
    obtain ⟨T, hE, hT⟩ := hE
    have hsound := hE _ (findF_mem hfind)
    have hcalls := hsound _ _ stE xs y _ w (args.map a.eval) (tab_call hT h) hstE hy hrelE rfl (fun fd' h' => by rw [hfd] at h'; cases h'; rfl) (by simpa using hlen) (fun i => by
      rw [Array.getD_eq_getD_getElem?, List.getD_eq_getElem?_getD]
      simp)
    have hex : execOp a.eval o = callFunc f (args.map a.eval) := by
      have ef : a.eval (.func f) = .func (.func f) #[] #[] := rfl
      unfold execOp
      simp [hop, resolve, Deferred.ofValue, invoke, ef]
    unfold Oper.wp
    rw [hex, run_callFunc hfd hbody, Oper.upon_enter]
    refine hcalls.mono fun e w' ⟨us, g', st', he, hul, hst', hrel', hρ⟩ => ?_
    subst he
    refine hN _ w' _ _ hv (go_back h hargs htake hdt hdk hrel' hst' hul hρ hos hfresh) ⟨fun t ht => ?_, fun hloc b hb hno => ?_⟩
    · obtain ⟨i, E', e', _, h2⟩ := labs_mem.1 ht
      rw [h2]
      exact hfresh _
    · have hms : ms = [] := by
        cases ms with
        | nil => rfl
        | cons m ms => exact absurd hloc (by simp [locsOut])
      refine ⟨(hrel'.fr.kp hb fun o hx => ?_).1, (hrel'.fr.kp hb fun o hx => ?_).2⟩
      all_goals
        rcases hx with ⟨k, σ, l, hk, _⟩ | ⟨k, hk, hO, hbk, _⟩
        · rw [hms] at hk; cases hk
        · exact hno k hO hbk
theorem go_callL (hE : E.okF F) (h : MRel F g st (tm a) w) {f : FuncId} {args : Array Operand} {ts : Array TypeId} (hop : o.op = .call { callee := .value (.func f), args := args, argTypes := ts }) {s : Sig} {fn : s.Fn} {fd : Func} (hfind : findF E.fns f = some ⟨s, fn⟩) (hfd : E.P.funcs[f]? = some fd)
    (hbody : (fd.body.isSome && !(fd.name == "runtime.NumGoroutine")) = true) (hv : callL E s fn o.dst args.toList ts.toList st (evK st.kn st.φ) C = some r) : Goes E F g st a w o C r := by
  intro N Q hN
  have fin : ∀ {u : Upd} {v : Value} {g' : Gh} {w' : World}, OutR F g st w u v g' w' → (∀ t ∈ u.born, st.O t = false) → (∀ d, o.dst = some d → hasN st.fr d = true) → rowC E o.dst st.fr C u = some r → N (a.put o.dst v) w' := fun {u v g' w'} hU hborn hfr hC => by
    cases hd : o.dst with
    | none =>
      rw [hd] at hC
      rw [← hd]
      exact hN v w' g' u hC hU
    | some d =>
      rw [hd] at hC
      rw [← hd]
      obtain ⟨u', g'', h1, h2⟩ := row_out h (fun _ => hborn) hU hC
      exact hN v w' g'' u' h1 h2
  have hdst : ∀ {st0 : PSt} {ev : Operand → PV} {C0 : Upd → Option R}, callP E s fn o.dst args.toList ts.toList st0 ev C0 = some r → st0.fr = st.fr → ∀ d, o.dst = some d → hasN st.fr d = true := fun {st0 ev C0} hv he d hd => by
    unfold callP at hv
    repeat' split at hv
    all_goals first
      | (cases hv; done)
      | skip
    rename_i hb
    simp only [Bool.and_eq_true] at hb
    have := hb.2
    rw [hd, he] at this
    exact this
  unfold callL at hv
  split at hv
  · exact go_callP hE h hop hfind hfd hbody hv N Q fun v w' g' u hC hU hK => fin hU hK.1 (hdst hv rfl) hC
  · rename_i k K _
    obtain ⟨hall, hv⟩ := chk_some hv
    have he : (fun x => lendX (k :: K) (tmpsOf args.toList) st.L x (evK st.kn st.φ x)) = evK (lendSt (k :: K) (tmpsOf args.toList) st).kn (lendSt (k :: K) (tmpsOf args.toList) st).φ := funext fun x => (lend_ev x).symm
    rw [he] at hv
    have hok : ∀ i, hasN (tmpsOf args.toList) i = true → rowOk st.L (st.φ i) = true := fun i hi => by
      obtain ⟨x, hx, hxi⟩ := List.mem_filterMap.1 (hasN_iff.1 hi)
      cases x with
      | tmp t =>
        have e : t = i := by
          have hxi : some t = some i := hxi
          injection hxi
        subst e
        have h1 := List.all_eq_true.1 hall _ hx
        cases hp : st.φ t with
        | row k n tt =>
          have h2 : evK st.kn st.φ (.tmp t) = .row k n tt := by
            show (match st.φ t with | .spec j want ag ls => (match knows st.kn j with | some b => (match bEq b want with | true => knB st.kn (.tmp t) (.w ag ls) | false => .raw undef) | none => .dead) | p => knB st.kn (.tmp t) p) = _
            rw [hp]
            exact knB_fix fun b e => by cases e
          rw [h2] at h1
          exact h1
        | _ => rfl
      | _ => cases hxi
    refine go_callP hE (lend_rel (k :: K) _ h hok) hop hfind hfd hbody hv N Q fun v w' g' u hC hU hK => ?_
    obtain ⟨h1, h2⟩ := lend_back (k :: K) _ h hU hC
    exact fin h2 hK.1 (hdst hv rfl) h1
theorem go_call (hE : E.okF F) (h : MRel F g st (tm a) w) {f : FuncId} {args : Array Operand} {ts : Array TypeId} (hop : o.op = .call { callee := .value (.func f), args := args, argTypes := ts }) (hv : pvU E o st (evK st.kn st.φ) C = some r) : Goes E F g st a w o C r := by
  simp only [pvU, hop] at hv
  split at hv
  · split at hv
    · exact go_callL hE h hop (by assumption) (by assumption) (by assumption) hv
    · cases hv
  · exact go_extP h hop (by assumption) hv
  · cases hv
/-- Every operation does what it is told to. -/
theorem pvU_sound (hE : E.okF F) (h : MRel F g st (tm a) w) (hv : pvU E o st (evK st.kn st.φ) C = some r) : Goes E F g st a w o C r := by
  have hv0 := hv
  cases hop : o.op with
  | move x => exact go_move h (.inl hop) hv
  | assign x => exact go_move h (.inr hop) hv
  | nilCheck x => exact go_nilCheck h hop hv
  | alloc t => exact go_alloc h hop hv
  | box t x => exact go_box h hop hv
  | load t x => exact go_load h hop hv
  | store t x y => exact go_store h hop hv
  | fieldAddr s x f => exact go_fieldAddr h hop hv
  | indexAddr t x i => exact go_indexAddr h hop hv
  | index t x i =>
    by_cases hus : E.P.underlying t = some .string
    · exact go_indexS h hop hus hv
    · exact go_indexA h hop hus hv
  | slice t x lo hi mx => exact go_slice h hop hv
  | field s x f => exact go_field h hop hv
  | extract x i => exact go_extract h hop hv
  | build t parts => exact go_build h hop hv
  | buildSlice t len parts => exact go_buildSlice h hop hv
  | makeSlice t n c => exact go_makeSlice h hop hv
  | binOp op t x y uy => exact go_binOp h hop hv
  | unOp op t x => exact go_unOp h hop hv
  | convert src dst x => exact go_convert h hop hv
  | call c =>
    obtain ⟨callee, args, ts⟩ := c
    cases callee with
    | value x =>
      cases x with
      | func f => exact go_call hE h hop hv
      | tmp _ => simp [pvU, hop] at hv0
      | const _ => simp [pvU, hop] at hv0
      | global _ => simp [pvU, hop] at hv0
    | invoke _ _ => simp [pvU, hop] at hv0
    | builtin b =>
      by_cases h1 : b = .len
      · subst h1; exact go_len h hop hv
      by_cases h2 : b = .min
      · subst h2; exact go_mm h (.inl rfl) hop hv
      by_cases h3 : b = .max
      · subst h3; exact go_mm h (.inr rfl) hop hv
      by_cases h4 : b = .append
      · subst h4; exact go_append h hop hv
      simp only [pvU, hop] at hv0
      unfold bltP at hv0
      split at hv0
      · cases b <;> first | contradiction | cases hv0
      · cases b <;> first | contradiction | cases hv0
      · cases hv0
  | _ => simp [pvU, hop] at hv0
end
end Pv
end Go.Proofs.Ytgcgdfjldeihkaa
