/- Pure evaluation of the model's code: every operation. -/
import Derived.Test.YtngjmippejkleaaGreatDoorPj
namespace Go.Proofs.YtngjmippejkleaaGreatDoor
namespace Pv
set_option linter.unusedVariables false
section
variable {P : Program} {E : Env} {F : Fr} {g g' : Gh} {st : PSt} {a : Act} {w w' : World} {o : Oper} {R : Type} {C : Upd → Option R} {r : R}
def Env.ok (E : Env) (T : Tab) : Prop := ∀ p ∈ E.fns, SoundFn E.P T p.1 p.2.1 p.2.2
def Env.okF (E : Env) (F : Fr) : Prop := ∃ T, E.ok T ∧ TabF T F
theorem findF_mem : ∀ {l : List (FuncId × (s : Sig) × s.Fn)} {f : FuncId} {x : (s : Sig) × s.Fn}, findF l f = some x → (f, x) ∈ l
  | [], _, _, h => by cases h
  | (g, y) :: l, f, x, h => by
    unfold findF at h
    split at h
    · rename_i hb
      have e : g = f := Nat.eq_of_beq_eq_true hb
      injection h with h
      subst e; subst h
      exact List.mem_cons_self
    · exact List.mem_cons_of_mem _ (findF_mem h)
theorem run_callFunc {f : FuncId} {fn : Func} (hf : P.funcs[f]? = some fn) (h : (fn.body.isSome && !(fn.name == "runtime.NumGoroutine")) = true) (args : Array Value) (w : World) :
    (callFunc f args).run P w = .ok (.enter f args) w := by
  simp only [Bool.and_eq_true, Bool.not_eq_true'] at h
  have h1 : fn.body ≠ none := by intro e; rw [e] at h; simp at h
  have h2 : fn.name ≠ "runtime.NumGoroutine" := by simpa using h.2
  simp [callFunc, hf, h2, h1]
theorem go_call (hE : E.okF F) (h : MRel F g st (tm a) w) {f : FuncId} {args : Array Operand} {ts : Array TypeId} (hop : o.op = .call { callee := .value (.func f), args := args, argTypes := ts }) (hv : pvU E o st (evK st.kn st.φ) C = some r) : Goes E F g st a w o C r := by
  simp only [pvU, hop] at hv
  split at hv
  · rename_i s fn fd hfind hfd
    split at hv
    · rename_i hbody
      unfold callP at hv
      split at hv
      · rename_i ls ms hargs
        split at hv
        · rename_i ks xs htake
          split at hv
          · rename_i hb
            simp only [Bool.and_eq_true] at hb
            obtain ⟨⟨hdt, hdk⟩, hdst⟩ := hb
            obtain ⟨y, hy, hv⟩ := Option.bind_eq_some_iff.1 hv
            split at hv
            · rename_i os hos
              cases hd : o.dst with
              | none => rw [hd] at hdst; cases hdst
              | some d =>
                rw [hd] at hdst hos hv
                have hfr : hasN st.fr d = true := hdst
                have hfresh := (h.fresh d hfr).2.2.1
                obtain ⟨lsE, hlsE⟩ := mk_some (lab := Tok.hd 0) (j := 0) htake
                have hent : ∃ stE, entrySt s xs = some stE := by
                  unfold entrySt
                  rw [hlsE]
                  exact ⟨_, rfl⟩
                obtain ⟨stE, hstE⟩ := hent
                have hrelE := entry_rel (n0 := fd.ntmps) h hargs htake hdt hdk hstE
                have hlen := (argsP_facts h hargs).1
                obtain ⟨T, hE, hT⟩ := hE
                have hsound := hE _ (findF_mem hfind)
                have hcalls := hsound _ _ stE xs y _ w (args.map a.eval) (tab_call hT h) hstE hy hrelE rfl (fun fd' h' => by rw [hfd] at h'; cases h'; rfl) (by simpa using hlen) (fun i => by
                  rw [Array.getD_eq_getD_getElem?, List.getD_eq_getElem?_getD]
                  simp)
                intro N Q hN
                have hex : execOp a.eval o = callFunc f (args.map a.eval) := by
                  have ef : a.eval (.func f) = .func (.func f) #[] #[] := rfl
                  unfold execOp
                  simp [hop, resolve, Deferred.ofValue, invoke, ef]
                unfold Oper.wp
                rw [hex, run_callFunc hfd hbody, Oper.upon_enter]
                refine hcalls.mono fun e w' ⟨us, g', st', he, hul, hst', hrel', hρ⟩ => ?_
                subst he
                exact hN _ w' _ _ hv (go_back h hargs htake hdt hdk hrel' hst' hul hρ hos hfresh)
            · cases hv
          · cases hv
        · cases hv
      · cases hv
    · cases hv
  · cases hv
/-- Every operation does what it is told to. -/
theorem pvU_sound (hE : E.okF F) (h : MRel F g st (tm a) w) (hv : pvU E o st (evK st.kn st.φ) C = some r) : Goes E F g st a w o C r := by
  have hv0 := hv
  cases hop : o.op with
  | move x => exact go_move h (.inl hop) hv
  | assign x => exact go_move h (.inr hop) hv
  | nilCheck x => exact go_nilCheck h hop hv
  | alloc t => exact go_alloc h hop hv
  | box t x => exact go_box h hop hv
  | load t x => exact go_load h hop hv
  | store t x y => exact go_store h hop hv
  | fieldAddr s x f => exact go_fieldAddr h hop hv
  | indexAddr t x i => exact go_indexAddr h hop hv
  | index t x i =>
    by_cases hus : E.P.underlying t = some .string
    · exact go_indexS h hop hus hv
    · exact go_indexA h hop hus hv
  | slice t x lo hi mx => exact go_slice h hop hv
  | field s x f => exact go_field h hop hv
  | extract x i => exact go_extract h hop hv
  | build t parts => exact go_build h hop hv
  | buildSlice t len parts => exact go_buildSlice h hop hv
  | makeSlice t n c => exact go_makeSlice h hop hv
  | binOp op t x y uy => exact go_binOp h hop hv
  | unOp op t x => exact go_unOp h hop hv
  | convert src dst x => exact go_convert h hop hv
  | call c =>
    obtain ⟨callee, args, ts⟩ := c
    cases callee with
    | value x =>
      cases x with
      | func f => exact go_call hE h hop hv
      | tmp _ => simp [pvU, hop] at hv0
      | const _ => simp [pvU, hop] at hv0
      | global _ => simp [pvU, hop] at hv0
    | invoke _ _ => simp [pvU, hop] at hv0
    | builtin b =>
      by_cases h1 : b = .len
      · subst h1; exact go_len h hop hv
      by_cases h2 : b = .min
      · subst h2; exact go_mm h (.inl rfl) hop hv
      by_cases h3 : b = .max
      · subst h3; exact go_mm h (.inr rfl) hop hv
      by_cases h4 : b = .append
      · subst h4; exact go_append h hop hv
      simp only [pvU, hop] at hv0
      unfold bltP at hv0
      split at hv0
      · cases b <;> first | contradiction | cases hv0
      · cases b <;> first | contradiction | cases hv0
      · cases hv0
  | _ => simp [pvU, hop] at hv0
end
end Pv
end Go.Proofs.YtngjmippejkleaaGreatDoor
