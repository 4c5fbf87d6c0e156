/- The conditions of Vc are sound for the model's code: code and functions. -/
import Derived.Test.YtnlekdpnjphmfaaVcy
import Derived.Below
namespace Go.Proofs.Ytnlekdpnjphmfaa
namespace Vc
section
variable {E : Env} {v0 w0 : World} {n : Nat}

def Xt.out : Xt → Exit
  | .normal => .normal
  | .exit id => .exit id
  | .ret => .ret
def PostC (v0 w0 : World) (n : Nat) (M : Nat → Prop) (ρ : Nat → Nat) (a : Act) (Q : Xt → St → Prop) : Exit → Act → World → Prop :=
  fun e a' w' => ∃ x st' ρ', e = x.out ∧ Q x st' ∧ Rel v0 w0 n ρ' st' a' w' ∧ FrM M ρ a ρ' a'
theorem PostC.mono {M M' : Nat → Prop} {ρ ρ1 : Nat → Nat} {a a1 : Act} {Q Q' : Xt → St → Prop} (hm : ∀ i, M i → M' i) (hf : FrM M' ρ1 a1 ρ a) (hq : ∀ x s, Q x s → Q' x s) {e : Exit} {a' : Act} {w' : World}
    (h : PostC v0 w0 n M ρ a Q e a' w') : PostC v0 w0 n M' ρ1 a1 Q' e a' w' := by
  obtain ⟨x, st', ρ', he, hQ, hR, hF⟩ := h
  exact ⟨x, st', ρ', he, hq _ _ hQ, hR, hf.trans (hF.mono hm)⟩
theorem Xt.out_normal {x : Xt} (h : Exit.normal = x.out) : x = .normal := by cases x <;> first | rfl | cases h
theorem Xt.out_exit {x : Xt} {id : Nat} (h : Exit.exit id = x.out) : x = .exit id := by
  cases x with
  | exit i => simp only [Xt.out, Exit.exit.injEq] at h; rw [h]
  | normal => cases h
  | ret => cases h
theorem Xt.out_ret {x : Xt} (h : Exit.ret = x.out) : x = .ret := by cases x <;> first | rfl | cases h
theorem Xt.no_goto {x : Xt} {l : Nat} (h : Exit.goto l = x.out) : False := by cases x <;> cases h
theorem Xt.no_panic {x : Xt} {c : List PanicEntry} (h : Exit.panic c = x.out) : False := by cases x <;> cases h
theorem Xt.no_outgrown {x : Xt} (h : Exit.outgrown = x.out) : False := by cases x <;> cases h
/-- What stands behind a first part that ends as it should. -/
theorem then_post {M : Nat → Prop} {ρ : Nat → Nat} {a : Act} {Q Q1 : Xt → St → Prop} {N : Act → World → Prop} {R : Exit → Act → World → Prop} (hn : ∀ s ρ' a' w', Q1 .normal s → Rel v0 w0 n ρ' s a' w' → FrM M ρ a ρ' a' → N a' w')
    (hx : ∀ x s, x ≠ .normal → Q1 x s → Q x s) (hR : ∀ e a' w', PostC v0 w0 n M ρ a Q e a' w' → R e a' w') {e : Exit} {a' : Act} {w' : World} (h : PostC v0 w0 n M ρ a Q1 e a' w') : Exit.then N R e a' w' := by
  obtain ⟨x, st', ρ', rfl, hQ, hr, hF⟩ := h
  cases x with
  | normal => exact hn _ _ _ _ hQ hr hF
  | exit id => exact hR _ _ _ ⟨.exit id, st', ρ', rfl, hx _ _ (by simp) hQ, hr, hF⟩
  | ret => exact hR _ _ _ ⟨.ret, st', ρ', rfl, hx _ _ (by simp) hQ, hr, hF⟩
theorem hold_some {m : Ann} {J : TF m.kinds (World → Prop)} {s : St} (h : hold False m J s) : ∃ vs, take m s = some vs ∧ appT (fun _ => False) m.kinds J vs s.v := by
  unfold hold at h
  split at h
  · rename_i vs hv; exact ⟨vs, hv, h⟩
  · exact h.elim
theorem vc_sound : ∀ (c : AC) (Q : Xt → St → Prop) (st : St) (ρ : Nat → Nat) (a : Act) (w : World), c.good = true → (∀ d ∈ c.dsts, d < n) → Rel v0 w0 n ρ st a w → vc E c Q st →
    c.erase.wp E.P (PostC v0 w0 n (· ∈ c.dsts) ρ a Q) a w := by
  intro c
  induction c with
  | skip => intro Q st ρ a w _ _ h hv; exact wp_skip ⟨.normal, st, ρ, rfl, hv, h, FrM.refl _ _ _⟩
  | exit id => intro Q st ρ a w _ _ h hv; exact wp_exit ⟨.exit id, st, ρ, rfl, hv, h, FrM.refl _ _ _⟩
  | ret => intro Q st ρ a w _ _ h hv; exact wp_ret ⟨.ret, st, ρ, rfl, hv, h, FrM.refl _ _ _⟩
  | region id ops d =>
    intro Q st ρ a w _ hd h hv
    have hmem : ∀ o ∈ ops.toList, ∀ x, o.dst = some x → x ∈ (AC.region id ops d).dsts := fun o ho x hx => List.mem_filterMap.2 ⟨o, ho, hx⟩
    cases d with
    | true =>
      refine draw_sound (M := (· ∈ (AC.region id ops true).dsts)) (fun i o ho x hx => ?_) (fun c a w hp => ?_) h hv fun a' w' st' ρ' hK h' hf => ⟨.normal, st', ρ', rfl, hK, h', hf⟩
      · have hm := hmem o (by simpa using Array.mem_of_getElem? ho) x hx
        exact ⟨hd x hm, hm⟩
      · obtain ⟨x, _, _, e, _⟩ := hp
        exact Xt.no_panic e
    | false =>
      refine wp_region_list (ops_sound (M := (· ∈ (AC.region id ops false).dsts)) ops.toList st ρ a w _ (fun o ho x hx => ?_) h hv fun a' w' st' ρ' hK h' hf => ⟨.normal, st', ρ', rfl, hK, h', hf⟩)
      have hm := hmem o ho x hx
      exact ⟨hd x hm, hm⟩
  | seq x y ihx ihy =>
    intro Q st ρ a w hg hd h hv
    simp only [AC.good, Bool.and_eq_true] at hg
    have hdx : ∀ d ∈ x.dsts, d < n := fun d hm => hd d (List.mem_append_left _ hm)
    have hdy : ∀ d ∈ y.dsts, d < n := fun d hm => hd d (List.mem_append_right _ hm)
    refine wp_seq (Code.wp_mono (fun e a' w' hp => ?_) (ihx _ st ρ a w hg.1 hdx h hv))
    refine then_post (Q := Q) (fun s ρ' a' w' hQ h' hf => ?_) (fun x s hx hQ => by cases x <;> first | exact (hx rfl).elim | exact hQ) (fun e a' w' hq => hq.mono (fun i hi => List.mem_append_left _ hi) (FrM.refl _ _ _) (fun _ _ q => q)) hp
    exact Code.wp_mono (fun e a2 w2 hq => hq.mono (fun i hi => List.mem_append_right _ hi) (hf.mono fun i hi => List.mem_append_left _ hi) (fun _ _ q => q)) (ihy Q s ρ' a' w' hg.2 hdy h' hQ)
  | join m x y ihx ihy =>
    intro Q st ρ a w hg hd h hv
    simp only [AC.good, Bool.and_eq_true] at hg
    have hdx : ∀ d ∈ x.dsts, d < n := fun d hm => hd d (List.mem_append_left _ hm)
    have hdy : ∀ d ∈ y.dsts, d < n := fun d hm => hd d (List.mem_append_right _ hm)
    obtain ⟨J, hv1, hv2⟩ := hv
    refine wp_seq (Code.wp_mono (fun e a' w' hp => ?_) (ihx _ st ρ a w hg.1.1 hdx h hv1))
    refine then_post (Q := Q) (fun s ρ' a' w' hQ h' hf => ?_) (fun x s hx hQ => by cases x <;> first | exact (hx rfl).elim | exact hQ) (fun e a' w' hq => hq.mono (fun i hi => List.mem_append_left _ hi) (FrM.refl _ _ _) (fun _ _ q => q)) hp
    obtain ⟨hh, hk⟩ := sameL_kept hQ
    obtain ⟨vs, ht, hJ⟩ := hold_some hh
    have hr := head_rel h h' hf ht hk (fun d hm => List.all_eq_true.1 hg.2 d hm)
    have hv3 := allT_sound hv2 (ne_of_holds hJ) s.v hJ
    exact Code.wp_mono (fun e a2 w2 hq => hq.mono (fun i hi => List.mem_append_right _ hi) (hf.mono fun i hi => List.mem_append_left _ hi) (fun _ _ q => q)) (ihy Q _ ρ' a' w' hg.1.2 hdy hr hv3)
  | cond c x y ihx ihy =>
    intro Q st ρ a w hg hd h hv
    simp only [AC.good, Bool.and_eq_true] at hg
    have hdx : ∀ d ∈ x.dsts, d < n := fun d hm => hd d (List.mem_append_left _ hm)
    have hdy : ∀ d ∈ y.dsts, d < n := fun d hm => hd d (List.mem_append_right _ hm)
    unfold vc at hv
    split at hv
    · rename_i b hb
      have hc : a.eval c = .bool b := by have := evS_sound h c; rw [hb] at this; exact this
      have hl : ∀ b', b = b' → Rel v0 w0 n ρ ⟨litO st.φ c b', st.L, st.v⟩ a w := fun b' e => by
        subst e
        unfold litO
        cases c with
        | tmp t => exact h.litB hc
        | const _ => exact h
        | global _ => exact h
        | func _ => exact h
      cases b with
      | true =>
        refine wp_cond_true hc (Code.wp_mono (fun e a' w' hq => hq.mono (fun i hi => List.mem_append_left _ hi) (FrM.refl _ _ _) (fun _ _ q => q)) (ihx Q _ ρ a w hg.1 hdx (hl true rfl) hv))
      | false =>
        refine wp_cond_false hc (Code.wp_mono (fun e a' w' hq => hq.mono (fun i hi => List.mem_append_right _ hi) (FrM.refl _ _ _) (fun _ _ q => q)) (ihy Q _ ρ a w hg.2 hdy (hl false rfl) hv))
    · exact hv.elim
  | block id b ih =>
    intro Q st ρ a w hg hd h hv
    refine wp_block (Code.wp_mono (fun e a' w' hp => ?_) (ih _ st ρ a w hg hd h hv))
    obtain ⟨x, st', ρ', rfl, hQ, hr, hF⟩ := hp
    cases x with
    | normal => exact ⟨.normal, st', ρ', rfl, hQ, hr, hF⟩
    | ret => exact ⟨.ret, st', ρ', rfl, hQ, hr, hF⟩
    | exit i =>
      show (if i = id then _ else _)
      cases hb : Nat.beq i id with
      | true =>
        rw [if_pos (Nat.eq_of_beq_eq_true hb)]
        simp only [hb] at hQ
        exact ⟨.normal, st', ρ', rfl, hQ, hr, hF⟩
      | false =>
        rw [if_neg (fun e => by rw [e] at hb; simp at hb)]
        simp only [hb] at hQ
        exact ⟨.exit i, st', ρ', rfl, hQ, hr, hF⟩
  | loop m b ih =>
    intro Q st ρ a w hg hd h hv
    simp only [AC.good, Bool.and_eq_true] at hg
    obtain ⟨I, μ, hI, hround⟩ := hv
    obtain ⟨vs, ht, hI⟩ := hold_some hI
    have hM : ∀ d, d ∈ b.dsts → m.has d = true := fun d hm => List.all_eq_true.1 hg.2 d hm
    refine wp_loop_ghost (fun k a' w' => ∃ vs v ρ', k = appT (fun _ => 0) m.kinds μ vs v ∧ appT (fun _ => False) m.kinds I vs v ∧ Rel v0 w0 n ρ' (head m st vs v) a' w' ∧ FrM (· ∈ b.dsts) ρ a ρ' a') _
      ⟨vs, st.v, ρ, rfl, hI, head_rel h h (FrM.refl (· ∈ b.dsts) ρ a) ht (fun _ _ => rfl) hM, FrM.refl _ _ _⟩ ?_
    rintro k a' w' ⟨vs, v, ρ', rfl, hI, hr, hf⟩
    have hb := allT_sound hround (ne_of_holds hI) v hI
    refine Code.wp_mono (fun e a2 w2 hp => ?_) (ih _ _ ρ' a' w' hg.1 hd hr hb)
    refine then_post (Q := Q) (fun s ρ2 a2 w2 hQ h2 hf2 => ?_) (fun x s hx hQ => by cases x <;> first | exact (hx rfl).elim | exact hQ) (fun e a2 w2 hq => hq.mono (fun _ hi => hi) hf (fun _ _ q => q)) hp
    obtain ⟨hh, hk⟩ := sameL_kept hQ
    obtain ⟨hh1, hlt⟩ := hh
    obtain ⟨vs2, ht2, hI2⟩ := hold_some hh1
    have hf3 := hf.trans hf2
    have hlt2 : appT (fun _ => 0) m.kinds μ vs2 s.v < appT (fun _ => 0) m.kinds μ vs v := by
      unfold hold at hlt
      rw [ht2] at hlt
      exact hlt
    exact ⟨_, hlt2, vs2, s.v, ρ2, rfl, hI2, head_rel h h2 hf3 ht2 hk hM, hf3⟩
theorem annot_erase {A : List (Nat × Ann)} : ∀ (c : Code) (k : Nat) (ac : AC) (k' : Nat), annot A c k = some (ac, k') → ac.erase = c := by
  intro c
  induction c with
  | skip => intro k ac k' h; simp only [annot, Option.some.injEq, Prod.mk.injEq] at h; rw [← h.1]; rfl
  | region id ops d => intro k ac k' h; simp only [annot, Option.some.injEq, Prod.mk.injEq] at h; rw [← h.1]; rfl
  | exit id => intro k ac k' h; simp only [annot, Option.some.injEq, Prod.mk.injEq] at h; rw [← h.1]; rfl
  | ret => intro k ac k' h; simp only [annot, Option.some.injEq, Prod.mk.injEq] at h; rw [← h.1]; rfl
  | seq x y ihx ihy =>
    intro k ac k' h
    unfold annot at h
    split at h
    · rename_i a' k1 h1
      split at h
      · rename_i b' k2 h2
        split at h <;>
        · simp only [Option.some.injEq, Prod.mk.injEq] at h
          rw [← h.1]
          simp only [AC.erase, ihx _ _ _ h1, ihy _ _ _ h2]
      · cases h
    · cases h
  | cond c x y ihx ihy =>
    intro k ac k' h
    unfold annot at h
    split at h
    · rename_i a' k1 h1
      split at h
      · rename_i b' k2 h2
        simp only [Option.some.injEq, Prod.mk.injEq] at h
        rw [← h.1]
        simp only [AC.erase, ihx _ _ _ h1, ihy _ _ _ h2]
      · cases h
    · cases h
  | block id b ih =>
    intro k ac k' h
    unfold annot at h
    split at h
    · rename_i b' k1 h1
      simp only [Option.some.injEq, Prod.mk.injEq] at h
      rw [← h.1]
      simp only [AC.erase, ih _ _ _ h1]
    · cases h
  | loop b ih =>
    intro k ac k' h
    unfold annot at h
    split at h
    · rename_i m b' k1 h0 h1
      simp only [Option.some.injEq, Prod.mk.injEq] at h
      rw [← h.1]
      simp only [AC.erase, ih _ _ _ h1]
    · cases h
  | _ => intro k ac k' h; cases h

/-! ### results and functions -/
theorem run_mapM {α β : Type} {P : Program} {w : World} {f : α → Sem β} : ∀ (l : List α) (r : List β), (∀ (i : Nat) (x : α), l[i]? = some x → ∃ y, r[i]? = some y ∧ (f x).run P w = .ok y w) → r.length = l.length → (l.mapM f).run P w = .ok r w
  | [], r, _, hl => by
    have : r = [] := List.eq_nil_of_length_eq_zero (by simpa using hl)
    subst this; rfl
  | x :: l, [], _, hl => by simp at hl
  | x :: l, y :: r, h, hl => by
    obtain ⟨y', hy, hr⟩ := h 0 x rfl
    obtain rfl : y = y' := by simpa using hy
    rw [List.mapM_cons, Sem.run_bind, hr, Result.andThen_ok, Sem.run_bind, run_mapM l r (fun i z hz => h (i + 1) z hz) (by simpa using hl)]
    rfl
theorem resAll_some {P : Program} {st : St} : ∀ {l : List ResultVar} {vs : List Value}, resAll P st l = some vs → vs.length = l.length ∧ ∀ (i : Nat) (x : ResultVar), l[i]? = some x → ∃ y, vs[i]? = some y ∧ resS P st x = some y
  | [], vs, h => by simp only [resAll, Option.some.injEq] at h; subst h; exact ⟨rfl, fun i x hx => by simp at hx⟩
  | r :: l, vs, h => by
    unfold resAll at h
    split at h
    · rename_i v us hv hus
      simp only [Option.some.injEq] at h
      subst h
      obtain ⟨h1, h2⟩ := resAll_some hus
      refine ⟨by simp [h1], fun i x hx => ?_⟩
      cases i with
      | zero => simp only [List.getElem?_cons_zero, Option.some.injEq] at hx; subst hx; exact ⟨v, rfl, hv⟩
      | succ i => exact h2 i x (by simpa using hx)
    · cases h
theorem ret_sound {P : Program} {fn : Func} {R : Value → World → Prop} {ρ : Nat → Nat} {st : St} {a : Act} {w : World} (h : Rel v0 w0 n ρ st a w) (hv : vcRet P fn.results.toList R st) :
    ∃ v, (results fn a.tmps).run P w = .ok v w ∧ R v st.v := by
  unfold vcRet at hv
  have key : ∀ vs, resAll P st fn.results.toList = some vs → (results fn a.tmps).run P w = .ok (if h : (⟨vs⟩ : Array Value).size = 1 then (⟨vs⟩ : Array Value)[0] else .tuple ⟨vs⟩) w := fun vs hvs => by
    obtain ⟨hl, hall⟩ := resAll_some hvs
    unfold results
    rw [Array.mapM_eq_mapM_toList, Sem.run_bind, Sem.run_map, run_mapM fn.results.toList vs (fun i x hx => ?_) hl]
    · rfl
    obtain ⟨y, hy, hr⟩ := hall i x hx
    refine ⟨y, hy, ?_⟩
    unfold resS at hr
    cases x with
    | tmp t =>
      simp only at hr
      split at hr
      · rename_i u hu
        simp only [Option.some.injEq] at hr
        subst hr
        have := h.slots t
        rw [hu] at this
        show Result.ok (tm a t) w = _
        rw [this]
      · cases hr
    | cell x t =>
      simp only at hr
      split at hr
      · rename_i k off hu
        have hs := h.slots x
        rw [hu] at hs
        have he : a.tmps.getD x undef = .pointer (some ⟨ρ k, off, none⟩) := hs
        have hld := run_loadL (P := P) (b := ρ k) (h.locals k) hr
        simp only [he, asAddr, Sem.run_bind, Sem.run_pure, Result.andThen_ok, hld]
      · cases hr
  split at hv
  · rename_i v hvs
    exact ⟨v, key _ hvs, hv⟩
  · rename_i vs hne hvs
    refine ⟨.tuple ⟨vs⟩, ?_, hv⟩
    rw [key _ hvs, dif_neg]
    intro e
    match vs, hne, e with
    | [x], hne, _ => exact hne x rfl
  · exact hv.elim
theorem argS_get : ∀ (l : List Value) (i : Nat), argS l i = .val (l.getD i undef)
  | [], i => by cases i <;> rfl
  | v :: l, 0 => rfl
  | v :: l, i + 1 => argS_get l i
theorem fn_sound {A : List (Nat × Ann)} {f : FuncId} {fn : Func} {args : List Value} {v : World} {R : Value → World → Prop} (hf : E.P.funcs[f]? = some fn) (h : vcFn E A fn args v R) : CallsV E.P f ⟨args⟩ v R := by
  intro w hvis
  unfold vcFn at h
  split at h
  case h_2 => exact h.elim
  rename_i c hb
  split at h
  case h_2 => exact h.elim
  rename_i ac k hac
  split at h
  case h_2 => exact h.elim
  rename_i hgd
  simp only [Bool.and_eq_true] at hgd
  have hle : args.length ≤ fn.ntmps := by simpa using hgd.2
  have hdst : ∀ d ∈ ac.dsts, d < fn.ntmps := fun d hd => by
    have := List.all_eq_true.1 hgd.1.2 d hd
    simpa [Nat.blt_eq] using this
  have hrel : Rel v w fn.ntmps (fun _ => 0) ⟨argS args, fun _ => none, v⟩ { tmps := (⟨args⟩ : Array Value) ++ Array.replicate (fn.ntmps - (⟨args⟩ : Array Value).size) undef, defers := [] } w := by
    refine ⟨by simp; omega, rfl, fun i => ?_, hvis, Keep.refl v w, fun k cs hc => by (cases hc), fun k k' cs cs' hc => by cases hc⟩
    show RelS _ _ _ (argS args i)
    rw [argS_get]
    show tm _ i = args.getD i undef
    unfold tm
    simp only [Array.getD_eq_getD_getElem?, List.getD_eq_getElem?_getD, Array.getElem?_append]
    by_cases hlt : i < args.length
    · simp [hlt]
    · have e : args[i]? = none := by simp; omega
      rw [e, if_neg (by simpa using hlt)]
      simp only [Array.getElem?_replicate, Option.getD_none]
      split <;> rfl
  have he := annot_erase c 0 ac k hac
  refine calls_of_wp hf hb ?_
  have hs := vc_sound ac _ _ _ _ w hgd.1.1 hdst hrel h
  rw [he] at hs
  refine Code.wp_mono (fun e a' w' hp => ?_) hs
  obtain ⟨x, st', ρ', rfl, hQ, hr, _⟩ := hp
  cases x with
  | exit i => exact hQ.elim
  | normal =>
    obtain ⟨r, h1, h2⟩ := ret_sound hr hQ
    exact ⟨hr.defers, r, h1, r, st'.v, rfl, hr.vis, hr.keep, h2⟩
  | ret =>
    obtain ⟨r, h1, h2⟩ := ret_sound hr hQ
    exact ⟨hr.defers, r, h1, r, st'.v, rfl, hr.vis, hr.keep, h2⟩

/-! ### worlds that have only grown -/
structure Ext (v v' : World) : Prop where
  size : v.heap.size ≤ v'.heap.size
  block : ∀ b, b < v.heap.size → v'.heap[b]? = v.heap[b]?
theorem Ext.refl (v : World) : Ext v v := ⟨Nat.le_refl _, fun _ _ => rfl⟩
theorem Ext.trans {v v1 v2 : World} (h : Ext v v1) (k : Ext v1 v2) : Ext v v2 := ⟨Nat.le_trans h.size k.size, fun b hb => (k.block b (Nat.lt_of_lt_of_le hb h.size)).trans (h.block b hb)⟩
theorem Ext.alloc {v v1 : World} (h : Ext v v1) (o : Obj) : Ext v (v1.alloc o) := h.trans ⟨by rw [size_alloc]; omega, fun b hb => heap_alloc_old _ _ _ hb⟩
theorem Ext.hv {v v1 : World} (h : Ext v v1) : Ext v (Vc.hv v1) := h.alloc _
theorem Ext.cell {v v' : World} (h : Ext v v') {a : Addr} {x : Value} (hx : v.cell? a = some x) : v'.cell? a = some x := by
  obtain ⟨cs, t, fr, e⟩ := cell_block hx
  have e' := h.block _ (some_lt e)
  unfold World.cell? at hx ⊢
  rw [e', e]; rw [e] at hx; exact hx
/-- A call that leaves its world but for new blocks, as the form of claims wants it. -/
theorem CallsV.below {P : Program} {f : FuncId} {args : Array Value} {w : World} {R : Value → Prop} (h : CallsV P f args w fun r v' => R r ∧ Ext w v') :
    Calls P f args w fun e w' => ∃ r, e = .returned r ∧ R r ∧ Go.RowKit.Below w.heap.size w w' := by
  refine (h w (Vis.refl w)).mono fun e w' ⟨r, v', he, hvis, hk, hR, hext⟩ => ⟨r, he, hR, ⟨hk.os, hk.tape, hk.output, by rw [hvis.size]; exact hext.size, fun i hi => ?_⟩⟩
  have e1 := hext.block i hi
  obtain ⟨o, ho⟩ : ∃ o, w.heap[i]? = some o := ⟨w.heap[i], by simp [hi]⟩
  by_cases hh : isHole o = true
  · exact (hk.hole i o ho hh).2
  · rw [ho] at e1 ⊢
    exact hvis.block i o e1 (by simpa using hh)
end
end Vc
end Go.Proofs.Ytnlekdpnjphmfaa
