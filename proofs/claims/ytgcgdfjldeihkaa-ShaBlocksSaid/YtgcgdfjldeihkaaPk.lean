/- Pure evaluation of the model's code: calls. -/
import Derived.Test.YtgcgdfjldeihkaaPl
import Derived.Calls
namespace Go.Proofs.Ytgcgdfjldeihkaa
namespace Pv
set_option linter.unusedVariables false
def resAt : List (Bool × List LT) → List Leaf → Nat → PV
  | [], _, _ => .dead
  | (ag, ts) :: _, ls, 0 => .w ag (ls.take ts.length)
  | (_, ts) :: r, ls, i + 1 => resAt r (ls.drop ts.length) i
def Sig.nres (s : Sig) : Nat := (s.rs.flatMap (·.2)).length
def inoutAt : List Par → List Leaf → Nat → Option (List Leaf)
  | [], _, _ => none
  | .v _ _ :: _, _, 0 => none
  | .m ts :: _, ls, 0 => some (ls.take ts.length)
  | .v _ _ :: r, ls, i + 1 => inoutAt r ls i
  | .m ts :: r, ls, i + 1 => inoutAt r (ls.drop ts.length) i
def exitSt (s : Sig) (y : s.out.D) : Option PSt :=
  match mkLs (Tok.hd 0) s.outs 0 (unpackD (s.outs.map LT.ty) y) with
  | none => none
  | some os => some ⟨resAt s.rs os, fun k => match inoutAt s.ps (os.drop s.nres) k with | some l => some (0, l) | none => none, fun t => hasT (.zero :: labs (Tok.hd 0) s.outs 0) t, [], [], []⟩
def retV (us : List Value) : Value := match us with | [v] => v | _ => .tuple ⟨us⟩
/-- Tables: variables whose cells stand since the start, and stay. -/
abbrev Tab := List (Nat × Array Value)
def TabF (T : Tab) (F : Fr) : Prop := ∀ p ∈ T, (∃ ty fr, F.w0.heap[p.1]? = some (.cells p.2 ty fr)) ∧ ∀ i, i < p.2.size → F.C0 p.1 i ∧ ¬ F.X p.1 i
/-- What is proved of a function once. -/
def SoundFn (P : Program) (T : Tab) (f : FuncId) (s : Sig) (fn : s.Fn) : Prop :=
  ∀ (F : Fr) (g : Gh) (st : PSt) (xs : List Dat) (y : s.out.D) (tmf : Nat → Value) (w : World) (args : Array Value), TabF T F → entrySt s xs = some st → appF ((parsT s.ps).map LT.ty) fn.f xs = some y → MRel F g st tmf w → F.w0 = w → (∀ fd, P.funcs[f]? = some fd → F.n = fd.ntmps) →
    args.size = s.ps.length → (∀ i, tmf i = args.getD i undef) → Calls P f args w fun e w' => ∃ us g' st', e = .returned (retV us) ∧ us.length = s.rs.length ∧ exitSt s y = some st' ∧ MRel F g' st' (fun i => us.getD i undef) w' ∧ ∀ k, isM s.ps k = true → g'.ρ k = g.ρ k
def keyAt : List Par → List (Nat × Nat) → Nat → Option Nat
  | [], _, _ => none
  | .v _ _ :: _, _, 0 => none
  | .v _ _ :: ps, ms, i + 1 => keyAt ps ms i
  | .m _ :: _, (k, _) :: _, 0 => some k
  | .m _ :: ps, _ :: ms, i + 1 => keyAt ps ms i
  | .m _ :: _, [], _ => none
section
variable {P : Program} {F : Fr} {g : Gh} {st : PSt} {a : Act} {w : World} {σ : Tok → Tok → Prop}
theorem keyAt_mem : ∀ {ps : List Par} {ms : List (Nat × Nat)} {i k : Nat}, keyAt ps ms i = some k → k ∈ ms.map (·.1)
  | [], _, _, _, h => by cases h
  | .v _ _ :: ps, ms, 0, k, h => by cases h
  | .v _ _ :: ps, ms, i + 1, k, h => keyAt_mem (ps := ps) h
  | .m _ :: ps, (k0, n) :: ms, 0, k, h => by
    have : k0 = k := by simpa [keyAt] using h
    simp [this]
  | .m _ :: ps, (k0, n) :: ms, i + 1, k, h => by
    have := keyAt_mem (ps := ps) (ms := ms) (i := i) h
    simp only [List.map_cons, List.mem_cons]
    exact .inr this
  | .m _ :: ps, [], i, k, h => by cases i <;> cases h
theorem keyAt_inj : ∀ {ps : List Par} {ms : List (Nat × Nat)} {i j k : Nat}, distinctK ms = true → keyAt ps ms i = some k → keyAt ps ms j = some k → i = j
  | [], _, _, _, _, _, h, _ => by cases h
  | .v _ _ :: ps, ms, 0, _, _, _, h, _ => by cases h
  | .v _ _ :: ps, ms, _ + 1, 0, _, _, _, h => by cases h
  | .v _ _ :: ps, ms, i + 1, j + 1, k, hd, h1, h2 => by rw [keyAt_inj (ps := ps) hd h1 h2]
  | .m _ :: ps, (k0, n) :: ms, 0, 0, k, _, _, _ => rfl
  | .m _ :: ps, (k0, n) :: ms, 0, j + 1, k, hd, h1, h2 => by
    have e : k0 = k := by simpa [keyAt] using h1
    have := keyAt_mem (ps := ps) (ms := ms) h2
    simp only [distinctK, Bool.and_eq_true, Bool.not_eq_true'] at hd
    have h3 := hd.1
    rw [e, hasN_iff.2 this] at h3
    cases h3
  | .m _ :: ps, (k0, n) :: ms, i + 1, 0, k, hd, h1, h2 => by
    have e : k0 = k := by simpa [keyAt] using h2
    have := keyAt_mem (ps := ps) (ms := ms) h1
    simp only [distinctK, Bool.and_eq_true, Bool.not_eq_true'] at hd
    have h3 := hd.1
    rw [e, hasN_iff.2 this] at h3
    cases h3
  | .m _ :: ps, (k0, n) :: ms, i + 1, j + 1, k, hd, h1, h2 => by
    simp only [distinctK, Bool.and_eq_true] at hd
    rw [keyAt_inj (ps := ps) (ms := ms) hd.2 h1 h2]
  | .m _ :: ps, [], i, _, _, _, h, _ => by cases i <;> cases h
theorem parP_same {ls ls' : List Leaf} : ∀ {ps : List Par} {i : Nat} {ag : Bool} {l : List Leaf}, SameLs σ ls ls' → isM ps i = false → parP ps ls i = .w ag l → ∃ l', parP ps ls' i = .w ag l' ∧ SameLs σ l l' := by
  intro ps
  induction ps generalizing ls ls' with
  | nil => intro i ag l _ _ h; cases h
  | cons p ps ih =>
    intro i ag l hs hm h
    cases i with
    | zero =>
      cases p with
      | v ag0 ts =>
        have h' : PV.w ag0 (ls.take ts.length) = .w ag l := h
        injection h' with e1 e2
        subst e1; subst e2
        exact ⟨_, rfl, hs.take _⟩
      | m ts => cases h
    | succ i => exact ih (hs.drop _) (by cases p <;> exact hm) h
theorem parK_same {ls ls' : List Leaf} : ∀ {ps : List Par} {i : Nat} {l' : List Leaf}, SameLs σ ls ls' → parK ps ls' i = some l' → ∃ l, parK ps ls i = some l ∧ SameLs σ l l' := by
  intro ps
  induction ps generalizing ls ls' with
  | nil => intro i l' _ h; cases h
  | cons p ps ih =>
    intro i l' hs h
    cases i with
    | zero =>
      cases p with
      | v ag0 ts => cases h
      | m ts =>
        have h' : some (ls'.take ts.length) = some l' := h
        injection h' with e
        subst e
        exact ⟨_, rfl, hs.take _⟩
    | succ i => exact ih (hs.drop _) h
theorem isM_iff : ∀ {ps : List Par} {i : Nat}, isM ps i = true ↔ ∃ ts, ps[i]? = some (.m ts)
  | [], i => by simp [isM]
  | .v _ _ :: ps, 0 => by simp [isM]
  | .m ts :: ps, 0 => by simp [isM]
  | .v _ _ :: ps, i + 1 => by rw [show isM (.v _ _ :: ps) (i + 1) = isM ps i from rfl, isM_iff]; simp
  | .m _ :: ps, i + 1 => by rw [show isM (.m _ :: ps) (i + 1) = isM ps i from rfl, isM_iff]; simp
theorem parK_isM : ∀ {ps : List Par} {ls : List Leaf} {i : Nat} {l : List Leaf}, parK ps ls i = some l → isM ps i = true
  | [], _, _, _, h => by cases h
  | .v _ _ :: ps, ls, 0, _, h => by cases h
  | .m ts :: ps, ls, 0, _, h => rfl
  | .v _ _ :: ps, ls, i + 1, l, h => parK_isM (ps := ps) h
  | .m _ :: ps, ls, i + 1, l, h => parK_isM (ps := ps) h
/-- What is known of a call's arguments. -/
def ArgK (F : Fr) (g : Gh) (st : PSt) (a : Act) (w : World) (ps : List Par) (ls : List Leaf) (ms : List (Nat × Nat)) (i : Nat) (x : Operand) : Par → Prop
  | .v ag ts => ∃ l, parP ps ls i = .w ag l ∧ RelV F g w st.O (a.eval x) ag l
  | .m ts => ∃ k σ l, parK ps ls i = some l ∧ st.L k = some (σ, l) ∧ l.length = ts.length ∧ a.eval x = .pointer (some ⟨(g.ρ k).1, (g.ρ k).2, none⟩) ∧ keyAt ps ms i = some k
theorem argsP_facts (h : MRel F g st (tm a) w) : ∀ {ps : List Par} {xs : List Operand} {ts : List TypeId} {ls : List Leaf} {ms : List (Nat × Nat)}, argsP P st (evK st.kn st.φ) ps xs ts = some (ls, ms) →
    xs.length = ps.length ∧ (∀ l ∈ ls, ∃ cs, RepL F g w st.O l cs) ∧ (∀ k ∈ ms.map (·.1), ∃ i, keyAt ps ms i = some k) ∧ ∀ (i : Nat) (p : Par), ps[i]? = some p → ∃ x, xs[i]? = some x ∧ ArgK F g st a w ps ls ms i x p
  | [], [], ts, ls, ms, hp => by
    simp only [argsP, Option.some.injEq, Prod.mk.injEq] at hp
    obtain ⟨rfl, rfl⟩ := hp
    exact ⟨rfl, fun l hl => by simp at hl, fun k hk => by simp at hk, fun i p hi => by simp at hi⟩
  | [], _ :: _, _, _, _, hp => by cases hp
  | _ :: _, [], _, _, _, hp => by cases hp
  | p :: ps, x :: xs, ts, ls, ms, hp => by
    unfold argsP at hp
    split at hp
    · rename_i la ma lb mb ha hb
      simp only [Option.some.injEq, Prod.mk.injEq] at hp
      obtain ⟨rfl, rfl⟩ := hp
      obtain ⟨i1, i2, i4, i3⟩ := argsP_facts h hb
      have hx0 : RelP F g w st.O (tm a) (a.eval x) (argN P ts (evK st.kn st.φ x)) := by
        cases ts with
        | nil => exact ev_rel h x
        | cons t ts => exact norm_rel h.blk0 (ev_rel h x)
      generalize argN P ts (evK st.kn st.φ x) = q at ha hx0
      unfold argP at ha
      split at ha
      · rename_i ag tys ag' l
        split at ha
        · rename_i hb2
          simp only [Bool.and_eq_true] at hb2
          have hag : ag = ag' := bEq_iff.1 hb2.1
          have hlen : l.length = tys.length := by simpa using hb2.2
          simp only [Option.some.injEq, Prod.mk.injEq] at ha
          obtain ⟨rfl, rfl⟩ := ha
          subst hag
          have hdrop : ∀ {r : List Leaf}, (l ++ r).drop (Par.v ag tys).ts.length = r := fun {r} => by
            show (l ++ r).drop tys.length = r
            rw [← hlen]; simp
          refine ⟨by simp [i1], fun y hy => ?_, fun k hk => ?_, fun i p hi => ?_⟩
          · rcases List.mem_append.1 hy with hy | hy
            · obtain ⟨cs, hr, _⟩ := hx0
              obtain ⟨pre, post, rfl⟩ := List.append_of_mem hy
              obtain ⟨c1, c2, rfl, _, hr2⟩ := repLs_split hr
              obtain ⟨c3, c4, rfl, hr3, _⟩ := hr2
              exact ⟨c3, hr3⟩
            · exact i2 y hy
          · obtain ⟨i, hi⟩ := i4 k (by simpa using hk)
            exact ⟨i + 1, by simpa [keyAt] using hi⟩
          · cases i with
            | zero =>
              simp only [List.getElem?_cons_zero, Option.some.injEq] at hi
              subst hi
              refine ⟨x, rfl, l, ?_, hx0⟩
              show PV.w ag ((l ++ lb).take tys.length) = _
              rw [← hlen]; simp
            | succ i =>
              obtain ⟨y, hy, hk⟩ := i3 i p (by simpa using hi)
              refine ⟨y, by simpa using hy, ?_⟩
              cases p with
              | v ag2 ts2 =>
                obtain ⟨l2, h1, h2⟩ := hk
                refine ⟨l2, ?_, h2⟩
                show parP ps ((l ++ lb).drop (Par.v ag tys).ts.length) i = _
                rw [hdrop]; exact h1
              | m ts2 =>
                obtain ⟨k, σ, l2, h1, h2, h3, h4, h5⟩ := hk
                refine ⟨k, σ, l2, ?_, h2, h3, h4, by simpa [keyAt] using h5⟩
                show parK ps ((l ++ lb).drop (Par.v ag tys).ts.length) i = _
                rw [hdrop]; exact h1
        · cases ha
      · rename_i tys k off
        split at ha
        · rename_i σ l hL
          split at ha
          · rename_i hb2
            simp only [Bool.and_eq_true] at hb2
            have hoff : off = 0 := by simpa using hb2.1
            have hlen : l.length = tys.length := by simpa using hb2.2
            simp only [Option.some.injEq, Prod.mk.injEq] at ha
            obtain ⟨rfl, rfl⟩ := ha
            subst hoff
            have hdrop : ∀ {r : List Leaf}, (l ++ r).drop (Par.m tys).ts.length = r := fun {r} => by
              show (l ++ r).drop tys.length = r
              rw [← hlen]; simp
            refine ⟨by simp [i1], fun y hy => ?_, fun k' hk => ?_, fun i p hi => ?_⟩
            · rcases List.mem_append.1 hy with hy | hy
              · obtain ⟨cs, hr, _⟩ := loc_cells h hL
                obtain ⟨pre, post, rfl⟩ := List.append_of_mem hy
                obtain ⟨c1, c2, rfl, _, hr2⟩ := repLs_split hr
                obtain ⟨c3, c4, rfl, hr3, _⟩ := hr2
                exact ⟨c3, hr3⟩
              · exact i2 y hy
            · simp only [List.cons_append, List.nil_append, List.map_cons, List.mem_cons] at hk
              rcases hk with rfl | hk
              · exact ⟨0, rfl⟩
              · obtain ⟨i, hi⟩ := i4 k' hk
                exact ⟨i + 1, hi⟩
            · cases i with
              | zero =>
                simp only [List.getElem?_cons_zero, Option.some.injEq] at hi
                subst hi
                refine ⟨x, rfl, k, σ, l, ?_, hL, hlen, ?_, rfl⟩
                · show some ((l ++ lb).take tys.length) = _
                  rw [← hlen]; simp
                · have : a.eval x = _ := hx0
                  simpa using this
              | succ i =>
                obtain ⟨y, hy, hk⟩ := i3 i p (by simpa using hi)
                refine ⟨y, by simpa using hy, ?_⟩
                cases p with
                | v ag2 ts2 =>
                  obtain ⟨l2, h1, h2⟩ := hk
                  refine ⟨l2, ?_, h2⟩
                  show parP ps ((l ++ lb).drop (Par.m tys).ts.length) i = _
                  rw [hdrop]; exact h1
                | m ts2 =>
                  obtain ⟨k2, σ2, l2, h1, h2, h3, h4, h5⟩ := hk
                  refine ⟨k2, σ2, l2, ?_, h2, h3, h4, h5⟩
                  show parK ps ((l ++ lb).drop (Par.m tys).ts.length) i = _
                  rw [hdrop]; exact h1
          · cases ha
        · cases ha
      · cases ha
    · cases hp
theorem take_own {O : Tok → Bool} : ∀ {ts : List LT} {ls : List Leaf} {ks : List Tok} {xs : List Dat}, takeAll O ts ls = some (ks, xs) → ∀ (i : Nat) (k : Tok), ks[i]? = some k → (k = .zero) ∨ ∃ E e l, ts[i]? = some (.own E e) ∧ ls[i]? = some (.own k E e l) ∧ O k = true
  | [], [], ks, xs, h1 => by
    simp only [takeAll, Option.some.injEq, Prod.mk.injEq] at h1
    obtain ⟨rfl, rfl⟩ := h1
    intro i k hk; simp at hk
  | [], _ :: _, _, _, h1 => by cases h1
  | _ :: _, [], _, _, h1 => by cases h1
  | t :: ts, l :: ls, ks, xs, h1 => by
    unfold takeAll at h1
    split at h1
    · rename_i x k0 ks' xs' ht hr
      simp only [Option.some.injEq, Prod.mk.injEq] at h1
      obtain ⟨rfl, rfl⟩ := h1
      intro i k hk
      cases i with
      | succ i =>
        rcases take_own hr i k (by simpa using hk) with h | ⟨E, e, l', q1, q2, q3⟩
        · exact .inl h
        · exact .inr ⟨E, e, l', by simpa using q1, by simpa using q2, q3⟩
      | zero =>
        simp only [List.getElem?_cons_zero, Option.some.injEq] at hk
        subst hk
        cases t with
        | d t => exact .inl (takeLeaf_d ht).2
        | row e => exact .inl (takeLeaf_row ht).1
        | own E e =>
          cases l with
          | d t' z => cases ht
          | own k' E' e' z =>
            obtain ⟨rfl, hO, hy, rfl⟩ := takeLeaf_own ht
            obtain ⟨e2, he⟩ := castD_some (t := .sl e') (t' := .sl e) hy
            injection e2 with e2
            subst e2
            exact .inr ⟨E, e', z, rfl, rfl, hO⟩
    · cases h1
theorem take_ks {O : Tok → Bool} : ∀ {ts : List LT} {ls : List Leaf} {ks : List Tok} {xs : List Dat}, takeAll O ts ls = some (ks, xs) → ∀ (i : Nat) (E : TypeId) (e : Ty), ts[i]? = some (.own E e) → ∃ k, ks[i]? = some k ∧ O k = true
  | [], [], ks, xs, h1 => by intro i E e hi; simp at hi
  | [], _ :: _, _, _, h1 => by cases h1
  | _ :: _, [], _, _, h1 => by cases h1
  | t :: ts, l :: ls, ks, xs, h1 => by
    unfold takeAll at h1
    split at h1
    · rename_i x k0 ks' xs' ht hr
      simp only [Option.some.injEq, Prod.mk.injEq] at h1
      obtain ⟨rfl, rfl⟩ := h1
      intro i E e hi
      cases i with
      | succ i =>
        obtain ⟨k, q1, q2⟩ := take_ks hr i E e (by simpa using hi)
        exact ⟨k, by simpa using q1, q2⟩
      | zero =>
        simp only [List.getElem?_cons_zero, Option.some.injEq] at hi
        subst hi
        cases l with
        | d t' z => cases ht
        | own k' E' e' z =>
          obtain ⟨rfl, hO, hy, rfl⟩ := takeLeaf_own ht
          exact ⟨k0, rfl, hO⟩
    · cases h1
/-- The callee's frame and ghosts. -/
def callX (g : Gh) (st : PSt) (ks : List Tok) (ms : List (Nat × Nat)) : Com := fun b o =>
  (∃ k σ l, k ∈ ms.map (·.1) ∧ st.L k = some (σ, l) ∧ b = (g.ρ k).1 ∧ (g.ρ k).2 ≤ o ∧ o < (g.ρ k).2 + sizeLs l) ∨ ∃ k, k ∈ ks ∧ st.O k = true ∧ g.blk k = some b ∧ ¬ g.C b o
def callG (g : Gh) (s : Sig) (ks : List Tok) (ms : List (Nat × Nat)) : Gh :=
  ⟨g.C, fun t => match t with | .hd 0 j => g.blk (ks.getD j .zero) | _ => none, fun i => match keyAt s.ps ms i with | some k => g.ρ k | none => (0, 0), fun _ _ => []⟩
theorem tab_now {T : Tab} (hT : TabF T F) (hf : Frame F g.C w) : ∀ p ∈ T, (∃ ty fr, w.heap[p.1]? = some (.cells p.2 ty fr)) ∧ ∀ i, i < p.2.size → g.C p.1 i := fun p hp => by
  obtain ⟨⟨ty, fr, h1⟩, h2⟩ := hT p hp
  have hlt := (Array.getElem?_eq_some_iff.1 h1).1
  obtain ⟨cs', fr', h3, h4, h5⟩ := hf.shape _ _ _ _ hlt h1
  have e : cs' = p.2 := by
    apply Array.ext h4
    intro i hi hi2
    have := h5 i (h2 i hi2).2
    rw [Array.getElem?_eq_getElem hi, Array.getElem?_eq_getElem hi2] at this
    exact Option.some.inj this
  subst e
  exact ⟨⟨ty, fr', h3⟩, fun i hi => hf.mono _ _ (h2 i hi).1⟩
theorem callX_free (h : MRel F g st (tm a) w) {ks : List Tok} {ms : List (Nat × Nat)} {b o : Nat} (hx : callX g st ks ms b o) : ¬ g.C b o := by
  rcases hx with ⟨k, σ, l, _, hL, rfl, h1, h2⟩ | ⟨k, _, _, _, hc⟩
  · obtain ⟨cur, T, _, _, _, hw, _⟩ := h.locals k σ l hL
    exact (hw o h1 h2).1
  · exact hc
theorem tab_call {T : Tab} (hT : TabF T F) (h : MRel F g st (tm a) w) {n0 : Nat} {ks : List Tok} {ms : List (Nat × Nat)} : TabF T ⟨n0, w, g.C, callX g st ks ms⟩ := fun p hp => by
  obtain ⟨h1, h2⟩ := tab_now hT h.fr p hp
  exact ⟨h1, fun i hi => ⟨h2 i hi, fun hx => callX_free h hx (h2 i hi)⟩⟩
theorem entry_rel {n0 : Nat} (h : MRel F g st (tm a) w) {s : Sig} {xs : List Operand} {ts : List TypeId} {ls : List Leaf} {ms : List (Nat × Nat)} {ks : List Tok} {ds : List Dat} {stE : PSt}
    (hargs : argsP P st (evK st.kn st.φ) s.ps xs ts = some (ls, ms)) (htake : takeAll st.O (parsT s.ps) ls = some (ks, ds)) (hdt : distinctT ks = true) (hdk : distinctK ms = true) (hent : entrySt s ds = some stE) :
    MRel ⟨n0, w, g.C, callX g st ks ms⟩ (callG g s ks ms) stE (fun i => (xs.map a.eval).getD i undef) w := by
  obtain ⟨hlen, hleaf, hkeys, hper⟩ := argsP_facts h hargs
  unfold entrySt at hent
  split at hent
  · cases hent
  rename_i lsE hmk
  injection hent with hent
  obtain ⟨hsame, hkl⟩ := take_mk (fun l hl => .inl (by obtain ⟨cs, hr⟩ := hleaf l hl; exact leaf_arr hr)) htake hmk
  have T : Turn F g st.O ⟨n0, w, g.C, callX g st ks ms⟩ (callG g s ks ms) (fun t => hasT (.zero :: labs (Tok.hd 0) (parsT s.ps) 0) t) (fun k k' => TokAt (parsT s.ps) ks (Tok.hd 0) 0 k k' ∧ st.O k = true) := by
    refine ⟨rfl, fun k k' hσ _ => ⟨hσ.2, ?_⟩, fun k k' b o hσ _ hb hc _ => ?_⟩
    · obtain ⟨⟨i, E, e, h1, h2, rfl⟩, _⟩ := hσ
      show g.blk (ks.getD (0 + i) .zero) = _
      rw [List.getD_eq_getElem?_getD, Nat.zero_add, h2]; rfl
    · obtain ⟨⟨i, E, e, h1, h2, rfl⟩, hO⟩ := hσ
      exact .inr (.inr ⟨k, List.mem_of_getElem? h2, hO, hb, hc⟩)
  have tmE : ∀ i x, xs[i]? = some x → (xs.map a.eval).getD i undef = a.eval x := fun i x hx => by simp [List.getD_eq_getElem?_getD, hx]
  have liveE : ∀ k, hasT (.zero :: labs (Tok.hd 0) (parsT s.ps) 0) k = true → k = .zero ∨ ∃ i E e k0, k = .hd 0 i ∧ (parsT s.ps)[i]? = some (.own E e) ∧ ks[i]? = some k0 ∧ st.O k0 = true ∧ (callG g s ks ms).blk k = g.blk k0 := fun k hk => by
    rcases List.mem_cons.1 (hasT_iff.1 hk) with rfl | hm
    · exact .inl rfl
    · obtain ⟨i, E, e, h1, rfl⟩ := labs_mem.1 hm
      obtain ⟨k0, q1, q2⟩ := take_ks htake i E e h1
      refine .inr ⟨i, E, e, k0, by rw [Nat.zero_add], h1, q1, q2, ?_⟩
      show g.blk (ks.getD (0 + i) .zero) = _
      rw [List.getD_eq_getElem?_getD, Nat.zero_add, q1]; rfl
  have parE : ∀ i l', parK s.ps lsE i = some l' → ∃ k σ l, st.L k = some (σ, l) ∧ keyAt s.ps ms i = some k ∧ SameLs (fun k k' => TokAt (parsT s.ps) ks (Tok.hd 0) 0 k k' ∧ st.O k = true) l l' := fun i l' hp => by
    obtain ⟨l, h1, h2⟩ := parK_same hsame hp
    obtain ⟨tys, hi⟩ := isM_iff.1 (parK_isM hp)
    obtain ⟨x, _, k, σ, l2, q1, q2, q3, q4, q5⟩ := hper i _ hi
    rw [h1] at q1
    cases q1
    exact ⟨k, σ, l, q2, q5, h2⟩
  subst hent
  refine ⟨⟨Nat.le_refl _, rfl, rfl, rfl, fun _ _ _ => rfl, fun b cs T fr _ hcs => ⟨cs, fr, hcs, rfl, fun _ _ => rfl⟩, fun _ _ _ _ => Iff.rfl, fun _ _ hc => hc, h.fr.lim⟩, fun i => ?_, fun k σ l hL => ?_, fun k σ l hL hσ => ?_, fun t b hb => by (cases hb), fun i t want ag l hs => ?_, fun d hd => by (cases hd), fun i k hk => ?_, rfl,
    fun k k' b hk hk' hb hb' => ?_, fun k b j x hk hb hL => ?_, fun k b hk hb => ?_, fun k b hk hb => ?_, fun j j' x x' hj hj' he => ?_⟩
  · show RelP _ _ _ _ _ _ (match isM s.ps i with | true => PV.loc i 0 | false => parP s.ps lsE i)
    cases hm : isM s.ps i with
    | true =>
      obtain ⟨tys, hi⟩ := isM_iff.1 hm
      obtain ⟨x, hx, k, σ, l, q1, q2, q3, q4, q5⟩ := hper i _ hi
      show (xs.map a.eval).getD i undef = _
      rw [tmE i x hx, q4]
      show _ = Value.pointer (some ⟨((callG g s ks ms).ρ i).1, ((callG g s ks ms).ρ i).2 + 0, none⟩)
      unfold callG
      simp only [q5, Nat.add_zero]
    | false =>
      by_cases hlt : i < s.ps.length
      · have hi : s.ps[i]? = some s.ps[i] := List.getElem?_eq_getElem hlt
        obtain ⟨x, hx, hk⟩ := hper i _ hi
        cases hp : s.ps[i] with
        | m tys => rw [hp] at hi; rw [isM_iff.2 ⟨tys, hi⟩] at hm; cases hm
        | v ag tys =>
          rw [hp] at hk
          obtain ⟨l, q1, q2⟩ := hk
          obtain ⟨l', q3, q4⟩ := parP_same hsame hm q1
          show RelP _ _ _ _ _ _ (parP s.ps lsE i)
          rw [q3]
          show RelV _ _ _ _ ((xs.map a.eval).getD i undef) ag l'
          rw [tmE i x hx]
          exact q2.turn T q4
      · have hge : s.ps.length ≤ i := by omega
        have hpar : ∀ (ps : List Par) (q : List Leaf) (i : Nat), ps.length ≤ i → parP ps q i = .raw undef := by
          intro ps
          induction ps with
          | nil => intro q i _; rfl
          | cons p ps ih =>
            intro q i hi
            cases i with
            | zero => simp at hi
            | succ i => exact ih _ i (by simpa using hi)
        show RelP _ _ _ _ _ _ (parP s.ps lsE i)
        rw [hpar _ _ _ hge]
        show (xs.map a.eval).getD i undef = undef
        rw [List.getD_eq_getElem?_getD, List.getElem?_eq_none (by simp; omega)]
        rfl
  · have hL' : (match parK s.ps lsE k with | some l => some (0, l) | none => none) = some (σ, l) := hL
    split at hL'
    · rename_i l' hp
      simp only [Option.some.injEq, Prod.mk.injEq] at hL'
      obtain ⟨rfl, rfl⟩ := hL'
      obtain ⟨k0, σ0, l0, q1, q2, q3⟩ := parE k l' hp
      obtain ⟨cur, T0, hc1, hc2, hc3, hc4, hc5⟩ := h.locals k0 σ0 l0 q1
      have eρ : (callG g s ks ms).ρ k = g.ρ k0 := by unfold callG; simp only [q2]
      rw [eρ]
      refine ⟨cur, T0, hc1, by rw [q3.sizes]; exact hc2, by rw [q3.sizes]; exact hc3.turn T q3, fun o h1 h2 => ?_, fun o ho => hc5 o (by rw [q3.sizes] at ho; exact ho)⟩
      rw [q3.sizes] at h2
      exact ⟨(hc4 o h1 h2).1, .inr (.inl ⟨k0, σ0, l0, keyAt_mem q2, q1, rfl, h1, h2⟩)⟩
    · cases hL'
  · have hL' : (match parK s.ps lsE k with | some l => some (0, l) | none => none) = some (σ, l) := hL
    split at hL'
    · simp only [Option.some.injEq, Prod.mk.injEq] at hL'
      exact (hσ hL'.1.symm).elim
    · cases hL'
  · exfalso
    have hs' : (match isM s.ps i with | true => PV.loc i 0 | false => parP s.ps lsE i) = .spec t want ag l := hs
    have hpar : ∀ (ps : List Par) (q : List Leaf) (i : Nat), parP ps q i ≠ .spec t want ag l := by
      intro ps
      induction ps with
      | nil => intro q i e; cases e
      | cons p ps ih =>
        intro q i e
        cases i with
        | zero => cases p <;> cases e
        | succ i => exact ih _ i e
    split at hs'
    · cases hs'
    · exact hpar _ _ _ hs'
  · have hk' : k ∈ keyP (match isM s.ps i with | true => PV.loc i 0 | false => parP s.ps lsE i) := hk
    have hpar : ∀ (ps : List Par) (q : List Leaf) (i : Nat), k ∉ keyP (parP ps q i) := by
      intro ps
      induction ps with
      | nil => intro q i e; cases e
      | cons p ps ih =>
        intro q i e
        cases i with
        | zero => cases p <;> cases e
        | succ i => exact ih _ i e
    split at hk'
    · rename_i hm
      have hki : k = i := by simpa [keyP] using hk'
      subst hki
      have hparK : ∀ (ps : List Par) (q : List Leaf) (i : Nat), isM ps i = true → ∃ l, parK ps q i = some l := by
        intro ps
        induction ps with
        | nil => intro q i e; cases e
        | cons p ps ih =>
          intro q i e
          cases i with
          | zero => cases p with
            | v _ _ => cases e
            | m ts => exact ⟨_, rfl⟩
          | succ i => exact ih _ i (by cases p <;> exact e)
      obtain ⟨l, hl⟩ := hparK s.ps lsE k hm
      show (match parK s.ps lsE k with | some l => some (0, l) | none => none).isSome = true
      rw [hl]; rfl
    · exact (hpar _ _ _ hk').elim
  · rcases liveE k hk with rfl | ⟨i, E, e, k0, rfl, _, q1, q2, q3⟩
    · cases hb
    rcases liveE k' hk' with rfl | ⟨i', E', e', k0', rfl, _, q1', q2', q3'⟩
    · cases hb'
    rw [q3] at hb; rw [q3'] at hb'
    have e1 := h.blkI k0 k0' b q2 q2' hb hb'
    subst e1
    have hz : k0 ≠ .zero := fun e => by rw [e, h.blk0] at hb; cases hb
    rw [distinct_at hdt q1 q1' hz]
  · rcases liveE k hk with rfl | ⟨i, E, e, k0, rfl, _, q1, q2, q3⟩
    · cases hb
    rw [q3] at hb
    have hL' : (match parK s.ps lsE j with | some l => some (0, l) | none => none) = some x := hL
    split at hL'
    · rename_i l' hp
      obtain ⟨k1, σ1, l1, r1, r2, _⟩ := parE j l' hp
      have eρ : (callG g s ks ms).ρ j = g.ρ k1 := by unfold callG; simp only [r2]
      rw [eρ]
      exact h.blkL k0 b k1 _ q2 hb r1
    · cases hL'
  · rcases liveE k hk with rfl | ⟨i, E, e, k0, rfl, _, q1, q2, q3⟩
    · cases hb
    rw [q3] at hb
    exact h.blkS k0 b q2 hb
  · rcases liveE k hk with rfl | ⟨i, E, e, k0, rfl, _, q1, q2, q3⟩
    · cases hb
    rw [q3] at hb
    rcases take_own htake i k0 q1 with rfl | ⟨E2, e2, l2, r1, r2, r3⟩
    · rw [h.blk0] at hb; cases hb
    · obtain ⟨cs, hr⟩ := hleaf _ (List.mem_of_getElem? r2)
      obtain ⟨v, _, hown⟩ := hr.2 q2
      rcases hown with ⟨_, _, _, hn⟩ | ⟨b', cap, cur, _, hb', _, _, _, _, _, hcom, hw⟩
      · rw [hn] at hb; cases hb
      · rw [hb] at hb'
        cases hb'
        exact .inr ⟨l2.length * e2.size, .inr ⟨k0, List.mem_of_getElem? q1, q2, hb, fun hc => by have := (hcom _).1 hc; omega⟩⟩
  · have hj0 : (match parK s.ps lsE j with | some l => some (0, l) | none => none) = some x := hj
    have hj1 : (match parK s.ps lsE j' with | some l => some (0, l) | none => none) = some x' := hj'
    split at hj0
    · rename_i l0 hp0
      split at hj1
      · rename_i l1 hp1
        obtain ⟨k0, σ0, m0, r1, r2, _⟩ := parE j l0 hp0
        obtain ⟨k1, σ1, m1, r3, r4, _⟩ := parE j' l1 hp1
        have e0 : (callG g s ks ms).ρ j = g.ρ k0 := by unfold callG; simp only [r2]
        have e1 : (callG g s ks ms).ρ j' = g.ρ k1 := by unfold callG; simp only [r4]
        rw [e0, e1] at he
        have := h.ρI k0 k1 _ _ r1 r3 he
        subst this
        exact keyAt_inj hdk r2 r4
      · cases hj1
    · cases hj0
end
end Pv
end Go.Proofs.Ytgcgdfjldeihkaa
