/- The conditions of Vc are sound for the model's code: guards, lists of operations, code, functions. -/
import Derived.Test.YtnlekdpnjphmfaaVcn
import Derived.Deep.LoopGhost
namespace Go.Proofs.Ytnlekdpnjphmfaa
namespace Vc
section
variable {E : Env} {v0 w0 : World} {n : Nat} {ρ : Nat → Nat} {st : St} {a : Act} {w : World} {K : St → Prop} {Q : Exit → Act → World → Prop}

theorem op_sound (h : Rel v0 w0 n ρ st a w) {o : Oper} (hd : ∀ x, o.dst = some x → x < n) (hv : vcOp E none o st K) : o.wp E.P a w (Next' v0 w0 n o.dst ρ a K) Q := by
  unfold vcOp at hv
  split at hv
  · rename_i s hs
    by_cases hsel : ∃ cs b, o.op = .select cs b
    · obtain ⟨cs, b, e⟩ := hsel
      rw [e] at hs
      unfold specOp specPlain at hs
      simp [plainOp] at hs
    · exact wp_yield h hd (spec_sound h none_g (fun cs b e => hsel ⟨cs, b, e⟩) hs) hv
  · exact mem_sound h hd hv

/-! ### guards -/
def isWant (want : Bool) : Value → Bool
  | .bool b => b == want
  | _ => false
theorem wanted_eq {ops : Array Oper} {o : Oper} {j t : Nat} {want : Bool} (hg : o.guard = some (j, want)) (ht : (ops[j]?).bind (·.dst) = some t) :
    Region.wanted o (yielded ops a.tmps) = isWant want (tm a t) := by
  unfold Region.wanted yielded
  simp only [hg, ht, Option.bind_some]
  unfold tm
  by_cases hlt : t < a.tmps.size
  · have e : a.tmps[t]? = some (a.tmps.getD t undef) := by simp [hlt]
    rw [e]
    generalize a.tmps.getD t undef = x
    cases x <;> simp [isWant]
  · have e : a.tmps[t]? = none := by simp; omega
    have e2 : a.tmps.getD t undef = undef := by simp [e]
    rw [e, e2]
    rfl
theorem bEq_beq (a b : Bool) : bEq a b = (b == a) := by cases a <;> cases b <;> rfl
theorem guard_sound {ops : Array Oper} {o : Oper} {j t : Nat} {want : Bool} (hd : ∀ x, o.dst = some x → x < n) (hg : o.guard = some (j, want)) (ht : (ops[j]?).bind (·.dst) = some t) :
    ∀ (m : Nat) (st : St), Rel v0 w0 n ρ st a w → vcGuard E o t want m st K →
      (Region.wanted o (yielded ops a.tmps) = true → o.wp E.P a w (Next' v0 w0 n o.dst ρ a K) Q) ∧
      (Region.wanted o (yielded ops a.tmps) = false → Next' v0 w0 n o.dst ρ a K (a.put o.dst undef) w)
  | 0, _, _, hv => hv.elim
  | m + 1, st, h, hv => by
    rw [wanted_eq hg ht]
    unfold vcGuard at hv
    have hslot := h.slots t
    split at hv
    · rename_i b hb
      rw [hb] at hslot
      have htm : tm a t = .bool b := hslot
      rw [htm]
      show ((b == want) = true → _) ∧ ((b == want) = false → _)
      split at hv
      · rename_i s hs
        constructor
        · intro hw
          have hbw : b = want := by simpa using hw
          have hsel : ∀ cs b, o.op ≠ .select cs b := fun cs b e => by
            rw [e] at hs
            unfold specOp specPlain at hs
            simp [plainOp] at hs
          obtain ⟨u, hr, hf⟩ := spec_sound h (g := some (t, want)) (fun t' w' e => by
            simp only [Option.some.injEq, Prod.mk.injEq] at e
            obtain ⟨rfl, rfl⟩ := e
            rw [htm, hbw]) hsel hs
          refine wp_value hr ⟨_, ρ, hv, h.put hd ⟨b, htm, fun _ => hf, fun e => (e hbw).elim⟩, Fr.put h hd u⟩
        · intro hw
          have hbw : b ≠ want := by simpa using hw
          exact ⟨_, ρ, hv, h.put hd ⟨b, htm, fun e => (hbw e).elim, fun _ => rfl⟩, Fr.put h hd undef⟩
      · have key : ∀ b', b = b' → vcWay E o t want b' st K → ((b == want) = true → o.wp E.P a w (Next' v0 w0 n o.dst ρ a K) Q) ∧ ((b == want) = false → Next' v0 w0 n o.dst ρ a K (a.put o.dst undef) w) := by
          intro b' e hway
          subst e
          have hl := h.litB htm
          unfold vcWay at hway
          rw [bEq_beq] at hway
          cases hbw : b == want with
          | true =>
            rw [hbw] at hway
            exact ⟨fun _ => op_sound hl hd hway, fun e => by cases e⟩
          | false =>
            rw [hbw] at hway
            exact ⟨fun e => by (cases e), fun _ => ⟨_, ρ, hway, hl.put hd rfl, Fr.put hl hd undef⟩⟩
        cases hbb : b with
        | true => rw [hbb] at hv; exact hbb ▸ key true hbb hv
        | false => rw [hbb] at hv; exact hbb ▸ key false hbb hv
    · rename_i x hne hx
      rw [hx] at hslot
      have htm : tm a t = x := hslot
      rw [htm]
      have hfalse : isWant want x = false := by
        clear hslot htm hx
        cases x <;> first | rfl | exact (hne _ rfl).elim
      rw [hfalse]
      exact ⟨fun e => by (cases e), fun _ => ⟨_, ρ, hv, h.put hd rfl, Fr.put h hd undef⟩⟩
    · rename_i t1 w1 s1 hx
      split at hv
      · rename_i b1 hb1
        have h1 := h.slots t1
        rw [hb1] at h1
        have htm1 : tm a t1 = .bool b1 := h1
        have hl := h.litB htm1
        rw [← wanted_eq hg ht]
        cases hbb : b1 with
        | true => rw [hbb] at hv hl; exact guard_sound hd hg ht m _ hl hv
        | false => rw [hbb] at hv hl; exact guard_sound hd hg ht m _ hl hv
      · exact hv.elim
    · exact hv.elim

/-! ### lists of operations -/
def FrM (M : Nat → Prop) (ρ : Nat → Nat) (a : Act) (ρ' : Nat → Nat) (a' : Act) : Prop := (∀ k, ¬ M k → ρ' k = ρ k) ∧ ∀ i, ¬ M i → tm a' i = tm a i
theorem FrM.refl (M : Nat → Prop) (ρ : Nat → Nat) (a : Act) : FrM M ρ a ρ a := ⟨fun _ _ => rfl, fun _ _ => rfl⟩
theorem FrM.trans {M : Nat → Prop} {ρ ρ' ρ'' : Nat → Nat} {a a' a'' : Act} (h : FrM M ρ a ρ' a') (k : FrM M ρ' a' ρ'' a'') : FrM M ρ a ρ'' a'' :=
  ⟨fun i hi => (k.1 i hi).trans (h.1 i hi), fun i hi => (k.2 i hi).trans (h.2 i hi)⟩
theorem FrM.mono {M M' : Nat → Prop} {ρ ρ' : Nat → Nat} {a a' : Act} (h : FrM M ρ a ρ' a') (hm : ∀ i, M i → M' i) : FrM M' ρ a ρ' a' :=
  ⟨fun i hi => h.1 i (fun e => hi (hm i e)), fun i hi => h.2 i (fun e => hi (hm i e))⟩
theorem Fr.toM {M : Nat → Prop} {d : Option Nat} {ρ ρ' : Nat → Nat} {a a' : Act} (h : Fr d ρ a ρ' a') (hm : ∀ x, d = some x → M x) : FrM M ρ a ρ' a' :=
  ⟨fun k hk => h.1 k (fun e => hk (hm k e)), fun i hi => h.2 i (fun e => hi (hm i e))⟩
theorem ops_sound {M : Nat → Prop} {ops : Array Oper} : ∀ (l : List Oper) (st : St) (ρ : Nat → Nat) (a : Act) (w : World) (Q : Exit → Act → World → Prop),
    (∀ o ∈ l, ∀ x, o.dst = some x → x < n ∧ M x) → Rel v0 w0 n ρ st a w → vcOps E ops l st K →
    (∀ a' w' st' ρ', K st' → Rel v0 w0 n ρ' st' a' w' → FrM M ρ a ρ' a' → Q .normal a' w') → wpList E.P ops Q l a w
  | [], st, ρ, a, w, Q, _, h, hv, hQ => hQ a w st ρ hv h (FrM.refl M ρ a)
  | o :: l, st, ρ, a, w, Q, hl, h, hv, hQ => by
    have hd : ∀ x, o.dst = some x → x < n := fun x hx => (hl o (by simp) x hx).1
    have hm : ∀ x, o.dst = some x → M x := fun x hx => (hl o (by simp) x hx).2
    have hl' : ∀ o' ∈ l, ∀ x, o'.dst = some x → x < n ∧ M x := fun o' ho' => hl o' (by simp [ho'])
    have next : ∀ a' w', Next' v0 w0 n o.dst ρ a (fun s => vcOps E ops l s K) a' w' → wpList E.P ops Q l a' w' := fun a' w' ⟨st', ρ', hv', h', hf⟩ =>
      ops_sound l st' ρ' a' w' Q hl' h' hv' fun a2 w2 st2 ρ2 hK2 h2 hf2 => hQ a2 w2 st2 ρ2 hK2 h2 ((hf.toM hm).trans hf2)
    unfold vcOps at hv
    unfold wpList
    cases hg : o.guard with
    | none =>
      simp only [hg] at hv
      rw [if_pos (by simp [Region.wanted, hg])]
      exact .inl (Oper.wp_mono next (op_sound h hd hv))
    | some p =>
      obtain ⟨j, want⟩ := p
      simp only [hg] at hv
      split at hv
      · exact hv.elim
      · rename_i t ht
        have hs := guard_sound (Q := Q) hd hg ht 4 st h hv
        cases hw : Region.wanted o (yielded ops a.tmps) with
        | true => rw [if_pos rfl]; exact .inl (Oper.wp_mono next (hs.1 hw))
        | false => rw [if_neg (by simp)]; exact next _ _ (hs.2 hw)

/-! ### cuts -/
theorem nth_some : ∀ {l : List (Nat × Kd)} {vs : List Value} {φ : Slots} {i : Nat} {x : Value}, takeS φ l = some vs → nth l vs i = some x → φ i = .val x
  | [], vs, φ, i, x, h, hx => by
    simp only [takeS, Option.some.injEq] at h
    subst h
    simp [nth] at hx
  | (j, kd) :: l, vs, φ, i, x, h, hx => by
    unfold takeS at h
    split at h
    · rename_i v us hv hus
      simp only [Option.some.injEq] at h
      subst h
      unfold nth at hx
      cases hb : Nat.beq i j with
      | true =>
        simp only [hb, Option.some.injEq] at hx
        subst hx
        rw [Nat.eq_of_beq_eq_true hb]; exact hv
      | false => simp only [hb] at hx; exact nth_some hus hx
    · cases h
theorem takeS_len : ∀ {l : List (Nat × Kd)} {vs : List Value} {φ : Slots}, takeS φ l = some vs → vs.length = l.length
  | [], vs, φ, h => by simp only [takeS, Option.some.injEq] at h; subst h; rfl
  | (j, kd) :: l, vs, φ, h => by
    unfold takeS at h
    split at h
    · rename_i v us hv hus
      simp only [Option.some.injEq] at h
      subst h
      simp [takeS_len hus]
    · cases h
theorem nth_append : ∀ {l : List (Nat × Kd)} {vs us : List Value} {i : Nat}, vs.length = l.length → nth l (vs ++ us) i = nth l vs i
  | [], vs, us, i, h => by
    have : vs = [] := List.eq_nil_of_length_eq_zero (by simpa using h)
    subst this
    cases us <;> rfl
  | (j, kd) :: l, [], us, i, h => by simp at h
  | (j, kd) :: l, v :: vs, us, i, h => by
    simp only [List.cons_append, nth]
    rw [nth_append (l := l) (by simpa using h)]
theorem nth_none_has {l : List (Nat × Kd)} {vs : List Value} {i : Nat} (hl : vs.length = l.length) (h : nth l vs i = none) : (l.any fun p => Nat.beq i p.1) = false := by
  induction l generalizing vs with
  | nil => rfl
  | cons p l ih =>
    obtain ⟨j, kd⟩ := p
    cases vs with
    | nil => simp at hl
    | cons v vs =>
      unfold nth at h
      cases hb : Nat.beq i j with
      | true => rw [hb] at h; cases h
      | false =>
        rw [hb] at h
        simp only [List.any_cons, hb, Bool.false_or]
        exact ih (by simpa using hl) h
theorem nthL_some : ∀ {l : List (Nat × List Kd)} {vs : List Value} {L : Locals} {k : Nat} {cs : List Value}, takeL L l = some vs → nthL l vs k = some cs → L k = some cs
  | [], vs, L, k, cs, h, hx => by simp [nthL] at hx
  | (j, ks) :: l, vs, L, k, cs, h, hx => by
    unfold takeL at h
    split at h
    · rename_i c us hc hus
      split at h
      · rename_i hlen
        simp only [Option.some.injEq] at h
        subst h
        have hl : c.length = ks.length := by simpa using hlen
        unfold nthL at hx
        cases hb : Nat.beq k j with
        | true =>
          simp only [hb, Option.some.injEq] at hx
          subst hx
          rw [Nat.eq_of_beq_eq_true hb, hc, ← hl]
          simp
        | false =>
          simp only [hb] at hx
          rw [← hl, List.drop_left] at hx
          exact nthL_some hus hx
      · cases h
    · cases h
theorem sameL_kept : ∀ {l : List Nat} {L L' : Locals} {p : Prop}, sameL l L L' p → p ∧ ∀ k, hasN l k = true → L k = L' k
  | [], _, _, _, h => ⟨h, fun k hk => by simp [hasN] at hk⟩
  | j :: l, L, L', p, h => by
    obtain ⟨h1, h2⟩ := h
    obtain ⟨h3, h4⟩ := sameL_kept h2
    refine ⟨h3, fun k hk => ?_⟩
    by_cases e : k = j
    · subst e; exact h1
    · refine h4 k ?_
      unfold hasN at hk ⊢
      simp only [List.any_cons, Bool.or_eq_true] at hk
      rcases hk with hk | hk
      · exact (e (Nat.eq_of_beq_eq_true hk)).elim
      · exact hk
/-- At a cut the state may be taken for its head. -/
theorem head_rel {m : Ann} {M : Nat → Prop} {ρ' : Nat → Nat} {s : St} {a' : Act} {w' : World} {vs : List Value} (h : Rel v0 w0 n ρ st a w) (h' : Rel v0 w0 n ρ' s a' w') (hf : FrM M ρ a ρ' a')
    (ht : take m s = some vs) (hk : ∀ k, hasN m.kept k = true → s.L k = st.L k) (hM : ∀ d, M d → m.has d = true) : Rel v0 w0 n ρ' (head m st vs s.v) a' w' := by
  unfold take at ht
  split at ht
  case h_2 => cases ht
  rename_i vs1 vs2 h1 h2
  simp only [Option.some.injEq] at ht
  subst ht
  have hl1 := takeS_len h1
  have hL : ∀ k cs, (head m st (vs1 ++ vs2) s.v).L k = some cs → s.L k = some cs := fun k cs hc => by
    change (match nthL m.locals ((vs1 ++ vs2).drop m.slots.length) k with | some cs => some cs | none => match hasN m.kept k with | true => st.L k | false => none) = some cs at hc
    rw [← hl1, List.drop_left] at hc
    split at hc
    · rename_i cs' hcs
      simp only [Option.some.injEq] at hc
      subst hc
      exact nthL_some h2 hcs
    · cases hkk : hasN m.kept k with
      | true => rw [hkk] at hc; rw [hk k hkk]; exact hc
      | false => rw [hkk] at hc; cases hc
  refine ⟨h'.size, h'.defers, fun i => ?_, h'.vis, h'.keep, fun k cs hc => h'.locals k cs (hL k cs hc), fun k k' cs cs' hc hc' => h'.inj k k' cs cs' (hL k cs hc) (hL k' cs' hc')⟩
  show RelS ρ' (tm a') (tm a' i) (match nth m.slots (vs1 ++ vs2) i with
    | some x => .val x
    | none => match hasN m.dead i with
      | true => .dead
      | false => match st.φ i with
        | .spec _ _ _ => .dead
        | .loc k o => match m.has k with | true => .dead | false => .loc k o
        | s => s)
  rw [nth_append hl1]
  cases hn : nth m.slots vs1 i with
  | some x =>
    have := h'.slots i
    rw [nth_some h1 hn] at this
    exact this
  | none =>
    cases hdd : hasN m.dead i with
    | true => trivial
    | false =>
      have hni : ¬ M i := fun e => by
        have := hM i e
        unfold Ann.has at this
        rw [hdd, nth_none_has hl1 hn] at this
        cases this
      have hi := h.slots i
      rw [← hf.2 i hni] at hi
      show RelS ρ' (tm a') (tm a' i) (match st.φ i with | .spec _ _ _ => .dead | .loc k o => (match m.has k with | true => .dead | false => .loc k o) | s => s)
      cases hφ : st.φ i with
      | val x => rw [hφ] at hi; exact hi
      | dead => trivial
      | spec _ _ _ => trivial
      | loc k o =>
        rw [hφ] at hi
        cases hh : m.has k with
        | true => simp only [hh]; trivial
        | false =>
          simp only [hh]
          show _ = Value.pointer _
          rw [hf.1 k (fun e => by rw [hM k e] at hh; cases hh)]
          exact hi
theorem kapp_some {β γ : Type} {c : β → γ} {d : γ} (k : Kd) (f : kfn k β) (v : Value) (h : kapp c d k f v ≠ d) : ∃ g, kapp c d k f v = c g ∧ ∀ F : Value → Prop, kall k F → F v := by
  cases k with
  | int k =>
    cases v <;> try exact (h rfl).elim
    rename_i k' m
    cases hk : ikEq k k' with
    | true => obtain rfl := ikEq_iff hk; exact ⟨f m, by simp only [kapp, hk], fun F hF => hF m⟩
    | false => simp only [kapp, hk] at h; exact (h rfl).elim
  | bool => cases v <;> first | exact (h rfl).elim | exact ⟨_, rfl, fun F hF => hF _⟩
  | str => cases v <;> first | exact (h rfl).elim | exact ⟨_, rfl, fun F hF => hF _⟩
  | ptr => cases v <;> first | exact (h rfl).elim | exact ⟨_, rfl, fun F hF => hF _⟩
  | slice => cases v <;> first | exact (h rfl).elim | exact ⟨_, rfl, fun F hF => hF _ _ _⟩
  | float k =>
    cases v <;> try exact (h rfl).elim
    rename_i k' m
    cases hk : fkEq k k' with
    | true => obtain rfl : k = k' := by (cases k <;> cases k' <;> first | rfl | cases hk)
              exact ⟨f m, by simp only [kapp, hk], fun F hF => hF m⟩
    | false => simp only [kapp, hk] at h; exact (h rfl).elim
  | cplx k =>
    cases v <;> try exact (h rfl).elim
    rename_i k' m m'
    cases hk : fkEq k k' with
    | true => obtain rfl : k = k' := by (cases k <;> cases k' <;> first | rfl | cases hk)
              exact ⟨f m m', by simp only [kapp, hk], fun F hF => hF m m'⟩
    | false => simp only [kapp, hk] at h; exact (h rfl).elim
  | any => exact ⟨f v, by cases v <;> rfl, fun F hF => hF v⟩
theorem allT_sound {α : Type} {d : α} : ∀ {ks : List Kd} {F : List Value → Prop} {f : TF ks α} {vs : List Value}, allT ks F → appT d ks f vs ≠ d → F vs
  | [], F, f, [], h, _ => h
  | [], F, f, v :: vs, _, hne => (hne rfl).elim
  | k :: ks, F, f, [], _, hne => (hne rfl).elim
  | k :: ks, F, f, v :: vs, h, hne => by
    obtain ⟨g, hg, hall⟩ := kapp_some (c := fun g => appT d ks g vs) (d := d) k f v hne
    have hne' : appT d ks g vs ≠ d := fun e => hne (hg.trans e)
    exact allT_sound (F := fun us => F (v :: us)) (f := g) (hall (fun v => allT ks fun us => F (v :: us)) h) hne'
theorem ne_of_holds {ks : List Kd} {J : TF ks (World → Prop)} {vs : List Value} {v : World} (h : appT (fun _ => False) ks J vs v) : appT (fun _ => False) ks J vs ≠ fun _ => False := fun e => by rw [e] at h; exact h
end
end Vc
end Go.Proofs.Ytnlekdpnjphmfaa
