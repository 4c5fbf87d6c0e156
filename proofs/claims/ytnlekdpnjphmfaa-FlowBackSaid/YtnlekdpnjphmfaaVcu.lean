/- The conditions of Vc are sound for the model's code: a region that draws its order, one operation after another. -/
import Derived.Test.YtnlekdpnjphmfaaVct
namespace Go.Proofs.Ytnlekdpnjphmfaa
namespace Vc
section
variable {E : Env} {v0 w0 : World} {n : Nat} {ops : Array Oper} {hf : List Bool} {sts : Nat → St} {ρ : Nat → Nat} {a : Act} {w : World}
def HF (hf : List Bool) (i : Nat) : Prop := hf.getD i false = true
structure DOk (E : Env) (ops : Array Oper) (hf : List Bool) (sts : Nat → St) : Prop where
  len : hf.length = ops.size
  nosel : Region.noSelect ops = true
  edge : ∀ j o, ops[j]? = some o → HF hf j → ∀ e ∈ o.after, Region.binds .any e = true → e.on < j ∧ HF hf e.on
  quiet : ∀ j o, ops[j]? = some o → HF hf j → quietO E o = true
  guard : ∀ j o g want, ops[j]? = some o → HF hf j → o.guard = some (g, want) → HF hf g ∧ waits ops j g = true
  self : ∀ j o d, ops[j]? = some o → HF hf j → o.dst = some d → d ∉ o.looksAt ops
  pair : ∀ i j oi oj d, ops[i]? = some oi → ops[j]? = some oj → HF hf i → HF hf j → i ≠ j → oi.dst = some d → oj.dst ≠ some d ∧ (d ∈ oj.looksAt ops → (i < j → waits ops j i = true) ∧ (¬ i < j → waits ops i j = true))
  rest : ∀ j o, ops[j]? = some o → ¬ HF hf j → (∃ e ∈ o.after, Region.binds .any e = true ∧ ¬ HF hf e.on ∧ e.on < j) ∨ ∀ i oi, ops[i]? = some oi → HF hf i → isPk oi.op = true ∨ waits ops j i = true
  stay : ∀ k o, ops[k]? = some o → ¬ HF hf k → sts (k + 1) = sts k
  step : ∀ k o, ops[k]? = some o → HF hf k → StepD E ops o (sts k) (sts (k + 1))
  nospec0 : ∀ t j w s, (sts 0).φ t ≠ .spec j w s
  noloc0 : ∀ t k f, (sts 0).φ t = .loc k f → ∀ i o, ops[i]? = some o → HF hf i → isLA E o = true → o.dst ≠ some k
  noL0 : ∀ i o k, ops[i]? = some o → HF hf i → isLA E o = true → o.dst = some k → (sts 0).L k = none

variable (D : DOk E ops hf sts)
include D
omit D in
theorem DOk.op {k : Nat} (h : k < ops.size) : ∃ o, ops[k]? = some o := ⟨ops[k], by simp [h]⟩
theorem DOk.uniq {i j : Nat} {oi oj : Oper} {d : Nat} (hi : ops[i]? = some oi) (hj : ops[j]? = some oj) (Hi : HF hf i) (Hj : HF hf j) (di : oi.dst = some d) (dj : oj.dst = some d) : i = j :=
  Classical.byContradiction fun hne => (D.pair i j oi oj d hi hj Hi Hj hne di).1 dj
theorem DOk.lt {i : Nat} (h : HF hf i) : i < ops.size := by
  rcases Nat.lt_or_ge i hf.length with hlt | hge
  · rw [D.len] at hlt; exact hlt
  · unfold HF at h; rw [List.getD_eq_getElem?_getD, List.getElem?_eq_none hge] at h; cases h
theorem DOk.one {k : Nat} {o : Oper} (ho : ops[k]? = some o) : (sts (k + 1)).v = (sts k).v ∧ (∀ t, (HF hf k → o.dst ≠ some t) → (sts (k + 1)).φ t = (sts k).φ t) ∧ ∀ c, (HF hf k → isLA E o = true → o.dst ≠ some c) → (sts (k + 1)).L c = (sts k).L c := by
  by_cases hk : HF hf k
  · have hs := D.step k o ho hk
    have up : ∀ (φ : Slots) (s : SV) (t : Nat), o.dst ≠ some t → updS φ o.dst s t = φ t := fun φ s t ht => by
      unfold updS
      cases hd : o.dst with
      | none => rfl
      | some d =>
        simp only
        rw [show Nat.beq t d = false from Bool.eq_false_iff.2 fun e => ht (by rw [hd, Nat.eq_of_beq_eq_true e])]
    unfold StepD at hs
    cases hla : isLA E o with
    | true =>
      rw [hla] at hs
      obtain ⟨t, d, i, z, _, hd, _, _, _, e⟩ := hs
      rw [e]
      refine ⟨rfl, fun t ht => ?_, fun c hc => ?_⟩
      · have := up (sts k).φ (.loc d 0) t (ht hk); rw [hd] at this; exact this
      · show at_ (sts k).L d _ c = _
        unfold at_
        rw [show Nat.beq c d = false from Bool.eq_false_iff.2 fun e => hc hk rfl (by rw [hd, Nat.eq_of_beq_eq_true e])]
    | false =>
      rw [hla] at hs
      obtain ⟨s', e, _⟩ := hs
      rw [e]
      exact ⟨rfl, fun t ht => up _ _ _ (ht hk), fun _ _ => rfl⟩
  · rw [D.stay k o ho hk]
    exact ⟨rfl, fun _ _ => rfl, fun _ _ => rfl⟩
theorem DOk.world {k : Nat} (hk : k ≤ ops.size) : (sts k).v = (sts 0).v := by
  induction k with
  | zero => rfl
  | succ k ih =>
    obtain ⟨o, ho⟩ := DOk.op (show k < ops.size by omega)
    rw [(D.one ho).1, ih (by omega)]
theorem DOk.φstay {j k t : Nat} (hjk : j ≤ k) (hk : k ≤ ops.size) (h : ∀ i o, j ≤ i → i < k → ops[i]? = some o → HF hf i → o.dst ≠ some t) : (sts k).φ t = (sts j).φ t := by
  induction k with
  | zero => rw [show j = 0 by omega]
  | succ k ih =>
    by_cases e : j = k + 1
    · rw [e]
    · obtain ⟨o, ho⟩ := DOk.op (show k < ops.size by omega)
      rw [(D.one ho).2.1 t (fun hH => h k o (by omega) (by omega) ho hH), ih (by omega) (by omega) fun i o h1 h2 => h i o h1 (by omega)]
theorem DOk.Lstay {j k c : Nat} (hjk : j ≤ k) (hk : k ≤ ops.size) (h : ∀ i o, j ≤ i → i < k → ops[i]? = some o → HF hf i → isLA E o = true → o.dst ≠ some c) : (sts k).L c = (sts j).L c := by
  induction k with
  | zero => rw [show j = 0 by omega]
  | succ k ih =>
    by_cases e : j = k + 1
    · rw [e]
    · obtain ⟨o, ho⟩ := DOk.op (show k < ops.size by omega)
      rw [(D.one ho).2.2 c (fun hH hl => h k o (by omega) (by omega) ho hH hl), ih (by omega) (by omega) fun i o h1 h2 => h i o h1 (by omega)]
/-- The slot that an operation writes keeps its word. -/
theorem DOk.φlast {i k d : Nat} {o : Oper} (ho : ops[i]? = some o) (hH : HF hf i) (hd : o.dst = some d) (hik : i < k) (hk : k ≤ ops.size) : (sts k).φ d = (sts (i + 1)).φ d :=
  D.φstay (by omega) hk fun i' o' h1 _ ho' hH' hd' => by
    have := D.uniq ho ho' hH hH' hd hd'
    omega
theorem DOk.φfirst {i k d : Nat} {o : Oper} (ho : ops[i]? = some o) (hH : HF hf i) (hd : o.dst = some d) (hik : k ≤ i) : (sts k).φ d = (sts 0).φ d :=
  D.φstay (by omega) (by have := D.lt hH; omega) fun i' o' _ h2 ho' hH' hd' => by
    have := D.uniq ho ho' hH hH' hd hd'
    omega
theorem DOk.Llast {i k c : Nat} {cs : List Value} (hik : i ≤ k) (hk : k ≤ ops.size) (h : (sts i).L c = some cs) : (sts k).L c = some cs := by
  by_cases hw : ∃ j o, ops[j]? = some o ∧ HF hf j ∧ isLA E o = true ∧ o.dst = some c
  · obtain ⟨j, o, ho, hH, hla, hd⟩ := hw
    by_cases hji : j < i
    · rw [D.Lstay hik hk fun i' o' h1 _ ho' hH' _ hd' => by have := D.uniq ho ho' hH hH' hd hd'; omega]; exact h
    · have h0 : (sts i).L c = (sts 0).L c := D.Lstay (by omega) (by omega) fun i' o' _ h2 ho' hH' _ hd' => by have := D.uniq ho ho' hH hH' hd hd'; omega
      rw [h0, D.noL0 j o c ho hH hla hd] at h
      cases h
  · rw [D.Lstay hik hk fun i' o' _ _ ho' hH' hla' hd' => hw ⟨i', o', ho', hH', hla', hd'⟩]; exact h

/-! ### what is done, what is not -/
omit D in
variable (ops hf) in
def pend (S : Nat → Prop) (t : Nat) : Prop := ∃ i o, ops[i]? = some o ∧ HF hf i ∧ ¬ S i ∧ o.dst = some t
omit D in
variable (E ops hf) in
def pendA (S : Nat → Prop) (t : Nat) : Prop := ∃ i o, ops[i]? = some o ∧ HF hf i ∧ ¬ S i ∧ isLA E o = true ∧ o.dst = some t
open Classical in
omit D in
variable (ops hf sts) in
noncomputable def mask (S : Nat → Prop) : Slots := fun t => if pend ops hf S t then (sts 0).φ t else (sts ops.size).φ t
open Classical in
omit D in
variable (E ops hf sts) in
noncomputable def maskL (S : Nat → Prop) : Locals := fun c => if pendA E ops hf S c then none else (sts ops.size).L c
omit D in
variable (ops) in
def Shut (S : Nat → Prop) : Prop := ∀ i j, S i → waits ops i j = true → S j
omit D in
variable (E ops hf sts) in
/-- Nothing that is done speaks of what is not. -/
structure Clean (S : Nat → Prop) : Prop where
  shut : Shut ops S
  loc : ∀ t k, mentions k (mask ops hf sts S t) → ¬ pendA E ops hf S k
  spec : ∀ t j, specOn j (mask ops hf sts S t) → ¬ pend ops hf S j
theorem DOk.agree {S : Nat → Prop} (hS : Shut ops S) {j t : Nat} {o : Oper} (ho : ops[j]? = some o) (hH : HF hf j) (hn : ¬ S j) (hw : ∀ i, waits ops j i = true → S i) (ht : t ∈ o.looksAt ops) :
    mask ops hf sts S t = (sts j).φ t := by
  have hj := D.lt hH
  unfold mask
  by_cases hx : ∃ i oi, ops[i]? = some oi ∧ HF hf i ∧ oi.dst = some t
  · obtain ⟨i, oi, hi, Hi, di⟩ := hx
    have hne : i ≠ j := fun e => by subst e; rw [ho] at hi; cases hi; exact D.self i o t ho hH di ht
    have hp := (D.pair i j oi o t hi ho Hi hH hne di).2 ht
    by_cases hlt : i < j
    · have hSi := hw i (hp.1 hlt)
      rw [if_neg (fun ⟨i', o', h1, h2, h3, h4⟩ => h3 (by rw [← D.uniq hi h1 Hi h2 di h4]; exact hSi))]
      rw [D.φlast hi Hi di (by have := D.lt Hi; omega) (Nat.le_refl _), D.φlast hi Hi di hlt (by omega)]
    · have hSi : ¬ S i := fun h => hn (hS i j h (hp.2 hlt))
      rw [if_pos ⟨i, oi, hi, Hi, hSi, di⟩, D.φfirst hi Hi di (show j ≤ i by omega)]
  · rw [if_neg (fun ⟨i', o', h1, h2, h3, h4⟩ => hx ⟨i', o', h1, h2, h4⟩)]
    rw [D.φstay (j := 0) (by omega) (Nat.le_refl _) fun i o' _ _ h1 h2 h3 => hx ⟨i, o', h1, h2, h3⟩, D.φstay (j := 0) (k := j) (by omega) (by omega) fun i o' _ _ h1 h2 h3 => hx ⟨i, o', h1, h2, h3⟩]
omit D in
def plus (S : Nat → Prop) (j : Nat) : Nat → Prop := fun i => S i ∨ i = j
theorem DOk.mask_step {S : Nat → Prop} {j : Nat} {o : Oper} (ho : ops[j]? = some o) (hH : HF hf j) :
    (∀ d, o.dst = some d → mask ops hf sts (plus S j) d = (sts (j + 1)).φ d ∧ ¬ pend ops hf (plus S j) d) ∧ ∀ t, o.dst ≠ some t → mask ops hf sts (plus S j) t = mask ops hf sts S t := by
  refine ⟨fun d hd => ?_, fun t ht => ?_⟩
  · have hnp : ¬ pend ops hf (plus S j) d := fun ⟨i', o', h1, h2, h3, h4⟩ => h3 (.inr (D.uniq ho h1 hH h2 hd h4).symm)
    unfold mask
    rw [if_neg hnp]
    exact ⟨D.φlast ho hH hd (D.lt hH) (Nat.le_refl _), hnp⟩
  · unfold mask
    have : pend ops hf (plus S j) t ↔ pend ops hf S t := ⟨fun ⟨i, o', h1, h2, h3, h4⟩ => ⟨i, o', h1, h2, fun h => h3 (.inl h), h4⟩, fun ⟨i, o', h1, h2, h3, h4⟩ =>
      ⟨i, o', h1, h2, fun h => h.elim h3 fun e => by subst e; rw [ho] at h1; cases h1; exact ht h4, h4⟩⟩
    rw [propext this]
theorem DOk.mask_upd {S : Nat → Prop} {j : Nat} {o : Oper} {s : SV} (ho : ops[j]? = some o) (hH : HF hf j) (hs : ∀ d, o.dst = some d → (sts (j + 1)).φ d = s) :
    mask ops hf sts (plus S j) = updS (mask ops hf sts S) o.dst s := by
  obtain ⟨h1, h2⟩ := D.mask_step (S := S) ho hH
  funext t
  unfold updS
  cases hd : o.dst with
  | none => exact h2 t (by rw [hd]; simp)
  | some d =>
    simp only
    cases he : Nat.beq t d with
    | true => rw [Nat.eq_of_beq_eq_true he, (h1 d hd).1, hs d hd]
    | false => exact h2 t (by rw [hd]; rintro ⟨⟩; simp at he)
omit D in
theorem maskL_step {S : Nat → Prop} {j : Nat} {o : Oper} (ho : ops[j]? = some o) (hH : HF hf j) (hla : isLA E o = false) : maskL E ops hf sts (plus S j) = maskL E ops hf sts S := by
  funext c
  unfold maskL
  have : pendA E ops hf (plus S j) c ↔ pendA E ops hf S c := ⟨fun ⟨i, o', h1, h2, h3, h4⟩ => ⟨i, o', h1, h2, fun h => h3 (.inl h), h4⟩, fun ⟨i, o', h1, h2, h3, h4, h5⟩ =>
    ⟨i, o', h1, h2, fun h => h.elim h3 fun e => by (subst e; rw [ho] at h1; cases h1; rw [hla] at h4; cases h4), h4, h5⟩⟩
  rw [propext this]
end
end Vc
end Go.Proofs.Ytnlekdpnjphmfaa
