/- Pure evaluation of the model's code: states cut to what a region and a cut keep. -/
import Derived.Test.YtgcgdfjldeihkaaPy
namespace Go.Proofs.Ytgcgdfjldeihkaa
namespace Pv
set_option linter.unusedVariables false
section
variable {P : Program} {E : Env} {F : Fr} {g g' g0 : Gh} {st st' s : PSt} {a a' a0 : Act} {w w' w0 : World} {o : Oper} {ops : Array Oper} {R : Type} {r : R} {O O' : Tok → Bool}
/-- A leaf that claims less. -/
def Less (O O' : Tok → Bool) (l l' : Leaf) : Prop := l' = unown l ∨ (l' = l ∧ ∀ k E e x, l = .own k E e x → O' k = true → O k = true)
theorem RepL.less {l l' : Leaf} {cs : List Value} (h : RepL F g w O l cs) (hl : Less O O' l l') : RepL F g w O' l' cs := by
  rcases hl with rfl | ⟨rfl, hk⟩
  · cases l with
    | d t x => exact h
    | own k E e l => exact h.1
  · cases l' with
    | d t x => exact h
    | own k E e l => exact ⟨h.1, fun ho => h.2 (hk k E e l rfl ho)⟩
theorem RepLs.less {f : Leaf → Leaf} (hf : ∀ l, Less O O' l (f l)) : ∀ {ls : List Leaf} {cs : List Value}, RepLs F g w O ls cs → RepLs F g w O' (ls.map f) cs
  | [], cs, h => h
  | l :: ls, cs, h => by
    obtain ⟨c1, c2, rfl, h1, h2⟩ := h
    exact ⟨c1, c2, rfl, h1.less (hf l), RepLs.less hf h2⟩
theorem less_size {l l' : Leaf} (h : Less O O' l l') : l'.size = l.size := by
  rcases h with rfl | ⟨rfl, _⟩
  · cases l <;> rfl
  · rfl
theorem sizeLs_map {f : Leaf → Leaf} (hf : ∀ l, (f l).size = l.size) : ∀ {ls : List Leaf}, sizeLs (ls.map f) = sizeLs ls
  | [] => rfl
  | l :: ls => by simp [sizeLs, hf l, sizeLs_map hf]
theorem RelV.less {f : Leaf → Leaf} (hf : ∀ l, Less O O' l (f l)) {u : Value} {ag : Bool} {ls : List Leaf} (h : RelV F g w O u ag ls) : RelV F g w O' u ag (ls.map f) :=
  let ⟨cs, h1, h2⟩ := h
  ⟨cs, h1.less hf, h2⟩
theorem RelT.less {f : Leaf → Leaf} (hf : ∀ l, Less O O' l (f l)) : ∀ {us : List Value} {xs : List (Bool × List Leaf)}, RelT F g w O us xs → RelT F g w O' us (xs.map fun x => (x.1, x.2.map f))
  | [], [], _ => trivial
  | u :: us, x :: xs, h => ⟨h.1.less hf, RelT.less hf h.2⟩
  | [], _ :: _, h => h.elim
  | _ :: _, [], h => h.elim
theorem LocOk.less {f : Leaf → Leaf} (hf : ∀ l, Less O O' l (f l)) {ls : List Leaf} {p : Nat × Nat} (h : LocOk F g w O ls p) : LocOk F g w O' (ls.map f) p := by
  obtain ⟨cur, T, h1, h2, h3, h4, h5⟩ := h
  have hs : sizeLs (ls.map f) = sizeLs ls := sizeLs_map fun l => less_size (hf l)
  exact ⟨cur, T, h1, by rw [hs]; exact h2, by rw [hs]; exact h3.less hf, fun o a b => h4 o a (by rw [hs] at b; exact b), fun o b => h5 o (by rw [hs] at b; exact b)⟩
theorem elem_less {O'' : Tok → Bool} {tmf : Nat → Value} {u : Value} {ls : List Leaf} (h : RelP F g w O tmf u (.elem ls)) : RelP F g w O'' tmf u (.elem ls) := by
  obtain ⟨ad, cs, h1, h2, h4, h3⟩ := h
  refine ⟨ad, cs, h1, h2.gw (Gw.refl _ _) fun k E e x hx => ?_, h4, h3⟩
  have := h4 _ hx
  cases this
theorem dropLeaf_less {ds : List Nat} (l : Leaf) : Less O (fun t => !(dropTok ds t) && O t) l (dropLeaf ds l) := by
  cases l with
  | d t x => exact .inl rfl
  | own k E e l =>
    unfold dropLeaf
    simp only
    cases hd : dropTok ds k with
    | true => exact .inl rfl
    | false => exact .inr ⟨rfl, fun k' E' e' x h ho => by simp only [Bool.and_eq_true] at ho; exact ho.2⟩
theorem dropLeaf_D {ds : List Nat} {l : Leaf} (h : isD l = true) : dropLeaf ds l = l := by cases l <;> first | rfl | cases h
theorem map_D {f : Leaf → Leaf} (hf : ∀ l, isD l = true → f l = l) : ∀ {ls : List Leaf}, (∀ l ∈ ls, isD l = true) → ls.map f = ls
  | [], _ => rfl
  | l :: ls, h => by rw [List.map_cons, hf l (h l (by simp)), map_D hf fun l hl => h l (by simp [hl])]
theorem dropLeaf_ment {ds : List Nat} {d : Nat} (hd : hasN ds d = true) (l : Leaf) : mentL d (dropLeaf ds l) = false := by
  cases l with
  | d t x => rfl
  | own k E e l =>
    unfold dropLeaf
    simp only
    cases hk : dropTok ds k with
    | true => rfl
    | false =>
      cases k with
      | zero => rfl
      | hd _ _ => rfl
      | op d' j =>
        have hk' : hasN ds d' = false := hk
        show Nat.beq d' d = false
        exact Bool.eq_false_iff.2 fun e => by rw [Nat.eq_of_beq_eq_true e, hd] at hk'; cases hk'
theorem dropLeaf_ments {ds : List Nat} {d : Nat} (hd : hasN ds d = true) : ∀ (ls : List Leaf), mentLs d (ls.map (dropLeaf ds)) = false
  | [] => rfl
  | l :: ls => by
    show (mentL d (dropLeaf ds l) || mentLs d (ls.map (dropLeaf ds))) = false
    rw [dropLeaf_ment hd, dropLeaf_ments hd ls]; rfl
/-- What a region may make is forgotten. -/
theorem san_rel {tmf : Nat → Value} (ds : List Nat) (h : MRel F g st tmf w) : MRel F g (sanSt ds st) tmf w := by
  have Lc : ∀ k σ ls, (sanSt ds st).L k = some (σ, ls) → hasN ds k = false ∧ ∃ l0, st.L k = some (σ, l0) ∧ ls = l0.map (dropLeaf ds) := fun k σ ls hL => by
    have hL' : (match hasN ds k with | true => none | false => match st.L k with | some (σ, ls) => some (σ, ls.map (dropLeaf ds)) | none => none) = some (σ, ls) := hL
    split at hL'
    · cases hL'
    · rename_i hk
      split at hL'
      · rename_i σ' l0 h0
        simp only [Option.some.injEq, Prod.mk.injEq] at hL'
        obtain ⟨rfl, rfl⟩ := hL'
        exact ⟨hk, l0, h0, rfl⟩
      · cases hL'
  have Ls : ∀ k, hasN ds k = false → (st.L k).isSome = true → ((sanSt ds st).L k).isSome = true := fun k hk h0 => by
    obtain ⟨⟨σ, l0⟩, h0⟩ := Option.isSome_iff_exists.1 h0
    show (match hasN ds k with | true => none | false => match st.L k with | some (σ, ls) => some (σ, ls.map (dropLeaf ds)) | none => none).isSome = true
    rw [hk, h0]; rfl
  have Od : ∀ k, (sanSt ds st).O k = true → st.O k = true := fun k hk => by
    have hk' : (!(dropTok ds k) && st.O k) = true := hk
    simp only [Bool.and_eq_true] at hk'
    exact hk'.2
  refine ⟨h.fr, fun i => ?_, fun k σ ls hL => ?_, fun k σ ls hL hσ => ?_, fun t b hb => by (cases hb), fun i t want ag ls hs => ?_, fun d hd => ⟨fun i => ?_, fun k σ ls hL => ?_, fun j => ?_, ?_⟩, fun i k hk => ?_, h.blk0, fun k k' b hk hk' => h.blkI k k' b (Od k hk) (Od k' hk'),
    fun k b j x hk hb hL => ?_, fun k b hk => h.blkS k b (Od k hk), fun k b hk => h.blkW k b (Od k hk), fun j j' x x' hj hj' => ?_⟩
  · have h1 := h.slots i
    show RelP F g w _ tmf (tmf i) (sanP ds (st.φ i))
    cases hp : st.φ i with
    | w ag ls => rw [hp] at h1; exact RelV.less dropLeaf_less h1
    | tup xs =>
      rw [hp] at h1
      obtain ⟨us, e, ht⟩ := h1
      exact ⟨us, e, ht.less dropLeaf_less⟩
    | loc k f =>
      rw [hp] at h1
      show RelP F g w _ tmf (tmf i) (match hasN ds k with | true => .dead | false => .loc k f)
      cases hasN ds k with
      | true => trivial
      | false => exact h1
    | locE k f e j q =>
      rw [hp] at h1
      show RelP F g w _ tmf (tmf i) (match hasN ds k with | true => .dead | false => .locE k f e j q)
      cases hasN ds k with
      | true => trivial
      | false => exact h1
    | row k m t =>
      rw [hp] at h1
      show RelP F g w _ tmf (tmf i) (match hasN ds k with | true => .dead | false => .row k m t)
      cases hasN ds k with
      | true => trivial
      | false => exact h1
    | elem ls => rw [hp] at h1; exact elem_less h1
    | raw v => rw [hp] at h1; exact h1
    | spec _ _ _ _ => trivial
    | dead => trivial
  · obtain ⟨hk, l0, h0, rfl⟩ := Lc k σ ls hL
    exact (h.locals k σ l0 h0).less dropLeaf_less
  · obtain ⟨hk, l0, h0, rfl⟩ := Lc k σ ls hL
    obtain ⟨q1, q2⟩ := h.hist k σ l0 h0 hσ
    rw [map_D (fun l hl => dropLeaf_D hl) q2]
    exact ⟨q1, q2⟩
  · exfalso
    have hs' : sanP ds (st.φ i) = .spec t want ag ls := hs
    cases hp : st.φ i <;> rw [hp] at hs' <;> simp only [sanP] at hs' <;> first | (cases hs'; done) | (split at hs' <;> cases hs')
  · show mentP d (sanP ds (st.φ i)) = false
    have hd' : hasN ds d = true := hd
    cases hp : st.φ i with
    | w ag ls => exact dropLeaf_ments hd' ls
    | tup xs =>
      show ((xs.map fun x => (x.1, x.2.map (dropLeaf ds))).any fun x => mentLs d x.2) = false
      rw [List.any_map]
      apply Bool.eq_false_iff.2
      intro hany
      obtain ⟨x, _, hx⟩ := List.any_eq_true.1 hany
      have : mentLs d (x.2.map (dropLeaf ds)) = true := hx
      rw [dropLeaf_ments hd'] at this
      cases this
    | loc k f =>
      show mentP d (match hasN ds k with | true => .dead | false => .loc k f) = false
      cases hk : hasN ds k with
      | true => rfl
      | false => exact Bool.eq_false_iff.2 fun e => by rw [Nat.eq_of_beq_eq_true e, hd'] at hk; cases hk
    | locE k f e j q =>
      show mentP d (match hasN ds k with | true => .dead | false => .locE k f e j q) = false
      cases hk : hasN ds k with
      | true => rfl
      | false => exact Bool.eq_false_iff.2 fun e => by rw [Nat.eq_of_beq_eq_true e, hd'] at hk; cases hk
    | row k m t =>
      show mentP d (match hasN ds k with | true => .dead | false => .row k m t) = false
      cases hk : hasN ds k with
      | true => rfl
      | false => exact Bool.eq_false_iff.2 fun e => by rw [Nat.eq_of_beq_eq_true e, hd'] at hk; cases hk
    | elem ls => rfl
    | raw v => rfl
    | spec _ _ _ _ => rfl
    | dead => rfl
  · obtain ⟨_, l0, _, rfl⟩ := Lc k σ ls hL
    exact dropLeaf_ments hd l0
  · show (!(hasN ds d) && st.O (.op d j)) = false
    rw [show hasN ds d = true from hd]; rfl
  · show (match hasN ds d with | true => none | false => match st.L d with | some (σ, ls) => some (σ, ls.map (dropLeaf ds)) | none => none) = none
    rw [show hasN ds d = true from hd]
  · have hk' : k ∈ keyP (sanP ds (st.φ i)) := hk
    have key : k ∈ keyP (st.φ i) ∧ hasN ds k = false := by
      cases hp : st.φ i <;> rw [hp] at hk' <;> simp only [sanP] at hk'
      case loc k0 f =>
        cases hh : hasN ds k0 with
        | true => rw [hh] at hk'; cases hk'
        | false =>
          rw [hh] at hk'
          have e : k = k0 := by simpa [keyP] using hk'
          rw [e]; exact ⟨by simp [keyP], hh⟩
      case row k0 m t =>
        cases hh : hasN ds k0 with
        | true => rw [hh] at hk'; cases hk'
        | false =>
          rw [hh] at hk'
          have e : k = k0 := by simpa [keyP] using hk'
          rw [e]; exact ⟨by simp [keyP], hh⟩
      case locE k0 f e j q =>
        cases hh : hasN ds k0 with
        | true => rw [hh] at hk'; cases hk'
        | false =>
          rw [hh] at hk'
          have e : k = k0 := by simpa [keyP] using hk'
          rw [e]; exact ⟨by simp [keyP], hh⟩
      all_goals cases hk'
    exact Ls k key.2 (h.locL i k key.1)
  · obtain ⟨x1, x2⟩ := x
    obtain ⟨_, l0, h0, _⟩ := Lc j x1 x2 hL
    exact h.blkL k b j _ (Od k hk) hb h0
  · obtain ⟨x1, x2⟩ := x
    obtain ⟨y1, y2⟩ := x'
    obtain ⟨_, l0, h0, _⟩ := Lc j x1 x2 hj
    obtain ⟨_, l1, h1, _⟩ := Lc j' y1 y2 hj'
    exact h.ρI j j' _ _ h0 h1
theorem unown_less (l : Leaf) : Less O O' l (unown l) := .inl rfl
theorem unown_D (l : Leaf) : isD (unown l) = true := by cases l <;> rfl
theorem unown_same {l : Leaf} (h : isD l = true) : unown l = l := by cases l <;> first | rfl | cases h
end
end Pv
end Go.Proofs.Ytgcgdfjldeihkaa
