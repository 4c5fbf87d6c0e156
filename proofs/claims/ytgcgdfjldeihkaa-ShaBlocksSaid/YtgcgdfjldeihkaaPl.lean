/- Pure evaluation of the model's code: leaves under other tokens. -/
import Derived.Test.YtgcgdfjldeihkaaPg
namespace Go.Proofs.Ytgcgdfjldeihkaa
namespace Pv
set_option linter.unusedVariables false
section
variable {F F' : Fr} {g g' : Gh} {w w' : World} {O O' : Tok → Bool} {σ : Tok → Tok → Prop}
/-- The same datum, its token another. -/
inductive SameL (σ : Tok → Tok → Prop) : Leaf → Leaf → Prop where
  | d (t : Ty) (x : t.D) : SameL σ (.d t x) (.d t x)
  | down (k : Tok) (E : TypeId) (e : Ty) (l : List e.D) : SameL σ (.own k E e l) (.d (.sl e) l)
  | own (k k' : Tok) (E : TypeId) (e : Ty) (l : List e.D) (h : σ k k') : SameL σ (.own k E e l) (.own k' E e l)
inductive SameLs (σ : Tok → Tok → Prop) : List Leaf → List Leaf → Prop where
  | nil : SameLs σ [] []
  | cons {l l' : Leaf} {ls ls' : List Leaf} (h : SameL σ l l') (hs : SameLs σ ls ls') : SameLs σ (l :: ls) (l' :: ls')
theorem SameL.mono {σ' : Tok → Tok → Prop} {l l' : Leaf} (h : SameL σ l l') (hm : ∀ k k', σ k k' → σ' k k') : SameL σ' l l' := by
  cases h with
  | d t x => exact .d t x
  | down k E e l => exact .down k E e l
  | own k k' E e l h => exact .own k k' E e l (hm _ _ h)
theorem SameLs.mono {σ' : Tok → Tok → Prop} {ls ls' : List Leaf} (h : SameLs σ ls ls') (hm : ∀ k k', σ k k' → σ' k k') : SameLs σ' ls ls' := by
  induction h with
  | nil => exact .nil
  | cons h _ ih => exact .cons (h.mono hm) ih
theorem SameL.size {l l' : Leaf} (h : SameL σ l l') : l'.size = l.size := by cases h <;> rfl
theorem SameLs.length {ls ls' : List Leaf} (h : SameLs σ ls ls') : ls'.length = ls.length := by
  induction h with
  | nil => rfl
  | cons _ _ ih => simp [ih]
theorem SameLs.sizes {ls ls' : List Leaf} (h : SameLs σ ls ls') : sizeLs ls' = sizeLs ls := by
  induction h with
  | nil => rfl
  | cons h _ ih => simp [sizeLs, h.size, ih]
theorem SameLs.take {ls ls' : List Leaf} (h : SameLs σ ls ls') : ∀ n, SameLs σ (ls.take n) (ls'.take n) := by
  induction h with
  | nil => intro n; simp; exact .nil
  | cons h _ ih => intro n; cases n with
    | zero => exact .nil
    | succ n => exact .cons h (ih n)
theorem SameLs.drop {ls ls' : List Leaf} (h : SameLs σ ls ls') : ∀ n, SameLs σ (ls.drop n) (ls'.drop n) := by
  induction h with
  | nil => intro n; simp; exact .nil
  | cons h hs ih => intro n; cases n with
    | zero => exact .cons h hs
    | succ n => exact ih n
/-- How the two readings hang together. -/
structure Turn (F : Fr) (g : Gh) (O : Tok → Bool) (F' : Fr) (g' : Gh) (O' : Tok → Bool) (σ : Tok → Tok → Prop) : Prop where
  C : g'.C = g.C
  blk : ∀ k k', σ k k' → O' k' = true → O k = true ∧ g'.blk k' = g.blk k
  wr : ∀ k k' b o, σ k k' → O' k' = true → g.blk k = some b → ¬ g.C b o → Wr F b o → Wr F' b o
theorem OwnR.turn (T : Turn F g O F' g' O' σ) {k k' : Tok} {E : TypeId} {e : Ty} {l : List e.D} {v : Value} (hs : σ k k') (ho : O' k' = true) (h : OwnR F g w k E e l v) : OwnR F' g' w k' E e l v := by
  have hb := (T.blk k k' hs ho).2
  rcases h with ⟨a, h1, h2, h3⟩ | ⟨b, cap, cur, h1, h2, h3, h4, h5, h6, h7, h8, h9⟩
  · exact .inl ⟨a, h1, h2, hb.trans h3⟩
  · refine .inr ⟨b, cap, cur, h1, hb.trans h2, h3, h4, h5, h6, fun i x hx => by rw [T.C]; exact h7 i x hx, fun o => by rw [T.C]; exact h8 o, fun o hlo => T.wr k k' b o hs ho h2 (fun hc => ?_) (h9 o hlo)⟩
    have := (h8 o).1 hc
    omega
theorem RepL.turn (T : Turn F g O F' g' O' σ) {l l' : Leaf} {cs : List Value} (hs : SameL σ l l') (h : RepL F g w O l cs) : RepL F' g' w O' l' cs := by
  cases hs with
  | d t x =>
    have h' : RepD w g.C t x cs := h
    show RepD w g'.C t x cs
    rw [T.C]; exact h'
  | down k E e l =>
    show RepD w g'.C (.sl e) l cs
    rw [T.C]; exact h.1
  | own k k' E e l hσ =>
    refine ⟨by rw [T.C]; exact h.1, fun ho => ?_⟩
    obtain ⟨v, hv, hr⟩ := h.2 (T.blk k k' hσ ho).1
    exact ⟨v, hv, hr.turn T hσ ho⟩
theorem RepLs.turn (T : Turn F g O F' g' O' σ) {ls ls' : List Leaf} (hs : SameLs σ ls ls') : ∀ {cs : List Value}, RepLs F g w O ls cs → RepLs F' g' w O' ls' cs := by
  induction hs with
  | nil => exact fun h => h
  | cons h _ ih =>
    rintro cs ⟨c1, c2, rfl, h1, h2⟩
    exact ⟨c1, c2, rfl, h1.turn T h, ih h2⟩
theorem RelV.turn (T : Turn F g O F' g' O' σ) {ls ls' : List Leaf} (hs : SameLs σ ls ls') {u : Value} {ag : Bool} (h : RelV F g w O u ag ls) : RelV F' g' w O' u ag ls' :=
  let ⟨cs, h1, h2⟩ := h
  ⟨cs, h1.turn T hs, h2⟩

/-! ### leaves taken and made -/
abbrev Dat := (t : Ty) × t.D
theorem castD_sig {t t' : Ty} {x : t.D} {y : t'.D} (h : castD t' x = some y) : (⟨t, x⟩ : Dat) = ⟨t', y⟩ := by
  obtain ⟨e, he⟩ := castD_some h
  subst e; subst he; rfl
theorem castD_refl {t : Ty} {x y : t.D} (h : castD t x = some y) : x = y := by
  obtain ⟨e, he⟩ := castD_some h
  exact he
theorem teq_refl : ∀ (t : Ty), teq t t = true
  | .int k => by cases k <;> rfl
  | .bool => rfl
  | .str => rfl
  | .flo k => by cases k <;> rfl
  | .err => rfl
  | .un => rfl
  | .sl e => teq_refl e
  | .arr n e => by
    show (Nat.beq n n && teq e e) = true
    rw [teq_refl e]; simp
  | .pr a b => by
    show (teq a a && teq b b) = true
    rw [teq_refl a, teq_refl b]; rfl
theorem castD_self {t : Ty} (x : t.D) : castD t x = some x := by
  unfold castD
  rw [dif_pos (teq_refl t)]
  rfl
theorem takeLeaf_d {O : Tok → Bool} {t : Ty} {l : Leaf} {x : t.D} {k : Tok} (h : takeLeaf O (.d t) l = some (x, k)) : leafD t l = some x ∧ k = .zero := by
  have h' : (leafD t l).map (fun x => (x, Tok.zero)) = some (x, k) := by
    cases l <;> exact h
  obtain ⟨y, hy, he⟩ := Option.map_eq_some_iff.1 h'
  cases he
  exact ⟨hy, rfl⟩
theorem takeLeaf_own {O : Tok → Bool} {E E' : TypeId} {e e' : Ty} {k k' : Tok} {z : List e'.D} {x : (Ty.sl e).D} (h : takeLeaf O (.own E e) (.own k' E' e' z) = some (x, k)) : E = E' ∧ O k' = true ∧ castD (t := .sl e') (.sl e) z = some x ∧ k = k' := by
  have h' : (match Nat.beq E E' && O k' with | true => (castD (t := .sl e') (.sl e) z).map (fun x => (x, k')) | false => none) = some (x, k) := h
  split at h'
  · rename_i hb
    simp only [Bool.and_eq_true] at hb
    obtain ⟨y, hy, he⟩ := Option.map_eq_some_iff.1 h'
    cases he
    exact ⟨Nat.eq_of_beq_eq_true hb.1, hb.2, hy, rfl⟩
  · cases h'
theorem takeLeaf_row {O : Tok → Bool} {e : Ty} {l : Leaf} {x : (Ty.sl e).D} {k : Tok} (h : takeLeaf O (.row e) l = some (x, k)) : k = .zero ∧ ∃ (n : Nat) (z : (Ty.arr n e).D), l = .d (.arr n e) z ∧ x = z := by
  cases l with
  | own _ _ _ _ => cases h
  | d t z =>
    cases t with
    | arr n e' =>
      have h' : (castD (t := .sl e') (.sl e) z).map (fun x => (x, Tok.zero)) = some (x, k) := h
      obtain ⟨y, hy, he⟩ := Option.map_eq_some_iff.1 h'
      cases he
      obtain ⟨e2, he⟩ := castD_some (t := .sl e') (t' := .sl e) hy
      injection e2 with e2
      subst e2
      exact ⟨rfl, n, z, rfl, he.symm⟩
    | _ => cases h
def arrOk : Leaf → Prop
  | .d (.arr n e) x => List.length (α := e.D) x = n
  | _ => True
theorem leaf_arr {F : Fr} {g : Gh} {w : World} {O : Tok → Bool} {l : Leaf} {cs : List Value} (h : RepL F g w O l cs) : arrOk l := by
  cases l with
  | own _ _ _ _ => trivial
  | d t x =>
    cases t with
    | arr n e => exact (show RepD w g.C (.arr n e) x cs from h).1
    | _ => trivial
theorem repLs_arr {F : Fr} {g : Gh} {w : World} {O : Tok → Bool} : ∀ {ls : List Leaf} {cs : List Value}, RepLs F g w O ls cs → ∀ l ∈ ls, arrOk l
  | [], _, _, l, hl => by cases hl
  | y :: ls, cs, h, l, hl => by
    obtain ⟨c1, c2, _, h1, h2⟩ := h
    rcases List.mem_cons.1 hl with rfl | hl
    · exact leaf_arr h1
    · exact repLs_arr h2 l hl
theorem same_row {σ : Tok → Tok → Prop} {n : Nat} {e : Ty} {z : List e.D} (h : z.length = n) : SameL σ (.d (.arr n e) z) (.d (.arr z.length e) z) := by
  subst h
  exact .d (.arr z.length e) z
theorem takeAllN_some {O : Tok → Bool} {ts : List LT} {ls : List Leaf} {r : List Tok × List Dat} (h : takeAllN O ts ls = some r) : takeAll O ts ls = some r ∧ ∀ t ∈ ts, LT.noRow t = true := by
  unfold takeAllN at h
  split at h
  · rename_i hb
    exact ⟨h, fun t ht => List.all_eq_true.1 hb t ht⟩
  · cases h
/-- Which token becomes which. -/
def TokAt (ts : List LT) (ks : List Tok) (lab : Nat → Tok) (j : Nat) (k k' : Tok) : Prop := ∃ i E e, ts[i]? = some (.own E e) ∧ ks[i]? = some k ∧ k' = lab (j + i)
theorem TokAt.succ {t : LT} {ts : List LT} {k0 : Tok} {ks : List Tok} {lab : Nat → Tok} {j : Nat} {k k' : Tok} (h : TokAt ts ks lab (j + 1) k k') : TokAt (t :: ts) (k0 :: ks) lab j k k' := by
  obtain ⟨i, E, e, h1, h2, h3⟩ := h
  exact ⟨i + 1, E, e, by simpa using h1, by simpa using h2, by rw [h3]; congr 1; omega⟩
theorem take_mk {O : Tok → Bool} {lab : Nat → Tok} : ∀ {ts : List LT} {ls ls' : List Leaf} {ks : List Tok} {xs : List Dat} {j : Nat}, (∀ l ∈ ls, arrOk l ∨ ∀ t ∈ ts, LT.noRow t = true) → takeAll O ts ls = some (ks, xs) → mkLs lab ts j xs = some ls' →
    SameLs (fun k k' => TokAt ts ks lab j k k' ∧ O k = true) ls ls' ∧ ks.length = ts.length
  | [], [], ls', ks, xs, j, _, h1, h2 => by
    simp only [takeAll, Option.some.injEq, Prod.mk.injEq] at h1
    obtain ⟨rfl, rfl⟩ := h1
    simp only [mkLs, Option.some.injEq] at h2
    subst h2
    exact ⟨.nil, rfl⟩
  | [], _ :: _, _, _, _, _, _, h1, _ => by cases h1
  | _ :: _, [], _, _, _, _, _, h1, _ => by cases h1
  | t :: ts, l :: ls, ls', ks, xs, j, hA, h1, h2 => by
    have hA' : ∀ y ∈ ls, arrOk y ∨ ∀ t ∈ ts, LT.noRow t = true := fun y hy => (hA y (List.mem_cons_of_mem _ hy)).imp id fun h t ht => h t (List.mem_cons_of_mem _ ht)
    unfold takeAll at h1
    split at h1
    · rename_i x k ks' xs' ht hr
      simp only [Option.some.injEq, Prod.mk.injEq] at h1
      obtain ⟨rfl, rfl⟩ := h1
      cases t with
      | d t =>
        unfold mkLs at h2
        split at h2
        · rename_i a r hx hm
          simp only [Option.some.injEq] at h2
          subst h2
          obtain ⟨i1, i2⟩ := take_mk hA' hr hm
          have hxa : x = a := castD_refl hx
          subst hxa
          refine ⟨.cons ?_ (i1.mono fun k k' h => ⟨h.1.succ, h.2⟩), by simp [i2]⟩
          obtain ⟨hy, rfl⟩ := takeLeaf_d ht
          cases l with
          | d t' z =>
            obtain ⟨e, he⟩ := castD_some (t := t') hy
            subst e
            subst he
            exact .d _ _
          | own k' E' e' z =>
            obtain ⟨e, he⟩ := castD_some (t := .sl e') hy
            subst e
            have he' : z = x := he
            subst he'
            exact .down _ _ _ _
        · cases h2
      | own E e =>
        unfold mkLs at h2
        split at h2
        · rename_i a r hx hm
          simp only [Option.some.injEq] at h2
          subst h2
          obtain ⟨i1, i2⟩ := take_mk hA' hr hm
          have hxa : x = a := castD_refl hx
          subst hxa
          cases l with
          | d t' z => cases ht
          | own k' E' e' z =>
            obtain ⟨rfl, hO, hy, rfl⟩ := takeLeaf_own ht
            obtain ⟨e2, he⟩ := castD_some (t := .sl e') (t' := .sl e) hy
            injection e2 with e2
            subst e2
            have he' : z = x := he
            subst he'
            exact ⟨.cons (.own _ _ _ _ _ ⟨⟨0, E, e', rfl, rfl, rfl⟩, hO⟩) (i1.mono fun k k' h => ⟨h.1.succ, h.2⟩), by simp [i2]⟩
        · cases h2
      | row e =>
        unfold mkLs at h2
        split at h2
        · rename_i a r hx hm
          simp only [Option.some.injEq] at h2
          subst h2
          obtain ⟨i1, i2⟩ := take_mk hA' hr hm
          have hxa : x = a := castD_refl hx
          subst hxa
          obtain ⟨rfl, n, z, rfl, rfl⟩ := takeLeaf_row ht
          refine ⟨.cons ?_ (i1.mono fun k k' h => ⟨h.1.succ, h.2⟩), by simp [i2]⟩
          rcases hA _ (List.mem_cons_self) with h | h
          · exact same_row h
          · have := h _ (List.mem_cons_self)
            cases this
        · cases h2
    · cases h1
theorem mk_mk {lab lab' : Nat → Tok} : ∀ {ts : List LT} {ls ls' : List Leaf} {xs : List Dat} {j : Nat}, mkLs lab ts j xs = some ls → mkLs lab' ts j xs = some ls' →
    SameLs (fun k k' => ∃ i E e, ts[i]? = some (.own E e) ∧ k = lab (j + i) ∧ k' = lab' (j + i)) ls ls'
  | [], ls, ls', [], j, h1, h2 => by
    simp only [mkLs, Option.some.injEq] at h1 h2
    subst h1; subst h2; exact .nil
  | [], _, _, _ :: _, _, h1, _ => by cases h1
  | .d _ :: _, _, _, [], _, h1, _ => by cases h1
  | .own _ _ :: _, _, _, [], _, h1, _ => by cases h1
  | .row _ :: _, _, _, [], _, h1, _ => by cases h1
  | .row e :: ts, ls, ls', x :: xs, j, h1, h2 => by
    unfold mkLs at h1 h2
    split at h1
    · rename_i a r hx hm
      split at h2
      · rename_i a' r' hx' hm'
        simp only [Option.some.injEq] at h1 h2
        subst h1; subst h2
        rw [hx] at hx'
        cases hx'
        exact .cons (.d _ _) ((mk_mk hm hm').mono fun k k' ⟨i, E, e, q1, q2, q3⟩ => ⟨i + 1, E, e, by simpa using q1, by rw [q2]; congr 1; omega, by rw [q3]; congr 1; omega⟩)
      · cases h2
    · cases h1
  | .d t :: ts, ls, ls', x :: xs, j, h1, h2 => by
    unfold mkLs at h1 h2
    split at h1
    · rename_i a r hx hm
      split at h2
      · rename_i a' r' hx' hm'
        simp only [Option.some.injEq] at h1 h2
        subst h1; subst h2
        rw [hx] at hx'
        cases hx'
        exact .cons (.d _ _) ((mk_mk hm hm').mono fun k k' ⟨i, E, e, q1, q2, q3⟩ => ⟨i + 1, E, e, by simpa using q1, by rw [q2]; congr 1; omega, by rw [q3]; congr 1; omega⟩)
      · cases h2
    · cases h1
  | .own E e :: ts, ls, ls', x :: xs, j, h1, h2 => by
    unfold mkLs at h1 h2
    split at h1
    · rename_i a r hx hm
      split at h2
      · rename_i a' r' hx' hm'
        simp only [Option.some.injEq] at h1 h2
        subst h1; subst h2
        rw [hx] at hx'
        cases hx'
        exact .cons (.own _ _ _ _ _ ⟨0, E, e, rfl, rfl, rfl⟩) ((mk_mk hm hm').mono fun k k' ⟨i, E, e, q1, q2, q3⟩ => ⟨i + 1, E, e, by simpa using q1, by rw [q2]; congr 1; omega, by rw [q3]; congr 1; omega⟩)
      · cases h2
    · cases h1
theorem mk_d {lab : Nat → Tok} {ts : List LT} {j : Nat} {xs : List Dat} {ls' : List Leaf} (h : mkLs lab ts (j + 1) xs = some ls') {t : Ty} (x : t.D) : mkLs lab (.d t :: ts) j (⟨t, x⟩ :: xs) = some (.d t x :: ls') := by
  unfold mkLs
  simp only
  rw [castD_self, h]
theorem mk_own {lab : Nat → Tok} {ts : List LT} {j : Nat} {xs : List Dat} {ls' : List Leaf} (h : mkLs lab ts (j + 1) xs = some ls') {E : TypeId} {e : Ty} (x : (Ty.sl e).D) : mkLs lab (.own E e :: ts) j (⟨.sl e, x⟩ :: xs) = some (.own (lab j) E e x :: ls') := by
  unfold mkLs
  simp only
  rw [castD_self, h]
theorem mk_row {lab : Nat → Tok} {ts : List LT} {j : Nat} {xs : List Dat} {ls' : List Leaf} (h : mkLs lab ts (j + 1) xs = some ls') {e : Ty} (x : (Ty.sl e).D) : mkLs lab (.row e :: ts) j (⟨.sl e, x⟩ :: xs) = some (.d (.arr (List.length (α := e.D) x) e) x :: ls') := by
  unfold mkLs
  simp only
  rw [castD_self, h]
/-- What is taken by types can be made again. -/
theorem mk_some {O : Tok → Bool} {lab : Nat → Tok} : ∀ {ts : List LT} {ls : List Leaf} {ks : List Tok} {xs : List Dat} {j : Nat}, takeAll O ts ls = some (ks, xs) → ∃ ls', mkLs lab ts j xs = some ls'
  | [], [], ks, xs, j, h1 => by
    simp only [takeAll, Option.some.injEq, Prod.mk.injEq] at h1
    obtain ⟨rfl, rfl⟩ := h1
    exact ⟨[], rfl⟩
  | [], _ :: _, _, _, _, h1 => by cases h1
  | _ :: _, [], _, _, _, h1 => by cases h1
  | t :: ts, l :: ls, ks, xs, j, h1 => by
    unfold takeAll at h1
    split at h1
    · rename_i x k ks' xs' ht hr
      simp only [Option.some.injEq, Prod.mk.injEq] at h1
      obtain ⟨rfl, rfl⟩ := h1
      obtain ⟨ls', h⟩ := mk_some (lab := lab) (j := j + 1) hr
      cases t with
      | d t => exact ⟨_, mk_d h x⟩
      | own E e => exact ⟨_, mk_own h x⟩
      | row e => exact ⟨_, mk_row h x⟩
    · cases h1
theorem unpack_cons (t u : Ty) (ts : List Ty) (a : t.D) (b : (prs (u :: ts)).D) : unpackD (t :: u :: ts) (show (prs (t :: u :: ts)).D from ((a, b) : t.D × (prs (u :: ts)).D)) = (⟨t, a⟩ : Dat) :: unpackD (u :: ts) b := rfl
theorem pack_cons {t u : Ty} {ts : List Ty} {x : Dat} {xs : List Dat} {y : (prs (t :: u :: ts)).D} (h : packD (t :: u :: ts) (x :: xs) = some y) : ∃ a b, castD t x.2 = some a ∧ packD (u :: ts) xs = some b ∧ y = (show (prs (t :: u :: ts)).D from ((a, b) : t.D × (prs (u :: ts)).D)) := by
  cases xs with
  | nil =>
    have h' : (match castD t x.2, packD (u :: ts) [] with | some a, some b => some (show (prs (t :: u :: ts)).D from ((a, b) : t.D × (prs (u :: ts)).D)) | _, _ => none) = some y := h
    split at h'
    · rename_i a b ha hb
      exact ⟨a, b, ha, hb, (Option.some.inj h').symm⟩
    · cases h'
  | cons z zs =>
    have h' : (match castD t x.2, packD (u :: ts) (z :: zs) with | some a, some b => some (show (prs (t :: u :: ts)).D from ((a, b) : t.D × (prs (u :: ts)).D)) | _, _ => none) = some y := h
    split at h'
    · rename_i a b ha hb
      exact ⟨a, b, ha, hb, (Option.some.inj h').symm⟩
    · cases h'
theorem unpack_pack : ∀ (ts : List Ty) (xs : List Dat) (y : (prs ts).D), packD ts xs = some y → unpackD ts y = xs
  | [], [], y, h => rfl
  | [], _ :: _, y, h => by cases h
  | [t], [x], y, h => by
    have h' : castD t x.2 = some y := h
    have := castD_sig h'
    show [(⟨t, y⟩ : Dat)] = [x]
    rw [← this]
  | [t], [], y, h => by cases h
  | [t], _ :: _ :: _, y, h => by cases h
  | t :: u :: ts, [], y, h => by cases h
  | t :: u :: ts, x :: xs, y, h => by
    obtain ⟨a, b, ha, hb, rfl⟩ := pack_cons h
    rw [unpack_cons, unpack_pack (u :: ts) xs b hb, ← castD_sig ha]
theorem appF_cons {α : Type} (t : Ty) (ts : List Ty) (f : t.D → insT ts (Option α)) (x : Dat) (xs : List Dat) : appF (t :: ts) (show insT (t :: ts) (Option α) from f) (x :: xs) = match castD t x.2 with | some a => appF ts (f a) xs | none => none := rfl
theorem curry_cons {α : Type} (t : Ty) (ts : List Ty) (f : List Dat → Option α) : curryT (t :: ts) f = (show insT (t :: ts) (Option α) from fun a => curryT ts fun xs => f (⟨t, a⟩ :: xs)) := rfl
theorem appF_curry {α : Type} : ∀ (ts : List Ty) (f : List Dat → Option α) (xs : List Dat) (y : α), appF ts (curryT ts f) xs = some y → f xs = some y := by
  intro ts
  induction ts with
  | nil =>
    intro f xs y h
    cases xs with
    | nil => exact h
    | cons _ _ => cases h
  | cons t ts ih =>
    intro f xs y h
    cases xs with
    | nil => cases h
    | cons x xs =>
      rw [curry_cons, appF_cons] at h
      split at h
      · rename_i a ha
        have h2 := ih _ _ _ h
        rw [← castD_sig ha] at h2
        exact h2
      · cases h
theorem labs_mem {lab : Nat → Tok} {k : Tok} : ∀ {ts : List LT} {j : Nat}, k ∈ labs lab ts j ↔ ∃ i E e, ts[i]? = some (.own E e) ∧ k = lab (j + i)
  | [], j => by simp [labs]
  | .d t :: ts, j => by
    show k ∈ labs lab ts (j + 1) ↔ _
    rw [labs_mem]
    constructor
    · rintro ⟨i, E, e, h1, h2⟩; exact ⟨i + 1, E, e, by simpa using h1, by rw [h2]; congr 1; omega⟩
    · rintro ⟨i, E, e, h1, h2⟩
      cases i with
      | zero => simp at h1
      | succ i => exact ⟨i, E, e, by simpa using h1, by rw [h2]; congr 1; omega⟩
  | .row t :: ts, j => by
    show k ∈ labs lab ts (j + 1) ↔ _
    rw [labs_mem]
    constructor
    · rintro ⟨i, E, e, h1, h2⟩; exact ⟨i + 1, E, e, by simpa using h1, by rw [h2]; congr 1; omega⟩
    · rintro ⟨i, E, e, h1, h2⟩
      cases i with
      | zero => simp at h1
      | succ i => exact ⟨i, E, e, by simpa using h1, by rw [h2]; congr 1; omega⟩
  | .own E0 e0 :: ts, j => by
    show k ∈ lab j :: labs lab ts (j + 1) ↔ _
    rw [List.mem_cons, labs_mem]
    constructor
    · rintro (rfl | ⟨i, E, e, h1, h2⟩)
      · exact ⟨0, E0, e0, rfl, rfl⟩
      · exact ⟨i + 1, E, e, by simpa using h1, by rw [h2]; congr 1; omega⟩
    · rintro ⟨i, E, e, h1, h2⟩
      cases i with
      | zero => exact .inl (by rw [h2]; rfl)
      | succ i => exact .inr ⟨i, E, e, by simpa using h1, by rw [h2]; congr 1; omega⟩
theorem distinct_at : ∀ {ks : List Tok} {i j : Nat} {k : Tok}, distinctT ks = true → ks[i]? = some k → ks[j]? = some k → k ≠ .zero → i = j
  | [], i, j, k, _, h1, _, _ => by simp at h1
  | t :: ks, i, j, k, hd, h1, h2, hk => by
    have hr : distinctT ks = true := by cases t <;> simp [distinctT] at hd <;> first | exact hd | exact hd.2
    have hnot : t ≠ .zero → t ∉ ks := fun hz hm => by
      cases t with
      | zero => exact hz rfl
      | op a b => simp [distinctT] at hd; rw [hasT_iff.2 hm] at hd; simp at hd
      | hd a b => simp [distinctT] at hd; rw [hasT_iff.2 hm] at hd; simp at hd
    cases i with
    | zero =>
      cases j with
      | zero => rfl
      | succ j =>
        simp at h1 h2
        subst h1
        exact (hnot hk (List.mem_of_getElem? h2)).elim
    | succ i =>
      cases j with
      | zero =>
        simp at h1 h2
        subst h2
        exact (hnot hk (List.mem_of_getElem? h1)).elim
      | succ j =>
        have := distinct_at hr (by simpa using h1) (by simpa using h2) hk
        omega
end
end Pv
end Go.Proofs.Ytgcgdfjldeihkaa
