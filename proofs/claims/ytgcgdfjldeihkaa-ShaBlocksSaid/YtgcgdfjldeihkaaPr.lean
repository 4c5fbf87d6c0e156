/- Pure evaluation of the model's code: what plain data are in the machine's memory. -/
import Derived.Test.YtgcgdfjldeihkaaPw
import Derived.Laws.Rows
import Derived.Laws.AppendOwn
namespace Go.Proofs.Ytgcgdfjldeihkaa
namespace Pv
set_option linter.unusedVariables false

abbrev Com := Nat → Nat → Prop
abbrev gt {α : Type} (l : List α) (i : Nat) : Option α := l[i]?
def one : Value → Bool
  | .agg _ | .tuple _ => false
  | _ => true
def RepD (w : World) (C : Com) : (t : Ty) → t.D → List Value → Prop
  | .int k, n, cs => cs = [.int k n] ∧ (Lit.int k n).wf = true
  | .bool, b, cs => cs = [.bool b]
  | .str, l, cs => ∃ s : ByteArray, cs = [.string s] ∧ bytesL s = l ∧ s.size ≤ maxLen
  | .flo k, q, cs => cs = [.float k q]
  | .err, b, cs => ∃ u, cs = [u] ∧ (((b : Bool) = false ∧ u = .nilIface) ∨ ((b : Bool) = true ∧ ∃ t v, u = .iface t v))
  | .un, _, cs => cs = []
  | .sl e, l, cs => ∃ a n c, cs = [.slice a n c] ∧ List.length l = n ∧ n ≤ c ∧ c ≤ maxLen ∧ ∀ (i : Nat) (x : e.D), gt (α := e.D) l i = some x →
      ∃ ad us, a = some ad ∧ us.length = e.size ∧ (∀ j u, us[j]? = some u → w.cell? (ad.add (i * e.size + j)) = some u ∧ C ad.block (ad.off + (i * e.size + j))) ∧ RepD w C e x us
  | .arr n e, l, cs => List.length l = n ∧ cs.length = n * e.size ∧ ∀ (i : Nat) (x : e.D), gt (α := e.D) l i = some x → RepD w C e x ((cs.drop (i * e.size)).take e.size)
  | .pr a b, x, cs => ∃ c1 c2, cs = c1 ++ c2 ∧ RepD w C a x.1 c1 ∧ RepD w C b x.2 c2
/-- What is committed stays. -/
def Gw (w : World) (C : Com) (w' : World) (C' : Com) : Prop := ∀ (a : Addr) (u : Value), w.cell? a = some u → C a.block a.off → w'.cell? a = some u ∧ C' a.block a.off
theorem Gw.refl (w : World) (C : Com) : Gw w C w C := fun _ _ h k => ⟨h, k⟩
theorem Gw.trans {w w1 w2 : World} {C C1 C2 : Com} (h : Gw w C w1 C1) (k : Gw w1 C1 w2 C2) : Gw w C w2 C2 := fun a u x y => k a u (h a u x y).1 (h a u x y).2
theorem add_block (a : Addr) (k : Nat) : (a.add k).block = a.block := by unfold Addr.add; split <;> rfl
theorem add_off (a : Addr) (k : Nat) : (a.add k).off = a.off + k := by unfold Addr.add; split <;> simp_all
theorem RepD.gw {w w' : World} {C C' : Com} (G : Gw w C w' C') : ∀ {t : Ty} {x : t.D} {cs : List Value}, RepD w C t x cs → RepD w' C' t x cs
  | .int _, _, _, h => h
  | .bool, _, _, h => h
  | .str, _, _, h => h
  | .flo _, _, _, h => h
  | .err, _, _, h => h
  | .un, _, _, h => h
  | .sl e, l, cs, h => by
    obtain ⟨a, n, c, h1, h2, h3, h4, h5⟩ := h
    refine ⟨a, n, c, h1, h2, h3, h4, fun i x hx => ?_⟩
    obtain ⟨ad, us, e1, e2, e3, e4⟩ := h5 i x hx
    refine ⟨ad, us, e1, e2, fun j u hu => ?_, RepD.gw G e4⟩
    obtain ⟨g1, g2⟩ := e3 j u hu
    have := G _ u g1 (by rw [add_block, add_off]; exact g2)
    rw [add_block, add_off] at this
    exact this
  | .arr n e, l, cs, h => ⟨h.1, h.2.1, fun i x hx => RepD.gw G (h.2.2 i x hx)⟩
  | .pr a b, x, cs, h => by
    obtain ⟨c1, c2, h1, h2, h3⟩ := h
    exact ⟨c1, c2, h1, RepD.gw G h2, RepD.gw G h3⟩
theorem RepD.len {w : World} {C : Com} : ∀ {t : Ty} {x : t.D} {cs : List Value}, RepD w C t x cs → cs.length = t.size
  | .int _, _, _, h => by rw [h.1]; rfl
  | .bool, _, _, h => by have : _ = _ := h; rw [this]; rfl
  | .str, _, _, h => by obtain ⟨s, h1, _⟩ := h; rw [h1]; rfl
  | .flo _, _, _, h => by have : _ = _ := h; rw [this]; rfl
  | .err, _, _, h => by obtain ⟨s, h1, _⟩ := h; rw [h1]; rfl
  | .un, _, _, h => by have : _ = _ := h; rw [this]; rfl
  | .sl e, _, _, h => by obtain ⟨a, n, c, h1, _⟩ := h; rw [h1]; rfl
  | .arr n e, _, _, h => h.2.1
  | .pr a b, _, _, h => by obtain ⟨c1, c2, h1, h2, h3⟩ := h; rw [h1, List.length_append, RepD.len h2, RepD.len h3]; rfl
/-- Each cell holds one cell. -/
theorem RepD.one {w : World} {C : Com} : ∀ {t : Ty} {x : t.D} {cs : List Value}, RepD w C t x cs → cs.all Pv.one = true
  | .int _, _, _, h => by rw [h.1]; rfl
  | .bool, _, _, h => by have : _ = _ := h; rw [this]; rfl
  | .str, _, _, h => by obtain ⟨s, h1, _⟩ := h; rw [h1]; rfl
  | .flo _, _, _, h => by have : _ = _ := h; rw [this]; rfl
  | .err, _, _, h => by
    obtain ⟨s, h1, h3⟩ := h
    rw [h1]
    rcases h3 with ⟨_, rfl⟩ | ⟨_, t, v, rfl⟩ <;> rfl
  | .un, _, _, h => by have : _ = _ := h; rw [this]; rfl
  | .sl e, _, _, h => by obtain ⟨a, n, c, h1, _⟩ := h; rw [h1]; rfl
  | .arr n e, l, cs, h => by
    obtain ⟨h1, h2, h3⟩ := h
    rw [List.all_eq_true]
    intro v hv
    obtain ⟨j, hj, rfl⟩ := List.mem_iff_getElem.1 hv
    rcases Nat.eq_zero_or_pos e.size with hz | hp
    · rw [h2, hz] at hj; omega
    have hlt : j / e.size < n := Nat.div_lt_of_lt_mul (by rw [Nat.mul_comm]; omega)
    obtain ⟨x, hget⟩ : ∃ x, gt (α := e.D) l (j / e.size) = some x := ⟨_, List.getElem?_eq_getElem (by have : List.length (α := e.D) l = n := h1; omega)⟩
    have h4 := RepD.one (h3 _ _ hget)
    rw [List.all_eq_true] at h4
    refine h4 _ (List.mem_iff_getElem?.2 ⟨j % e.size, ?_⟩)
    rw [List.getElem?_take, if_pos (Nat.mod_lt _ hp), List.getElem?_drop, Nat.div_add_mod' j e.size]
    simp
  | .pr a b, _, _, h => by obtain ⟨c1, c2, h1, h2, h3⟩ := h; rw [h1, List.all_append, RepD.one h2, RepD.one h3]; rfl
theorem RepD.zero {w : World} {C : Com} : ∀ {t : Ty} {cs : List Value}, zeroC t cs = true → RepD w C t (zeroD t) cs
  | .int k, cs, h => by
    rcases cs with _ | ⟨v, _ | ⟨u, r⟩⟩
    · cases h
    · cases v <;> try (cases h; done)
      rename_i k' n
      cases n with
      | negSucc m =>
        have h' : (ikEq k k' && false) = true := h
        simp at h'
      | ofNat m => cases m with
        | succ m =>
          have h' : (ikEq k k' && false) = true := h
          simp at h'
        | zero =>
          have h' : (ikEq k k' && true) = true := h
          rw [Bool.and_eq_true] at h'
          have := ikEq_eq h'.1
          subst this
          exact ⟨rfl, by cases k <;> rfl⟩
    · cases v <;> cases h
  | .bool, cs, h => by unfold zeroC at h; split at h <;> simp_all; rfl
  | .str, cs, h => by
    rcases cs with _ | ⟨v, _ | ⟨u, r⟩⟩
    · cases h
    · cases v <;> try (cases h; done)
      rename_i s
      have h' : Nat.beq s.size 0 = true := h
      have hz : s.size = 0 := Nat.eq_of_beq_eq_true h'
      refine ⟨s, rfl, ?_, by omega⟩
      have : s.data.toList = [] := List.eq_nil_of_length_eq_zero (by simpa using hz)
      simp [bytesL, this, zeroD]
    · cases v <;> cases h
  | .flo k, cs, h => by
    rcases cs with _ | ⟨v, _ | ⟨u, r⟩⟩
    · cases h
    · cases v <;> try (cases h; done)
      rename_i k' n
      have h' : (fkEq k k' && Nat.beq n 0) = true := h
      rw [Bool.and_eq_true] at h'
      have := fkEq_eq h'.1
      subst this
      rw [Nat.eq_of_beq_eq_true h'.2]
      rfl
    · cases v <;> cases h
  | .err, cs, h => by unfold zeroC at h; split at h <;> simp_all; exact ⟨_, rfl, .inl ⟨rfl, rfl⟩⟩
  | .un, cs, h => by unfold zeroC at h; split at h <;> simp_all; rfl
  | .sl e, cs, h => by
    unfold zeroC at h; split at h <;> simp_all
    exact ⟨none, 0, 0, rfl, rfl, Nat.le_refl _, by unfold maxLen; omega, fun i x hx => by simp [zeroD] at hx⟩
  | .arr n e, cs, h => by
    unfold zeroC at h
    simp only [Bool.and_eq_true] at h
    refine ⟨by simp [zeroD], by simpa using h.1, fun i x hx => ?_⟩
    have hx' : (List.replicate n (zeroD e))[i]? = some x := hx
    rw [List.getElem?_replicate] at hx'
    split at hx'
    · rename_i hlt
      cases hx'
      exact RepD.zero (List.all_eq_true.1 h.2 i (by simpa using hlt))
    · cases hx'
  | .pr a b, cs, h => by
    unfold zeroC at h
    simp only [Bool.and_eq_true] at h
    exact ⟨_, _, (List.take_append_drop a.size cs).symm, RepD.zero h.1, RepD.zero h.2⟩

/-! ### a call's frame -/
structure Fr where
  n : Nat
  w0 : World
  C0 : Com
  X : Com
structure Gh where
  C : Com
  blk : Tok → Option Nat
  ρ : Nat → Nat × Nat
  H : Nat → Nat → List Leaf
def Wr (F : Fr) (b o : Nat) : Prop := F.w0.heap.size ≤ b ∨ F.X b o
structure Frame (F : Fr) (C : Com) (w : World) : Prop where
  size : F.w0.heap.size ≤ w.heap.size
  os : w.os = F.w0.os
  tape : w.tape = F.w0.tape
  output : w.output = F.w0.output
  old : ∀ b, b < F.w0.heap.size → (∀ o, ¬ F.X b o) → w.heap[b]? = F.w0.heap[b]?
  shape : ∀ b cs T fr, b < F.w0.heap.size → F.w0.heap[b]? = some (.cells cs T fr) → ∃ cs' fr', w.heap[b]? = some (.cells cs' T fr') ∧ cs'.size = cs.size ∧ ∀ o, ¬ F.X b o → cs'[o]? = cs[o]?
  com : ∀ b o, b < F.w0.heap.size → ¬ F.X b o → (C b o ↔ F.C0 b o)
  mono : ∀ b o, F.C0 b o → C b o
  lim : ∀ b o, C b o → b < w.heap.size
/-- A row of the call's own: it may grow. -/
def OwnR (F : Fr) (g : Gh) (w : World) (k : Tok) (E : TypeId) (e : Ty) (l : List e.D) (v : Value) : Prop :=
  (∃ a, v = .slice a 0 0 ∧ l = [] ∧ g.blk k = none) ∨
  ∃ b cap cur, v = .slice (some ⟨b, 0, none⟩) l.length cap ∧ g.blk k = some b ∧ w.heap[b]? = some (.cells cur E (0, 0)) ∧ l.length ≤ cap ∧ cap ≤ maxLen ∧ cur.size = cap * e.size ∧
    (∀ (i : Nat) (x : e.D), l[i]? = some x → RepD w g.C e x ((cur.toList.drop (i * e.size)).take e.size)) ∧ (∀ o, g.C b o ↔ o < l.length * e.size) ∧ ∀ o, l.length * e.size ≤ o → Wr F b o
def RepL (F : Fr) (g : Gh) (w : World) (O : Tok → Bool) : Leaf → List Value → Prop
  | .d t x, cs => RepD w g.C t x cs
  | .own k E e l, cs => RepD w g.C (.sl e) l cs ∧ (O k = true → ∃ v, cs = [v] ∧ OwnR F g w k E e l v)
def RepLs (F : Fr) (g : Gh) (w : World) (O : Tok → Bool) : List Leaf → List Value → Prop
  | [], cs => cs = []
  | l :: ls, cs => ∃ c1 c2, cs = c1 ++ c2 ∧ RepL F g w O l c1 ∧ RepLs F g w O ls c2
def RelV (F : Fr) (g : Gh) (w : World) (O : Tok → Bool) (u : Value) (ag : Bool) (ls : List Leaf) : Prop :=
  ∃ cs, RepLs F g w O ls cs ∧ match ag with | true => u = .agg ⟨cs⟩ | false => cs = [u]
def RelT (F : Fr) (g : Gh) (w : World) (O : Tok → Bool) : List Value → List (Bool × List Leaf) → Prop
  | [], [] => True
  | u :: us, x :: xs => RelV F g w O u x.1 x.2 ∧ RelT F g w O us xs
  | _, _ => False
def RelP (F : Fr) (g : Gh) (w : World) (O : Tok → Bool) (tmf : Nat → Value) (u : Value) : PV → Prop
  | .w ag ls => RelV F g w O u ag ls
  | .tup xs => ∃ us, u = .tuple ⟨us⟩ ∧ RelT F g w O us xs
  | .loc k off => u = .pointer (some ⟨(g.ρ k).1, (g.ρ k).2 + off, none⟩)
  | .locE k off e j s => 0 ≤ j ∧ u = .pointer (some ⟨(g.ρ k).1, (g.ρ k).2 + off + j.toNat * e.size + s, none⟩)
  | .row k n t => ∃ cap, u = .slice (some ⟨(g.ρ k).1, (g.ρ k).2, none⟩) n cap ∧ n ≤ cap ∧ cap ≤ maxLen ∧ (t = true → cap = n)
  | .elem ls => ∃ ad cs, u = .pointer (some ad) ∧ RepLs F g w O ls cs ∧ (∀ l ∈ ls, isD l = true) ∧ ∀ j x, cs[j]? = some x → w.cell? (ad.add j) = some x ∧ g.C ad.block (ad.off + j)
  | .raw v => u = v
  | .spec t want ag ls => ∃ b, tmf t = .bool b ∧ (b = want → RelV F g w O u ag ls) ∧ (b ≠ want → u = undef)
  | .dead => True
/-- A cell that is not frozen. -/
def Thaw (f : Nat × Nat) (o : Nat) : Prop := o < f.1 ∨ f.2 ≤ o
def LocOk (F : Fr) (g : Gh) (w : World) (O : Tok → Bool) (ls : List Leaf) (p : Nat × Nat) : Prop :=
  ∃ (cur : Array Value) (T : TypeId × (Nat × Nat)), w.heap[p.1]? = some (.cells cur T.1 T.2) ∧ p.2 + sizeLs ls ≤ cur.size ∧ RepLs F g w O ls ((cur.toList.drop p.2).take (sizeLs ls)) ∧ (∀ o, p.2 ≤ o → o < p.2 + sizeLs ls → ¬ g.C p.1 o ∧ Wr F p.1 o) ∧ ∀ o, o < p.2 + sizeLs ls → Thaw T.2 o
structure MRel (F : Fr) (g : Gh) (st : PSt) (tmf : Nat → Value) (w : World) : Prop where
  fr : Frame F g.C w
  slots : ∀ i, RelP F g w st.O tmf (tmf i) (st.φ i)
  locals : ∀ k σ ls, st.L k = some (σ, ls) → LocOk F g w st.O ls (g.ρ k)
  hist : ∀ k σ ls, st.L k = some (σ, ls) → σ ≠ 0 → g.H k σ = ls ∧ ∀ l ∈ ls, isD l = true
  kn : ∀ t b, knows st.kn t = some b → tmf t = .bool b
  sp : ∀ i t want ag ls, st.φ i = .spec t want ag ls → hasN st.sp t = true
  fresh : ∀ d, hasN st.fr d = true → (∀ i, mentP d (st.φ i) = false) ∧ (∀ k σ ls, st.L k = some (σ, ls) → mentLs d ls = false) ∧ (∀ j, st.O (.op d j) = false) ∧ st.L d = none
  locL : ∀ i k, k ∈ keyP (st.φ i) → (st.L k).isSome = true
  blk0 : g.blk .zero = none
  blkI : ∀ k k' b, st.O k = true → st.O k' = true → g.blk k = some b → g.blk k' = some b → k = k'
  blkL : ∀ k b j x, st.O k = true → g.blk k = some b → st.L j = some x → (g.ρ j).1 ≠ b
  blkS : ∀ k b, st.O k = true → g.blk k = some b → b < w.heap.size
  blkW : ∀ k b, st.O k = true → g.blk k = some b → F.w0.heap.size ≤ b ∨ ∃ o, F.X b o
  ρI : ∀ j j' x x', st.L j = some x → st.L j' = some x' → (g.ρ j).1 = (g.ρ j').1 → j = j'

/-! ### leaves -/
section
variable {F : Fr} {g g' : Gh} {w w' : World} {O O' : Tok → Bool}
theorem leaf_len {l : Leaf} {cs : List Value} (h : RepL F g w O l cs) : cs.length = l.size := by
  cases l with
  | d t x => exact RepD.len h
  | own k E e l => exact RepD.len h.1
theorem repLs_len : ∀ {ls : List Leaf} {cs : List Value}, RepLs F g w O ls cs → cs.length = sizeLs ls
  | [], cs, h => by have : cs = [] := h; rw [this]; rfl
  | l :: ls, cs, h => by obtain ⟨c1, c2, rfl, h1, h2⟩ := h; rw [List.length_append, leaf_len h1, repLs_len h2]; rfl
theorem leaf_one {l : Leaf} {cs : List Value} (h : RepL F g w O l cs) : cs.all one = true := by
  cases l with
  | d t x => exact RepD.one h
  | own k E e l => exact RepD.one h.1
theorem repLs_one : ∀ {ls : List Leaf} {cs : List Value}, RepLs F g w O ls cs → cs.all one = true
  | [], cs, h => by have : cs = [] := h; rw [this]; rfl
  | l :: ls, cs, h => by obtain ⟨c1, c2, rfl, h1, h2⟩ := h; rw [List.all_append, leaf_one h1, repLs_one h2]; rfl
theorem repLs_append : ∀ {ls ms : List Leaf} {cs ds : List Value}, RepLs F g w O ls cs → RepLs F g w O ms ds → RepLs F g w O (ls ++ ms) (cs ++ ds)
  | [], ms, cs, ds, h, k => by have : cs = [] := h; rw [this]; exact k
  | l :: ls, ms, cs, ds, h, k => by
    obtain ⟨c1, c2, rfl, h1, h2⟩ := h
    exact ⟨c1, c2 ++ ds, by simp, h1, repLs_append h2 k⟩
theorem repLs_split : ∀ {ls ms : List Leaf} {cs : List Value}, RepLs F g w O (ls ++ ms) cs → ∃ c1 c2, cs = c1 ++ c2 ∧ RepLs F g w O ls c1 ∧ RepLs F g w O ms c2
  | [], ms, cs, h => ⟨[], cs, rfl, rfl, h⟩
  | l :: ls, ms, cs, h => by
    obtain ⟨c1, c2, rfl, h1, h2⟩ := h
    obtain ⟨c3, c4, rfl, h3, h4⟩ := repLs_split h2
    exact ⟨c1 ++ c3, c4, by simp, ⟨c1, c3, rfl, h1, h3⟩, h4⟩
theorem repLs_single {l : Leaf} {cs : List Value} : RepLs F g w O [l] cs ↔ RepL F g w O l cs := by
  constructor
  · rintro ⟨c1, c2, rfl, h1, h2⟩
    have : c2 = [] := h2
    rw [this, List.append_nil]; exact h1
  · exact fun h => ⟨cs, [], by simp, h, rfl⟩
theorem splitLs_some : ∀ {ls : List Leaf} {n : Nat} {a b : List Leaf}, splitLs ls n = some (a, b) → ls = a ++ b ∧ sizeLs a = n
  | ls, 0, a, b, h => by
    have h' : some (([] : List Leaf), ls) = some (a, b) := by unfold splitLs at h; exact h
    simp only [Option.some.injEq, Prod.mk.injEq] at h'
    obtain ⟨rfl, rfl⟩ := h'
    exact ⟨rfl, rfl⟩
  | [], n + 1, a, b, h => by simp [splitLs] at h
  | l :: ls, n + 1, a, b, h => by
    unfold splitLs at h
    split at h
    · rename_i hb
      simp only [Option.map_eq_some_iff] at h
      obtain ⟨⟨p, q⟩, hp, he⟩ := h
      simp only [Prod.mk.injEq] at he
      obtain ⟨rfl, rfl⟩ := he
      obtain ⟨h1, h2⟩ := splitLs_some hp
      have hle : l.size ≤ n + 1 := by simpa using hb
      exact ⟨by rw [h1]; rfl, by unfold sizeLs; omega⟩
    · cases h
theorem repLs_flat : ∀ {t : Ty} {x : t.D} {cs : List Value}, RepD w g.C t x cs → RepLs F g w O (flat t x) cs
  | .pr a b, x, cs, h => by
    obtain ⟨c1, c2, rfl, h1, h2⟩ := h
    exact repLs_append (repLs_flat h1) (repLs_flat h2)
  | .un, _, cs, h => h
  | .int _, _, cs, h => repLs_single.2 h
  | .bool, _, cs, h => repLs_single.2 h
  | .str, _, cs, h => repLs_single.2 h
  | .flo _, _, cs, h => repLs_single.2 h
  | .err, _, cs, h => repLs_single.2 h
  | .sl _, _, cs, h => repLs_single.2 h
  | .arr _ _, _, cs, h => repLs_single.2 h
theorem castD_some {t t' : Ty} {x : t.D} {y : t'.D} (h : castD t' x = some y) : ∃ e : t = t', e ▸ x = y := by
  unfold castD at h
  split at h
  · rename_i e
    have e' := teq_eq e
    subst e'
    exact ⟨rfl, by simpa using h⟩
  · cases h
theorem leafD_rep {t : Ty} {l : Leaf} {x : t.D} {cs : List Value} (h : leafD t l = some x) (hr : RepL F g w O l cs) : RepD w g.C t x cs := by
  cases l with
  | d t' y =>
    obtain ⟨e, he⟩ := castD_some h
    subst e; subst he; exact hr
  | own k E e l =>
    obtain ⟨e', he⟩ := castD_some (t := .sl e) h
    subst e'; subst he; exact hr.1
theorem unflat_one {t : Ty} {ls r : List Leaf} {x : t.D} {cs : List Value} (h : (∃ l ls', ls = l :: ls' ∧ (leafD t l).map (fun x => (x, ls')) = some (x, r))) (hr : RepLs F g w O ls cs) : ∃ c1 c2, cs = c1 ++ c2 ∧ RepD w g.C t x c1 ∧ RepLs F g w O r c2 := by
  obtain ⟨l, ls', rfl, h⟩ := h
  simp only [Option.map_eq_some_iff, Prod.mk.injEq] at h
  obtain ⟨y, hy, rfl, rfl⟩ := h
  obtain ⟨c1, c2, rfl, h1, h2⟩ := hr
  exact ⟨c1, c2, rfl, leafD_rep hy h1, h2⟩
theorem unflat_rep : ∀ {t : Ty} {ls r : List Leaf} {x : t.D} {cs : List Value}, unflat t ls = some (x, r) → RepLs F g w O ls cs → ∃ c1 c2, cs = c1 ++ c2 ∧ RepD w g.C t x c1 ∧ RepLs F g w O r c2
  | .pr a b, ls, r, x, cs, h, hr => by
    unfold unflat at h
    obtain ⟨⟨p, ps⟩, hp, h⟩ := Option.bind_eq_some_iff.1 h
    simp only [Option.map_eq_some_iff] at h
    obtain ⟨⟨q, qs⟩, hq, he⟩ := h
    obtain ⟨rfl, rfl⟩ := Prod.mk.inj he
    obtain ⟨c1, c2, rfl, h1, h2⟩ := unflat_rep hp hr
    obtain ⟨c3, c4, rfl, h3, h4⟩ := unflat_rep hq h2
    exact ⟨c1 ++ c3, c4, by simp, ⟨c1, c3, rfl, h1, h3⟩, h4⟩
  | .un, ls, r, x, cs, h, hr => by
    simp only [unflat, Option.some.injEq] at h
    obtain ⟨_, rfl⟩ := Prod.mk.inj h
    exact ⟨[], cs, rfl, rfl, hr⟩
  | .int k, ls, r, x, cs, h, hr => by
    cases ls with
    | nil => cases h
    | cons l ls => exact unflat_one ⟨l, ls, rfl, h⟩ hr
  | .bool, ls, r, x, cs, h, hr => by
    cases ls with
    | nil => cases h
    | cons l ls => exact unflat_one ⟨l, ls, rfl, h⟩ hr
  | .str, ls, r, x, cs, h, hr => by
    cases ls with
    | nil => cases h
    | cons l ls => exact unflat_one ⟨l, ls, rfl, h⟩ hr
  | .flo k, ls, r, x, cs, h, hr => by
    cases ls with
    | nil => cases h
    | cons l ls => exact unflat_one ⟨l, ls, rfl, h⟩ hr
  | .err, ls, r, x, cs, h, hr => by
    cases ls with
    | nil => cases h
    | cons l ls => exact unflat_one ⟨l, ls, rfl, h⟩ hr
  | .sl e, ls, r, x, cs, h, hr => by
    cases ls with
    | nil => cases h
    | cons l ls => exact unflat_one ⟨l, ls, rfl, h⟩ hr
  | .arr n e, ls, r, x, cs, h, hr => by
    cases ls with
    | nil => cases h
    | cons l ls => exact unflat_one ⟨l, ls, rfl, h⟩ hr
theorem unflatAll_rep {t : Ty} {ls : List Leaf} {x : t.D} {cs : List Value} (h : unflatAll t ls = some x) (hr : RepLs F g w O ls cs) : RepD w g.C t x cs := by
  unfold unflatAll at h
  obtain ⟨⟨p, r⟩, hp, h⟩ := Option.bind_eq_some_iff.1 h
  obtain ⟨c1, c2, rfl, h1, h2⟩ := unflat_rep hp hr
  cases r with
  | nil =>
    simp only [Option.some.injEq] at h
    subst h
    have : c2 = [] := h2
    rw [this, List.append_nil]; exact h1
  | cons _ _ => cases h
theorem slP_rep {tmf : Nat → Value} {u : Value} {p : PV} {e : Ty} {l : List e.D} (h : slP p = some ⟨e, l⟩) (hr : RelP F g w O tmf u p) : RepD w g.C (.sl e) l [u] := by
  unfold slP at h
  split at h
  · rename_i e' l'
    injection h with h
    cases h
    obtain ⟨cs, h1, rfl⟩ := hr
    exact repLs_single.1 h1
  · rename_i k E e' l'
    injection h with h
    cases h
    obtain ⟨cs, h1, rfl⟩ := hr
    exact (repLs_single.1 h1).1
  · cases h

/-! ### the same in a later world -/
def Kp (g : Gh) (w : World) (g' : Gh) (w' : World) (b : Nat) : Prop := w'.heap[b]? = w.heap[b]? ∧ ∀ o, g'.C b o ↔ g.C b o
theorem OwnR.gw {k : Tok} {E : TypeId} {e : Ty} {l : List e.D} {v : Value} (h : OwnR F g w k E e l v) (G : Gw w g.C w' g'.C) (hb : g'.blk k = g.blk k) (hk : ∀ b, g.blk k = some b → Kp g w g' w' b) : OwnR F g' w' k E e l v := by
  rcases h with ⟨a, h1, h2, h3⟩ | ⟨b, cap, cur, h1, h2, h3, h4, h5, h6, h7, h8, h9⟩
  · exact .inl ⟨a, h1, h2, hb.trans h3⟩
  · obtain ⟨k1, k2⟩ := hk b h2
    exact .inr ⟨b, cap, cur, h1, hb.trans h2, k1.trans h3, h4, h5, h6, fun i x hx => (h7 i x hx).gw G, fun o => (k2 o).trans (h8 o), h9⟩
def Lives (g : Gh) (w : World) (O : Tok → Bool) (g' : Gh) (w' : World) (O' : Tok → Bool) (k : Tok) : Prop := O' k = true → O k = true ∧ g'.blk k = g.blk k ∧ ∀ b, g.blk k = some b → Kp g w g' w' b
theorem RepL.gw {l : Leaf} {cs : List Value} (h : RepL F g w O l cs) (G : Gw w g.C w' g'.C) (hk : ∀ k E e x, l = .own k E e x → Lives g w O g' w' O' k) : RepL F g' w' O' l cs := by
  cases l with
  | d t x => exact RepD.gw G h
  | own k E e l =>
    refine ⟨RepD.gw G h.1, fun ho => ?_⟩
    obtain ⟨h1, h2, h3⟩ := hk k E e l rfl ho
    obtain ⟨v, hv, hr⟩ := h.2 h1
    exact ⟨v, hv, hr.gw G h2 h3⟩
theorem RepLs.gw : ∀ {ls : List Leaf} {cs : List Value}, RepLs F g w O ls cs → Gw w g.C w' g'.C → (∀ k E e x, Leaf.own k E e x ∈ ls → Lives g w O g' w' O' k) → RepLs F g' w' O' ls cs
  | [], cs, h, G, hk => h
  | l :: ls, cs, h, G, hk => by
    obtain ⟨c1, c2, rfl, h1, h2⟩ := h
    exact ⟨c1, c2, rfl, h1.gw G fun k E e x he => hk k E e x (by rw [he]; simp), RepLs.gw h2 G fun k E e x he => hk k E e x (List.mem_cons_of_mem _ he)⟩
theorem RelV.gw {u : Value} {ag : Bool} {ls : List Leaf} (h : RelV F g w O u ag ls) (G : Gw w g.C w' g'.C) (hk : ∀ k E e x, Leaf.own k E e x ∈ ls → Lives g w O g' w' O' k) : RelV F g' w' O' u ag ls :=
  let ⟨cs, h1, h2⟩ := h
  ⟨cs, h1.gw G hk, h2⟩
theorem RelT.gw : ∀ {us : List Value} {xs : List (Bool × List Leaf)}, RelT F g w O us xs → Gw w g.C w' g'.C → (∀ k E e x, (∃ y ∈ xs, Leaf.own k E e x ∈ y.2) → Lives g w O g' w' O' k) → RelT F g' w' O' us xs
  | [], [], _, _, _ => trivial
  | u :: us, y :: xs, h, G, hk => ⟨h.1.gw G fun k E e x he => hk k E e x ⟨y, by simp, he⟩, RelT.gw h.2 G fun k E e x ⟨z, hz, he⟩ => hk k E e x ⟨z, List.mem_cons_of_mem _ hz, he⟩⟩
  | [], _ :: _, h, _, _ => h.elim
  | _ :: _, [], h, _, _ => h.elim
/-- A token that a value speaks of. -/
def tokIn (k : Tok) : PV → Prop
  | .w _ ls => ∃ E e x, Leaf.own k E e x ∈ ls
  | .tup xs => ∃ E e x, ∃ y ∈ xs, Leaf.own k E e x ∈ y.2
  | .spec _ _ _ ls => ∃ E e x, Leaf.own k E e x ∈ ls
  | _ => False
theorem RelP.gw {tmf tmf' : Nat → Value} {u : Value} {p : PV} (h : RelP F g w O tmf u p) (G : Gw w g.C w' g'.C) (hk : ∀ k, tokIn k p → Lives g w O g' w' O' k) (hρ : ∀ k, k ∈ keyP p → g'.ρ k = g.ρ k)
    (ht : ∀ t want ag ls, p = .spec t want ag ls → tmf' t = tmf t) : RelP F g' w' O' tmf' u p := by
  cases p with
  | w ag ls => exact RelV.gw h G fun k E e x he => hk k ⟨E, e, x, he⟩
  | tup xs =>
    obtain ⟨us, h1, h2⟩ := h
    exact ⟨us, h1, h2.gw G fun k E e x he => hk k ⟨E, e, x, he⟩⟩
  | loc k off =>
    have := hρ k (by simp [keyP])
    show u = _
    rw [this]; exact h
  | locE k off e j s =>
    have := hρ k (by simp [keyP])
    refine ⟨h.1, ?_⟩
    rw [this]; exact h.2
  | row k n t =>
    have := hρ k (by simp [keyP])
    obtain ⟨cap, h1, h2⟩ := h
    refine ⟨cap, ?_, h2⟩
    rw [this]; exact h1
  | elem ls =>
    obtain ⟨ad, cs, h1, h2, h4, h3⟩ := h
    refine ⟨ad, cs, h1, h2.gw G fun k E e x hx => ?_, h4, fun j x hx => ?_⟩
    · have := h4 _ hx
      cases this
    obtain ⟨g1, g2⟩ := h3 j x hx
    have := G _ x g1 (by rw [add_block, add_off]; exact g2)
    rw [add_block, add_off] at this
    exact this
  | raw v => exact h
  | spec t want ag ls =>
    obtain ⟨b, h1, h2, h3⟩ := h
    exact ⟨b, (ht t want ag ls rfl).trans h1, fun e => (h2 e).gw G fun k E e x he => hk k ⟨E, e, x, he⟩, h3⟩
  | dead => trivial
end
end Pv
end Go.Proofs.Ytgcgdfjldeihkaa
