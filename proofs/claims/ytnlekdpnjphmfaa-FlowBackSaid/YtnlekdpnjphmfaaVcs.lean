/- The conditions of Vc are sound for the model's code: operations. -/
import Derived.Test.YtnlekdpnjphmfaaVc
import Derived.Laws.StructEq
import Derived.Laws.Rows
namespace Go.Proofs.Ytnlekdpnjphmfaa
namespace Vc

theorem pureRun_sound {P : Program} {α : Type} (s : Sem α) : ∀ {r : α}, pureRun P s = some r → ∀ w, s.run P w = .ok r w := by
  induction s with
  | pure a => intro r h w; simp only [pureRun, Option.some.injEq] at h; subst h; rfl
  | program k ih => intro r h w; exact ih _ h w
  | mark m k ih => intro r h w; exact ih h w
  | _ => intro r h; cases h

/-! ### worlds -/
theorem Vis.refl (w : World) : Vis w w := ⟨rfl, rfl, rfl, rfl, fun _ _ h _ => h⟩
theorem Keep.refl (v w : World) : Keep v w v w := ⟨Nat.le_refl _, rfl, rfl, rfl, fun _ _ h _ => ⟨h, rfl⟩⟩
theorem Keep.trans {v w v1 w1 v2 w2 : World} (h : Keep v w v1 w1) (k : Keep v1 w1 v2 w2) : Keep v w v2 w2 :=
  ⟨Nat.le_trans h.size k.size, k.os.trans h.os, k.tape.trans h.tape, k.output.trans h.output,
    fun b o hb ho => ⟨(k.hole b o (h.hole b o hb ho).1 ho).1, (k.hole b o (h.hole b o hb ho).1 ho).2.trans (h.hole b o hb ho).2⟩⟩
theorem some_lt {v : World} {b : Nat} {o : Obj} (h : v.heap[b]? = some o) : b < v.heap.size := by
  rcases Nat.lt_or_ge b v.heap.size with hlt | hge
  · exact hlt
  · rw [Array.getElem?_eq_none hge] at h; cases h
theorem size_alloc (w : World) (o : Obj) : (w.alloc o).heap.size = w.heap.size + 1 := World.size_alloc ..
/-- A block is laid in both worlds, in the condition's as 'o'', in the machine's as 'o'. -/
theorem Vis.alloc {v w : World} (h : Vis v w) (o o' : Obj) (ho : isHole o' = false → o' = o) : Vis (v.alloc o') (w.alloc o) := by
  refine ⟨by simp [h.size], h.os, h.tape, h.output, fun b x hb hx => ?_⟩
  by_cases e : b = v.heap.size
  · subst e
    rw [heap_alloc_new] at hb
    obtain rfl : o' = x := by simpa using hb
    rw [← h.size, heap_alloc_new, ho hx]
  · have hlt : b < v.heap.size := by have := some_lt hb; rw [size_alloc] at this; omega
    rw [heap_alloc_old _ _ _ hlt] at hb
    rw [heap_alloc_old _ _ _ (by rw [h.size]; exact hlt)]
    exact h.block b x hb hx
theorem Keep.alloc {v w : World} (h : Vis v w) (o o' : Obj) : Keep v w (v.alloc o') (w.alloc o) :=
  ⟨by rw [size_alloc]; omega, rfl, rfl, rfl, fun b x hb _ => ⟨by rw [heap_alloc_old _ _ _ (some_lt hb)]; exact hb, heap_alloc_old _ _ _ (by rw [h.size]; exact some_lt hb)⟩⟩
theorem cell_block {w : World} {a : Addr} {x : Value} (h : w.cell? a = some x) : ∃ cs t fr, w.heap[a.block]? = some (.cells cs t fr) := by
  unfold World.cell? at h
  split at h
  · rename_i cs t fr e; exact ⟨cs, t, fr, e⟩
  · cases h
theorem Vis.cell {v w : World} (h : Vis v w) {a : Addr} {x : Value} (hx : v.cell? a = some x) : w.cell? a = some x := by
  obtain ⟨cs, t, fr, e⟩ := cell_block hx
  have e' := h.block _ _ e rfl
  unfold World.cell? at hx ⊢
  rw [e] at hx; rw [e']; exact hx
theorem Vis.frozen {v w : World} (h : Vis v w) {a : Addr} {x : Value} (hx : v.cell? a = some x) : w.frozen? a = v.frozen? a := by
  obtain ⟨cs, t, fr, e⟩ := cell_block hx
  have e' := h.block _ _ e rfl
  unfold World.frozen?
  rw [e, e']
theorem setCell_heap (w : World) (a : Addr) (u : Value) (b : Nat) : (w.setCell a u).heap[b]? = if b = a.block then (w.heap[b]?).map (fun o => match o with | .cells c e f => .cells (if a.spot.isSome then c else c.setIfInBounds a.off u) e f | o => o) else w.heap[b]? := by
  unfold World.setCell
  simp only [Array.getElem?_modify]
  by_cases e : a.block = b
  · subst e; simp; congr 1
  · rw [if_neg e, if_neg (fun h => e h.symm)]
theorem Vis.setCell {v w : World} (h : Vis v w) {a : Addr} {y : Value} (hy : v.cell? a = some y) (u : Value) : Vis (v.setCell a u) (w.setCell a u) := by
  obtain ⟨cs, t, fr, e⟩ := cell_block hy
  have e' := h.block _ _ e rfl
  refine ⟨by simp [World.setCell, h.size], h.os, h.tape, h.output, fun b o hb ho => ?_⟩
  rw [setCell_heap] at hb ⊢
  by_cases hba : b = a.block
  · subst hba; rw [if_pos rfl] at hb ⊢; rw [e] at hb; rw [e']; exact hb
  · rw [if_neg hba] at hb ⊢; exact h.block b o hb ho
theorem Keep.setCell {v w : World} {a : Addr} {y : Value} (hy : v.cell? a = some y) (u : Value) : Keep v w (v.setCell a u) (w.setCell a u) := by
  obtain ⟨cs, t, fr, e⟩ := cell_block hy
  refine ⟨by simp [World.setCell], rfl, rfl, rfl, fun b o hb ho => ?_⟩
  have hne : b ≠ a.block := by rintro rfl; rw [e] at hb; cases hb; cases ho
  exact ⟨by rw [setCell_heap, if_neg hne]; exact hb, by rw [setCell_heap, if_neg hne]⟩
theorem Runs.mono {P : Program} {α : Type} {s : Sem α} {v : World} {K K' : α → World → Prop} (h : Runs P s v K) (hk : ∀ r v', K r v' → K' r v') : Runs P s v K' :=
  fun w hw => let ⟨r, w', v', h1, h2, h3, h4⟩ := h w hw; ⟨r, w', v', h1, h2, h3, hk _ _ h4⟩
theorem CallsV.mono {P : Program} {f : FuncId} {args : Array Value} {v : World} {R R' : Value → World → Prop} (h : CallsV P f args v R) (hk : ∀ r v', R r v' → R' r v') : CallsV P f args v R' :=
  fun w hw => (h w hw).mono fun _ _ ⟨r, v', h1, h2, h3, h4⟩ => ⟨r, v', h1, h2, h3, hk _ _ h4⟩

/-! ### frames -/
def tm (a : Act) (i : Nat) : Value := a.tmps.getD i undef
def RelF (ρ : Nat → Nat) (u : Value) : SV → Prop
  | .val x => u = x
  | .loc k off => u = .pointer (some ⟨ρ k, off, none⟩)
  | .dead => True
  | .spec _ _ _ => False
def RelS (ρ : Nat → Nat) (tmf : Nat → Value) (u : Value) : SV → Prop
  | .spec j w s => ∃ b, tmf j = .bool b ∧ (b = w → RelF ρ u s) ∧ (b ≠ w → u = undef)
  | .val x => u = x
  | .loc k off => u = .pointer (some ⟨ρ k, off, none⟩)
  | .dead => True
theorem RelF.toS {ρ : Nat → Nat} {f : Nat → Value} {u : Value} : ∀ {s : SV}, RelF ρ u s → RelS ρ f u s
  | .val _, h => h
  | .loc _ _, h => h
  | .dead, _ => trivial
  | .spec _ _ _, h => h.elim
def LocOk (v0 v w : World) (b : Nat) (cs : List Value) : Prop :=
  v0.heap.size ≤ b ∧ (∃ o, v.heap[b]? = some o ∧ isHole o = true) ∧ ∃ t, w.heap[b]? = some (.cells ⟨cs⟩ t (0, 0))
structure Rel (v0 w0 : World) (n : Nat) (ρ : Nat → Nat) (st : St) (a : Act) (w : World) : Prop where
  size : a.tmps.size = n
  defers : a.defers = []
  slots : ∀ i, RelS ρ (tm a) (tm a i) (st.φ i)
  vis : Vis st.v w
  keep : Keep v0 w0 st.v w
  locals : ∀ k cs, st.L k = some cs → LocOk v0 st.v w (ρ k) cs
  inj : ∀ k k' cs cs', st.L k = some cs → st.L k' = some cs' → ρ k = ρ k' → k = k'
theorem tm_put (a : Act) (d : Option Nat) (u : Value) (i : Nat) (hd : ∀ x, d = some x → x < a.tmps.size) : tm (a.put d u) i = if d = some i then u else tm a i := by
  cases d with
  | none => simp [Act.put, tm]
  | some x =>
    have hx := hd x rfl
    simp only [Act.put, tm, Option.some.injEq]
    by_cases e : x = i
    · subst e; simp [hx]
    · rw [if_neg e]; simp [e]
theorem put_size (a : Act) (d : Option Nat) (u : Value) : (a.put d u).tmps.size = a.tmps.size := by cases d <;> simp [Act.put]
theorem put_defers (a : Act) (d : Option Nat) (u : Value) : (a.put d u).defers = a.defers := by cases d <;> rfl
theorem beq_iff (i j : Nat) : Nat.beq i j = true ↔ i = j := by simp
/-- A slot's reading stays where the slots it hangs on stay. -/
theorem RelS.unspec {ρ : Nat → Nat} {f f' : Nat → Value} {u : Value} (d : Nat) (hf : ∀ j, j ≠ d → f' j = f j) : ∀ {s : SV}, RelS ρ f u s → RelS ρ f' u (Vc.unspec d s)
  | .val _, h => h
  | .loc _ _, h => h
  | .dead, _ => trivial
  | .spec j w s, h => by
    show RelS ρ f' u (match Nat.beq j d with | true => .dead | false => .spec j w s)
    cases hj : Nat.beq j d with
    | true => trivial
    | false =>
      have hne : j ≠ d := by rintro rfl; simp at hj
      obtain ⟨b, hb, h1, h2⟩ := h
      exact ⟨b, (hf j hne).trans hb, h1, h2⟩
theorem RelS.rho {ρ ρ' : Nat → Nat} {f : Nat → Value} {u : Value} (k : Nat) (hr : ∀ j, j ≠ k → ρ' j = ρ j) : ∀ {s : SV}, RelS ρ f u s → RelS ρ' f u (killLoc k s)
  | .val _, h => h
  | .dead, _ => trivial
  | .loc k' o, h => by
    show RelS ρ' f u (match Nat.beq k' k with | true => .dead | false => .loc k' o)
    cases hk : Nat.beq k' k with
    | true => trivial
    | false =>
      have hne : k' ≠ k := by rintro rfl; simp at hk
      show u = _
      rw [hr k' hne]; exact h
  | .spec j w s, h => by
    obtain ⟨b, hb, h1, h2⟩ := h
    refine ⟨b, hb, fun e => ?_, h2⟩
    have h3 := h1 e
    cases s with
    | val x => exact h3
    | dead => trivial
    | spec _ _ _ => exact h3.elim
    | loc k' o =>
      show RelF ρ' u (match Nat.beq k' k with | true => .dead | false => .loc k' o)
      cases hk : Nat.beq k' k with
      | true => trivial
      | false =>
        have hne : k' ≠ k := by rintro rfl; simp at hk
        show u = _
        rw [hr k' hne]; exact h3
theorem bEq_iff {a b : Bool} : bEq a b = true ↔ a = b := by cases a <;> cases b <;> simp [bEq]
theorem RelS.litB {ρ : Nat → Nat} {f : Nat → Value} {φ : Slots} {t : Nat} {b : Bool} (hs : ∀ i, RelS ρ f (f i) (φ i)) (ht : f t = .bool b) (i : Nat) : RelS ρ f (f i) (Vc.litB φ t b i) := by
  unfold Vc.litB
  cases hi : Nat.beq i t with
  | true => have : i = t := by simpa using hi
            subst this; exact ht
  | false =>
    have h := hs i
    cases hφ : φ i with
    | val x => rw [hφ] at h; exact h
    | loc k o => rw [hφ] at h; exact h
    | dead => trivial
    | spec j w s =>
      rw [hφ] at h
      obtain ⟨b', hb, h1, h2⟩ := h
      cases hj : Nat.beq j t with
      | false => simp only [hj]; exact ⟨b', hb, h1, h2⟩
      | true =>
        have : j = t := by simpa using hj
        subst this
        rw [ht] at hb; obtain rfl : b = b' := by simpa using hb
        cases hw : bEq w b with
        | true => simp only [hj, hw]; exact (h1 (bEq_iff.1 hw).symm).toS
        | false => simp only [hj, hw]; exact h2 fun e => by rw [e] at hw; cases w <;> simp [bEq] at hw
theorem Rel.litB {v0 w0 : World} {n : Nat} {ρ : Nat → Nat} {st : St} {a : Act} {w : World} (h : Rel v0 w0 n ρ st a w) {t : Nat} {b : Bool} (ht : tm a t = .bool b) : Rel v0 w0 n ρ ⟨Vc.litB st.φ t b, st.L, st.v⟩ a w :=
  ⟨h.size, h.defers, RelS.litB h.slots ht, h.vis, h.keep, h.locals, h.inj⟩
/-- A value in a slot; the worlds may have turned. -/
theorem Rel.put {v0 w0 : World} {n : Nat} {ρ : Nat → Nat} {st : St} {a : Act} {w : World} (h : Rel v0 w0 n ρ st a w) {d : Option Nat} (hd : ∀ x, d = some x → x < n) {u : Value} {s : SV} (hs : RelS ρ (tm a) u s) :
    Rel v0 w0 n ρ ⟨Vc.put st.φ d s, st.L, st.v⟩ (a.put d u) w := by
  refine ⟨(put_size a d u).trans h.size, (put_defers a d u).trans h.defers, fun i => ?_, h.vis, h.keep, h.locals, h.inj⟩
  rw [tm_put a d u i (fun x hx => by rw [h.size]; exact hd x hx)]
  cases d with
  | none =>
    rw [if_neg (by simp)]
    have e : tm (a.put none u) = tm a := rfl
    rw [e]; exact h.slots i
  | some x =>
    have hf : ∀ j, j ≠ x → tm (a.put (some x) u) j = tm a j := fun j hj => by
      rw [tm_put a (some x) u j (fun y hy => by rw [h.size]; exact hd y hy), if_neg (by simpa using fun e => hj e.symm)]
    by_cases e : x = i
    · subst e
      rw [if_pos rfl]
      show RelS ρ _ u (match Nat.beq x x with | true => unspec x s | false => unspec x (st.φ x))
      rw [show Nat.beq x x = true by simp]
      exact RelS.unspec x hf hs
    · rw [if_neg (by simpa using e)]
      show RelS ρ _ _ (match Nat.beq i x with | true => unspec x s | false => unspec x (st.φ i))
      rw [show Nat.beq i x = false from Bool.eq_false_iff.2 fun h => e (Nat.eq_of_beq_eq_true h).symm]
      exact RelS.unspec x hf (h.slots i)
theorem Rel.world {v0 w0 : World} {n : Nat} {ρ : Nat → Nat} {st : St} {a : Act} {w v' w' : World} (h : Rel v0 w0 n ρ st a w) (hv : Vis v' w') (hk : Keep st.v w v' w') : Rel v0 w0 n ρ ⟨st.φ, st.L, v'⟩ a w' :=
  ⟨h.size, h.defers, h.slots, hv, h.keep.trans hk, fun k cs hc => by
    obtain ⟨h1, ⟨o, ho, hh⟩, t, ht⟩ := h.locals k cs hc
    exact ⟨h1, ⟨o, (hk.hole _ o ho hh).1, hh⟩, t, (hk.hole _ o ho hh).2.trans ht⟩, h.inj⟩

/-! ### operands -/
section
variable {v0 w0 : World} {n : Nat} {ρ : Nat → Nat} {st : St} {a : Act} {w : World} {g : Option (Nat × Bool)}
theorem evS_sound (h : Rel v0 w0 n ρ st a w) (x : Operand) : RelS ρ (tm a) (a.eval x) (evS st.φ x) := by
  cases x with
  | tmp t => exact h.slots t
  | const v => rfl
  | global k => rfl
  | func f => rfl
theorem evG_sound (h : Rel v0 w0 n ρ st a w) (hg : ∀ t want, g = some (t, want) → tm a t = .bool want) (x : Operand) : RelF ρ (a.eval x) (evG g st.φ x) := by
  have hx := evS_sound h x
  unfold evG
  cases hs : evS st.φ x with
  | val v => rw [hs] at hx; exact hx
  | loc k o => rw [hs] at hx; exact hx
  | dead => trivial
  | spec j wt s =>
    rw [hs] at hx
    cases g with
    | none => trivial
    | some p =>
      obtain ⟨t, want⟩ := p
      cases hj : Nat.beq j t with
      | false => simp only [hj]; trivial
      | true =>
        cases hw : bEq wt want with
        | false => simp only [hj, hw]; trivial
        | true =>
          simp only [hj, hw]
          obtain ⟨b, hb, h1, _⟩ := hx
          have : j = t := by simpa using hj
          subst this
          rw [hg j want rfl] at hb
          exact h1 (by rw [bEq_iff.1 hw]; simpa using hb.symm)
theorem evG_val (h : Rel v0 w0 n ρ st a w) (hg : ∀ t want, g = some (t, want) → tm a t = .bool want) {x : Operand} {v : Value} (hx : evG g st.φ x = .val v) : a.eval x = v := by
  have := evG_sound h hg x; rw [hx] at this; exact this
theorem evG_loc (h : Rel v0 w0 n ρ st a w) (hg : ∀ t want, g = some (t, want) → tm a t = .bool want) {x : Operand} {k o : Nat} (hx : evG g st.φ x = .loc k o) : a.eval x = .pointer (some ⟨ρ k, o, none⟩) := by
  have := evG_sound h hg x; rw [hx] at this; exact this
theorem rho_all (h : Rel v0 w0 n ρ st a w) (hg : ∀ t want, g = some (t, want) → tm a t = .bool want) {xs : Array Operand} (hx : xs.toList.all (isVal g st.φ) = true) : ∀ x ∈ xs, a.eval x = rhoG g st.φ x := by
  intro x hm
  have h1 := (List.all_eq_true.1 hx) x (by simpa using hm)
  unfold isVal at h1
  unfold rhoG
  cases hs : evG g st.φ x with
  | val v => exact evG_val h hg hs
  | loc k o => rw [hs] at h1; cases h1
  | dead => rw [hs] at h1; cases h1
  | spec j wt s => rw [hs] at h1; cases h1
theorem exec_all (h : Rel v0 w0 n ρ st a w) (hg : ∀ t want, g = some (t, want) → tm a t = .bool want) (o : Oper) (hs : ∀ cs b, o.op ≠ .select cs b) (hx : o.op.operands.toList.all (isVal g st.φ) = true) : execOp a.eval o = execOp (rhoG g st.φ) o :=
  execOp_congr o hs (rho_all h hg hx)
end
end Vc
end Go.Proofs.Ytnlekdpnjphmfaa
