/- What an argument is, by its type: slices row by row, structs cell by cell. -/
import Derived.Test.YtnlekdpnjphmfaaVcb
import Derived.Deep.SlicePairs
namespace Go.Proofs.Ytnlekdpnjphmfaa
namespace Vc
open Go.ChangeShapes Go.WideShapes Go.Deep
theorem Pad.ext {v v' : World} (h : Pad v v') : Ext v v' := ⟨h.old.1, h.old.2⟩
/-- The rows at a, each of k cells, are these. -/
def RowsAt (v : World) (a : Option Addr) (k : Nat) (l : List (List Value)) : Prop :=
  ∀ i cs, l[i]? = some cs → ∃ ad, a = some ad ∧ ∀ j x, cs[j]? = some x → v.cell? (ad.add (i * k + j)) = some x
theorem RowsAt.ext {v v' : World} {a : Option Addr} {k : Nat} {l : List (List Value)} (h : RowsAt v a k l) (he : Ext v v') : RowsAt v' a k l := fun i cs hi =>
  let ⟨ad, h1, h2⟩ := h i cs hi
  ⟨ad, h1, fun j x hj => he.cell (h2 j x hj)⟩
theorem RowsAt.nil {v : World} {a : Option Addr} {k : Nat} : RowsAt v a k [] := fun i cs hi => by simp at hi
theorem RowsAt.at {v : World} {a : Option Addr} {k : Nat} {l : List (List Value)} (h : RowsAt v a k l) {ad : Addr} (ha : a = some ad) {i : Nat} {cs : List Value} (hi : l[i]? = some cs) {j : Nat} {x : Value} (hj : cs[j]? = some x) : v.cell? ((ad.add (i * k)).add j) = some x := by
  obtain ⟨ad', h1, h2⟩ := h i cs hi
  rw [ha] at h1; cases h1
  have := h2 j x hj
  rwa [add_add]
theorem RowsAt.take {v : World} {a : Option Addr} {k : Nat} {l : List (List Value)} (h : RowsAt v a k l) (m : Nat) : RowsAt v a k (l.take m) := fun i cs hi => by
  rw [List.getElem?_take] at hi
  split at hi
  · exact h i cs hi
  · cases hi
theorem RowsAt.drop {v : World} {a : Option Addr} {k : Nat} {l : List (List Value)} (h : RowsAt v a k l) (m : Nat) : RowsAt v (a.map (·.add (m * k))) k (l.drop m) := fun i cs hi => by
  rw [List.getElem?_drop] at hi
  obtain ⟨ad, h1, h2⟩ := h (m + i) cs hi
  refine ⟨ad.add (m * k), by rw [h1]; rfl, fun j x hj => ?_⟩
  rw [add_add, show m * k + (i * k + j) = (m + i) * k + j by rw [Nat.add_mul, Nat.add_assoc]]
  exact h2 j x hj
section
variable {H : Type} {enc : TypeId × Value → H} {P : Program} {w : World} {r : Reach} {b0 : Nat} {spare : Nat → Bool} {held : Bool}
theorem i64_wf {x : Int} (h : (Lit.int .i64 x).wf = true) : -9223372036854775808 ≤ x ∧ x ≤ 9223372036854775807 := by
  simp [Lit.wf, IntKind.min, IntKind.max, IntKind.signed, IntKind.bits] at h
  exact h
def enc2 (p : Int × Int) : List Value := [.int .i64 p.1, .int .i64 p.2]
def enc1 (x : Int) : List Value := [.int .i64 x]
/-- A slice of structs of two ints. -/
theorem open_pairs {t e : TypeId} {f0 f1 : Field} {v : Value} {d : DataW H} {ps : List MemPlace} (ht : P.underlying t = some (.slice e)) (he : P.underlying e = some (.struct #[f0, f1])) (h0 : P.underlying f0.type = some (.int .i64)) (h1 : P.underlying f1.type = some (.int .i64))
    (ce : P.cellsOf e = 2) (o0 : f0.offset = 0) (o1 : f1.offset = 1) (c0 : P.cellsOf f0.type = 1) (c1 : P.cellsOf f1.type = 1) (hval : Value.okWide P w r b0 t v) (hd : DataW.Trod enc P w 0 spare held t v d ps) :
    ∃ (a : Option Addr) (n c : Nat) (l : List (Int × Int)), v = .slice a n c ∧ l.length = n ∧ n ≤ c ∧ c < 2 ^ 63 ∧ RowsAt w a 2 (l.map enc2) ∧ ∀ p ∈ l, (Lit.int .i64 p.1).wf = true ∧ (Lit.int .i64 p.2).wf = true := by
  obtain ⟨a, n, c, rfl⟩ := okWide_slice ht hval
  obtain ⟨fuel, hf⟩ := hd
  rcases open_slice_pairs ht he ce o0 o1 c0 c1 hf with ⟨hs, _⟩ | ⟨ad, len, cap, m, q, V0, V1, D0, D1, P0, P1, hs, _, hl, hm, hmm, _, hx⟩
  · simp [Value.cells] at hs
    obtain ⟨rfl, rfl, rfl⟩ := hs
    exact ⟨none, 0, 0, [], rfl, rfl, Nat.le_refl _, by omega, RowsAt.nil, fun p hp => by cases hp⟩
  · simp [Value.cells] at hs
    obtain ⟨rfl, rfl, rfl⟩ := hs
    have hnm : n ≤ m := by rw [hmm]; split <;> omega
    have each : ∀ i, i < n → ∃ p : Int × Int, V0 i = .int .i64 p.1 ∧ V1 i = .int .i64 p.2 ∧ (Lit.int .i64 p.1).wf = true ∧ (Lit.int .i64 p.2).wf = true := fun i hi => by
      obtain ⟨_, _, g0, g1⟩ := hx i (by omega)
      obtain ⟨x, e0, _, w0⟩ := DataW.trod_int h0 g0
      obtain ⟨y, e1, _, w1⟩ := DataW.trod_int h1 g1
      exact ⟨(x, y), by simpa using e0, by simpa using e1, w0, w1⟩
    obtain ⟨f, hf2⟩ := choose_lt each
    refine ⟨some ad, n, c, (List.range n).map f, rfl, by simp, hl, by unfold maxLen at hm; omega, fun i cs hi => ?_, fun p hp => ?_⟩
    · simp only [List.map_map, List.getElem?_map, Option.map_eq_some_iff] at hi
      obtain ⟨i', hi', rfl⟩ := hi
      have hlt : i < n := by
        rcases Nat.lt_or_ge i n with h | h
        · exact h
        · rw [List.getElem?_eq_none (by simpa using h)] at hi'; cases hi'
      obtain rfl : i = i' := by simpa [hlt] using hi'
      obtain ⟨c0', c1', _, _⟩ := hx i (by omega)
      obtain ⟨e0, e1, _, _⟩ := hf2 i hlt
      refine ⟨ad, rfl, fun j x hj => ?_⟩
      match j with
      | 0 => simp [enc2] at hj; subst hj; rw [← e0]; simpa using c0'
      | 1 => simp [enc2] at hj; subst hj; rw [← e1]; exact c1'
      | j + 2 => simp [enc2] at hj
    · obtain ⟨i, hi, rfl⟩ := List.mem_map.1 hp
      exact (hf2 i (List.mem_range.1 hi)).2.2
/-- A slice of ints. -/
theorem open_ints {t e : TypeId} {v : Value} {d : DataW H} {ps : List MemPlace} (ht : P.underlying t = some (.slice e)) (he : P.underlying e = some (.int .i64)) (ce : P.cellsOf e = 1) (hval : Value.okWide P w r b0 t v) (hd : DataW.Trod enc P w 0 spare held t v d ps) :
    ∃ (a : Option Addr) (n c : Nat) (l : List Int), v = .slice a n c ∧ l.length = n ∧ n ≤ c ∧ c < 2 ^ 63 ∧ RowsAt w a 1 (l.map enc1) ∧ ∀ x ∈ l, (Lit.int .i64 x).wf = true := by
  obtain ⟨a, n, c, rfl⟩ := okWide_slice ht hval
  obtain ⟨fuel, hf⟩ := hd
  rcases open_slice1 ht ce hf with ⟨hs, _⟩ | ⟨ad, len, cap, m, q, V, D, Pl, hs, _, hl, hm, hmm, _, hx⟩
  · simp [Value.cells] at hs
    obtain ⟨rfl, rfl, rfl⟩ := hs
    exact ⟨none, 0, 0, [], rfl, rfl, Nat.le_refl _, by omega, RowsAt.nil, fun p hp => by cases hp⟩
  · simp [Value.cells] at hs
    obtain ⟨rfl, rfl, rfl⟩ := hs
    have hnm : n ≤ m := by rw [hmm]; split <;> omega
    have each : ∀ i, i < n → ∃ x : Int, V i = .int .i64 x ∧ (Lit.int .i64 x).wf = true := fun i hi => by
      obtain ⟨_, g0⟩ := hx i (by omega)
      obtain ⟨x, e0, _, w0⟩ := DataW.trod_int he g0
      exact ⟨x, by simpa using e0, w0⟩
    obtain ⟨f, hf2⟩ := choose_lt each
    refine ⟨some ad, n, c, (List.range n).map f, rfl, by simp, hl, by unfold maxLen at hm; omega, fun i cs hi => ?_, fun p hp => ?_⟩
    · simp only [List.map_map, List.getElem?_map, Option.map_eq_some_iff] at hi
      obtain ⟨i', hi', rfl⟩ := hi
      have hlt : i < n := by
        rcases Nat.lt_or_ge i n with h | h
        · exact h
        · rw [List.getElem?_eq_none (by simpa using h)] at hi'; cases hi'
      obtain rfl : i = i' := by simpa [hlt] using hi'
      obtain ⟨c0', _⟩ := hx i (by omega)
      obtain ⟨e0, _⟩ := hf2 i hlt
      refine ⟨ad, rfl, fun j x hj => ?_⟩
      match j with
      | 0 => simp [enc1] at hj; subst hj; rw [← e0]; simpa using c0'
      | j + 1 => simp [enc1] at hj
    · obtain ⟨i, hi, rfl⟩ := List.mem_map.1 hp
      exact (hf2 i (List.mem_range.1 hi)).2
theorem choose_list {α β : Type} {f : β → α} {p : β → Prop} : ∀ (l : List α), (∀ x ∈ l, ∃ y, x = f y ∧ p y) → ∃ l' : List β, l = l'.map f ∧ ∀ y ∈ l', p y
  | [], _ => ⟨[], rfl, fun y hy => by cases hy⟩
  | x :: l, h => by
    obtain ⟨y, rfl, hy⟩ := h x (by simp)
    obtain ⟨l', rfl, hl⟩ := choose_list l fun z hz => h z (by simp [hz])
    exact ⟨y :: l', rfl, fun z hz => (List.mem_cons.1 hz).elim (fun e => e ▸ hy) (hl z)⟩
/-- One field of a struct by value. -/
theorem open_fields {t : TypeId} {fs : Array Field} {v : Value} {d : DataW H} {ps : List MemPlace} (ht : P.underlying t = some (.struct fs)) (hval : Value.okWide P w r b0 t v) (hd : DataW.Trod enc P w 0 spare held t v d ps) :
    ∃ cs : Array Value, v = .agg cs ∧ cs.size = P.cellsOf t ∧ ∀ (i : Nat) (f : Field), fs[i]? = some f → ∃ n x, DataW.trod enc P w 0 spare held n f.type ((cs.toList.drop f.offset).take (P.cellsOf f.type)) = some x := by
  obtain ⟨cs, rfl, hsz⟩ := okWide_struct ht hval
  obtain ⟨fuel, hf⟩ := hd
  obtain ⟨xs, n, _, _, hl, hxl, hx⟩ := DataW.trod_struct ht hf
  refine ⟨cs, rfl, hsz, fun i f hi => ?_⟩
  have h1 := hx i f hi
  have hlt : i < xs.length := by rw [hxl]; exact (Array.getElem?_eq_some_iff.1 hi).1
  rw [List.getElem?_eq_getElem hlt] at h1
  exact ⟨n, _, h1⟩
/-- A struct of ints by value. -/
theorem open_struct_ints {t : TypeId} {fs : Array Field} {v : Value} {d : DataW H} {ps : List MemPlace} (ht : P.underlying t = some (.struct fs)) (hc : P.cellsOf t = fs.size)
    (hall : ∀ i, i < fs.size → ∃ f, fs[i]? = some f ∧ P.underlying f.type = some (.int .i64) ∧ f.offset = i ∧ P.cellsOf f.type = 1) (hval : Value.okWide P w r b0 t v) (hd : DataW.Trod enc P w 0 spare held t v d ps) :
    ∃ l : List Int, v = .agg ⟨l.map (Value.int .i64)⟩ ∧ l.length = fs.size ∧ ∀ x ∈ l, (Lit.int .i64 x).wf = true := by
  obtain ⟨cs, rfl, hsz, hf⟩ := open_fields ht hval hd
  obtain ⟨l, hl, hw⟩ := choose_list (f := Value.int .i64) (p := fun x => (Lit.int .i64 x).wf = true) cs.toList fun u hu => by
    obtain ⟨i, hi, rfl⟩ := List.mem_iff_getElem.1 hu
    have hi' : i < cs.size := by simpa using hi
    obtain ⟨f, h1, h2, h3, h4⟩ := hall i (by omega)
    obtain ⟨n, x, hx⟩ := hf i f h1
    rw [h3, h4, List.drop_eq_getElem_cons hi] at hx
    simp only [List.take_succ_cons, List.take_zero] at hx
    obtain ⟨y, e, _, hy⟩ := DataW.trod_int h2 hx
    exact ⟨y, by simpa using e, hy⟩
  refine ⟨l, by rw [← hl], ?_, hw⟩
  have := congrArg List.length hl
  simp at this
  omega
end
end Vc
end Go.Proofs.Ytnlekdpnjphmfaa
