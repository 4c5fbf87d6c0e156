/- Rows of numbers of one's own: from the kit's words to a contract's result. -/
import Derived.Test.YtgcgdfjldeihkaaQh
import Derived.Laws.AppendOwn
import Derived.Laws.OwnMore
import Derived.OwnWalk
import Derived.KernelRfl
import Derived.Test.YtgcgdfjldeihkaaProg
namespace Go.Proofs.Ytgcgdfjldeihkaa
open Go.RowKit Pv
set_option linter.unusedVariables false
theorem args_1 {args : Array Value} (h : args.size = 1) : args = #[args.getD 0 undef] := by
  obtain ⟨al⟩ := args
  match al, h with
  | [v], _ => rfl
theorem args_2 {args : Array Value} (h : args.size = 2) : args = #[args.getD 0 undef, args.getD 1 undef] := by
  obtain ⟨al⟩ := args
  match al, h with
  | [v, u], _ => rfl
theorem args_3 {args : Array Value} (h : args.size = 3) : args = #[args.getD 0 undef, args.getD 1 undef, args.getD 2 undef] := by
  obtain ⟨al⟩ := args
  match al, h with
  | [v, u, t], _ => rfl
theorem infoU : (Try.prog.info? 5).map (fun i => (i.zero, i.size, i.bytes)) = some (some (.int .u8 0), 1, 1) := by kernel_rfl
theorem wfB {x : Int} (h : (Lit.int .u8 x).wf = true) : 0 ≤ x ∧ x < 256 := by
  simp [Lit.wf, IntKind.min, IntKind.max, IntKind.signed, IntKind.bits] at h
  omega
theorem wfB' {x : Int} (h0 : 0 ≤ x) (h1 : x < 256) : (Lit.int .u8 x).wf = true := by
  simp [Lit.wf, IntKind.min, IntKind.max, IntKind.signed, IntKind.bits]
  omega
theorem wfQ {x : Int} (h : (Lit.int .u64 x).wf = true) : 0 ≤ x ∧ x < 18446744073709551616 := by
  simp [Lit.wf, IntKind.min, IntKind.max, IntKind.signed, IntKind.bits] at h
  omega
theorem wfQ' {x : Int} (h0 : 0 ≤ x) (h1 : x < 18446744073709551616) : (Lit.int .u64 x).wf = true := by
  simp [Lit.wf, IntKind.min, IntKind.max, IntKind.signed, IntKind.bits]
  omega
theorem ints_of {w : World} {C : Com} {k : IntKind} {l : List Int} {cs : List Value} (h : RepD w C (.sl (.int k)) l cs) :
    ∃ a n c, cs = [.slice a n c] ∧ l.length = n ∧ n ≤ c ∧ c ≤ maxLen ∧ (∀ x ∈ l, (Lit.int k x).wf = true) ∧ (∀ ad, a = some ad → ∀ (i : Nat) x, l[i]? = some x → w.cell? (ad.add i) = some (.int k x)) ∧ (a = none → l = []) := by
  obtain ⟨a, n, c, e0, e1, e2, e3, e4⟩ := h
  have hel : ∀ (i : Nat) x, l[i]? = some x → ∃ ad, a = some ad ∧ w.cell? (ad.add i) = some (.int k x) ∧ (Lit.int k x).wf = true := fun i x hx => by
    obtain ⟨ad, us, h1, h2, h3, h4, h5⟩ := e4 i x hx
    refine ⟨ad, h1, ?_, h5⟩
    have h4 : us = [.int k x] := h4
    have := (h3 0 (.int k x) (by rw [h4]; rfl)).1
    rw [show (Ty.int k).size = 1 from rfl, Nat.mul_one, Nat.add_zero] at this
    exact this
  refine ⟨a, n, c, e0, e1, e2, e3, fun x hx => ?_, fun ad hz i x hx => ?_, fun hz => ?_⟩
  · obtain ⟨i, hi⟩ := List.mem_iff_getElem?.1 hx
    exact (hel i x hi).choose_spec.2.2
  · obtain ⟨ad', h1, h2, _⟩ := hel i x hx
    rw [hz] at h1
    injection h1 with h1
    rw [h1]; exact h2
  · cases l with
    | nil => rfl
    | cons x l =>
      obtain ⟨ad', h1, _⟩ := hel 0 x rfl
      rw [hz] at h1; cases h1
theorem rel_ints {F : Fr} {g : Gh} {w : World} {O : Tok → Bool} {tmf : Nat → Value} {u : Value} {k : IntKind} {l : List Int} (h : RelP F g w O tmf u (.w false [.d (.sl (.int k)) l])) :
    ∃ a n c, u = .slice a n c ∧ l.length = n ∧ n ≤ c ∧ c ≤ maxLen ∧ (∀ x ∈ l, (Lit.int k x).wf = true) ∧ (∀ ad, a = some ad → ∀ (i : Nat) x, l[i]? = some x → w.cell? (ad.add i) = some (.int k x)) ∧ (a = none → l = []) := by
  obtain ⟨a, n, c, e0, r⟩ := ints_of (rel_leaf.1 h)
  exact ⟨a, n, c, by injection e0, r⟩
/-- A result that is a row of numbers of one's own, or nil. -/
theorem own_row {F : Fr} {g : Gh} {w w' : World} {s : Sig} {tmf : Nat → Value} {E : TypeId} {k : IntKind} {l : List Int} {v : Value} {y : s.out.D} (hw : F.w0 = w) (hlim : ∀ b o, g.C b o → b < w.heap.size) (hbel : Below w.heap.size w w')
    (hrow : w'.ownsRow w.heap.size E 1 v l.length (l.map (Value.int k))) (hwf : ∀ x ∈ l, (Lit.int k x).wf = true)
    (hrs : s.rs = [(false, [.own E (.int k)])]) (hmk : mkLs (Tok.hd 0) s.outs 0 (unpackD (s.outs.map LT.ty) y) = some [.own (.hd 0 0) E (.int k) l]) :
    ∃ us os C' blk', Ending.returned v = .returned (retV us) ∧ us.length = s.rs.length ∧ mkLs (Tok.hd 0) s.outs 0 (unpackD (s.outs.map LT.ty) y) = some os ∧ Below w.heap.size w w' ∧
      (∀ b o, b < w.heap.size → (C' b o ↔ g.C b o)) ∧ (∀ b o, C' b o → b < w'.heap.size) ∧ blk' .zero = none ∧ (∀ k b, blk' k = some b → w.heap.size ≤ b ∧ b < w'.heap.size) ∧ (∀ k k' b, blk' k = some b → blk' k' = some b → k = k') ∧
      ∀ i, i < s.rs.length → RelP F ⟨C', blk', g.ρ, fun _ _ => []⟩ w' (exitO s) tmf (us.getD i undef) (resAt s.rs os i) := by
  obtain ⟨h0, ⟨rfl, hn⟩ | ⟨b, cap, cur, rfl, h2, h3, h4, h5, h6, h7⟩⟩ := hrow
  · have : l = [] := List.eq_nil_of_length_eq_zero hn
    subst this
    exact own_nil hlim hbel hrs hmk
  · refine own_out (e := .int k) (l := l) hw hlim hbel h2 h3 h4 h5 h6 (fun i x hx => ?_) hrs hmk
    have hx : l[i]? = some x := hx
    have hin : i < l.length := (List.getElem?_eq_some_iff.1 hx).1
    have hcell : cur.toList[i]? = some (.int k x) := by
      have e : (cur.toList.take (l.length * 1))[i]? = some (.int k x) := by
        rw [h7, List.getElem?_map, hx]; rfl
      rw [List.getElem?_take] at e
      split at e
      · exact e
      · cases e
    refine ⟨?_, hwf x (List.mem_of_getElem? hx)⟩
    rw [show (Ty.int k).size = 1 from rfl, Nat.mul_one, List.drop_eq_getElem_cons (List.getElem?_eq_some_iff.1 hcell).1]
    simp [(List.getElem?_eq_some_iff.1 hcell).2]
end Go.Proofs.Ytgcgdfjldeihkaa
