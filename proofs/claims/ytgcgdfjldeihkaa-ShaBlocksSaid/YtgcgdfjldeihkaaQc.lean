/- A function of the library (or one that was walked by hand) by its contract: of plain data, with one result that holds no cells. -/
import Derived.Test.YtgcgdfjldeihkaaQa
namespace Go.Proofs.Ytgcgdfjldeihkaa
open Go.RowKit
namespace Pv
set_option linter.unusedVariables false
section
variable {F : Fr} {g : Gh} {st st' : PSt} {tmf : Nat → Value} {w w' : World}
theorem appF_inv_c {α : Type} {t : Ty} {ts : List Ty} {f : insT (t :: ts) (Option α)} {xs : List Dat} {y : α} (h : appF (t :: ts) f xs = some y) : ∃ x xs', xs = ⟨t, x⟩ :: xs' ∧ appF ts (f x) xs' = some y := by
  cases xs with
  | nil => cases h
  | cons x xs' =>
    have h' : (match castD t x.2 with | some a => appF ts (f a) xs' | none => none) = some y := h
    split at h'
    · rename_i a ha
      exact ⟨a, xs', by rw [← castD_sig ha], h'⟩
    · cases h'
theorem appF_inv_n {α : Type} {f : Option α} {xs : List Dat} {y : α} (h : appF [] f xs = some y) : xs = [] ∧ f = some y := by
  cases xs with
  | nil => exact ⟨rfl, h⟩
  | cons x xs' => cases h
theorem Frame.below {C : Com} (h : Frame F C w) (hb : Below w.heap.size w w') : Frame F C w' :=
  ⟨Nat.le_trans h.size hb.size, hb.os.trans h.os, hb.tape.trans h.tape, hb.output.trans h.output, fun b hlt hx => (hb.block b (Nat.lt_of_lt_of_le hlt h.size)).trans (h.old b hlt hx),
    fun b cs T fr hlt hc => by
      obtain ⟨cs', fr', h1, h2, h3⟩ := h.shape b cs T fr hlt hc
      exact ⟨cs', fr', (hb.block b (Nat.lt_of_lt_of_le hlt h.size)).trans h1, h2, h3⟩, h.com, h.mono, fun b o hc => Nat.lt_of_lt_of_le (h.lim b o hc) hb.size⟩
theorem mrel_out (h : MRel F g st tmf w) (hb : Below w.heap.size w w') {t : Ty} {x : t.D} {u : Value} (hu : RepD w' g.C t x [u]) (h0 : st'.φ 0 = .w false [.d t x]) (h1 : ∀ i, st'.φ (i + 1) = .dead) (hL : ∀ k, st'.L k = none) (hO : ∀ k, st'.O k = true → k = .zero) (hkn : st'.kn = []) (hfr : st'.fr = []) :
    MRel F ⟨g.C, fun _ => none, g.ρ, fun _ _ => []⟩ st' (fun i => [u].getD i undef) w' := by
  refine ⟨h.fr.below hb, fun i => ?_, fun k σ ls hl => ?_, fun k σ ls hl => ?_, fun t b hk => ?_, fun i t want ag ls hs => ?_, fun d hd => ?_, fun i k hk => ?_, rfl, fun k k' b _ _ hb => (by cases hb), fun k b j x _ hb => (by cases hb), fun k b _ hb => (by cases hb), fun k b _ hb => (by cases hb), fun j j' x x' hj => ?_⟩
  · cases i with
    | zero => rw [h0]; exact ⟨[u], ⟨[u], [], rfl, hu, rfl⟩, rfl⟩
    | succ i => rw [h1]; trivial
  · rw [hL] at hl; cases hl
  · rw [hL] at hl; cases hl
  · rw [hkn] at hk; cases hk
  · cases i with
    | zero => rw [h0] at hs; cases hs
    | succ i => rw [h1] at hs; cases hs
  · rw [hfr] at hd; cases hd
  · cases i with
    | zero => rw [h0] at hk; cases hk
    | succ i => rw [h1] at hk; cases hk
  · rw [hL] at hj; cases hj
/-- A slice of bytes. -/
theorem rel_bytes {O : Tok → Bool} {u : Value} {l : List Int} (h : RelP F g w O tmf u (.w false [.d (.sl (.int .u8)) l])) : ∃ a n c, u = .slice a n c ∧ l.length = n ∧ n ≤ c ∧ c ≤ maxLen ∧ (∀ x ∈ l, 0 ≤ x ∧ x < 256) ∧ ∀ (i : Nat) (x : Int), l[i]? = some x → ∃ ad, a = some ad ∧ w.cell? (ad.add i) = some (.int .u8 x) := by
  obtain ⟨cs, ⟨c1, c2, rfl, h1, h2⟩, h3⟩ := h
  have h2 : c2 = [] := h2
  subst h2
  obtain ⟨a, n, c, e, h4, h5, h6, h7⟩ := h1
  have h3 : c1 ++ [] = [u] := h3
  rw [List.append_nil, e] at h3
  injection h3 with h3
  refine ⟨a, n, c, h3.symm, h4, h5, h6, fun x hx => ?_, fun i x hi => ?_⟩
  · obtain ⟨i, hi, rfl⟩ := List.mem_iff_getElem.1 hx
    obtain ⟨ad, us, e1, e2, e3, e4⟩ := h7 i l[i] (List.getElem?_eq_getElem hi)
    have hw : (Lit.int .u8 l[i]).wf = true := e4.2
    simp [Lit.wf, IntKind.min, IntKind.max, IntKind.signed, IntKind.bits] at hw
    omega
  · obtain ⟨ad, us, e1, e2, e3, e4⟩ := h7 i x hi
    have e5 : us = [.int .u8 x] := e4.1
    have := (e3 0 (.int .u8 x) (by rw [e5]; rfl)).1
    rw [show i * (Ty.int .u8).size + 0 = i by show i * 1 + 0 = i; omega] at this
    exact ⟨ad, e1, this⟩
theorem bytes_of {W : World} {C : Com} {y : (Ty.sl (.int .u8)).D} {cs : List Value} (h : RepD W C (.sl (.int .u8)) y cs) : ∀ x ∈ (show List Int from y), 0 ≤ x ∧ x < 256 := fun x hx => by
  obtain ⟨a, n, c, e, h4, h5, h6, h7⟩ := h
  obtain ⟨i, hi⟩ := List.mem_iff_getElem?.1 hx
  obtain ⟨ad, us, e1, e2, e3, e4⟩ := h7 i x hi
  have hw : (Lit.int .u8 x).wf = true := e4.2
  simp [Lit.wf, IntKind.min, IntKind.max, IntKind.signed, IntKind.bits] at hw
  omega
end
end Pv
end Go.Proofs.Ytgcgdfjldeihkaa
