/- HostNames: the plain part. -/
import Derived.Test.YtblngdnndkljoaaDoorQHostn
namespace Go.Proofs.YtblngdnndkljoaaDoor
open Pv
set_option linter.unusedVariables false
structure Letter (c d : Int) : Prop where
  sg : sg c = d
  d0 : d ≠ 0
  d45 : d ≠ 45
  c46 : c ≠ 46
def tailS (c : Int) (ns : List Nat) : List Int := ns.flatMap fun n => 46 :: List.replicate n c
def strS (c : Int) : List Nat → List Int
  | [] => []
  | n :: ns => List.replicate n c ++ tailS c ns
def okN (n : Nat) : Bool := decide (1 ≤ n) && decide (n ≤ 63)
theorem lab {c d : Int} (h : Letter c d) (Y : List Int) : ∀ (m n : Nat) (out : List Int), n ≤ 63 → nameP out n (List.replicate m c ++ Y) = cond (decide (n + m ≤ 63)) (nameP (out ++ List.replicate m d) (n + m) Y) none
  | 0, n, out, hn => by
    rw [decide_eq_true (by omega), cond_true]
    simp
  | m + 1, n, out, hn => by
    rw [List.replicate_succ, List.cons_append]
    rw [nameP]
    rw [beq_eq_false_iff_ne.2 h.c46, cond_false, h.sg, beq_eq_false_iff_ne.2 h.d0, beq_eq_false_iff_ne.2 h.d45, Bool.false_or, Bool.false_and, Bool.or_false]
    by_cases hx : n = 63
    · subst hx
      rw [decide_eq_false (by omega)]
      rfl
    · rw [beq_eq_false_iff_ne.2 hx, cond_false, lab h Y m (n + 1) (out ++ [d]) (by omega), show n + 1 + m = n + (m + 1) by omega, List.append_assoc, List.replicate_succ]
      rfl
theorem ends_of {out : List Int} {n : Nat} (h : n ≥ 1 → out.getLast? ≠ some 45) : endsB out n = !decide (1 ≤ n) := by
  unfold endsB
  by_cases h0 : n = 0
  · subst h0; rfl
  · rw [beq_eq_false_iff_ne.2 h0, Bool.false_or, decide_eq_true (by omega)]
    exact beq_eq_false_iff_ne.2 (h (by omega))
theorem last_rep {c d : Int} (h : Letter c d) (out : List Int) (m : Nat) : m ≥ 1 → (out ++ List.replicate m d).getLast? ≠ some 45 := fun hm => by
  obtain ⟨k, rfl⟩ : ∃ k, m = k + 1 := ⟨m - 1, by omega⟩
  rw [List.replicate_succ', ← List.append_assoc, List.getLast?_concat]
  intro e
  injection e with e
  exact h.d45 e
theorem tail_cons (c : Int) (m : Nat) (ns : List Nat) : tailS c (m :: ns) = 46 :: (List.replicate m c ++ tailS c ns) := by
  unfold tailS
  rw [List.flatMap_cons, List.cons_append]
theorem walk_end {c d : Int} (h : Letter c d) : ∀ (ns : List Nat) (out : List Int) (n : Nat), (n ≥ 1 → out.getLast? ≠ some 45) → ∃ b : List Int, b.length = out.length + (tailS c ns).length ∧ nameP out n (tailS c ns) = cond (decide (1 ≤ n) && ns.all okN) (some b) none
  | [], out, n, hl => ⟨out, by simp [tailS], by
    show nameP out n [] = _
    rw [nameP, ends_of hl, List.all_nil, Bool.and_true]
    cases decide (1 ≤ n) <;> rfl⟩
  | m :: ns, out, n, hl => by
    obtain ⟨b, h1, h2⟩ := walk_end h ns (out ++ [46] ++ List.replicate m d) m (last_rep h _ m)
    refine ⟨b, ?_, ?_⟩
    · rw [h1, tail_cons]
      simp
      omega
    · rw [tail_cons, nameP, beq_self_eq_true, cond_true, ends_of hl, lab h _ m 0 (out ++ [46]) (by omega), Nat.zero_add, h2, List.all_cons]
      unfold okN
      cases decide (1 ≤ n) <;> cases decide (m ≤ 63) <;> cases decide (1 ≤ m) <;> rfl
theorem walk_bad {c d : Int} (h : Letter c d) {X : List Int} (hX : ∀ (out : List Int) (n : Nat), (n ≥ 1 → out.getLast? ≠ some 45) → nameP out n X = none) : ∀ (ns : List Nat) (out : List Int) (n : Nat), (n ≥ 1 → out.getLast? ≠ some 45) → nameP out n (tailS c ns ++ X) = none
  | [], out, n, hl => hX out n hl
  | m :: ns, out, n, hl => by
    rw [tail_cons, List.cons_append, List.append_assoc, nameP, beq_self_eq_true, cond_true, lab h _ m 0 (out ++ [46]) (by omega), Nat.zero_add, walk_bad h hX ns _ m (last_rep h _ m)]
    cases endsB out n <;> cases decide (m ≤ 63) <;> rfl
theorem sg45 : sg 45 = 45 := by kernel_rfl
theorem bad45 (out : List Int) (n : Nat) (hl : n ≥ 1 → out.getLast? ≠ some 45) : nameP out n [45] = none := by
  rw [nameP, sg45]
  rw [show ((45 : Int) == 46) = false from rfl, cond_false]
  rw [nameP]
  have : endsB (out ++ [45]) (n + 1) = true := by
    unfold endsB
    rw [List.getLast?_concat]
    simp
  rw [this, cond_true]
  generalize ((45 : Int) == 0 || n == 63 || (45 : Int) == 45 && n == 0) = z
  cases z <;> rfl
theorem bad46 (out : List Int) (n : Nat) (hl : n ≥ 1 → out.getLast? ≠ some 45) : nameP out n [46] = none := by
  rw [nameP, beq_self_eq_true, cond_true, nameP]
  have : endsB (out ++ [46]) 0 = true := rfl
  rw [this, cond_true]
  cases endsB out n <;> rfl
theorem rule_name {c d : Int} (h : Letter c d) (ns : List Nat) (hn : ns ≠ []) : ∃ b : List Int, b.length = (strS c ns).length ∧ nameR (strS c ns) = resN (cond (ns.all okN && decide ((strS c ns).length ≤ 253)) (some b) none) := by
  obtain ⟨n, ns, rfl⟩ := List.exists_cons_of_ne_nil hn
  obtain ⟨b, h1, h2⟩ := walk_end h ns ([] ++ List.replicate n d) n (last_rep h _ n)
  refine ⟨b, by rw [h1]; show _ = (List.replicate n c ++ tailS c ns).length; simp, ?_⟩
  unfold nameR
  rw [show strS c (n :: ns) = List.replicate n c ++ tailS c ns from rfl, lab h _ n 0 [] (by omega), Nat.zero_add, h2, List.all_cons]
  generalize (List.replicate n c ++ tailS c ns).length = L
  by_cases hL : L ≤ 253
  · rw [decide_eq_true hL, decide_eq_false (by omega), cond_false]
    unfold okN
    cases decide (1 ≤ n) <;> cases decide (n ≤ 63) <;> cases ns.all _ <;> rfl
  · rw [decide_eq_false hL, decide_eq_true (by omega), cond_true, Bool.and_false, cond_false]
theorem rule_bad {c d : Int} (h : Letter c d) {X : List Int} (hX : ∀ (out : List Int) (n : Nat), (n ≥ 1 → out.getLast? ≠ some 45) → nameP out n X = none) (ns : List Nat) (hn : ns ≠ []) : nameR (strS c ns ++ X) = ([], 2) := by
  obtain ⟨n, ns, rfl⟩ := List.exists_cons_of_ne_nil hn
  unfold nameR
  rw [show strS c (n :: ns) = List.replicate n c ++ tailS c ns from rfl]
  rw [List.append_assoc, lab h _ n 0 [] (by omega), Nat.zero_add, walk_bad h hX ns _ n (last_rep h _ n)]
  generalize decide (253 < (List.replicate n c ++ (tailS c ns ++ X)).length) = z
  cases decide (n ≤ 63) <;> cases z <;> rfl
theorem rule_dash (s : List Int) : nameR ([45] ++ s) = ([], 2) := by
  unfold nameR
  rw [show nameP [] 0 ([45] ++ s) = none by
    rw [List.cons_append, nameP, sg45]; rfl]
  generalize decide (253 < ([45] ++ s).length) = z
  cases z <;> rfl
/-! ### the law's loops -/
theorem L23_end (c : Int) (m : Nat) (hm : m ≤ 70) (s : List Int) (hs : s.length ≤ 1000) : loopC (F_wlvlaw16_HostNames_L23 c (m : Int)) (s, 0) = some (.inr (s ++ List.replicate m c)) := by
  obtain ⟨r, h1, h2⟩ := loop_inv (body := F_wlvlaw16_HostNames_L23 c (m : Int)) (I := fun st => ∃ j : Nat, j ≤ m ∧ st = (s ++ List.replicate j c, (j : Int))) (m := fun st => m - st.2.toNat) (Q := fun q => q = .inr (s ++ List.replicate m c)) (fun st ⟨j, hj, e⟩ => by
    subst e
    unfold F_wlvlaw16_HostNames_L23
    dsimp only
    by_cases h : j < m
    · rw [decide_eq_true (by omega), cond_true]
      unfold chk
      rw [Nat.ble_eq_true_of_le (show _ ≤ maxLen by have : maxLen = 9223372036854775807 := rfl; simp; omega), cond_true, wrap_in (by omega) (by omega)]
      refine .inr ⟨_, rfl, ⟨j + 1, by omega, ?_⟩, ?_⟩
      · rw [List.append_assoc, List.replicate_succ']; rfl
      · show m - ((j : Int) + 1).toNat < m - (j : Int).toNat
        omega
    · obtain rfl : j = m := by omega
      rw [decide_eq_false (by omega), cond_false]
      exact .inl ⟨_, rfl, rfl⟩) (s, 0) ⟨0, by omega, by simp⟩
  rw [h1, h2]
theorem str_snoc (c : Int) (ns : List Nat) (m : Nat) (hn : ns ≠ []) : strS c (ns ++ [m]) = (strS c ns ++ [46]) ++ List.replicate m c := by
  obtain ⟨n, ns, rfl⟩ := List.exists_cons_of_ne_nil hn
  show List.replicate n c ++ tailS c (ns ++ [m]) = _
  unfold tailS strS
  rw [List.flatMap_append]
  simp [tailS]
theorem str_len (c : Int) (ns : List Nat) : (strS c ns).length = ns.sum + (ns.length - 1) := by
  cases ns with
  | nil => rfl
  | cons n ns =>
    show (List.replicate n c ++ tailS c ns).length = _
    unfold tailS
    induction ns with
    | nil => simp
    | cons m ns ih =>
      simp at ih ⊢
      omega
theorem sum70 : ∀ (ns : List Nat), (∀ x ∈ ns, x ≤ 70) → ns.sum ≤ 70 * ns.length
  | [], _ => by simp
  | n :: ns, h => by
    have := sum70 ns fun x hx => h x (List.mem_cons_of_mem _ hx)
    have := h n List.mem_cons_self
    simp
    omega
structure Inv (l : List Int) (c : Int) (st : List Int × Bool × Int × Int) (ns : List Nat) : Prop where
  len : ns.length ≤ l.length
  eq : l.take ns.length = ns.map fun (n : Nat) => (n : Int)
  le : ∀ x ∈ ns, x ≤ 70
  st : st = (strS c ns, ns.all okN, ((l.length - 1 + ns.sum : Nat) : Int), (ns.length : Int))
theorem L11_end {l : List Int} {c : Int} (h1 : 1 ≤ l.length) (h10 : l.length ≤ 10) :
    ∃ r, loopC (F_wlvlaw16_HostNames_L11 l c) (([] : List Int), true, (IntKind.i64.wrap ((l.length : Int) - 1)), 0) = some r ∧ (r = .inl true ∨ ∃ ns : List Nat, ns.length = l.length ∧ (∀ x ∈ ns, x ≤ 70) ∧ r = .inr (strS c ns, ns.all okN, ((l.length - 1 + ns.sum : Nat) : Int))) := by
  refine loop_inv (body := F_wlvlaw16_HostNames_L11 l c) (I := fun st => ∃ ns, Inv l c st ns) (m := fun st => l.length - st.2.2.2.toNat) (Q := fun r => r = .inl true ∨ ∃ ns : List Nat, ns.length = l.length ∧ (∀ x ∈ ns, x ≤ 70) ∧ r = .inr (strS c ns, ns.all okN, ((l.length - 1 + ns.sum : Nat) : Int))) (fun st ⟨ns, hI⟩ => ?_) _ ⟨[], by simp, rfl, by simp, by rw [wrap_in (by omega) (by omega)]; simp [strS]; omega⟩
  obtain ⟨g1, g2, g3, rfl⟩ := hI
  unfold F_wlvlaw16_HostNames_L11
  dsimp only
  by_cases h : ns.length < l.length
  · obtain ⟨x, hx, hx2⟩ := getI_of (l := l) (j := (ns.length : Int)) (by omega) (by omega)
    rw [decide_eq_true (by omega), cond_true, hx, Option.bind_some]
    by_cases hb : x < 0 ∨ x > 70
    · have : (decide (x < 0) || decide (x > 70)) = true := by simpa using hb
      rw [this, cond_true, first16]
      exact .inl ⟨_, rfl, .inl rfl⟩
    · have : (decide (x < 0) || decide (x > 70)) = false := by simp; omega
      rw [this, cond_false]
      obtain ⟨m, rfl⟩ : ∃ m : Nat, x = (m : Int) := ⟨x.toNat, by omega⟩
      have hm : m ≤ 70 := by omega
      have hs := sum70 ns g3
      have hl := str_len c ns
      have hI' : Inv l c (strS c (ns ++ [m]), (ns ++ [m]).all okN, ((l.length - 1 + (ns ++ [m]).sum : Nat) : Int), ((ns ++ [m]).length : Int)) (ns ++ [m]) := by
        refine ⟨by simp; omega, ?_, ?_, rfl⟩
        · rw [List.length_append, List.map_append, ← g2]
          show l.take (ns.length + 1) = _
          rw [List.take_add_one]
          rw [Int.toNat_natCast] at hx2
          rw [hx2]
          rfl
        · intro y hy
          rcases List.mem_append.1 hy with hy | hy
          · exact g3 y hy
          · rw [List.mem_singleton.1 hy]; exact hm
      have e1 : (ns.all okN && decide ((m : Int) ≥ 1) && decide ((m : Int) ≤ 63)) = (ns ++ [m]).all okN := by
        rw [List.all_append, Bool.and_assoc]
        congr 1
        have e4 : decide ((m : Int) ≥ 1) = decide (1 ≤ m) := decide_eq_decide.2 (by omega)
        have e5 : decide ((m : Int) ≤ 63) = decide (m ≤ 63) := decide_eq_decide.2 (by omega)
        rw [e4, e5, List.all_cons, List.all_nil, Bool.and_true]
        rfl
      have e2 : IntKind.i64.wrap (((l.length - 1 + ns.sum : Nat) : Int) + (m : Int)) = ((l.length - 1 + (ns ++ [m]).sum : Nat) : Int) := by
        rw [wrap_in (by omega) (by omega)]
        simp
        omega
      have e3 : IntKind.i64.wrap ((ns.length : Int) + 1) = ((ns ++ [m]).length : Int) := by
        rw [wrap_in (by omega) (by omega)]
        simp
      refine .inr ⟨_, ?_, ⟨_, hI'⟩, ?_⟩
      · by_cases h0 : ns = []
        · subst h0
          rw [show (decide (((([] : List Nat).length : Nat) : Int) > 0)) = false from rfl, cond_false]
          rw [L23_end c m hm _ (by simp [strS])]
          unfold F_wlvlaw16_HostNames_J21 F_wlvlaw16_HostNames_J14
          show some _ = some _
          rw [show (([] : List Nat).all okN && decide ((m : Int) ≥ 1) && decide ((m : Int) ≤ 63)) = ([] ++ [m]).all okN from e1, e2, e3]
          congr 3
          show [] ++ List.replicate m c = List.replicate m c ++ []
          simp
        · have : ns.length ≥ 1 := List.length_pos_iff.2 h0
          rw [decide_eq_true (show ((ns.length : Nat) : Int) > 0 by omega), cond_true]
          unfold chk
          rw [Nat.ble_eq_true_of_le (show (strS c ns).length + ([46] : List Int).length ≤ maxLen by have : maxLen = 9223372036854775807 := rfl; simp; omega), cond_true]
          rw [L23_end c m hm _ (by rw [List.length_append]; show (strS c ns).length + 1 ≤ _; omega)]
          unfold F_wlvlaw16_HostNames_J21 F_wlvlaw16_HostNames_J14
          show some _ = some _
          rw [e1, e2, e3, str_snoc c ns m h0]
      · show l.length - (((ns ++ [m]).length : Nat) : Int).toNat < l.length - ((ns.length : Nat) : Int).toNat
        rw [Int.toNat_natCast, Int.toNat_natCast, List.length_append]
        show l.length - (ns.length + 1) < _
        omega
  · rw [decide_eq_false (by omega), cond_false]
    exact .inl ⟨_, rfl, .inr ⟨ns, by omega, g3, rfl⟩⟩
theorem letters : ∀ c ∈ ([97, 98, 99, 88, 89, 90, 48, 49, 57, 95] : List Int), ∃ d, Letter c d := by
  have key : ∀ c d : Int, F_host_sign c = some d → (d == 0 || d == 45 || c == 46) = false → ∃ d, Letter c d := fun c d h h2 => by
    simp at h2
    exact ⟨d, by unfold sg; rw [h]; rfl, h2.1.1, h2.1.2, h2.2⟩
  intro c hc
  simp only [List.mem_cons, List.not_mem_nil, or_false] at hc
  rcases hc with rfl | rfl | rfl | rfl | rfl | rfl | rfl | rfl | rfl | rfl
  · exact key _ 97 (by kernel_rfl) rfl
  · exact key _ 98 (by kernel_rfl) rfl
  · exact key _ 99 (by kernel_rfl) rfl
  · exact key _ 120 (by kernel_rfl) rfl
  · exact key _ 121 (by kernel_rfl) rfl
  · exact key _ 122 (by kernel_rfl) rfl
  · exact key _ 48 (by kernel_rfl) rfl
  · exact key _ 49 (by kernel_rfl) rfl
  · exact key _ 57 (by kernel_rfl) rfl
  · exact key _ 95 (by kernel_rfl) rfl
theorem J9_true {c : Int} (hc : ∃ d, Letter c d) {l : List Int} {ns : List Nat} (hn : ns.length = l.length) (h1 : 1 ≤ l.length) (h10 : l.length ≤ 10) (h70 : ∀ x ∈ ns, x ≤ 70) : F_wlvlaw16_HostNames_J9 (strS c ns, ns.all okN, ((l.length - 1 + ns.sum : Nat) : Int)) = some true := by
  obtain ⟨d, hd⟩ := hc
  have hne : ns ≠ [] := by intro e; subst e; simp at hn; omega
  have hs := sum70 ns h70
  have hl := str_len c ns
  obtain ⟨b, hb1, hb2⟩ := rule_name hd ns hne
  unfold F_wlvlaw16_HostNames_J9 chk
  dsimp only
  have hm : maxLen = 9223372036854775807 := rfl
  rw [name_eq, Option.bind_some, Nat.ble_eq_true_of_le (show ([45] : List Int).length + (strS c ns).length ≤ maxLen by simp; omega), cond_true]
  rw [name_eq, Option.bind_some, Nat.ble_eq_true_of_le (show (strS c ns).length + ([45] : List Int).length ≤ maxLen by simp; omega), cond_true]
  rw [name_eq, Option.bind_some, Nat.ble_eq_true_of_le (show (strS c ns).length + ([46] : List Int).length ≤ maxLen by simp; omega), cond_true]
  rw [name_eq, Option.bind_some, first16, Option.bind_some]
  rw [rule_dash, rule_bad hd bad45 ns hne, rule_bad hd bad46 ns hne, hb2]
  have e : decide (((l.length - 1 + ns.sum : Nat) : Int) ≤ 253) = decide ((strS c ns).length ≤ 253) := by
    rw [hl, ← hn]
    rw [decide_eq_decide]
    omega
  rw [e]
  cases h : (ns.all okN && decide ((strS c ns).length ≤ 253)) with
  | true =>
    show cond (true && bEq true true) (some (((((!true) || ((b.length : Int) == ((strS c ns).length : Int))) && _) && _) && _)) _ = _
    rw [hb1]
    simp [bEq]
  | false => rfl
theorem HostNames_true (l1 : List Int) (i2 : Int) (h0 : (Lit.int .u8 i2).wf = true) : F_wlvlaw16_HostNames l1 i2 = some true := by
  have hi := byte_of h0
  unfold F_wlvlaw16_HostNames
  rw [first16, Option.bind_some, Bool.not_true, cond_false, Option.bind_some]
  by_cases h : (l1.length : Int) < 1 ∨ (l1.length : Int) > 10
  · have : (decide ((l1.length : Int) < 1) || decide ((l1.length : Int) > 10)) = true := by simpa using h
    rw [this, cond_true]
  · have : (decide ((l1.length : Int) < 1) || decide ((l1.length : Int) > 10)) = false := by simp; omega
    rw [this, cond_false]
    have a1 := Int.tmod_nonneg (10 : Int) hi.1
    have a2 := Int.tmod_lt_of_pos i2 (show (0 : Int) < 10 by omega)
    obtain ⟨c, hc, hc2⟩ := getI_of (l := ([97, 98, 99, 88, 89, 90, 48, 49, 57, 95] : List Int)) (j := Int.tmod i2 10) a1 (by simp; omega)
    rw [hc, Option.bind_some]
    have hcl := letters c (List.mem_of_getElem? hc2)
    obtain ⟨r, hr, hq⟩ := L11_end (l := l1) (c := c) (by omega) (by omega)
    rw [hr]
    rcases hq with rfl | ⟨ns, q1, q2, rfl⟩
    · rfl
    · exact J9_true hcl q1 (by omega) (by omega) q2
end Go.Proofs.YtblngdnndkljoaaDoor
