/- The bits of an address that count. -/
import Derived.Test.YtngjmippejkleaaGreatDoorQAcl
import Derived.Test.YtngjmippejkleaaGreatDoorQb
import Derived.Laws.BitsLemmas
import Derived.KernelRfl
namespace Go.Proofs.YtngjmippejkleaaGreatDoor
open Pv
set_option linter.unusedVariables false
theorem cutI_nat {α : Type} {s : List α} {a b : Nat} (h1 : a ≤ b) (h2 : b ≤ s.length) : cutI s (a : Int) (b : Int) = some ((s.take b).drop a) := by
  unfold cutI
  rw [decide_eq_true (show (0 : Int) ≤ (a : Int) by omega), decide_eq_true (show (a : Int) ≤ (b : Int) by omega), decide_eq_true (show (b : Int) ≤ (s.length : Int) by omega)]
  rfl
theorem getI_nat {α : Type} {s : List α} {i : Nat} {x : α} (h : s[i]? = some x) : getI s (i : Int) = some x := by
  unfold getI
  rw [decide_eq_true (by omega), cond_true, Int.toNat_natCast, h]
def isB (x : Int) : Prop := 0 ≤ x ∧ x < 256
/-- A byte's bit, the highest first. -/
def bitI (x : Int) (j : Nat) : Int := x / 2 ^ (7 - j) % 2
def bitAt (s : List Int) (i : Nat) : Int := bitI (s.getD (i / 8) 0) (i % 8)
def keepB (x : Int) (k : Nat) : Int := x / 2 ^ (8 - k) * 2 ^ (8 - k)
def nbits (b : Int) (i : Nat) : Nat := min (b - 8 * i).toNat 8
def keptL (b : Int) : Nat → List Int → List Int
  | _, [] => []
  | i, x :: r => keepB x (nbits b i) :: keptL b (i + 1) r
theorem mask_all : (List.range 256).all (fun x => (List.range 9).all fun k => bits .and .u8 (x : Int) (IntKind.u8.wrap (Int.fdiv 65280 (2 ^ (min k 64)))) == keepB x k) = true := by kernel_rfl
theorem mask_eq {x : Int} (hx : isB x) {k : Nat} (hk : k ≤ 8) : bits .and .u8 x (IntKind.u8.wrap (Int.fdiv 65280 (2 ^ (min k 64)))) = keepB x k := by
  have h := List.all_eq_true.1 (List.all_eq_true.1 mask_all x.toNat (List.mem_range.2 (by obtain ⟨_, _⟩ := hx; omega))) k (List.mem_range.2 (by omega))
  have e : ((x.toNat : Nat) : Int) = x := Int.toNat_of_nonneg hx.1
  rw [e] at h
  exact beq_iff_eq.1 h
theorem nb_eq (b : Int) (i : Nat) (hb : -1000000 ≤ b ∧ b ≤ 1000000) (hi : i ≤ 1000000) : (minI (maxI (IntKind.i64.wrap (b - (IntKind.i64.wrap (8 * (i : Int))))) 0) 8) = (nbits b i : Int) := by
  rw [wrap_in (x := 8 * (i : Int)) (by omega) (by omega), wrap_in (by omega) (by omega)]
  unfold minI maxI nbits
  by_cases h : (0 : Int) > b - 8 * i
  · rw [decide_eq_true h, cond_true, decide_eq_false (by omega), cond_false]; omega
  · rw [decide_eq_false h, cond_false]
    by_cases h8 : (8 : Int) < b - 8 * i
    · rw [decide_eq_true h8, cond_true]; omega
    · rw [decide_eq_false h8, cond_false]; omega
theorem set_mid (pre : List Int) (x v : Int) (r : List Int) : (pre ++ x :: r).set pre.length v = pre ++ v :: r := by
  rw [List.set_append_right _ _ (Nat.le_refl _), Nat.sub_self]; rfl
theorem kept_loop (s : List Int) (b : Int) (hb : -1000000 ≤ b ∧ b ≤ 1000000) (hs : s.length ≤ 1000000) : ∀ (r pre : List Int), s.length = pre.length + r.length → (∀ x ∈ r, isB x) → loopC (F_addr_kept_L4 s b) ((pre.length : Int), pre ++ r) = some (.inr (pre ++ keptL b pre.length r))
  | [], pre, hl, _ => by
    refine loop_inl ?_
    unfold F_addr_kept_L4
    dsimp only
    rw [decide_eq_false (by rw [hl]; simp), cond_false]
    rfl
  | x :: r, pre, hl, hr => by
    have hl' : s.length = pre.length + (r.length + 1) := hl
    have ih := kept_loop s b hb hs r (pre ++ [keepB x (nbits b pre.length)]) (by rw [List.length_append]; simp; omega) (fun y hy => hr y (List.mem_cons_of_mem _ hy))
    refine loop_inr (s' := (((pre ++ [keepB x (nbits b pre.length)]).length : Int), (pre ++ [keepB x (nbits b pre.length)]) ++ r)) ?_ (ih.trans ?_)
    · unfold F_addr_kept_L4 chk
      dsimp only
      have h1 : (decide ((0 : Int) ≤ (pre.length : Int)) && decide ((pre.length : Int) < (s.length : Int))) = true := by simp; omega
      have h2 : decide ((pre.length : Int) < (s.length : Int)) = true := decide_eq_true (by omega)
      have hg : getI (pre ++ x :: r) (pre.length : Int) = some x := getI_nat (by simp)
      have h3 : decide ((pre.length : Int) < ((pre ++ x :: r).length : Int)) = true := decide_eq_true (by rw [List.length_append, List.length_cons]; omega)
      rw [h1, h2, cond_true, cond_true, hg, Option.bind_some, nb_eq b pre.length hb (by omega), decide_eq_true (show (0 : Int) ≤ (nbits b pre.length : Int) by omega), cond_true, cond_true, h3, cond_true]
      rw [Int.toNat_natCast, Int.toNat_natCast, mask_eq (hr x List.mem_cons_self) (show nbits b pre.length ≤ 8 by unfold nbits; omega), set_mid, wrap_in (by omega) (by omega)]
      have e : ((pre ++ [keepB x (nbits b pre.length)]).length : Int) = (pre.length : Int) + 1 := by rw [List.length_append]; simp
      rw [e, List.append_assoc]; rfl
    · rw [show (pre ++ [keepB x (nbits b pre.length)]).length = pre.length + 1 by simp, List.append_assoc]
      rfl
theorem keptL_len (b : Int) : ∀ (r : List Int) (i : Nat), (keptL b i r).length = r.length
  | [], _ => rfl
  | _ :: r, i => by show (keptL b (i + 1) r).length + 1 = _; rw [keptL_len b r]; rfl
theorem kept_eq (s : List Int) (b : Int) (hb : -1000000 ≤ b ∧ b ≤ 1000000) (hs : s.length ≤ 1000000) (hB : ∀ x ∈ s, isB x) : F_addr_kept s b = some (keptL b 0 s) := by
  have h : loopC (F_addr_kept_L4 s b) (0, s) = some (.inr (keptL b 0 s)) := kept_loop s b hb hs s [] (by simp) hB
  unfold F_addr_kept
  rw [join_inr (s := keptL b 0 s) h]
  unfold F_addr_kept_J2
  dsimp only
  have hl := keptL_len b s 0
  rw [show Nat.ble s.length (List.length (keptL b 0 s)) = true from Nat.ble_eq_true_of_le (Nat.le_of_eq hl.symm)]
  unfold chk
  rw [cond_true, List.take_of_length_le (Nat.le_of_eq hl)]
theorem pow_half (k : Nat) (hk : k ≤ 7) (x : Int) : x / 2 ^ (8 - k) = x / 2 ^ (7 - k) / 2 := by
  have hp : (0 : Int) < 2 ^ (7 - k) := Int.pow_pos (by decide)
  rw [show 8 - k = (7 - k) + 1 by omega, Int.pow_succ]
  exact (Int.ediv_ediv_of_nonneg (by omega)).symm
theorem div_iff {x y : Int} (hx : isB x) (hy : isB y) : ∀ k : Nat, k ≤ 8 → (x / 2 ^ (8 - k) = y / 2 ^ (8 - k) ↔ ∀ j, j < k → bitI x j = bitI y j)
  | 0, _ => by
    obtain ⟨a, b⟩ := hx
    obtain ⟨c, d⟩ := hy
    refine ⟨fun _ j hj => absurd hj (Nat.not_lt_zero j), fun _ => ?_⟩
    show x / 256 = y / 256
    omega
  | k + 1, hk => by
    have ih := div_iff hx hy k (by omega)
    have px := pow_half k (by omega) x
    have py := pow_half k (by omega) y
    have hsub : 8 - (k + 1) = 7 - k := by omega
    rw [hsub]
    constructor
    · intro h j hj
      rcases Nat.lt_or_eq_of_le (Nat.le_of_lt_succ hj) with hlt | rfl
      · exact ih.1 (by rw [px, py, h]) j hlt
      · unfold bitI; rw [h]
    · intro h
      have h1 := ih.2 fun j hj => h j (by omega)
      have h2 := h k (by omega)
      unfold bitI at h2
      rw [px, py] at h1
      omega
theorem keepB_iff {x y : Int} (hx : isB x) (hy : isB y) (k : Nat) (hk : k ≤ 8) : keepB x k = keepB y k ↔ ∀ j, j < k → bitI x j = bitI y j := by
  rw [← div_iff hx hy k hk]
  unfold keepB
  have hp : (0 : Int) < 2 ^ (8 - k) := Int.pow_pos (by decide)
  exact ⟨fun h => Int.eq_of_mul_eq_mul_right (by omega) h, fun h => by rw [h]⟩
theorem kept_iff (b : Int) : ∀ (s t : List Int) (i : Nat), s.length = t.length → (∀ x ∈ s, isB x) → (∀ x ∈ t, isB x) → (keptL b i s = keptL b i t ↔ ∀ j : Nat, j < 8 * s.length → ((8 * i + j : Nat) : Int) < b → bitAt s j = bitAt t j)
  | [], [], i, _, _, _ => ⟨fun _ j hj => by simp at hj, fun _ => rfl⟩
  | [], _ :: _, _, h, _, _ => by cases h
  | _ :: _, [], _, h, _, _ => by cases h
  | x :: s, y :: t, i, hl, hs, ht => by
    have ih := kept_iff b s t (i + 1) (by simpa using hl) (fun x hx => hs x (List.mem_cons_of_mem _ hx)) (fun x hx => ht x (List.mem_cons_of_mem _ hx))
    have hk := keepB_iff (hs x List.mem_cons_self) (ht y List.mem_cons_self) (nbits b i) (by unfold nbits; omega)
    have hat : ∀ (z : Int) (u : List Int) (j : Nat), bitAt (z :: u) (j + 8) = bitAt u j := fun z u j => by
      unfold bitAt
      rw [show (j + 8) / 8 = j / 8 + 1 by omega, show (j + 8) % 8 = j % 8 by omega]
      rfl
    have ha0 : ∀ (z : Int) (u : List Int) (j : Nat), j < 8 → bitAt (z :: u) j = bitI z j := fun z u j hj => by
      unfold bitAt
      rw [show j / 8 = 0 by omega, show j % 8 = j by omega]
      rfl
    show keepB x (nbits b i) :: keptL b (i + 1) s = keepB y (nbits b i) :: keptL b (i + 1) t ↔ _
    rw [List.cons.injEq, hk, ih, List.length_cons]
    constructor
    · rintro ⟨h1, h2⟩ j hj hb
      rcases Nat.lt_or_ge j 8 with h8 | h8
      · rw [ha0 x s j h8, ha0 y t j h8]
        exact h1 j (by unfold nbits; omega)
      · obtain ⟨j', rfl⟩ : ∃ j', j = j' + 8 := ⟨j - 8, by omega⟩
        rw [hat, hat]
        exact h2 j' (by omega) (by omega)
    · intro h
      refine ⟨fun j hj => ?_, fun j hj hb => ?_⟩
      · have hj8 : j < 8 := by unfold nbits at hj; omega
        have := h j (by omega) (by unfold nbits at hj; omega)
        rwa [ha0 x s j hj8, ha0 y t j hj8] at this
      · have := h (j + 8) (by omega) (by omega)
        rwa [hat, hat] at this
/-- Two addresses of one length. -/
theorem In_eq (s t : List Int) (b : Int) (hl : s.length = 4 ∨ s.length = 16) (hs : ∀ x ∈ s, isB x) (ht : ∀ x ∈ t, isB x) (ht16 : t.length ≤ 1000000) :
    F_addr_In s b t = some (decide (t.length = s.length) && decide (0 ≤ b) && decide (b ≤ 8 * s.length) && (keptL b 0 t == keptL b 0 s)) := by
  have key : ∀ n : Nat, s.length = n → (n = 4 ∨ n = 16) → (cond ((t.length : Int) == (s.length : Int)) (cond (decide (b ≥ 0)) (cond (decide (b ≤ (IntKind.i64.wrap (8 * (t.length : Int))))) ((F_addr_kept t b).bind fun s4 => (F_addr_kept s b).bind fun s5 => some (s4 == s5)) (some false)) (some false)) (some false))
      = some (decide (t.length = s.length) && decide (0 ≤ b) && decide (b ≤ 8 * s.length) && (keptL b 0 t == keptL b 0 s)) := fun n hn hc => by
    by_cases h1 : t.length = s.length
    · rw [beq_iff_eq.2 (show (t.length : Int) = (s.length : Int) by omega), cond_true, decide_eq_true h1]
      by_cases h2 : 0 ≤ b
      · rw [decide_eq_true (show b ≥ 0 from h2), cond_true, wrap_in (by omega) (by omega)]
        by_cases h3 : b ≤ 8 * (s.length : Int)
        · rw [decide_eq_true (show b ≤ 8 * (t.length : Int) by omega), cond_true, decide_eq_true h3, kept_eq t b (by omega) (by omega) ht, kept_eq s b (by omega) (by omega) hs]
          rfl
        · rw [decide_eq_false (show ¬ b ≤ 8 * (t.length : Int) by omega), cond_false, decide_eq_false h3]; rfl
      · rw [decide_eq_false (show ¬ b ≥ 0 from h2), cond_false]; rfl
    · rw [beq_eq_false_iff_ne.2 (show (t.length : Int) ≠ (s.length : Int) by omega), cond_false, decide_eq_false h1]; rfl
  unfold F_addr_In
  rcases hl with h4 | h4
  · rw [beq_iff_eq.2 (show (s.length : Int) = 4 by omega), cond_true]
    exact key 4 h4 (.inl rfl)
  · rw [beq_eq_false_iff_ne.2 (show (s.length : Int) ≠ 4 by omega), cond_false, beq_iff_eq.2 (show (s.length : Int) = 16 by omega), cond_true]
    exact key 16 h4 (.inr rfl)
end Go.Proofs.YtngjmippejkleaaGreatDoor
