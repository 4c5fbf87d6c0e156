/- The constants of sha, off both roads. -/
import Derived.Test.YtgcgdfjldeihkaaQSha
import Derived.Test.YtgcgdfjldeihkaaQb
namespace Go.Proofs.Ytgcgdfjldeihkaa
open Pv
set_option linter.unusedVariables false
theorem wr64 {x : Int} (h0 : -9223372036854775808 ≤ x) (h1 : x ≤ 9223372036854775807) : IntKind.i64.wrap x = x := wrap_in h0 h1
theorem gI_nat {α : Type} {s : List α} {i : Nat} {x : α} (h : s[i]? = some x) : getI s (i : Int) = some x := by
  unfold getI
  rw [decide_eq_true (Int.natCast_nonneg i), Int.toNat_natCast, h]; rfl
theorem gI_D {s : List Int} {i : Nat} (h : i < s.length) : getI s (i : Int) = some (s.getD i 0) := gI_nat (by rw [List.getD_eq_getElem?_getD, List.getElem?_eq_getElem h]; rfl)
/-! ### the first way -/
noncomputable def okF (p : Int) (b : Bool) (x : Int) : Bool := match iterC (F_sha_fraction_L4 p b) 38 (0, 68719476736) with
  | some (.inr y) => IntKind.u32.wrap y == x
  | _ => false
theorem frac_of {p x : Int} {b : Bool} (h : okF p b x = true) : F_sha_fraction p b = some x := by
  unfold okF at h
  unfold F_sha_fraction
  cases hi : iterC (F_sha_fraction_L4 p b) 38 (0, 68719476736) with
  | none => rw [hi] at h; cases h
  | some r =>
    rw [hi] at h
    cases r with
    | inl r => cases h
    | inr y =>
      rw [join_inr (loop_of_iter hi)]
      unfold F_sha_fraction_J2
      dsimp only
      rw [beq_iff_eq.1 h]
set_option maxRecDepth 100000 in
theorem tab_K : (List.range 64).all (fun i => okF (P64.getD i 0) true (K64.getD i 0)) = true := by kernel_rfl
set_option maxRecDepth 100000 in
theorem tab_H : (List.range 8).all (fun i => okF (P64.getD i 0) false (H8.getD i 0)) = true := by kernel_rfl
theorem frac_K {i : Nat} (h : i < 64) : F_sha_fraction (P64.getD i 0) true = some (K64.getD i 0) := frac_of (List.all_eq_true.1 tab_K i (List.mem_range.2 h))
theorem frac_H {i : Nat} (h : i < 8) : F_sha_fraction (P64.getD i 0) false = some (H8.getD i 0) := frac_of (List.all_eq_true.1 tab_H i (List.mem_range.2 h))
/-! ### the second way: loops told by how often they run -/
theorem iter_mono {S R : Type} {f g : S → Option (R ⊕ S)} (h : ∀ s r, f s = some r → g s = some r) : ∀ (n : Nat) (s : S) (r : R), iterC f n s = some r → iterC g n s = some r
  | 0, s, r, e => by unfold iterC at e; cases e
  | n + 1, s, r, e => by
    unfold iterC at e ⊢
    cases hf : f s with
    | none => rw [hf] at e; cases e
    | some x =>
      rw [hf] at e
      rw [h s x hf]
      cases x with
      | inl x => exact e
      | inr x => exact iter_mono h n x r e
/-- A digit times digits, on to others from a place; all of them. -/
def tIn (ai : Int) (i : Nat) : List Int → Nat → Int → List Int → List Int × Int
  | [], _, c, out => (out, c)
  | b :: r, j, c, out => tIn ai i r (j + 1) (Int.fdiv (IntKind.u64.wrap (IntKind.u64.wrap (out.getD (i + j) 0 + IntKind.u64.wrap (ai * b)) + c)) (2 ^ 16))
      (out.set (i + j) (bits .and .u64 (IntKind.u64.wrap (IntKind.u64.wrap (out.getD (i + j) 0 + IntKind.u64.wrap (ai * b)) + c)) 65535))
def tOut (bs : List Int) : List Int → Nat → List Int → List Int
  | [], _, out => out
  | a :: r, i, out => tOut bs r (i + 1) ((tIn a i bs 0 0 out).1.set (i + bs.length) (IntKind.u64.wrap ((tIn a i bs 0 0 out).1.getD (i + bs.length) 0 + (tIn a i bs 0 0 out).2)))
theorem tIn_len (ai : Int) (i : Nat) : ∀ (bs : List Int) (j : Nat) (c : Int) (out : List Int), (tIn ai i bs j c out).1.length = out.length
  | [], _, _, _ => rfl
  | b :: r, j, c, out => by
    unfold tIn
    rw [tIn_len ai i r, List.length_set]
theorem tOut_len (bs : List Int) : ∀ (l : List Int) (i : Nat) (out : List Int), (tOut bs l i out).length = out.length
  | [], _, _ => rfl
  | a :: r, i, out => by
    unfold tOut
    rw [tOut_len bs r, List.length_set, tIn_len]
theorem ck_s {α : Type} {b : Bool} (h : b = true) (x : Option α) : chk b x = x := by rw [h]; rfl
theorem in_eq (l1 l2 : List Int) (i : Nat) (hi : i < l1.length) (h1 : l1.length ≤ 100) (h2 : l2.length ≤ 100) : ∀ (k j : Nat) (c : Int) (out : List Int), j + k = l2.length → out.length = l1.length + l2.length →
    loopC (F_wlvref1_times_L11 l1 l2 (i : Int)) (c, (j : Int), out) = some (.inr ((tIn (l1.getD i 0) i (l2.drop j) j c out).2, (tIn (l1.getD i 0) i (l2.drop j) j c out).1))
  | 0, j, c, out, hj, ho => by
    refine loop_inl ?_
    unfold F_wlvref1_times_L11
    dsimp only
    rw [decide_eq_false (by omega), cond_false, List.drop_of_length_le (by omega)]
    rfl
  | k + 1, j, c, out, hj, ho => by
    have hd : l2.drop j = l2.getD j 0 :: l2.drop (j + 1) := by
      rw [List.drop_eq_getElem_cons (by omega), List.getD_eq_getElem?_getD, List.getElem?_eq_getElem (by omega)]; rfl
    have hw : IntKind.i64.wrap ((i : Int) + (j : Int)) = ((i + j : Nat) : Int) := wr64 (by omega) (by omega)
    have hw2 : IntKind.i64.wrap ((j : Int) + 1) = ((j + 1 : Nat) : Int) := wr64 (by omega) (by omega)
    have hN : (List.length (List.replicate ((IntKind.i64.wrap ((l1.length : Int) + (l2.length : Int)))).toNat (0 : Int))) = l1.length + l2.length := by
      rw [List.length_replicate, wr64 (by omega) (by omega)]; omega
    have ih := in_eq l1 l2 i hi h1 h2 k (j + 1) (Int.fdiv (IntKind.u64.wrap (IntKind.u64.wrap (out.getD (i + j) 0 + IntKind.u64.wrap (l1.getD i 0 * l2.getD j 0)) + c)) (2 ^ 16)) (out.set (i + j) (bits .and .u64 (IntKind.u64.wrap (IntKind.u64.wrap (out.getD (i + j) 0 + IntKind.u64.wrap (l1.getD i 0 * l2.getD j 0)) + c)) 65535)) (by omega) (by rw [List.length_set]; exact ho)
    rw [hd]
    unfold tIn
    refine loop_inr ?_ ih
    unfold F_wlvref1_times_L11
    dsimp only
    rw [decide_eq_true (show (j : Int) < (l2.length : Int) by omega), cond_true, hw, hN, ck_s (by rw [decide_eq_true (by omega), decide_eq_true (by omega)]; rfl), gI_D (by omega), Option.bind_some, gI_D hi, Option.bind_some, gI_D (by omega), Option.bind_some, ck_s (by rw [decide_eq_true (by omega), decide_eq_true (by omega)]; rfl), ck_s (decide_eq_true (by omega)), hw2, Int.toNat_natCast]
theorem out_eq (l1 l2 : List Int) (h1 : l1.length ≤ 100) (h2 : l2.length ≤ 100) : ∀ (k i : Nat) (out : List Int), i + k = l1.length → out.length = l1.length + l2.length → loopC (F_wlvref1_times_L4 l1 l2) ((i : Int), out) = some (.inr (tOut l2 (l1.drop i) i out))
  | 0, i, out, hi, ho => by
    refine loop_inl ?_
    unfold F_wlvref1_times_L4
    dsimp only
    rw [decide_eq_false (by omega), cond_false, List.drop_of_length_le (by omega)]
    rfl
  | k + 1, i, out, hi, ho => by
    have hd : l1.drop i = l1.getD i 0 :: l1.drop (i + 1) := by
      rw [List.drop_eq_getElem_cons (by omega), List.getD_eq_getElem?_getD, List.getElem?_eq_getElem (by omega)]; rfl
    have hw : IntKind.i64.wrap ((i : Int) + (l2.length : Int)) = ((i + l2.length : Nat) : Int) := wr64 (by omega) (by omega)
    have hw2 : IntKind.i64.wrap ((i : Int) + 1) = ((i + 1 : Nat) : Int) := wr64 (by omega) (by omega)
    have hN : (List.length (List.replicate ((IntKind.i64.wrap ((l1.length : Int) + (l2.length : Int)))).toNat (0 : Int))) = l1.length + l2.length := by
      rw [List.length_replicate, wr64 (by omega) (by omega)]; omega
    have hin := in_eq l1 l2 i (by omega) h1 h2 l2.length 0 0 out (by omega) ho
    rw [List.drop_zero] at hin
    have hlen := tIn_len (l1.getD i 0) i l2 0 0 out
    have ih := out_eq l1 l2 h1 h2 k (i + 1) ((tIn (l1.getD i 0) i l2 0 0 out).1.set (i + l2.length) (IntKind.u64.wrap ((tIn (l1.getD i 0) i l2 0 0 out).1.getD (i + l2.length) 0 + (tIn (l1.getD i 0) i l2 0 0 out).2))) (by omega) (by rw [List.length_set, hlen]; exact ho)
    rw [hd]
    unfold tOut
    refine loop_inr ?_ ih
    unfold F_wlvref1_times_L4
    dsimp only
    rw [decide_eq_true (show (i : Int) < (l1.length : Int) by omega), cond_true]
    generalize tIn (l1.getD i 0) i l2 0 0 out = q at hin hlen
    have hJ : joinC (S := Int × List Int) (R := (((List Int) ⊕ (List Int)) ⊕ (Int × List Int)) ⊕ (List Int)) (loopC (S := Int × Int × List Int) (R := ((((List Int) ⊕ (List Int)) ⊕ (Int × List Int)) ⊕ (List Int)) ⊕ (Int × List Int)) (F_wlvref1_times_L11 l1 l2 (i : Int)) (0, 0, out)) (F_wlvref1_times_J9 l1 l2 (i : Int)) = some (.inr (q.1.set (i + l2.length) (IntKind.u64.wrap (q.1.getD (i + l2.length) 0 + q.2)))) := by
      refine (join_inr hin).trans ?_
      unfold F_wlvref1_times_J9
      dsimp only
      rw [hw, hN, ck_s (by rw [decide_eq_true (by omega), decide_eq_true (by omega)]; rfl), gI_D (by omega), Option.bind_some, ck_s (by rw [decide_eq_true (by omega), decide_eq_true (by omega)]; rfl), ck_s (decide_eq_true (by omega)), Int.toNat_natCast]
    rw [join_inr hJ]
    unfold F_wlvref1_times_J7
    dsimp only
    rw [hw2]
theorem times_eq {l1 l2 : List Int} (h0 : 0 < l1.length) (h1 : l1.length ≤ 100) (h2 : l2.length ≤ 100) : F_wlvref1_times l1 l2 = some (tOut l2 l1 0 (List.replicate (l1.length + l2.length) 0)) := by
  have hw : IntKind.i64.wrap ((l1.length : Int) + (l2.length : Int)) = ((l1.length + l2.length : Nat) : Int) := wr64 (by omega) (by omega)
  have hm : maxLen = 9223372036854775807 := rfl
  have ho := out_eq l1 l2 h1 h2 l1.length 0 (List.replicate (l1.length + l2.length) 0) (by omega) List.length_replicate
  rw [List.drop_zero] at ho
  have hl := tOut_len l2 l1 0 (List.replicate (l1.length + l2.length) 0)
  rw [List.length_replicate] at hl
  unfold F_wlvref1_times
  rw [hw, Int.toNat_natCast, ck_s (by rw [decide_eq_true (by omega), decide_eq_true (by omega), decide_eq_true (by omega), decide_eq_true (by omega)]; rfl)]
  refine (join_inr ho).trans ?_
  unfold F_wlvref1_times_J2
  dsimp only
  rw [hw, Int.toNat_natCast, List.length_replicate, hl, ck_s (by rw [Nat.ble_eq_true_of_le (Nat.le_refl _)]; rfl), List.take_of_length_le (by omega)]
def gTimes (l1 l2 : List Int) : Option (List Int) := cond (Nat.blt 0 l1.length && Nat.ble l1.length 100 && Nat.ble l2.length 100) (some (tOut l2 l1 0 (List.replicate (l1.length + l2.length) 0))) none
theorem times_of {l1 l2 l : List Int} (h : gTimes l1 l2 = some l) : F_wlvref1_times l1 l2 = some l := by
  unfold gTimes at h
  cases hc : (Nat.blt 0 l1.length && Nat.ble l1.length 100 && Nat.ble l2.length 100) with
  | false => rw [hc] at h; cases h
  | true =>
    rw [hc, cond_true] at h
    simp only [Bool.and_eq_true, Nat.blt_eq] at hc
    rw [times_eq hc.1.1 (Nat.le_of_ble_eq_true hc.1.2) (Nat.le_of_ble_eq_true hc.2)]
    exact h
noncomputable def gPow_L (k : Int) (s : List Int × List Int × Int) : Option (((List Int) ⊕ (List Int)) ⊕ (List Int × List Int × Int)) :=
  cond (decide (s.2.2 < k)) ((gTimes s.1 s.2.1).bind fun l6 => some (.inr (l6, s.2.1, IntKind.i64.wrap (s.2.2 + 1)))) (some (.inl (.inr s.1)))
theorem powL_of (k : Int) (s : List Int × List Int × Int) (r : ((List Int) ⊕ (List Int)) ⊕ (List Int × List Int × Int)) (h : gPow_L k s = some r) : F_wlvref1_power_L5 k s = some r := by
  unfold gPow_L at h
  unfold F_wlvref1_power_L5
  dsimp only
  cases h0 : decide (s.2.2 < k) with
  | false => rw [h0] at h; exact h
  | true =>
    rw [h0, cond_true] at h
    rw [cond_true]
    obtain ⟨l, e1, h⟩ := Option.bind_eq_some_iff.1 h
    rw [times_of e1, Option.bind_some]
    exact h
noncomputable def gPow (x k : Int) : Option (List Int) := match iterC (gPow_L k) 4 (([1] : List Int), ([(bits .and .u64 x 65535), (bits .and .u64 (Int.fdiv x (2 ^ 16)) 65535), (Int.fdiv x (2 ^ 32))] : List Int), 0) with
  | some (.inr l) => some l
  | _ => none
theorem pow_of {x k : Int} {l : List Int} (h : gPow x k = some l) : F_wlvref1_power x k = some l := by
  unfold gPow at h
  unfold F_wlvref1_power
  cases hi : iterC (gPow_L k) 4 (([1] : List Int), ([(bits .and .u64 x 65535), (bits .and .u64 (Int.fdiv x (2 ^ 16)) 65535), (Int.fdiv x (2 ^ 32))] : List Int), 0) with
  | none => rw [hi] at h; cases h
  | some r =>
    rw [hi] at h
    cases r with
    | inl r => cases h
    | inr y =>
      rw [join_inr (loop_of_iter (iter_mono (powL_of k) 4 _ _ hi))]
      exact h
noncomputable def gBel (l : List Int) (p k : Int) : Option Bool := match iterC (F_wlvref1_below_L4 l k) 20 (0, (IntKind.i64.wrap ((l.length : Int) - 1))) with
  | some (.inl b) => some b
  | some (.inr t) => cond (t != (IntKind.u64.wrap p)) (some (decide (t < (IntKind.u64.wrap p)))) (match iterC (F_wlvref1_below_L16 l k) 20 0 with
    | some (.inl b) => some b
    | some (.inr _) => some true
    | none => none)
  | none => none
theorem bel_of {l : List Int} {p k : Int} {b : Bool} (h : gBel l p k = some b) : F_wlvref1_below l p k = some b := by
  unfold gBel at h
  unfold F_wlvref1_below
  cases hi : iterC (F_wlvref1_below_L4 l k) 20 (0, (IntKind.i64.wrap ((l.length : Int) - 1))) with
  | none => rw [hi] at h; cases h
  | some r =>
    rw [hi] at h
    cases r with
    | inl r =>
      have h : some r = some b := h
      injection h with h
      rw [join_inl (loop_of_iter hi), h]
    | inr t =>
      rw [join_inr (loop_of_iter hi)]
      unfold F_wlvref1_below_J2
      dsimp only at h ⊢
      cases hc : t != IntKind.u64.wrap p with
      | true =>
        rw [hc] at h
        exact h
      | false =>
        rw [hc, cond_false] at h
        rw [cond_false]
        cases hj : iterC (F_wlvref1_below_L16 l k) 20 0 with
        | none => rw [hj] at h; cases h
        | some r =>
          rw [hj] at h
          cases r with
          | inl r =>
            have h : some r = some b := h
            injection h with h
            rw [join_inl (loop_of_iter hj), h]
          | inr u =>
            have h : some true = some b := h
            rw [join_inr (loop_of_iter hj)]
            exact h
noncomputable def gRoot_L (p k : Int) (s : Int × Int) : Option (((Int) ⊕ (Int)) ⊕ (Int × Int)) :=
  cond (decide (s.2 ≥ 0))
  (chk (decide (0 ≤ (IntKind.u64.wrap s.2)))
    ((gPow (bits .or .u64 s.1 (IntKind.u64.wrap (1 * 2 ^ (min ((IntKind.u64.wrap s.2)).toNat 64)))) k).bind fun l5 =>
      (gBel l5 p k).bind fun b6 =>
      cond b6
      (some (.inr ((bits .or .u64 s.1 (IntKind.u64.wrap (1 * 2 ^ (min ((IntKind.u64.wrap s.2)).toNat 64)))), (IntKind.i64.wrap (s.2 - 1)))))
      (some (.inr (s.1, (IntKind.i64.wrap (s.2 - 1)))))))
  (some (.inl (.inr s.1)))
theorem rootL_of (p k : Int) (s : Int × Int) (r : ((Int) ⊕ (Int)) ⊕ (Int × Int)) (h : gRoot_L p k s = some r) : F_wlvref1_root_L4 p k s = some r := by
  unfold gRoot_L at h
  unfold F_wlvref1_root_L4
  dsimp only
  cases h0 : decide (s.2 ≥ 0) with
  | false => rw [h0] at h; exact h
  | true =>
    rw [h0, cond_true] at h
    rw [cond_true]
    unfold chk at h ⊢
    cases h1 : decide (0 ≤ IntKind.u64.wrap s.2) with
    | false => rw [h1] at h; cases h
    | true =>
      rw [h1, cond_true] at h
      rw [cond_true]
      obtain ⟨l, e1, h⟩ := Option.bind_eq_some_iff.1 h
      rw [pow_of e1, Option.bind_some]
      obtain ⟨b, e2, h⟩ := Option.bind_eq_some_iff.1 h
      rw [bel_of e2, Option.bind_some]
      exact h
noncomputable def okR (p k x : Int) : Bool := match iterC (gRoot_L p k) 38 (0, 36) with
  | some (.inr y) => IntKind.u32.wrap y == x
  | _ => false
theorem root_of {p k x : Int} (h : okR p k x = true) : F_wlvref1_root p k = some x := by
  unfold okR at h
  unfold F_wlvref1_root
  cases hi : iterC (gRoot_L p k) 38 (0, 36) with
  | none => rw [hi] at h; cases h
  | some r =>
    rw [hi] at h
    cases r with
    | inl r => cases h
    | inr y =>
      rw [join_inr (loop_of_iter (iter_mono (rootL_of p k) 38 _ _ hi))]
      unfold F_wlvref1_root_J2
      dsimp only
      rw [beq_iff_eq.1 h]
set_option maxRecDepth 100000 in
theorem tab_R2 : (List.range 8).all (fun i => okR (P64.getD i 0) 2 (H8.getD i 0)) = true := by kernel_rfl
set_option maxRecDepth 100000 in
theorem tab_R3a : (List.range 16).all (fun i => okR (P64.getD i 0) 3 (K64.getD i 0)) = true := by kernel_rfl
set_option maxRecDepth 100000 in
theorem tab_R3b : (List.range 16).all (fun i => okR (P64.getD (i + 16) 0) 3 (K64.getD (i + 16) 0)) = true := by kernel_rfl
set_option maxRecDepth 100000 in
theorem tab_R3c : (List.range 16).all (fun i => okR (P64.getD (i + 32) 0) 3 (K64.getD (i + 32) 0)) = true := by kernel_rfl
set_option maxRecDepth 100000 in
theorem tab_R3d : (List.range 16).all (fun i => okR (P64.getD (i + 48) 0) 3 (K64.getD (i + 48) 0)) = true := by kernel_rfl
theorem root_K {i : Nat} (h : i < 64) : F_wlvref1_root (P64.getD i 0) 3 = some (K64.getD i 0) := by
  refine root_of ?_
  rcases Nat.lt_or_ge i 16 with h1 | h1
  · exact List.all_eq_true.1 tab_R3a i (List.mem_range.2 h1)
  rcases Nat.lt_or_ge i 32 with h2 | h2
  · have := List.all_eq_true.1 tab_R3b (i - 16) (List.mem_range.2 (by omega))
    rwa [show i - 16 + 16 = i by omega] at this
  rcases Nat.lt_or_ge i 48 with h3 | h3
  · have := List.all_eq_true.1 tab_R3c (i - 32) (List.mem_range.2 (by omega))
    rwa [show i - 32 + 32 = i by omega] at this
  · have := List.all_eq_true.1 tab_R3d (i - 48) (List.mem_range.2 (by omega))
    rwa [show i - 48 + 48 = i by omega] at this
theorem root_H {i : Nat} (h : i < 8) : F_wlvref1_root (P64.getD i 0) 2 = some (H8.getD i 0) := root_of (List.all_eq_true.1 tab_R2 i (List.mem_range.2 h))
/-! ### the reference's primes -/
def rowI (p : Nat) : List Int := (rowP p).map fun (n : Nat) => (n : Int)
theorem rowI_get {p i : Nat} {q : Nat} (h : (rowP p)[i]? = some q) : (rowI p)[i]? = some (q : Int) := by
  unfold rowI
  rw [List.getElem?_map, h]; rfl
theorem rpr_in (p : Nat) (hp : 2 ≤ p) (h : p ≤ 311) : ∀ k i : Nat, i + k = (rowP p).length → loopC (F_wlvref1_primes_L11 (p : Int)) (rowI p, !(divs p ((rowP p).take i)), (i : Int)) = some (.inr (rowI p, !(divs p (rowP p))))
  | 0, i, hk => by
    refine loop_inl ?_
    unfold F_wlvref1_primes_L11
    dsimp only
    have hl : (rowI p).length = (rowP p).length := List.length_map _
    rw [decide_eq_false (by rw [hl]; omega), cond_false, List.take_of_length_le (by omega)]
  | k + 1, i, hk => by
    have hl : (rowI p).length = (rowP p).length := List.length_map _
    have hi : i < (rowP p).length := by omega
    have hl64 : (rowP p).length ≤ 64 := by
      have := row_len (show p ≤ 312 by omega) hp
      have := (p_step hp h).1
      omega
    have hq : (rowP p)[i]? = some ((rowP p)[i]) := List.getElem?_eq_getElem hi
    have hpos := row_pos (List.getElem_mem hi)
    have hdv : divs p ((rowP p).take (i + 1)) = (divs p ((rowP p).take i) || (p % (rowP p)[i] == 0)) := by
      unfold divs
      rw [List.take_add_one, hq, List.any_append]
      simp
    refine loop_inr (s' := (rowI p, !(divs p ((rowP p).take (i + 1))), ((i + 1 : Nat) : Int))) ?_ (rpr_in p hp h k (i + 1) (by omega))
    unfold F_wlvref1_primes_L11
    dsimp only
    rw [decide_eq_true (by rw [hl]; omega), cond_true, hdv, wrap_in (by omega) (by omega)]
    generalize (rowP p)[i] = q at hq hpos ⊢
    cases divs p ((rowP p).take i) with
    | true => rfl
    | false =>
      rw [Bool.not_false, cond_true, gI_nat (rowI_get hq), Option.bind_some]
      unfold chk
      rw [show ((q : Int) != 0) = true by rw [bne_iff_ne]; omega, cond_true, Bool.false_or]
      have hm : Int.tmod (p : Int) (q : Int) = ((p % q : Nat) : Int) := rfl
      rw [hm]
      have e : (((p % q : Nat) : Int) != 0) = !(p % q == 0) := by
        rw [Bool.eq_iff_iff]
        simp
        omega
      rw [e]; rfl
theorem rpr_out : ∀ k p : Nat, p + k = 312 → 2 ≤ p → loopC (F_wlvref1_primes_L4 64) (rowI p, (p : Int)) = some (.inr P64)
  | 0, p, hk, hp => by
    refine loop_inl ?_
    unfold F_wlvref1_primes_L4
    dsimp only
    have e : p = 312 := by omega
    subst e
    have hl : (rowI 312).length = 64 := by
      unfold rowI
      rw [List.length_map, row_end]; rfl
    rw [decide_eq_false (by rw [hl]; decide), cond_false]
    unfold rowI P64
    rw [row_end]
  | k + 1, p, hk, hp => by
    have hst := p_step hp (show p ≤ 311 by omega)
    have hln := row_len (show p ≤ 312 by omega) hp
    have hl : (rowI p).length = mN p := by unfold rowI; rw [List.length_map, hln]
    refine loop_inr (s' := (rowI (p + 1), ((p + 1 : Nat) : Int))) ?_ (rpr_out k (p + 1) (by omega) (by omega))
    unfold F_wlvref1_primes_L4
    dsimp only
    rw [decide_eq_true (show ((rowI p).length : Int) < 64 by rw [hl]; have := hst.1; omega), cond_true]
    have hin := rpr_in p hp (by omega) (rowP p).length 0 (by omega)
    have e0 : ((0 : Nat) : Int) = 0 := rfl
    rw [e0, show (!(divs p ((rowP p).take 0))) = true from rfl] at hin
    have hnext : joinC (S := List Int × Bool) (R := (((List Int) ⊕ (List Int)) ⊕ (List Int × Int)) ⊕ (List Int)) (loopC (S := List Int × Bool × Int) (R := ((((List Int) ⊕ (List Int)) ⊕ (List Int × Int)) ⊕ (List Int)) ⊕ (List Int × Bool)) (F_wlvref1_primes_L11 (p : Int)) (rowI p, true, 0)) (F_wlvref1_primes_J9 (p : Int)) = some (.inr (rowI (p + 1))) := by
      rw [join_inr hin]
      unfold F_wlvref1_primes_J9
      dsimp only
      cases hd : divs p (rowP p) with
      | true =>
        have := hst.2.1 hd
        have e : rowI (p + 1) = rowI p := by unfold rowI rowP; rw [this]
        rw [e]; rfl
      | false =>
        obtain ⟨_, h2⟩ := hst.2.2 hd
        have e : rowI (p + 1) = rowI p ++ [(p : Int)] := by unfold rowI; rw [h2, List.map_append]; rfl
        have hb := hst.1
        have hm : maxLen = 9223372036854775807 := rfl
        unfold chk
        rw [Bool.not_false, cond_true, decide_eq_true (show ((rowI p).length + ([(p : Int)] : List Int).length) * 8 ≤ 140737488355328 by show (_ + 1) * 8 ≤ _; omega), decide_eq_true (show (rowI p).length + ([(p : Int)] : List Int).length ≤ maxLen by show _ + 1 ≤ _; omega), e]
        rfl
    rw [join_inr hnext]
    unfold F_wlvref1_primes_J7
    dsimp only
    rw [wrap_in (by omega) (by omega)]
    rfl
theorem refPrimes : F_wlvref1_primes 64 = some P64 := by
  unfold F_wlvref1_primes
  have := rpr_out 310 2 rfl (Nat.le_refl _)
  have e : rowI 2 = [] := by unfold rowI; rw [row_start]; rfl
  rw [e] at this
  exact (join_inr this).trans rfl
end Go.Proofs.Ytgcgdfjldeihkaa
