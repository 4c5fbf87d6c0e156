/- Texts of this claim, one behind the other. -/
import Derived.Test.YtblngdnndkljoaaDoorCredBackM4
/- The constants of sha, off both roads. -/
namespace Go.Proofs.YtblngdnndkljoaaDoor
open Pv
set_option linter.unusedVariables false
theorem wr64 {x : Int} (h0 : -9223372036854775808 ≤ x) (h1 : x ≤ 9223372036854775807) : IntKind.i64.wrap x = x := wrap_in h0 h1
theorem gI_nat {α : Type} {s : List α} {i : Nat} {x : α} (h : s[i]? = some x) : getI s (i : Int) = some x := by
  unfold getI
  rw [decide_eq_true (Int.natCast_nonneg i), Int.toNat_natCast, h]; rfl
theorem gI_D {s : List Int} {i : Nat} (h : i < s.length) : getI s (i : Int) = some (s.getD i 0) := gI_nat (by rw [List.getD_eq_getElem?_getD, List.getElem?_eq_getElem h]; rfl)
/-! ### the first way -/
noncomputable def okF (p : Int) (b : Bool) (x : Int) : Bool := match iterC (F_sha_fraction_L4 p b) 38 (0, 68719476736) with
  | some (.inr y) => IntKind.u32.wrap y == x
  | _ => false
theorem frac_of {p x : Int} {b : Bool} (h : okF p b x = true) : F_sha_fraction p b = some x := by
  unfold okF at h
  unfold F_sha_fraction
  cases hi : iterC (F_sha_fraction_L4 p b) 38 (0, 68719476736) with
  | none => rw [hi] at h; cases h
  | some r =>
    rw [hi] at h
    cases r with
    | inl r => cases h
    | inr y =>
      rw [join_inr (loop_of_iter hi)]
      unfold F_sha_fraction_J2
      dsimp only
      rw [beq_iff_eq.1 h]
set_option maxRecDepth 100000 in
theorem tab_K : (List.range 64).all (fun i => okF (P64.getD i 0) true (K64.getD i 0)) = true := by kernel_rfl
set_option maxRecDepth 100000 in
theorem tab_H : (List.range 8).all (fun i => okF (P64.getD i 0) false (H8.getD i 0)) = true := by kernel_rfl
theorem frac_K {i : Nat} (h : i < 64) : F_sha_fraction (P64.getD i 0) true = some (K64.getD i 0) := frac_of (List.all_eq_true.1 tab_K i (List.mem_range.2 h))
theorem frac_H {i : Nat} (h : i < 8) : F_sha_fraction (P64.getD i 0) false = some (H8.getD i 0) := frac_of (List.all_eq_true.1 tab_H i (List.mem_range.2 h))
/-! ### the second way: loops told by how often they run -/
theorem iter_mono {S R : Type} {f g : S → Option (R ⊕ S)} (h : ∀ s r, f s = some r → g s = some r) : ∀ (n : Nat) (s : S) (r : R), iterC f n s = some r → iterC g n s = some r
  | 0, s, r, e => by unfold iterC at e; cases e
  | n + 1, s, r, e => by
    unfold iterC at e ⊢
    cases hf : f s with
    | none => rw [hf] at e; cases e
    | some x =>
      rw [hf] at e
      rw [h s x hf]
      cases x with
      | inl x => exact e
      | inr x => exact iter_mono h n x r e
/-- A digit times digits, on to others from a place; all of them. -/
def tIn (ai : Int) (i : Nat) : List Int → Nat → Int → List Int → List Int × Int
  | [], _, c, out => (out, c)
  | b :: r, j, c, out => tIn ai i r (j + 1) (Int.fdiv (IntKind.u64.wrap (IntKind.u64.wrap (out.getD (i + j) 0 + IntKind.u64.wrap (ai * b)) + c)) (2 ^ 16))
      (out.set (i + j) (bits .and .u64 (IntKind.u64.wrap (IntKind.u64.wrap (out.getD (i + j) 0 + IntKind.u64.wrap (ai * b)) + c)) 65535))
def tOut (bs : List Int) : List Int → Nat → List Int → List Int
  | [], _, out => out
  | a :: r, i, out => tOut bs r (i + 1) ((tIn a i bs 0 0 out).1.set (i + bs.length) (IntKind.u64.wrap ((tIn a i bs 0 0 out).1.getD (i + bs.length) 0 + (tIn a i bs 0 0 out).2)))
theorem tIn_len (ai : Int) (i : Nat) : ∀ (bs : List Int) (j : Nat) (c : Int) (out : List Int), (tIn ai i bs j c out).1.length = out.length
  | [], _, _, _ => rfl
  | b :: r, j, c, out => by
    unfold tIn
    rw [tIn_len ai i r, List.length_set]
theorem tOut_len (bs : List Int) : ∀ (l : List Int) (i : Nat) (out : List Int), (tOut bs l i out).length = out.length
  | [], _, _ => rfl
  | a :: r, i, out => by
    unfold tOut
    rw [tOut_len bs r, List.length_set, tIn_len]
theorem ck_s {α : Type} {b : Bool} (h : b = true) (x : Option α) : chk b x = x := by rw [h]; rfl
theorem in_eq (l1 l2 : List Int) (i : Nat) (hi : i < l1.length) (h1 : l1.length ≤ 100) (h2 : l2.length ≤ 100) : ∀ (k j : Nat) (c : Int) (out : List Int), j + k = l2.length → out.length = l1.length + l2.length →
    loopC (F_wlvref1_times_L11 l1 l2 (i : Int)) (c, (j : Int), out) = some (.inr ((tIn (l1.getD i 0) i (l2.drop j) j c out).2, (tIn (l1.getD i 0) i (l2.drop j) j c out).1))
  | 0, j, c, out, hj, ho => by
    refine loop_inl ?_
    unfold F_wlvref1_times_L11
    dsimp only
    rw [decide_eq_false (by omega), cond_false, List.drop_of_length_le (by omega)]
    rfl
  | k + 1, j, c, out, hj, ho => by
    have hd : l2.drop j = l2.getD j 0 :: l2.drop (j + 1) := by
      rw [List.drop_eq_getElem_cons (by omega), List.getD_eq_getElem?_getD, List.getElem?_eq_getElem (by omega)]; rfl
    have hw : IntKind.i64.wrap ((i : Int) + (j : Int)) = ((i + j : Nat) : Int) := wr64 (by omega) (by omega)
    have hw2 : IntKind.i64.wrap ((j : Int) + 1) = ((j + 1 : Nat) : Int) := wr64 (by omega) (by omega)
    have hN : (List.length (List.replicate ((IntKind.i64.wrap ((l1.length : Int) + (l2.length : Int)))).toNat (0 : Int))) = l1.length + l2.length := by
      rw [List.length_replicate, wr64 (by omega) (by omega)]; omega
    have ih := in_eq l1 l2 i hi h1 h2 k (j + 1) (Int.fdiv (IntKind.u64.wrap (IntKind.u64.wrap (out.getD (i + j) 0 + IntKind.u64.wrap (l1.getD i 0 * l2.getD j 0)) + c)) (2 ^ 16)) (out.set (i + j) (bits .and .u64 (IntKind.u64.wrap (IntKind.u64.wrap (out.getD (i + j) 0 + IntKind.u64.wrap (l1.getD i 0 * l2.getD j 0)) + c)) 65535)) (by omega) (by rw [List.length_set]; exact ho)
    rw [hd]
    unfold tIn
    refine loop_inr ?_ ih
    unfold F_wlvref1_times_L11
    dsimp only
    rw [decide_eq_true (show (j : Int) < (l2.length : Int) by omega), cond_true, hw, hN, ck_s (by rw [decide_eq_true (by omega), decide_eq_true (by omega)]; rfl), gI_D (by omega), Option.bind_some, gI_D hi, Option.bind_some, gI_D (by omega), Option.bind_some, ck_s (by rw [decide_eq_true (by omega), decide_eq_true (by omega)]; rfl), ck_s (decide_eq_true (by omega)), hw2, Int.toNat_natCast]
theorem out_eq (l1 l2 : List Int) (h1 : l1.length ≤ 100) (h2 : l2.length ≤ 100) : ∀ (k i : Nat) (out : List Int), i + k = l1.length → out.length = l1.length + l2.length → loopC (F_wlvref1_times_L4 l1 l2) ((i : Int), out) = some (.inr (tOut l2 (l1.drop i) i out))
  | 0, i, out, hi, ho => by
    refine loop_inl ?_
    unfold F_wlvref1_times_L4
    dsimp only
    rw [decide_eq_false (by omega), cond_false, List.drop_of_length_le (by omega)]
    rfl
  | k + 1, i, out, hi, ho => by
    have hd : l1.drop i = l1.getD i 0 :: l1.drop (i + 1) := by
      rw [List.drop_eq_getElem_cons (by omega), List.getD_eq_getElem?_getD, List.getElem?_eq_getElem (by omega)]; rfl
    have hw : IntKind.i64.wrap ((i : Int) + (l2.length : Int)) = ((i + l2.length : Nat) : Int) := wr64 (by omega) (by omega)
    have hw2 : IntKind.i64.wrap ((i : Int) + 1) = ((i + 1 : Nat) : Int) := wr64 (by omega) (by omega)
    have hN : (List.length (List.replicate ((IntKind.i64.wrap ((l1.length : Int) + (l2.length : Int)))).toNat (0 : Int))) = l1.length + l2.length := by
      rw [List.length_replicate, wr64 (by omega) (by omega)]; omega
    have hin := in_eq l1 l2 i (by omega) h1 h2 l2.length 0 0 out (by omega) ho
    rw [List.drop_zero] at hin
    have hlen := tIn_len (l1.getD i 0) i l2 0 0 out
    have ih := out_eq l1 l2 h1 h2 k (i + 1) ((tIn (l1.getD i 0) i l2 0 0 out).1.set (i + l2.length) (IntKind.u64.wrap ((tIn (l1.getD i 0) i l2 0 0 out).1.getD (i + l2.length) 0 + (tIn (l1.getD i 0) i l2 0 0 out).2))) (by omega) (by rw [List.length_set, hlen]; exact ho)
    rw [hd]
    unfold tOut
    refine loop_inr ?_ ih
    unfold F_wlvref1_times_L4
    dsimp only
    rw [decide_eq_true (show (i : Int) < (l1.length : Int) by omega), cond_true]
    generalize tIn (l1.getD i 0) i l2 0 0 out = q at hin hlen
    have hJ : joinC (S := Int × List Int) (R := (((List Int) ⊕ (List Int)) ⊕ (Int × List Int)) ⊕ (List Int)) (loopC (S := Int × Int × List Int) (R := ((((List Int) ⊕ (List Int)) ⊕ (Int × List Int)) ⊕ (List Int)) ⊕ (Int × List Int)) (F_wlvref1_times_L11 l1 l2 (i : Int)) (0, 0, out)) (F_wlvref1_times_J9 l1 l2 (i : Int)) = some (.inr (q.1.set (i + l2.length) (IntKind.u64.wrap (q.1.getD (i + l2.length) 0 + q.2)))) := by
      refine (join_inr hin).trans ?_
      unfold F_wlvref1_times_J9
      dsimp only
      rw [hw, hN, ck_s (by rw [decide_eq_true (by omega), decide_eq_true (by omega)]; rfl), gI_D (by omega), Option.bind_some, ck_s (by rw [decide_eq_true (by omega), decide_eq_true (by omega)]; rfl), ck_s (decide_eq_true (by omega)), Int.toNat_natCast]
    rw [join_inr hJ]
    unfold F_wlvref1_times_J7
    dsimp only
    rw [hw2]
theorem times_eq {l1 l2 : List Int} (h0 : 0 < l1.length) (h1 : l1.length ≤ 100) (h2 : l2.length ≤ 100) : F_wlvref1_times l1 l2 = some (tOut l2 l1 0 (List.replicate (l1.length + l2.length) 0)) := by
  have hw : IntKind.i64.wrap ((l1.length : Int) + (l2.length : Int)) = ((l1.length + l2.length : Nat) : Int) := wr64 (by omega) (by omega)
  have hm : maxLen = 9223372036854775807 := rfl
  have ho := out_eq l1 l2 h1 h2 l1.length 0 (List.replicate (l1.length + l2.length) 0) (by omega) List.length_replicate
  rw [List.drop_zero] at ho
  have hl := tOut_len l2 l1 0 (List.replicate (l1.length + l2.length) 0)
  rw [List.length_replicate] at hl
  unfold F_wlvref1_times
  rw [hw, Int.toNat_natCast, ck_s (by rw [decide_eq_true (by omega), decide_eq_true (by omega), decide_eq_true (by omega), decide_eq_true (by omega)]; rfl)]
  refine (join_inr ho).trans ?_
  unfold F_wlvref1_times_J2
  dsimp only
  rw [hw, Int.toNat_natCast, List.length_replicate, hl, ck_s (by rw [Nat.ble_eq_true_of_le (Nat.le_refl _)]; rfl), List.take_of_length_le (by omega)]
def gTimes (l1 l2 : List Int) : Option (List Int) := cond (Nat.blt 0 l1.length && Nat.ble l1.length 100 && Nat.ble l2.length 100) (some (tOut l2 l1 0 (List.replicate (l1.length + l2.length) 0))) none
theorem times_of {l1 l2 l : List Int} (h : gTimes l1 l2 = some l) : F_wlvref1_times l1 l2 = some l := by
  unfold gTimes at h
  cases hc : (Nat.blt 0 l1.length && Nat.ble l1.length 100 && Nat.ble l2.length 100) with
  | false => rw [hc] at h; cases h
  | true =>
    rw [hc, cond_true] at h
    simp only [Bool.and_eq_true, Nat.blt_eq] at hc
    rw [times_eq hc.1.1 (Nat.le_of_ble_eq_true hc.1.2) (Nat.le_of_ble_eq_true hc.2)]
    exact h
noncomputable def gPow_L (k : Int) (s : List Int × List Int × Int) : Option (((List Int) ⊕ (List Int)) ⊕ (List Int × List Int × Int)) :=
  cond (decide (s.2.2 < k)) ((gTimes s.1 s.2.1).bind fun l6 => some (.inr (l6, s.2.1, IntKind.i64.wrap (s.2.2 + 1)))) (some (.inl (.inr s.1)))
theorem powL_of (k : Int) (s : List Int × List Int × Int) (r : ((List Int) ⊕ (List Int)) ⊕ (List Int × List Int × Int)) (h : gPow_L k s = some r) : F_wlvref1_power_L5 k s = some r := by
  unfold gPow_L at h
  unfold F_wlvref1_power_L5
  dsimp only
  cases h0 : decide (s.2.2 < k) with
  | false => rw [h0] at h; exact h
  | true =>
    rw [h0, cond_true] at h
    rw [cond_true]
    obtain ⟨l, e1, h⟩ := Option.bind_eq_some_iff.1 h
    rw [times_of e1, Option.bind_some]
    exact h
noncomputable def gPow (x k : Int) : Option (List Int) := match iterC (gPow_L k) 4 (([1] : List Int), ([(bits .and .u64 x 65535), (bits .and .u64 (Int.fdiv x (2 ^ 16)) 65535), (Int.fdiv x (2 ^ 32))] : List Int), 0) with
  | some (.inr l) => some l
  | _ => none
theorem pow_of {x k : Int} {l : List Int} (h : gPow x k = some l) : F_wlvref1_power x k = some l := by
  unfold gPow at h
  unfold F_wlvref1_power
  cases hi : iterC (gPow_L k) 4 (([1] : List Int), ([(bits .and .u64 x 65535), (bits .and .u64 (Int.fdiv x (2 ^ 16)) 65535), (Int.fdiv x (2 ^ 32))] : List Int), 0) with
  | none => rw [hi] at h; cases h
  | some r =>
    rw [hi] at h
    cases r with
    | inl r => cases h
    | inr y =>
      rw [join_inr (loop_of_iter (iter_mono (powL_of k) 4 _ _ hi))]
      exact h
noncomputable def gBel (l : List Int) (p k : Int) : Option Bool := match iterC (F_wlvref1_below_L4 l k) 20 (0, (IntKind.i64.wrap ((l.length : Int) - 1))) with
  | some (.inl b) => some b
  | some (.inr t) => cond (t != (IntKind.u64.wrap p)) (some (decide (t < (IntKind.u64.wrap p)))) (match iterC (F_wlvref1_below_L16 l k) 20 0 with
    | some (.inl b) => some b
    | some (.inr _) => some true
    | none => none)
  | none => none
theorem bel_of {l : List Int} {p k : Int} {b : Bool} (h : gBel l p k = some b) : F_wlvref1_below l p k = some b := by
  unfold gBel at h
  unfold F_wlvref1_below
  cases hi : iterC (F_wlvref1_below_L4 l k) 20 (0, (IntKind.i64.wrap ((l.length : Int) - 1))) with
  | none => rw [hi] at h; cases h
  | some r =>
    rw [hi] at h
    cases r with
    | inl r =>
      have h : some r = some b := h
      injection h with h
      rw [join_inl (loop_of_iter hi), h]
    | inr t =>
      rw [join_inr (loop_of_iter hi)]
      unfold F_wlvref1_below_J2
      dsimp only at h ⊢
      cases hc : t != IntKind.u64.wrap p with
      | true =>
        rw [hc] at h
        exact h
      | false =>
        rw [hc, cond_false] at h
        rw [cond_false]
        cases hj : iterC (F_wlvref1_below_L16 l k) 20 0 with
        | none => rw [hj] at h; cases h
        | some r =>
          rw [hj] at h
          cases r with
          | inl r =>
            have h : some r = some b := h
            injection h with h
            rw [join_inl (loop_of_iter hj), h]
          | inr u =>
            have h : some true = some b := h
            rw [join_inr (loop_of_iter hj)]
            exact h
noncomputable def gRoot_L (p k : Int) (s : Int × Int) : Option (((Int) ⊕ (Int)) ⊕ (Int × Int)) :=
  cond (decide (s.2 ≥ 0))
  (chk (decide (0 ≤ (IntKind.u64.wrap s.2)))
    ((gPow (bits .or .u64 s.1 (IntKind.u64.wrap (1 * 2 ^ (min ((IntKind.u64.wrap s.2)).toNat 64)))) k).bind fun l5 =>
      (gBel l5 p k).bind fun b6 =>
      cond b6
      (some (.inr ((bits .or .u64 s.1 (IntKind.u64.wrap (1 * 2 ^ (min ((IntKind.u64.wrap s.2)).toNat 64)))), (IntKind.i64.wrap (s.2 - 1)))))
      (some (.inr (s.1, (IntKind.i64.wrap (s.2 - 1)))))))
  (some (.inl (.inr s.1)))
theorem rootL_of (p k : Int) (s : Int × Int) (r : ((Int) ⊕ (Int)) ⊕ (Int × Int)) (h : gRoot_L p k s = some r) : F_wlvref1_root_L4 p k s = some r := by
  unfold gRoot_L at h
  unfold F_wlvref1_root_L4
  dsimp only
  cases h0 : decide (s.2 ≥ 0) with
  | false => rw [h0] at h; exact h
  | true =>
    rw [h0, cond_true] at h
    rw [cond_true]
    unfold chk at h ⊢
    cases h1 : decide (0 ≤ IntKind.u64.wrap s.2) with
    | false => rw [h1] at h; cases h
    | true =>
      rw [h1, cond_true] at h
      rw [cond_true]
      obtain ⟨l, e1, h⟩ := Option.bind_eq_some_iff.1 h
      rw [pow_of e1, Option.bind_some]
      obtain ⟨b, e2, h⟩ := Option.bind_eq_some_iff.1 h
      rw [bel_of e2, Option.bind_some]
      exact h
noncomputable def okR (p k x : Int) : Bool := match iterC (gRoot_L p k) 38 (0, 36) with
  | some (.inr y) => IntKind.u32.wrap y == x
  | _ => false
theorem root_of {p k x : Int} (h : okR p k x = true) : F_wlvref1_root p k = some x := by
  unfold okR at h
  unfold F_wlvref1_root
  cases hi : iterC (gRoot_L p k) 38 (0, 36) with
  | none => rw [hi] at h; cases h
  | some r =>
    rw [hi] at h
    cases r with
    | inl r => cases h
    | inr y =>
      rw [join_inr (loop_of_iter (iter_mono (rootL_of p k) 38 _ _ hi))]
      unfold F_wlvref1_root_J2
      dsimp only
      rw [beq_iff_eq.1 h]
set_option maxRecDepth 100000 in
theorem tab_R2 : (List.range 8).all (fun i => okR (P64.getD i 0) 2 (H8.getD i 0)) = true := by kernel_rfl
set_option maxRecDepth 100000 in
theorem tab_R3a : (List.range 16).all (fun i => okR (P64.getD i 0) 3 (K64.getD i 0)) = true := by kernel_rfl
set_option maxRecDepth 100000 in
theorem tab_R3b : (List.range 16).all (fun i => okR (P64.getD (i + 16) 0) 3 (K64.getD (i + 16) 0)) = true := by kernel_rfl
set_option maxRecDepth 100000 in
theorem tab_R3c : (List.range 16).all (fun i => okR (P64.getD (i + 32) 0) 3 (K64.getD (i + 32) 0)) = true := by kernel_rfl
set_option maxRecDepth 100000 in
theorem tab_R3d : (List.range 16).all (fun i => okR (P64.getD (i + 48) 0) 3 (K64.getD (i + 48) 0)) = true := by kernel_rfl
theorem root_K {i : Nat} (h : i < 64) : F_wlvref1_root (P64.getD i 0) 3 = some (K64.getD i 0) := by
  refine root_of ?_
  rcases Nat.lt_or_ge i 16 with h1 | h1
  · exact List.all_eq_true.1 tab_R3a i (List.mem_range.2 h1)
  rcases Nat.lt_or_ge i 32 with h2 | h2
  · have := List.all_eq_true.1 tab_R3b (i - 16) (List.mem_range.2 (by omega))
    rwa [show i - 16 + 16 = i by omega] at this
  rcases Nat.lt_or_ge i 48 with h3 | h3
  · have := List.all_eq_true.1 tab_R3c (i - 32) (List.mem_range.2 (by omega))
    rwa [show i - 32 + 32 = i by omega] at this
  · have := List.all_eq_true.1 tab_R3d (i - 48) (List.mem_range.2 (by omega))
    rwa [show i - 48 + 48 = i by omega] at this
theorem root_H {i : Nat} (h : i < 8) : F_wlvref1_root (P64.getD i 0) 2 = some (H8.getD i 0) := root_of (List.all_eq_true.1 tab_R2 i (List.mem_range.2 h))
/-! ### the reference's primes -/
def rowI (p : Nat) : List Int := (rowP p).map fun (n : Nat) => (n : Int)
theorem rowI_get {p i : Nat} {q : Nat} (h : (rowP p)[i]? = some q) : (rowI p)[i]? = some (q : Int) := by
  unfold rowI
  rw [List.getElem?_map, h]; rfl
theorem rpr_in (p : Nat) (hp : 2 ≤ p) (h : p ≤ 311) : ∀ k i : Nat, i + k = (rowP p).length → loopC (F_wlvref1_primes_L11 (p : Int)) (rowI p, !(divs p ((rowP p).take i)), (i : Int)) = some (.inr (rowI p, !(divs p (rowP p))))
  | 0, i, hk => by
    refine loop_inl ?_
    unfold F_wlvref1_primes_L11
    dsimp only
    have hl : (rowI p).length = (rowP p).length := List.length_map _
    rw [decide_eq_false (by rw [hl]; omega), cond_false, List.take_of_length_le (by omega)]
  | k + 1, i, hk => by
    have hl : (rowI p).length = (rowP p).length := List.length_map _
    have hi : i < (rowP p).length := by omega
    have hl64 : (rowP p).length ≤ 64 := by
      have := row_len (show p ≤ 312 by omega) hp
      have := (p_step hp h).1
      omega
    have hq : (rowP p)[i]? = some ((rowP p)[i]) := List.getElem?_eq_getElem hi
    have hpos := row_pos (List.getElem_mem hi)
    have hdv : divs p ((rowP p).take (i + 1)) = (divs p ((rowP p).take i) || (p % (rowP p)[i] == 0)) := by
      unfold divs
      rw [List.take_add_one, hq, List.any_append]
      simp
    refine loop_inr (s' := (rowI p, !(divs p ((rowP p).take (i + 1))), ((i + 1 : Nat) : Int))) ?_ (rpr_in p hp h k (i + 1) (by omega))
    unfold F_wlvref1_primes_L11
    dsimp only
    rw [decide_eq_true (by rw [hl]; omega), cond_true, hdv, wrap_in (by omega) (by omega)]
    generalize (rowP p)[i] = q at hq hpos ⊢
    cases divs p ((rowP p).take i) with
    | true => rfl
    | false =>
      rw [Bool.not_false, cond_true, gI_nat (rowI_get hq), Option.bind_some]
      unfold chk
      rw [show ((q : Int) != 0) = true by rw [bne_iff_ne]; omega, cond_true, Bool.false_or]
      have hm : Int.tmod (p : Int) (q : Int) = ((p % q : Nat) : Int) := rfl
      rw [hm]
      have e : (((p % q : Nat) : Int) != 0) = !(p % q == 0) := by
        rw [Bool.eq_iff_iff]
        simp
        omega
      rw [e]; rfl
theorem rpr_out : ∀ k p : Nat, p + k = 312 → 2 ≤ p → loopC (F_wlvref1_primes_L4 64) (rowI p, (p : Int)) = some (.inr P64)
  | 0, p, hk, hp => by
    refine loop_inl ?_
    unfold F_wlvref1_primes_L4
    dsimp only
    have e : p = 312 := by omega
    subst e
    have hl : (rowI 312).length = 64 := by
      unfold rowI
      rw [List.length_map, row_end]; rfl
    rw [decide_eq_false (by rw [hl]; decide), cond_false]
    unfold rowI P64
    rw [row_end]
  | k + 1, p, hk, hp => by
    have hst := p_step hp (show p ≤ 311 by omega)
    have hln := row_len (show p ≤ 312 by omega) hp
    have hl : (rowI p).length = mN p := by unfold rowI; rw [List.length_map, hln]
    refine loop_inr (s' := (rowI (p + 1), ((p + 1 : Nat) : Int))) ?_ (rpr_out k (p + 1) (by omega) (by omega))
    unfold F_wlvref1_primes_L4
    dsimp only
    rw [decide_eq_true (show ((rowI p).length : Int) < 64 by rw [hl]; have := hst.1; omega), cond_true]
    have hin := rpr_in p hp (by omega) (rowP p).length 0 (by omega)
    have e0 : ((0 : Nat) : Int) = 0 := rfl
    rw [e0, show (!(divs p ((rowP p).take 0))) = true from rfl] at hin
    have hnext : joinC (S := List Int × Bool) (R := (((List Int) ⊕ (List Int)) ⊕ (List Int × Int)) ⊕ (List Int)) (loopC (S := List Int × Bool × Int) (R := ((((List Int) ⊕ (List Int)) ⊕ (List Int × Int)) ⊕ (List Int)) ⊕ (List Int × Bool)) (F_wlvref1_primes_L11 (p : Int)) (rowI p, true, 0)) (F_wlvref1_primes_J9 (p : Int)) = some (.inr (rowI (p + 1))) := by
      rw [join_inr hin]
      unfold F_wlvref1_primes_J9
      dsimp only
      cases hd : divs p (rowP p) with
      | true =>
        have := hst.2.1 hd
        have e : rowI (p + 1) = rowI p := by unfold rowI rowP; rw [this]
        rw [e]; rfl
      | false =>
        obtain ⟨_, h2⟩ := hst.2.2 hd
        have e : rowI (p + 1) = rowI p ++ [(p : Int)] := by unfold rowI; rw [h2, List.map_append]; rfl
        have hb := hst.1
        have hm : maxLen = 9223372036854775807 := rfl
        unfold chk
        rw [Bool.not_false, cond_true, decide_eq_true (show ((rowI p).length + ([(p : Int)] : List Int).length) * 8 ≤ 140737488355328 by show (_ + 1) * 8 ≤ _; omega), decide_eq_true (show (rowI p).length + ([(p : Int)] : List Int).length ≤ maxLen by show _ + 1 ≤ _; omega), e]
        rfl
    rw [join_inr hnext]
    unfold F_wlvref1_primes_J7
    dsimp only
    rw [wrap_in (by omega) (by omega)]
    rfl
theorem refPrimes : F_wlvref1_primes 64 = some P64 := by
  unfold F_wlvref1_primes
  have := rpr_out 310 2 rfl (Nat.le_refl _)
  have e : rowI 2 = [] := by unfold rowI; rw [row_start]; rfl
  rw [e] at this
  exact (join_inr this).trans rfl
end Go.Proofs.YtblngdnndkljoaaDoor

/- The two roads of sha tell the same sums. -/
namespace Go.Proofs.YtblngdnndkljoaaDoor
open Pv
set_option linter.unusedVariables false
theorem ck_t {α : Type} {b : Bool} (h : b = true) (x : Option α) : chk b x = x := by rw [h]; rfl
/-! ### words -/
def cv (v : BitVec 32) : Int := IntKind.u32.wrap (v.toNat : Int)
theorem b_xor (x y : Int) : bits .xor .u32 x y = cv (BitVec.ofInt 32 x ^^^ BitVec.ofInt 32 y) := rfl
theorem b_and (x y : Int) : bits .and .u32 x y = cv (BitVec.ofInt 32 x &&& BitVec.ofInt 32 y) := rfl
theorem b_or (x y : Int) : bits .or .u32 x y = cv (BitVec.ofInt 32 x ||| BitVec.ofInt 32 y) := rfl
theorem of_cv (v : BitVec 32) : BitVec.ofInt 32 (cv v) = v := by
  unfold cv
  have h : IntKind.u32.wrap (v.toNat : Int) = ((v.toNat : Nat) : Int) := by
    show ((v.toNat : Nat) : Int) % 4294967296 = _
    have := v.isLt
    omega
  rw [h, BitVec.ofInt_natCast, BitVec.ofNat_toNat, BitVec.setWidth_eq]
theorem or_comm32 (x y : Int) : bits .or .u32 x y = bits .or .u32 y x := by rw [b_or, b_or, BitVec.or_comm]
theorem ch_eq (e f g : Int) : bits .xor .u32 g (bits .and .u32 e (bits .xor .u32 f g)) = bits .xor .u32 (bits .and .u32 e f) (bits .and .u32 (bits .xor .u32 4294967295 e) g) := by
  simp only [b_xor, b_and, of_cv]
  congr 1
  have hm : BitVec.ofInt 32 4294967295 = BitVec.allOnes 32 := by decide
  rw [hm]
  generalize BitVec.ofInt 32 e = E
  generalize BitVec.ofInt 32 f = F
  generalize BitVec.ofInt 32 g = G
  apply BitVec.eq_of_getLsbD_eq
  intro i hi
  simp only [BitVec.getLsbD_xor, BitVec.getLsbD_and, BitVec.getLsbD_allOnes, hi, decide_true]
  cases E.getLsbD i <;> cases F.getLsbD i <;> cases G.getLsbD i <;> rfl
theorem maj_eq (a b c : Int) : bits .or .u32 (bits .and .u32 a (bits .or .u32 b c)) (bits .and .u32 b c) = bits .xor .u32 (bits .xor .u32 (bits .and .u32 a b) (bits .and .u32 a c)) (bits .and .u32 b c) := by
  simp only [b_xor, b_and, b_or, of_cv]
  congr 1
  generalize BitVec.ofInt 32 a = E
  generalize BitVec.ofInt 32 b = F
  generalize BitVec.ofInt 32 c = G
  apply BitVec.eq_of_getLsbD_eq
  intro i hi
  simp only [BitVec.getLsbD_xor, BitVec.getLsbD_and, BitVec.getLsbD_or]
  cases E.getLsbD i <;> cases F.getLsbD i <;> cases G.getLsbD i <;> rfl
theorem sum_eq (a b s t : Int) : IntKind.u32.wrap (IntKind.u32.wrap (IntKind.u32.wrap (a + s) + b) + t) = IntKind.u32.wrap (IntKind.u32.wrap (IntKind.u32.wrap (a + b) + s) + t) := by
  show (((a + s) % 4294967296 + b) % 4294967296 + t) % 4294967296 = (((a + b) % 4294967296 + s) % 4294967296 + t) % 4294967296
  omega
/-- A word turned to the right. -/
def rr (x : Int) (k : Nat) : Int := bits .or .u32 (IntKind.u32.wrap (x * 2 ^ (32 - k))) (Int.fdiv x (2 ^ k))
theorem tab_rot : (List.range 31).all (fun j => (bits .and .u64 (IntKind.u64.wrap (-((j + 1 : Nat) : Int))) 31 == ((31 - j : Nat) : Int)) && (IntKind.u64.wrap (32 - ((31 - j : Nat) : Int)) == ((j + 1 : Nat) : Int)) && (IntKind.u64.wrap ((j + 1 : Nat) : Int) == ((j + 1 : Nat) : Int)) && (IntKind.u64.wrap (IntKind.i64.wrap (32 - ((j + 1 : Nat) : Int))) == ((31 - j : Nat) : Int))) = true := by kernel_rfl
theorem rot_eq (x : Int) {k : Nat} (h1 : 1 ≤ k) (h2 : k ≤ 31) {m : Int} (hm : m = -(k : Int)) : F_math_bits_RotateLeft32 x m = some (rr x k) := by
  subst hm
  have := List.all_eq_true.1 tab_rot (k - 1) (List.mem_range.2 (by omega))
  rw [show k - 1 + 1 = k by omega] at this
  simp only [Bool.and_eq_true, beq_iff_eq] at this
  obtain ⟨⟨⟨t1, t2⟩, _⟩, _⟩ := this
  unfold F_math_bits_RotateLeft32 rr
  rw [t1, t2, ck_t (by first | rfl | (simp; done) | (simp; omega)), ck_t (by first | rfl | (simp; done) | (simp; omega)), Int.toNat_natCast, Int.toNat_natCast, Nat.min_eq_left (by omega), Nat.min_eq_left (by omega), show 31 - (k - 1) = 32 - k by omega]
theorem turn_eq (x : Int) {k : Nat} (h1 : 1 ≤ k) (h2 : k ≤ 31) {m : Int} (hm : m = (k : Int)) : F_wlvref1_turn x m = some (rr x k) := by
  subst hm
  have := List.all_eq_true.1 tab_rot (k - 1) (List.mem_range.2 (by omega))
  rw [show k - 1 + 1 = k by omega] at this
  simp only [Bool.and_eq_true, beq_iff_eq] at this
  obtain ⟨⟨_, t3⟩, t4⟩ := this
  unfold F_wlvref1_turn rr
  rw [t3, t4, ck_t (by first | rfl | (simp; done) | (simp; omega)), ck_t (by first | rfl | (simp; done) | (simp; omega)), Int.toNat_natCast, Int.toNat_natCast, Nat.min_eq_left (by omega), Nat.min_eq_left (by omega), show 31 - (k - 1) = 32 - k by omega, or_comm32]
/-! ### a block's words -/
def word (m : List Int) (i : Nat) : Int := bits .or .u32 (bits .or .u32 (bits .or .u32 (IntKind.u32.wrap ((IntKind.u32.wrap (m.getD (4 * i) 0)) * 2 ^ 24)) (IntKind.u32.wrap ((IntKind.u32.wrap (m.getD (4 * i + 1) 0)) * 2 ^ 16))) (IntKind.u32.wrap ((IntKind.u32.wrap (m.getD (4 * i + 2) 0)) * 2 ^ 8))) (IntKind.u32.wrap (m.getD (4 * i + 3) 0))
def s0 (x : Int) : Int := bits .xor .u32 (bits .xor .u32 (rr x 7) (rr x 18)) (Int.fdiv x (2 ^ 3))
def s1 (x : Int) : Int := bits .xor .u32 (bits .xor .u32 (rr x 17) (rr x 19)) (Int.fdiv x (2 ^ 10))
def wNew (w : List Int) (i : Nat) : Int := IntKind.u32.wrap (IntKind.u32.wrap (IntKind.u32.wrap (w.getD (i - 16) 0 + w.getD (i - 7) 0) + s0 (w.getD (i - 15) 0)) + s1 (w.getD (i - 2) 0))
def wAt (m : List Int) : Nat → List Int
  | 0 => List.replicate 64 0
  | i + 1 => (wAt m i).set i (if i < 16 then word m i else wNew (wAt m i) i)
theorem wAt_len (m : List Int) : ∀ i, (wAt m i).length = 64
  | 0 => rfl
  | i + 1 => by
    show ((wAt m i).set i _).length = 64
    rw [List.length_set, wAt_len m i]
theorem w_sha (m h : List Int) (hm : m.length = 64) : ∀ k i : Nat, i + k = 64 → loopC (F_sha_state_turned_L3 m) ((i : Int), h, wAt m i) = some (.inr (h, wAt m 64))
  | 0, i, hk => by
    refine loop_inl ?_
    unfold F_sha_state_turned_L3
    dsimp only
    rw [decide_eq_false (show ¬ (i : Int) < 64 by omega), cond_false, show i = 64 by omega]
  | k + 1, i, hk => by
    have hw := wAt_len m i
    refine loop_inr (s' := (((i + 1 : Nat) : Int), h, wAt m (i + 1))) ?_ (w_sha m h hm k (i + 1) (by omega))
    unfold F_sha_state_turned_L3
    dsimp only
    rw [decide_eq_true (show (i : Int) < 64 by omega), cond_true]
    show _ = some (Sum.inr (((i + 1 : Nat) : Int), h, (wAt m i).set i (if i < 16 then word m i else wNew (wAt m i) i)))
    rw [wrap_in (x := (i : Int) + 1) (by omega) (by omega)]
    by_cases h16 : i < 16
    · rw [decide_eq_true (show (i : Int) < 16 by omega), cond_true, if_pos h16, wrap_in (x := 4 * (i : Int)) (by omega) (by omega), wrap_in (x := 4 * (i : Int) + 1) (by omega) (by omega), wrap_in (x := 4 * (i : Int) + 2) (by omega) (by omega), wrap_in (x := 4 * (i : Int) + 3) (by omega) (by omega), show 4 * (i : Int) = ((4 * i : Nat) : Int) by omega, show ((4 * i : Nat) : Int) + 1 = ((4 * i + 1 : Nat) : Int) by omega, show ((4 * i : Nat) : Int) + 2 = ((4 * i + 2 : Nat) : Int) by omega, show ((4 * i : Nat) : Int) + 3 = ((4 * i + 3 : Nat) : Int) by omega,
        gI_D (by omega), Option.bind_some, gI_D (by omega), Option.bind_some, gI_D (by omega), Option.bind_some, gI_D (by omega), Option.bind_some, ck_t (by first | rfl | (simp; done) | (simp; omega)), ck_t (by first | rfl | (simp; done) | (simp; omega)), Int.toNat_natCast]
      rfl
    · rw [decide_eq_false (show ¬ (i : Int) < 16 by omega), cond_false, if_neg h16, wrap_in (x := (i : Int) - 15) (by omega) (by omega), wrap_in (x := (i : Int) - 2) (by omega) (by omega), wrap_in (x := (i : Int) - 16) (by omega) (by omega), wrap_in (x := (i : Int) - 7) (by omega) (by omega), show (i : Int) - 15 = ((i - 15 : Nat) : Int) by omega, show (i : Int) - 2 = ((i - 2 : Nat) : Int) by omega, show (i : Int) - 16 = ((i - 16 : Nat) : Int) by omega, show (i : Int) - 7 = ((i - 7 : Nat) : Int) by omega,
        ck_t (by first | rfl | (simp; done) | (simp; omega)), gI_D (by omega), Option.bind_some, ck_t (by first | rfl | (simp; done) | (simp; omega)), gI_D (by omega), Option.bind_some, ck_t (by first | rfl | (simp; done) | (simp; omega)), gI_D (by omega), Option.bind_some, ck_t (by first | rfl | (simp; done) | (simp; omega)), gI_D (by omega), Option.bind_some,
        rot_eq _ (k := 7) (by omega) (by omega) (m := -7) rfl, Option.bind_some, rot_eq _ (k := 18) (by omega) (by omega) (m := -18) rfl, Option.bind_some, rot_eq _ (k := 17) (by omega) (by omega) (m := -17) rfl, Option.bind_some, rot_eq _ (k := 19) (by omega) (by omega) (m := -19) rfl, Option.bind_some, ck_t (by first | rfl | (simp; done) | (simp; omega)), ck_t (by first | rfl | (simp; done) | (simp; omega)), Int.toNat_natCast]
      rfl
theorem w_ref (m h kk r8 : List Int) (hm : m.length = 64) : ∀ k i : Nat, i + k = 64 → loopC (F_wlvref1_block_L4 m) ((i : Int), h, kk, r8, wAt m i) = some (.inr (h, kk, r8, wAt m 64))
  | 0, i, hk => by
    refine loop_inl ?_
    unfold F_wlvref1_block_L4
    dsimp only
    rw [decide_eq_false (show ¬ (i : Int) < 64 by omega), cond_false, show i = 64 by omega]
  | k + 1, i, hk => by
    have hw := wAt_len m i
    refine loop_inr (s' := (((i + 1 : Nat) : Int), h, kk, r8, wAt m (i + 1))) ?_ (w_ref m h kk r8 hm k (i + 1) (by omega))
    unfold F_wlvref1_block_L4
    dsimp only
    rw [decide_eq_true (show (i : Int) < 64 by omega), cond_true]
    show _ = some (Sum.inr (((i + 1 : Nat) : Int), h, kk, r8, (wAt m i).set i (if i < 16 then word m i else wNew (wAt m i) i)))
    rw [wrap_in (x := (i : Int) + 1) (by omega) (by omega)]
    by_cases h16 : i < 16
    · rw [decide_eq_true (show (i : Int) < 16 by omega), cond_true, if_pos h16, wrap_in (x := 4 * (i : Int)) (by omega) (by omega), wrap_in (x := 4 * (i : Int) + 1) (by omega) (by omega), wrap_in (x := 4 * (i : Int) + 2) (by omega) (by omega), wrap_in (x := 4 * (i : Int) + 3) (by omega) (by omega), show 4 * (i : Int) = ((4 * i : Nat) : Int) by omega, show ((4 * i : Nat) : Int) + 1 = ((4 * i + 1 : Nat) : Int) by omega, show ((4 * i : Nat) : Int) + 2 = ((4 * i + 2 : Nat) : Int) by omega, show ((4 * i : Nat) : Int) + 3 = ((4 * i + 3 : Nat) : Int) by omega,
        gI_D (by omega), Option.bind_some, gI_D (by omega), Option.bind_some, gI_D (by omega), Option.bind_some, gI_D (by omega), Option.bind_some, ck_t (by first | rfl | (simp; done) | (simp; omega)), ck_t (by first | rfl | (simp; done) | (simp; omega)), Int.toNat_natCast]
      rfl
    · rw [decide_eq_false (show ¬ (i : Int) < 16 by omega), cond_false, if_neg h16, wrap_in (x := (i : Int) - 15) (by omega) (by omega), wrap_in (x := (i : Int) - 2) (by omega) (by omega), wrap_in (x := (i : Int) - 16) (by omega) (by omega), wrap_in (x := (i : Int) - 7) (by omega) (by omega), show (i : Int) - 15 = ((i - 15 : Nat) : Int) by omega, show (i : Int) - 2 = ((i - 2 : Nat) : Int) by omega, show (i : Int) - 16 = ((i - 16 : Nat) : Int) by omega, show (i : Int) - 7 = ((i - 7 : Nat) : Int) by omega,
        ck_t (by first | rfl | (simp; done) | (simp; omega)), gI_D (by omega), Option.bind_some, ck_t (by first | rfl | (simp; done) | (simp; omega)), gI_D (by omega), Option.bind_some, ck_t (by first | rfl | (simp; done) | (simp; omega)), gI_D (by omega), Option.bind_some,
        turn_eq _ (k := 7) (by omega) (by omega) (m := 7) rfl, Option.bind_some, turn_eq _ (k := 18) (by omega) (by omega) (m := 18) rfl, Option.bind_some, ck_t (by first | rfl | (simp; done) | (simp; omega)), gI_D (by omega), Option.bind_some, turn_eq _ (k := 17) (by omega) (by omega) (m := 17) rfl, Option.bind_some, turn_eq _ (k := 19) (by omega) (by omega) (m := 19) rfl, Option.bind_some, ck_t (by first | rfl | (simp; done) | (simp; omega)), ck_t (by first | rfl | (simp; done) | (simp; omega)), Int.toNat_natCast, sum_eq]
      rfl
/-! ### a block's rounds -/
def rnd (k w : Int) : List Int → List Int
  | [a, b, c, d, e, f, g, h] =>
    let x := IntKind.u32.wrap (IntKind.u32.wrap (IntKind.u32.wrap (IntKind.u32.wrap (h + bits .xor .u32 (bits .xor .u32 (rr e 6) (rr e 11)) (rr e 25)) + bits .xor .u32 g (bits .and .u32 e (bits .xor .u32 f g))) + k) + w)
    let y := IntKind.u32.wrap (bits .xor .u32 (bits .xor .u32 (rr a 2) (rr a 13)) (rr a 22) + bits .or .u32 (bits .and .u32 a (bits .or .u32 b c)) (bits .and .u32 b c))
    [IntKind.u32.wrap (x + y), a, b, c, IntKind.u32.wrap (d + x), e, f, g]
  | v => v
theorem eight {v : List Int} (h : v.length = 8) : ∃ a b c d e f g i, v = [a, b, c, d, e, f, g, i] := by
  match v, h with
  | [a, b, c, d, e, f, g, i], _ => exact ⟨a, b, c, d, e, f, g, i, rfl⟩
theorem rnd_len (k w : Int) {v : List Int} (h : v.length = 8) : (rnd k w v).length = 8 := by
  obtain ⟨a, b, c, d, e, f, g, i, rfl⟩ := eight h
  rfl
def vAt (kk w h : List Int) : Nat → List Int
  | 0 => h
  | i + 1 => rnd (kk.getD i 0) (w.getD i 0) (vAt kk w h i)
theorem vAt_len {kk w h : List Int} (hh : h.length = 8) : ∀ i, (vAt kk w h i).length = 8
  | 0 => hh
  | i + 1 => rnd_len _ _ (vAt_len hh i)
theorem v_sha (kk w h : List Int) (hk : kk.length = 64) (hw : w.length = 64) (hh : h.length = 8) : ∀ k i : Nat, i + k = 64 → loopC (F_sha_state_turned_L15 kk) ((i : Int), h, w, vAt kk w h i) = some (.inr (h, vAt kk w h 64))
  | 0, i, hi => by
    refine loop_inl ?_
    unfold F_sha_state_turned_L15
    dsimp only
    rw [decide_eq_false (show ¬ (i : Int) < 64 by omega), cond_false, show i = 64 by omega]
  | k + 1, i, hi => by
    refine loop_inr (s' := (((i + 1 : Nat) : Int), h, w, vAt kk w h (i + 1))) ?_ (v_sha kk w h hk hw hh k (i + 1) (by omega))
    show _ = some (Sum.inr (((i + 1 : Nat) : Int), h, w, rnd (kk.getD i 0) (w.getD i 0) (vAt kk w h i)))
    obtain ⟨a, b, c, d, e, f, g, z, hv⟩ := eight (vAt_len (kk := kk) (w := w) hh i)
    rw [hv]
    unfold F_sha_state_turned_L15
    dsimp only
    have g0 : getI [a, b, c, d, e, f, g, z] (0 : Int) = some a := rfl
    have g1 : getI [a, b, c, d, e, f, g, z] (1 : Int) = some b := rfl
    have g2 : getI [a, b, c, d, e, f, g, z] (2 : Int) = some c := rfl
    have g3 : getI [a, b, c, d, e, f, g, z] (3 : Int) = some d := rfl
    have g4 : getI [a, b, c, d, e, f, g, z] (4 : Int) = some e := rfl
    have g5 : getI [a, b, c, d, e, f, g, z] (5 : Int) = some f := rfl
    have g6 : getI [a, b, c, d, e, f, g, z] (6 : Int) = some g := rfl
    have g7 : getI [a, b, c, d, e, f, g, z] (7 : Int) = some z := rfl
    rw [decide_eq_true (show (i : Int) < 64 by omega), cond_true, g0, g1, g2, g3, g4, g5, g6, g7, gI_D (show i < kk.length by omega), gI_D (show i < w.length by omega)]
    simp only [Option.bind_some]
    rw [rot_eq e (k := 6) (by omega) (by omega) (m := -6) rfl, rot_eq e (k := 11) (by omega) (by omega) (m := -11) rfl, rot_eq e (k := 25) (by omega) (by omega) (m := -25) rfl, rot_eq a (k := 2) (by omega) (by omega) (m := -2) rfl, rot_eq a (k := 13) (by omega) (by omega) (m := -13) rfl, rot_eq a (k := 22) (by omega) (by omega) (m := -22) rfl]
    simp only [Option.bind_some]
    rw [ck_t (by first | rfl | (simp; done) | (simp; omega)), wrap_in (x := (i : Int) + 1) (by omega) (by omega)]
    rfl
theorem v_ref (kk w r8 h : List Int) (hk : kk.length = 64) (hw : w.length = 64) (hh : h.length = 8) : ∀ k i : Nat, i + k = 64 → loopC F_wlvref1_block_L15 ((i : Int), h, kk, r8, w, vAt kk w h i) = some (.inr (h, r8, vAt kk w h 64))
  | 0, i, hi => by
    refine loop_inl ?_
    unfold F_wlvref1_block_L15
    dsimp only
    rw [decide_eq_false (show ¬ (i : Int) < 64 by omega), cond_false, show i = 64 by omega]
  | k + 1, i, hi => by
    refine loop_inr (s' := (((i + 1 : Nat) : Int), h, kk, r8, w, vAt kk w h (i + 1))) ?_ (v_ref kk w r8 h hk hw hh k (i + 1) (by omega))
    show _ = some (Sum.inr (((i + 1 : Nat) : Int), h, kk, r8, w, rnd (kk.getD i 0) (w.getD i 0) (vAt kk w h i)))
    obtain ⟨a, b, c, d, e, f, g, z, hv⟩ := eight (vAt_len (kk := kk) (w := w) hh i)
    rw [hv]
    unfold F_wlvref1_block_L15
    dsimp only
    have g0 : getI [a, b, c, d, e, f, g, z] (0 : Int) = some a := rfl
    have g1 : getI [a, b, c, d, e, f, g, z] (1 : Int) = some b := rfl
    have g2 : getI [a, b, c, d, e, f, g, z] (2 : Int) = some c := rfl
    have g3 : getI [a, b, c, d, e, f, g, z] (3 : Int) = some d := rfl
    have g4 : getI [a, b, c, d, e, f, g, z] (4 : Int) = some e := rfl
    have g5 : getI [a, b, c, d, e, f, g, z] (5 : Int) = some f := rfl
    have g6 : getI [a, b, c, d, e, f, g, z] (6 : Int) = some g := rfl
    have g7 : getI [a, b, c, d, e, f, g, z] (7 : Int) = some z := rfl
    rw [decide_eq_true (show (i : Int) < 64 by omega), cond_true, g0, g1, g2, g3, g4, g5, g6, g7, gI_D (show i < kk.length by omega), gI_D (show i < w.length by omega)]
    simp only [Option.bind_some]
    rw [turn_eq e (k := 6) (by omega) (by omega) (m := 6) rfl, turn_eq e (k := 11) (by omega) (by omega) (m := 11) rfl, turn_eq e (k := 25) (by omega) (by omega) (m := 25) rfl, turn_eq a (k := 2) (by omega) (by omega) (m := 2) rfl, turn_eq a (k := 13) (by omega) (by omega) (m := 13) rfl, turn_eq a (k := 22) (by omega) (by omega) (m := 22) rfl]
    simp only [Option.bind_some]
    rw [ck_t (by first | rfl | (simp; done) | (simp; omega)), ck_t (by first | rfl | (simp; done) | (simp; omega)), wrap_in (x := (i : Int) + 1) (by omega) (by omega), ← ch_eq, ← maj_eq]
    rfl
/-- What a block makes of a state. -/
def addV (h v : List Int) : List Int := (List.range 8).map fun i => IntKind.u32.wrap (h.getD i 0 + v.getD i 0)
def blk (kk h m : List Int) : List Int := addV h (vAt kk (wAt m 64) h 64)
theorem addV_len (h v : List Int) : (addV h v).length = 8 := rfl
theorem add_sha {h v : List Int} (hh : h.length = 8) (hv : v.length = 8) : loopC F_sha_state_turned_L24 (0, h, v) = some (addV h v) := by
  obtain ⟨a, b, c, d, e, f, g, z, rfl⟩ := eight hh
  obtain ⟨a2, b2, c2, d2, e2, f2, g2, z2, rfl⟩ := eight hv
  exact loop_of_iter (n := 9) rfl
theorem add_ref {h v r8 : List Int} (hh : h.length = 8) (hv : v.length = 8) : loopC F_wlvref1_block_L24 (0, h, r8, v) = some (.inr (addV h v, r8)) := by
  obtain ⟨a, b, c, d, e, f, g, z, rfl⟩ := eight hh
  obtain ⟨a2, b2, c2, d2, e2, f2, g2, z2, rfl⟩ := eight hv
  exact loop_of_iter (n := 9) rfl
theorem turned_sha {h m kk : List Int} (hh : h.length = 8) (hm : m.length = 64) (hk : kk.length = 64) : F_sha_state_turned h m kk = some (blk kk h m) := by
  unfold F_sha_state_turned
  refine (join_inr (w_sha m h hm 64 0 rfl)).trans ?_
  unfold F_sha_state_turned_J1
  dsimp only
  refine (join_inr (v_sha kk (wAt m 64) h hk (wAt_len m 64) hh 64 0 rfl)).trans ?_
  unfold F_sha_state_turned_J13
  dsimp only
  exact add_sha hh (vAt_len hh 64)
theorem block_ref {h m kk : List Int} (hh : h.length = 8) (hm : m.length = 64) (hk : kk.length = 64) : F_wlvref1_block h kk m = some (blk kk h m) := by
  unfold F_wlvref1_block
  refine (join_inr (w_ref m h kk (List.replicate 8 ((0 : Nat) : Int)) hm 64 0 rfl)).trans ?_
  unfold F_wlvref1_block_J2
  dsimp only
  refine (join_inr (v_ref kk (wAt m 64) _ h hk (wAt_len m 64) hh 64 0 rfl)).trans ?_
  unfold F_wlvref1_block_J13
  dsimp only
  rw [join_inr (add_ref hh (vAt_len hh 64))]
  rfl
end Go.Proofs.YtblngdnndkljoaaDoor

/- The sum of a text: what both roads answer. -/
namespace Go.Proofs.YtblngdnndkljoaaDoor
open Pv
set_option linter.unusedVariables false
/-! ### the constants, filled in one by one -/
def kAt (i : Nat) : List Int := K64.take i ++ List.replicate (64 - i) 0
def hAt (i : Nat) : List Int := H8.take i ++ List.replicate (8 - i) 0
theorem tab_KH : (List.range 64).all (fun i => (cond (decide (i < 8)) ((hAt i).set i (H8.getD i 0)) (hAt i) == hAt (i + 1)) && (K64.take i ++ [K64.getD i 0] == K64.take (i + 1)) && ((kAt i).set i (K64.getD i 0) == kAt (i + 1))) = true := by kernel_rfl
theorem step_KH {i : Nat} (h : i < 64) : cond (decide (i < 8)) ((hAt i).set i (H8.getD i 0)) (hAt i) = hAt (i + 1) ∧ K64.take i ++ [K64.getD i 0] = K64.take (i + 1) ∧ (kAt i).set i (K64.getD i 0) = kAt (i + 1) := by
  have := List.all_eq_true.1 tab_KH i (List.mem_range.2 h)
  simp only [Bool.and_eq_true, beq_iff_eq] at this
  exact ⟨this.1.1, this.1.2, this.2⟩
theorem p64_len : P64.length = 64 := by kernel_rfl
theorem k64_take (i : Nat) (h : i ≤ 64) : (K64.take i).length = i := by
  have e : K64.length = 64 := by kernel_rfl
  rw [List.length_take, e]; omega
theorem c_sha : ∀ k i : Nat, i + k = 64 → loopC (F_sha_One_L5 P64) (K64.take i, P64, (i : Int), hAt i) = some (.inr (K64, H8))
  | 0, i, hk => by
    refine loop_inl ?_
    unfold F_sha_One_L5
    dsimp only
    have e : i = 64 := by omega
    subst e
    rw [p64_len, decide_eq_false (by omega), cond_false]
    rfl
  | k + 1, i, hk => by
    obtain ⟨s1, s2, s3⟩ := step_KH (show i < 64 by omega)
    refine loop_inr (s' := (K64.take (i + 1), P64, ((i + 1 : Nat) : Int), hAt (i + 1))) ?_ (c_sha k (i + 1) (by omega))
    unfold F_sha_One_L5
    dsimp only
    have hm : maxLen = 9223372036854775807 := rfl
    have hl := k64_take i (by omega)
    have hw : IntKind.i64.wrap ((i : Int) + 1) = ((i + 1 : Nat) : Int) := wrap_in (by omega) (by omega)
    have hck : ∀ x : Int, (decide (((K64.take i).length + ([x] : List Int).length) * 4 ≤ 140737488355328) && decide ((K64.take i).length + ([x] : List Int).length ≤ maxLen)) = true := fun x => by
      have e : ([x] : List Int).length = 1 := rfl
      rw [hl, e, decide_eq_true (by omega), decide_eq_true (by omega)]; rfl
    rw [p64_len, decide_eq_true (show (i : Int) < ((64 : Nat) : Int) by omega), cond_true, gI_D (by rw [p64_len]; omega), Option.bind_some, frac_K (by omega), Option.bind_some, ck_t (hck _), s2]
    by_cases h8 : i < 8
    · rw [decide_eq_true h8, cond_true] at s1
      rw [decide_eq_true (show (i : Int) < 8 by omega), cond_true, frac_H h8, Option.bind_some, ck_t (by rw [decide_eq_true (by omega)]; rfl), ck_t rfl, Option.bind_some, ck_t (hck _), hw, Int.toNat_natCast, s1, s2]
    · rw [decide_eq_false h8, cond_false] at s1
      rw [decide_eq_false (show ¬ (i : Int) < 8 by omega), cond_false, hw, s1]
theorem c_ref : ∀ k i : Nat, i + k = 64 → loopC F_wlvref1_One_L6 (P64, (i : Int), kAt i, List.replicate 8 0) = some (.inr (P64, K64, List.replicate 8 0))
  | 0, i, hk => by
    refine loop_inl ?_
    unfold F_wlvref1_One_L6
    dsimp only
    have e : i = 64 := by omega
    subst e
    rw [decide_eq_false (by omega), cond_false]
    have e : kAt 64 = K64 := by kernel_rfl
    rw [e]
  | k + 1, i, hk => by
    obtain ⟨s1, s2, s3⟩ := step_KH (show i < 64 by omega)
    refine loop_inr (s' := (P64, ((i + 1 : Nat) : Int), kAt (i + 1), List.replicate 8 0)) ?_ (c_ref k (i + 1) (by omega))
    unfold F_wlvref1_One_L6
    dsimp only
    have hw : IntKind.i64.wrap ((i : Int) + 1) = ((i + 1 : Nat) : Int) := wrap_in (by omega) (by omega)
    rw [decide_eq_true (show (i : Int) < 64 by omega), cond_true, gI_D (by rw [p64_len]; omega), Option.bind_some, root_K (by omega), Option.bind_some, ck_t (by rw [decide_eq_true (by omega)]; rfl), ck_t rfl, hw, Int.toNat_natCast, s3]
theorem d_ref : ∀ k i : Nat, i + k = 8 → loopC F_wlvref1_One_L12 (P64, (i : Int), K64, hAt i) = some (.inr (K64, H8))
  | 0, i, hk => by
    refine loop_inl ?_
    unfold F_wlvref1_One_L12
    dsimp only
    have e : i = 8 := by omega
    subst e
    rw [decide_eq_false (by omega), cond_false]
    rfl
  | k + 1, i, hk => by
    obtain ⟨s1, s2, s3⟩ := step_KH (show i < 64 by omega)
    have h8 : i < 8 := by omega
    rw [decide_eq_true h8, cond_true] at s1
    refine loop_inr (s' := (P64, ((i + 1 : Nat) : Int), K64, hAt (i + 1))) ?_ (d_ref k (i + 1) (by omega))
    unfold F_wlvref1_One_L12
    dsimp only
    have hw : IntKind.i64.wrap ((i : Int) + 1) = ((i + 1 : Nat) : Int) := wrap_in (by omega) (by omega)
    rw [decide_eq_true (show (i : Int) < 8 by omega), cond_true, gI_D (by rw [p64_len]; omega), Option.bind_some, root_H h8, Option.bind_some, ck_t (by rw [decide_eq_true (by omega)]; rfl), ck_t rfl, hw, Int.toNat_natCast, s1]
/-! ### what is put behind a text -/
def shZ (n : Nat) : Nat := (119 - n % 64) % 64
def shLenB (n : Int) (i : Nat) : Int := IntKind.u8.wrap (Int.fdiv (IntKind.u64.wrap ((IntKind.u64.wrap n) * 8)) (2 ^ (min (8 * i) 64)))
def shLens (n : Int) : Nat → List Int
  | 0 => []
  | i + 1 => shLenB n i :: shLens n i
def padL (l : List Int) : List Int := ((l ++ [128]) ++ List.replicate (shZ l.length) 0) ++ shLens (l.length : Int) 8
theorem shLens_len (n : Int) : ∀ i, (shLens n i).length = i
  | 0 => rfl
  | i + 1 => by
    show (shLens n i).length + 1 = i + 1
    rw [shLens_len n i]
theorem ck_app {n m b : Nat} (h : (n + m) * b ≤ 140737488355328) (h2 : n + m ≤ 140737488355328) : (decide ((n + m) * b ≤ 140737488355328) && decide (n + m ≤ maxLen)) = true := by
  have hm : maxLen = 9223372036854775807 := rfl
  rw [decide_eq_true h, decide_eq_true (by omega)]; rfl
theorem mod64 (n : Nat) : Int.tmod (n : Int) 64 = ((n % 64 : Nat) : Int) := rfl
theorem z_sha : ∀ (k : Nat) (l : List Int), (l.length + k) % 64 = 56 → (∀ j, j < k → (l.length + j) % 64 ≠ 56) → l.length + k ≤ 1000000000 → loopC F_sha_padded_L3 l = some (.inr (l ++ List.replicate k 0))
  | 0, l, h1, h2, hb => by
    refine loop_inl ?_
    unfold F_sha_padded_L3
    dsimp only
    rw [mod64, show ((((l.length % 64 : Nat) : Int) != 56) = false) by rw [bne_eq_false_iff_eq]; omega, cond_false, List.replicate_zero, List.append_nil]
  | k + 1, l, h1, h2, hb => by
    have hn := h2 0 (by omega)
    have hl : (l ++ ([0] : List Int)).length = l.length + 1 := by rw [List.length_append]; rfl
    have ih := z_sha k (l ++ [0]) (by rw [hl]; omega) (fun j hj => by rw [hl]; have := h2 (j + 1) (by omega); omega) (by rw [hl]; omega)
    rw [List.append_assoc] at ih
    refine loop_inr (s' := l ++ [0]) ?_ ih
    unfold F_sha_padded_L3
    dsimp only
    have e : ([0] : List Int).length = 1 := rfl
    rw [mod64, show ((((l.length % 64 : Nat) : Int) != 56) = true) by rw [bne_iff_ne]; omega, cond_true, e, ck_t (ck_app (by omega) (by omega))]
theorem z_ref (a b : List Int) : ∀ (k : Nat) (l : List Int), (l.length + k) % 64 = 56 → (∀ j, j < k → (l.length + j) % 64 ≠ 56) → l.length + k ≤ 1000000000 → loopC F_wlvref1_One_L18 (l, a, b) = some (.inr (l ++ List.replicate k 0, a, b))
  | 0, l, h1, h2, hb => by
    refine loop_inl ?_
    unfold F_wlvref1_One_L18
    dsimp only
    rw [mod64, show ((((l.length % 64 : Nat) : Int) != 56) = false) by rw [bne_eq_false_iff_eq]; omega, cond_false, List.replicate_zero, List.append_nil]
  | k + 1, l, h1, h2, hb => by
    have hn := h2 0 (by omega)
    have hl : (l ++ ([0] : List Int)).length = l.length + 1 := by rw [List.length_append]; rfl
    have ih := z_ref a b k (l ++ [0]) (by rw [hl]; omega) (fun j hj => by rw [hl]; have := h2 (j + 1) (by omega); omega) (by rw [hl]; omega)
    rw [List.append_assoc] at ih
    refine loop_inr (s' := (l ++ [0], a, b)) ?_ ih
    unfold F_wlvref1_One_L18
    dsimp only
    have e : ([0] : List Int).length = 1 := rfl
    rw [mod64, show ((((l.length % 64 : Nat) : Int) != 56) = true) by rw [bne_iff_ne]; omega, cond_true, e, ck_t (ck_app (by omega) (by omega))]
theorem l_sha (l1 : List Int) : ∀ (k : Nat) (l : List Int), k ≤ 8 → l.length ≤ 1000000000 + 8 - k → loopC (F_sha_padded_L8 l1) (l, (k : Int) - 1) = some (.inr (l ++ shLens (l1.length : Int) k))
  | 0, l, hk, hb => by
    refine loop_inl ?_
    unfold F_sha_padded_L8
    dsimp only
    rw [decide_eq_false (by omega), cond_false]
    show some (Sum.inl (Sum.inr l)) = some (Sum.inl (Sum.inr (l ++ [])))
    rw [List.append_nil]
  | k + 1, l, hk, hb => by
    have hl : (l ++ ([shLenB (l1.length : Int) k] : List Int)).length = l.length + 1 := by rw [List.length_append]; rfl
    have ih := l_sha l1 k (l ++ [shLenB (l1.length : Int) k]) (by omega) (by rw [hl]; omega)
    rw [List.append_assoc] at ih
    refine loop_inr (s' := (l ++ [shLenB (l1.length : Int) k], (k : Int) - 1)) ?_ ih
    unfold F_sha_padded_L8
    dsimp only
    rw [show (((k + 1 : Nat) : Int) - 1) = (k : Int) by omega, decide_eq_true (by omega), cond_true, wrap_in (x := 8 * (k : Int)) (by omega) (by omega), wrap_in (x := (k : Int) - 1) (by omega) (by omega), show 8 * (k : Int) = ((8 * k : Nat) : Int) by omega, Int.toNat_natCast, ck_t (decide_eq_true (by omega))]
    have e : ∀ x : Int, ([x] : List Int).length = 1 := fun _ => rfl
    rw [e, ck_t (ck_app (by omega) (by omega))]
    rfl
theorem l_ref (l1 a b : List Int) : ∀ (k : Nat) (l : List Int), k ≤ 8 → l.length ≤ 1000000000 + 8 - k → loopC (F_wlvref1_One_L23 l1) (l, (k : Int) - 1, a, b) = some (.inr (l ++ shLens (l1.length : Int) k, a, b))
  | 0, l, hk, hb => by
    refine loop_inl ?_
    unfold F_wlvref1_One_L23
    dsimp only
    rw [decide_eq_false (by omega), cond_false]
    show some (Sum.inl (Sum.inr (l, a, b))) = some (Sum.inl (Sum.inr (l ++ [], a, b)))
    rw [List.append_nil]
  | k + 1, l, hk, hb => by
    have hl : (l ++ ([shLenB (l1.length : Int) k] : List Int)).length = l.length + 1 := by rw [List.length_append]; rfl
    have ih := l_ref l1 a b k (l ++ [shLenB (l1.length : Int) k]) (by omega) (by rw [hl]; omega)
    rw [List.append_assoc] at ih
    refine loop_inr (s' := (l ++ [shLenB (l1.length : Int) k], (k : Int) - 1, a, b)) ?_ ih
    unfold F_wlvref1_One_L23
    dsimp only
    have hu : IntKind.u64.wrap ((8 * k : Nat) : Int) = ((8 * k : Nat) : Int) := by
      show ((8 * k : Nat) : Int) % 18446744073709551616 = _
      omega
    rw [show (((k + 1 : Nat) : Int) - 1) = (k : Int) by omega, decide_eq_true (by omega), cond_true, wrap_in (x := 8 * (k : Int)) (by omega) (by omega), wrap_in (x := (k : Int) - 1) (by omega) (by omega), show 8 * (k : Int) = ((8 * k : Nat) : Int) by omega, hu, Int.toNat_natCast, ck_t (decide_eq_true (by omega))]
    have e : ∀ x : Int, ([x] : List Int).length = 1 := fun _ => rfl
    rw [e, ck_t (ck_app (by omega) (by omega))]
    rfl
theorem shZ_ok (n : Nat) : (n + 1 + shZ n) % 64 = 56 ∧ (∀ j, j < shZ n → (n + 1 + j) % 64 ≠ 56) ∧ shZ n < 64 := by
  unfold shZ
  refine ⟨by omega, fun j hj => by omega, by omega⟩
theorem padL_len (l : List Int) : ∃ m, (padL l).length = 64 * m ∧ (padL l).length ≤ l.length + 128 := by
  have h := shZ_ok l.length
  have e : (padL l).length = l.length + 1 + shZ l.length + 8 := by
    unfold padL
    rw [List.length_append, List.length_append, List.length_append, shLens_len, List.length_replicate]; rfl
  exact ⟨(padL l).length / 64, by omega, by omega⟩
theorem pad_sha {l : List Int} (hl : l.length ≤ 100000000) : F_sha_padded l = some (padL l) := by
  have h := shZ_ok l.length
  have hc : F_slices_Clone_byte_byte l = some l := by
    unfold F_slices_Clone_byte_byte
    rw [Nat.ble_eq_true_of_le hl]; rfl
  have e : ([128] : List Int).length = 1 := rfl
  have hL : (l ++ ([128] : List Int)).length = l.length + 1 := by rw [List.length_append]; rfl
  have hz : (List.replicate (shZ l.length) (0 : Int)).length = shZ l.length := List.length_replicate
  unfold F_sha_padded
  rw [hc, Option.bind_some, e, ck_t (ck_app (by omega) (by omega)), join_inr (z_sha (shZ l.length) (l ++ [128]) (by rw [hL]; exact h.1) (by rw [hL]; exact h.2.1) (by rw [hL]; omega))]
  unfold F_sha_padded_J2
  dsimp only
  refine (join_inr (l_sha l 8 _ (by omega) (by rw [List.length_append, hL, hz]; omega))).trans ?_
  rfl
/-! ### the blocks -/
def hBlk (kk p : List Int) : Nat → List Int
  | 0 => H8
  | j + 1 => blk kk (hBlk kk p j) ((p.take (64 * j + 64)).drop (64 * j))
theorem hBlk_len (kk p : List Int) : ∀ j, (hBlk kk p j).length = 8
  | 0 => by kernel_rfl
  | j + 1 => addV_len _ _
theorem cut_blk {p : List Int} {m j : Nat} (hp : p.length = 64 * m) (hj : j < m) (hb : p.length ≤ 1000000000) : cutI p ((64 * j : Nat) : Int) (IntKind.i64.wrap (((64 * j : Nat) : Int) + 64)) = some ((p.take (64 * j + 64)).drop (64 * j)) ∧ ((p.take (64 * j + 64)).drop (64 * j)).length = 64 := by
  constructor
  · unfold cutI
    rw [wrap_in (x := ((64 * j : Nat) : Int) + 64) (by omega) (by omega), show (((64 * j : Nat) : Int) + 64) = ((64 * j + 64 : Nat) : Int) by omega, decide_eq_true (by omega), decide_eq_true (by omega), decide_eq_true (by rw [hp]; omega), Int.toNat_natCast, Int.toNat_natCast]
    rfl
  · rw [List.length_drop, List.length_take, hp]; omega
theorem b_sha (p : List Int) (m : Nat) (hp : p.length = 64 * m) (hb : p.length ≤ 1000000000) : ∀ k j : Nat, j + k = m → loopC F_sha_One_L15 (K64, p, ((64 * j : Nat) : Int), hBlk K64 p j) = some (.inr (hBlk K64 p m))
  | 0, j, hk => by
    refine loop_inl ?_
    unfold F_sha_One_L15
    dsimp only
    have e : j = m := by omega
    subst e
    rw [decide_eq_false (by rw [hp]; omega), cond_false]
  | k + 1, j, hk => by
    obtain ⟨c1, c2⟩ := cut_blk hp (show j < m by omega) hb
    refine loop_inr (s' := (K64, p, ((64 * (j + 1) : Nat) : Int), hBlk K64 p (j + 1))) ?_ (b_sha p m hp hb k (j + 1) (by omega))
    unfold F_sha_One_L15
    dsimp only
    rw [decide_eq_true (show ((64 * j : Nat) : Int) < (p.length : Int) by rw [hp]; omega), cond_true, c1, Option.bind_some, turned_sha (hBlk_len _ _ _) c2 (by kernel_rfl), Option.bind_some, wrap_in (x := ((64 * j : Nat) : Int) + 64) (by omega) (by omega), show (((64 * j : Nat) : Int) + 64) = ((64 * (j + 1) : Nat) : Int) by omega]
    rfl
theorem b_ref (p : List Int) (m : Nat) (hp : p.length = 64 * m) (hb : p.length ≤ 1000000000) : ∀ k j : Nat, j + k = m → loopC F_wlvref1_One_L29 (p, ((64 * j : Nat) : Int), K64, hBlk K64 p j) = some (.inr (hBlk K64 p m))
  | 0, j, hk => by
    refine loop_inl ?_
    unfold F_wlvref1_One_L29
    dsimp only
    have e : j = m := by omega
    subst e
    rw [decide_eq_false (by rw [hp]; omega), cond_false]
  | k + 1, j, hk => by
    obtain ⟨c1, c2⟩ := cut_blk hp (show j < m by omega) hb
    refine loop_inr (s' := (p, ((64 * (j + 1) : Nat) : Int), K64, hBlk K64 p (j + 1))) ?_ (b_ref p m hp hb k (j + 1) (by omega))
    unfold F_wlvref1_One_L29
    dsimp only
    rw [decide_eq_true (show ((64 * j : Nat) : Int) < (p.length : Int) by rw [hp]; omega), cond_true, c1, Option.bind_some, block_ref (hBlk_len _ _ _) c2 (by kernel_rfl), Option.bind_some, wrap_in (x := ((64 * j : Nat) : Int) + 64) (by omega) (by omega), show (((64 * j : Nat) : Int) + 64) = ((64 * (j + 1) : Nat) : Int) by omega]
    rfl
/-! ### what is told of the words -/
def shFour (x : Int) : List Int := [IntKind.u8.wrap (Int.fdiv x (2 ^ 24)), IntKind.u8.wrap (Int.fdiv x (2 ^ 16)), IntKind.u8.wrap (Int.fdiv x (2 ^ 8)), IntKind.u8.wrap x]
def shOut (h : List Int) : List Int := (h.map shFour).flatten
theorem shOut_len {h : List Int} (hh : h.length = 8) : (shOut h).length = 32 := by
  obtain ⟨a, b, c, d, e, f, g, z, rfl⟩ := eight hh
  rfl
theorem o_sha {h : List Int} (hh : h.length = 8) : loopC (F_sha_One_L22 h) (([] : List Int), 0) = some (.inr (shOut h)) := by
  obtain ⟨a, b, c, d, e, f, g, z, rfl⟩ := eight hh
  exact loop_of_iter (n := 9) rfl
theorem o_ref {h : List Int} (hh : h.length = 8) : loopC F_wlvref1_One_L36 (([] : List Int), 0, h) = some (.inr (shOut h)) := by
  obtain ⟨a, b, c, d, e, f, g, z, rfl⟩ := eight hh
  exact loop_of_iter (n := 9) rfl
/-! ### all of it -/
def sumL (l : List Int) : List Int := shOut (hBlk K64 (padL l) ((padL l).length / 64))
theorem sumL_len (l : List Int) : (sumL l).length = 32 := shOut_len (hBlk_len _ _ _)
theorem sha_One {l : List Int} (hl : l.length ≤ 100000000) : F_sha_One l = some (sumL l) := by
  obtain ⟨m, h1, h2⟩ := padL_len l
  unfold F_sha_One
  rw [show F_sha_primes 64 = some P64 from rfl, Option.bind_some]
  refine (join_inr (c_sha 64 0 rfl)).trans ?_
  unfold F_sha_One_J3
  dsimp only
  rw [pad_sha hl, Option.bind_some]
  refine (join_inr (b_sha (padL l) m h1 (by omega) m 0 (by omega))).trans ?_
  unfold F_sha_One_J13
  dsimp only
  rw [join_inr (o_sha (hBlk_len _ _ _))]
  unfold F_sha_One_J20 sumL
  rw [h1, Nat.mul_div_cancel_left m (by omega)]
theorem ref_One {l : List Int} (hl : l.length ≤ 100000000) : F_wlvref1_One l = some (sumL l) := by
  obtain ⟨m, h1, h2⟩ := padL_len l
  have h := shZ_ok l.length
  have e : ([128] : List Int).length = 1 := rfl
  have hL : (l ++ ([128] : List Int)).length = l.length + 1 := by rw [List.length_append]; rfl
  have hz : (List.replicate (shZ l.length) (0 : Int)).length = shZ l.length := List.length_replicate
  unfold F_wlvref1_One
  rw [refPrimes, Option.bind_some]
  refine (join_inr (c_ref 64 0 rfl)).trans ?_
  unfold F_wlvref1_One_J4
  dsimp only
  refine (join_inr (d_ref 8 0 rfl)).trans ?_
  unfold F_wlvref1_One_J10
  dsimp only
  rw [List.nil_append, show ([] : List Int).length = 0 from rfl, e, ck_t (ck_app (by omega) (by omega)), ck_t (ck_app (by omega) (by omega)), join_inr (z_ref K64 H8 (shZ l.length) (l ++ [128]) (by rw [hL]; exact h.1) (by rw [hL]; exact h.2.1) (by rw [hL]; omega))]
  unfold F_wlvref1_One_J17
  dsimp only
  refine (join_inr (l_ref l K64 H8 8 _ (by omega) (by rw [List.length_append, hL, hz]; omega))).trans ?_
  unfold F_wlvref1_One_J21
  dsimp only
  refine (join_inr (b_ref (padL l) m h1 (by omega) m 0 (by omega))).trans ?_
  unfold F_wlvref1_One_J27
  dsimp only
  rw [join_inr (o_ref (hBlk_len _ _ _))]
  unfold F_wlvref1_One_J34 sumL
  rw [h1, Nat.mul_div_cancel_left m (by omega)]
theorem sha_Salted {s l : List Int} (hs : s.length ≤ 10000000) (hl : l.length ≤ 10000000) : F_sha_Salted s l = some (sumL (s ++ 0 :: l)) := by
  have e : ([s, ([0] : List Int), l] : List (List Int)).flatten = s ++ 0 :: l := by simp
  have hn : (s ++ 0 :: l).length = s.length + (l.length + 1) := List.length_append
  unfold F_sha_Salted F_slices_Concat_byte_byte
  rw [e, hn, Nat.ble_eq_true_of_le (show s.length + (l.length + 1) ≤ 100000000 by omega)]
  show ((some (s ++ 0 :: l)).bind fun l3 => (F_sha_One l3).bind fun l4 => some l4) = _
  rw [Option.bind_some, sha_One (by rw [hn]; omega)]; rfl
theorem ref_Salted {s l : List Int} (hs : s.length ≤ 10000000) (hl : l.length ≤ 10000000) : F_wlvref1_Salted s l = some (sumL (s ++ 0 :: l)) := by
  have e : ([0] : List Int).length = 1 := rfl
  have h1 : (s ++ ([0] : List Int)).length = s.length + 1 := by rw [List.length_append]; rfl
  have hn : (s ++ 0 :: l).length = s.length + (l.length + 1) := List.length_append
  unfold F_wlvref1_Salted
  rw [List.nil_append, show ([] : List Int).length = 0 from rfl, e, h1, ck_t (ck_app (by omega) (by omega)), ck_t (ck_app (by omega) (by omega)), ck_t (ck_app (by omega) (by omega)), List.append_assoc]
  show ((F_wlvref1_One (s ++ 0 :: l)).bind fun l4 => some l4) = _
  rw [ref_One (by rw [hn]; omega)]; rfl
end Go.Proofs.YtblngdnndkljoaaDoor

/- sha.Equal, in plain words. -/
namespace Go.Proofs.YtblngdnndkljoaaDoor
open Pv
set_option linter.unusedVariables false
def BY (l : List Int) : Prop := ∀ x ∈ l, 0 ≤ x ∧ x < 256
theorem by_get {l : List Int} (h : BY l) {k : Nat} (hk : k < l.length) : 0 ≤ l.getD k 0 ∧ l.getD k 0 < 256 := by
  rw [List.getD_eq_getElem?_getD, List.getElem?_eq_getElem hk, Option.getD_some]
  exact h _ (List.getElem_mem hk)
def cb (v : BitVec 8) : Int := IntKind.u8.wrap (v.toNat : Int)
theorem b8_xor (x y : Int) : bits .xor .u8 x y = cb (BitVec.ofInt 8 x ^^^ BitVec.ofInt 8 y) := rfl
theorem b8_or (x y : Int) : bits .or .u8 x y = cb (BitVec.ofInt 8 x ||| BitVec.ofInt 8 y) := rfl
theorem cb_nat (v : BitVec 8) : cb v = (v.toNat : Int) := by
  show ((v.toNat : Nat) : Int) % 256 = _
  have := v.isLt
  omega
theorem cb_zero (v : BitVec 8) : cb v = 0 ↔ v = 0#8 := by
  rw [cb_nat]
  constructor
  · intro h
    apply BitVec.eq_of_toNat_eq
    have : v.toNat = 0 := by omega
    rw [this]; rfl
  · intro h; rw [h]; rfl
theorem cb_in (v : BitVec 8) : 0 ≤ cb v ∧ cb v < 256 := by
  rw [cb_nat]
  have := v.isLt
  omega
theorem xor_in (x y : Int) : 0 ≤ bits .xor .u8 x y ∧ bits .xor .u8 x y < 256 := by rw [b8_xor]; exact cb_in _
theorem or_in (x y : Int) : 0 ≤ bits .or .u8 x y ∧ bits .or .u8 x y < 256 := by rw [b8_or]; exact cb_in _
theorem of_inj {x y : Int} (hx : 0 ≤ x ∧ x < 256) (hy : 0 ≤ y ∧ y < 256) : BitVec.ofInt 8 x = BitVec.ofInt 8 y ↔ x = y := by
  obtain ⟨m, rfl⟩ := Int.eq_ofNat_of_zero_le hx.1
  obtain ⟨n, rfl⟩ := Int.eq_ofNat_of_zero_le hy.1
  rw [BitVec.ofInt_natCast, BitVec.ofInt_natCast]
  constructor
  · intro h
    have := congrArg BitVec.toNat h
    rw [BitVec.toNat_ofNat, BitVec.toNat_ofNat] at this
    omega
  · intro h
    have : m = n := by omega
    rw [this]
theorem xor_zero8 (u v : BitVec 8) : u ^^^ v = 0#8 ↔ u = v := by
  constructor
  · intro h
    have := congrArg (fun z => z ^^^ v) h
    simpa [BitVec.xor_assoc] using this
  · intro h; rw [h]; simp
theorem or_zero8 (u v : BitVec 8) : u ||| v = 0#8 ↔ u = 0#8 ∧ v = 0#8 := by
  constructor
  · intro h
    have key : ∀ i, u.getLsbD i = false ∧ v.getLsbD i = false := fun i => by
      have := congrArg (fun z => z.getLsbD i) h
      simpa [BitVec.getLsbD_or] using this
    exact ⟨BitVec.eq_of_getLsbD_eq fun i _ => by rw [(key i).1]; simp, BitVec.eq_of_getLsbD_eq fun i _ => by rw [(key i).2]; simp⟩
  · rintro ⟨rfl, rfl⟩; rfl
theorem xor_eq0 {x y : Int} (hx : 0 ≤ x ∧ x < 256) (hy : 0 ≤ y ∧ y < 256) : bits .xor .u8 x y = 0 ↔ x = y := by
  rw [b8_xor, cb_zero, xor_zero8, of_inj hx hy]
theorem or_eq0 {x y : Int} (hx : 0 ≤ x ∧ x < 256) (hy : 0 ≤ y ∧ y < 256) : bits .or .u8 x y = 0 ↔ x = 0 ∧ y = 0 := by
  have z : BitVec.ofInt 8 0 = 0#8 := rfl
  rw [b8_or, cb_zero, or_zero8, ← z, of_inj hx ⟨by omega, by omega⟩, of_inj hy ⟨by omega, by omega⟩]
theorem xor_keep {x t : Int} (hx : 0 ≤ x ∧ x < 256) (ht : 0 ≤ t ∧ t < 256) : bits .xor .u8 x t = x ↔ t = 0 := by
  have z : BitVec.ofInt 8 0 = 0#8 := rfl
  have e : BitVec.ofInt 8 (cb (BitVec.ofInt 8 x ^^^ BitVec.ofInt 8 t)) = BitVec.ofInt 8 x ^^^ BitVec.ofInt 8 t := by
    rw [cb_nat, BitVec.ofInt_natCast, BitVec.ofNat_toNat, BitVec.setWidth_eq]
  rw [b8_xor, ← of_inj (cb_in _) hx, e, ← of_inj ht ⟨Int.le_refl 0, by omega⟩, z]
  constructor
  · intro h
    have := congrArg (fun w => BitVec.ofInt 8 x ^^^ w) h
    simpa [← BitVec.xor_assoc] using this
  · intro h; rw [h]; simp
theorem eq_loop {a b : List Int} (ha : BY a) (hb : BY b) (hl : a.length = b.length) (hn : a.length ≤ 1000000000) : ∀ (k i : Nat) (acc : Int), i + k = a.length → 0 ≤ acc ∧ acc < 256 →
    ∃ r, loopC (F_sha_Equal_L7 a b) (acc, (i : Int)) = some (.inr r) ∧ (r = 0 ↔ acc = 0 ∧ a.drop i = b.drop i)
  | 0, i, acc, hi, hacc => by
    refine ⟨acc, loop_inl ?_, ?_⟩
    · unfold F_sha_Equal_L7
      dsimp only
      rw [decide_eq_false (by omega), cond_false]
    · rw [List.drop_of_length_le (by omega), List.drop_of_length_le (by omega)]
      simp
  | k + 1, i, acc, hi, hacc => by
    have ga := by_get ha (show i < a.length by omega)
    have gb := by_get hb (show i < b.length by omega)
    obtain ⟨r, h1, h2⟩ := eq_loop ha hb hl hn k (i + 1) (bits .or .u8 acc (bits .xor .u8 (a.getD i 0) (b.getD i 0))) (by omega) (or_in _ _)
    refine ⟨r, loop_inr ?_ h1, ?_⟩
    · unfold F_sha_Equal_L7
      dsimp only
      rw [decide_eq_true (show (i : Int) < (a.length : Int) by omega), cond_true, gI_D (by omega), Option.bind_some, gI_D (by omega), Option.bind_some, wrap_in (by omega) (by omega)]
      rfl
    · have da : a.drop i = a.getD i 0 :: a.drop (i + 1) := by
        rw [List.drop_eq_getElem_cons (by omega), List.getD_eq_getElem?_getD, List.getElem?_eq_getElem (by omega)]; rfl
      have db : b.drop i = b.getD i 0 :: b.drop (i + 1) := by
        rw [List.drop_eq_getElem_cons (by omega), List.getD_eq_getElem?_getD, List.getElem?_eq_getElem (by omega)]; rfl
      rw [h2, or_eq0 hacc (xor_in _ _), xor_eq0 ga gb, da, db, List.cons.injEq]
      constructor
      · rintro ⟨⟨p, q⟩, r⟩; exact ⟨p, q, r⟩
      · rintro ⟨p, q, r⟩; exact ⟨⟨p, q⟩, r⟩
theorem Equal_len {a b : List Int} (h : a.length ≠ b.length) : F_sha_Equal a b = some false := by
  unfold F_sha_Equal
  rw [show (((a.length : Nat) : Int) != ((b.length : Nat) : Int)) = true by rw [bne_iff_ne]; omega, cond_true]
theorem Equal_eq {a b : List Int} (ha : BY a) (hb : BY b) (hn : a.length ≤ 1000000000) (hm : b.length ≤ 1000000000) : F_sha_Equal a b = some (a == b) := by
  by_cases hl : a.length = b.length
  · obtain ⟨r, h1, h2⟩ := eq_loop ha hb hl hn a.length 0 0 (by omega) ⟨by omega, by omega⟩
    unfold F_sha_Equal
    rw [show (((a.length : Nat) : Int) != ((b.length : Nat) : Int)) = false by rw [bne_eq_false_iff_eq]; omega, cond_false]
    refine (join_inr h1).trans ?_
    unfold F_sha_Equal_J5
    dsimp only
    congr 1
    rw [Bool.eq_iff_iff, beq_iff_eq, beq_iff_eq, h2, List.drop_zero, List.drop_zero]
    simp
  · rw [Equal_len hl]
    congr 1
    symm
    rw [beq_eq_false_iff_ne]
    intro e
    exact hl (by rw [e])
theorem shOut_BY (h : List Int) : BY (shOut h) := fun x hx => by
  unfold shOut at hx
  obtain ⟨l, hl, hx⟩ := List.mem_flatten.1 hx
  obtain ⟨y, _, rfl⟩ := List.mem_map.1 hl
  have w : ∀ z : Int, 0 ≤ IntKind.u8.wrap z ∧ IntKind.u8.wrap z < 256 := fun z => by
    show 0 ≤ z % 256 ∧ z % 256 < 256
    omega
  unfold shFour at hx
  simp only [List.mem_cons, List.not_mem_nil, or_false] at hx
  rcases hx with rfl | rfl | rfl | rfl <;> exact w _
end Go.Proofs.YtblngdnndkljoaaDoor

/- CredReads, CredOnce, CredBack: what is read of a text. -/
namespace Go.Proofs.YtblngdnndkljoaaDoor
open Pv
set_option linter.unusedVariables false
def lw (c : Int) : Int := if 65 ≤ c ∧ c ≤ 90 then c + 32 else c
theorem u8_sm {x : Int} (h0 : 0 ≤ x) (h1 : x < 256) : IntKind.u8.wrap x = x := by rw [IntKind.wrap_u8]; omega
theorem set_mid (pre : List Int) (x v : Int) (r : List Int) : (pre ++ x :: r).set pre.length v = pre ++ v :: r := by
  rw [List.set_append_right _ _ (Nat.le_refl _), Nat.sub_self]; rfl
theorem lower_loop (s : List Int) (hs : s.length ≤ 1000000) : ∀ (r pre : List Int), s.length = pre.length + r.length → loopC (F_wlvref_Lower_L4 s) ((pre.length : Int), pre ++ r) = some (.inr (pre ++ r.map lw))
  | [], pre, hl => by
    refine loop_inl ?_
    unfold F_wlvref_Lower_L4
    dsimp only
    rw [decide_eq_false (by rw [hl]; simp), cond_false]
    rfl
  | x :: r, pre, hl => by
    have hl' : s.length = pre.length + (r.length + 1) := hl
    have ih := lower_loop s hs r (pre ++ [lw x]) (by rw [List.length_append]; simp; omega)
    have e : ((pre ++ [lw x]).length : Int) = (pre.length : Int) + 1 := by rw [List.length_append]; simp
    refine loop_inr (s' := (((pre ++ [lw x]).length : Int), (pre ++ [lw x]) ++ r)) ?_ (ih.trans ?_)
    · unfold F_wlvref_Lower_L4 chk
      dsimp only
      have h1 : (decide ((0 : Int) ≤ (pre.length : Int)) && decide ((pre.length : Int) < (s.length : Int))) = true := by simp; omega
      have h2 : decide ((pre.length : Int) < (s.length : Int)) = true := decide_eq_true (by omega)
      have hg : getI (pre ++ x :: r) (pre.length : Int) = some x := getI_nat (by simp)
      have h3 : decide ((pre.length : Int) < ((pre ++ x :: r).length : Int)) = true := decide_eq_true (by rw [List.length_append, List.length_cons]; omega)
      rw [h1, h2, cond_true, hg, h3]
      simp only [cond_true, Option.bind_some]
      rw [Int.toNat_natCast, set_mid, wrap_in (by omega) (by omega), e, List.append_assoc]
      unfold lw
      by_cases hx : 65 ≤ x ∧ x ≤ 90
      · rw [decide_eq_true (show x ≥ 65 from hx.1), decide_eq_true hx.2, cond_true, cond_true, if_pos hx, u8_sm (by omega) (by omega)]; rfl
      · rw [if_neg hx]
        by_cases h65 : x ≥ 65
        · rw [decide_eq_true h65, decide_eq_false (show ¬ x ≤ 90 by omega)]; rfl
        · rw [decide_eq_false h65]; rfl
    · rw [List.append_assoc]; rfl
theorem Lower_eq (s : List Int) (hs : s.length ≤ 1000000) : F_wlvref_Lower s = some (s.map lw) := by
  have h : loopC (F_wlvref_Lower_L4 s) (0, s) = some (.inr (s.map lw)) := lower_loop s hs s [] (by simp)
  unfold F_wlvref_Lower
  rw [join_inr (s := s.map lw) h]
  unfold F_wlvref_Lower_J2 chk
  dsimp only
  rw [Nat.ble_eq_true_of_le (by simp), cond_true, List.take_of_length_le (by simp)]

/-! ### signs that may be seen -/
def seen (x : Int) : Bool := decide (32 ≤ x) && !(x == 127)
theorem plain_loop (s : List Int) (hs : s.length ≤ 1000000) : ∀ (r pre : List Int), s = pre ++ r → loopC (F_cred_plain_L3 s) (pre.length : Int) = some (cond (r.all seen) (.inr ()) (.inl false))
  | [], pre, h => by
    refine loop_inl ?_
    unfold F_cred_plain_L3
    dsimp only
    rw [decide_eq_false (by rw [h]; simp), cond_false]
    rfl
  | x :: r, pre, h => by
    have ih := plain_loop s hs r (pre ++ [x]) (by rw [h, List.append_assoc]; rfl)
    have hl : s.length = pre.length + (r.length + 1) := by rw [h, List.length_append]; rfl
    have e : ((pre ++ [x]).length : Int) = (pre.length : Int) + 1 := by rw [List.length_append]; simp
    have hg : getI s (pre.length : Int) = some x := getI_nat (by rw [h]; simp)
    have hlt : decide ((pre.length : Int) < (s.length : Int)) = true := decide_eq_true (by omega)
    rw [e] at ih
    rw [List.all_cons]
    by_cases h32 : x < 32
    · refine loop_inl ?_
      unfold F_cred_plain_L3
      dsimp only
      rw [hlt, cond_true, hg, Option.bind_some, decide_eq_true h32, cond_true]
      unfold seen
      rw [decide_eq_false (by omega)]; rfl
    · by_cases h127 : x = 127
      · refine loop_inl ?_
        unfold F_cred_plain_L3
        dsimp only
        rw [hlt, cond_true, hg, Option.bind_some, decide_eq_false h32, cond_false, Option.bind_some, h127]
        rfl
      · have hb : (x == (127 : Int)) = false := beq_eq_false_iff_ne.2 h127
        have hsn : seen x = true := by unfold seen; rw [hb, decide_eq_true (by omega)]; rfl
        rw [hsn, Bool.true_and]
        refine loop_inr ?_ ih
        unfold F_cred_plain_L3
        dsimp only
        rw [hlt, cond_true, hg, Option.bind_some, decide_eq_false h32, cond_false, Option.bind_some, hb, cond_false, wrap_in (by omega) (by omega)]
theorem plain_eq (s : List Int) (hs : s.length ≤ 1000000) : F_cred_plain s = some (s.all seen) := by
  have h : loopC (F_cred_plain_L3 s) 0 = _ := plain_loop s hs s [] rfl
  unfold F_cred_plain
  rw [h]
  cases s.all seen <;> rfl
theorem plain15_eq (s : List Int) (hs : s.length ≤ 1000000) : F_wlvref15_plain s = some (s.all seen) := plain_eq s hs
/-! ### the first colon -/
theorem split58 : ∀ b : List Int, (∀ x ∈ b, x ≠ 58) ∨ ∃ u w, b = u ++ 58 :: w ∧ ∀ x ∈ u, x ≠ 58
  | [] => .inl (by simp)
  | x :: b => by
    by_cases hx : x = 58
    · exact .inr ⟨[], b, by rw [hx]; rfl, by simp⟩
    · rcases split58 b with h | ⟨u, w, rfl, h⟩
      · exact .inl fun y hy => (List.mem_cons.1 hy).elim (fun e => e ▸ hx) (h y)
      · exact .inr ⟨x :: u, w, rfl, fun y hy => (List.mem_cons.1 hy).elim (fun e => e ▸ hx) (h y)⟩
theorem idx_snoc (x : Int) : ∀ l : List Int, idxI (l ++ [x]) 58 = cond (idxI l 58 == -1) (cond (x == 58) (l.length : Int) (-1)) (idxI l 58)
  | [] => by
    show cond (x == 58) 0 (cond ((-1 : Int) == -1) (-1) _) = _
    cases x == 58 <;> rfl
  | y :: l => by
    have ih := idx_snoc x l
    have hin := idxI_in l 58
    show cond (y == 58) 0 (cond (idxI (l ++ [x]) 58 == -1) (-1) (idxI (l ++ [x]) 58 + 1)) = cond (cond (y == 58) 0 (cond (idxI l 58 == -1) (-1) (idxI l 58 + 1)) == -1) (cond (x == 58) ((l.length + 1 : Nat) : Int) (-1)) (cond (y == 58) 0 (cond (idxI l 58 == -1) (-1) (idxI l 58 + 1)))
    rw [ih]
    cases y == 58 with
    | true => rfl
    | false =>
      rw [cond_false, cond_false]
      by_cases h1 : idxI l 58 = -1
      · rw [h1]
        cases x == 58 with
        | false => rfl
        | true =>
          show cond ((l.length : Int) == -1) (-1) ((l.length : Int) + 1) = ((l.length + 1 : Nat) : Int)
          rw [beq_eq_false_iff_ne.2 (by omega)]
          show (l.length : Int) + 1 = _
          omega
      · rw [beq_eq_false_iff_ne.2 h1, cond_false, beq_eq_false_iff_ne.2 h1, cond_false, beq_eq_false_iff_ne.2 (show ¬ idxI l 58 + 1 = -1 by omega), cond_false]
/-- Backwards over the rest: the place of the lowest colon so far. -/
theorem at_loop (b : List Int) (hb : b.length ≤ 1000000) : ∀ (k : Nat) (a : Int), k ≤ b.length → loopC F_wlvref15_Cred_L11 (b, a, (k : Int) - 1) = some (.inr (b, (cond (idxI (b.take k) 58 == -1) a (idxI (b.take k) 58))))
  | 0, a, _ => by
    refine loop_inl ?_
    unfold F_wlvref15_Cred_L11
    rfl
  | k + 1, a, hk => by
    obtain ⟨x, hx⟩ : ∃ x, b[k]? = some x := ⟨b[k]'(by omega), List.getElem?_eq_getElem (by omega)⟩
    have hi : ((k + 1 : Nat) : Int) - 1 = (k : Int) := by omega
    have htk : b.take (k + 1) = b.take k ++ [x] := by rw [List.take_add_one, hx]; rfl
    have hidx : idxI (b.take (k + 1)) 58 = cond (idxI (b.take k) 58 == -1) (cond (x == 58) (k : Int) (-1)) (idxI (b.take k) 58) := by
      rw [htk, idx_snoc, List.length_take, Nat.min_eq_left (by omega)]
    rw [hi]
    refine loop_inr (s' := (b, cond (x == 58) (k : Int) a, (k : Int) - 1)) ?_ ((at_loop b hb k _ (by omega)).trans ?_)
    · unfold F_wlvref15_Cred_L11
      dsimp only
      rw [decide_eq_true (by omega), cond_true, getI_nat hx, Option.bind_some, wrap_in (by omega) (by omega)]
      cases x == 58 <;> rfl
    · rw [hidx]
      have hin := idxI_in (b.take k) 58
      by_cases h1 : idxI (b.take k) 58 = -1
      · rw [h1]
        by_cases h2 : x = 58
        · subst h2
          have : ((k : Int) == -1) = false := beq_eq_false_iff_ne.2 (by omega)
          show some (Sum.inr (b, (k : Int))) = some (Sum.inr (b, cond ((k : Int) == -1) a (k : Int)))
          rw [this]; rfl
        · rw [beq_eq_false_iff_ne.2 h2]; rfl
      · rw [beq_eq_false_iff_ne.2 h1, cond_false, cond_false, beq_eq_false_iff_ne.2 h1, cond_false]
end Go.Proofs.YtblngdnndkljoaaDoor

/- CredReads, CredOnce, CredBack: plain. -/
namespace Go.Proofs.YtblngdnndkljoaaDoor
open Pv
set_option linter.unusedVariables false
theorem fold_lw {x y : Int} (hy : y = 32 ∨ (97 ≤ y ∧ y ≤ 122)) : foldI x y = (lw x == y) := by
  unfold foldI lw
  rw [Bool.eq_iff_iff, decide_eq_true_iff, beq_iff_eq]
  split <;> omega
theorem fold_low : ∀ (p t : List Int), (∀ y ∈ t, y = 32 ∨ (97 ≤ y ∧ y ≤ 122)) → foldL p t = (p.map lw == t)
  | [], [], _ => rfl
  | [], _ :: _, _ => rfl
  | _ :: _, [], _ => rfl
  | x :: p, y :: t, h => by
    have ih := fold_low p t fun z hz => h z (List.mem_cons_of_mem _ hz)
    have h1 := fold_lw (x := x) (h y List.mem_cons_self)
    show (foldI x y && foldL p t) = (lw x :: p.map lw == y :: t)
    rw [ih, h1]
    rfl
theorem b6_low2 : ∀ y ∈ B6, y = 32 ∨ (97 ≤ y ∧ y ≤ 122) := by decide
def okUW (u w : List Int) : Bool := decide (1 ≤ u.length) && decide (u.length ≤ 64) && decide (w.length ≤ 256) && (u ++ w).all seen
def badR : List Int × List Int × Int := ([], [], 2)
section
variable {s : List Int}
theorem cut_take (h6 : 6 ≤ s.length) : cutI s 0 6 = some (s.take 6) := by
  have := cutI_of (s := s) (a := 0) (b := 6) (by omega) h6
  rw [List.drop_zero] at this
  exact this
theorem cut_drop (h6 : 6 ≤ s.length) : cutI s 6 (s.length : Int) = some (s.drop 6) := by
  have := cutI_of (s := s) (a := 6) (b := s.length) h6 (Nat.le_refl _)
  rw [List.take_length] at this
  exact this
theorem fold_some (h6 : 6 ≤ s.length) : F_strings_EqualFold (s.take 6) ([98, 97, 115, 105, 99, 32] : List Int) = some (foldL (s.take 6) B6) := by
  unfold F_strings_EqualFold
  have : (s.take 6).length = 6 := by rw [List.length_take]; omega
  rw [this]; rfl
theorem parse_short (h : s.length < 6) : F_cred_Parse s = some badR := by
  unfold F_cred_Parse
  rw [decide_eq_true (by omega), cond_true]; rfl
theorem parse_nofold (h6 : 6 ≤ s.length) (h : foldL (s.take 6) B6 = false) : F_cred_Parse s = some badR := by
  unfold F_cred_Parse
  rw [decide_eq_false (by omega), cond_false, cut_take h6, Option.bind_some, fold_some h6, h, Option.bind_some]; rfl
theorem parse_bad (h6 : 6 ≤ s.length) (h : foldL (s.take 6) B6 = true) (hd : F_b64_Decode (s.drop 6) = some ([], 2)) : F_cred_Parse s = some badR := by
  unfold F_cred_Parse
  rw [decide_eq_false (by omega), cond_false, cut_take h6, Option.bind_some, fold_some h6, h, Option.bind_some, Bool.not_true, cond_false, cut_drop h6, Option.bind_some, hd, Option.bind_some]
  dsimp only
  rw [cut_no [] (by simp), Option.bind_some]; rfl
theorem parse_none {b : List Int} (h6 : 6 ≤ s.length) (h : foldL (s.take 6) B6 = true) (hd : F_b64_Decode (s.drop 6) = some (b, 0)) (hb : ∀ x ∈ b, x ≠ 58) : F_cred_Parse s = some badR := by
  unfold F_cred_Parse
  rw [decide_eq_false (by omega), cond_false, cut_take h6, Option.bind_some, fold_some h6, h, Option.bind_some, Bool.not_true, cond_false, cut_drop h6, Option.bind_some, hd, Option.bind_some]
  dsimp only
  rw [cut_no b hb, Option.bind_some]
  dsimp only
  rw [show ((0 : Int) != 0) = false from rfl, Bool.false_or]; rfl
theorem parse_some {u w : List Int} (h6 : 6 ≤ s.length) (h : foldL (s.take 6) B6 = true) (hd : F_b64_Decode (s.drop 6) = some (u ++ 58 :: w, 0)) (hu : ∀ x ∈ u, x ≠ 58) (hl : u.length + w.length ≤ 100000) :
    F_cred_Parse s = some (cond (okUW u w) (u, w, 0) badR) := by
  unfold F_cred_Parse
  rw [decide_eq_false (by omega), cond_false, cut_take h6, Option.bind_some, fold_some h6, h, Option.bind_some, Bool.not_true, cond_false, cut_drop h6, Option.bind_some, hd, Option.bind_some]
  dsimp only
  rw [cut_yes u w hu hl, Option.bind_some]
  dsimp only
  rw [show ((0 : Int) != 0) = false from rfl, Bool.false_or, Bool.not_true, Bool.false_or, plain_eq (u ++ w) (by rw [List.length_append]; omega)]
  unfold chk okUW
  rw [ble_max (by omega), cond_true, Option.bind_some]
  have e1 : (u == ([] : List Int)) = !(decide (1 ≤ u.length)) := by cases u <;> rfl
  have e2 : decide ((u.length : Int) > 64) = !(decide (u.length ≤ 64)) := by rw [← decide_not, decide_eq_decide]; omega
  have e3 : decide ((w.length : Int) > 256) = !(decide (w.length ≤ 256)) := by rw [← decide_not, decide_eq_decide]; omega
  rw [e1, e2, e3]
  cases decide (1 ≤ u.length) <;> cases decide (u.length ≤ 64) <;> cases decide (w.length ≤ 256) <;> cases (u ++ w).all seen <;> rfl
/-! ### the document's -/
theorem low_some (h6 : 6 ≤ s.length) : F_wlvref_Lower (s.take 6) = some ((s.take 6).map lw) := Lower_eq _ (by rw [List.length_take]; omega)
theorem low_fold : ((s.take 6).map lw == ([98, 97, 115, 105, 99, 32] : List Int)) = foldL (s.take 6) B6 := (fold_low _ _ b6_low2).symm
theorem rf_short (h : s.length < 6) : F_wlvref15_Cred s = some badR := by
  unfold F_wlvref15_Cred
  rw [decide_eq_true (by omega), cond_true]; rfl
theorem rf_nofold (h6 : 6 ≤ s.length) (h : foldL (s.take 6) B6 = false) : F_wlvref15_Cred s = some badR := by
  unfold F_wlvref15_Cred
  rw [decide_eq_false (by omega), cond_false, cut_take h6, Option.bind_some, low_some h6, Option.bind_some, low_fold, h]; rfl
theorem rf_bad (h6 : 6 ≤ s.length) (h : foldL (s.take 6) B6 = true) (hd : F_wlvref1_Decode (s.drop 6) = some ([], 2)) : F_wlvref15_Cred s = some badR := by
  unfold F_wlvref15_Cred
  rw [decide_eq_false (by omega), cond_false, cut_take h6, Option.bind_some, low_some h6, Option.bind_some, low_fold, h, Bool.not_true, cond_false, cut_drop h6, Option.bind_some, hd]; rfl
theorem rf_at {b : List Int} (hb : b.length ≤ 100000) (h6 : 6 ≤ s.length) (h : foldL (s.take 6) B6 = true) (hd : F_wlvref1_Decode (s.drop 6) = some (b, 0)) : F_wlvref15_Cred s = F_wlvref15_Cred_J9 (b, idxI b 58) := by
  unfold F_wlvref15_Cred
  rw [decide_eq_false (by omega), cond_false, cut_take h6, Option.bind_some, low_some h6, Option.bind_some, low_fold, h, Bool.not_true, cond_false, cut_drop h6, Option.bind_some, hd, Option.bind_some]
  dsimp only
  rw [show ((0 : Int) != 0) = false from rfl, cond_false, wrap_in (by omega) (by omega)]
  have hl := at_loop b (by omega) b.length (-1) (Nat.le_refl _)
  rw [List.take_length] at hl
  rw [join_inr hl]
  by_cases h1 : idxI b 58 = -1
  · rw [h1]; rfl
  · rw [beq_eq_false_iff_ne.2 h1, cond_false]
theorem rf_none {b : List Int} (hb : b.length ≤ 100000) (h6 : 6 ≤ s.length) (h : foldL (s.take 6) B6 = true) (hd : F_wlvref1_Decode (s.drop 6) = some (b, 0)) (hn : ∀ x ∈ b, x ≠ 58) : F_wlvref15_Cred s = some badR := by
  rw [rf_at hb h6 h hd, idx_none b hn]
  unfold F_wlvref15_Cred_J9
  rfl
theorem rf_some {u w : List Int} (hl : u.length + w.length ≤ 10000) (h6 : 6 ≤ s.length) (h : foldL (s.take 6) B6 = true) (hd : F_wlvref1_Decode (s.drop 6) = some (u ++ 58 :: w, 0)) (hu : ∀ x ∈ u, x ≠ 58) :
    F_wlvref15_Cred s = some (cond (okUW u w) (u, w, 0) badR) := by
  have hlen : (u ++ 58 :: w).length = u.length + (w.length + 1) := by rw [List.length_append, List.length_cons]
  rw [rf_at (by omega) h6 h hd, idx_at u w hu]
  unfold F_wlvref15_Cred_J9
  dsimp only
  have hall : (u ++ 58 :: w).all seen = (u ++ w).all seen := by
    rw [List.all_append, List.all_append, List.all_cons, show seen 58 = true from rfl, Bool.true_and]
  have c1 : cutI (u ++ 58 :: w) 0 ((u.length : Nat) : Int) = some u := by
    have := cutI_of (s := u ++ 58 :: w) (a := 0) (b := u.length) (by omega) (by omega)
    rw [List.drop_zero, List.take_left] at this
    exact this
  have hw : IntKind.i64.wrap (((u.length : Nat) : Int) + 1) = ((u.length + 1 : Nat) : Int) := by
    rw [wrap_in (by omega) (by omega)]; omega
  have c2 : cutI (u ++ 58 :: w) ((u.length + 1 : Nat) : Int) ((u ++ 58 :: w).length : Int) = some w := by
    rw [cutI_of (by omega) (Nat.le_refl _), List.take_length]
    rw [show u ++ 58 :: w = (u ++ [58]) ++ w by simp, show u.length + 1 = (u ++ [(58 : Int)]).length by simp, List.drop_left]
  have hw2 : IntKind.i64.wrap (IntKind.i64.wrap (((u ++ 58 :: w).length : Int) - (u.length : Int)) - 1) = (w.length : Int) := by
    rw [wrap_in (x := ((u ++ 58 :: w).length : Int) - (u.length : Int)) (by omega) (by omega), wrap_in (by omega) (by omega)]; omega
  rw [plain15_eq _ (by omega), hall, hw, c1, c2, hw2]
  unfold okUW
  have e1 : decide ((u.length : Int) < 1) = !(decide (1 ≤ u.length)) := by rw [← decide_not, decide_eq_decide]; omega
  have e2 : decide ((u.length : Int) > 64) = !(decide (u.length ≤ 64)) := by rw [← decide_not, decide_eq_decide]; omega
  have e3 : decide ((w.length : Int) > 256) = !(decide (w.length ≤ 256)) := by rw [← decide_not, decide_eq_decide]; omega
  rw [e1, e2, e3]
  cases decide (1 ≤ u.length) <;> cases decide (u.length ≤ 64) <;> cases decide (w.length ≤ 256) <;> cases (u ++ w).all seen <;> rfl
end
/-- Both roads read the same; what is read, is the text's. -/
theorem cred_same (s : List Int) (hs : s.length ≤ 10000) : (F_cred_Parse s = some badR ∧ F_wlvref15_Cred s = some badR) ∨ ∃ u w, F_cred_Parse s = some (u, w, 0) ∧ F_wlvref15_Cred s = some (u, w, 0) ∧ 6 ≤ s.length ∧ foldL (s.take 6) B6 = true ∧ s.drop 6 = encI (u ++ 58 :: w) ∧ okUW u w = true ∧ (∀ x ∈ u, x ≠ 58) ∧ ∀ x ∈ u ++ 58 :: w, 0 ≤ x ∧ x < 256 := by
  by_cases h6 : 6 ≤ s.length
  · cases hf : foldL (s.take 6) B6 with
    | false => exact .inl ⟨parse_nofold h6 hf, rf_nofold h6 hf⟩
    | true =>
      have hdl : (s.drop 6).length ≤ 10000 := by rw [List.length_drop]; omega
      obtain ⟨x, hx1, hx2⟩ := ref_same (s.drop 6) (by omega)
      rcases dec_total2 (s.drop 6) (by omega) with h | ⟨b, h, he, hby⟩
      · rw [h] at hx1
        injection hx1 with hx1
        subst hx1
        exact .inl ⟨parse_bad h6 hf h, rf_bad h6 hf hx2⟩
      · rw [h] at hx1
        injection hx1 with hx1
        subst hx1
        have hbl : b.length ≤ 10000 := by
          have := encI_len b
          rw [he] at this
          omega
        rcases split58 b with hn | ⟨u, w, rfl, hu⟩
        · exact .inl ⟨parse_none h6 hf h hn, rf_none (by omega) h6 hf hx2 hn⟩
        · have hlen : (u ++ 58 :: w).length = u.length + (w.length + 1) := by rw [List.length_append, List.length_cons]
          have p1 := parse_some h6 hf h hu (by omega)
          have p2 := rf_some (by omega) h6 hf hx2 hu
          cases hok : okUW u w with
          | false => rw [hok] at p1 p2; exact .inl ⟨p1, p2⟩
          | true => rw [hok] at p1 p2; exact .inr ⟨u, w, p1, p2, h6, rfl, he.symm, hok, hu, hby⟩
  · exact .inl ⟨parse_short (by omega), rf_short (by omega)⟩
end Go.Proofs.YtblngdnndkljoaaDoor

/- CredReads, CredOnce, CredBack: true. -/
namespace Go.Proofs.YtblngdnndkljoaaDoor
open Pv
set_option linter.unusedVariables false
theorem sum_BY2 (l : List Int) : BY (sumL l) := shOut_BY _
theorem clone_eq {l : List Int} (h : l.length ≤ 100000) : F_bytes_Clone l = some l := by
  unfold F_bytes_Clone
  rw [Nat.ble_eq_true_of_le (by omega)]; rfl
theorem make_eq {salt word : List Int} (hs : salt.length ≤ 100000) (hw : word.length ≤ 100000) : F_cred_Make salt word = some (salt, sumL (salt ++ 0 :: word)) := by
  unfold F_cred_Make
  rw [clone_eq hs, Option.bind_some, sha_Salted (by omega) (by omega)]; rfl
theorem check_eq {salt digest word : List Int} (hd : BY digest) (hl : digest.length ≤ 100000) (hs : salt.length ≤ 100000) (hw : word.length ≤ 100000) : F_cred_Check salt digest word = some (digest == sumL (salt ++ 0 :: word)) := by
  unfold F_cred_Check
  rw [sha_Salted (by omega) (by omega), Option.bind_some, Equal_eq hd (sum_BY2 _) (by omega) (by rw [sumL_len]; omega)]; rfl
theorem CredReads_true (s salt digest word : List Int) (hd : BY digest) : F_wlvlaw17_CredReads s salt digest word = some true := by
  unfold F_wlvlaw17_CredReads
  rw [first17, Option.bind_some, Bool.not_true, cond_false]
  by_cases hb : s.length ≤ 1000 ∧ salt.length ≤ 1000 ∧ digest.length ≤ 1000 ∧ word.length ≤ 1000
  · obtain ⟨h1, h2, h3, h4⟩ := hb
    rw [decide_eq_false (show ¬ (s.length : Int) > 1000 by omega), decide_eq_false (show ¬ (salt.length : Int) > 1000 by omega), decide_eq_false (show ¬ (digest.length : Int) > 1000 by omega), decide_eq_false (show ¬ (word.length : Int) > 1000 by omega)]
    simp only [Bool.or_self, cond_false]
    have hx : ∃ x : List Int × List Int × Int, F_cred_Parse s = some x ∧ F_wlvref15_Cred s = some x := by
      rcases cred_same s (by omega) with ⟨a, b⟩ | ⟨u, w, a, b, _⟩
      · exact ⟨_, a, b⟩
      · exact ⟨_, a, b⟩
    obtain ⟨x, p1, p2⟩ := hx
    rw [p1, Option.bind_some, p2, Option.bind_some, make_eq (by omega) (by omega), Option.bind_some, Option.bind_some, beq_self_eq_true, beq_self_eq_true, beq_self_eq_true, check_eq hd (by omega) (by omega) (by omega)]
    simp only [Bool.and_self, cond_true, Option.bind_some]
    unfold F_wlvref15_Check
    rw [ref_Salted (by omega) (by omega)]
    simp only [Option.bind_some]
    have e1 : F_wlvref_Bytes (sumL (salt ++ 0 :: word)) digest = some (sumL (salt ++ 0 :: word) == digest) := rfl
    have e2 : F_wlvref_Bytes salt salt = some (salt == salt) := rfl
    have e3 : F_wlvref_Bytes (sumL (salt ++ 0 :: word)) (sumL (salt ++ 0 :: word)) = some (sumL (salt ++ 0 :: word) == sumL (salt ++ 0 :: word)) := rfl
    rw [e1, e2, e3, beq_self_eq_true, beq_self_eq_true]
    have e4 : (digest == sumL (salt ++ 0 :: word)) = (sumL (salt ++ 0 :: word) == digest) := by
      rw [Bool.eq_iff_iff, beq_iff_eq, beq_iff_eq]; exact eq_comm
    rw [e4]
    simp only [Option.bind_some]
    cases sumL (salt ++ 0 :: word) == digest <;> rfl
  · have : ((((decide ((s.length : Int) > 1000)) || (decide ((salt.length : Int) > 1000))) || (decide ((digest.length : Int) > 1000))) || (decide ((word.length : Int) > 1000))) = true := by
      simp only [Bool.or_eq_true, decide_eq_true_iff]
      omega
    rw [this]; rfl
/-! ### what was written -/
theorem odd_bad {pre t : List Int} (hp : pre.length = 6) (ht : t.length ≤ 100000) (h4 : t.length % 4 ≠ 0) : F_cred_Parse (pre ++ t) = some badR := by
  have h6 : 6 ≤ (pre ++ t).length := by rw [List.length_append]; omega
  have htk : (pre ++ t).take 6 = pre := by rw [← hp, List.take_left]
  have hdr : (pre ++ t).drop 6 = t := by rw [← hp, List.drop_left]
  cases hf : foldL pre B6 with
  | false => exact parse_nofold h6 (by rw [htk]; exact hf)
  | true => exact parse_bad h6 (by rw [htk]; exact hf) (by rw [hdr]; exact dec_odd (by omega) h4)
theorem written {pre u w : List Int} (hp : pre.length = 6) (hf : foldL pre B6 = true) (hu : ∀ x ∈ u, x ≠ 58) (hb : ∀ x ∈ u ++ 58 :: w, 0 ≤ x ∧ x < 256) (hl : u.length + w.length ≤ 10000) :
    F_cred_Parse (pre ++ encI (u ++ 58 :: w)) = some (cond (okUW u w) (u, w, 0) badR) := by
  have hlen : (u ++ 58 :: w).length = u.length + (w.length + 1) := by rw [List.length_append, List.length_cons]
  have htk : (pre ++ encI (u ++ 58 :: w)).take 6 = pre := by rw [← hp, List.take_left]
  have hdr : (pre ++ encI (u ++ 58 :: w)).drop 6 = encI (u ++ 58 :: w) := by rw [← hp, List.drop_left]
  exact parse_some (by rw [List.length_append]; omega) (by rw [htk]; exact hf) (by rw [hdr]; exact dec_enc _ hb (by omega)) hu (by omega)
theorem foldP6 : foldL P6 B6 = true := by decide
theorem CredOnce_true (s : List Int) : F_wlvlaw17_CredOnce s = some true := by
  unfold F_wlvlaw17_CredOnce
  rw [first17, Option.bind_some, Bool.not_true, cond_false]
  by_cases hs : s.length ≤ 1000
  · rw [decide_eq_false (show ¬ (s.length : Int) > 1000 by omega), cond_false]
    rcases cred_same s (by omega) with ⟨a, _⟩ | ⟨u, w, a, _, h6, hf, hd, hok, hu, hby⟩
    · rw [a]; rfl
    · rw [a, Option.bind_some]
      dsimp only
      rw [show ((0 : Int) != 0) = false from rfl, cond_false]
      have hok' := hok
      unfold okUW at hok'
      simp only [Bool.and_eq_true, decide_eq_true_iff] at hok'
      obtain ⟨⟨⟨k1, k2⟩, k3⟩, k4⟩ := hok'
      have huw : (u ++ [58]) ++ w = u ++ 58 :: w := by simp
      have hlen : (u ++ 58 :: w).length = u.length + (w.length + 1) := by rw [List.length_append, List.length_cons]
      have hel := encI_len (u ++ 58 :: w)
      have hsd : (s.drop 6).length = s.length - 6 := List.length_drop
      rw [hd] at hsd
      have h5 := written (pre := P6) rfl foldP6 hu hby (by omega)
      have hst : s = s.take 6 ++ encI (u ++ 58 :: w) := by rw [← hd, List.take_append_drop]
      have h8 : F_cred_Parse (s ++ [65]) = some badR := by
        rw [hst, List.append_assoc]
        exact odd_bad (by rw [List.length_take]; omega) (by rw [List.length_append]; simp; omega) (by rw [List.length_append]; simp; omega)
      obtain ⟨c0, c1, c2, c3, c4, c5, hc⟩ : ∃ c0 c1 c2 c3 c4 c5, s.take 6 = [c0, c1, c2, c3, c4, c5] := by
        have : (s.take 6).length = 6 := by rw [List.length_take]; omega
        match s.take 6, this with
        | [c0, c1, c2, c3, c4, c5], _ => exact ⟨c0, c1, c2, c3, c4, c5, rfl⟩
      rw [hc] at hst
      have h9 : F_cred_Parse (([88] : List Int) ++ s) = some badR := by
        rw [hst]
        exact parse_nofold (by simp) rfl
      have hf2 : foldI c1 97 = true := by
        rw [hc] at hf
        have hf : (foldI c0 98 && (foldI c1 97 && _)) = true := hf
        simp only [Bool.and_eq_true] at hf
        exact hf.2.1
      have hf3 : foldI c1 98 = false := by
        rw [fold_lw (by omega)] at hf2 ⊢
        have := eq_of_beq hf2
        rw [this]; rfl
      have h11 : ∃ s10, cutI s 1 (s.length : Int) = some s10 ∧ F_cred_Parse s10 = some badR := by
        refine ⟨s.drop 1, ?_, ?_⟩
        · have := cutI_of (s := s) (a := 1) (b := s.length) (by omega) (Nat.le_refl _)
          rw [List.take_length] at this
          exact this
        · by_cases h7 : 6 ≤ (s.drop 1).length
          · refine parse_nofold h7 ?_
            obtain ⟨r, hr⟩ : ∃ r, encI (u ++ 58 :: w) = r := ⟨_, rfl⟩
            rw [hst, hr]
            have : ((([c0, c1, c2, c3, c4, c5] ++ r).drop 1).take 6) = c1 :: ((c2 :: c3 :: c4 :: c5 :: r).take 5) := rfl
            rw [this]
            show (foldI c1 98 && _) = false
            rw [hf3]; rfl
          · exact parse_short (by omega)
      obtain ⟨s10, h10, h11⟩ := h11
      have henc : F_b64_Encode ((u ++ [58]) ++ w) = some (encI (u ++ 58 :: w)) := by rw [huw]; exact enc_some (by omega)
      have hP : (([66, 97, 115, 105, 99, 32] : List Int) ++ encI (u ++ 58 :: w)).length = 6 + (encI (u ++ 58 :: w)).length := by rw [List.length_append]; rfl
      have ci : cutI (([66, 97, 115, 105, 99, 32] : List Int) ++ encI (u ++ 58 :: w)) 6 ((([66, 97, 115, 105, 99, 32] : List Int) ++ encI (u ++ 58 :: w)).length : Int) = some (encI (u ++ 58 :: w)) := by
        rw [cut_drop (by rw [hP]; omega)]; rfl
      have h5' : F_cred_Parse (([66, 97, 115, 105, 99, 32] : List Int) ++ encI (u ++ 58 :: w)) = some (u, w, 0) := by
        have : F_cred_Parse (([66, 97, 115, 105, 99, 32] : List Int) ++ encI (u ++ 58 :: w)) = some (cond (okUW u w) (u, w, 0) badR) := h5
        rw [this, hok]; rfl
      unfold chk
      rw [ble_max (by simp; omega), ble_max (by simp; omega), cond_true, cond_true, henc, Option.bind_some, ble_max (by simp; omega), cond_true, h5', Option.bind_some, ble_max (by simp; omega), cond_true, h8, Option.bind_some, ble_max (by simp; omega), cond_true, h9, Option.bind_some, h10, Option.bind_some, h11, Option.bind_some, Option.bind_some]
      dsimp only
      rw [decide_eq_true (show (u.length : Int) ≥ 1 by omega), decide_eq_true (show (u.length : Int) ≤ 64 by omega), decide_eq_true (show (w.length : Int) ≤ 256 by omega), beq_self_eq_true, beq_self_eq_true, hP,
        show (((6 + (encI (u ++ 58 :: w)).length : Nat) : Int) == (s.length : Int)) = true from beq_iff_eq.2 (by omega)]
      rw [hP] at ci
      rw [ci, cut_drop h6, hd]
      simp only [Option.bind_some, beq_self_eq_true]
      rfl
  · rw [decide_eq_true (show (s.length : Int) > 1000 by omega), cond_true]; rfl
/-! ### CredBack -/
theorem L10_loop (s : List Int) (hs : s.length ≤ 1000000) : ∀ (r pre : List Int) (b : Bool), s = pre ++ r → loopC (F_wlvlaw17_CredBack_L10 s) (b, (pre.length : Int)) = some (.inr (b && r.all fun x => seen x && x != 58))
  | [], pre, b, h => by
    refine loop_inl ?_
    unfold F_wlvlaw17_CredBack_L10
    dsimp only
    rw [decide_eq_false (by rw [h]; simp), cond_false, List.all_nil, Bool.and_true]
  | x :: r, pre, b, h => by
    have ih := fun b' => L10_loop s hs r (pre ++ [x]) b' (by rw [h, List.append_assoc]; rfl)
    have hl : s.length = pre.length + (r.length + 1) := by rw [h, List.length_append]; rfl
    have e : ((pre ++ [x]).length : Int) = (pre.length : Int) + 1 := by rw [List.length_append]; simp
    have hg : getI s (pre.length : Int) = some x := getI_nat (by rw [h]; simp)
    have hlt : decide ((pre.length : Int) < (s.length : Int)) = true := decide_eq_true (by omega)
    rw [e] at ih
    refine loop_inr (s' := (b && (seen x && x != 58), (pre.length : Int) + 1)) ?_ ((ih _).trans (by rw [List.all_cons, Bool.and_assoc]))
    unfold F_wlvlaw17_CredBack_L10
    dsimp only
    rw [hlt, cond_true, hg, wrap_in (by omega) (by omega)]
    unfold seen
    cases b with
    | false => rfl
    | true =>
      simp only [cond_true, Option.bind_some, Bool.true_and]
      by_cases h32 : 32 ≤ x
      · rw [decide_eq_true (show x ≥ 32 from h32), cond_true]
        by_cases h127 : x = 127
        · subst h127; rfl
        · rw [show (x != 127) = true by simp [h127], cond_true, show (x == 127) = false by simp [h127]]; rfl
      · rw [decide_eq_false (show ¬ x ≥ 32 from h32), cond_false]; rfl
theorem L16_loop (s : List Int) (hs : s.length ≤ 1000000) : ∀ (r pre : List Int) (b : Bool), s = pre ++ r → loopC (F_wlvlaw17_CredBack_L16 s) (b, (pre.length : Int)) = some (.inr (b && r.all seen))
  | [], pre, b, h => by
    refine loop_inl ?_
    unfold F_wlvlaw17_CredBack_L16
    dsimp only
    rw [decide_eq_false (by rw [h]; simp), cond_false, List.all_nil, Bool.and_true]
  | x :: r, pre, b, h => by
    have ih := fun b' => L16_loop s hs r (pre ++ [x]) b' (by rw [h, List.append_assoc]; rfl)
    have hl : s.length = pre.length + (r.length + 1) := by rw [h, List.length_append]; rfl
    have e : ((pre ++ [x]).length : Int) = (pre.length : Int) + 1 := by rw [List.length_append]; simp
    have hg : getI s (pre.length : Int) = some x := getI_nat (by rw [h]; simp)
    have hlt : decide ((pre.length : Int) < (s.length : Int)) = true := decide_eq_true (by omega)
    rw [e] at ih
    refine loop_inr (s' := (b && seen x, (pre.length : Int) + 1)) ?_ ((ih _).trans (by rw [List.all_cons, Bool.and_assoc]))
    unfold F_wlvlaw17_CredBack_L16
    dsimp only
    rw [hlt, cond_true, hg, wrap_in (by omega) (by omega)]
    unfold seen
    cases b with
    | false => rfl
    | true =>
      simp only [cond_true, Option.bind_some, Bool.true_and]
      by_cases h32 : 32 ≤ x
      · rw [decide_eq_true (show x ≥ 32 from h32), cond_true]
        by_cases h127 : x = 127
        · subst h127; rfl
        · rw [show (x != 127) = true by simp [h127], show (x == 127) = false by simp [h127]]; rfl
      · rw [decide_eq_false (show ¬ x ≥ 32 from h32), cond_false]; rfl
theorem L23_loop (s : List Int) (hs : s.length ≤ 1000000) : ∀ (r pre : List Int) (b : Bool), s = pre ++ r → loopC (F_wlvlaw17_CredBack_L23 s) (b, (pre.length : Int)) = some (.inr (b || r.any (· == 58)))
  | [], pre, b, h => by
    refine loop_inl ?_
    unfold F_wlvlaw17_CredBack_L23
    dsimp only
    rw [decide_eq_false (by rw [h]; simp), cond_false, List.any_nil, Bool.or_false]
  | x :: r, pre, b, h => by
    have ih := fun b' => L23_loop s hs r (pre ++ [x]) b' (by rw [h, List.append_assoc]; rfl)
    have hl : s.length = pre.length + (r.length + 1) := by rw [h, List.length_append]; rfl
    have e : ((pre ++ [x]).length : Int) = (pre.length : Int) + 1 := by rw [List.length_append]; simp
    have hg : getI s (pre.length : Int) = some x := getI_nat (by rw [h]; simp)
    have hlt : decide ((pre.length : Int) < (s.length : Int)) = true := decide_eq_true (by omega)
    rw [e] at ih
    refine loop_inr (s' := (b || x == 58, (pre.length : Int) + 1)) ?_ ((ih _).trans (by rw [List.any_cons, Bool.or_assoc]))
    unfold F_wlvlaw17_CredBack_L23
    dsimp only
    rw [hlt, cond_true, hg, wrap_in (by omega) (by omega)]
    cases b <;> rfl
noncomputable def tailB (pre s1 s2 s3 l4 : List Int) : Option Bool :=
  (F_cred_Make l4 s2).bind fun x54 =>
    (F_wlvref1_Salted l4 s2).bind fun l55 =>
    (F_wlvref1_Salted l4 s3).bind fun l56 =>
    (F_wlvref_Bytes l55 l56).bind fun b57 =>
    chk (Nat.ble (pre.length + ([32] : List Int).length) maxLen)
    (chk (Nat.ble (s1.length + ([58] : List Int).length) maxLen)
      (chk (Nat.ble ((s1 ++ ([58] : List Int)).length + s2.length) maxLen)
        ((F_b64_Encode ((s1 ++ ([58] : List Int)) ++ s2)).bind fun s58 =>
          chk (Nat.ble ((pre ++ ([32] : List Int)).length + s58.length) maxLen)
          ((F_cred_Parse ((pre ++ ([32] : List Int)) ++ s58)).bind fun x59 =>
            (F_wlvlaw17_first).bind fun b60 =>
            cond b60
            ((F_cred_Check x54.1 x54.2 s2).bind fun b61 =>
              cond b61
              ((F_cred_Check x54.1 x54.2 s3).bind fun b62 =>
                some ((bEq b62 b57) && (x59.2.2 == 2)))
              (some false))
            (some false)))))
noncomputable def headB (pre s1 s2 s3 l4 : List Int) (b18 b22 : Bool) : Option Bool :=
  (chk (Nat.ble (s1.length + ([58] : List Int).length) maxLen)
    (chk (Nat.ble ((s1 ++ ([58] : List Int)).length + s2.length) maxLen)
      ((F_b64_Encode ((s1 ++ ([58] : List Int)) ++ s2)).bind fun s43 =>
        chk (Nat.ble (pre.length + s43.length) maxLen)
        ((F_cred_Parse (pre ++ s43)).bind fun x44 =>
          cond ((!b22) && (!(bEq (x44.2.2 == 0) b18)))
          (some false)
          (cond b18
            (cond ((!(x44.1 == s1)) || (!(x44.2.1 == s2)))
              (some false)
              (tailB pre s1 s2 s3 l4))
            (tailB pre s1 s2 s3 l4))))))
theorem J21_eq (s1 s2 s3 l4 : List Int) (b5 b18 b22 : Bool) : F_wlvlaw17_CredBack_J21 s1 s2 s3 l4 b5 b18 b22 = cond b5 (headB [66, 97, 83, 73, 67, 32] s1 s2 s3 l4 b18 b22) (headB B6 s1 s2 s3 l4 b18 b22) := rfl
theorem beq_eqv (a : Bool) : bEq a a = true := by cases a <;> rfl
section
variable {pre s1 s2 s3 l4 : List Int} (hp : pre.length = 6) (h1 : s1.length ≤ 300) (h2 : s2.length ≤ 300) (h3 : s3.length ≤ 300) (h4 : l4.length ≤ 300)
include hp h1 h2 h3 h4
theorem tail_true : tailB pre s1 s2 s3 l4 = some true := by
  have huw : (s1 ++ [58]) ++ s2 = s1 ++ 58 :: s2 := by simp
  have hlen : (s1 ++ 58 :: s2).length = s1.length + (s2.length + 1) := by rw [List.length_append, List.length_cons]
  have hel := encI_len (s1 ++ 58 :: s2)
  have hbad : F_cred_Parse ((pre ++ [32]) ++ encI (s1 ++ 58 :: s2)) = some badR := by
    rw [List.append_assoc]
    exact odd_bad hp (by simp; omega) (by simp; omega)
  unfold tailB chk
  rw [make_eq (by omega) (by omega), Option.bind_some, ref_Salted (by omega) (by omega), Option.bind_some, ref_Salted (by omega) (by omega), Option.bind_some]
  have e1 : F_wlvref_Bytes (sumL (l4 ++ 0 :: s2)) (sumL (l4 ++ 0 :: s3)) = some (sumL (l4 ++ 0 :: s2) == sumL (l4 ++ 0 :: s3)) := rfl
  rw [e1, Option.bind_some, ble_max (by simp; omega), ble_max (by simp; omega), ble_max (by simp; omega), cond_true, cond_true, cond_true, huw, enc_some (by omega), Option.bind_some, ble_max (by simp; omega), cond_true, hbad, Option.bind_some, first17, Option.bind_some, cond_true]
  dsimp only
  rw [check_eq (sum_BY2 _) (by rw [sumL_len]; omega) (by omega) (by omega), Option.bind_some, beq_self_eq_true, cond_true, check_eq (sum_BY2 _) (by rw [sumL_len]; omega) (by omega) (by omega), Option.bind_some, beq_eqv]
  rfl
theorem head_true (hf : foldL pre B6 = true) (hb1 : ∀ x ∈ s1, 0 ≤ x ∧ x < 256) (hb2 : ∀ x ∈ s2, 0 ≤ x ∧ x < 256) : headB pre s1 s2 s3 l4 ((((decide ((s1.length : Int) ≥ 1) && decide ((s1.length : Int) ≤ 64)) && decide ((s2.length : Int) ≤ 256)) && s1.all fun x => seen x && x != 58) && s2.all seen) (s1.any (· == 58)) = some true := by
  have huw : (s1 ++ [58]) ++ s2 = s1 ++ 58 :: s2 := by simp
  have hlen : (s1 ++ 58 :: s2).length = s1.length + (s2.length + 1) := by rw [List.length_append, List.length_cons]
  have hel := encI_len (s1 ++ 58 :: s2)
  have hby : ∀ x ∈ s1 ++ 58 :: s2, 0 ≤ x ∧ x < 256 := fun x hx => by
    rcases List.mem_append.1 hx with h | h
    · exact hb1 x h
    · rcases List.mem_cons.1 h with h | h
      · subst h; decide
      · exact hb2 x h
  have htail := tail_true (pre := pre) (s1 := s1) (s2 := s2) (s3 := s3) (l4 := l4) hp h1 h2 h3 h4
  unfold headB chk
  rw [ble_max (by simp; omega), ble_max (by simp; omega), cond_true, cond_true, huw, enc_some (by omega), Option.bind_some, ble_max (by omega), cond_true, htail]
  cases hany : s1.any (· == 58) with
  | false =>
    have hu : ∀ x ∈ s1, x ≠ 58 := fun x hx h => by
      have := List.any_eq_false.1 hany x hx
      simp [h] at this
    rw [written hp hf hu hby (by omega), Option.bind_some]
    have hmay : ((((decide ((s1.length : Int) ≥ 1) && decide ((s1.length : Int) ≤ 64)) && decide ((s2.length : Int) ≤ 256)) && s1.all fun x => seen x && x != 58) && s2.all seen) = okUW s1 s2 := by
      unfold okUW
      rw [List.all_append, ← Bool.and_assoc]
      congr 1
      congr 1
      · congr 1
        · congr 1
          · exact decide_eq_decide.2 (by omega)
          · exact decide_eq_decide.2 (by omega)
        · exact decide_eq_decide.2 (by omega)
      · rw [Bool.eq_iff_iff, List.all_eq_true, List.all_eq_true]
        constructor
        · intro h x hx
          have := h x hx
          rw [Bool.and_eq_true] at this
          exact this.1
        · intro h x hx
          rw [Bool.and_eq_true]
          exact ⟨h x hx, by simp [hu x hx]⟩
    rw [hmay]
    cases okUW s1 s2 with
    | false => rfl
    | true =>
      rw [cond_true]
      dsimp only
      rw [beq_self_eq_true (a := s1), beq_self_eq_true (a := s2)]
      rfl
  | true =>
    have hall : (s1.all fun x => seen x && x != 58) = false := by
      obtain ⟨x, hx, h58⟩ := List.any_eq_true.1 hany
      rw [Bool.eq_false_iff]
      intro h
      have := List.all_eq_true.1 h x hx
      rw [Bool.and_eq_true] at this
      have h58 : x = 58 := eq_of_beq h58
      subst h58
      have := this.2
      cases this
    rw [hall, Bool.and_false, Bool.false_and]
    obtain ⟨x, hx⟩ : ∃ x, F_cred_Parse (pre ++ encI (s1 ++ 58 :: s2)) = some x := by
      rcases cred_same (pre ++ encI (s1 ++ 58 :: s2)) (by rw [List.length_append]; omega) with ⟨a, _⟩ | ⟨u, w, a, _⟩
      · exact ⟨_, a⟩
      · exact ⟨_, a⟩
    rw [hx]; rfl
end
theorem CredBack_true (s1 s2 s3 l4 : List Int) (b5 : Bool) (hb1 : ∀ x ∈ s1, 0 ≤ x ∧ x < 256) (hb2 : ∀ x ∈ s2, 0 ≤ x ∧ x < 256) : F_wlvlaw17_CredBack s1 s2 s3 l4 b5 = some true := by
  unfold F_wlvlaw17_CredBack
  rw [first17, Option.bind_some, Bool.not_true, cond_false]
  by_cases hb : s1.length ≤ 300 ∧ s2.length ≤ 300 ∧ s3.length ≤ 300 ∧ l4.length ≤ 300
  · obtain ⟨h1, h2, h3, h4⟩ := hb
    rw [decide_eq_false (show ¬ (s1.length : Int) > 300 by omega), decide_eq_false (show ¬ (s2.length : Int) > 300 by omega), decide_eq_false (show ¬ (s3.length : Int) > 300 by omega), decide_eq_false (show ¬ (l4.length : Int) > 300 by omega)]
    simp only [Bool.or_self, cond_false]
    have k1 : ∀ b, loopC (F_wlvlaw17_CredBack_L10 s1) (b, 0) = _ := fun b => L10_loop s1 (by omega) s1 [] b rfl
    have k2 : ∀ b, loopC (F_wlvlaw17_CredBack_L16 s2) (b, 0) = _ := fun b => L16_loop s2 (by omega) s2 [] b rfl
    have k3 : ∀ b, loopC (F_wlvlaw17_CredBack_L23 s1) (b, 0) = _ := fun b => L23_loop s1 (by omega) s1 [] b rfl
    rw [join_inr (k1 _)]
    unfold F_wlvlaw17_CredBack_J8
    dsimp only
    rw [join_inr (k2 _)]
    unfold F_wlvlaw17_CredBack_J14
    dsimp only
    rw [join_inr (k3 _), J21_eq, Bool.false_or]
    cases b5 with
    | true => exact head_true (pre := [66, 97, 83, 73, 67, 32]) rfl h1 h2 h3 h4 (by decide) hb1 hb2
    | false => exact head_true (pre := B6) rfl h1 h2 h3 h4 (by decide) hb1 hb2
  · have : ((((decide ((s1.length : Int) > 300)) || (decide ((s2.length : Int) > 300))) || (decide ((s3.length : Int) > 300))) || (decide ((l4.length : Int) > 300))) = true := by
      simp only [Bool.or_eq_true, decide_eq_true_iff]
      omega
    rw [this]; rfl
end Go.Proofs.YtblngdnndkljoaaDoor
