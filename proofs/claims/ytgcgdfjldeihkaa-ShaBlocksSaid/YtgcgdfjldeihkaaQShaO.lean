/- The sum of a text: what both roads answer. -/
import Derived.Test.YtgcgdfjldeihkaaQShaP
namespace Go.Proofs.Ytgcgdfjldeihkaa
open Pv
set_option linter.unusedVariables false
/-! ### the constants, filled in one by one -/
def kAt (i : Nat) : List Int := K64.take i ++ List.replicate (64 - i) 0
def hAt (i : Nat) : List Int := H8.take i ++ List.replicate (8 - i) 0
theorem tab_KH : (List.range 64).all (fun i => (cond (decide (i < 8)) ((hAt i).set i (H8.getD i 0)) (hAt i) == hAt (i + 1)) && (K64.take i ++ [K64.getD i 0] == K64.take (i + 1)) && ((kAt i).set i (K64.getD i 0) == kAt (i + 1))) = true := by kernel_rfl
theorem step_KH {i : Nat} (h : i < 64) : cond (decide (i < 8)) ((hAt i).set i (H8.getD i 0)) (hAt i) = hAt (i + 1) ∧ K64.take i ++ [K64.getD i 0] = K64.take (i + 1) ∧ (kAt i).set i (K64.getD i 0) = kAt (i + 1) := by
  have := List.all_eq_true.1 tab_KH i (List.mem_range.2 h)
  simp only [Bool.and_eq_true, beq_iff_eq] at this
  exact ⟨this.1.1, this.1.2, this.2⟩
theorem p64_len : P64.length = 64 := by kernel_rfl
theorem k64_take (i : Nat) (h : i ≤ 64) : (K64.take i).length = i := by
  have e : K64.length = 64 := by kernel_rfl
  rw [List.length_take, e]; omega
theorem c_sha : ∀ k i : Nat, i + k = 64 → loopC (F_sha_One_L5 P64) (K64.take i, P64, (i : Int), hAt i) = some (.inr (K64, H8))
  | 0, i, hk => by
    refine loop_inl ?_
    unfold F_sha_One_L5
    dsimp only
    have e : i = 64 := by omega
    subst e
    rw [p64_len, decide_eq_false (by omega), cond_false]
    rfl
  | k + 1, i, hk => by
    obtain ⟨s1, s2, s3⟩ := step_KH (show i < 64 by omega)
    refine loop_inr (s' := (K64.take (i + 1), P64, ((i + 1 : Nat) : Int), hAt (i + 1))) ?_ (c_sha k (i + 1) (by omega))
    unfold F_sha_One_L5
    dsimp only
    have hm : maxLen = 9223372036854775807 := rfl
    have hl := k64_take i (by omega)
    have hw : IntKind.i64.wrap ((i : Int) + 1) = ((i + 1 : Nat) : Int) := wrap_in (by omega) (by omega)
    have hck : ∀ x : Int, (decide (((K64.take i).length + ([x] : List Int).length) * 4 ≤ 140737488355328) && decide ((K64.take i).length + ([x] : List Int).length ≤ maxLen)) = true := fun x => by
      have e : ([x] : List Int).length = 1 := rfl
      rw [hl, e, decide_eq_true (by omega), decide_eq_true (by omega)]; rfl
    rw [p64_len, decide_eq_true (show (i : Int) < ((64 : Nat) : Int) by omega), cond_true, gI_D (by rw [p64_len]; omega), Option.bind_some, frac_K (by omega), Option.bind_some, ck_t (hck _), s2]
    by_cases h8 : i < 8
    · rw [decide_eq_true h8, cond_true] at s1
      rw [decide_eq_true (show (i : Int) < 8 by omega), cond_true, frac_H h8, Option.bind_some, ck_t (by rw [decide_eq_true (by omega)]; rfl), ck_t rfl, Option.bind_some, ck_t (hck _), hw, Int.toNat_natCast, s1, s2]
    · rw [decide_eq_false h8, cond_false] at s1
      rw [decide_eq_false (show ¬ (i : Int) < 8 by omega), cond_false, hw, s1]
theorem c_ref : ∀ k i : Nat, i + k = 64 → loopC F_wlvref1_One_L6 (P64, (i : Int), kAt i, List.replicate 8 0) = some (.inr (P64, K64, List.replicate 8 0))
  | 0, i, hk => by
    refine loop_inl ?_
    unfold F_wlvref1_One_L6
    dsimp only
    have e : i = 64 := by omega
    subst e
    rw [decide_eq_false (by omega), cond_false]
    have e : kAt 64 = K64 := by kernel_rfl
    rw [e]
  | k + 1, i, hk => by
    obtain ⟨s1, s2, s3⟩ := step_KH (show i < 64 by omega)
    refine loop_inr (s' := (P64, ((i + 1 : Nat) : Int), kAt (i + 1), List.replicate 8 0)) ?_ (c_ref k (i + 1) (by omega))
    unfold F_wlvref1_One_L6
    dsimp only
    have hw : IntKind.i64.wrap ((i : Int) + 1) = ((i + 1 : Nat) : Int) := wrap_in (by omega) (by omega)
    rw [decide_eq_true (show (i : Int) < 64 by omega), cond_true, gI_D (by rw [p64_len]; omega), Option.bind_some, root_K (by omega), Option.bind_some, ck_t (by rw [decide_eq_true (by omega)]; rfl), ck_t rfl, hw, Int.toNat_natCast, s3]
theorem d_ref : ∀ k i : Nat, i + k = 8 → loopC F_wlvref1_One_L12 (P64, (i : Int), K64, hAt i) = some (.inr (K64, H8))
  | 0, i, hk => by
    refine loop_inl ?_
    unfold F_wlvref1_One_L12
    dsimp only
    have e : i = 8 := by omega
    subst e
    rw [decide_eq_false (by omega), cond_false]
    rfl
  | k + 1, i, hk => by
    obtain ⟨s1, s2, s3⟩ := step_KH (show i < 64 by omega)
    have h8 : i < 8 := by omega
    rw [decide_eq_true h8, cond_true] at s1
    refine loop_inr (s' := (P64, ((i + 1 : Nat) : Int), K64, hAt (i + 1))) ?_ (d_ref k (i + 1) (by omega))
    unfold F_wlvref1_One_L12
    dsimp only
    have hw : IntKind.i64.wrap ((i : Int) + 1) = ((i + 1 : Nat) : Int) := wrap_in (by omega) (by omega)
    rw [decide_eq_true (show (i : Int) < 8 by omega), cond_true, gI_D (by rw [p64_len]; omega), Option.bind_some, root_H h8, Option.bind_some, ck_t (by rw [decide_eq_true (by omega)]; rfl), ck_t rfl, hw, Int.toNat_natCast, s1]
/-! ### what is put behind a text -/
def shZ (n : Nat) : Nat := (119 - n % 64) % 64
def shLenB (n : Int) (i : Nat) : Int := IntKind.u8.wrap (Int.fdiv (IntKind.u64.wrap ((IntKind.u64.wrap n) * 8)) (2 ^ (min (8 * i) 64)))
def shLens (n : Int) : Nat → List Int
  | 0 => []
  | i + 1 => shLenB n i :: shLens n i
def padL (l : List Int) : List Int := ((l ++ [128]) ++ List.replicate (shZ l.length) 0) ++ shLens (l.length : Int) 8
theorem shLens_len (n : Int) : ∀ i, (shLens n i).length = i
  | 0 => rfl
  | i + 1 => by
    show (shLens n i).length + 1 = i + 1
    rw [shLens_len n i]
theorem ck_app {n m b : Nat} (h : (n + m) * b ≤ 140737488355328) (h2 : n + m ≤ 140737488355328) : (decide ((n + m) * b ≤ 140737488355328) && decide (n + m ≤ maxLen)) = true := by
  have hm : maxLen = 9223372036854775807 := rfl
  rw [decide_eq_true h, decide_eq_true (by omega)]; rfl
theorem mod64 (n : Nat) : Int.tmod (n : Int) 64 = ((n % 64 : Nat) : Int) := rfl
theorem z_sha : ∀ (k : Nat) (l : List Int), (l.length + k) % 64 = 56 → (∀ j, j < k → (l.length + j) % 64 ≠ 56) → l.length + k ≤ 1000000000 → loopC F_sha_padded_L3 l = some (.inr (l ++ List.replicate k 0))
  | 0, l, h1, h2, hb => by
    refine loop_inl ?_
    unfold F_sha_padded_L3
    dsimp only
    rw [mod64, show ((((l.length % 64 : Nat) : Int) != 56) = false) by rw [bne_eq_false_iff_eq]; omega, cond_false, List.replicate_zero, List.append_nil]
  | k + 1, l, h1, h2, hb => by
    have hn := h2 0 (by omega)
    have hl : (l ++ ([0] : List Int)).length = l.length + 1 := by rw [List.length_append]; rfl
    have ih := z_sha k (l ++ [0]) (by rw [hl]; omega) (fun j hj => by rw [hl]; have := h2 (j + 1) (by omega); omega) (by rw [hl]; omega)
    rw [List.append_assoc] at ih
    refine loop_inr (s' := l ++ [0]) ?_ ih
    unfold F_sha_padded_L3
    dsimp only
    have e : ([0] : List Int).length = 1 := rfl
    rw [mod64, show ((((l.length % 64 : Nat) : Int) != 56) = true) by rw [bne_iff_ne]; omega, cond_true, e, ck_t (ck_app (by omega) (by omega))]
theorem z_ref (a b : List Int) : ∀ (k : Nat) (l : List Int), (l.length + k) % 64 = 56 → (∀ j, j < k → (l.length + j) % 64 ≠ 56) → l.length + k ≤ 1000000000 → loopC F_wlvref1_One_L18 (l, a, b) = some (.inr (l ++ List.replicate k 0, a, b))
  | 0, l, h1, h2, hb => by
    refine loop_inl ?_
    unfold F_wlvref1_One_L18
    dsimp only
    rw [mod64, show ((((l.length % 64 : Nat) : Int) != 56) = false) by rw [bne_eq_false_iff_eq]; omega, cond_false, List.replicate_zero, List.append_nil]
  | k + 1, l, h1, h2, hb => by
    have hn := h2 0 (by omega)
    have hl : (l ++ ([0] : List Int)).length = l.length + 1 := by rw [List.length_append]; rfl
    have ih := z_ref a b k (l ++ [0]) (by rw [hl]; omega) (fun j hj => by rw [hl]; have := h2 (j + 1) (by omega); omega) (by rw [hl]; omega)
    rw [List.append_assoc] at ih
    refine loop_inr (s' := (l ++ [0], a, b)) ?_ ih
    unfold F_wlvref1_One_L18
    dsimp only
    have e : ([0] : List Int).length = 1 := rfl
    rw [mod64, show ((((l.length % 64 : Nat) : Int) != 56) = true) by rw [bne_iff_ne]; omega, cond_true, e, ck_t (ck_app (by omega) (by omega))]
theorem l_sha (l1 : List Int) : ∀ (k : Nat) (l : List Int), k ≤ 8 → l.length ≤ 1000000000 + 8 - k → loopC (F_sha_padded_L8 l1) (l, (k : Int) - 1) = some (.inr (l ++ shLens (l1.length : Int) k))
  | 0, l, hk, hb => by
    refine loop_inl ?_
    unfold F_sha_padded_L8
    dsimp only
    rw [decide_eq_false (by omega), cond_false]
    show some (Sum.inl (Sum.inr l)) = some (Sum.inl (Sum.inr (l ++ [])))
    rw [List.append_nil]
  | k + 1, l, hk, hb => by
    have hl : (l ++ ([shLenB (l1.length : Int) k] : List Int)).length = l.length + 1 := by rw [List.length_append]; rfl
    have ih := l_sha l1 k (l ++ [shLenB (l1.length : Int) k]) (by omega) (by rw [hl]; omega)
    rw [List.append_assoc] at ih
    refine loop_inr (s' := (l ++ [shLenB (l1.length : Int) k], (k : Int) - 1)) ?_ ih
    unfold F_sha_padded_L8
    dsimp only
    rw [show (((k + 1 : Nat) : Int) - 1) = (k : Int) by omega, decide_eq_true (by omega), cond_true, wrap_in (x := 8 * (k : Int)) (by omega) (by omega), wrap_in (x := (k : Int) - 1) (by omega) (by omega), show 8 * (k : Int) = ((8 * k : Nat) : Int) by omega, Int.toNat_natCast, ck_t (decide_eq_true (by omega))]
    have e : ∀ x : Int, ([x] : List Int).length = 1 := fun _ => rfl
    rw [e, ck_t (ck_app (by omega) (by omega))]
    rfl
theorem l_ref (l1 a b : List Int) : ∀ (k : Nat) (l : List Int), k ≤ 8 → l.length ≤ 1000000000 + 8 - k → loopC (F_wlvref1_One_L23 l1) (l, (k : Int) - 1, a, b) = some (.inr (l ++ shLens (l1.length : Int) k, a, b))
  | 0, l, hk, hb => by
    refine loop_inl ?_
    unfold F_wlvref1_One_L23
    dsimp only
    rw [decide_eq_false (by omega), cond_false]
    show some (Sum.inl (Sum.inr (l, a, b))) = some (Sum.inl (Sum.inr (l ++ [], a, b)))
    rw [List.append_nil]
  | k + 1, l, hk, hb => by
    have hl : (l ++ ([shLenB (l1.length : Int) k] : List Int)).length = l.length + 1 := by rw [List.length_append]; rfl
    have ih := l_ref l1 a b k (l ++ [shLenB (l1.length : Int) k]) (by omega) (by rw [hl]; omega)
    rw [List.append_assoc] at ih
    refine loop_inr (s' := (l ++ [shLenB (l1.length : Int) k], (k : Int) - 1, a, b)) ?_ ih
    unfold F_wlvref1_One_L23
    dsimp only
    have hu : IntKind.u64.wrap ((8 * k : Nat) : Int) = ((8 * k : Nat) : Int) := by
      show ((8 * k : Nat) : Int) % 18446744073709551616 = _
      omega
    rw [show (((k + 1 : Nat) : Int) - 1) = (k : Int) by omega, decide_eq_true (by omega), cond_true, wrap_in (x := 8 * (k : Int)) (by omega) (by omega), wrap_in (x := (k : Int) - 1) (by omega) (by omega), show 8 * (k : Int) = ((8 * k : Nat) : Int) by omega, hu, Int.toNat_natCast, ck_t (decide_eq_true (by omega))]
    have e : ∀ x : Int, ([x] : List Int).length = 1 := fun _ => rfl
    rw [e, ck_t (ck_app (by omega) (by omega))]
    rfl
theorem shZ_ok (n : Nat) : (n + 1 + shZ n) % 64 = 56 ∧ (∀ j, j < shZ n → (n + 1 + j) % 64 ≠ 56) ∧ shZ n < 64 := by
  unfold shZ
  refine ⟨by omega, fun j hj => by omega, by omega⟩
theorem padL_len (l : List Int) : ∃ m, (padL l).length = 64 * m ∧ (padL l).length ≤ l.length + 128 := by
  have h := shZ_ok l.length
  have e : (padL l).length = l.length + 1 + shZ l.length + 8 := by
    unfold padL
    rw [List.length_append, List.length_append, List.length_append, shLens_len, List.length_replicate]; rfl
  exact ⟨(padL l).length / 64, by omega, by omega⟩
theorem pad_sha {l : List Int} (hl : l.length ≤ 100000000) : F_sha_padded l = some (padL l) := by
  have h := shZ_ok l.length
  have hc : F_slices_Clone_byte_byte l = some l := by
    unfold F_slices_Clone_byte_byte
    rw [Nat.ble_eq_true_of_le hl]; rfl
  have e : ([128] : List Int).length = 1 := rfl
  have hL : (l ++ ([128] : List Int)).length = l.length + 1 := by rw [List.length_append]; rfl
  have hz : (List.replicate (shZ l.length) (0 : Int)).length = shZ l.length := List.length_replicate
  unfold F_sha_padded
  rw [hc, Option.bind_some, e, ck_t (ck_app (by omega) (by omega)), join_inr (z_sha (shZ l.length) (l ++ [128]) (by rw [hL]; exact h.1) (by rw [hL]; exact h.2.1) (by rw [hL]; omega))]
  unfold F_sha_padded_J2
  dsimp only
  refine (join_inr (l_sha l 8 _ (by omega) (by rw [List.length_append, hL, hz]; omega))).trans ?_
  rfl
/-! ### the blocks -/
def hBlk (kk p : List Int) : Nat → List Int
  | 0 => H8
  | j + 1 => blk kk (hBlk kk p j) ((p.take (64 * j + 64)).drop (64 * j))
theorem hBlk_len (kk p : List Int) : ∀ j, (hBlk kk p j).length = 8
  | 0 => by kernel_rfl
  | j + 1 => addV_len _ _
theorem cut_blk {p : List Int} {m j : Nat} (hp : p.length = 64 * m) (hj : j < m) (hb : p.length ≤ 1000000000) : cutI p ((64 * j : Nat) : Int) (IntKind.i64.wrap (((64 * j : Nat) : Int) + 64)) = some ((p.take (64 * j + 64)).drop (64 * j)) ∧ ((p.take (64 * j + 64)).drop (64 * j)).length = 64 := by
  constructor
  · unfold cutI
    rw [wrap_in (x := ((64 * j : Nat) : Int) + 64) (by omega) (by omega), show (((64 * j : Nat) : Int) + 64) = ((64 * j + 64 : Nat) : Int) by omega, decide_eq_true (by omega), decide_eq_true (by omega), decide_eq_true (by rw [hp]; omega), Int.toNat_natCast, Int.toNat_natCast]
    rfl
  · rw [List.length_drop, List.length_take, hp]; omega
theorem b_sha (p : List Int) (m : Nat) (hp : p.length = 64 * m) (hb : p.length ≤ 1000000000) : ∀ k j : Nat, j + k = m → loopC F_sha_One_L15 (K64, p, ((64 * j : Nat) : Int), hBlk K64 p j) = some (.inr (hBlk K64 p m))
  | 0, j, hk => by
    refine loop_inl ?_
    unfold F_sha_One_L15
    dsimp only
    have e : j = m := by omega
    subst e
    rw [decide_eq_false (by rw [hp]; omega), cond_false]
  | k + 1, j, hk => by
    obtain ⟨c1, c2⟩ := cut_blk hp (show j < m by omega) hb
    refine loop_inr (s' := (K64, p, ((64 * (j + 1) : Nat) : Int), hBlk K64 p (j + 1))) ?_ (b_sha p m hp hb k (j + 1) (by omega))
    unfold F_sha_One_L15
    dsimp only
    rw [decide_eq_true (show ((64 * j : Nat) : Int) < (p.length : Int) by rw [hp]; omega), cond_true, c1, Option.bind_some, turned_sha (hBlk_len _ _ _) c2 (by kernel_rfl), Option.bind_some, wrap_in (x := ((64 * j : Nat) : Int) + 64) (by omega) (by omega), show (((64 * j : Nat) : Int) + 64) = ((64 * (j + 1) : Nat) : Int) by omega]
    rfl
theorem b_ref (p : List Int) (m : Nat) (hp : p.length = 64 * m) (hb : p.length ≤ 1000000000) : ∀ k j : Nat, j + k = m → loopC F_wlvref1_One_L29 (p, ((64 * j : Nat) : Int), K64, hBlk K64 p j) = some (.inr (hBlk K64 p m))
  | 0, j, hk => by
    refine loop_inl ?_
    unfold F_wlvref1_One_L29
    dsimp only
    have e : j = m := by omega
    subst e
    rw [decide_eq_false (by rw [hp]; omega), cond_false]
  | k + 1, j, hk => by
    obtain ⟨c1, c2⟩ := cut_blk hp (show j < m by omega) hb
    refine loop_inr (s' := (p, ((64 * (j + 1) : Nat) : Int), K64, hBlk K64 p (j + 1))) ?_ (b_ref p m hp hb k (j + 1) (by omega))
    unfold F_wlvref1_One_L29
    dsimp only
    rw [decide_eq_true (show ((64 * j : Nat) : Int) < (p.length : Int) by rw [hp]; omega), cond_true, c1, Option.bind_some, block_ref (hBlk_len _ _ _) c2 (by kernel_rfl), Option.bind_some, wrap_in (x := ((64 * j : Nat) : Int) + 64) (by omega) (by omega), show (((64 * j : Nat) : Int) + 64) = ((64 * (j + 1) : Nat) : Int) by omega]
    rfl
/-! ### what is told of the words -/
def shFour (x : Int) : List Int := [IntKind.u8.wrap (Int.fdiv x (2 ^ 24)), IntKind.u8.wrap (Int.fdiv x (2 ^ 16)), IntKind.u8.wrap (Int.fdiv x (2 ^ 8)), IntKind.u8.wrap x]
def shOut (h : List Int) : List Int := (h.map shFour).flatten
theorem shOut_len {h : List Int} (hh : h.length = 8) : (shOut h).length = 32 := by
  obtain ⟨a, b, c, d, e, f, g, z, rfl⟩ := eight hh
  rfl
theorem o_sha {h : List Int} (hh : h.length = 8) : loopC (F_sha_One_L22 h) (([] : List Int), 0) = some (.inr (shOut h)) := by
  obtain ⟨a, b, c, d, e, f, g, z, rfl⟩ := eight hh
  exact loop_of_iter (n := 9) rfl
theorem o_ref {h : List Int} (hh : h.length = 8) : loopC F_wlvref1_One_L36 (([] : List Int), 0, h) = some (.inr (shOut h)) := by
  obtain ⟨a, b, c, d, e, f, g, z, rfl⟩ := eight hh
  exact loop_of_iter (n := 9) rfl
/-! ### all of it -/
def sumL (l : List Int) : List Int := shOut (hBlk K64 (padL l) ((padL l).length / 64))
theorem sumL_len (l : List Int) : (sumL l).length = 32 := shOut_len (hBlk_len _ _ _)
theorem sha_One {l : List Int} (hl : l.length ≤ 100000000) : F_sha_One l = some (sumL l) := by
  obtain ⟨m, h1, h2⟩ := padL_len l
  unfold F_sha_One
  rw [show F_sha_primes 64 = some P64 from rfl, Option.bind_some]
  refine (join_inr (c_sha 64 0 rfl)).trans ?_
  unfold F_sha_One_J3
  dsimp only
  rw [pad_sha hl, Option.bind_some]
  refine (join_inr (b_sha (padL l) m h1 (by omega) m 0 (by omega))).trans ?_
  unfold F_sha_One_J13
  dsimp only
  rw [join_inr (o_sha (hBlk_len _ _ _))]
  unfold F_sha_One_J20 sumL
  rw [h1, Nat.mul_div_cancel_left m (by omega)]
theorem ref_One {l : List Int} (hl : l.length ≤ 100000000) : F_wlvref1_One l = some (sumL l) := by
  obtain ⟨m, h1, h2⟩ := padL_len l
  have h := shZ_ok l.length
  have e : ([128] : List Int).length = 1 := rfl
  have hL : (l ++ ([128] : List Int)).length = l.length + 1 := by rw [List.length_append]; rfl
  have hz : (List.replicate (shZ l.length) (0 : Int)).length = shZ l.length := List.length_replicate
  unfold F_wlvref1_One
  rw [refPrimes, Option.bind_some]
  refine (join_inr (c_ref 64 0 rfl)).trans ?_
  unfold F_wlvref1_One_J4
  dsimp only
  refine (join_inr (d_ref 8 0 rfl)).trans ?_
  unfold F_wlvref1_One_J10
  dsimp only
  rw [List.nil_append, show ([] : List Int).length = 0 from rfl, e, ck_t (ck_app (by omega) (by omega)), ck_t (ck_app (by omega) (by omega)), join_inr (z_ref K64 H8 (shZ l.length) (l ++ [128]) (by rw [hL]; exact h.1) (by rw [hL]; exact h.2.1) (by rw [hL]; omega))]
  unfold F_wlvref1_One_J17
  dsimp only
  refine (join_inr (l_ref l K64 H8 8 _ (by omega) (by rw [List.length_append, hL, hz]; omega))).trans ?_
  unfold F_wlvref1_One_J21
  dsimp only
  refine (join_inr (b_ref (padL l) m h1 (by omega) m 0 (by omega))).trans ?_
  unfold F_wlvref1_One_J27
  dsimp only
  rw [join_inr (o_ref (hBlk_len _ _ _))]
  unfold F_wlvref1_One_J34 sumL
  rw [h1, Nat.mul_div_cancel_left m (by omega)]
theorem sha_Salted {s l : List Int} (hs : s.length ≤ 10000000) (hl : l.length ≤ 10000000) : F_sha_Salted s l = some (sumL (s ++ 0 :: l)) := by
  have e : ([s, ([0] : List Int), l] : List (List Int)).flatten = s ++ 0 :: l := by simp
  have hn : (s ++ 0 :: l).length = s.length + (l.length + 1) := List.length_append
  unfold F_sha_Salted F_slices_Concat_byte_byte
  rw [e, hn, Nat.ble_eq_true_of_le (show s.length + (l.length + 1) ≤ 100000000 by omega)]
  show ((some (s ++ 0 :: l)).bind fun l3 => (F_sha_One l3).bind fun l4 => some l4) = _
  rw [Option.bind_some, sha_One (by rw [hn]; omega)]; rfl
theorem ref_Salted {s l : List Int} (hs : s.length ≤ 10000000) (hl : l.length ≤ 10000000) : F_wlvref1_Salted s l = some (sumL (s ++ 0 :: l)) := by
  have e : ([0] : List Int).length = 1 := rfl
  have h1 : (s ++ ([0] : List Int)).length = s.length + 1 := by rw [List.length_append]; rfl
  have hn : (s ++ 0 :: l).length = s.length + (l.length + 1) := List.length_append
  unfold F_wlvref1_Salted
  rw [List.nil_append, show ([] : List Int).length = 0 from rfl, e, h1, ck_t (ck_app (by omega) (by omega)), ck_t (ck_app (by omega) (by omega)), ck_t (ck_app (by omega) (by omega)), List.append_assoc]
  show ((F_wlvref1_One (s ++ 0 :: l)).bind fun l4 => some l4) = _
  rw [ref_One (by rw [hn]; omega)]; rfl
end Go.Proofs.Ytgcgdfjldeihkaa
