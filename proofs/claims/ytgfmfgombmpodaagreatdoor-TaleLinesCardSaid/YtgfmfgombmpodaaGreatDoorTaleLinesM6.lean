/- Texts of this claim, one behind the other. -/
import Derived.Test.YtgfmfgombmpodaaGreatDoorTaleLinesM5
import Derived.Lib.ItoaMem
import Derived.Laws.BitsLemmas
set_option maxRecDepth 100000
namespace Go.Proofs.YtgfmfgombmpodaaGreatDoor
open Pv
set_option linter.unusedVariables false
def kAt (i : Nat) : List Int := K64.take i ++ List.replicate (64 - i) 0
def hAt (i : Nat) : List Int := H8.take i ++ List.replicate (8 - i) 0
theorem tab_KH : (List.range 64).all (fun i => (cond (decide (i < 8)) ((hAt i).set i (H8.getD i 0)) (hAt i) == hAt (i + 1)) && (K64.take i ++ [K64.getD i 0] == K64.take (i + 1)) && ((kAt i).set i (K64.getD i 0) == kAt (i + 1))) = true := by kernel_rfl
theorem step_KH {i : Nat} (h : i < 64) : cond (decide (i < 8)) ((hAt i).set i (H8.getD i 0)) (hAt i) = hAt (i + 1) ∧ K64.take i ++ [K64.getD i 0] = K64.take (i + 1) ∧ (kAt i).set i (K64.getD i 0) = kAt (i + 1) := by
  have := List.all_eq_true.1 tab_KH i (List.mem_range.2 h)
  simp only [Bool.and_eq_true, beq_iff_eq] at this
  exact ⟨this.1.1, this.1.2, this.2⟩
theorem p64_len : P64.length = 64 := by kernel_rfl
theorem k64_take (i : Nat) (h : i ≤ 64) : (K64.take i).length = i := by
  have e : K64.length = 64 := by kernel_rfl
  rw [List.length_take, e]; omega
theorem c_sha : ∀ k i : Nat, i + k = 64 → loopC (F_sha_One_L5 P64) (K64.take i, P64, (i : Int), hAt i) = some (.inr (K64, H8))
  | 0, i, hk => by
    refine loop_inl ?_
    unfold F_sha_One_L5
    dsimp only
    have e : i = 64 := by omega
    subst e
    rw [p64_len, decide_eq_false (by omega), cond_false]
    rfl
  | k + 1, i, hk => by
    obtain ⟨s1, s2, s3⟩ := step_KH (show i < 64 by omega)
    refine loop_inr (s' := (K64.take (i + 1), P64, ((i + 1 : Nat) : Int), hAt (i + 1))) ?_ (c_sha k (i + 1) (by omega))
    unfold F_sha_One_L5
    dsimp only
    have hm : maxLen = 9223372036854775807 := rfl
    have hl := k64_take i (by omega)
    have hw : IntKind.i64.wrap ((i : Int) + 1) = ((i + 1 : Nat) : Int) := wrap_in (by omega) (by omega)
    have hck : ∀ x : Int, (decide (((K64.take i).length + ([x] : List Int).length) * 4 ≤ 140737488355328) && decide ((K64.take i).length + ([x] : List Int).length ≤ maxLen)) = true := fun x => by
      have e : ([x] : List Int).length = 1 := rfl
      rw [hl, e, decide_eq_true (by omega), decide_eq_true (by omega)]; rfl
    rw [p64_len, decide_eq_true (show (i : Int) < ((64 : Nat) : Int) by omega), cond_true, gI_D (by rw [p64_len]; omega), Option.bind_some, frac_K (by omega), Option.bind_some, ck_t (hck _), s2]
    by_cases h8 : i < 8
    · rw [decide_eq_true h8, cond_true] at s1
      rw [decide_eq_true (show (i : Int) < 8 by omega), cond_true, frac_H h8, Option.bind_some, ck_t (by rw [decide_eq_true (by omega)]; rfl), ck_t rfl, Option.bind_some, ck_t (hck _), hw, Int.toNat_natCast, s1, s2]
    · rw [decide_eq_false h8, cond_false] at s1
      rw [decide_eq_false (show ¬ (i : Int) < 8 by omega), cond_false, hw, s1]
def shZ (n : Nat) : Nat := (119 - n % 64) % 64
def shLenB (n : Int) (i : Nat) : Int := IntKind.u8.wrap (Int.fdiv (IntKind.u64.wrap ((IntKind.u64.wrap n) * 8)) (2 ^ (min (8 * i) 64)))
def shLens (n : Int) : Nat → List Int
  | 0 => []
  | i + 1 => shLenB n i :: shLens n i
def padL (l : List Int) : List Int := ((l ++ [128]) ++ List.replicate (shZ l.length) 0) ++ shLens (l.length : Int) 8
theorem shLens_len (n : Int) : ∀ i, (shLens n i).length = i
  | 0 => rfl
  | i + 1 => by
    show (shLens n i).length + 1 = i + 1
    rw [shLens_len n i]
theorem ck_app {n m b : Nat} (h : (n + m) * b ≤ 140737488355328) (h2 : n + m ≤ 140737488355328) : (decide ((n + m) * b ≤ 140737488355328) && decide (n + m ≤ maxLen)) = true := by
  have hm : maxLen = 9223372036854775807 := rfl
  rw [decide_eq_true h, decide_eq_true (by omega)]; rfl
theorem mod64 (n : Nat) : Int.tmod (n : Int) 64 = ((n % 64 : Nat) : Int) := rfl
theorem z_sha : ∀ (k : Nat) (l : List Int), (l.length + k) % 64 = 56 → (∀ j, j < k → (l.length + j) % 64 ≠ 56) → l.length + k ≤ 1000000000 → loopC F_sha_padded_L3 l = some (.inr (l ++ List.replicate k 0))
  | 0, l, h1, h2, hb => by
    refine loop_inl ?_
    unfold F_sha_padded_L3
    dsimp only
    rw [mod64, show ((((l.length % 64 : Nat) : Int) != 56) = false) by rw [bne_eq_false_iff_eq]; omega, cond_false, List.replicate_zero, List.append_nil]
  | k + 1, l, h1, h2, hb => by
    have hn := h2 0 (by omega)
    have hl : (l ++ ([0] : List Int)).length = l.length + 1 := by rw [List.length_append]; rfl
    have ih := z_sha k (l ++ [0]) (by rw [hl]; omega) (fun j hj => by rw [hl]; have := h2 (j + 1) (by omega); omega) (by rw [hl]; omega)
    rw [List.append_assoc] at ih
    refine loop_inr (s' := l ++ [0]) ?_ ih
    unfold F_sha_padded_L3
    dsimp only
    have e : ([0] : List Int).length = 1 := rfl
    rw [mod64, show ((((l.length % 64 : Nat) : Int) != 56) = true) by rw [bne_iff_ne]; omega, cond_true, e, ck_t (ck_app (by omega) (by omega))]
theorem l_sha (l1 : List Int) : ∀ (k : Nat) (l : List Int), k ≤ 8 → l.length ≤ 1000000000 + 8 - k → loopC (F_sha_padded_L8 l1) (l, (k : Int) - 1) = some (.inr (l ++ shLens (l1.length : Int) k))
  | 0, l, hk, hb => by
    refine loop_inl ?_
    unfold F_sha_padded_L8
    dsimp only
    rw [decide_eq_false (by omega), cond_false]
    show some (Sum.inl (Sum.inr l)) = some (Sum.inl (Sum.inr (l ++ [])))
    rw [List.append_nil]
  | k + 1, l, hk, hb => by
    have hl : (l ++ ([shLenB (l1.length : Int) k] : List Int)).length = l.length + 1 := by rw [List.length_append]; rfl
    have ih := l_sha l1 k (l ++ [shLenB (l1.length : Int) k]) (by omega) (by rw [hl]; omega)
    rw [List.append_assoc] at ih
    refine loop_inr (s' := (l ++ [shLenB (l1.length : Int) k], (k : Int) - 1)) ?_ ih
    unfold F_sha_padded_L8
    dsimp only
    rw [show (((k + 1 : Nat) : Int) - 1) = (k : Int) by omega, decide_eq_true (by omega), cond_true, wrap_in (x := 8 * (k : Int)) (by omega) (by omega), wrap_in (x := (k : Int) - 1) (by omega) (by omega), show 8 * (k : Int) = ((8 * k : Nat) : Int) by omega, Int.toNat_natCast, ck_t (decide_eq_true (by omega))]
    have e : ∀ x : Int, ([x] : List Int).length = 1 := fun _ => rfl
    rw [e, ck_t (ck_app (by omega) (by omega))]
    rfl
theorem shZ_ok (n : Nat) : (n + 1 + shZ n) % 64 = 56 ∧ (∀ j, j < shZ n → (n + 1 + j) % 64 ≠ 56) ∧ shZ n < 64 := by
  unfold shZ
  refine ⟨by omega, fun j hj => by omega, by omega⟩
theorem padL_len (l : List Int) : ∃ m, (padL l).length = 64 * m ∧ (padL l).length ≤ l.length + 128 := by
  have h := shZ_ok l.length
  have e : (padL l).length = l.length + 1 + shZ l.length + 8 := by
    unfold padL
    rw [List.length_append, List.length_append, List.length_append, shLens_len, List.length_replicate]; rfl
  exact ⟨(padL l).length / 64, by omega, by omega⟩
theorem pad_sha {l : List Int} (hl : l.length ≤ 100000000) : F_sha_padded l = some (padL l) := by
  have h := shZ_ok l.length
  have hc : F_slices_Clone_byte_byte l = some l := by
    unfold F_slices_Clone_byte_byte
    rw [Nat.ble_eq_true_of_le hl]; rfl
  have e : ([128] : List Int).length = 1 := rfl
  have hL : (l ++ ([128] : List Int)).length = l.length + 1 := by rw [List.length_append]; rfl
  have hz : (List.replicate (shZ l.length) (0 : Int)).length = shZ l.length := List.length_replicate
  unfold F_sha_padded
  rw [hc, Option.bind_some, e, ck_t (ck_app (by omega) (by omega)), join_inr (z_sha (shZ l.length) (l ++ [128]) (by rw [hL]; exact h.1) (by rw [hL]; exact h.2.1) (by rw [hL]; omega))]
  unfold F_sha_padded_J2
  dsimp only
  refine (join_inr (l_sha l 8 _ (by omega) (by rw [List.length_append, hL, hz]; omega))).trans ?_
  rfl
def hBlk (kk p : List Int) : Nat → List Int
  | 0 => H8
  | j + 1 => blk kk (hBlk kk p j) ((p.take (64 * j + 64)).drop (64 * j))
theorem hBlk_len (kk p : List Int) : ∀ j, (hBlk kk p j).length = 8
  | 0 => by kernel_rfl
  | j + 1 => addV_len _ _
theorem cut_blk {p : List Int} {m j : Nat} (hp : p.length = 64 * m) (hj : j < m) (hb : p.length ≤ 1000000000) : cutI p ((64 * j : Nat) : Int) (IntKind.i64.wrap (((64 * j : Nat) : Int) + 64)) = some ((p.take (64 * j + 64)).drop (64 * j)) ∧ ((p.take (64 * j + 64)).drop (64 * j)).length = 64 := by
  constructor
  · unfold cutI
    rw [wrap_in (x := ((64 * j : Nat) : Int) + 64) (by omega) (by omega), show (((64 * j : Nat) : Int) + 64) = ((64 * j + 64 : Nat) : Int) by omega, decide_eq_true (by omega), decide_eq_true (by omega), decide_eq_true (by rw [hp]; omega), Int.toNat_natCast, Int.toNat_natCast]
    rfl
  · rw [List.length_drop, List.length_take, hp]; omega
theorem b_sha (p : List Int) (m : Nat) (hp : p.length = 64 * m) (hb : p.length ≤ 1000000000) : ∀ k j : Nat, j + k = m → loopC F_sha_One_L15 (K64, p, ((64 * j : Nat) : Int), hBlk K64 p j) = some (.inr (hBlk K64 p m))
  | 0, j, hk => by
    refine loop_inl ?_
    unfold F_sha_One_L15
    dsimp only
    have e : j = m := by omega
    subst e
    rw [decide_eq_false (by rw [hp]; omega), cond_false]
  | k + 1, j, hk => by
    obtain ⟨c1, c2⟩ := cut_blk hp (show j < m by omega) hb
    refine loop_inr (s' := (K64, p, ((64 * (j + 1) : Nat) : Int), hBlk K64 p (j + 1))) ?_ (b_sha p m hp hb k (j + 1) (by omega))
    unfold F_sha_One_L15
    dsimp only
    rw [decide_eq_true (show ((64 * j : Nat) : Int) < (p.length : Int) by rw [hp]; omega), cond_true, c1, Option.bind_some, turned_sha (hBlk_len _ _ _) c2 (by kernel_rfl), Option.bind_some, wrap_in (x := ((64 * j : Nat) : Int) + 64) (by omega) (by omega), show (((64 * j : Nat) : Int) + 64) = ((64 * (j + 1) : Nat) : Int) by omega]
    rfl
def shFour (x : Int) : List Int := [IntKind.u8.wrap (Int.fdiv x (2 ^ 24)), IntKind.u8.wrap (Int.fdiv x (2 ^ 16)), IntKind.u8.wrap (Int.fdiv x (2 ^ 8)), IntKind.u8.wrap x]
def shOut (h : List Int) : List Int := (h.map shFour).flatten
theorem shOut_len {h : List Int} (hh : h.length = 8) : (shOut h).length = 32 := by
  obtain ⟨a, b, c, d, e, f, g, z, rfl⟩ := eight hh
  rfl
theorem o_sha {h : List Int} (hh : h.length = 8) : loopC (F_sha_One_L22 h) (([] : List Int), 0) = some (.inr (shOut h)) := by
  obtain ⟨a, b, c, d, e, f, g, z, rfl⟩ := eight hh
  exact loop_of_iter (n := 9) rfl
def sumL (l : List Int) : List Int := shOut (hBlk K64 (padL l) ((padL l).length / 64))
theorem sumL_len (l : List Int) : (sumL l).length = 32 := shOut_len (hBlk_len _ _ _)
theorem sha_One {l : List Int} (hl : l.length ≤ 100000000) : F_sha_One l = some (sumL l) := by
  obtain ⟨m, h1, h2⟩ := padL_len l
  unfold F_sha_One
  rw [show F_sha_primes 64 = some P64 from rfl, Option.bind_some]
  refine (join_inr (c_sha 64 0 rfl)).trans ?_
  unfold F_sha_One_J3
  dsimp only
  rw [pad_sha hl, Option.bind_some]
  refine (join_inr (b_sha (padL l) m h1 (by omega) m 0 (by omega))).trans ?_
  unfold F_sha_One_J13
  dsimp only
  rw [join_inr (o_sha (hBlk_len _ _ _))]
  unfold F_sha_One_J20 sumL
  rw [h1, Nat.mul_div_cancel_left m (by omega)]
theorem sha_Salted {s l : List Int} (hs : s.length ≤ 10000000) (hl : l.length ≤ 10000000) : F_sha_Salted s l = some (sumL (s ++ 0 :: l)) := by
  have e : ([s, ([0] : List Int), l] : List (List Int)).flatten = s ++ 0 :: l := by simp
  have hn : (s ++ 0 :: l).length = s.length + (l.length + 1) := List.length_append
  unfold F_sha_Salted F_slices_Concat_byte_byte
  rw [e, hn, Nat.ble_eq_true_of_le (show s.length + (l.length + 1) ≤ 100000000 by omega)]
  show ((some (s ++ 0 :: l)).bind fun l3 => (F_sha_One l3).bind fun l4 => some l4) = _
  rw [Option.bind_some, sha_One (by rw [hn]; omega)]; rfl
end Go.Proofs.YtgfmfgombmpodaaGreatDoor

namespace Go.Proofs.YtgfmfgombmpodaaGreatDoor
open Pv
set_option linter.unusedVariables false
def isDig (c : Int) : Bool := decide (48 ≤ c) && decide (c ≤ 57)
def valI (s : List Int) : Int := s.foldl (fun a c => a * 10 + (c - 48)) 0
def canonB (s : List Int) : Bool := s.all isDig && match s with
  | [] => false
  | [_] => true
  | c :: _ => c != 48
theorem valI_snoc (s : List Int) (c : Int) : valI (s ++ [c]) = valI s * 10 + (c - 48) := by
  unfold valI
  rw [List.foldl_append]; rfl
theorem dig_of {c : Int} (h : isDig c = true) : 48 ≤ c ∧ c ≤ 57 := by
  simpa [isDig] using h
theorem valI_nn : ∀ (k : Nat) (s : List Int), s.length = k → s.all isDig = true → 0 ≤ valI s := fun k => by
  induction k with
  | zero => intro s h _; rw [List.length_eq_zero_iff.1 h]; decide
  | succ k ih =>
    intro s h hd
    rcases List.eq_nil_or_concat s with rfl | ⟨s', c, rfl⟩
    · decide
    · rw [List.concat_eq_append] at h hd ⊢
      rw [List.all_append, Bool.and_eq_true] at hd
      have hc := dig_of (c := c) (by simpa using hd.2)
      have := ih s' (by simp at h; omega) hd.1
      rw [valI_snoc]
      omega
def dgs (n : Nat) : List Int := (Lib.decDigits n).map byteI
theorem dgs_one {n : Nat} (h : n < 10) : dgs n = [48 + (n : Int)] := by
  unfold dgs
  rw [Lib.decDigits_one h]
  show [byteI (UInt8.ofNat (48 + n))] = _
  unfold byteI
  rw [UInt8.toNat_ofNat', Nat.mod_eq_of_lt (by omega)]
  congr 1
theorem dgs_more {n : Nat} (h : ¬ n < 10) : dgs n = dgs (n / 10) ++ [48 + ((n % 10 : Nat) : Int)] := by
  unfold dgs
  rw [Lib.decDigits, dif_neg h, List.map_append]
  congr 1
  show [byteI (UInt8.ofNat (48 + n % 10))] = _
  unfold byteI
  rw [UInt8.toNat_ofNat', Nat.mod_eq_of_lt (by omega)]
  congr 1
theorem itoa_dgs (n : Nat) : itoaI (n : Int) = dgs n := by
  unfold itoaI dgs
  rw [Lib.itoa_nonneg]
theorem dgs_spec : ∀ (k n : Nat), n < k → (dgs n).all isDig = true ∧ valI (dgs n) = n ∧ dgs n ≠ [] ∧ (1 ≤ n → (dgs n).head? ≠ some 48) := fun k => by
  induction k with
  | zero => intro n h; omega
  | succ k ih =>
    intro n h
    by_cases h10 : n < 10
    · rw [dgs_one h10]
      refine ⟨by simp [isDig]; omega, by simp [valI]; omega, by simp, fun h1 => ?_⟩
      show some (48 + (n : Int)) ≠ some 48
      intro e
      injection e with e
      omega
    · obtain ⟨a, b, c, d⟩ := ih (n / 10) (by omega)
      rw [dgs_more h10]
      refine ⟨?_, ?_, by simp, fun _ => ?_⟩
      · rw [List.all_append, a]
        simp [isDig]
        omega
      · rw [valI_snoc, b]
        omega
      · cases hq : dgs (n / 10) with
        | nil => exact absurd hq c
        | cons x r =>
          rw [hq] at d
          exact d (by omega)
theorem canon_dgs (n : Nat) : canonB (dgs n) = true := by
  obtain ⟨a, b, c, d⟩ := dgs_spec (n + 1) n (by omega)
  unfold canonB
  rw [a, Bool.true_and]
  by_cases h10 : n < 10
  · rw [dgs_one h10]
  · have hd := d (by omega)
    have hl : 2 ≤ (dgs n).length := by
      rw [dgs_more h10, List.length_append]
      have : 0 < (dgs (n / 10)).length := List.length_pos_iff.2 (dgs_spec (n / 10 + 1) (n / 10) (by omega)).2.2.1
      simp
      omega
    match hs : dgs n, hd, hl with
    | x :: y :: r, hd, _ =>
      show (x != 48) = true
      exact bne_iff_ne.2 fun e => hd (by rw [e]; rfl)
theorem val_pos : ∀ (k : Nat) (s : List Int), s.length = k → s.all isDig = true → (∃ c r, s = c :: r ∧ c ≠ 48) → 1 ≤ valI s := fun k => by
  induction k with
  | zero => intro s h _ ⟨c, r, e, _⟩; subst e; simp at h
  | succ k ih =>
    intro s h hd ⟨c, r, e, hc⟩
    rcases List.eq_nil_or_concat s with rfl | ⟨s', x, e'⟩
    · cases e
    · rw [List.concat_eq_append] at e'
      subst e'
      rw [List.all_append, Bool.and_eq_true] at hd
      have hx := dig_of (c := x) (by simpa using hd.2)
      rw [valI_snoc]
      cases s' with
      | nil =>
        have : x = c := by simpa using congrArg List.head? e
        subst this
        show 1 ≤ (0 : Int) * 10 + (x - 48)
        omega
      | cons c' r' =>
        have : c' = c := by simpa using congrArg List.head? e
        subst this
        have := ih (c' :: r') (by simp at h ⊢; omega) hd.1 ⟨c', r', rfl, hc⟩
        omega
theorem canon_eq : ∀ (k : Nat) (s : List Int), s.length = k → canonB s = true → ∃ n : Nat, s = dgs n ∧ valI s = n := fun k => by
  induction k with
  | zero => intro s h hc; rw [List.length_eq_zero_iff.1 h] at hc; cases hc
  | succ k ih =>
    intro s h hc
    have hd : s.all isDig = true := by unfold canonB at hc; exact (Bool.and_eq_true _ _ ▸ hc).1
    rcases List.eq_nil_or_concat s with rfl | ⟨s', x, e'⟩
    · cases hc
    · rw [List.concat_eq_append] at e'
      subst e'
      have hd' := hd
      rw [List.all_append, Bool.and_eq_true] at hd'
      have hx := dig_of (c := x) (by simpa using hd'.2)
      cases s' with
      | nil =>
        refine ⟨(x - 48).toNat, ?_, ?_⟩
        · rw [dgs_one (by omega)]
          show [x] = _
          congr 1
          omega
        · show (0 : Int) * 10 + (x - 48) = _
          omega
      | cons c' r' =>
        have hne : c' ≠ 48 := by
          unfold canonB at hc
          rw [hd, Bool.true_and] at hc
          cases r' with
          | nil => exact bne_iff_ne.1 hc
          | cons => exact bne_iff_ne.1 hc
        have hcan : canonB (c' :: r') = true := by
          unfold canonB
          rw [hd'.1, Bool.true_and]
          cases r' with
          | nil => rfl
          | cons => exact bne_iff_ne.2 hne
        obtain ⟨n, h1, h2⟩ := ih (c' :: r') (by simp at h ⊢; omega) hcan
        have hp := val_pos _ (c' :: r') rfl hd'.1 ⟨c', r', rfl, hne⟩
        refine ⟨n * 10 + (x - 48).toNat, ?_, ?_⟩
        · rw [dgs_more (by omega), show (n * 10 + (x - 48).toNat) / 10 = n by omega, show (n * 10 + (x - 48).toNat) % 10 = (x - 48).toNat by omega, ← h1]
          congr 2
          omega
        · rw [valI_snoc, h2]
          omega
theorem parse_snoc (c : UInt8) : ∀ (l : List UInt8) (acc m : Nat), Lib.parseUint10 acc l = .ok m → Lib.parseUint10 acc (l ++ [c]) = Lib.parseUint10 m [c]
  | [], acc, m, h => by
    have : acc = m := by
      have h : Lib.NumEnd.ok acc = .ok m := h
      injection h
    subst this; rfl
  | x :: l, acc, m, h => by
    rw [List.cons_append]
    unfold Lib.parseUint10 at h ⊢
    split at h
    · rename_i h1
      rw [if_pos h1]
      split at h
      · cases h
      · rename_i h2
        rw [if_neg h2]
        split at h
        · cases h
        · rename_i h3
          rw [if_neg h3]
          rw [parse_snoc c l _ m h]
          rfl
    · cases h
theorem parse_dec : ∀ (k n : Nat), n < k → n < 18446744073709551616 → Lib.parseUint10 0 (Lib.decDigits n) = .ok n := fun k => by
  induction k with
  | zero => intro n h; omega
  | succ k ih =>
    intro n h hn
    have hc : (UInt8.ofNat (48 + n % 10)).toNat = 48 + n % 10 := by rw [UInt8.toNat_ofNat', Nat.mod_eq_of_lt (by omega)]
    have step : ∀ acc, acc = n / 10 → Lib.parseUint10 acc [UInt8.ofNat (48 + n % 10)] = .ok n := fun acc e => by
      unfold Lib.parseUint10
      rw [hc, if_pos (by omega), if_neg (by omega), if_neg (by omega)]
      show Lib.NumEnd.ok _ = _
      congr 1
      omega
    rw [Lib.decDigits]
    by_cases h10 : n < 10
    · rw [dif_pos h10]
      have := step 0 (by omega)
      rwa [Nat.mod_eq_of_lt h10] at this
    · rw [dif_neg h10, parse_snoc _ _ _ _ (ih (n / 10) (by omega) (by omega))]
      exact step _ rfl
theorem dec_cons (n : Nat) : ∃ c r, Lib.decDigits n = c :: r ∧ c.toNat ≠ 43 ∧ c.toNat ≠ 45 := by
  obtain ⟨a, b, c, d⟩ := dgs_spec (n + 1) n (by omega)
  cases h : Lib.decDigits n with
  | nil => exact absurd (by unfold dgs; rw [h]; rfl) c
  | cons x r =>
    refine ⟨x, r, rfl, ?_⟩
    unfold dgs at a
    rw [h, List.map_cons, List.all_cons, Bool.and_eq_true] at a
    have := dig_of a.1
    unfold byteI at this
    omega
theorem toB_dgs (n : Nat) : toB (dgs n) = Lib.decDigits n := by
  unfold toB dgs
  rw [List.map_map]
  conv => rhs; rw [← List.map_id (Lib.decDigits n)]
  apply List.map_congr_left
  intro b _
  show (((b.toNat : Nat) : Int).toNat).toUInt8 = b
  rw [Int.toNat_natCast, Nat.toUInt8_eq, UInt8.ofNat_toNat]
theorem atoi_dgs (n : Nat) (h : n < 9223372036854775808) : atoiP (dgs n) = ((n : Int), false) := by
  unfold atoiP
  rw [toB_dgs]
  obtain ⟨c, r, h1, h2, h3⟩ := dec_cons n
  have hp := parse_dec (n + 1) n (by omega) (by omega)
  have : Lib.atoiAll (Lib.decDigits n) = .ok (n : Int) := by
    rw [h1, Lib.atoiAll_plain c r h2 h3, ← h1]
    unfold Lib.parseMag
    rw [if_neg (by rw [h1]; simp), hp]
    unfold Lib.signless
    simp
    omega
  rw [this]
theorem decimal_law (s : List Int) (most : Int) (hm : most ≤ 9223372036854775807) :
    (canonB s = true ∧ valI s ≤ most → (atoiP s).2 = false ∧ (atoiP s).1 = valI s ∧ itoaI (valI s) = s) ∧
    ((atoiP s).2 = false → 0 ≤ (atoiP s).1 → (atoiP s).1 ≤ most → itoaI (atoiP s).1 = s → canonB s = true ∧ valI s = (atoiP s).1) := by
  refine ⟨fun ⟨hc, hv⟩ => ?_, fun h1 h2 h3 h4 => ?_⟩
  · obtain ⟨n, e1, e2⟩ := canon_eq _ s rfl hc
    rw [e2] at hv ⊢
    rw [itoa_dgs, e1, atoi_dgs n (by omega)]
    exact ⟨rfl, rfl, rfl⟩
  · obtain ⟨n, hn⟩ : ∃ n : Nat, (atoiP s).1 = n := ⟨(atoiP s).1.toNat, by omega⟩
    rw [hn, itoa_dgs] at h4
    rw [hn, ← h4]
    exact ⟨canon_dgs n, (dgs_spec (n + 1) n (by omega)).2.1⟩
theorem dgs_len : ∀ (k n : Nat), n < 10 ^ (k + 1) → (dgs n).length ≤ k + 1 := fun k => by
  induction k with
  | zero => intro n h; rw [dgs_one (by omega)]; simp
  | succ k ih =>
    intro n h
    by_cases h10 : n < 10
    · rw [dgs_one h10]; simp
    · rw [dgs_more h10, List.length_append]
      have := ih (n / 10) (by
        rw [Nat.pow_succ] at h
        omega)
      simp
      omega
theorem cutI_nat {α : Type} {s : List α} {a b : Nat} (h1 : a ≤ b) (h2 : b ≤ s.length) : cutI s (a : Int) (b : Int) = some ((s.take b).drop a) := by
  unfold cutI
  rw [decide_eq_true (show (0 : Int) ≤ (a : Int) by omega), decide_eq_true (show (a : Int) ≤ (b : Int) by omega), decide_eq_true (show (b : Int) ≤ (s.length : Int) by omega)]
  rfl
theorem getI_nat {α : Type} {s : List α} {i : Nat} {x : α} (h : s[i]? = some x) : getI s (i : Int) = some x := by
  unfold getI
  rw [decide_eq_true (by omega), cond_true, Int.toNat_natCast, h]
theorem chk1 {a b : Nat} (h : a + b ≤ 10000000) : (decide ((a + b) * 1 ≤ 140737488355328) && decide (a + b ≤ maxLen)) = true := by
  rw [decide_eq_true (by omega), decide_eq_true (by have : maxLen = 9223372036854775807 := rfl; omega)]; rfl
theorem SplitL_eq (s : List Int) (c : Int) (hs : s.length ≤ 1000000) : F_strings_Split s [c] = some (splitI s c) := by
  show cond (Nat.ble s.length 4000000000) (some (splitI s c)) none = _
  rw [Nat.ble_eq_true_of_le (by omega)]; rfl
theorem decimal_eq (s : List Int) (most : Int) (hs : s.length ≤ 1000000) (hm : most ≤ 9223372036854775807) :
    ∃ x, F_addr_decimal s most = some (x, canonB s && decide (valI s ≤ most)) ∧ (canonB s = true → valI s ≤ most → x = valI s) := by
  obtain ⟨k1, k2⟩ := decimal_law s most hm
  unfold F_addr_decimal
  have ha : F_strconv_Atoi s = some (atoiP s) := by
    unfold F_strconv_Atoi
    rw [Nat.ble_eq_true_of_le (by omega)]; rfl
  rw [ha, Option.bind_some]
  refine ⟨(atoiP s).1, ?_, fun h1 h2 => (k1 ⟨h1, h2⟩).2.1⟩
  cases hc : (canonB s && decide (valI s ≤ most)) with
  | true =>
    rw [Bool.and_eq_true, decide_eq_true_iff] at hc
    obtain ⟨q1, q2, q3⟩ := k1 hc
    have hp := valI_nn _ s rfl (by have := hc.1; unfold canonB at this; exact (Bool.and_eq_true _ _ ▸ this).1)
    rw [q1, q2, decide_eq_true (show valI s ≥ 0 from hp), decide_eq_true hc.2]
    rw [show (notB false && true && true) = true from rfl, cond_true]
    unfold F_strconv_Itoa
    rw [Option.bind_some, q3, beq_self_eq_true]
  | false =>
    cases hq : (notB (atoiP s).2 && decide ((atoiP s).1 ≥ 0)) && decide ((atoiP s).1 ≤ most) with
    | false => rfl
    | true =>
      rw [cond_true]
      unfold F_strconv_Itoa
      rw [Option.bind_some]
      have hq' := hq
      rw [Bool.and_eq_true, Bool.and_eq_true, decide_eq_true_iff, decide_eq_true_iff] at hq'
      cases he : itoaI (atoiP s).1 == s with
      | false => rfl
      | true =>
        exfalso
        obtain ⟨r1, r2⟩ := k2 (by
          have := hq'.1.1
          cases hb : (atoiP s).2 with
          | false => rfl
          | true => rw [hb] at this; cases this) hq'.1.2 hq'.2 (beq_iff_eq.1 he)
        rw [r1, r2, decide_eq_true hq'.2] at hc
        cases hc
theorem u8_in {x : Int} (h0 : 0 ≤ x) (h1 : x ≤ 255) : IntKind.u8.wrap x = x := by
  show (if (false && decide (x % 256 ≥ 128)) = true then x % 256 - 256 else x % 256) = x
  simp
  omega
def byteB (w : List Int) : Bool := canonB w && decide (valI w ≤ 255)
def fourR (s : List Int) : List Int × Bool := cond (decide ((splitI s 46).length = 4) && (splitI s 46).all byteB) ((splitI s 46).map valI, true) ([], false)
theorem byte_val {w : List Int} (h : byteB w = true) : 0 ≤ valI w ∧ valI w ≤ 255 := by
  unfold byteB at h
  rw [Bool.and_eq_true, decide_eq_true_iff] at h
  have := h.1
  unfold canonB at this
  exact ⟨valI_nn _ w rfl (Bool.and_eq_true _ _ ▸ this).1, h.2⟩
theorem split_mem_len {s w : List Int} {c : Int} (h : w ∈ splitI s c) : w.length ≤ s.length := by
  have h1 := splitI_sum s c
  have h2 : w.length ≤ ((splitI s c).map List.length).sum := mem_sum (List.mem_map.2 ⟨w, h, rfl⟩)
  have h3 : 0 < (splitI s c).length := List.length_pos_iff.2 (splitI_ne s c)
  omega
theorem all_snoc {l : List (List Int)} {i : Nat} {w : List Int} (h : l[i]? = some w) (ha : (l.take i).all byteB = true) (hw : byteB w = true) : (l.take (i + 1)).all byteB = true := by
  rw [List.take_add_one, h, List.all_append, ha]
  simp [hw]
theorem all_bad {l : List (List Int)} {i : Nat} {w : List Int} (h : l[i]? = some w) (hw : byteB w = false) : l.all byteB = false := by
  rw [List.all_eq_false]
  exact ⟨w, List.mem_of_getElem? h, by rw [hw]; decide⟩
theorem map_snoc {l : List (List Int)} {i : Nat} {w : List Int} (h : l[i]? = some w) : (l.take (i + 1)).map valI = (l.take i).map valI ++ [valI w] := by
  rw [List.take_add_one, h, List.map_append]; rfl
theorem dotted_loop (l : List (List Int)) (hl : l.length = 4) (hw : ∀ w ∈ l, w.length ≤ 1000000) : loopC (F_addr_dotted_L8 l) (([] : List Int), l, 0) = some (cond (l.all byteB) (.inr (l.map valI)) (.inl ([], false))) := by
  obtain ⟨r, h1, h2⟩ := loop_inv (body := F_addr_dotted_L8 l) (I := fun st => ∃ i : Nat, i ≤ 4 ∧ (l.take i).all byteB = true ∧ st = ((l.take i).map valI, l, (i : Int))) (m := fun st => 4 - st.2.2.toNat) (Q := fun q => q = cond (l.all byteB) (.inr (l.map valI)) (.inl ([], false))) (fun st ⟨i, hi, hd, e⟩ => by
    subst e
    unfold F_addr_dotted_L8
    dsimp only
    by_cases hlt : i < 4
    · have hg := List.getElem?_eq_getElem (l := l) (i := i) (by omega)
      obtain ⟨x, hx1, hx2⟩ := decimal_eq l[i] 255 (hw _ (List.getElem_mem _)) (by omega)
      rw [show (canonB l[i] && decide (valI l[i] ≤ 255)) = byteB l[i] from rfl] at hx1
      rw [decide_eq_true (by omega), cond_true, getI_nat hg, Option.bind_some, hx1, Option.bind_some]
      cases hb : byteB l[i] with
      | false =>
        rw [all_bad hg hb]
        exact .inl ⟨_, rfl, rfl⟩
      | true =>
        have hv := byte_val hb
        have hxv : x = valI l[i] := by
          unfold byteB at hb
          rw [Bool.and_eq_true, decide_eq_true_iff] at hb
          exact hx2 hb.1 hb.2
        subst hxv
        unfold chk
        rw [Bool.not_true, cond_false, chk1 (by rw [List.length_map, List.length_take]; show _ + 1 ≤ _; omega), cond_true, u8_in hv.1 hv.2, wrap_in (by omega) (by omega)]
        refine .inr ⟨_, rfl, ⟨i + 1, by omega, all_snoc hg hd hb, by rw [map_snoc hg]; rfl⟩, ?_⟩
        show 4 - ((i : Int) + 1).toNat < 4 - (i : Int).toNat
        omega
    · rw [decide_eq_false (by omega), cond_false]
      rw [List.take_of_length_le (by omega)] at hd
      refine .inl ⟨_, rfl, ?_⟩
      rw [hd, cond_true, List.take_of_length_le (by omega)]) (([] : List Int), l, 0) ⟨0, by omega, by simp, by simp⟩
  rw [h1, h2]
theorem dotted_eq (s : List Int) (hs : s.length ≤ 1000000) : F_addr_dotted s = some (fourR s) := by
  unfold F_addr_dotted fourR
  rw [SplitL_eq s 46 hs, Option.bind_some]
  by_cases h4 : (splitI s 46).length = 4
  · rw [show (((splitI s 46).length : Int) != 4) = false by rw [h4]; rfl, cond_false, decide_eq_true h4, Bool.true_and, dotted_loop _ h4 fun w hw => by have := split_mem_len hw; omega]
    cases (splitI s 46).all byteB <;> rfl
  · rw [show (((splitI s 46).length : Int) != 4) = true from bne_iff_ne.2 (by omega), cond_true, decide_eq_false h4]
    rfl
theorem cond_ex {b : Bool} {x y : Option Int} (hx : ∃ d, x = some d) (hy : ∃ d, y = some d) : ∃ d, cond b x y = some d := by
  cases b
  · exact hy
  · exact hx
theorem some_ex (x : Int) : ∃ d, some x = some d := ⟨x, rfl⟩
noncomputable def sg (c : Int) : Int := (F_host_sign c).getD 0
theorem sign_eq (c : Int) : F_host_sign c = some (sg c) := by
  have : ∃ d, F_host_sign c = some d := by
    unfold F_host_sign
    repeat' (first | with_reducible exact some_ex _ | with_reducible apply cond_ex)
  obtain ⟨d, hd⟩ := this
  unfold sg
  rw [hd]; rfl
def endsB (out : List Int) (n : Nat) : Bool := n == 0 || out.getLast? == some 45
noncomputable def nameP : List Int → Nat → List Int → Option (List Int)
  | out, n, [] => cond (endsB out n) none (some out)
  | out, n, c :: r => cond (c == 46) (cond (endsB out n) none (nameP (out ++ [46]) 0 r)) (cond (sg c == 0 || n == 63 || (sg c == 45 && n == 0)) none (nameP (out ++ [sg c]) (n + 1) r))
def resN : Option (List Int) → List Int × Int
  | none => ([], 2)
  | some b => (b, 0)
noncomputable def nameR (s : List Int) : List Int × Int := resN (cond (decide (253 < s.length)) none (nameP [] 0 s))
theorem name_wrong (s : List Int) (x : List Int × Int × Int) : loopC (F_host_Name_G1 s) (0, x) = some ([], 2) := loop_inl rfl
theorem last_of {out : List Int} (h : out ≠ []) (hl : out.length ≤ 1000) : ∃ x, getI out (IntKind.i64.wrap ((out.length : Int) - 1)) = some x ∧ out.getLast? = some x := by
  have : 0 < out.length := List.length_pos_iff.2 h
  rw [wrap_in (by omega) (by omega)]
  obtain ⟨x, h1, h2⟩ := getI_of (l := out) (j := (out.length : Int) - 1) (by omega) (by omega)
  refine ⟨x, h1, ?_⟩
  rw [List.getLast?_eq_getElem?, ← h2]
  congr 1
  omega
theorem chk_out {a b : Nat} (h : a + b ≤ 1000000) : (decide ((a + b) * 1 ≤ 140737488355328) && decide (a + b ≤ maxLen)) = true := by
  rw [decide_eq_true (by omega), decide_eq_true (by have : maxLen = 9223372036854775807 := rfl; omega)]; rfl
theorem beq_nat (a b : Nat) : ((a : Int) == (b : Int)) = (a == b) := by
  by_cases h : a = b
  · subst h; simp
  · rw [beq_eq_false_iff_ne.2 h, beq_eq_false_iff_ne.2 (by omega)]
theorem name_end {s out : List Int} {i n : Nat} (hn : n = 0 ∨ out ≠ []) (ho : out.length ≤ 253) :
    (endsB out n = true → loopC (F_host_Name_G1 s) (1, (out, (i : Int), (n : Int))) = some ([], 2)) ∧
    (endsB out n = false → (i = s.length → loopC (F_host_Name_G1 s) (1, (out, (i : Int), (n : Int))) = some (out, 0)) ∧ (i < s.length → i ≤ 253 → ∀ r, loopC (F_host_Name_G1 s) (2, (out ++ [46], ((i + 1 : Nat) : Int), ((0 : Nat) : Int))) = some r → loopC (F_host_Name_G1 s) (1, (out, (i : Int), (n : Int))) = some r)) := by
  have hG : F_host_Name_G1 s (1, (out, (i : Int), (n : Int))) = F_host_Name_G1_1 s (out, (i : Int), (n : Int)) := rfl
  by_cases h0 : n = 0
  · subst h0
    refine ⟨fun _ => loop_inr (s' := (0, (out, (i : Int), 0))) ?_ (name_wrong s _), fun h => by simp [endsB] at h⟩
    rw [hG]; rfl
  · obtain ⟨x, h1, h2⟩ := last_of (hn.resolve_left h0) (by omega)
    have hz : ((n : Int) == 0) = false := beq_eq_false_iff_ne.2 (by omega)
    have hz' : (n == 0) = false := beq_eq_false_iff_ne.2 h0
    by_cases hx : x = 45
    · subst hx
      refine ⟨fun _ => loop_inr (s' := (0, (out, (i : Int), (n : Int)))) ?_ (name_wrong s _), fun h => by simp [endsB, h2] at h⟩
      rw [hG]
      unfold F_host_Name_G1_1
      dsimp only
      rw [hz, cond_false, h1]; rfl
    · have hx' : (x == 45) = false := beq_eq_false_iff_ne.2 hx
      refine ⟨fun h => ?_, fun _ => ⟨fun hi => loop_inl ?_, fun hi hi2 r hr => loop_inr ?_ hr⟩⟩
      · unfold endsB at h
        rw [hz', h2] at h
        simp [hx] at h
      · rw [hG]
        unfold F_host_Name_G1_1
        dsimp only
        rw [hz, cond_false, h1, Option.bind_some, hx', cond_false, beq_nat, hi, beq_self_eq_true, cond_true]
      · rw [hG]
        unfold F_host_Name_G1_1
        dsimp only
        rw [hz, cond_false, h1, Option.bind_some, hx', cond_false, beq_nat, beq_eq_false_iff_ne.2 (by omega), cond_false]
        unfold chk
        rw [chk_out (by show out.length + 1 ≤ _; omega), cond_true, wrap_in (by omega) (by omega)]
        rfl
theorem name_loop (s : List Int) (hs : s.length ≤ 253) : ∀ (r out : List Int) (n i : Nat), s.drop i = r → i ≤ s.length → (n = 0 ∨ out ≠ []) → out.length ≤ i → n ≤ 63 → loopC (F_host_Name_G1 s) (2, (out, (i : Int), (n : Int))) = some (resN (nameP out n r))
  | [], out, n, i, hd, hi, hn, ho, hn2 => by
    have hl : i = s.length := by
      have := congrArg List.length hd
      simp at this
      omega
    have hG : F_host_Name_G1 s (2, (out, (i : Int), (n : Int))) = some (.inr (1, (out, (i : Int), (n : Int)))) := by
      show F_host_Name_G1_2 s (out, (i : Int), (n : Int)) = _
      unfold F_host_Name_G1_2
      dsimp only
      rw [beq_nat, hl, beq_self_eq_true, cond_true]
    have he := name_end (s := s) (i := i) hn (by omega)
    refine loop_inr hG ?_
    unfold nameP
    cases hb : endsB out n with
    | true => exact he.1 hb
    | false => exact (he.2 hb).1 hl
  | c :: r, out, n, i, hd, hi, hn, ho, hn2 => by
    have hlt : i < s.length := by
      have := congrArg List.length hd
      simp at this
      omega
    have hr : s.drop (i + 1) = r := by rw [← List.tail_drop, hd]; rfl
    have hc : s[i]? = some c := by rw [← List.head?_drop, hd]; rfl
    have hg : getI s (i : Int) = some c := by
      unfold getI
      rw [decide_eq_true (by omega), cond_true, Int.toNat_natCast, hc]
    have hG : F_host_Name_G1 s (2, (out, (i : Int), (n : Int))) = cond (c == 46) (some (.inr (1, (out, (i : Int), (n : Int))))) (cond ((sg c == 0) || ((n : Int) == 63)) (some (.inr (0, (out, (i : Int), (n : Int))))) (cond ((sg c == 45) && ((n : Int) == 0)) (some (.inr (0, (out, (i : Int), (n : Int))))) (some (.inr (2, (out ++ [sg c], ((i + 1 : Nat) : Int), ((n + 1 : Nat) : Int))))))) := by
      show F_host_Name_G1_2 s (out, (i : Int), (n : Int)) = _
      unfold F_host_Name_G1_2
      dsimp only
      rw [beq_nat, beq_eq_false_iff_ne.2 (show i ≠ s.length by omega), cond_false, hg, Option.bind_some, Option.bind_some, sign_eq, Option.bind_some]
      unfold chk
      rw [chk_out (by show out.length + 1 ≤ _; omega), cond_true, wrap_in (by omega) (by omega), wrap_in (by omega) (by omega)]
      rfl
    have he := name_end (s := s) (i := i) hn (by omega)
    unfold nameP
    cases h46 : c == 46 with
    | true =>
      rw [h46, cond_true] at hG
      rw [cond_true]
      refine loop_inr hG ?_
      cases hb : endsB out n with
      | true => exact he.1 hb
      | false =>
        refine (he.2 hb).2 hlt (by omega) _ ?_
        exact name_loop s hs r (out ++ [46]) 0 (i + 1) hr (by omega) (.inl rfl) (by simp; omega) (by omega)
    | false =>
      have e63 : ((n : Int) == 63) = (n == 63) := beq_nat n 63
      have e0 : ((n : Int) == 0) = (n == 0) := beq_nat n 0
      rw [h46, cond_false, e63, e0] at hG
      rw [cond_false]
      cases h1 : (sg c == 0) || (n == 63) with
      | true =>
        rw [h1, cond_true] at hG
        rw [Bool.true_or, cond_true]
        exact loop_inr hG (name_wrong s _)
      | false =>
        rw [h1, cond_false] at hG
        rw [Bool.false_or]
        cases h2 : (sg c == 45) && (n == 0) with
        | true =>
          rw [h2, cond_true] at hG
          rw [cond_true]
          exact loop_inr hG (name_wrong s _)
        | false =>
          rw [h2, cond_false] at hG
          rw [cond_false]
          have hne : n ≠ 63 := by
            rcases Bool.or_eq_false_iff.1 h1 with ⟨_, h⟩
            exact beq_eq_false_iff_ne.1 h
          refine loop_inr hG ?_
          exact name_loop s hs r (out ++ [sg c]) (n + 1) (i + 1) hr (by omega) (.inr (by simp)) (by simp; omega) (by omega)
theorem name_form (s : List Int) : F_host_Name s = joinC (S := Nat × List Int × Int × Int) (R := List Int × Int) (cond (decide ((s.length : Int) > 253)) (some (.inr (0, (([] : List Int), 0, 0)))) (F_host_Name_G1_2 s ([], 0, 0))) (fun p => loopC (S := Nat × List Int × Int × Int) (R := List Int × Int) (F_host_Name_G1 s) p) := rfl
theorem name_eq (s : List Int) : F_host_Name s = some (nameR s) := by
  rw [name_form]
  unfold nameR
  by_cases h : 253 < s.length
  · rw [decide_eq_true (show (s.length : Int) > 253 by omega), decide_eq_true h, cond_true, cond_true]
    exact name_wrong s _
  · rw [decide_eq_false (show ¬ (s.length : Int) > 253 by omega), decide_eq_false h, cond_false, cond_false]
    have hl := name_loop s (by omega) s [] 0 0 rfl (by omega) (.inl rfl) (by simp) (by omega)
    obtain ⟨k, hk⟩ := iter_of_loop' hl
    cases k with
    | zero => cases hk
    | succ k =>
      unfold iterC at hk
      have hG : F_host_Name_G1 s (2, (([] : List Int), ((0 : Nat) : Int), ((0 : Nat) : Int))) = F_host_Name_G1_2 s ([], 0, 0) := rfl
      rw [hG] at hk
      split at hk
      · cases hk
      · rename_i r hr
        rw [hr]
        exact hk
      · rename_i x hx
        rw [hx]
        exact loop_of_iter hk
theorem prefix_lit (s p : List Int) (hs : s.length ≤ 1000000) : F_strings_HasPrefix s p = some (decide (p.length ≤ s.length) && (s.take p.length == p)) := by
  unfold F_strings_HasPrefix F_internal_stringslite_HasPrefix
  by_cases h : p.length ≤ s.length
  · rw [decide_eq_true (show (s.length : Int) ≥ (p.length : Int) by omega), cond_true, decide_eq_true h, Bool.true_and]
    have := cutI_nat (s := s) (a := 0) (b := p.length) (by omega) h
    rw [show cutI s 0 (p.length : Int) = some (s.take p.length) from this]
    rfl
  · rw [decide_eq_false (show ¬ (s.length : Int) ≥ (p.length : Int) by omega), cond_false, decide_eq_false h]
    rfl
def dg (c : Int) : Int := if 48 ≤ c ∧ c ≤ 57 then c - 48 else if 97 ≤ c ∧ c ≤ 102 then c - 87 else if 65 ≤ c ∧ c ≤ 70 then c - 55 else -1
theorem dg_in (c : Int) : -1 ≤ dg c ∧ dg c < 16 := by unfold dg; split; omega; split; omega; split; omega; omega
theorem u8_sm {x : Int} (h0 : 0 ≤ x) (h1 : x < 256) : IntKind.u8.wrap x = x := by rw [IntKind.wrap_u8]; omega
theorem digit_eq (c : Int) : F_addr_digit c = some (dg c) := by
  unfold F_addr_digit dg
  by_cases h1 : 48 ≤ c ∧ c ≤ 57
  · rw [show (decide (c ≥ 48) && decide (c ≤ 57)) = true by simpa using h1, cond_true, if_pos h1, u8_sm (by omega) (by omega), wrap_in (by omega) (by omega)]
  · rw [show (decide (c ≥ 48) && decide (c ≤ 57)) = false by simp; omega, cond_false, if_neg h1]
    by_cases h2 : 97 ≤ c ∧ c ≤ 102
    · rw [show (decide (c ≥ 97) && decide (c ≤ 102)) = true by simpa using h2, cond_true, if_pos h2, u8_sm (by omega) (by omega), wrap_in (x := c - 97) (by omega) (by omega), wrap_in (by omega) (by omega)]
      congr 1; omega
    · rw [show (decide (c ≥ 97) && decide (c ≤ 102)) = false by simp; omega, cond_false, if_neg h2]
      by_cases h3 : 65 ≤ c ∧ c ≤ 70
      · rw [show (decide (c ≥ 65) && decide (c ≤ 70)) = true by simpa using h3, cond_true, if_pos h3, u8_sm (by omega) (by omega), wrap_in (x := c - 65) (by omega) (by omega), wrap_in (by omega) (by omega)]
        congr 1; omega
      · rw [show (decide (c ≥ 65) && decide (c ≤ 70)) = false by simp; omega, cond_false, if_neg h3]
theorem or16 {n d : Int} (h0 : 0 ≤ n) (h1 : n < 65536) (h2 : 0 ≤ d) (h3 : d < 16) : bits .or .i64 (IntKind.i64.wrap (n * 2 ^ 4)) d = n * 16 + d := by
  have e : n * 2 ^ 4 = n * 16 := rfl
  rw [e, wrap_in (by omega) (by omega)]
  exact bits_join .i64 40 (by decide) (fun n h0 h1 => wrap_in (by omega) (by have e : (2 : Int) ^ 40 = 1099511627776 := by decide
                                                                             omega)) 4 (n * 16) d (by omega) (by omega) (by have e : (2 : Int) ^ 40 = 1099511627776 := by decide
                                                                                                                            omega) h2 h3 (by have e : (2 : Int) ^ 40 = 1099511627776 := by decide
                                                                                                                                             omega)
def digs : List Int → Int → Nat → Int × List Int
  | [], n, _ => (n, [])
  | c :: r, n, z => cond (decide (0 ≤ dg c) && decide (z < 4)) (digs r (n * 16 + dg c) (z + 1)) (n, c :: r)
def by2 (n : Int) : List Int := [n / 256 % 256, n % 256]
theorem by2_eq {n : Int} (h0 : 0 ≤ n) : ([(IntKind.u8.wrap (Int.fdiv n (2 ^ 8))), (IntKind.u8.wrap n)] : List Int) = by2 n := by
  rw [IntKind.wrap_u8, IntKind.wrap_u8, Int.fdiv_eq_ediv_of_nonneg _ (by decide)]; rfl
def overM (b : List Int) (g : Int) : Option (List Int) := cond (decide (g < 0)) (cond (b.length == 16) (some b) none) (cond (decide (16 ≤ b.length)) none (some (insZ b g.toNat)))
def tail3 (f : List Int → Int → List Int → Option (List Int)) (b : List Int) : List Int → Option (List Int)
  | [] => overM b b.length
  | e :: r3 => f b b.length (e :: r3)
def tail2 (f : List Int → Int → List Int → Option (List Int)) (b : List Int) (g : Int) : List Int → Option (List Int)
  | [] => none
  | d :: r2 => cond (d != 58) (f b g (d :: r2)) (cond (decide (0 ≤ g)) none (tail3 f b r2))
def tailM (f : List Int → Int → List Int → Option (List Int)) (b : List Int) (g : Int) : List Int → Option (List Int)
  | [] => overM b g
  | c :: r => cond (c != 58 || b.length == 16) none (tail2 f b g r)
def colM : Nat → List Int → Int → List Int → Option (List Int)
  | 0, _, _, _ => none
  | _ + 1, _, _, [] => none
  | k + 1, b, g, c :: r => cond (decide (0 ≤ dg c)) (tailM (colM k) (b ++ by2 (digs r (dg c) 1).1) g (digs r (dg c) 1).2) none
def RelC (o : Option (List Int × Bool)) (m : Option (List Int)) : Prop := match m with
  | some x => o = some (x, true)
  | none => ∃ v : List Int, o = some (v, false) ∧ v.length ≤ 16
theorem relC_fail : RelC (some (([] : List Int), false)) none := ⟨[], rfl, by simp⟩
theorem over_rel (s b : List Int) (g i n z : Int) (hb : b.length ≤ 16) (h1 : -1 ≤ g) (h2 : g ≤ b.length) : RelC (loopC (F_addr_coloned_G1 s) (0, (b, g, i, n, z))) (overM b g) := by
  have hbody : F_addr_coloned_G1 s (0, (b, g, i, n, z)) = F_addr_coloned_G1_0 (b, g, i, n, z) := rfl
  unfold overM
  unfold F_addr_coloned_G1_0 at hbody
  dsimp only at hbody
  by_cases hg : g < 0
  · rw [decide_eq_true hg, cond_true] at hbody ⊢
    rw [loop_inl hbody]
    cases h16 : b.length == 16 with
    | true => rw [beq_iff_eq.2 (show (b.length : Int) = 16 by have := beq_iff_eq.1 h16; omega)]; rfl
    | false => rw [beq_eq_false_iff_ne.2 (show (b.length : Int) ≠ 16 by have := beq_eq_false_iff_ne.1 h16; omega)]; exact ⟨b, rfl, hb⟩
  · rw [decide_eq_false hg, cond_false] at hbody ⊢
    by_cases h16 : 16 ≤ b.length
    · rw [decide_eq_true (show (b.length : Int) ≥ 16 by omega), cond_true] at hbody
      rw [loop_inl hbody, decide_eq_true h16]
      exact relC_fail
    · have hok : insOk b g = true := by
        unfold insOk
        simp only [Bool.and_eq_true, decide_eq_true_eq]
        exact ⟨⟨by omega, h2⟩, by rw [Nat.blt_eq]; omega⟩
      rw [decide_eq_false (show ¬ (b.length : Int) ≥ 16 by omega), cond_false, hok] at hbody
      rw [loop_inl hbody, decide_eq_false h16]
      rfl
structure AtG (b : List Int) (g : Int) : Prop where
  len : b.length ≤ 14
  even : b.length % 2 = 0
  lo : -1 ≤ g
  hi : g ≤ b.length
theorem len2 (b : List Int) (n : Int) : (b ++ by2 n).length = b.length + 2 := by rw [List.length_append]; rfl
theorem drop_cons {s r : List Int} {c : Int} {i : Nat} (h : s.drop i = c :: r) : i < s.length ∧ s[i]? = some c ∧ s.drop (i + 1) = r := by
  have hl : i < s.length := by
    rcases Nat.lt_or_ge i s.length with h1 | h1
    · exact h1
    · rw [List.drop_of_length_le h1] at h; cases h
  rw [List.drop_eq_getElem_cons hl] at h
  injection h with h1 h2
  exact ⟨hl, by rw [List.getElem?_eq_getElem hl, h1], h2⟩
theorem drop_nil' {s : List Int} {i : Nat} (h : s.drop i = []) (hi : i ≤ s.length) : i = s.length := by
  have := List.drop_eq_nil_iff.1 h
  omega
theorem tail_rel (s : List Int) (hs : s.length ≤ 1000000) (f : List Int → Int → List Int → Option (List Int)) (b : List Int) (g : Int) (hA : AtG b g) (i : Nat) (n : Int) (z : Nat) (r : List Int) (hr : s.drop i = r) (hi : i ≤ s.length) (h0 : 0 ≤ n) (h1 : n < 65536) (hz : 1 ≤ z) (hz4 : z ≤ 4)
    (hstop : r = [] ∨ ∃ c r', r = c :: r' ∧ (decide (0 ≤ dg c) && decide (z < 4)) = false)
    (ih : ∀ (b' : List Int) (g' : Int) (j : Nat) (r' : List Int) (n' z' : Int), AtG b' g' → s.drop j = r' → j ≤ s.length → i < j → RelC (loopC (F_addr_coloned_G1 s) (1, (b', g', (j : Int), n', z'))) (f b' g' r')) (hf : ∀ b g, f b g [] = none) :
    RelC (loopC (F_addr_coloned_G1 s) (2, (b, g, (i : Int), n, (z : Int)))) (tailM f (b ++ by2 n) g r) := by
  have hbody : F_addr_coloned_G1 s (2, (b, g, (i : Int), n, (z : Int))) = F_addr_coloned_G1_2 s (b, g, (i : Int), n, (z : Int)) := rfl
  unfold F_addr_coloned_G1_2 chk at hbody
  dsimp only at hbody
  have hb14 := hA.len
  have hck : (decide ((b.length + (by2 n).length) * 1 ≤ 140737488355328) && decide (b.length + (by2 n).length ≤ maxLen)) = true := chk1 (by show b.length + 2 ≤ _; omega)
  have hz0 : ((z : Int) == 0) = false := beq_eq_false_iff_ne.2 (by omega)
  have hl2 := len2 b n
  rw [by2_eq h0, hck, hz0] at hbody
  simp only [cond_true, cond_false] at hbody
  rcases hstop with rfl | ⟨c, r', rfl, hc⟩
  · have hie := drop_nil' hr hi
    rw [decide_eq_false (show ¬ (i : Int) < (s.length : Int) by omega), cond_false, beq_iff_eq.2 (show (i : Int) = (s.length : Int) by omega), cond_true] at hbody
    have ho := over_rel s (b ++ by2 n) g i n z (by omega) hA.lo (by have := hA.hi; omega)
    show RelC _ (overM (b ++ by2 n) g)
    cases hm : loopC (F_addr_coloned_G1 s) (0, (b ++ by2 n, g, (i : Int), n, (z : Int))) with
    | none =>
      rw [hm] at ho
      unfold RelC at ho
      split at ho
      · cases ho
      · obtain ⟨v, hv, _⟩ := ho; cases hv
    | some x =>
      rw [loop_inr hbody hm]
      rw [hm] at ho
      exact ho
  · obtain ⟨hlt, hget, hdrop⟩ := drop_cons hr
    have hg1 := getI_nat hget
    have hdz : (decide (dg c ≥ 0) && decide ((z : Int) < 4)) = false := by
      rw [← hc]
      congr 1
      exact decide_eq_decide.2 (by omega)
    rw [decide_eq_true (show (i : Int) < (s.length : Int) by omega), cond_true, hg1] at hbody
    simp only [Option.bind_some, digit_eq, hdz, cond_false] at hbody
    rw [beq_eq_false_iff_ne.2 (show (i : Int) ≠ (s.length : Int) by omega), cond_false, show ((((b ++ by2 n).length : Nat) : Int) == 16) = ((b ++ by2 n).length == 16) by rw [Bool.eq_iff_iff, beq_iff_eq, beq_iff_eq]; omega] at hbody
    have pass : ∀ {x : Nat × List Int × Int × Int × Int × Int} {m : Option (List Int)}, F_addr_coloned_G1 s (2, (b, g, (i : Int), n, (z : Int))) = some (.inr x) → RelC (loopC (F_addr_coloned_G1 s) x) m → RelC (loopC (F_addr_coloned_G1 s) (2, (b, g, (i : Int), n, (z : Int)))) m := fun {x m} he hm => by
      cases hl : loopC (F_addr_coloned_G1 s) x with
      | none =>
        rw [hl] at hm
        unfold RelC at hm
        split at hm
        · cases hm
        · obtain ⟨v, hv, _⟩ := hm; cases hv
      | some y =>
        rw [loop_inr he hl]
        rw [hl] at hm
        exact hm
    show RelC _ (cond (c != 58 || (b ++ by2 n).length == 16) none (tail2 f (b ++ by2 n) g r'))
    cases hx : (c != 58 || (b ++ by2 n).length == 16) with
    | true =>
      rw [hx, cond_true] at hbody
      rw [loop_inl hbody]
      exact relC_fail
    | false =>
      rw [hx, cond_false, wrap_in (x := (i : Int) + 1) (by omega) (by omega)] at hbody
      rw [cond_false]
      have hne : ¬ (b ++ by2 n).length = 16 := beq_eq_false_iff_ne.1 (Bool.or_eq_false_iff.1 hx).2
      have hA' : AtG (b ++ by2 n) g := ⟨by have := hA.even; omega, by rw [hl2]; have := hA.even; omega, hA.lo, by have := hA.hi; omega⟩
      cases r' with
      | nil =>
        have hie := drop_nil' hdrop (by omega)
        rw [beq_iff_eq.2 (show (i : Int) + 1 = (s.length : Int) by omega), cond_true] at hbody
        have := ih (b ++ by2 n) g (i + 1) [] n z hA' hdrop (by omega) (by omega)
        rw [hf] at this
        exact pass hbody (by exact_mod_cast this)
      | cons d r2 =>
        obtain ⟨hlt2, hget2, hdrop2⟩ := drop_cons hdrop
        have hg2 : getI s ((i : Int) + 1) = some d := getI_nat (i := i + 1) hget2
        rw [beq_eq_false_iff_ne.2 (show (i : Int) + 1 ≠ (s.length : Int) by omega), cond_false, hg2, Option.bind_some] at hbody
        show RelC _ (cond (d != 58) (f (b ++ by2 n) g (d :: r2)) (cond (decide (0 ≤ g)) none (tail3 f (b ++ by2 n) r2)))
        cases hd : d != 58 with
        | true =>
          rw [hd, cond_true] at hbody
          rw [cond_true]
          have := ih (b ++ by2 n) g (i + 1) (d :: r2) n z hA' hdrop (by omega) (by omega)
          exact pass hbody (by exact_mod_cast this)
        | false =>
          rw [hd, cond_false] at hbody
          by_cases hg0 : 0 ≤ g
          · rw [decide_eq_true (show g ≥ 0 from hg0), cond_true] at hbody
            rw [loop_inl hbody, cond_false, decide_eq_true hg0]
            exact relC_fail
          · rw [decide_eq_false (show ¬ g ≥ 0 from hg0), cond_false, wrap_in (x := (i : Int) + 1 + 1) (by omega) (by omega)] at hbody
            rw [cond_false, decide_eq_false hg0, cond_false]
            have hA2 : AtG (b ++ by2 n) ((b ++ by2 n).length : Int) := ⟨hA'.len, hA'.even, by omega, Int.le_refl _⟩
            cases r2 with
            | nil =>
              have hie := drop_nil' hdrop2 (by omega)
              rw [decide_eq_false (show ¬ (i : Int) + 1 + 1 < (s.length : Int) by omega), cond_false, decide_eq_false (show ¬ ((b ++ by2 n).length : Int) < 0 by omega), cond_false] at hbody
              show RelC _ (overM (b ++ by2 n) ((b ++ by2 n).length : Int))
              unfold overM
              rw [decide_eq_false (show ¬ ((b ++ by2 n).length : Int) < 0 by omega), cond_false]
              have h14 := hA'.len
              rw [decide_eq_false (show ¬ ((b ++ by2 n).length : Int) ≥ 16 by omega), cond_false] at hbody
              have hok : insOk (b ++ by2 n) ((b ++ by2 n).length : Int) = true := by
                unfold insOk
                simp only [Bool.and_eq_true, decide_eq_true_eq]
                exact ⟨⟨by omega, Int.le_refl _⟩, by rw [Nat.blt_eq]; omega⟩
              rw [hok, cond_true] at hbody
              rw [loop_inl hbody, decide_eq_false (show ¬ 16 ≤ (b ++ by2 n).length by omega)]
              rfl
            | cons e r3 =>
              obtain ⟨hlt3, _, _⟩ := drop_cons hdrop2
              rw [decide_eq_true (show (i : Int) + 1 + 1 < (s.length : Int) by omega), cond_true] at hbody
              have := ih (b ++ by2 n) ((b ++ by2 n).length : Int) (i + 1 + 1) (e :: r3) n z hA2 hdrop2 (by omega) (by omega)
              exact pass hbody (by exact_mod_cast this)
theorem rel_some {o : Option (List Int × Bool)} {m : Option (List Int)} (h : RelC o m) : ∃ x, o = some x := by
  unfold RelC at h
  split at h
  · exact ⟨_, h⟩
  · obtain ⟨v, hv, _⟩ := h; exact ⟨_, hv⟩
theorem rel_inr {s : List Int} {y x : Nat × List Int × Int × Int × Int × Int} {m : Option (List Int)} (he : F_addr_coloned_G1 s y = some (.inr x)) (hm : RelC (loopC (F_addr_coloned_G1 s) x) m) : RelC (loopC (F_addr_coloned_G1 s) y) m := by
  obtain ⟨v, hv⟩ := rel_some hm
  rw [loop_inr he hv]
  rw [hv] at hm
  exact hm
theorem pow16 : ∀ z : Nat, 1 ≤ z → z ≤ 4 → (16 : Int) ^ z ≤ 65536
  | 1, _, _ => by decide
  | 2, _, _ => by decide
  | 3, _, _ => by decide
  | 4, _, _ => by decide
  | 0, h, _ => absurd h (by decide)
  | n + 5, _, h => absurd h (by omega)
theorem digs_rel (s : List Int) (hs : s.length ≤ 1000000) (f : List Int → Int → List Int → Option (List Int)) (b : List Int) (g : Int) (hA : AtG b g) (hf : ∀ b g, f b g [] = none) : ∀ (r : List Int) (i : Nat) (n : Int) (z : Nat), s.drop i = r → i ≤ s.length → 0 ≤ n → n < 16 ^ z → 1 ≤ z → z ≤ 4 →
    (∀ (b' : List Int) (g' : Int) (j : Nat) (r' : List Int) (n' z' : Int), AtG b' g' → s.drop j = r' → j ≤ s.length → i ≤ j → RelC (loopC (F_addr_coloned_G1 s) (1, (b', g', (j : Int), n', z'))) (f b' g' r')) →
    RelC (loopC (F_addr_coloned_G1 s) (2, (b, g, (i : Int), n, (z : Int)))) (tailM f (b ++ by2 (digs r n z).1) g (digs r n z).2)
  | [], i, n, z, hr, hi, h0, h1, hz, hz4, ih => by
    have hp := pow16 z hz hz4
    exact tail_rel s hs f b g hA i n z [] hr hi h0 (by omega) hz hz4 (.inl rfl) (fun b' g' j r' n' z' a1 a2 a3 a4 => ih b' g' j r' n' z' a1 a2 a3 (by omega)) hf
  | c :: r, i, n, z, hr, hi, h0, h1, hz, hz4, ih => by
    have hp := pow16 z hz hz4
    have h65 : n < 65536 := by omega
    unfold digs
    cases hc : decide (0 ≤ dg c) && decide (z < 4) with
    | false =>
      rw [cond_false]
      exact tail_rel s hs f b g hA i n z (c :: r) hr hi h0 h65 hz hz4 (.inr ⟨c, r, rfl, hc⟩) (fun b' g' j r' n' z' a1 a2 a3 a4 => ih b' g' j r' n' z' a1 a2 a3 (by omega)) hf
    | true =>
      rw [cond_true]
      obtain ⟨hlt, hget, hdrop⟩ := drop_cons hr
      simp only [Bool.and_eq_true, decide_eq_true_eq] at hc
      obtain ⟨hd0, hz3⟩ := hc
      obtain ⟨_, hd1⟩ := dg_in c
      have hp2 : (16 : Int) ^ (z + 1) = 16 ^ z * 16 := Int.pow_succ ..
      have hrec := digs_rel s hs f b g hA hf r (i + 1) (n * 16 + dg c) (z + 1) hdrop (by omega) (by omega) (by rw [hp2]; omega) (by omega) (by omega) (fun b' g' j r' n' z' a1 a2 a3 a4 => ih b' g' j r' n' z' a1 a2 a3 (by omega))
      refine rel_inr (x := (2, (b, g, ((i + 1 : Nat) : Int), n * 16 + dg c, ((z + 1 : Nat) : Int)))) ?_ hrec
      show F_addr_coloned_G1_2 s (b, g, (i : Int), n, (z : Int)) = _
      unfold F_addr_coloned_G1_2
      dsimp only
      rw [decide_eq_true (show (i : Int) < (s.length : Int) by omega), cond_true, getI_nat hget]
      simp only [Option.bind_some, digit_eq]
      rw [decide_eq_true (show dg c ≥ 0 from hd0), decide_eq_true (show (z : Int) < 4 by omega), Bool.true_and, cond_true, or16 h0 h65 hd0 hd1, wrap_in (x := (i : Int) + 1) (by omega) (by omega), wrap_in (x := (z : Int) + 1) (by omega) (by omega)]
      rfl
theorem colM_nil : ∀ (k : Nat) (b : List Int) (g : Int), colM k b g [] = none
  | 0, _, _ => rfl
  | _ + 1, _, _ => rfl
theorem colM_rel (s : List Int) (hs : s.length ≤ 1000000) : ∀ (k : Nat) (b : List Int) (g : Int) (i : Nat) (r : List Int) (n z : Int), r.length < k → AtG b g → s.drop i = r → i ≤ s.length → RelC (loopC (F_addr_coloned_G1 s) (1, (b, g, (i : Int), n, z))) (colM k b g r)
  | 0, _, _, _, _, _, _, hk, _, _, _ => absurd hk (Nat.not_lt_zero _)
  | k + 1, b, g, i, r, n, z, hk, hA, hr, hi => by
    have hbody : F_addr_coloned_G1 s (1, (b, g, (i : Int), n, z)) = F_addr_coloned_G1_1 s (b, g, (i : Int), n, z) := rfl
    unfold F_addr_coloned_G1_1 at hbody
    dsimp only at hbody
    cases r with
    | nil =>
      have hie := drop_nil' hr hi
      rw [decide_eq_false (show ¬ (i : Int) < (s.length : Int) by omega), cond_false] at hbody
      rw [loop_inl hbody]
      exact relC_fail
    | cons c r =>
      obtain ⟨hlt, hget, hdrop⟩ := drop_cons hr
      obtain ⟨_, hd1⟩ := dg_in c
      rw [decide_eq_true (show (i : Int) < (s.length : Int) by omega), cond_true, getI_nat hget] at hbody
      simp only [Option.bind_some, digit_eq] at hbody
      unfold colM
      by_cases hd0 : 0 ≤ dg c
      · rw [decide_eq_true (show dg c ≥ 0 from hd0), show (true && decide ((0 : Int) < 4)) = true from rfl, cond_true, or16 (by decide) (by decide) hd0 hd1, wrap_in (x := (i : Int) + 1) (by omega) (by omega)] at hbody
        rw [decide_eq_true hd0, cond_true]
        have hlen : (s.drop i).length = s.length - i := List.length_drop ..
        rw [hr, List.length_cons] at hlen
        have hrec := digs_rel s hs (colM k) b g hA (colM_nil k) r (i + 1) (dg c) 1 hdrop (by omega) hd0 (by simpa using hd1) (by omega) (by omega) (fun b' g' j r' n' z' a1 a2 a3 a4 => by
          refine colM_rel s hs k b' g' j r' n' z' ?_ a1 a2 a3
          have h2 : (s.drop j).length = s.length - j := List.length_drop ..
          rw [a2] at h2
          have hk' : r.length + 1 < k + 1 := hk
          omega)
        refine rel_inr (x := (2, (b, g, ((i + 1 : Nat) : Int), dg c, ((1 : Nat) : Int)))) ?_ hrec
        rw [hbody]
        have e : (0 : Int) * 16 + dg c = dg c := by omega
        rw [e]
        rfl
      · rw [decide_eq_false (show ¬ dg c ≥ 0 from hd0), show (false && decide ((0 : Int) < 4)) = false from rfl, cond_false] at hbody
        rw [loop_inl hbody, decide_eq_false hd0]
        exact relC_fail
theorem join_loop {S R : Type} {body : S → Option (R ⊕ S)} {s0 : S} {r : R} (h : loopC body s0 = some r) : joinC (body s0) (fun p => loopC body p) = some r := by
  obtain ⟨n, hn⟩ := iter_of_loop' h
  cases n with
  | zero => cases hn
  | succ n =>
    unfold iterC at hn
    split at hn
    · cases hn
    · rename_i x hx
      injection hn with hn
      rw [hx, hn]; rfl
    · rename_i x hx
      rw [hx]
      exact loop_of_iter hn
def colR (s : List Int) : Option (List Int) :=
  cond (s.take 2 == [58, 58]) (cond (s.drop 2 == []) (some (insZ [] 0)) (colM s.length [] 0 (s.drop 2))) (colM (s.length + 1) [] (-1) s)
theorem coloned_rel (s : List Int) (hs : s.length ≤ 1000000) : RelC (F_addr_coloned s) (colR s) := by
  have hA1 : AtG [] (-1) := ⟨by simp, rfl, by omega, by simp⟩
  have hA0 : AtG [] 0 := ⟨by simp, rfl, by omega, by simp⟩
  have go : ∀ (g : Int) (i : Nat) (A : Option ((List Int × Bool) ⊕ (Nat × List Int × Int × Int × Int × Int))) (k : Nat), (s.drop i).length < k → AtG [] g → i ≤ s.length → A = F_addr_coloned_G1_1 s (([] : List Int), g, (i : Int), 0, 0) → RelC (joinC A (fun p => loopC (F_addr_coloned_G1 s) p)) (colM k [] g (s.drop i)) := fun g i A k hk hA hi he => by
    have := colM_rel s hs k [] g i (s.drop i) 0 0 hk hA rfl hi
    obtain ⟨v, hv⟩ := rel_some this
    have he' : A = F_addr_coloned_G1 s (1, (([] : List Int), g, (i : Int), 0, 0)) := he
    rw [he', join_loop hv]
    rw [hv] at this
    exact this
  have hpre : (decide (([58, 58] : List Int).length ≤ s.length) && (s.take ([58, 58] : List Int).length == [58, 58])) = (s.take 2 == [58, 58]) := by
    show (decide (2 ≤ s.length) && (s.take 2 == [58, 58])) = _
    by_cases h : 2 ≤ s.length
    · rw [decide_eq_true h, Bool.true_and]
    · rw [decide_eq_false h, Bool.false_and]
      refine (beq_eq_false_iff_ne.2 fun e => ?_).symm
      have := congrArg List.length e
      rw [List.length_take] at this
      simp at this
      omega
  unfold F_addr_coloned colR
  rw [prefix_lit s _ hs, Option.bind_some, hpre]
  cases h2 : s.take 2 == [58, 58] with
  | false =>
    rw [cond_false, cond_false]
    have := go (-1) 0 _ (s.length + 1) (by rw [List.drop_zero]; omega) hA1 (by omega) rfl
    rw [List.drop_zero] at this
    exact this
  | true =>
    rw [cond_true, cond_true]
    have hlen : 2 ≤ s.length := by
      have := congrArg List.length (beq_iff_eq.1 h2)
      rw [List.length_take] at this
      simp at this
      omega
    have hdl : (s.drop 2).length = s.length - 2 := List.length_drop ..
    cases hd : s.drop 2 with
    | nil =>
      rw [hd] at hdl
      have hl2 : s.length = 2 := by simp at hdl; omega
      rw [beq_iff_eq.2 (show (2 : Int) = (s.length : Int) by omega), cond_true, show (([] : List Int) == []) = true from rfl, cond_true]
      rw [join_inr (s := (0, (([] : List Int), 0, 2, 0, 0))) rfl]
      exact loop_inl rfl
    | cons c r =>
      rw [hd, List.length_cons] at hdl
      rw [beq_eq_false_iff_ne.2 (show (2 : Int) ≠ (s.length : Int) by omega), cond_false, show ((c :: r) == ([] : List Int)) = false from rfl, cond_false]
      have := go 0 2 _ s.length (by rw [hd, List.length_cons]; omega) hA0 hlen rfl
      rw [hd] at this
      exact this
def hexGB (p : List Int) : Bool := decide (1 ≤ p.length) && decide (p.length ≤ 4) && p.all fun c => decide (0 ≤ dg c)
def hexV (p : List Int) : Int := p.foldl (fun n c => n * 16 + dg c) 0
def bytesP (ps : List (List Int)) : List Int := ps.flatMap fun p => by2 (hexV p)
theorem bytesP_len (ps : List (List Int)) : (bytesP ps).length = 2 * ps.length := by
  induction ps with
  | nil => rfl
  | cons p ps ih =>
    show (by2 (hexV p) ++ bytesP ps).length = _
    rw [List.length_append, ih, List.length_cons]
    show 2 + _ = _
    omega
theorem bytesP_cons (p : List Int) (ps : List (List Int)) : bytesP (p :: ps) = by2 (hexV p) ++ bytesP ps := rfl
theorem hexB_nil : hexGB [] = false := rfl
def Stop (rest : List Int) : Prop := rest = [] ∨ ∃ r, rest = 58 :: r
theorem part_ex : ∀ r : List Int, ∃ p rest, r = p ++ rest ∧ (∀ c ∈ p, c ≠ 58) ∧ Stop rest
  | [] => ⟨[], [], rfl, fun _ h => (by cases h), .inl rfl⟩
  | c :: r => by
    by_cases h : c = 58
    · exact ⟨[], c :: r, rfl, fun _ h => (by cases h), .inr ⟨r, by rw [h]⟩⟩
    · obtain ⟨p, rest, e, h1, h2⟩ := part_ex r
      refine ⟨c :: p, rest, by rw [e]; rfl, fun x hx => ?_, h2⟩
      rcases List.mem_cons.1 hx with rfl | hx
      · exact h
      · exact h1 x hx
theorem split_p : ∀ (p : List Int), (∀ c ∈ p, c ≠ 58) → splitI p 58 = [p]
  | [], _ => rfl
  | c :: p, h => by
    unfold splitI
    rw [beq_eq_false_iff_ne.2 (h c List.mem_cons_self), cond_false, split_p p fun x hx => h x (List.mem_cons_of_mem _ hx)]
theorem split_pc : ∀ (p r : List Int), (∀ c ∈ p, c ≠ 58) → splitI (p ++ 58 :: r) 58 = p :: splitI r 58
  | [], r, _ => by
    show cond ((58 : Int) == 58) ([] :: splitI r 58) (match splitI r 58 with | [] => [[58]] | w :: q => (58 :: w) :: q) = [] :: splitI r 58
    rfl
  | c :: p, r, h => by
    show splitI (c :: (p ++ 58 :: r)) 58 = _
    rw [show splitI (c :: (p ++ 58 :: r)) 58 = cond (c == 58) ([] :: splitI (p ++ 58 :: r) 58) (match splitI (p ++ 58 :: r) 58 with | [] => [[c]] | w :: q => (c :: w) :: q) from rfl]
    rw [beq_eq_false_iff_ne.2 (h c List.mem_cons_self), cond_false, split_pc p r fun x hx => h x (List.mem_cons_of_mem _ hx)]
theorem digs_part : ∀ (p rest : List Int) (n : Int) (z : Nat), (∀ c ∈ p, c ≠ 58) → Stop rest → z ≤ 4 →
    ((p.all fun c => decide (0 ≤ dg c)) && decide (z + p.length ≤ 4)) = true ∧ digs (p ++ rest) n z = (p.foldl (fun n c => n * 16 + dg c) n, rest) ∨
    ((p.all fun c => decide (0 ≤ dg c)) && decide (z + p.length ≤ 4)) = false ∧ ∃ m c q, digs (p ++ rest) n z = (m, c :: q) ∧ c ≠ 58
  | [], rest, n, z, _, hr, hz => by
    refine .inl ⟨by simpa using hz, ?_⟩
    rcases hr with rfl | ⟨r, rfl⟩
    · rfl
    · show digs (58 :: r) n z = _
      unfold digs
      rfl
  | c :: p, rest, n, z, h, hr, hz => by
    have hc := h c List.mem_cons_self
    have hp : ∀ x ∈ p, x ≠ 58 := fun x hx => h x (List.mem_cons_of_mem _ hx)
    have hu : digs ((c :: p) ++ rest) n z = cond (decide (0 ≤ dg c) && decide (z < 4)) (digs (p ++ rest) (n * 16 + dg c) (z + 1)) (n, c :: (p ++ rest)) := rfl
    rw [hu, List.all_cons, List.length_cons]
    cases hd : decide (0 ≤ dg c) with
    | false => exact .inr ⟨rfl, n, c, p ++ rest, rfl, hc⟩
    | true =>
      by_cases hz4 : z < 4
      · rw [decide_eq_true hz4]
        have ih := digs_part p rest (n * 16 + dg c) (z + 1) hp hr (by omega)
        rw [show z + (p.length + 1) = z + 1 + p.length by omega]
        exact ih
      · rw [decide_eq_false hz4, decide_eq_false (show ¬ z + (p.length + 1) ≤ 4 by omega), Bool.and_false]
        exact .inr ⟨rfl, n, c, p ++ rest, rfl, hc⟩
theorem col_part (k : Nat) (b : List Int) (g : Int) (p rest : List Int) (hp : ∀ c ∈ p, c ≠ 58) (hr : Stop rest) : colM (k + 1) b g (p ++ rest) = cond (hexGB p) (tailM (colM k) (b ++ by2 (hexV p)) g rest) none := by
  cases p with
  | nil =>
    rw [hexB_nil, cond_false]
    rcases hr with rfl | ⟨r, rfl⟩
    · rfl
    · rfl
  | cons c p =>
    have hu : colM (k + 1) b g ((c :: p) ++ rest) = cond (decide (0 ≤ dg c)) (tailM (colM k) (b ++ by2 (digs (p ++ rest) (dg c) 1).1) g (digs (p ++ rest) (dg c) 1).2) none := rfl
    have hb : hexGB (c :: p) = (decide (0 ≤ dg c) && ((p.all fun c => decide (0 ≤ dg c)) && decide (1 + p.length ≤ 4))) := by
      unfold hexGB
      rw [List.length_cons, List.all_cons, decide_eq_true (show 1 ≤ p.length + 1 by omega), Bool.true_and, show p.length + 1 = 1 + p.length by omega, Bool.and_comm, Bool.and_assoc]
    have hv : hexV (c :: p) = p.foldl (fun n c => n * 16 + dg c) (dg c) := by
      unfold hexV
      rw [List.foldl_cons, show (0 : Int) * 16 + dg c = dg c by omega]
    rw [hu, hb, hv]
    cases decide (0 ≤ dg c) with
    | false => rfl
    | true =>
      rw [cond_true, Bool.true_and]
      rcases digs_part p rest (dg c) 1 (fun x hx => hp x (List.mem_cons_of_mem _ hx)) hr (by decide) with ⟨h1, h2⟩ | ⟨h1, m, d, q, h2, h3⟩
      · rw [h1, h2, cond_true]
      · rw [h1, h2, cond_false]
        show cond (d != 58 || _) none _ = none
        rw [bne_iff_ne.2 h3, Bool.true_or, cond_true]
theorem stop_split {p rest : List Int} (hp : ∀ c ∈ p, c ≠ 58) (hr : Stop rest) : (rest = [] ∧ splitI (p ++ rest) 58 = [p]) ∨ ∃ r, rest = 58 :: r ∧ splitI (p ++ rest) 58 = p :: splitI r 58 := by
  rcases hr with rfl | ⟨r, rfl⟩
  · exact .inl ⟨rfl, by rw [List.append_nil]; exact split_p p hp⟩
  · exact .inr ⟨r, rfl, split_pc p r hp⟩
theorem split_nn (r : List Int) : 1 ≤ (splitI r 58).length := by
  have := splitI_ne r 58
  cases h : splitI r 58 with
  | nil => exact absurd h this
  | cons _ _ => rw [List.length_cons]; omega
theorem col_gap : ∀ (k : Nat) (b : List Int) (g : Int) (r : List Int), r.length < k → 0 ≤ g → b.length ≤ 14 → b.length % 2 = 0 →
    colM k b g r = cond ((splitI r 58).all hexGB && decide (b.length + 2 * (splitI r 58).length ≤ 14)) (some (insZ (b ++ bytesP (splitI r 58)) g.toNat)) none
  | 0, _, _, _, h, _, _, _ => absurd h (Nat.not_lt_zero _)
  | k + 1, b, g, r, hk, hg, hb, he => by
    obtain ⟨p, rest, rfl, hp, hr⟩ := part_ex r
    rw [col_part k b g p rest hp hr]
    have hl := len2 b (hexV p)
    rcases stop_split hp hr with ⟨rfl, hs⟩ | ⟨r', rfl, hs⟩
    · rw [hs]
      show cond (hexGB p) (overM (b ++ by2 (hexV p)) g) none = _
      rw [show [p].all hexGB = hexGB p by simp]
      cases hexGB p with
      | false => rfl
      | true =>
        rw [cond_true, Bool.true_and]
        unfold overM
        rw [decide_eq_false (show ¬ g < 0 by omega), cond_false, hl]
        by_cases h16 : b.length = 14
        · rw [decide_eq_true (show 16 ≤ b.length + 2 by omega), decide_eq_false (show ¬ b.length + 2 * [p].length ≤ 14 by simp; omega)]; rfl
        · rw [decide_eq_false (show ¬ 16 ≤ b.length + 2 by omega), decide_eq_true (show b.length + 2 * [p].length ≤ 14 by simp; omega)]
          show some _ = some (insZ (b ++ (by2 (hexV p) ++ [])) g.toNat)
          rw [List.append_nil]
    · rw [hs, List.all_cons, List.length_cons]
      have hnn := split_nn r'
      cases hx : hexGB p with
      | false => rfl
      | true =>
        rw [cond_true, Bool.true_and]
        show cond ((58 : Int) != 58 || (b ++ by2 (hexV p)).length == 16) none (tail2 (colM k) (b ++ by2 (hexV p)) g r') = _
        rw [show ((58 : Int) != 58) = false from rfl, Bool.false_or, hl]
        by_cases h16 : b.length = 14
        · rw [beq_iff_eq.2 (show b.length + 2 = 16 by omega), cond_true, decide_eq_false (show ¬ b.length + 2 * ((splitI r' 58).length + 1) ≤ 14 by omega), Bool.and_false]; rfl
        · rw [beq_eq_false_iff_ne.2 (show b.length + 2 ≠ 16 by omega), cond_false]
          cases r' with
          | nil => rfl
          | cons d r2 =>
            show cond (d != 58) (colM k (b ++ by2 (hexV p)) g (d :: r2)) (cond (decide (0 ≤ g)) none _) = _
            by_cases hd : d = 58
            · subst hd
              rw [show ((58 : Int) != 58) = false from rfl, cond_false, decide_eq_true hg, cond_true]
              have : splitI (58 :: r2) 58 = [] :: splitI r2 58 := split_pc [] r2 (fun _ h => by cases h)
              rw [this, List.all_cons, hexB_nil]; rfl
            · rw [bne_iff_ne.2 hd, cond_true]
              have hlen : (p ++ 58 :: d :: r2).length = p.length + (r2.length + 2) := by rw [List.length_append]; rfl
              rw [col_gap k (b ++ by2 (hexV p)) g (d :: r2) (by simp at hlen hk ⊢; omega) hg (by omega) (by omega), hl, bytesP_cons, List.append_assoc]
              rw [show b.length + 2 * ((splitI (d :: r2) 58).length + 1) = b.length + 2 + 2 * (splitI (d :: r2) 58).length by omega]
def dcI : List Int → Option Nat
  | [] => none
  | c :: r => cond (c == 58 && r.head? == some 58) (some 0) ((dcI r).map (· + 1))
theorem dc_p : ∀ (p rest : List Int), (∀ c ∈ p, c ≠ 58) → dcI (p ++ rest) = (dcI rest).map (· + p.length)
  | [], rest, _ => by simp
  | c :: p, rest, h => by
    show cond (c == 58 && _) _ ((dcI (p ++ rest)).map (· + 1)) = _
    rw [beq_eq_false_iff_ne.2 (h c List.mem_cons_self), Bool.false_and, cond_false, dc_p p rest fun x hx => h x (List.mem_cons_of_mem _ hx), Option.map_map]
    congr 1
def partsO (r : List Int) : List (List Int) := cond (r == []) [] (splitI r 58)
def grpR (b : List Int) (r : List Int) : Option (List Int) := match dcI r with
  | none => cond ((splitI r 58).all hexGB && (b.length + 2 * (splitI r 58).length == 16)) (some (b ++ bytesP (splitI r 58))) none
  | some i => cond ((partsO (r.take i)).all hexGB && (partsO (r.drop (i + 2))).all hexGB && decide (b.length + 2 * (partsO (r.take i)).length + 2 * (partsO (r.drop (i + 2))).length ≤ 14))
      (some (insZ (b ++ bytesP (partsO (r.take i)) ++ bytesP (partsO (r.drop (i + 2)))) (b.length + 2 * (partsO (r.take i)).length))) none
theorem partsO_ne {r : List Int} (h : r ≠ []) : partsO r = splitI r 58 := by
  unfold partsO
  rw [beq_eq_false_iff_ne.2 h, cond_false]
theorem col_nogap : ∀ (k : Nat) (b : List Int) (r : List Int), r.length < k → b.length ≤ 14 → b.length % 2 = 0 → dcI r ≠ some 0 → colM k b (-1) r = grpR b r
  | 0, _, _, h, _, _, _ => absurd h (Nat.not_lt_zero _)
  | k + 1, b, r, hk, hb, he, hd0 => by
    obtain ⟨p, rest, rfl, hp, hr⟩ := part_ex r
    rw [col_part k b (-1) p rest hp hr]
    have hl := len2 b (hexV p)
    have hdc := dc_p p rest hp
    rcases stop_split hp hr with ⟨rfl, hs⟩ | ⟨r', rfl, hs⟩
    · unfold grpR
      rw [hdc]
      show _ = cond ((splitI (p ++ []) 58).all hexGB && (b.length + 2 * (splitI (p ++ []) 58).length == 16)) (some (b ++ bytesP (splitI (p ++ []) 58))) none
      rw [hs, show [p].all hexGB = hexGB p by simp]
      cases hexGB p with
      | false => rfl
      | true =>
        show overM (b ++ by2 (hexV p)) (-1) = cond (b.length + 2 * 1 == 16) (some (b ++ (by2 (hexV p) ++ []))) none
        unfold overM
        rw [hl, List.append_nil]; rfl
    · -- a colon
      have hlen : (p ++ 58 :: r').length = p.length + (r'.length + 1) := by rw [List.length_append]; rfl
      have hne : ∀ i, p.length ≤ i → (p ++ 58 :: r').take i = p ++ (58 :: r').take (i - p.length) := fun i hi => by
        rw [List.take_append, List.take_of_length_le hi]
      have hnd : ∀ i, p.length ≤ i → (p ++ 58 :: r').drop i = (58 :: r').drop (i - p.length) := fun i hi => by
        rw [List.drop_append, List.drop_of_length_le hi]; rfl
      by_cases hdd : r'.head? = some 58
      · -- two colons
        obtain ⟨r2, rfl⟩ : ∃ r2, r' = 58 :: r2 := by
          cases r' with
          | nil => cases hdd
          | cons x r2 => injection hdd with hdd; exact ⟨r2, by rw [hdd]⟩
        have hdc0 : dcI (58 :: 58 :: r2) = some 0 := rfl
        rw [hdc0] at hdc
        have hdc : dcI (p ++ 58 :: 58 :: r2) = some p.length := by rw [hdc]; simp
        have hpne : p ≠ [] := fun e => hd0 (by rw [hdc, e]; rfl)
        unfold grpR
        rw [hdc]
        show _ = cond ((partsO ((p ++ 58 :: 58 :: r2).take p.length)).all hexGB && (partsO ((p ++ 58 :: 58 :: r2).drop (p.length + 2))).all hexGB && decide (b.length + 2 * (partsO ((p ++ 58 :: 58 :: r2).take p.length)).length + 2 * (partsO ((p ++ 58 :: 58 :: r2).drop (p.length + 2))).length ≤ 14))
          (some (insZ (b ++ bytesP (partsO ((p ++ 58 :: 58 :: r2).take p.length)) ++ bytesP (partsO ((p ++ 58 :: 58 :: r2).drop (p.length + 2)))) (b.length + 2 * (partsO ((p ++ 58 :: 58 :: r2).take p.length)).length))) none
        rw [List.take_left, hnd (p.length + 2) (by omega), show p.length + 2 - p.length = 2 by omega, show (58 :: 58 :: r2 : List Int).drop 2 = r2 from rfl, partsO_ne hpne, split_p p hp]
        rw [show [p].all hexGB = hexGB p by simp]
        cases hexGB p with
        | false => rfl
        | true =>
          rw [cond_true, Bool.true_and]
          show cond ((58 : Int) != 58 || (b ++ by2 (hexV p)).length == 16) none (cond ((58 : Int) != 58) (colM k (b ++ by2 (hexV p)) (-1) (58 :: r2)) (cond (decide ((0 : Int) ≤ -1)) none (tail3 (colM k) (b ++ by2 (hexV p)) r2))) = _
          rw [show ((58 : Int) != 58) = false from rfl, Bool.false_or, cond_false, show decide ((0 : Int) ≤ -1) = false from rfl, cond_false, hl]
          show cond (b.length + 2 == 16) none _ = cond ((partsO r2).all hexGB && decide (b.length + 2 * 1 + 2 * (partsO r2).length ≤ 14)) (some (insZ (b ++ (by2 (hexV p) ++ []) ++ bytesP (partsO r2)) (b.length + 2 * 1))) none
          rw [List.append_nil]
          by_cases h16 : b.length = 14
          · rw [beq_iff_eq.2 (show b.length + 2 = 16 by omega), cond_true, decide_eq_false (show ¬ b.length + 2 * 1 + 2 * (partsO r2).length ≤ 14 by omega), Bool.and_false]; rfl
          · rw [beq_eq_false_iff_ne.2 (show b.length + 2 ≠ 16 by omega), cond_false]
            cases r2 with
            | nil =>
              show overM (b ++ by2 (hexV p)) ((b ++ by2 (hexV p)).length : Int) = cond (true && decide (b.length + 2 * 1 + 2 * 0 ≤ 14)) (some (insZ (b ++ by2 (hexV p) ++ []) (b.length + 2 * 1))) none
              unfold overM
              rw [hl, List.append_nil, decide_eq_false (show ¬ ((b.length + 2 : Nat) : Int) < 0 by omega), cond_false, decide_eq_false (show ¬ 16 ≤ b.length + 2 by omega), cond_false, decide_eq_true (show b.length + 2 * 1 + 2 * 0 ≤ 14 by omega), Int.toNat_natCast]; rfl
            | cons e r3 =>
              show colM k (b ++ by2 (hexV p)) ((b ++ by2 (hexV p)).length : Int) (e :: r3) = _
              have hkk : (e :: r3).length < k := by rw [hlen] at hk; simp at hk ⊢; omega
              rw [col_gap k _ _ _ hkk (by omega) (by omega) (by omega), partsO_ne (by simp), hl, Int.toNat_natCast, show b.length + 2 * 1 = b.length + 2 by omega]
      · -- one colon
        have hdc1 : dcI (58 :: r') = (dcI r').map (· + 1) := by
          show cond ((58 : Int) == 58 && r'.head? == some 58) _ _ = _
          rw [beq_eq_false_iff_ne.2 hdd, Bool.and_false, cond_false]
        rw [hdc1] at hdc
        have hr'0 : dcI r' ≠ some 0 := fun e => by
          cases r' with
          | nil => cases e
          | cons x r2 =>
            have e' : cond (x == 58 && r2.head? == some 58) (some 0) ((dcI r2).map (· + 1)) = some 0 := e
            cases hx : x == 58 with
            | true => exact hdd (by rw [beq_iff_eq.1 hx]; rfl)
            | false =>
              rw [hx, Bool.false_and, cond_false] at e'
              obtain ⟨q, _, hq⟩ := Option.map_eq_some_iff.1 e'
              omega
        have hnn := split_nn r'
        unfold grpR
        rw [hdc]
        cases hdr : dcI r' with
        | none =>
          show _ = cond ((splitI (p ++ 58 :: r') 58).all hexGB && (b.length + 2 * (splitI (p ++ 58 :: r') 58).length == 16)) (some (b ++ bytesP (splitI (p ++ 58 :: r') 58))) none
          rw [hs, List.all_cons, List.length_cons]
          cases hexGB p with
          | false => rfl
          | true =>
            rw [cond_true, Bool.true_and]
            show cond ((58 : Int) != 58 || (b ++ by2 (hexV p)).length == 16) none (tail2 (colM k) (b ++ by2 (hexV p)) (-1) r') = _
            rw [show ((58 : Int) != 58) = false from rfl, Bool.false_or, hl]
            by_cases h16 : b.length = 14
            · rw [beq_iff_eq.2 (show b.length + 2 = 16 by omega), cond_true, beq_eq_false_iff_ne.2 (show b.length + 2 * ((splitI r' 58).length + 1) ≠ 16 by omega), Bool.and_false]; rfl
            · rw [beq_eq_false_iff_ne.2 (show b.length + 2 ≠ 16 by omega), cond_false]
              cases r' with
              | nil => rfl
              | cons d r2 =>
                have hd : d ≠ 58 := fun e => hdd (by rw [e]; rfl)
                show cond (d != 58) (colM k (b ++ by2 (hexV p)) (-1) (d :: r2)) _ = _
                rw [bne_iff_ne.2 hd, cond_true]
                have hkk : (d :: r2).length < k := by rw [hlen] at hk; omega
                rw [col_nogap k (b ++ by2 (hexV p)) (d :: r2) hkk (by omega) (by omega) hr'0]
                unfold grpR
                rw [hdr]
                show cond (_ && ((b ++ by2 (hexV p)).length + _ == 16)) _ _ = _
                rw [hl, bytesP_cons, List.append_assoc, show b.length + 2 * ((splitI (d :: r2) 58).length + 1) = b.length + 2 + 2 * (splitI (d :: r2) 58).length by omega]
        | some i =>
          have ei : ((some i).map (· + 1)).map (· + p.length) = some (i + 1 + p.length) := rfl
          rw [ei]
          show _ = cond ((partsO ((p ++ 58 :: r').take (i + 1 + p.length))).all hexGB && (partsO ((p ++ 58 :: r').drop (i + 1 + p.length + 2))).all hexGB && decide (b.length + 2 * (partsO ((p ++ 58 :: r').take (i + 1 + p.length))).length + 2 * (partsO ((p ++ 58 :: r').drop (i + 1 + p.length + 2))).length ≤ 14))
            (some (insZ (b ++ bytesP (partsO ((p ++ 58 :: r').take (i + 1 + p.length))) ++ bytesP (partsO ((p ++ 58 :: r').drop (i + 1 + p.length + 2)))) (b.length + 2 * (partsO ((p ++ 58 :: r').take (i + 1 + p.length))).length))) none
          rw [hne (i + 1 + p.length) (by omega), hnd (i + 1 + p.length + 2) (by omega), show i + 1 + p.length - p.length = i + 1 by omega, show i + 1 + p.length + 2 - p.length = (i + 2) + 1 by omega]
          rw [show (58 :: r' : List Int).take (i + 1) = 58 :: r'.take i from rfl, show (58 :: r' : List Int).drop (i + 2 + 1) = r'.drop (i + 2) from rfl]
          rw [partsO_ne (r := p ++ 58 :: r'.take i) (by simp), split_pc p _ hp, List.all_cons, List.length_cons]
          have hi0 : i ≠ 0 := fun e => hr'0 (by rw [hdr, e])
          cases r' with
          | nil => cases hdr
          | cons d r2 =>
            have htk : (d :: r2).take i ≠ [] := by
              obtain ⟨j, rfl⟩ : ∃ j, i = j + 1 := ⟨i - 1, by omega⟩
              simp
            have hnn2 := split_nn ((d :: r2).take i)
            cases hexGB p with
            | false => rfl
            | true =>
              rw [cond_true, Bool.true_and]
              show cond ((58 : Int) != 58 || (b ++ by2 (hexV p)).length == 16) none (tail2 (colM k) (b ++ by2 (hexV p)) (-1) (d :: r2)) = _
              rw [show ((58 : Int) != 58) = false from rfl, Bool.false_or, hl]
              by_cases h16 : b.length = 14
              · rw [beq_iff_eq.2 (show b.length + 2 = 16 by omega), cond_true, decide_eq_false (by omega), Bool.and_false]; rfl
              · rw [beq_eq_false_iff_ne.2 (show b.length + 2 ≠ 16 by omega), cond_false]
                have hd : d ≠ 58 := fun e => hdd (by rw [e]; rfl)
                show cond (d != 58) (colM k (b ++ by2 (hexV p)) (-1) (d :: r2)) _ = _
                rw [bne_iff_ne.2 hd, cond_true]
                have hkk : (d :: r2).length < k := by rw [hlen] at hk; omega
                rw [col_nogap k (b ++ by2 (hexV p)) (d :: r2) hkk (by omega) (by omega) hr'0]
                unfold grpR
                rw [hdr]
                show cond ((partsO ((d :: r2).take i)).all hexGB && (partsO ((d :: r2).drop (i + 2))).all hexGB && decide ((b ++ by2 (hexV p)).length + 2 * (partsO ((d :: r2).take i)).length + 2 * (partsO ((d :: r2).drop (i + 2))).length ≤ 14))
                  (some (insZ (b ++ by2 (hexV p) ++ bytesP (partsO ((d :: r2).take i)) ++ bytesP (partsO ((d :: r2).drop (i + 2)))) ((b ++ by2 (hexV p)).length + 2 * (partsO ((d :: r2).take i)).length))) none = _
                rw [partsO_ne htk, hl, bytesP_cons, ← List.append_assoc b, show b.length + 2 * ((splitI ((d :: r2).take i) 58).length + 1) = b.length + 2 + 2 * (splitI ((d :: r2).take i) 58).length by omega]
theorem colR_eq (s : List Int) : colR s = grpR [] s := by
  unfold colR
  match s with
  | [] => rfl
  | [x] =>
    rw [show (([x] : List Int).take 2 == [58, 58]) = false from beq_eq_false_iff_ne.2 fun e => by simp at e, cond_false]
    have h0 : dcI [x] ≠ some 0 := fun e => by
      have e' : cond (x == 58 && false) (some 0) ((dcI []).map (· + 1)) = some 0 := e
      rw [Bool.and_false] at e'
      cases e'
    exact col_nogap 2 [] [x] (by simp) (by simp) rfl h0
  | x :: y :: r =>
    have htk : (x :: y :: r).take 2 = [x, y] := rfl
    have hdp : (x :: y :: r).drop 2 = r := rfl
    rw [htk, hdp]
    by_cases hxy : x = 58 ∧ y = 58
    · obtain ⟨rfl, rfl⟩ := hxy
      rw [show (([58, 58] : List Int) == [58, 58]) = true from rfl, cond_true]
      have hg : grpR [] (58 :: 58 :: r) = cond (true && (partsO r).all hexGB && decide (0 + 2 * 0 + 2 * (partsO r).length ≤ 14)) (some (insZ ([] ++ [] ++ bytesP (partsO r)) (0 + 2 * 0))) none := rfl
      rw [hg]
      cases r with
      | nil => rfl
      | cons e r3 =>
        rw [show ((e :: r3) == ([] : List Int)) = false from rfl, cond_false, col_gap _ [] 0 (e :: r3) (by simp) (by omega) (by simp) rfl, partsO_ne (by simp)]
        rw [Bool.true_and, List.nil_append, List.nil_append]
        rfl
    · have hne : (([x, y] : List Int) == [58, 58]) = false := beq_eq_false_iff_ne.2 fun e => hxy (by injection e with e1 e2; injection e2 with e2; exact ⟨e1, e2⟩)
      rw [hne, cond_false]
      refine col_nogap _ [] _ (Nat.lt_succ_self _) (by simp) rfl fun e => ?_
      have e' : cond (x == 58 && (some y == some 58)) (some 0) ((dcI (y :: r)).map (· + 1)) = some 0 := e
      cases hb : (x == 58 && (some y == some 58)) with
      | true =>
        rw [Bool.and_eq_true, beq_iff_eq, beq_iff_eq] at hb
        exact hxy ⟨hb.1, by injection hb.2⟩
      | false =>
        rw [hb, cond_false] at e'
        obtain ⟨q, _, hq⟩ := Option.map_eq_some_iff.1 e'
        omega
theorem dc_lt : ∀ {s : List Int} {i : Nat}, dcI s = some i → i + 2 ≤ s.length
  | [], _, h => by cases h
  | c :: r, i, h => by
    have hu : cond (c == 58 && r.head? == some 58) (some 0) ((dcI r).map (· + 1)) = some i := h
    cases hb : (c == 58 && r.head? == some 58) with
    | true =>
      rw [hb, cond_true] at hu
      injection hu with hu
      rw [Bool.and_eq_true, beq_iff_eq, beq_iff_eq] at hb
      cases r with
      | nil => cases hb.2
      | cons d r => rw [← hu]; simp
    | false =>
      rw [hb, cond_false] at hu
      obtain ⟨j, hj, rfl⟩ := Option.map_eq_some_iff.1 hu
      have := dc_lt hj
      simp
      omega
def preM : List Int := [0, 0, 0, 0, 0, 0, 0, 0, 0, 0, 255, 255]
def plainR (x : List Int) : List Int := cond (decide (12 ≤ x.length) && (x.take 12 == preM)) (x.drop 12) x
theorem Plain_eq (s : List Int) (hs : s.length ≤ 1000000) : F_addr_Plain s = some (plainR s) := by
  have hp := prefix_lit s preM hs
  unfold F_strings_HasPrefix at hp
  have hp2 : F_internal_stringslite_HasPrefix s preM = some (decide (preM.length ≤ s.length) && (s.take preM.length == preM)) := by
    cases hq : F_internal_stringslite_HasPrefix s preM with
    | none => rw [hq] at hp; cases hp
    | some b => rw [hq] at hp; exact hp
  unfold F_addr_Plain F_strings_TrimPrefix F_internal_stringslite_TrimPrefix
  show (((F_internal_stringslite_HasPrefix s preM).bind _).bind _).bind _ = _
  rw [hp2, Option.bind_some]
  unfold plainR
  have e12 : preM.length = 12 := rfl
  rw [e12]
  cases hb : (decide (12 ≤ s.length) && (s.take 12 == preM)) with
  | false => rfl
  | true =>
    rw [Bool.and_eq_true, decide_eq_true_iff] at hb
    rw [cond_true, cond_true]
    have h := cutI_nat (s := s) (a := 12) (b := s.length) hb.1 (by omega)
    rw [List.take_length] at h
    have h : cutI s (([0, 0, 0, 0, 0, 0, 0, 0, 0, 0, 255, 255] : List Int).length : Int) (s.length : Int) = some (s.drop 12) := h
    rw [h]; rfl
def sumPa (l : List (List Int)) : Nat := l.foldr (fun p n => p.length + 1 + n) 0
theorem split_sum : ∀ (t : List Int) (c : Int), sumPa (splitI t c) = t.length + 1
  | [], _ => rfl
  | x :: t, c => by
    have ih := split_sum t c
    unfold splitI
    cases x == c with
    | true =>
      show 0 + 1 + sumPa (splitI t c) = _
      rw [ih, List.length_cons]; omega
    | false =>
      rw [cond_false]
      have hne := splitI_ne t c
      cases hq : splitI t c with
      | nil => exact absurd hq hne
      | cons w q =>
        rw [hq] at ih
        have ih : w.length + 1 + sumPa q = t.length + 1 := ih
        show (x :: w).length + 1 + sumPa q = _
        rw [List.length_cons, List.length_cons]; omega
theorem sum_hex : ∀ l : List (List Int), l.all hexGB = true → sumPa l ≤ 5 * l.length
  | [], _ => by simp [sumPa]
  | p :: l, h => by
    rw [List.all_cons, Bool.and_eq_true] at h
    have ih := sum_hex l h.2
    have h4 : p.length ≤ 4 := by
      have := h.1
      unfold hexGB at this
      simp only [Bool.and_eq_true, decide_eq_true_eq] at this
      exact this.1.2
    show p.length + 1 + sumPa l ≤ 5 * (l.length + 1)
    omega
theorem parts_hex (t : List Int) (h : (partsO t).all hexGB = true) : t.length ≤ 5 * (partsO t).length := by
  by_cases h0 : t = []
  · subst h0; simp
  · rw [partsO_ne h0] at h ⊢
    have h1 := sum_hex _ h
    rw [split_sum] at h1
    omega
theorem grp_16 {s x : List Int} (h : grpR [] s = some x) : x.length = 16 ∧ s.length ≤ 50 := by
  unfold grpR at h
  split at h
  · cases hc : ((splitI s 58).all hexGB && (([] : List Int).length + 2 * (splitI s 58).length == 16)) with
    | false => rw [hc] at h; cases h
    | true =>
      rw [hc, cond_true] at h
      injection h with h
      rw [Bool.and_eq_true, beq_iff_eq] at hc
      have h2 : 0 + 2 * (splitI s 58).length = 16 := hc.2
      have h1 := sum_hex _ hc.1
      rw [split_sum] at h1
      refine ⟨?_, by omega⟩
      rw [← h, List.nil_append, bytesP_len]
      omega
  · rename_i i hd
    have hi := dc_lt hd
    cases hc : ((partsO (s.take i)).all hexGB && (partsO (s.drop (i + 2))).all hexGB && decide (([] : List Int).length + 2 * (partsO (s.take i)).length + 2 * (partsO (s.drop (i + 2))).length ≤ 14)) with
    | false => rw [hc] at h; cases h
    | true =>
      rw [hc, cond_true] at h
      injection h with h
      simp only [Bool.and_eq_true, decide_eq_true_eq] at hc
      have h2 : 0 + 2 * (partsO (s.take i)).length + 2 * (partsO (s.drop (i + 2))).length ≤ 14 := hc.2
      have h3 := parts_hex _ hc.1.1
      have h4 := parts_hex _ hc.1.2
      rw [List.length_take] at h3
      rw [List.length_drop] at h4
      have e1 : ([] ++ bytesP (partsO (s.take i)) ++ bytesP (partsO (s.drop (i + 2)))).length = 2 * (partsO (s.take i)).length + 2 * (partsO (s.drop (i + 2))).length := by
        rw [List.nil_append, List.length_append, bytesP_len, bytesP_len]
      refine ⟨?_, by omega⟩
      rw [← h]
      exact insZ_len (by rw [e1]; show 0 + _ ≤ _; omega) (by rw [e1]; omega)
noncomputable def parseR (s : List Int) : List Int × Int := cond (fourR s).2 ((fourR s).1, 0) (match grpR [] s with | some x => (plainR x, 0) | none => ([], 2))
theorem Parse_eq (s : List Int) (hs : s.length ≤ 1000000) : F_addr_Parse s = some (parseR s) := by
  unfold F_addr_Parse parseR
  rw [dotted_eq s hs, Option.bind_some]
  cases h4 : (fourR s).2 with
  | true => rfl
  | false =>
    rw [Bool.not_false, cond_true, cond_false]
    have hr := coloned_rel s hs
    rw [colR_eq] at hr
    cases hg : grpR [] s with
    | some x =>
      rw [hg] at hr
      have hr : F_addr_coloned s = some (x, true) := hr
      rw [hr, Option.bind_some, Plain_eq x (by have := (grp_16 hg).1; omega)]
      rfl
    | none =>
      rw [hg] at hr
      obtain ⟨v, hv, hl⟩ := hr
      rw [hv, Option.bind_some, Plain_eq v (by omega)]
      rfl
def isB (x : Int) : Prop := 0 ≤ x ∧ x < 256
def keepB (x : Int) (k : Nat) : Int := x / 2 ^ (8 - k) * 2 ^ (8 - k)
def nbits (b : Int) (i : Nat) : Nat := min (b - 8 * i).toNat 8
def keptL (b : Int) : Nat → List Int → List Int
  | _, [] => []
  | i, x :: r => keepB x (nbits b i) :: keptL b (i + 1) r
theorem mask_all : (List.range 256).all (fun x => (List.range 9).all fun k => bits .and .u8 (x : Int) (IntKind.u8.wrap (Int.fdiv 65280 (2 ^ (min k 64)))) == keepB x k) = true := by kernel_rfl
theorem mask_eq {x : Int} (hx : isB x) {k : Nat} (hk : k ≤ 8) : bits .and .u8 x (IntKind.u8.wrap (Int.fdiv 65280 (2 ^ (min k 64)))) = keepB x k := by
  have h := List.all_eq_true.1 (List.all_eq_true.1 mask_all x.toNat (List.mem_range.2 (by obtain ⟨_, _⟩ := hx; omega))) k (List.mem_range.2 (by omega))
  have e : ((x.toNat : Nat) : Int) = x := Int.toNat_of_nonneg hx.1
  rw [e] at h
  exact beq_iff_eq.1 h
theorem nb_eq (b : Int) (i : Nat) (hb : -1000000 ≤ b ∧ b ≤ 1000000) (hi : i ≤ 1000000) : (minI (maxI (IntKind.i64.wrap (b - (IntKind.i64.wrap (8 * (i : Int))))) 0) 8) = (nbits b i : Int) := by
  rw [wrap_in (x := 8 * (i : Int)) (by omega) (by omega), wrap_in (by omega) (by omega)]
  unfold minI maxI nbits
  by_cases h : (0 : Int) > b - 8 * i
  · rw [decide_eq_true h, cond_true, decide_eq_false (by omega), cond_false]; omega
  · rw [decide_eq_false h, cond_false]
    by_cases h8 : (8 : Int) < b - 8 * i
    · rw [decide_eq_true h8, cond_true]; omega
    · rw [decide_eq_false h8, cond_false]; omega
theorem set_mid (pre : List Int) (x v : Int) (r : List Int) : (pre ++ x :: r).set pre.length v = pre ++ v :: r := by
  rw [List.set_append_right _ _ (Nat.le_refl _), Nat.sub_self]; rfl
theorem kept_loop (s : List Int) (b : Int) (hb : -1000000 ≤ b ∧ b ≤ 1000000) (hs : s.length ≤ 1000000) : ∀ (r pre : List Int), s.length = pre.length + r.length → (∀ x ∈ r, isB x) → loopC (F_addr_kept_L4 s b) ((pre.length : Int), pre ++ r) = some (.inr (pre ++ keptL b pre.length r))
  | [], pre, hl, _ => by
    refine loop_inl ?_
    unfold F_addr_kept_L4
    dsimp only
    rw [decide_eq_false (by rw [hl]; simp), cond_false]
    rfl
  | x :: r, pre, hl, hr => by
    have hl' : s.length = pre.length + (r.length + 1) := hl
    have ih := kept_loop s b hb hs r (pre ++ [keepB x (nbits b pre.length)]) (by rw [List.length_append]; simp; omega) (fun y hy => hr y (List.mem_cons_of_mem _ hy))
    refine loop_inr (s' := (((pre ++ [keepB x (nbits b pre.length)]).length : Int), (pre ++ [keepB x (nbits b pre.length)]) ++ r)) ?_ (ih.trans ?_)
    · unfold F_addr_kept_L4 chk
      dsimp only
      have h1 : (decide ((0 : Int) ≤ (pre.length : Int)) && decide ((pre.length : Int) < (s.length : Int))) = true := by simp; omega
      have h2 : decide ((pre.length : Int) < (s.length : Int)) = true := decide_eq_true (by omega)
      have hg : getI (pre ++ x :: r) (pre.length : Int) = some x := getI_nat (by simp)
      have h3 : decide ((pre.length : Int) < ((pre ++ x :: r).length : Int)) = true := decide_eq_true (by rw [List.length_append, List.length_cons]; omega)
      rw [h1, h2, cond_true, cond_true, hg, Option.bind_some, nb_eq b pre.length hb (by omega), decide_eq_true (show (0 : Int) ≤ (nbits b pre.length : Int) by omega), cond_true, cond_true, h3, cond_true]
      rw [Int.toNat_natCast, Int.toNat_natCast, mask_eq (hr x List.mem_cons_self) (show nbits b pre.length ≤ 8 by unfold nbits; omega), set_mid, wrap_in (by omega) (by omega)]
      have e : ((pre ++ [keepB x (nbits b pre.length)]).length : Int) = (pre.length : Int) + 1 := by rw [List.length_append]; simp
      rw [e, List.append_assoc]; rfl
    · rw [show (pre ++ [keepB x (nbits b pre.length)]).length = pre.length + 1 by simp, List.append_assoc]
      rfl
theorem keptL_len (b : Int) : ∀ (r : List Int) (i : Nat), (keptL b i r).length = r.length
  | [], _ => rfl
  | _ :: r, i => by show (keptL b (i + 1) r).length + 1 = _; rw [keptL_len b r]; rfl
theorem kept_eq (s : List Int) (b : Int) (hb : -1000000 ≤ b ∧ b ≤ 1000000) (hs : s.length ≤ 1000000) (hB : ∀ x ∈ s, isB x) : F_addr_kept s b = some (keptL b 0 s) := by
  have h : loopC (F_addr_kept_L4 s b) (0, s) = some (.inr (keptL b 0 s)) := kept_loop s b hb hs s [] (by simp) hB
  unfold F_addr_kept
  rw [join_inr (s := keptL b 0 s) h]
  unfold F_addr_kept_J2
  dsimp only
  have hl := keptL_len b s 0
  rw [show Nat.ble s.length (List.length (keptL b 0 s)) = true from Nat.ble_eq_true_of_le (Nat.le_of_eq hl.symm)]
  unfold chk
  rw [cond_true, List.take_of_length_le (Nat.le_of_eq hl)]
def lw (c : Int) : Int := if 65 ≤ c ∧ c ≤ 90 then c + 32 else c
def okHc (c : Int) : Bool := (decide (97 ≤ c) && decide (c ≤ 122)) || (decide (48 ≤ c) && decide (c ≤ 57)) || c == 45 || c == 95
structure Pre (w : List Int) (out : List Int) : Prop where
  len : w.length ≤ 63
  head : w.head? ≠ some 45
  ok : w.all okHc = true
  last : w ≠ [] → out.getLast? = w.getLast?
theorem number_dgs (n : Nat) (lo hi : Int) (h : n < 1000000000000000000) : F_conf_number (dgs n) lo hi = some ((n : Int), decide ((n : Int) ≥ lo) && decide ((n : Int) ≤ hi)) := by
  have hl := dgs_len 18 n (by omega)
  unfold F_conf_number
  rw [show F_strconv_Atoi (dgs n) = some ((n : Int), false) by
    unfold F_strconv_Atoi
    rw [Nat.ble_eq_true_of_le (by omega), atoi_dgs n (by omega)]; rfl, Option.bind_some]
  rw [show notB ((n : Int), false).2 = true from rfl, cond_true]
  unfold F_strconv_Itoa
  rw [Option.bind_some, itoa_dgs, beq_self_eq_true, Bool.true_and]
theorem split_w (w r : List Int) (c : Int) (h : ∀ x ∈ w, x ≠ c) : splitI (w ++ c :: r) c = w :: splitI r c := by
  induction w with
  | nil =>
    show cond (c == c) _ _ = _
    rw [beq_self_eq_true]; rfl
  | cons x w ih =>
    show cond (x == c) _ (match splitI (w ++ c :: r) c with | [] => [[x]] | w :: r => (x :: w) :: r) = _
    rw [beq_eq_false_iff_ne.2 (h x (by simp)), cond_false, ih fun y hy => h y (by simp [hy])]
theorem split_e (w : List Int) (c : Int) (h : ∀ x ∈ w, x ≠ c) : splitI w c = [w] := by
  induction w with
  | nil => rfl
  | cons x w ih =>
    show cond (x == c) _ (match splitI w c with | [] => [[x]] | w :: r => (x :: w) :: r) = _
    rw [beq_eq_false_iff_ne.2 (h x (by simp)), cond_false, ih fun y hy => h y (by simp [hy])]
theorem dig_ge {n : Nat} {c : Int} (h : c ∈ dgs n) : 48 ≤ c ∧ c ≤ 57 := dig_of (List.all_eq_true.1 (dgs_spec (n + 1) n (by omega)).1 c h)
theorem dgs_inj {a b : Nat} (h : dgs a = dgs b) : a = b := by
  have h1 := (dgs_spec (a + 1) a (by omega)).2.1
  have h2 := (dgs_spec (b + 1) b (by omega)).2.1
  rw [h] at h1
  omega
theorem pat_star : F_conf_pattern [42] = some (false, 0, [], [], 0, 0, 0, true) := rfl
abbrev tenN : List Int := [49, 48, 46, 48, 46, 48, 46, 48, 47, 56]
theorem net_ten : F_addr_ParseNet tenN = some ([10, 0, 0, 0], 8, 0) := by
  unfold F_addr_ParseNet
  rw [show F_strings_Cut tenN [47] = some ([49, 48, 46, 48, 46, 48, 46, 48], [56], true) by kernel_rfl, Option.bind_some, Parse_eq _ (by decide)]
  rw [show parseR [49, 48, 46, 48, 46, 48, 46, 48] = ([10, 0, 0, 0], 0) by
    unfold parseR
    rw [show (fourR [49, 48, 46, 48, 46, 48, 46, 48]).2 = true by kernel_rfl, cond_true]
    kernel_rfl, Option.bind_some]
  rw [show ((([10, 0, 0, 0] : List Int), (0 : Int)).2 != 0) = false by kernel_rfl, cond_false, cond_true]
  rw [show F_addr_decimal [56] (IntKind.i64.wrap (8 * (([10, 0, 0, 0] : List Int).length : Int))) = some (8, true) by kernel_rfl, Option.bind_some]
  rw [show (!((8 : Int), true).2) = false from rfl, cond_false, kept_eq [10, 0, 0, 0] 8 (by omega) (by decide) (fun x hx => by simp at hx; unfold isB; omega), Option.bind_some]
  kernel_rfl
theorem pat_ten : F_conf_pattern tenN = some (false, 3, [], [10, 0, 0, 0], 8, 0, 0, true) := by
  unfold F_conf_pattern
  rw [show (tenN == ([42] : List Int)) = false by kernel_rfl, cond_false, show F_strings_CutPrefix tenN [46] = some (tenN, false) by kernel_rfl, Option.bind_some, cond_false, net_ten, Option.bind_some]
  rfl
theorem usAt_none : ∀ (us : List UserD) (s : List Int), (∀ u ∈ us, u.1 ≠ s) → usAt us s = -1
  | [], s, _ => rfl
  | u :: us, s, h => by
    show cond (u.1 == s) 0 (cond (decide (usAt us s = -1)) (-1) (usAt us s + 1)) = -1
    rw [beq_eq_false_iff_ne.2 (h u (by simp)), usAt_none us s fun v hv => h v (by simp [hv])]
    rfl
theorem usAt_some : ∀ (us : List UserD) (k : Nat) (u : UserD), us[k]? = some u → (∀ (j : Nat) (v : UserD), j < k → us[j]? = some v → v.1 ≠ u.1) → usAt us u.1 = k
  | [], k, u, h, _ => by simp at h
  | v :: us, 0, u, h, _ => by
    simp at h
    subst h
    show cond (v.1 == v.1) 0 _ = _
    rw [beq_self_eq_true]; rfl
  | v :: us, k + 1, u, h, h2 => by
    show cond (v.1 == u.1) 0 (cond (decide (usAt us u.1 = -1)) (-1) (usAt us u.1 + 1)) = _
    rw [beq_eq_false_iff_ne.2 (h2 0 v (by omega) rfl), cond_false, usAt_some us k u (by simpa using h) fun j w hj hw => h2 (j + 1) w (by omega) (by simpa using hw)]
    rw [decide_eq_false (by omega), cond_false]
    omega
theorem itoa_neg (n : Nat) (h : 1 ≤ n) : itoaI (-(n : Int)) = 45 :: dgs n := by
  unfold itoaI dgs
  rw [Lib.itoa_neg n h]; rfl
theorem itoa_ln (n : Int) (h1 : -9223372036854775808 ≤ n) (h2 : n ≤ 9223372036854775807) : (itoaI n).length ≤ 21 := by
  unfold itoaI
  rw [List.length_map]
  exact Lib.itoa_length_le n h1 h2
theorem toB_neg (n : Nat) : toB (45 :: dgs n) = 45 :: Lib.decDigits n := by
  show (45 : Int).toNat.toUInt8 :: toB (dgs n) = _
  rw [toB_dgs]; rfl
theorem atoi_neg (n : Nat) (h1 : 1 ≤ n) (h : n ≤ 9223372036854775808) : atoiP (45 :: dgs n) = (-(n : Int), false) := by
  unfold atoiP
  rw [toB_neg]
  obtain ⟨c, r, e1, e2, e3⟩ := dec_cons n
  have hp := parse_dec (n + 1) n (by omega) (by omega)
  have : Lib.atoiAll (45 :: Lib.decDigits n) = .ok (-(n : Int)) := by
    unfold Lib.atoiAll
    dsimp only
    rw [if_pos (.inr (by decide))]
    unfold Lib.parseMag
    rw [if_neg (by rw [e1]; simp), hp]
    dsimp only
    rw [if_neg (by intro q; exact q.1 (by decide)), if_neg (by omega), if_pos (by decide)]
  rw [this]
theorem atoi_itoa (z : Int) (h1 : -9223372036854775808 ≤ z) (h2 : z ≤ 9223372036854775807) : atoiP (itoaI z) = (z, false) := by
  rcases Int.lt_or_le z 0 with h | h
  · obtain ⟨n, rfl⟩ : ∃ n : Nat, z = -(n : Int) := ⟨z.natAbs, by omega⟩
    rw [itoa_neg n (by omega)]
    exact atoi_neg n (by omega) (by omega)
  · obtain ⟨n, rfl⟩ : ∃ n : Nat, z = (n : Int) := ⟨z.toNat, by omega⟩
    rw [itoa_dgs]
    exact atoi_dgs n (by omega)
theorem number_itoa (z lo hi : Int) (h1 : -9223372036854775808 ≤ z) (h2 : z ≤ 9223372036854775807) : F_conf_number (itoaI z) lo hi = some (z, decide (z ≥ lo) && decide (z ≤ hi)) := by
  have hl := itoa_ln z h1 h2
  unfold F_conf_number
  rw [show F_strconv_Atoi (itoaI z) = some (z, false) by
    unfold F_strconv_Atoi
    rw [Nat.ble_eq_true_of_le (by omega), atoi_itoa z h1 h2]; rfl, Option.bind_some]
  rw [show notB (z, false).2 = true from rfl, cond_true]
  unfold F_strconv_Itoa
  rw [Option.bind_some, beq_self_eq_true, Bool.true_and]
theorem itoa_sign (z : Int) (c : Int) (h : c ∈ itoaI z) : (48 ≤ c ∧ c ≤ 57) ∨ c = 45 := by
  rcases Int.lt_or_le z 0 with hz | hz
  · obtain ⟨n, rfl⟩ : ∃ n : Nat, z = -(n : Int) := ⟨z.natAbs, by omega⟩
    rw [itoa_neg n (by omega)] at h
    rcases List.mem_cons.1 h with rfl | h
    · exact .inr rfl
    · exact .inl (dig_ge h)
  · obtain ⟨n, rfl⟩ : ∃ n : Nat, z = (n : Int) := ⟨z.toNat, by omega⟩
    rw [itoa_dgs] at h
    exact .inl (dig_ge h)
def hexT (l : List Int) : List Int := (hexB l).map byteI
def hx2 (x : Int) : List Int := (hex2 x).map byteI
theorem chex_eq {l : List Int} (h : l.length ≤ 1000000) : F_conf_Hex l = some (hexT l) := by
  unfold F_conf_Hex hexT
  rw [Nat.ble_eq_true_of_le (by omega)]; rfl
theorem hexK_flat (l : List Int) : ∀ k, k ≤ l.length → hexK l k = (l.take k).flatMap hex2
  | 0, _ => by simp [hexK]
  | k + 1, h => by
    show hexK l k ++ hex2 (l.getD k 0) = _
    rw [hexK_flat l k (by omega), List.take_add_one, List.flatMap_append]
    have hk : l[k]? = some l[k] := List.getElem?_eq_getElem (by omega)
    rw [hk, List.getD_eq_getElem?_getD, hk]
    simp
theorem hexT_flat (l : List Int) : hexT l = l.flatMap hx2 := by
  unfold hexT hexB
  rw [hexK_flat l l.length (Nat.le_refl _), List.take_length, List.map_flatMap]
  rfl
theorem hexT_app (a b : List Int) : hexT (a ++ b) = hexT a ++ hexT b := by
  rw [hexT_flat, hexT_flat, hexT_flat, List.flatMap_append]
theorem hexT_cons (x : Int) (b : List Int) : hexT (x :: b) = hx2 x ++ hexT b := by
  rw [hexT_flat, hexT_flat]; rfl
theorem hexT_ln (l : List Int) : (hexT l).length = 2 * l.length := by
  unfold hexT hexB
  rw [List.length_map, hexK_len]
theorem hx2_f : ∀ q : Fin 256, puxP (hx2 (q.val : Int)) = ((q.val : Int), false) := by decide +kernel
theorem hx2_s : ∀ q : Fin 256, (hx2 (q.val : Int)).all (fun c => decide (48 ≤ c) && decide (c ≤ 102)) = true := by decide +kernel
theorem pux_hx2 {x : Int} (h0 : 0 ≤ x) (h1 : x < 256) : F_strconv_ParseUint (hx2 x) 16 8 = some (x, false) := by
  have := hx2_f ⟨x.toNat, by omega⟩
  simp only [show ((x.toNat : Nat) : Int) = x by omega] at this
  unfold F_strconv_ParseUint
  rw [this]
  rfl
theorem hexT_sign {l : List Int} (hl : ∀ x ∈ l, 0 ≤ x ∧ x < 256) {c : Int} (h : c ∈ hexT l) : 48 ≤ c ∧ c ≤ 102 := by
  rw [hexT_flat] at h
  obtain ⟨x, hx, h⟩ := List.mem_flatMap.1 h
  have hb := hl x hx
  have := hx2_s ⟨x.toNat, by omega⟩
  simp only [show ((x.toNat : Nat) : Int) = x by omega] at this
  have := List.all_eq_true.1 this c h
  simpa using this
theorem bytes_loop : ∀ (suf pre : List Int), (∀ x ∈ suf, 0 ≤ x ∧ x < 256) → pre.length + suf.length ≤ 100000 → loopC (F_conf_bytesOf_L4 (hexT (pre ++ suf))) (pre, ((2 * pre.length : Nat) : Int)) = some (.inr (pre ++ suf))
  | [], pre, hb, hl => by
    refine loop_inl ?_
    unfold F_conf_bytesOf_L4
    dsimp only
    rw [List.append_nil, hexT_ln, wrap_in (by omega) (by omega), decide_eq_false (by omega), cond_false]
  | x :: suf, pre, hb, hl => by
    have hx := hb x (by simp)
    rw [List.length_cons] at hl
    have hcut : cutI (hexT (pre ++ x :: suf)) ((2 * pre.length : Nat) : Int) (((2 * pre.length : Nat) : Int) + 2) = some (hx2 x) := by
      have hln : (hexT (pre ++ x :: suf)).length = 2 * (pre.length + (suf.length + 1)) := by rw [hexT_ln, List.length_append, List.length_cons]
      unfold cutI
      rw [hln, decide_eq_true (by omega), decide_eq_true (by omega), decide_eq_true (by omega), Bool.and_self, Bool.and_self, cond_true]
      rw [show (((2 * pre.length : Nat) : Int) + 2).toNat = 2 * pre.length + 2 by omega, Int.toNat_natCast, hexT_app, hexT_cons]
      rw [← hexT_ln pre, List.take_append, List.take_of_length_le (by omega), show (hexT pre).length + 2 - (hexT pre).length = 2 by omega, show (hx2 x ++ hexT suf).take 2 = hx2 x from rfl, List.drop_left]
    refine loop_inr (s' := (pre ++ [x], ((2 * (pre ++ [x]).length : Nat) : Int))) ?_ ?_
    · unfold F_conf_bytesOf_L4
      dsimp only
      rw [hexT_ln, List.length_append, List.length_cons, wrap_in (by omega) (by omega), decide_eq_true (by omega), cond_true, wrap_in (by omega) (by omega), hcut, Option.bind_some, pux_hx2 hx.1 hx.2, Option.bind_some, cond_false]
      rw [show IntKind.u8.wrap x = x from by show x % 256 = x; omega]
      unfold chk
      have hm : maxLen = 9223372036854775807 := rfl
      rw [decide_eq_true (by simp; omega), decide_eq_true (by simp; omega), Bool.and_self, cond_true]
      rw [show ((2 * pre.length : Nat) : Int) + 2 = ((2 * (pre ++ [x]).length : Nat) : Int) by simp; omega]
    · have := bytes_loop suf (pre ++ [x]) (fun y hy => hb y (by simp [hy])) (by simp; omega)
      rw [List.append_assoc] at this
      exact this
theorem bytesOf_hex {l : List Int} (hb : ∀ x ∈ l, 0 ≤ x ∧ x < 256) (hl : l.length ≤ 100000) (lo hi : Int) : F_conf_bytesOf (hexT l) lo hi = some (l, decide ((l.length : Int) ≥ lo) && decide ((l.length : Int) ≤ hi)) := by
  have h := bytes_loop l [] hb (by simpa using hl)
  unfold F_conf_bytesOf
  rw [show loopC (F_conf_bytesOf_L4 (hexT l)) (([] : List Int), 0) = _ from h]
  show F_conf_bytesOf_J2 (hexT l) lo hi l = _
  unfold F_conf_bytesOf_J2
  dsimp only
  rw [chex_eq (by omega), Option.bind_some, beq_self_eq_true, Bool.true_and]
theorem ble_s {a b : Nat} (h : a + b ≤ 1000000) : Nat.ble (a + b) maxLen = true := Nat.ble_eq_true_of_le (by
  have : maxLen = 9223372036854775807 := rfl
  omega)
theorem ck16 {n m : Nat} (h : n + m ≤ 1000000) : (decide ((n + m) * 16 ≤ 140737488355328) && decide (n + m ≤ maxLen)) = true := by
  have : maxLen = 9223372036854775807 := rfl
  rw [decide_eq_true (by omega), decide_eq_true (by omega)]; rfl
theorem sum_isB (l : List Int) : ∀ x ∈ sumL l, 0 ≤ x ∧ x < 256 := fun x hx => by
  unfold sumL shOut at hx
  obtain ⟨l, hl, hx⟩ := List.mem_flatten.1 hx
  obtain ⟨y, _, rfl⟩ := List.mem_map.1 hl
  have w : ∀ z : Int, 0 ≤ IntKind.u8.wrap z ∧ IntKind.u8.wrap z < 256 := fun z => by
    show 0 ≤ z % 256 ∧ z % 256 < 256
    omega
  unfold shFour at hx
  simp only [List.mem_cons, List.not_mem_nil, or_false] at hx
  rcases hx with rfl | rfl | rfl | rfl <;> exact w _
theorem chk_s {α : Type} {a b : Nat} (x : Option α) (h : a + b ≤ 1000000) : chk (Nat.ble (a + b) maxLen) x = x := by
  rw [ble_s h]; rfl
def wordsL (s : List Int) (a b c : Int) : List Int := ((s ++ ([32] ++ itoaI a)) ++ ([32] ++ itoaI b)) ++ ([32] ++ itoaI c)
theorem words_eq {s : List Int} {a b c : Int} (hs : s.length ≤ 1000) (ha : (itoaI a).length ≤ 21) (hb : (itoaI b).length ≤ 21) (hc : (itoaI c).length ≤ 21) : F_tale_words s [a, b, c] = some (wordsL s a b c) := by
  have step : ∀ (s : List Int) (i x : Int) (h : decide (i < (([a, b, c] : List Int).length : Int)) = true) (hg : getI [a, b, c] i = some x) (hx : (itoaI x).length ≤ 21) (hs : s.length ≤ 5000) (hi : 0 ≤ i ∧ i < 5), F_tale_words_L3 [a, b, c] (s, i) = some (.inr (s ++ ([32] ++ itoaI x), i + 1)) := fun s i x h hg hx hs hi => by
    unfold F_tale_words_L3
    dsimp only
    rw [h, cond_true, hg, Option.bind_some, show F_strconv_Itoa x = some (itoaI x) from rfl, Option.bind_some, chk_s _ (by show 1 + _ ≤ _; omega), chk_s _ (by rw [List.length_append]; show _ + (1 + _) ≤ _; omega), wrap_in (by omega) (by omega)]
  have h : loopC (F_tale_words_L3 [a, b, c]) (s, 0) = some (.inr (wordsL s a b c)) := by
    refine loop_inr (step s 0 a rfl rfl ha (by omega) (by omega)) ?_
    refine loop_inr (step _ 1 b rfl rfl hb (by rw [List.length_append, List.length_append]; show _ + (1 + _) ≤ _; omega) (by omega)) ?_
    refine loop_inr (step _ 2 c rfl rfl hc (by simp only [List.length_append, List.length_cons, List.length_nil]; omega) (by omega)) ?_
    exact loop_inl rfl
  unfold F_tale_words
  rw [join_inr h]; rfl
def lineL (tu up dn : Int) (i : Nat) : List (List Int) :=
  [wordsL (((((([117, 115, 101, 114, 32] : List Int) ++ (([117] : List Int) ++ itoaI i)) ++ ([32] : List Int)) ++ hexT [(i : Int)]) ++ ([32] : List Int)) ++ hexT (sumL ([(i : Int)] ++ 0 :: (([119] : List Int) ++ itoaI i)))) tu up dn,
   ((([100, 101, 110, 121, 32] : List Int) ++ (([117] : List Int) ++ itoaI i)) ++ ([32, 98, 97, 100, 46, 101, 120, 97, 109, 112, 108, 101, 32, 42] : List Int)),
   ((([100, 101, 110, 121, 32] : List Int) ++ (([117] : List Int) ++ itoaI i)) ++ ([32, 49, 48, 46, 48, 46, 48, 46, 48, 47, 56, 32, 42] : List Int)),
   ((([97, 108, 108, 111, 119, 32] : List Int) ++ (([117] : List Int) ++ itoaI i)) ++ ([32, 42, 32, 49, 45, 49, 48, 48, 48] : List Int))]
theorem u8_n {i : Nat} (h : i < 16) : IntKind.u8.wrap (i : Int) = i := by
  show (i : Int) % 256 = i
  omega
section
variable {tu up dn : Int} (ht : (itoaI tu).length ≤ 21) (hu : (itoaI up).length ≤ 21) (hd : (itoaI dn).length ≤ 21)
include ht hu hd
theorem t_line (us : Int) {m i : Nat} (hm : minI (maxI us 1) 16 = (m : Int)) (hm16 : m ≤ 16) (hi : i < m) (acc : List (List Int)) (hacc : acc.length ≤ 1000) : F_tale_Lines_L4 us tu up dn (acc, (i : Int)) = some (.inr (acc ++ lineL tu up dn i, ((i + 1 : Nat) : Int))) := by
  have hA := itoa_ln (i : Int) (by omega) (by omega)
  have hx := hexT_ln [(i : Int)]
  have hx : (hexT [(i : Int)]).length = 2 := hx
  have hy : (hexT (sumL ([(i : Int)] ++ 0 :: (([119] : List Int) ++ itoaI i)))).length = 64 := by rw [hexT_ln, sumL_len]
  unfold F_tale_Lines_L4
  dsimp only
  rw [hm, decide_eq_true (show (i : Int) < (m : Int) by omega), cond_true, show F_strconv_Itoa (i : Int) = some (itoaI i) from rfl]
  simp only [Option.bind_some]
  rw [u8_n (show i < 16 by omega), chk_s _ (by show 1 + _ ≤ _; omega), chk_s _ (by show 1 + _ ≤ _; omega), sha_Salted (by show 1 ≤ _; omega) (by rw [List.length_append]; show 1 + _ ≤ _; omega), Option.bind_some]
  rw [chk_s _ (by simp only [List.length_append, List.length_cons, List.length_nil]; omega), chk_s _ (by simp only [List.length_append, List.length_cons, List.length_nil]; omega), chex_eq (by show 1 ≤ _; omega), Option.bind_some]
  rw [chk_s _ (by simp only [List.length_append, List.length_cons, List.length_nil]; omega), chk_s _ (by simp only [List.length_append, List.length_cons, List.length_nil]; omega), chex_eq (by rw [sumL_len]; omega), Option.bind_some]
  rw [chk_s _ (by simp only [List.length_append, List.length_cons, List.length_nil]; omega), words_eq (by simp only [List.length_append, List.length_cons, List.length_nil]; omega) ht hu hd, Option.bind_some]
  rw [chk_s _ (by simp only [List.length_append, List.length_cons, List.length_nil]; omega), chk_s _ (by simp only [List.length_append, List.length_cons, List.length_nil]; omega), chk_s _ (by simp only [List.length_append, List.length_cons, List.length_nil]; omega), chk_s _ (by simp only [List.length_append, List.length_cons, List.length_nil]; omega), chk_s _ (by simp only [List.length_append, List.length_cons, List.length_nil]; omega), chk_s _ (by simp only [List.length_append, List.length_cons, List.length_nil]; omega)]
  unfold chk
  rw [ck16 (by show _ + 4 ≤ _; omega), cond_true, wrap_in (by omega) (by omega)]
  rfl
def linesL (tu up dn : Int) : Nat → Nat → List (List Int)
  | _, 0 => []
  | i, k + 1 => lineL tu up dn i ++ linesL tu up dn (i + 1) k
theorem t_lines (us : Int) {m : Nat} (hm : minI (maxI us 1) 16 = (m : Int)) (hm16 : m ≤ 16) : ∀ (k i : Nat) (acc : List (List Int)), i + k = m → acc.length ≤ 4 + 4 * i → loopC (F_tale_Lines_L4 us tu up dn) (acc, (i : Int)) = some (.inr (acc ++ linesL tu up dn i k))
  | 0, i, acc, h, _ => by
    refine loop_inl ?_
    unfold F_tale_Lines_L4
    dsimp only
    rw [hm, decide_eq_false (show ¬ (i : Int) < (m : Int) by omega), cond_false]
    show _ = some (Sum.inl (Sum.inr (acc ++ [])))
    rw [List.append_nil]
  | k + 1, i, acc, h, ha => by
    refine loop_inr (t_line ht hu hd us hm hm16 (show i < m by omega) acc (by omega)) ((t_lines us hm hm16 k (i + 1) _ (by omega) ?_).trans ?_)
    · rw [List.length_append]; show _ + 4 ≤ _; omega
    · rw [List.append_assoc]; rfl
end
def headL : List (List Int) := [([108, 105, 109, 105, 116, 32, 100, 105, 97, 108, 32, 53, 48] : List Int), ([108, 105, 109, 105, 116, 32, 105, 100, 108, 101, 32, 53, 48, 48] : List Int), ([108, 105, 109, 105, 116, 32, 108, 111, 103, 32, 54, 48] : List Int), ([108, 105, 109, 105, 116, 32, 98, 117, 102, 102, 101, 114, 32, 51, 48, 48] : List Int)]
theorem m_of (us : Int) : ∃ m : Nat, minI (maxI us 1) 16 = (m : Int) ∧ 1 ≤ m ∧ m ≤ 16 := by
  unfold minI maxI
  cases h1 : decide ((1 : Int) > us) <;> simp only [cond_true, cond_false]
  · have h1 := of_decide_eq_false h1
    cases h2 : decide ((16 : Int) < us) <;> simp only [cond_true, cond_false]
    · have h2 := of_decide_eq_false h2
      exact ⟨us.toNat, by omega, by omega, by omega⟩
    · exact ⟨16, rfl, by omega, by omega⟩
  · exact ⟨1, rfl, by omega, by omega⟩
theorem tale_lines (us : Int) {tu up dn : Int} (b1 : -9223372036854775808 ≤ tu ∧ tu ≤ 9223372036854775807) (b2 : -9223372036854775808 ≤ up ∧ up ≤ 9223372036854775807) (b3 : -9223372036854775808 ≤ dn ∧ dn ≤ 9223372036854775807) {m : Nat} (hm : minI (maxI us 1) 16 = (m : Int)) (hm16 : m ≤ 16) : F_tale_Lines us tu up dn = some (headL ++ linesL tu up dn 0 m) := by
  have h1 : loopC (F_tale_Lines_L4 us tu up dn) (headL, 0) = some (.inr (headL ++ linesL tu up dn 0 m)) := t_lines (itoa_ln tu b1.1 b1.2) (itoa_ln up b2.1 b2.2) (itoa_ln dn b3.1 b3.2) us hm hm16 m 0 headL (by omega) (by show 4 ≤ _; omega)
  unfold F_tale_Lines
  exact join_inr h1
def digT (i : Nat) : List Int := sumL ([(i : Int)] ++ 0 :: (([119] : List Int) ++ itoaI i))
def nmT (i : Nat) : List Int := 117 :: dgs i
noncomputable def usrT (t u d : Int) (rs : List RuleD) (i : Nat) : UserD := (nmT i, ([(i : Int)], digT i), t, (Vc.fl u, Vc.fl d), rs)
def badN : List Int := [98, 97, 100, 46, 101, 120, 97, 109, 112, 108, 101]
def r1T : RuleD := (false, 1, badN, ([], 0), 1, 65535)
def r2T : RuleD := (false, 3, [], ([10, 0, 0, 0], 8), 1, 65535)
def r3T : RuleD := (true, 0, [], ([], 0), 1, 1000)
theorem nmT_ne {i j : Nat} (h : i ≠ j) : nmT i ≠ nmT j := fun e => by
  injection e with _ e
  exact h (dgs_inj e)
theorem nm_no {i : Nat} : ∀ x ∈ nmT i, x ≠ 32 := fun x hx => by
  rcases List.mem_cons.1 hx with rfl | hx
  · decide
  · have := dig_ge hx; omega
theorem nmT_ln {i : Nat} (h : i < 16) : (nmT i).length ≤ 3 := by
  have := dgs_len 1 i (by omega)
  unfold nmT
  rw [List.length_cons]; omega
theorem nmT_ok {i : Nat} (h : i < 16) : F_conf_named (nmT i) = some true := by
  have hl := nmT_ln h
  have ha : (nmT i).all okc = true := List.all_eq_true.2 fun x hx => by
    unfold okc
    rcases List.mem_cons.1 hx with rfl | hx
    · decide
    · have := dig_ge hx
      exact decide_eq_true (by omega)
  unfold F_conf_named
  rw [ha, Nat.ble_eq_true_of_le (by omega)]
  rfl
theorem itoa_no (z : Int) : ∀ x ∈ itoaI z, x ≠ 32 := fun x hx => by
  have := itoa_sign z x hx
  omega
theorem uT_split (tu up dn : Int) (i : Nat) (hi : i < 16) : splitI ((lineL tu up dn i).headD []) 32 = [lbU, nmT i, hexT [(i : Int)], hexT (digT i), itoaI tu, itoaI up, itoaI dn] := by
  have e : (lineL tu up dn i).headD [] = [117, 115, 101, 114] ++ 32 :: (nmT i ++ 32 :: (hexT [(i : Int)] ++ 32 :: (hexT (digT i) ++ 32 :: (itoaI tu ++ 32 :: (itoaI up ++ 32 :: itoaI dn))))) := by
    show wordsL _ _ _ _ = _
    unfold wordsL nmT digT
    rw [itoa_dgs]
    simp
  have hx : ∀ {l : List Int}, (∀ x ∈ l, 0 ≤ x ∧ x < 256) → ∀ x ∈ hexT l, x ≠ 32 := fun hl x hx => by have := hexT_sign hl hx; omega
  rw [e, split_w _ _ _ (by decide), split_w _ _ _ nm_no, split_w _ _ _ (hx fun x hx => by simp at hx; omega), split_w _ _ _ (hx (l := digT i) (sum_isB _)), split_w _ _ _ (itoa_no _), split_w _ _ _ (itoa_no _), split_e _ _ (itoa_no _)]
  rfl
def mayT (tu up dn : Int) : Bool := (((((decide (tu ≥ 1)) && (decide (tu ≤ 1000))) && (decide (up ≥ 0))) && (decide (up ≤ 1125899906842624))) && (decide (dn ≥ 0))) && (decide (dn ≤ 1125899906842624))
theorem user_lineT {tu up dn : Int} (b1 : -9223372036854775808 ≤ tu ∧ tu ≤ 9223372036854775807) (b2 : -9223372036854775808 ≤ up ∧ up ≤ 9223372036854775807) (b3 : -9223372036854775808 ≤ dn ∧ dn ≤ 9223372036854775807) {i : Nat} (hi : i < 16) (x : RSt) (hx : x.us.length < 16) (ha : usAt x.us (nmT i) = -1) :
    lineP x ((lineL tu up dn i).headD []) = cond (mayT tu up dn) (some ({ x with us := x.us ++ [usrT tu up dn [] i] }, 0)) (some (x, 2)) := by
  have hln : ((lineL tu up dn i).headD []).length ≤ 200 := by
    have h1 := itoa_ln tu b1.1 b1.2
    have h2 := itoa_ln up b2.1 b2.2
    have h3 := itoa_ln dn b3.1 b3.2
    have h4 := itoa_ln (i : Int) (by omega) (by omega)
    have h5 := hexT_ln [(i : Int)]
    have h6 : (hexT (sumL ([(i : Int)] ++ 0 :: (([119] : List Int) ++ itoaI i)))).length = 64 := by rw [hexT_ln, sumL_len]
    show (wordsL _ _ _ _).length ≤ _
    unfold wordsL
    simp only [List.length_append, List.length_cons, List.length_nil] at h5 h6 ⊢
    omega
  unfold lineP
  rw [Nat.ble_eq_true_of_le (show _ ≤ 4000000000 by omega), Nat.ble_eq_true_of_le (show x.us.length ≤ 16 by omega), uT_split tu up dn i hi]
  show userP x [nmT i, hexT [(i : Int)], hexT (digT i), itoaI tu, itoaI up, itoaI dn] = _
  show ((F_conf_named (nmT i)).bind fun q => cond q (cond (decide (0 ≤ usAt x.us (nmT i))) (some (x, 2)) (
      (F_conf_bytesOf (hexT [(i : Int)]) 1 32).bind fun sa => (F_conf_bytesOf (hexT (digT i)) 32 32).bind fun di => (F_conf_number (itoaI tu) 1 1000).bind fun n' => (F_conf_number (itoaI up) 0 1125899906842624).bind fun up => (F_conf_number (itoaI dn) 0 1125899906842624).bind fun dn => userG x (nmT i) sa di n' up dn)) (some (x, 2))) = _
  rw [nmT_ok hi, Option.bind_some, cond_true, ha, bytesOf_hex (fun x hx => by simp at hx; omega) (by simp), bytesOf_hex (l := digT i) (sum_isB _) (by rw [show (digT i).length = 32 from sumL_len _]; omega), number_itoa _ _ _ b1.1 b1.2, number_itoa _ _ _ b2.1 b2.2, number_itoa _ _ _ b3.1 b3.2]
  rw [show decide ((0 : Int) ≤ -1) = false from rfl, cond_false]
  simp only [Option.bind_some]
  rw [show (digT i).length = 32 from sumL_len _]
  unfold userG
  dsimp only
  rw [show Nat.beq x.us.length 16 = false from by
    cases hb : Nat.beq x.us.length 16 with
    | false => rfl
    | true => have := Nat.eq_of_beq_eq_true hb; omega, cond_false]
  have hne : List.isEmpty (digT i) = false := by
    cases h : digT i with
    | nil => have : (digT i).length = 32 := sumL_len _; rw [h] at this; cases this
    | cons a b => rfl
  rw [hne]
  have e : ((decide (((([(i : Int)] : List Int).length : Nat) : Int) ≥ 1) && decide (((([(i : Int)] : List Int).length : Nat) : Int) ≤ 32)) && ((decide (((32 : Nat) : Int) ≥ 32) && decide (((32 : Nat) : Int) ≤ 32)) && ((decide (tu ≥ 1) && decide (tu ≤ 1000)) && ((decide (up ≥ 0) && decide (up ≤ 1125899906842624)) && (decide (dn ≥ 0) && decide (dn ≤ 1125899906842624)))))) = mayT tu up dn := by
    unfold mayT
    rw [show (decide (((([(i : Int)] : List Int).length : Nat) : Int) ≥ 1) && decide (((([(i : Int)] : List Int).length : Nat) : Int) ≤ 32)) = true from rfl, show (decide (((32 : Nat) : Int) ≥ 32) && decide (((32 : Nat) : Int) ≤ 32)) = true from rfl]
    simp only [Bool.true_and, Bool.and_assoc]
  rw [e]
  cases hm : mayT tu up dn with
  | false => rfl
  | true =>
    have hm' := hm
    unfold mayT at hm'
    simp only [Bool.and_eq_true, decide_eq_true_eq] at hm'
    rw [show isCnt up = true from by unfold isCnt; rw [decide_eq_true (by omega), decide_eq_true (by omega)]; rfl, show isCnt dn = true from by unfold isCnt; rw [decide_eq_true (by omega), decide_eq_true (by omega)]; rfl]
    rfl
theorem pat_bad : F_conf_pattern badN = some (false, 1, badN, [], 0, 0, 0, true) := by
  unfold F_conf_pattern
  rw [show (badN == ([42] : List Int)) = false by kernel_rfl, cond_false, show F_strings_CutPrefix badN [46] = some (badN, false) by kernel_rfl, Option.bind_some, cond_false]
  have hp : F_addr_ParseNet badN = some ([], 0, 2) := by
    unfold F_addr_ParseNet
    rw [show F_strings_Cut badN [47] = some (badN, [], false) by kernel_rfl, Option.bind_some, Parse_eq _ (by decide)]
    rw [show parseR badN = ([], 2) by
      unfold parseR
      rw [show (fourR badN).2 = false by kernel_rfl, cond_false]
      kernel_rfl, Option.bind_some]
    rfl
  rw [hp, Option.bind_some, show ((([] : List Int), (0 : Int), (2 : Int)).2.2 == 0) = false from rfl, cond_false, name_eq, show nameR badN = (badN, 0) by kernel_rfl]
  rfl
theorem span_all : F_conf_span [42] = some (1, 65535, true) := rfl
theorem span_1k : F_conf_span [49, 45, 49, 48, 48, 48] = some (1, 1000, true) := by kernel_rfl
theorem rule_lineT {L : List UserD} {t u d : Int} {rs : List RuleD} {i : Nat} (hi : i < 16) (hL : L.length = i) (hne : ∀ v ∈ L, v.1 ≠ nmT i) (hrs : rs.length < 64) {w : List Int} {al : Bool} (hw : (w = lbA ∧ al = true) ∨ (w = lbD ∧ al = false)) {p s : List Int} (hp32 : ∀ c ∈ p, c ≠ 32) (hs32 : ∀ c ∈ s, c ≠ 32) (hp : p.length ≤ 100) (hs : s.length ≤ 100) {r : RuleD} {q : Bool}
    (hpat : F_conf_pattern p = some (q, r.2.1, r.2.2.1, r.2.2.2.1.1, r.2.2.2.1.2, 0, 0, true)) (hspan : F_conf_span s = some (r.2.2.2.2.1, r.2.2.2.2.2, true)) (hr : r.1 = al) (x : RSt) (hx : x.us = L ++ [usrT t u d rs i]) :
    lineP x (w ++ 32 :: (nmT i ++ 32 :: (p ++ 32 :: s))) = some ({ x with us := L ++ [usrT t u d (rs ++ [r]) i] }, 0) := by
  have hln := nmT_ln hi
  have hwl : w.length ≤ 5 := by rcases hw with ⟨rfl, _⟩ | ⟨rfl, _⟩ <;> decide
  have hw32 : ∀ c ∈ w, c ≠ 32 := by rcases hw with ⟨rfl, _⟩ | ⟨rfl, _⟩ <;> decide
  have hus : x.us.length ≤ 16 := by rw [hx, List.length_append, hL]; show i + 1 ≤ 16; omega
  unfold lineP
  rw [Nat.ble_eq_true_of_le (show (w ++ 32 :: (nmT i ++ 32 :: (p ++ 32 :: s))).length ≤ 4000000000 by simp; omega), Nat.ble_eq_true_of_le hus, split_w _ _ _ hw32, split_w _ _ _ nm_no, split_w _ _ _ hp32, split_e _ _ hs32]
  have hl : lineW x w [nmT i, p, s] = ruleP x al [nmT i, p, s] := by
    rcases hw with ⟨rfl, rfl⟩ | ⟨rfl, rfl⟩ <;> rfl
  show lineW x w [nmT i, p, s] = _
  rw [hl]
  show cond (decide (usAt x.us (nmT i) < 0)) (some (x, 2)) ((F_conf_pattern p).bind fun p => (F_conf_span s).bind fun sp => ruleG x (nmT i) al p sp) = _
  have hat : usAt x.us (nmT i) = (i : Int) := by
    have := usAt_some x.us i (usrT t u d rs i) (by rw [hx, List.getElem?_append_right (by omega), hL, Nat.sub_self]; rfl) fun j v hj hv => by
      rw [hx, List.getElem?_append_left (by omega)] at hv
      exact hne v (List.mem_of_getElem? hv)
    exact this
  rw [hat, decide_eq_false (by omega), cond_false, hpat, hspan]
  simp only [Option.bind_some]
  unfold ruleG
  rw [hat, Int.toNat_natCast, hx, List.getElem?_append_right (by omega), hL, Nat.sub_self]
  show cond (Nat.beq rs.length 64) _ (cond (Nat.ble rs.length 64) (some (({ x with us := (L ++ [usrT t u d rs i]).set i (usrT t u d (rs ++ [(al, r.2.1, r.2.2.1, (r.2.2.2.1.1, r.2.2.2.1.2), r.2.2.2.2.1, r.2.2.2.2.2)]) i) } : RSt), (0 : Int))) none) = _
  rw [show Nat.beq rs.length 64 = false from by
    cases hb : Nat.beq rs.length 64 with
    | false => rfl
    | true => have := Nat.eq_of_beq_eq_true hb; omega, cond_false, Nat.ble_eq_true_of_le (by omega), cond_true]
  rw [List.set_append_right _ _ (by omega), hL, Nat.sub_self, ← hr]
  rfl
def rs3 : List RuleD := [r1T, r2T, r3T]
theorem skip_no {s : List Int} {c : Int} (h : s.head? = some c) (hc : c ≠ 35) : skipL s = false := by
  cases s with
  | nil => cases h
  | cons a b =>
    injection h with h
    subst h
    unfold skipL
    show (false || (a == 35)) = false
    rw [beq_eq_false_iff_ne.2 hc]; rfl
theorem parse_one {s : List Int} {r : List (List Int)} {x y : RSt} (hs : skipL s = false) (h : lineP x s = some (y, 0)) : parseL (s :: r) x = parseL r y := by
  show cond (skipL s) _ ((lineP x s).bind fun p => cond (decide (p.2 = 0)) (parseL r p.1) (some p)) = _
  rw [hs, cond_false, h]; rfl
theorem lines_parse {tu up dn : Int} (b1 : -9223372036854775808 ≤ tu ∧ tu ≤ 9223372036854775807) (b2 : -9223372036854775808 ≤ up ∧ up ≤ 9223372036854775807) (b3 : -9223372036854775808 ≤ dn ∧ dn ≤ 9223372036854775807) (hmay : mayT tu up dn = true) : ∀ (k i : Nat) (x : RSt), i + k ≤ 16 → x.us = (List.range i).map (usrT tu up dn rs3) → parseL (linesL tu up dn i k) x = some ({ x with us := (List.range (i + k)).map (usrT tu up dn rs3) }, 0)
  | 0, i, x, h, hx => by
    show some (x, (0 : Int)) = _
    rw [Nat.add_zero, ← hx]
  | k + 1, i, x, h, hx => by
    have hi : i < 16 := by omega
    have hne : ∀ v ∈ (List.range i).map (usrT tu up dn rs3), v.1 ≠ nmT i := fun v hv => by
      obtain ⟨j, hj, rfl⟩ := List.mem_map.1 hv
      have := List.mem_range.1 hj
      exact nmT_ne (by omega)
    have hL : ((List.range i).map (usrT tu up dn rs3)).length = i := by simp
    have e0 := user_lineT b1 b2 b3 hi x (by rw [hx, hL]; omega) (usAt_none _ _ (by rw [hx]; exact hne))
    rw [hmay, cond_true, hx] at e0
    show parseL (lineL tu up dn i ++ linesL tu up dn (i + 1) k) x = _
    have eL : lineL tu up dn i = [(lineL tu up dn i).headD [], lbD ++ 32 :: (nmT i ++ 32 :: (badN ++ 32 :: [42])), lbD ++ 32 :: (nmT i ++ 32 :: (tenN ++ 32 :: [42])), lbA ++ 32 :: (nmT i ++ 32 :: ([42] ++ 32 :: [49, 45, 49, 48, 48, 48]))] := by
      unfold lineL
      rw [itoa_dgs]
      simp [lbD, lbA, nmT, badN, tenN]
    have e2 : ∀ (a b c d : List Int) (r : List (List Int)), [a, b, c, d] ++ r = a :: b :: c :: d :: r := fun _ _ _ _ _ => rfl
    rw [eL, e2]
    rw [parse_one (y := { x with us := (List.range i).map (usrT tu up dn rs3) ++ [usrT tu up dn [] i] }) (by unfold lineL wordsL; exact skip_no rfl (by decide)) e0]
    rw [parse_one (skip_no rfl (by decide)) (rule_lineT (r := r1T) hi hL hne (by decide) (.inr ⟨rfl, rfl⟩) (by decide) (by decide) (by decide) (by decide) pat_bad span_all rfl _ rfl)]
    rw [parse_one (skip_no rfl (by decide)) (rule_lineT (r := r2T) hi hL hne (by decide) (.inr ⟨rfl, rfl⟩) (by decide) (by decide) (by decide) (by decide) pat_ten span_all rfl _ rfl)]
    rw [parse_one (skip_no rfl (by decide)) (rule_lineT (r := r3T) hi hL hne (by decide) (.inl ⟨rfl, rfl⟩) (by decide) (by decide) (by decide) (by decide) pat_star span_1k rfl _ rfl)]
    rw [lines_parse b1 b2 b3 hmay k (i + 1) _ (by omega) (by
      show (List.range i).map (usrT tu up dn rs3) ++ [usrT tu up dn rs3 i] = _
      rw [List.range_succ, List.map_append]; rfl)]
    rw [show i + 1 + k = i + (k + 1) by omega]
theorem lines_fail {tu up dn : Int} (b1 : -9223372036854775808 ≤ tu ∧ tu ≤ 9223372036854775807) (b2 : -9223372036854775808 ≤ up ∧ up ≤ 9223372036854775807) (b3 : -9223372036854775808 ≤ dn ∧ dn ≤ 9223372036854775807) (hmay : mayT tu up dn = false) (k : Nat) (x : RSt) (hx : x.us = []) : parseL (linesL tu up dn 0 (k + 1)) x = some (x, 2) := by
  have e0 := user_lineT b1 b2 b3 (i := 0) (by omega) x (by rw [hx]; decide) (by rw [hx]; rfl)
  rw [hmay, cond_false] at e0
  show cond (skipL ((lineL tu up dn 0).headD [])) _ ((lineP x ((lineL tu up dn 0).headD [])).bind fun p => cond (decide (p.2 = 0)) (parseL _ p.1) (some p)) = _
  rw [show skipL ((lineL tu up dn 0).headD []) = false from by unfold lineL wordsL; exact skip_no rfl (by decide), cond_false, e0]
  rfl
def rstT : RSt := ⟨16, 100, 300, 60, 500, 50, 16384, [[100, 105, 97, 108], [105, 100, 108, 101], [108, 111, 103], [98, 117, 102, 102, 101, 114]], []⟩
theorem num_n (s : List Int) (n : Nat) (lo hi : Int) (hs : s = dgs n) (h : n < 1000000) (h1 : lo ≤ n) (h2 : (n : Int) ≤ hi) : F_conf_number s lo hi = some ((n : Int), true) := by
  rw [hs, number_dgs n _ _ (by omega), decide_eq_true (by omega), decide_eq_true (by omega)]; rfl
theorem lim_line {x : RSt} {s a b : List Int} {k n : Nat} (hs : s = lbL ++ 32 :: (a ++ 32 :: b)) (ha : ∀ c ∈ a, c ≠ 32) (hb : ∀ c ∈ b, c ≠ 32) (hal : a.length ≤ 100) (hbl : b.length ≤ 100) (hx : x.us = []) (ht : x.told.contains a = false) (hk : limAt a = some k) (hn : F_conf_number b (limLo k) (limHi k) = some ((n : Int), true)) : lineP x s = some ({ x.setLim k n with told := x.told ++ [a] }, 0) := by
  unfold lineP
  rw [hs, Nat.ble_eq_true_of_le (show (lbL ++ 32 :: (a ++ 32 :: b)).length ≤ 4000000000 by simp [lbL]; omega), hx, split_w _ _ _ (by decide), split_w _ _ _ ha, split_e _ _ hb]
  show ((limitsP x [a, b]).map fun p => (p.1, cond p.2 (0 : Int) 2)) = _
  show ((cond (x.told.contains a) (some (x, false)) (match limAt a with
    | none => some (x, false)
    | some k => (F_conf_number b (limLo k) (limHi k)).bind fun p => some ({ x.setLim k p.1 with told := x.told ++ [a] }, p.2))).map fun p => (p.1, cond p.2 (0 : Int) 2)) = _
  rw [ht, cond_false, hk]
  dsimp only
  rw [hn]
  rfl
theorem head_parse (r : List (List Int)) : parseL (headL ++ r) rst0 = parseL r rstT := by
  have e2 : ∀ (a b c d : List Int) (r : List (List Int)), [a, b, c, d] ++ r = a :: b :: c :: d :: r := fun _ _ _ _ _ => rfl
  unfold headL
  rw [e2]
  rw [parse_one (by rfl) (lim_line (s := [108, 105, 109, 105, 116, 32, 100, 105, 97, 108, 32, 53, 48]) (a := [100, 105, 97, 108]) (b := [53, 48]) (k := 5) (n := 50) (x := rst0) rfl (by decide) (by decide) (by decide) (by decide) rfl rfl (by kernel_rfl) (num_n _ 50 _ _ (by kernel_rfl) (by decide) (by decide) (by decide)))]
  rw [parse_one (by rfl) (lim_line (s := [108, 105, 109, 105, 116, 32, 105, 100, 108, 101, 32, 53, 48, 48]) (a := [105, 100, 108, 101]) (b := [53, 48, 48]) (k := 4) (n := 500) rfl (by decide) (by decide) (by decide) (by decide) rfl rfl (by kernel_rfl) (num_n _ 500 _ _ (by kernel_rfl) (by decide) (by decide) (by decide)))]
  rw [parse_one (by rfl) (lim_line (s := [108, 105, 109, 105, 116, 32, 108, 111, 103, 32, 54, 48]) (a := [108, 111, 103]) (b := [54, 48]) (k := 3) (n := 60) rfl (by decide) (by decide) (by decide) (by decide) rfl rfl (by kernel_rfl) (num_n _ 60 _ _ (by kernel_rfl) (by decide) (by decide) (by decide)))]
  rw [parse_one (by rfl) (lim_line (s := [108, 105, 109, 105, 116, 32, 98, 117, 102, 102, 101, 114, 32, 51, 48, 48]) (a := [98, 117, 102, 102, 101, 114]) (b := [51, 48, 48]) (k := 2) (n := 300) rfl (by decide) (by decide) (by decide) (by decide) rfl rfl (by kernel_rfl) (num_n _ 300 _ _ (by kernel_rfl) (by decide) (by decide) (by decide)))]
  rfl
theorem tput_set : F_tale_put 4 0 0 [] = some [0, 0, 0, 4, 0, 0, 0, 0, 0] := by kernel_rfl
theorem hello28 : ∃ l, F_tale_Hello = some l ∧ l.length = 33 := by
  have h1 : F_part_Settings ([] : List (Int × Int)) false = some (4, 0, 0, []) := by
    unfold F_part_Settings
    have hf : F_part_flag false 1 = some 0 := rfl
    rw [hf, Option.bind_some]
    have : loopC (F_part_Settings_L4 ([] : List (Int × Int))) (0, 0, 0, 0, ([] : List Int), 4, 0, 0, ([] : List Int)) = some (.inr (0, 0, 0, [], 4, 0, 0, [])) := loop_inl rfl
    rw [join_inr this]; rfl
  unfold F_tale_Hello
  rw [h1, Option.bind_some]
  dsimp only
  rw [tput_set, Option.bind_some]
  exact ⟨[80, 82, 73, 32, 42, 32, 72, 84, 84, 80, 47, 50, 46, 48, 13, 10, 13, 10, 83, 77, 13, 10, 13, 10] ++ [0, 0, 0, 4, 0, 0, 0, 0, 0], by decide +kernel, rfl⟩
theorem first28 : F_wlvlaw28_first = some true := by
  obtain ⟨l, h1, h2⟩ := hello28
  unfold F_wlvlaw28_first
  rw [h1, Option.bind_some, h2]
  have h : F_tale_Events ([0, 0, 0] : List Int) = some [] := by
    unfold F_tale_Events
    have : loopC F_tale_Events_L3 (([0, 0, 0] : List Int), ([] : List (Int × Int × Int × Int × List Int × List (List Int)))) = some (.inr []) := loop_inl rfl
    rw [join_inr this]; rfl
  rw [h]
  rfl
def smallU (v : UserD) : Prop := v.2.1.1.length ≤ 100000 ∧ v.2.1.2.length ≤ 100000 ∧ v.2.2.2.2.length ≤ 100000
theorem copied_eq {v : UserD} (h : smallU v) : F_conf_copied v.1 v.2.1.1 v.2.1.2 v.2.2.1 v.2.2.2.1 v.2.2.2.2 = some (v.1, v.2.1.1, v.2.1.2, v.2.2.1, v.2.2.2.1, v.2.2.2.2) := by
  obtain ⟨h1, h2, h3⟩ := h
  unfold F_conf_copied F_bytes_Clone F_slices_Clone_conf_Rule_conf_Rule
  rw [Nat.ble_eq_true_of_le (by omega), Nat.ble_eq_true_of_le (by omega), Nat.ble_eq_true_of_le (by omega)]
  rfl
theorem findU_loop {us : List UserD} {s : List Int} {k : Nat} {u : UserD} (hk : us[k]? = some u) (hn : u.1 = s) (hl : us.length ≤ 1000) (hs : ∀ v ∈ us, smallU v) : ∀ (m i : Nat), i + m = k → ∃ y, loopC (F_conf_Find_L3 us s) ((i : Int), ([] : List Int), ([] : List Int), ([] : List Int), (0 : Int), ((0 : Nat), (0 : Nat)), ([] : List RuleD)) = some (.inl y) ∧ y.2.2.2.2.2.2 = true
  | 0, i, h => by
    obtain rfl : i = k := by omega
    have hi := (List.getElem?_eq_some_iff.1 hk).1
    refine ⟨(u.1, u.2.1.1, u.2.1.2, u.2.2.1, u.2.2.2.1, u.2.2.2.2, true), loop_inl ?_, rfl⟩
    unfold F_conf_Find_L3
    dsimp only
    rw [decide_eq_true (by omega), cond_true, gI_nat hk, Option.bind_some, hn, beq_self_eq_true, cond_true, ← hn, copied_eq (hs u (List.mem_of_getElem? hk)), Option.bind_some]
  | m + 1, i, h => by
    have hkl := (List.getElem?_eq_some_iff.1 hk).1
    obtain ⟨v, hv⟩ : ∃ v, us[i]? = some v := ⟨_, List.getElem?_eq_getElem (by omega)⟩
    cases hq : v.1 == s with
    | true =>
      refine ⟨(v.1, v.2.1.1, v.2.1.2, v.2.2.1, v.2.2.2.1, v.2.2.2.2, true), loop_inl ?_, rfl⟩
      unfold F_conf_Find_L3
      dsimp only
      rw [decide_eq_true (by omega), cond_true, gI_nat hv, Option.bind_some, hq, cond_true, copied_eq (hs v (List.mem_of_getElem? hv)), Option.bind_some]
    | false =>
      obtain ⟨y, h1, h2⟩ := findU_loop hk hn hl hs m (i + 1) (by omega)
      refine ⟨y, loop_inr ?_ h1, h2⟩
      unfold F_conf_Find_L3
      dsimp only
      rw [decide_eq_true (by omega), cond_true, gI_nat hv, Option.bind_some, hq, cond_false, wrap_in (by omega) (by omega)]
      rfl
theorem find_there {c1 c2 c3 c4 c5 c6 c7 : Int} {us : List UserD} {s : List Int} {k : Nat} {u : UserD} (hk : us[k]? = some u) (hn : u.1 = s) (hl : us.length ≤ 1000) (hs : ∀ v ∈ us, smallU v) : ∃ y, F_conf_Find c1 c2 c3 c4 c5 c6 c7 us s = some y ∧ y.2.2.2.2.2.2 = true := by
  obtain ⟨y, h1, h2⟩ := findU_loop hk hn hl hs k 0 (by omega)
  refine ⟨y, ?_, h2⟩
  unfold F_conf_Find
  exact join_inl h1
theorem eqL_refl (l : List Int) : eqL l l = true := by unfold eqL; exact beq_self_eq_true l
theorem bEq_refl (b : Bool) : bEq b b = true := by cases b <;> rfl
theorem feq_fl {n : Int} (h : n.natAbs < 2 ^ 53) : feq .f64 (Vc.fl n) (Vc.fl n) = true := by
  unfold feq
  rw [Vc.fl_order h h]
  have : compare n n = .eq := by simp
  rw [this]; rfl
theorem rules_refl {l : List RuleD} (hl : l.length ≤ 100000) : ∀ (m i : Nat), i + m = l.length → loopC (F_wlvref18_sameUser_L6 l l) (i : Int) = some (.inr ())
  | 0, i, h => by
    refine loop_inl ?_
    unfold F_wlvref18_sameUser_L6
    dsimp only
    rw [decide_eq_false (by omega), cond_false]
  | m + 1, i, h => by
    obtain ⟨v, hv⟩ : ∃ v, l[i]? = some v := ⟨_, List.getElem?_eq_getElem (by omega)⟩
    refine loop_inr ?_ (rules_refl hl m (i + 1) (by omega))
    unfold F_wlvref18_sameUser_L6
    dsimp only
    rw [decide_eq_true (by omega), cond_true, gI_nat hv, Option.bind_some, Option.bind_some]
    rw [bEq_refl, eqL_refl, eqL_refl]
    unfold eqI
    simp only [beq_self_eq_true, Bool.and_self, Bool.not_true, cond_false]
    rw [wrap_in (by omega) (by omega)]
    rfl
theorem sameUser_refl {v : UserD} (h : smallU v) (hf : feq .f64 v.2.2.2.1.1 v.2.2.2.1.1 = true ∧ feq .f64 v.2.2.2.1.2 v.2.2.2.1.2 = true) : F_wlvref18_sameUser v.1 v.2.1.1 v.2.1.2 v.2.2.1 v.2.2.2.1 v.2.2.2.2 v.1 v.2.1.1 v.2.1.2 v.2.2.1 v.2.2.2.1 v.2.2.2.2 = some true := by
  unfold F_wlvref18_sameUser F_wlvref_Bytes
  rw [beq_self_eq_true, beq_self_eq_true, beq_self_eq_true, hf.1, hf.2]
  simp only [Bool.not_true, cond_false, Option.bind_some, bne_self_eq_false, Bool.and_self]
  rw [join_inr (show loopC (F_wlvref18_sameUser_L6 v.2.2.2.2 v.2.2.2.2) (0 : Int) = some (.inr ()) from rules_refl h.2.2 v.2.2.2.2.length 0 (by omega))]
  rfl
theorem same_loop {us : List UserD} (hl : us.length ≤ 1000) (h : ∀ v ∈ us, smallU v ∧ feq .f64 v.2.2.2.1.1 v.2.2.2.1.1 = true ∧ feq .f64 v.2.2.2.1.2 v.2.2.2.1.2 = true) : ∀ (m i : Nat), i + m = us.length → loopC (F_wlvref18_Same_L6 us us) (i : Int) = some (.inr ())
  | 0, i, hm => by
    refine loop_inl ?_
    unfold F_wlvref18_Same_L6
    dsimp only
    rw [decide_eq_false (by omega), cond_false]
  | m + 1, i, hm => by
    obtain ⟨v, hv⟩ : ∃ v, us[i]? = some v := ⟨_, List.getElem?_eq_getElem (by omega)⟩
    refine loop_inr ?_ (same_loop hl h m (i + 1) (by omega))
    have hq := h v (List.mem_of_getElem? hv)
    unfold F_wlvref18_Same_L6
    dsimp only
    rw [decide_eq_true (by omega), cond_true, gI_nat hv, Option.bind_some, Option.bind_some, sameUser_refl hq.1 hq.2, Option.bind_some]
    simp only [Bool.not_true, cond_false]
    rw [wrap_in (by omega) (by omega)]
    rfl
theorem Same_refl {c1 c2 c3 c4 c5 c6 c7 : Int} {us : List UserD} (hl : us.length ≤ 1000) (h : ∀ v ∈ us, smallU v ∧ feq .f64 v.2.2.2.1.1 v.2.2.2.1.1 = true ∧ feq .f64 v.2.2.2.1.2 v.2.2.2.1.2 = true) : F_wlvref18_Same c1 c2 c3 c4 c5 c6 c7 us c1 c2 c3 c4 c5 c6 c7 us = some true := by
  unfold F_wlvref18_Same
  simp only [bne_self_eq_false, cond_false]
  rw [join_inr (show loopC (F_wlvref18_Same_L6 us us) (0 : Int) = some (.inr ()) from same_loop hl h us.length 0 (by omega))]
  rfl
theorem TaleLines_true (us tu up dn : Int) (h1 : (Lit.int .i64 tu).wf = true) (h2 : (Lit.int .i64 up).wf = true) (h3 : (Lit.int .i64 dn).wf = true) : F_wlvlaw28_TaleLines us tu up dn = some true := by
  have b1 := wf_i64 h1
  have b2 := wf_i64 h2
  have b3 := wf_i64 h3
  obtain ⟨m, hm, hm1, hm16⟩ := m_of us
  have hL := tale_lines us b1 b2 b3 hm hm16
  have hlen : (headL ++ linesL tu up dn 0 m).length ≤ 1000000 := by
    have h : ∀ (k i : Nat), (linesL tu up dn i k).length = 4 * k := fun k => by
      induction k with
      | zero => intro i; rfl
      | succ k ih =>
        intro i
        show (lineL tu up dn i ++ linesL tu up dn (i + 1) k).length = _
        rw [List.length_append, ih]
        show 4 + 4 * k = _
        omega
    rw [List.length_append, h]
    show 4 + _ ≤ _
    omega
  unfold F_wlvlaw28_TaleLines
  rw [first28]
  simp only [Option.bind_some, Bool.not_true, cond_false]
  rw [hL, Option.bind_some]
  have hc : ((((((decide (tu ≥ 1)) && (decide (tu ≤ 1000))) && (decide (up ≥ 0))) && (decide (up ≤ 1125899906842624))) && (decide (dn ≥ 0))) && (decide (dn ≤ 1125899906842624))) = mayT tu up dn := rfl
  rw [hc]
  cases hmay : mayT tu up dn with
  | false =>
    have hp : F_conf_Parse (headL ++ linesL tu up dn 0 m) = some (0, 0, 0, 0, 0, 0, 0, [], 2) := by
      unfold F_conf_Parse
      obtain ⟨k, rfl⟩ : ∃ k, m = k + 1 := ⟨m - 1, by omega⟩
      rw [Nat.ble_eq_true_of_le hlen, cond_true, head_parse, lines_fail b1 b2 b3 hmay k _ rfl]
      rfl
    rw [hp]
    rfl
  | true =>
    have hm2 := hmay
    unfold mayT at hm2
    simp only [Bool.and_eq_true, decide_eq_true_eq] at hm2
    obtain ⟨U, hU⟩ : ∃ U, U = (List.range m).map (usrT tu up dn rs3) := ⟨_, rfl⟩
    have hUl : U.length = m := by rw [hU]; simp
    have hp : F_conf_Parse (headL ++ linesL tu up dn 0 m) = some (16, 100, 300, 60, 500, 50, 16384, U, 0) := by
      unfold F_conf_Parse
      rw [Nat.ble_eq_true_of_le hlen, cond_true, head_parse, lines_parse b1 b2 b3 hmay m 0 _ (by omega) rfl, Nat.zero_add, ← hU]
      rfl
    have hUa : ∀ i, i < m → U[i]? = some (usrT tu up dn rs3 i) := fun i hi => by
      rw [hU, List.getElem?_map, List.getElem?_range hi]; rfl
    have hsm : ∀ v ∈ U, smallU v ∧ feq .f64 v.2.2.2.1.1 v.2.2.2.1.1 = true ∧ feq .f64 v.2.2.2.1.2 v.2.2.2.1.2 = true := fun v hv => by
      rw [hU] at hv
      obtain ⟨i, _, rfl⟩ := List.mem_map.1 hv
      refine ⟨⟨?_, ?_, ?_⟩, feq_fl (by omega), feq_fl (by omega)⟩
      · show 1 ≤ _; omega
      · show (digT i).length ≤ _
        rw [show (digT i).length = 32 from sumL_len _]; omega
      · show 3 ≤ _; omega
    rw [hp, Option.bind_some]
    dsimp only
    rw [hUl, hm]
    simp only [Bool.not_true, cond_false, bne_self_eq_false]
    have hloop : ∀ (k i : Nat), i + k = m → loopC (F_wlvlaw28_TaleLines_L15 us tu) ((i : Int), (16 : Int), (100 : Int), (300 : Int), (60 : Int), (500 : Int), (50 : Int), (16384 : Int), U) = some (.inr (16, 100, 300, 60, 500, 50, 16384, U)) := fun k => by
      induction k with
      | zero =>
        intro i hi
        refine loop_inl ?_
        unfold F_wlvlaw28_TaleLines_L15
        dsimp only
        rw [hm, decide_eq_false (by omega), cond_false]
      | succ k ih =>
        intro i hi
        refine loop_inr ?_ (ih (i + 1) (by omega))
        obtain ⟨y, y1, y2⟩ := find_there (c1 := 16) (c2 := 100) (c3 := 300) (c4 := 60) (c5 := 500) (c6 := 50) (c7 := 16384) (hUa i (by omega)) rfl (by omega) fun v hv => (hsm v hv).1
        unfold F_wlvlaw28_TaleLines_L15
        dsimp only
        rw [hm, decide_eq_true (by omega), cond_true, gI_nat (hUa i (by omega)), Option.bind_some, y1, Option.bind_some, y2]
        simp only [Bool.not_true, cond_false]
        rw [show (((usrT tu up dn rs3 i).2.2.2.2.length : Int) != 3) = false from rfl, cond_false, show ((usrT tu up dn rs3 i).2.2.1 != tu) = false from bne_self_eq_false tu, cond_false]
        rw [show getI (usrT tu up dn rs3 i).2.2.2.2 2 = some r3T from rfl, Option.bind_some, show (!(bEq r3T.1 true)) = false from rfl, cond_false, show getI (usrT tu up dn rs3 i).2.2.2.2 0 = some r1T from rfl, Option.bind_some, show r1T.1 = false from rfl, cond_false, wrap_in (by omega) (by omega)]
        rfl
    rw [join_inr (show loopC (F_wlvlaw28_TaleLines_L15 us tu) ((0 : Int), (16 : Int), (100 : Int), (300 : Int), (60 : Int), (500 : Int), (50 : Int), (16384 : Int), U) = _ from hloop m 0 (by omega))]
    unfold F_wlvlaw28_TaleLines_J13
    dsimp only
    rw [first28, Option.bind_some, cond_true, Same_refl (by omega) hsm]
    rfl
end Go.Proofs.YtgfmfgombmpodaaGreatDoor
