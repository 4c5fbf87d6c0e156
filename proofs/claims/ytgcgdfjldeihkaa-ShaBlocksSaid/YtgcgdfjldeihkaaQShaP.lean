/- The two roads of sha tell the same sums. -/
import Derived.Test.YtgcgdfjldeihkaaQShaK
namespace Go.Proofs.Ytgcgdfjldeihkaa
open Pv
set_option linter.unusedVariables false
theorem ck_t {α : Type} {b : Bool} (h : b = true) (x : Option α) : chk b x = x := by rw [h]; rfl
/-! ### words -/
def cv (v : BitVec 32) : Int := IntKind.u32.wrap (v.toNat : Int)
theorem b_xor (x y : Int) : bits .xor .u32 x y = cv (BitVec.ofInt 32 x ^^^ BitVec.ofInt 32 y) := rfl
theorem b_and (x y : Int) : bits .and .u32 x y = cv (BitVec.ofInt 32 x &&& BitVec.ofInt 32 y) := rfl
theorem b_or (x y : Int) : bits .or .u32 x y = cv (BitVec.ofInt 32 x ||| BitVec.ofInt 32 y) := rfl
theorem of_cv (v : BitVec 32) : BitVec.ofInt 32 (cv v) = v := by
  unfold cv
  have h : IntKind.u32.wrap (v.toNat : Int) = ((v.toNat : Nat) : Int) := by
    show ((v.toNat : Nat) : Int) % 4294967296 = _
    have := v.isLt
    omega
  rw [h, BitVec.ofInt_natCast, BitVec.ofNat_toNat, BitVec.setWidth_eq]
theorem or_comm32 (x y : Int) : bits .or .u32 x y = bits .or .u32 y x := by rw [b_or, b_or, BitVec.or_comm]
theorem ch_eq (e f g : Int) : bits .xor .u32 g (bits .and .u32 e (bits .xor .u32 f g)) = bits .xor .u32 (bits .and .u32 e f) (bits .and .u32 (bits .xor .u32 4294967295 e) g) := by
  simp only [b_xor, b_and, of_cv]
  congr 1
  have hm : BitVec.ofInt 32 4294967295 = BitVec.allOnes 32 := by decide
  rw [hm]
  generalize BitVec.ofInt 32 e = E
  generalize BitVec.ofInt 32 f = F
  generalize BitVec.ofInt 32 g = G
  apply BitVec.eq_of_getLsbD_eq
  intro i hi
  simp only [BitVec.getLsbD_xor, BitVec.getLsbD_and, BitVec.getLsbD_allOnes, hi, decide_true]
  cases E.getLsbD i <;> cases F.getLsbD i <;> cases G.getLsbD i <;> rfl
theorem maj_eq (a b c : Int) : bits .or .u32 (bits .and .u32 a (bits .or .u32 b c)) (bits .and .u32 b c) = bits .xor .u32 (bits .xor .u32 (bits .and .u32 a b) (bits .and .u32 a c)) (bits .and .u32 b c) := by
  simp only [b_xor, b_and, b_or, of_cv]
  congr 1
  generalize BitVec.ofInt 32 a = E
  generalize BitVec.ofInt 32 b = F
  generalize BitVec.ofInt 32 c = G
  apply BitVec.eq_of_getLsbD_eq
  intro i hi
  simp only [BitVec.getLsbD_xor, BitVec.getLsbD_and, BitVec.getLsbD_or]
  cases E.getLsbD i <;> cases F.getLsbD i <;> cases G.getLsbD i <;> rfl
theorem sum_eq (a b s t : Int) : IntKind.u32.wrap (IntKind.u32.wrap (IntKind.u32.wrap (a + s) + b) + t) = IntKind.u32.wrap (IntKind.u32.wrap (IntKind.u32.wrap (a + b) + s) + t) := by
  show (((a + s) % 4294967296 + b) % 4294967296 + t) % 4294967296 = (((a + b) % 4294967296 + s) % 4294967296 + t) % 4294967296
  omega
/-- A word turned to the right. -/
def rr (x : Int) (k : Nat) : Int := bits .or .u32 (IntKind.u32.wrap (x * 2 ^ (32 - k))) (Int.fdiv x (2 ^ k))
theorem tab_rot : (List.range 31).all (fun j => (bits .and .u64 (IntKind.u64.wrap (-((j + 1 : Nat) : Int))) 31 == ((31 - j : Nat) : Int)) && (IntKind.u64.wrap (32 - ((31 - j : Nat) : Int)) == ((j + 1 : Nat) : Int)) && (IntKind.u64.wrap ((j + 1 : Nat) : Int) == ((j + 1 : Nat) : Int)) && (IntKind.u64.wrap (IntKind.i64.wrap (32 - ((j + 1 : Nat) : Int))) == ((31 - j : Nat) : Int))) = true := by kernel_rfl
theorem rot_eq (x : Int) {k : Nat} (h1 : 1 ≤ k) (h2 : k ≤ 31) {m : Int} (hm : m = -(k : Int)) : F_math_bits_RotateLeft32 x m = some (rr x k) := by
  subst hm
  have := List.all_eq_true.1 tab_rot (k - 1) (List.mem_range.2 (by omega))
  rw [show k - 1 + 1 = k by omega] at this
  simp only [Bool.and_eq_true, beq_iff_eq] at this
  obtain ⟨⟨⟨t1, t2⟩, _⟩, _⟩ := this
  unfold F_math_bits_RotateLeft32 rr
  rw [t1, t2, ck_t (by first | rfl | (simp; done) | (simp; omega)), ck_t (by first | rfl | (simp; done) | (simp; omega)), Int.toNat_natCast, Int.toNat_natCast, Nat.min_eq_left (by omega), Nat.min_eq_left (by omega), show 31 - (k - 1) = 32 - k by omega]
theorem turn_eq (x : Int) {k : Nat} (h1 : 1 ≤ k) (h2 : k ≤ 31) {m : Int} (hm : m = (k : Int)) : F_wlvref1_turn x m = some (rr x k) := by
  subst hm
  have := List.all_eq_true.1 tab_rot (k - 1) (List.mem_range.2 (by omega))
  rw [show k - 1 + 1 = k by omega] at this
  simp only [Bool.and_eq_true, beq_iff_eq] at this
  obtain ⟨⟨_, t3⟩, t4⟩ := this
  unfold F_wlvref1_turn rr
  rw [t3, t4, ck_t (by first | rfl | (simp; done) | (simp; omega)), ck_t (by first | rfl | (simp; done) | (simp; omega)), Int.toNat_natCast, Int.toNat_natCast, Nat.min_eq_left (by omega), Nat.min_eq_left (by omega), show 31 - (k - 1) = 32 - k by omega, or_comm32]
/-! ### a block's words -/
def word (m : List Int) (i : Nat) : Int := bits .or .u32 (bits .or .u32 (bits .or .u32 (IntKind.u32.wrap ((IntKind.u32.wrap (m.getD (4 * i) 0)) * 2 ^ 24)) (IntKind.u32.wrap ((IntKind.u32.wrap (m.getD (4 * i + 1) 0)) * 2 ^ 16))) (IntKind.u32.wrap ((IntKind.u32.wrap (m.getD (4 * i + 2) 0)) * 2 ^ 8))) (IntKind.u32.wrap (m.getD (4 * i + 3) 0))
def s0 (x : Int) : Int := bits .xor .u32 (bits .xor .u32 (rr x 7) (rr x 18)) (Int.fdiv x (2 ^ 3))
def s1 (x : Int) : Int := bits .xor .u32 (bits .xor .u32 (rr x 17) (rr x 19)) (Int.fdiv x (2 ^ 10))
def wNew (w : List Int) (i : Nat) : Int := IntKind.u32.wrap (IntKind.u32.wrap (IntKind.u32.wrap (w.getD (i - 16) 0 + w.getD (i - 7) 0) + s0 (w.getD (i - 15) 0)) + s1 (w.getD (i - 2) 0))
def wAt (m : List Int) : Nat → List Int
  | 0 => List.replicate 64 0
  | i + 1 => (wAt m i).set i (if i < 16 then word m i else wNew (wAt m i) i)
theorem wAt_len (m : List Int) : ∀ i, (wAt m i).length = 64
  | 0 => rfl
  | i + 1 => by
    show ((wAt m i).set i _).length = 64
    rw [List.length_set, wAt_len m i]
theorem w_sha (m h : List Int) (hm : m.length = 64) : ∀ k i : Nat, i + k = 64 → loopC (F_sha_state_turned_L3 m) ((i : Int), h, wAt m i) = some (.inr (h, wAt m 64))
  | 0, i, hk => by
    refine loop_inl ?_
    unfold F_sha_state_turned_L3
    dsimp only
    rw [decide_eq_false (show ¬ (i : Int) < 64 by omega), cond_false, show i = 64 by omega]
  | k + 1, i, hk => by
    have hw := wAt_len m i
    refine loop_inr (s' := (((i + 1 : Nat) : Int), h, wAt m (i + 1))) ?_ (w_sha m h hm k (i + 1) (by omega))
    unfold F_sha_state_turned_L3
    dsimp only
    rw [decide_eq_true (show (i : Int) < 64 by omega), cond_true]
    show _ = some (Sum.inr (((i + 1 : Nat) : Int), h, (wAt m i).set i (if i < 16 then word m i else wNew (wAt m i) i)))
    rw [wrap_in (x := (i : Int) + 1) (by omega) (by omega)]
    by_cases h16 : i < 16
    · rw [decide_eq_true (show (i : Int) < 16 by omega), cond_true, if_pos h16, wrap_in (x := 4 * (i : Int)) (by omega) (by omega), wrap_in (x := 4 * (i : Int) + 1) (by omega) (by omega), wrap_in (x := 4 * (i : Int) + 2) (by omega) (by omega), wrap_in (x := 4 * (i : Int) + 3) (by omega) (by omega), show 4 * (i : Int) = ((4 * i : Nat) : Int) by omega, show ((4 * i : Nat) : Int) + 1 = ((4 * i + 1 : Nat) : Int) by omega, show ((4 * i : Nat) : Int) + 2 = ((4 * i + 2 : Nat) : Int) by omega, show ((4 * i : Nat) : Int) + 3 = ((4 * i + 3 : Nat) : Int) by omega,
        gI_D (by omega), Option.bind_some, gI_D (by omega), Option.bind_some, gI_D (by omega), Option.bind_some, gI_D (by omega), Option.bind_some, ck_t (by first | rfl | (simp; done) | (simp; omega)), ck_t (by first | rfl | (simp; done) | (simp; omega)), Int.toNat_natCast]
      rfl
    · rw [decide_eq_false (show ¬ (i : Int) < 16 by omega), cond_false, if_neg h16, wrap_in (x := (i : Int) - 15) (by omega) (by omega), wrap_in (x := (i : Int) - 2) (by omega) (by omega), wrap_in (x := (i : Int) - 16) (by omega) (by omega), wrap_in (x := (i : Int) - 7) (by omega) (by omega), show (i : Int) - 15 = ((i - 15 : Nat) : Int) by omega, show (i : Int) - 2 = ((i - 2 : Nat) : Int) by omega, show (i : Int) - 16 = ((i - 16 : Nat) : Int) by omega, show (i : Int) - 7 = ((i - 7 : Nat) : Int) by omega,
        ck_t (by first | rfl | (simp; done) | (simp; omega)), gI_D (by omega), Option.bind_some, ck_t (by first | rfl | (simp; done) | (simp; omega)), gI_D (by omega), Option.bind_some, ck_t (by first | rfl | (simp; done) | (simp; omega)), gI_D (by omega), Option.bind_some, ck_t (by first | rfl | (simp; done) | (simp; omega)), gI_D (by omega), Option.bind_some,
        rot_eq _ (k := 7) (by omega) (by omega) (m := -7) rfl, Option.bind_some, rot_eq _ (k := 18) (by omega) (by omega) (m := -18) rfl, Option.bind_some, rot_eq _ (k := 17) (by omega) (by omega) (m := -17) rfl, Option.bind_some, rot_eq _ (k := 19) (by omega) (by omega) (m := -19) rfl, Option.bind_some, ck_t (by first | rfl | (simp; done) | (simp; omega)), ck_t (by first | rfl | (simp; done) | (simp; omega)), Int.toNat_natCast]
      rfl
theorem w_ref (m h kk r8 : List Int) (hm : m.length = 64) : ∀ k i : Nat, i + k = 64 → loopC (F_wlvref1_block_L4 m) ((i : Int), h, kk, r8, wAt m i) = some (.inr (h, kk, r8, wAt m 64))
  | 0, i, hk => by
    refine loop_inl ?_
    unfold F_wlvref1_block_L4
    dsimp only
    rw [decide_eq_false (show ¬ (i : Int) < 64 by omega), cond_false, show i = 64 by omega]
  | k + 1, i, hk => by
    have hw := wAt_len m i
    refine loop_inr (s' := (((i + 1 : Nat) : Int), h, kk, r8, wAt m (i + 1))) ?_ (w_ref m h kk r8 hm k (i + 1) (by omega))
    unfold F_wlvref1_block_L4
    dsimp only
    rw [decide_eq_true (show (i : Int) < 64 by omega), cond_true]
    show _ = some (Sum.inr (((i + 1 : Nat) : Int), h, kk, r8, (wAt m i).set i (if i < 16 then word m i else wNew (wAt m i) i)))
    rw [wrap_in (x := (i : Int) + 1) (by omega) (by omega)]
    by_cases h16 : i < 16
    · rw [decide_eq_true (show (i : Int) < 16 by omega), cond_true, if_pos h16, wrap_in (x := 4 * (i : Int)) (by omega) (by omega), wrap_in (x := 4 * (i : Int) + 1) (by omega) (by omega), wrap_in (x := 4 * (i : Int) + 2) (by omega) (by omega), wrap_in (x := 4 * (i : Int) + 3) (by omega) (by omega), show 4 * (i : Int) = ((4 * i : Nat) : Int) by omega, show ((4 * i : Nat) : Int) + 1 = ((4 * i + 1 : Nat) : Int) by omega, show ((4 * i : Nat) : Int) + 2 = ((4 * i + 2 : Nat) : Int) by omega, show ((4 * i : Nat) : Int) + 3 = ((4 * i + 3 : Nat) : Int) by omega,
        gI_D (by omega), Option.bind_some, gI_D (by omega), Option.bind_some, gI_D (by omega), Option.bind_some, gI_D (by omega), Option.bind_some, ck_t (by first | rfl | (simp; done) | (simp; omega)), ck_t (by first | rfl | (simp; done) | (simp; omega)), Int.toNat_natCast]
      rfl
    · rw [decide_eq_false (show ¬ (i : Int) < 16 by omega), cond_false, if_neg h16, wrap_in (x := (i : Int) - 15) (by omega) (by omega), wrap_in (x := (i : Int) - 2) (by omega) (by omega), wrap_in (x := (i : Int) - 16) (by omega) (by omega), wrap_in (x := (i : Int) - 7) (by omega) (by omega), show (i : Int) - 15 = ((i - 15 : Nat) : Int) by omega, show (i : Int) - 2 = ((i - 2 : Nat) : Int) by omega, show (i : Int) - 16 = ((i - 16 : Nat) : Int) by omega, show (i : Int) - 7 = ((i - 7 : Nat) : Int) by omega,
        ck_t (by first | rfl | (simp; done) | (simp; omega)), gI_D (by omega), Option.bind_some, ck_t (by first | rfl | (simp; done) | (simp; omega)), gI_D (by omega), Option.bind_some, ck_t (by first | rfl | (simp; done) | (simp; omega)), gI_D (by omega), Option.bind_some,
        turn_eq _ (k := 7) (by omega) (by omega) (m := 7) rfl, Option.bind_some, turn_eq _ (k := 18) (by omega) (by omega) (m := 18) rfl, Option.bind_some, ck_t (by first | rfl | (simp; done) | (simp; omega)), gI_D (by omega), Option.bind_some, turn_eq _ (k := 17) (by omega) (by omega) (m := 17) rfl, Option.bind_some, turn_eq _ (k := 19) (by omega) (by omega) (m := 19) rfl, Option.bind_some, ck_t (by first | rfl | (simp; done) | (simp; omega)), ck_t (by first | rfl | (simp; done) | (simp; omega)), Int.toNat_natCast, sum_eq]
      rfl
/-! ### a block's rounds -/
def rnd (k w : Int) : List Int → List Int
  | [a, b, c, d, e, f, g, h] =>
    let x := IntKind.u32.wrap (IntKind.u32.wrap (IntKind.u32.wrap (IntKind.u32.wrap (h + bits .xor .u32 (bits .xor .u32 (rr e 6) (rr e 11)) (rr e 25)) + bits .xor .u32 g (bits .and .u32 e (bits .xor .u32 f g))) + k) + w)
    let y := IntKind.u32.wrap (bits .xor .u32 (bits .xor .u32 (rr a 2) (rr a 13)) (rr a 22) + bits .or .u32 (bits .and .u32 a (bits .or .u32 b c)) (bits .and .u32 b c))
    [IntKind.u32.wrap (x + y), a, b, c, IntKind.u32.wrap (d + x), e, f, g]
  | v => v
theorem eight {v : List Int} (h : v.length = 8) : ∃ a b c d e f g i, v = [a, b, c, d, e, f, g, i] := by
  match v, h with
  | [a, b, c, d, e, f, g, i], _ => exact ⟨a, b, c, d, e, f, g, i, rfl⟩
theorem rnd_len (k w : Int) {v : List Int} (h : v.length = 8) : (rnd k w v).length = 8 := by
  obtain ⟨a, b, c, d, e, f, g, i, rfl⟩ := eight h
  rfl
def vAt (kk w h : List Int) : Nat → List Int
  | 0 => h
  | i + 1 => rnd (kk.getD i 0) (w.getD i 0) (vAt kk w h i)
theorem vAt_len {kk w h : List Int} (hh : h.length = 8) : ∀ i, (vAt kk w h i).length = 8
  | 0 => hh
  | i + 1 => rnd_len _ _ (vAt_len hh i)
theorem v_sha (kk w h : List Int) (hk : kk.length = 64) (hw : w.length = 64) (hh : h.length = 8) : ∀ k i : Nat, i + k = 64 → loopC (F_sha_state_turned_L15 kk) ((i : Int), h, w, vAt kk w h i) = some (.inr (h, vAt kk w h 64))
  | 0, i, hi => by
    refine loop_inl ?_
    unfold F_sha_state_turned_L15
    dsimp only
    rw [decide_eq_false (show ¬ (i : Int) < 64 by omega), cond_false, show i = 64 by omega]
  | k + 1, i, hi => by
    refine loop_inr (s' := (((i + 1 : Nat) : Int), h, w, vAt kk w h (i + 1))) ?_ (v_sha kk w h hk hw hh k (i + 1) (by omega))
    show _ = some (Sum.inr (((i + 1 : Nat) : Int), h, w, rnd (kk.getD i 0) (w.getD i 0) (vAt kk w h i)))
    obtain ⟨a, b, c, d, e, f, g, z, hv⟩ := eight (vAt_len (kk := kk) (w := w) hh i)
    rw [hv]
    unfold F_sha_state_turned_L15
    dsimp only
    have g0 : getI [a, b, c, d, e, f, g, z] (0 : Int) = some a := rfl
    have g1 : getI [a, b, c, d, e, f, g, z] (1 : Int) = some b := rfl
    have g2 : getI [a, b, c, d, e, f, g, z] (2 : Int) = some c := rfl
    have g3 : getI [a, b, c, d, e, f, g, z] (3 : Int) = some d := rfl
    have g4 : getI [a, b, c, d, e, f, g, z] (4 : Int) = some e := rfl
    have g5 : getI [a, b, c, d, e, f, g, z] (5 : Int) = some f := rfl
    have g6 : getI [a, b, c, d, e, f, g, z] (6 : Int) = some g := rfl
    have g7 : getI [a, b, c, d, e, f, g, z] (7 : Int) = some z := rfl
    rw [decide_eq_true (show (i : Int) < 64 by omega), cond_true, g0, g1, g2, g3, g4, g5, g6, g7, gI_D (show i < kk.length by omega), gI_D (show i < w.length by omega)]
    simp only [Option.bind_some]
    rw [rot_eq e (k := 6) (by omega) (by omega) (m := -6) rfl, rot_eq e (k := 11) (by omega) (by omega) (m := -11) rfl, rot_eq e (k := 25) (by omega) (by omega) (m := -25) rfl, rot_eq a (k := 2) (by omega) (by omega) (m := -2) rfl, rot_eq a (k := 13) (by omega) (by omega) (m := -13) rfl, rot_eq a (k := 22) (by omega) (by omega) (m := -22) rfl]
    simp only [Option.bind_some]
    rw [ck_t (by first | rfl | (simp; done) | (simp; omega)), wrap_in (x := (i : Int) + 1) (by omega) (by omega)]
    rfl
theorem v_ref (kk w r8 h : List Int) (hk : kk.length = 64) (hw : w.length = 64) (hh : h.length = 8) : ∀ k i : Nat, i + k = 64 → loopC F_wlvref1_block_L15 ((i : Int), h, kk, r8, w, vAt kk w h i) = some (.inr (h, r8, vAt kk w h 64))
  | 0, i, hi => by
    refine loop_inl ?_
    unfold F_wlvref1_block_L15
    dsimp only
    rw [decide_eq_false (show ¬ (i : Int) < 64 by omega), cond_false, show i = 64 by omega]
  | k + 1, i, hi => by
    refine loop_inr (s' := (((i + 1 : Nat) : Int), h, kk, r8, w, vAt kk w h (i + 1))) ?_ (v_ref kk w r8 h hk hw hh k (i + 1) (by omega))
    show _ = some (Sum.inr (((i + 1 : Nat) : Int), h, kk, r8, w, rnd (kk.getD i 0) (w.getD i 0) (vAt kk w h i)))
    obtain ⟨a, b, c, d, e, f, g, z, hv⟩ := eight (vAt_len (kk := kk) (w := w) hh i)
    rw [hv]
    unfold F_wlvref1_block_L15
    dsimp only
    have g0 : getI [a, b, c, d, e, f, g, z] (0 : Int) = some a := rfl
    have g1 : getI [a, b, c, d, e, f, g, z] (1 : Int) = some b := rfl
    have g2 : getI [a, b, c, d, e, f, g, z] (2 : Int) = some c := rfl
    have g3 : getI [a, b, c, d, e, f, g, z] (3 : Int) = some d := rfl
    have g4 : getI [a, b, c, d, e, f, g, z] (4 : Int) = some e := rfl
    have g5 : getI [a, b, c, d, e, f, g, z] (5 : Int) = some f := rfl
    have g6 : getI [a, b, c, d, e, f, g, z] (6 : Int) = some g := rfl
    have g7 : getI [a, b, c, d, e, f, g, z] (7 : Int) = some z := rfl
    rw [decide_eq_true (show (i : Int) < 64 by omega), cond_true, g0, g1, g2, g3, g4, g5, g6, g7, gI_D (show i < kk.length by omega), gI_D (show i < w.length by omega)]
    simp only [Option.bind_some]
    rw [turn_eq e (k := 6) (by omega) (by omega) (m := 6) rfl, turn_eq e (k := 11) (by omega) (by omega) (m := 11) rfl, turn_eq e (k := 25) (by omega) (by omega) (m := 25) rfl, turn_eq a (k := 2) (by omega) (by omega) (m := 2) rfl, turn_eq a (k := 13) (by omega) (by omega) (m := 13) rfl, turn_eq a (k := 22) (by omega) (by omega) (m := 22) rfl]
    simp only [Option.bind_some]
    rw [ck_t (by first | rfl | (simp; done) | (simp; omega)), ck_t (by first | rfl | (simp; done) | (simp; omega)), wrap_in (x := (i : Int) + 1) (by omega) (by omega), ← ch_eq, ← maj_eq]
    rfl
/-- What a block makes of a state. -/
def addV (h v : List Int) : List Int := (List.range 8).map fun i => IntKind.u32.wrap (h.getD i 0 + v.getD i 0)
def blk (kk h m : List Int) : List Int := addV h (vAt kk (wAt m 64) h 64)
theorem addV_len (h v : List Int) : (addV h v).length = 8 := rfl
theorem add_sha {h v : List Int} (hh : h.length = 8) (hv : v.length = 8) : loopC F_sha_state_turned_L24 (0, h, v) = some (addV h v) := by
  obtain ⟨a, b, c, d, e, f, g, z, rfl⟩ := eight hh
  obtain ⟨a2, b2, c2, d2, e2, f2, g2, z2, rfl⟩ := eight hv
  exact loop_of_iter (n := 9) rfl
theorem add_ref {h v r8 : List Int} (hh : h.length = 8) (hv : v.length = 8) : loopC F_wlvref1_block_L24 (0, h, r8, v) = some (.inr (addV h v, r8)) := by
  obtain ⟨a, b, c, d, e, f, g, z, rfl⟩ := eight hh
  obtain ⟨a2, b2, c2, d2, e2, f2, g2, z2, rfl⟩ := eight hv
  exact loop_of_iter (n := 9) rfl
theorem turned_sha {h m kk : List Int} (hh : h.length = 8) (hm : m.length = 64) (hk : kk.length = 64) : F_sha_state_turned h m kk = some (blk kk h m) := by
  unfold F_sha_state_turned
  refine (join_inr (w_sha m h hm 64 0 rfl)).trans ?_
  unfold F_sha_state_turned_J1
  dsimp only
  refine (join_inr (v_sha kk (wAt m 64) h hk (wAt_len m 64) hh 64 0 rfl)).trans ?_
  unfold F_sha_state_turned_J13
  dsimp only
  exact add_sha hh (vAt_len hh 64)
theorem block_ref {h m kk : List Int} (hh : h.length = 8) (hm : m.length = 64) (hk : kk.length = 64) : F_wlvref1_block h kk m = some (blk kk h m) := by
  unfold F_wlvref1_block
  refine (join_inr (w_ref m h kk (List.replicate 8 ((0 : Nat) : Int)) hm 64 0 rfl)).trans ?_
  unfold F_wlvref1_block_J2
  dsimp only
  refine (join_inr (v_ref kk (wAt m 64) _ h hk (wAt_len m 64) hh 64 0 rfl)).trans ?_
  unfold F_wlvref1_block_J13
  dsimp only
  rw [join_inr (add_ref hh (vAt_len hh 64))]
  rfl
end Go.Proofs.Ytgcgdfjldeihkaa
