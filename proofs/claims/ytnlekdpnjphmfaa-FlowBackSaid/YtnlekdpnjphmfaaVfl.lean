/- Whole numbers in float64: exact up to 2^53. -/
import Ieee.Arith
import GoSem.Core.Float
namespace Go.Proofs.Ytnlekdpnjphmfaa
namespace Vc
open Ieee
theorem log2_mul {m : Nat} (hm : m ≠ 0) (k : Nat) : (m * 2 ^ k).log2 = m.log2 + k := by
  have h := (Nat.log2_eq_iff hm).1 rfl
  have hp : 0 < 2 ^ k := Nat.two_pow_pos k
  rw [Nat.log2_eq_iff (by have := Nat.mul_pos (Nat.pos_of_ne_zero hm) hp; omega)]
  rw [Nat.pow_add, show m.log2 + k + 1 = (m.log2 + 1) + k by omega, Nat.pow_add]
  exact ⟨Nat.mul_le_mul_right _ h.1, Nat.mul_lt_mul_of_pos_right h.2 hp⟩
theorem log2_lt {m : Nat} (h : m < 2 ^ 53) : m.log2 ≤ 52 := by
  by_cases hm : m = 0
  · subst hm; decide
  · have h1 := (Nat.log2_eq_iff hm).1 rfl
    rcases Nat.lt_or_ge 52 m.log2 with h2 | h2
    · have : 2 ^ 53 ≤ 2 ^ m.log2 := Nat.pow_le_pow_right (by decide) h2
      omega
    · exact h2
theorem cut_exact (way : Toward) (neg : Bool) (q d : Nat) (hw : way = .even ∨ way = .zero) : way.cut neg (q * 2 ^ d) d = q := by
  by_cases hq : q = 0
  · subst hq
    have hg : 0 < 1 <<< min d ((0 * 2 ^ d).log2 + 2) := by rw [Nat.shiftLeft_eq, Nat.one_mul]; exact Nat.two_pow_pos _
    unfold Toward.cut
    simp only [Nat.zero_mul, Nat.zero_div, Nat.zero_mod] at hg ⊢
    rcases hw with rfl | rfl
    · simp
    · simp
  · have hl := log2_mul hq d
    unfold Toward.cut
    rw [hl, show min d (q.log2 + d + 2) = d by omega, Nat.shiftLeft_eq, Nat.one_mul]
    dsimp only
    rw [Nat.mul_div_cancel _ (Nat.two_pow_pos d), Nat.mul_mod_left]
    have : 2 ^ d ≠ 0 := Nat.ne_of_gt (Nat.two_pow_pos d)
    rcases hw with rfl | rfl
    · simp
    · simp
/-- The word of a whole number. -/
def fw (neg : Bool) (m : Nat) : Nat := if m = 0 then double.word neg 0 else double.word neg ((m.log2 + 1022) * 2 ^ 52 + m * 2 ^ (52 - m.log2))
theorem near (neg : Bool) {m : Nat} (h : m < 2 ^ 53) (k : Nat) : double.nearest neg (m * 2 ^ k) (-(k : Int)) = fw neg m := by
  have hL := log2_lt h
  by_cases hm : m = 0
  · subst hm; simp [Format.nearest, fw]
  · have hk : m * 2 ^ k ≠ 0 := by have := Nat.mul_pos (Nat.pos_of_ne_zero hm) (Nat.two_pow_pos k); omega
    have hlog := log2_mul hm k
    have hb := (Nat.log2_eq_iff hm).1 rfl
    have hle : double.leastPlace = -1074 := by decide
    have hf : double.fractionBits = 52 := rfl
    unfold Format.nearest fw
    rw [if_neg hk, if_neg hm, hlog, hle, hf]
    have hlast : max (-(k : Int) + ((m.log2 + k : Nat) : Int) - ((52 : Nat) : Int)) (-1074) = (m.log2 : Int) - 52 := by omega
    simp only [hlast]
    have hkept : Toward.even.cut neg ((m * 2 ^ k) <<< (-(k : Int) - ((m.log2 : Int) - 52)).toNat) ((m.log2 : Int) - 52 - -(k : Int)).toNat = m * 2 ^ (52 - m.log2) := by
      by_cases hc : k ≤ 52 - m.log2
      · rw [show (-(k : Int) - ((m.log2 : Int) - 52)).toNat = 52 - m.log2 - k by omega, show ((m.log2 : Int) - 52 - -(k : Int)).toNat = 0 by omega, Nat.shiftLeft_eq, Nat.mul_assoc, ← Nat.pow_add,
          show k + (52 - m.log2 - k) = 52 - m.log2 by omega]
        have := cut_exact .even neg (m * 2 ^ (52 - m.log2)) 0 (.inl rfl)
        rwa [Nat.pow_zero, Nat.mul_one] at this
      · rw [show (-(k : Int) - ((m.log2 : Int) - 52)).toNat = 0 by omega, show ((m.log2 : Int) - 52 - -(k : Int)).toNat = k - (52 - m.log2) by omega, Nat.shiftLeft_eq, Nat.pow_zero, Nat.mul_one]
        have := cut_exact .even neg (m * 2 ^ (52 - m.log2)) (k - (52 - m.log2)) (.inl rfl)
        rwa [Nat.mul_assoc, ← Nat.pow_add, show 52 - m.log2 + (k - (52 - m.log2)) = k by omega] at this
    rw [hkept, show ((m.log2 : Int) - 52 - -1074).toNat = m.log2 + 1022 by omega]
    have hbin : double.binade = 2 ^ 52 := rfl
    have hinf : double.infRung = 2047 * 2 ^ 52 := rfl
    rw [hbin, hinf]
    have hlt : m * 2 ^ (52 - m.log2) < 2 ^ 53 := by
      have := Nat.mul_lt_mul_of_pos_right hb.2 (Nat.two_pow_pos (52 - m.log2))
      rw [← Nat.pow_add, show m.log2 + 1 + (52 - m.log2) = 53 by omega] at this
      exact this
    generalize m * 2 ^ (52 - m.log2) = K at hlt ⊢
    rw [Nat.min_eq_left (by omega)]
def fl (n : Int) : Nat := FloatKind.f64.nearest n
theorem fl_fw {n : Int} (h : n.natAbs < 2 ^ 53) : fl n = fw (decide (n < 0)) n.natAbs := by
  have := near (decide (n < 0)) h 0
  rw [Nat.pow_zero, Nat.mul_one] at this
  exact this
/-- What stands for the whole number n. -/
def Stands (d : Datum) (n : Int) : Prop := ∃ k : Nat, d = .number (decide (n < 0)) (n.natAbs * 2 ^ k) (-(k : Int))
theorem stands0 : Stands (.number false 0 (-1074)) 0 := by
  refine ⟨1074, ?_⟩
  generalize (2 : Nat) ^ 1074 = z
  rw [show Int.natAbs 0 * z = 0 from Nat.zero_mul z]
  rfl
theorem read_fl {n : Int} (h : n.natAbs < 2 ^ 53) : Stands (double.read (fl n)) n := by
  rw [fl_fw h]
  unfold fw
  by_cases hm : n.natAbs = 0
  · have : n = 0 := by omega
    subst this
    have h2 : double.read (double.word (decide ((0 : Int) < 0)) 0) = .number false 0 (-1074) := by decide
    rw [if_pos hm, h2]
    exact stands0
  · rw [if_neg hm]
    have hL := log2_lt h
    have hb := (Nat.log2_eq_iff hm).1 rfl
    have h1 : 2 ^ 52 ≤ n.natAbs * 2 ^ (52 - n.natAbs.log2) := by
      have := Nat.mul_le_mul_right (2 ^ (52 - n.natAbs.log2)) hb.1
      rwa [← Nat.pow_add, show n.natAbs.log2 + (52 - n.natAbs.log2) = 52 by omega] at this
    have h2 : n.natAbs * 2 ^ (52 - n.natAbs.log2) < 2 ^ 53 := by
      have := Nat.mul_lt_mul_of_pos_right hb.2 (Nat.two_pow_pos (52 - n.natAbs.log2))
      rwa [← Nat.pow_add, show n.natAbs.log2 + 1 + (52 - n.natAbs.log2) = 53 by omega] at this
    refine ⟨52 - n.natAbs.log2, ?_⟩
    generalize hK : n.natAbs * 2 ^ (52 - n.natAbs.log2) = K at h1 h2 ⊢
    generalize n.natAbs.log2 = L at hL ⊢
    have hbin : double.binade = 4503599627370496 := by decide
    have hinf : double.infRung = 9218868437227405312 := by decide
    have hsw : double.signWeight = 9223372036854775808 := by decide
    have hle : double.leastPlace = -1074 := by decide
    have w1 : ∀ neg : Bool, double.word neg ((L + 1022) * 2 ^ 52 + K) / 9223372036854775808 % 2 = neg.toNat ∧ double.word neg ((L + 1022) * 2 ^ 52 + K) % 9223372036854775808 = (L + 1022) * 2 ^ 52 + K := fun neg => by
      unfold Format.word
      rw [hsw]
      cases neg <;> simp <;> omega
    obtain ⟨a1, a2⟩ := w1 (decide (n < 0))
    unfold Format.read
    rw [hsw, hbin, hinf, hle, a1, a2]
    simp only
    rw [if_neg (by omega), if_pos (by omega)]
    congr 1
    · cases decide (n < 0) <;> rfl
    · omega
    · omega
theorem signed_abs (n : Int) (k j : Nat) : signed (decide (n < 0)) (n.natAbs * 2 ^ k) j = n * 2 ^ (k + j) := by
  unfold signed
  rw [Nat.shiftLeft_eq, Nat.mul_assoc, ← Nat.pow_add]
  by_cases h : n < 0
  · simp only [h, decide_true, if_true]
    rw [Int.natCast_mul, Int.natCast_pow]
    have : (n.natAbs : Int) = -n := by omega
    rw [this, Int.neg_mul, Int.neg_neg]
    rfl
  · simp only [h, decide_false, Bool.false_eq_true, if_false]
    rw [Int.natCast_mul, Int.natCast_pow]
    have : (n.natAbs : Int) = n := by omega
    rw [this]
    rfl
theorem base_eq (k l : Nat) : min (-(k : Int)) (-(l : Int)) = -((max k l : Nat) : Int) := by omega
theorem order_stands {d e : Datum} {a b : Int} (hd : Stands d a) (he : Stands e b) : d.order e = some (compare a b) := by
  obtain ⟨k, rfl⟩ := hd
  obtain ⟨l, rfl⟩ := he
  unfold Datum.order
  simp only [base_eq]
  rw [show (-(k : Int) - -((max k l : Nat) : Int)).toNat = max k l - k by omega, show (-(l : Int) - -((max k l : Nat) : Int)).toNat = max k l - l by omega, signed_abs, signed_abs,
    show k + (max k l - k) = max k l by omega, show l + (max k l - l) = max k l by omega]
  have hp : (0 : Int) < 2 ^ (max k l) := Int.pow_pos (by decide)
  congr 1
  simp only [compare, compareOfLessAndEq]
  have e1 : a * 2 ^ max k l < b * 2 ^ max k l ↔ a < b := ⟨fun h => Int.lt_of_mul_lt_mul_right h (Int.le_of_lt hp), fun h => Int.mul_lt_mul_of_pos_right h hp⟩
  have e2 : a * 2 ^ max k l = b * 2 ^ max k l ↔ a = b := ⟨fun h => Int.eq_of_mul_eq_mul_right (by omega) h, fun h => by rw [h]⟩
  simp only [e1, e2]
theorem toInt_stands {d : Datum} {a : Int} (hd : Stands d a) : d.toInt .zero = some a := by
  obtain ⟨k, rfl⟩ := hd
  unfold Datum.toInt Datum.integral
  simp only
  rw [show (-(k : Int)).toNat = 0 by omega, show (- -(k : Int)).toNat = k by omega, Nat.shiftLeft_eq, Nat.pow_zero, Nat.mul_one, cut_exact .zero _ _ _ (.inr rfl)]
  have := signed_abs a 0 0
  simp only [Nat.pow_zero, Nat.mul_one] at this
  rw [this]
  simp
theorem opp_stands {d : Datum} {b : Int} (hd : Stands d b) (hb : b ≠ 0) : Stands d.opposite (-b) := by
  obtain ⟨k, rfl⟩ := hd
  refine ⟨k, ?_⟩
  unfold Datum.opposite
  simp only [Int.natAbs_neg]
  congr 1
  by_cases h : b < 0
  · have h2 : ¬ (-b < 0) := by omega
    rw [decide_eq_true h, decide_eq_false h2]; rfl
  · have h2 : -b < 0 := by omega
    rw [decide_eq_false h, decide_eq_true h2]; rfl
theorem sum_stands {d e : Datum} {a b : Int} (hd : Stands d a) (he : Stands e b) (h : (a + b).natAbs < 2 ^ 53) : (d.sum e).map double.write = some (fl (a + b)) := by
  obtain ⟨k, rfl⟩ := hd
  obtain ⟨l, rfl⟩ := he
  unfold Datum.sum
  simp only [base_eq]
  rw [show (-(k : Int) - -((max k l : Nat) : Int)).toNat = max k l - k by omega, show (-(l : Int) - -((max k l : Nat) : Int)).toNat = max k l - l by omega, signed_abs, signed_abs,
    show k + (max k l - k) = max k l by omega, show l + (max k l - l) = max k l by omega, ← Int.add_mul]
  have hp : (0 : Int) < 2 ^ (max k l) := Int.pow_pos (by decide)
  have hn : ((a + b) * 2 ^ max k l).natAbs = (a + b).natAbs * 2 ^ max k l := by rw [Int.natAbs_mul, Int.natAbs_pow]; rfl
  have hz : (if (a + b) * 2 ^ max k l = 0 then (decide (a < 0) && decide (b < 0)) else decide ((a + b) * 2 ^ max k l < 0)) = decide (a + b < 0) := by
    by_cases h0 : a + b = 0
    · rw [h0, Int.zero_mul, if_pos rfl]
      by_cases ha : a < 0
      · have : ¬ b < 0 := by omega
        simp [this]
      · simp [ha]
    · have hne : (a + b) * 2 ^ max k l ≠ 0 := Int.mul_ne_zero h0 (by omega)
      rw [if_neg hne]
      have : (a + b) * 2 ^ max k l < 0 ↔ a + b < 0 := ⟨fun hh => Int.lt_of_mul_lt_mul_right (by rw [Int.zero_mul]; exact hh) (Int.le_of_lt hp), fun hh => Int.mul_neg_of_neg_of_pos hh hp⟩
      simp only [this]
  rw [hz, hn, Option.map_some]
  show some (double.nearest _ _ _) = _
  rw [near _ h, fl_fw h]
theorem fl_order {a b : Int} (ha : a.natAbs < 2 ^ 53) (hb : b.natAbs < 2 ^ 53) : FloatKind.f64.format.order (fl a) (fl b) = some (compare a b) := order_stands (read_fl ha) (read_fl hb)
theorem fl_toInt {a : Int} (ha : a.natAbs < 2 ^ 53) : (FloatKind.f64.decode (fl a)).toInt .zero = some a := toInt_stands (read_fl ha)
theorem fl_add {a b : Int} (ha : a.natAbs < 2 ^ 53) (hb : b.natAbs < 2 ^ 53) (h : (a + b).natAbs < 2 ^ 53) : FloatKind.f64.format.add (fl a) (fl b) = some (fl (a + b)) := sum_stands (read_fl ha) (read_fl hb) h
theorem fl_sub {a b : Int} (ha : a.natAbs < 2 ^ 53) (hb : b.natAbs < 2 ^ 53) (h : (a - b).natAbs < 2 ^ 53) : FloatKind.f64.format.sub (fl a) (fl b) = some (fl (a - b)) := by
  by_cases h0 : b = 0
  · subst h0
    rw [Int.sub_zero]
    have hd := read_fl ha
    have he : double.read (fl 0) = .number false 0 (-1074) := by decide
    show ((double.read (fl a)).sum (double.read (fl 0)).opposite).map double.write = _
    rw [he]
    obtain ⟨k, hk⟩ := hd
    rw [hk]
    have key := sum_stands (d := .number (decide (a < 0)) (a.natAbs * 2 ^ k) (-(k : Int))) (e := .number false 0 (-1074)) (a := a) (b := 0) ⟨k, rfl⟩ stands0 (by rw [Int.add_zero]; exact ha)
    rw [Int.add_zero] at key
    rw [← key]
    show (Datum.sum _ (Datum.number true 0 (-1074))).map double.write = _
    have hs : ∀ (q : Bool) (x : Nat), signed q 0 x = 0 := fun q x => by unfold signed; rw [Nat.zero_shiftLeft]; cases q <;> rfl
    unfold Datum.sum
    simp only [hs, Int.add_zero]
    by_cases hneg : a < 0
    · have hne : ∀ x : Nat, signed (decide (a < 0)) (a.natAbs * 2 ^ k) x ≠ 0 := fun x => by
        rw [signed_abs]
        exact Int.mul_ne_zero (by omega) (Int.ne_of_gt (Int.pow_pos (by decide)))
      rw [if_neg (hne _), if_neg (hne _)]
    · rw [decide_eq_false hneg]
      rfl
  · exact Eq.trans (sum_stands (read_fl ha) (opp_stands (read_fl hb) h0) (by rwa [← Int.sub_eq_add_neg])) (by rw [← Int.sub_eq_add_neg])
end Vc
end Go.Proofs.Ytnlekdpnjphmfaa
