/- Numbers in decimal digits: what the reference and the library tell of them. -/
import Derived.Test.YtblngdnndkljoaaDoorQLib
import Derived.Test.YtblngdnndkljoaaDoorQItoa
import Derived.Lib.ItoaMem
namespace Go.Proofs.YtblngdnndkljoaaDoor
open Pv
set_option linter.unusedVariables false
def isDig (c : Int) : Bool := decide (48 ≤ c) && decide (c ≤ 57)
def valI (s : List Int) : Int := s.foldl (fun a c => a * 10 + (c - 48)) 0
def canonB (s : List Int) : Bool := s.all isDig && match s with
  | [] => false
  | [_] => true
  | c :: _ => c != 48
theorem valI_snoc (s : List Int) (c : Int) : valI (s ++ [c]) = valI s * 10 + (c - 48) := by
  unfold valI
  rw [List.foldl_append]; rfl
theorem dig_of {c : Int} (h : isDig c = true) : 48 ≤ c ∧ c ≤ 57 := by
  simpa [isDig] using h
theorem valI_nn : ∀ (k : Nat) (s : List Int), s.length = k → s.all isDig = true → 0 ≤ valI s := fun k => by
  induction k with
  | zero => intro s h _; rw [List.length_eq_zero_iff.1 h]; decide
  | succ k ih =>
    intro s h hd
    rcases List.eq_nil_or_concat s with rfl | ⟨s', c, rfl⟩
    · decide
    · rw [List.concat_eq_append] at h hd ⊢
      rw [List.all_append, Bool.and_eq_true] at hd
      have hc := dig_of (c := c) (by simpa using hd.2)
      have := ih s' (by simp at h; omega) hd.1
      rw [valI_snoc]
      omega
def dgs (n : Nat) : List Int := (Lib.decDigits n).map byteI
theorem dgs_one {n : Nat} (h : n < 10) : dgs n = [48 + (n : Int)] := by
  unfold dgs
  rw [Lib.decDigits_one h]
  show [byteI (UInt8.ofNat (48 + n))] = _
  unfold byteI
  rw [UInt8.toNat_ofNat', Nat.mod_eq_of_lt (by omega)]
  congr 1
theorem dgs_more {n : Nat} (h : ¬ n < 10) : dgs n = dgs (n / 10) ++ [48 + ((n % 10 : Nat) : Int)] := by
  unfold dgs
  rw [Lib.decDigits, dif_neg h, List.map_append]
  congr 1
  show [byteI (UInt8.ofNat (48 + n % 10))] = _
  unfold byteI
  rw [UInt8.toNat_ofNat', Nat.mod_eq_of_lt (by omega)]
  congr 1
theorem itoa_dgs (n : Nat) : itoaI (n : Int) = dgs n := by
  unfold itoaI dgs
  rw [Lib.itoa_nonneg]
theorem dgs_spec : ∀ (k n : Nat), n < k → (dgs n).all isDig = true ∧ valI (dgs n) = n ∧ dgs n ≠ [] ∧ (1 ≤ n → (dgs n).head? ≠ some 48) := fun k => by
  induction k with
  | zero => intro n h; omega
  | succ k ih =>
    intro n h
    by_cases h10 : n < 10
    · rw [dgs_one h10]
      refine ⟨by simp [isDig]; omega, by simp [valI]; omega, by simp, fun h1 => ?_⟩
      show some (48 + (n : Int)) ≠ some 48
      intro e
      injection e with e
      omega
    · obtain ⟨a, b, c, d⟩ := ih (n / 10) (by omega)
      rw [dgs_more h10]
      refine ⟨?_, ?_, by simp, fun _ => ?_⟩
      · rw [List.all_append, a]
        simp [isDig]
        omega
      · rw [valI_snoc, b]
        omega
      · cases hq : dgs (n / 10) with
        | nil => exact absurd hq c
        | cons x r =>
          rw [hq] at d
          exact d (by omega)
theorem canon_dgs (n : Nat) : canonB (dgs n) = true := by
  obtain ⟨a, b, c, d⟩ := dgs_spec (n + 1) n (by omega)
  unfold canonB
  rw [a, Bool.true_and]
  by_cases h10 : n < 10
  · rw [dgs_one h10]
  · have hd := d (by omega)
    have hl : 2 ≤ (dgs n).length := by
      rw [dgs_more h10, List.length_append]
      have : 0 < (dgs (n / 10)).length := List.length_pos_iff.2 (dgs_spec (n / 10 + 1) (n / 10) (by omega)).2.2.1
      simp
      omega
    match hs : dgs n, hd, hl with
    | x :: y :: r, hd, _ =>
      show (x != 48) = true
      exact bne_iff_ne.2 fun e => hd (by rw [e]; rfl)
theorem val_pos : ∀ (k : Nat) (s : List Int), s.length = k → s.all isDig = true → (∃ c r, s = c :: r ∧ c ≠ 48) → 1 ≤ valI s := fun k => by
  induction k with
  | zero => intro s h _ ⟨c, r, e, _⟩; subst e; simp at h
  | succ k ih =>
    intro s h hd ⟨c, r, e, hc⟩
    rcases List.eq_nil_or_concat s with rfl | ⟨s', x, e'⟩
    · cases e
    · rw [List.concat_eq_append] at e'
      subst e'
      rw [List.all_append, Bool.and_eq_true] at hd
      have hx := dig_of (c := x) (by simpa using hd.2)
      rw [valI_snoc]
      cases s' with
      | nil =>
        have : x = c := by simpa using congrArg List.head? e
        subst this
        show 1 ≤ (0 : Int) * 10 + (x - 48)
        omega
      | cons c' r' =>
        have : c' = c := by simpa using congrArg List.head? e
        subst this
        have := ih (c' :: r') (by simp at h ⊢; omega) hd.1 ⟨c', r', rfl, hc⟩
        omega
/-- What is written without noughts ahead is how its number is written. -/
theorem canon_eq : ∀ (k : Nat) (s : List Int), s.length = k → canonB s = true → ∃ n : Nat, s = dgs n ∧ valI s = n := fun k => by
  induction k with
  | zero => intro s h hc; rw [List.length_eq_zero_iff.1 h] at hc; cases hc
  | succ k ih =>
    intro s h hc
    have hd : s.all isDig = true := by unfold canonB at hc; exact (Bool.and_eq_true _ _ ▸ hc).1
    rcases List.eq_nil_or_concat s with rfl | ⟨s', x, e'⟩
    · cases hc
    · rw [List.concat_eq_append] at e'
      subst e'
      have hd' := hd
      rw [List.all_append, Bool.and_eq_true] at hd'
      have hx := dig_of (c := x) (by simpa using hd'.2)
      cases s' with
      | nil =>
        refine ⟨(x - 48).toNat, ?_, ?_⟩
        · rw [dgs_one (by omega)]
          show [x] = _
          congr 1
          omega
        · show (0 : Int) * 10 + (x - 48) = _
          omega
      | cons c' r' =>
        have hne : c' ≠ 48 := by
          unfold canonB at hc
          rw [hd, Bool.true_and] at hc
          cases r' with
          | nil => exact bne_iff_ne.1 hc
          | cons => exact bne_iff_ne.1 hc
        have hcan : canonB (c' :: r') = true := by
          unfold canonB
          rw [hd'.1, Bool.true_and]
          cases r' with
          | nil => rfl
          | cons => exact bne_iff_ne.2 hne
        obtain ⟨n, h1, h2⟩ := ih (c' :: r') (by simp at h ⊢; omega) hcan
        have hp := val_pos _ (c' :: r') rfl hd'.1 ⟨c', r', rfl, hne⟩
        refine ⟨n * 10 + (x - 48).toNat, ?_, ?_⟩
        · rw [dgs_more (by omega), show (n * 10 + (x - 48).toNat) / 10 = n by omega, show (n * 10 + (x - 48).toNat) % 10 = (x - 48).toNat by omega, ← h1]
          congr 2
          omega
        · rw [valI_snoc, h2]
          omega
theorem parse_snoc (c : UInt8) : ∀ (l : List UInt8) (acc m : Nat), Lib.parseUint10 acc l = .ok m → Lib.parseUint10 acc (l ++ [c]) = Lib.parseUint10 m [c]
  | [], acc, m, h => by
    have : acc = m := by
      have h : Lib.NumEnd.ok acc = .ok m := h
      injection h
    subst this; rfl
  | x :: l, acc, m, h => by
    rw [List.cons_append]
    unfold Lib.parseUint10 at h ⊢
    split at h
    · rename_i h1
      rw [if_pos h1]
      split at h
      · cases h
      · rename_i h2
        rw [if_neg h2]
        split at h
        · cases h
        · rename_i h3
          rw [if_neg h3]
          rw [parse_snoc c l _ m h]
          rfl
    · cases h
theorem parse_dec : ∀ (k n : Nat), n < k → n < 18446744073709551616 → Lib.parseUint10 0 (Lib.decDigits n) = .ok n := fun k => by
  induction k with
  | zero => intro n h; omega
  | succ k ih =>
    intro n h hn
    have hc : (UInt8.ofNat (48 + n % 10)).toNat = 48 + n % 10 := by rw [UInt8.toNat_ofNat', Nat.mod_eq_of_lt (by omega)]
    have step : ∀ acc, acc = n / 10 → Lib.parseUint10 acc [UInt8.ofNat (48 + n % 10)] = .ok n := fun acc e => by
      unfold Lib.parseUint10
      rw [hc, if_pos (by omega), if_neg (by omega), if_neg (by omega)]
      show Lib.NumEnd.ok _ = _
      congr 1
      omega
    rw [Lib.decDigits]
    by_cases h10 : n < 10
    · rw [dif_pos h10]
      have := step 0 (by omega)
      rwa [Nat.mod_eq_of_lt h10] at this
    · rw [dif_neg h10, parse_snoc _ _ _ _ (ih (n / 10) (by omega) (by omega))]
      exact step _ rfl
theorem dec_cons (n : Nat) : ∃ c r, Lib.decDigits n = c :: r ∧ c.toNat ≠ 43 ∧ c.toNat ≠ 45 := by
  obtain ⟨a, b, c, d⟩ := dgs_spec (n + 1) n (by omega)
  cases h : Lib.decDigits n with
  | nil => exact absurd (by unfold dgs; rw [h]; rfl) c
  | cons x r =>
    refine ⟨x, r, rfl, ?_⟩
    unfold dgs at a
    rw [h, List.map_cons, List.all_cons, Bool.and_eq_true] at a
    have := dig_of a.1
    unfold byteI at this
    omega
theorem toB_dgs (n : Nat) : toB (dgs n) = Lib.decDigits n := by
  unfold toB dgs
  rw [List.map_map]
  conv => rhs; rw [← List.map_id (Lib.decDigits n)]
  apply List.map_congr_left
  intro b _
  show (((b.toNat : Nat) : Int).toNat).toUInt8 = b
  rw [Int.toNat_natCast, Nat.toUInt8_eq, UInt8.ofNat_toNat]
theorem atoi_dgs (n : Nat) (h : n < 9223372036854775808) : atoiP (dgs n) = ((n : Int), false) := by
  unfold atoiP
  rw [toB_dgs]
  obtain ⟨c, r, h1, h2, h3⟩ := dec_cons n
  have hp := parse_dec (n + 1) n (by omega) (by omega)
  have : Lib.atoiAll (Lib.decDigits n) = .ok (n : Int) := by
    rw [h1, Lib.atoiAll_plain c r h2 h3, ← h1]
    unfold Lib.parseMag
    rw [if_neg (by rw [h1]; simp), hp]
    unfold Lib.signless
    simp
    omega
  rw [this]
/-- A number up to a bound, as the library tells it. -/
theorem decimal_law (s : List Int) (most : Int) (hm : most ≤ 9223372036854775807) :
    (canonB s = true ∧ valI s ≤ most → (atoiP s).2 = false ∧ (atoiP s).1 = valI s ∧ itoaI (valI s) = s) ∧
    ((atoiP s).2 = false → 0 ≤ (atoiP s).1 → (atoiP s).1 ≤ most → itoaI (atoiP s).1 = s → canonB s = true ∧ valI s = (atoiP s).1) := by
  refine ⟨fun ⟨hc, hv⟩ => ?_, fun h1 h2 h3 h4 => ?_⟩
  · obtain ⟨n, e1, e2⟩ := canon_eq _ s rfl hc
    rw [e2] at hv ⊢
    rw [itoa_dgs, e1, atoi_dgs n (by omega)]
    exact ⟨rfl, rfl, rfl⟩
  · obtain ⟨n, hn⟩ : ∃ n : Nat, (atoiP s).1 = n := ⟨(atoiP s).1.toNat, by omega⟩
    rw [hn, itoa_dgs] at h4
    rw [hn, ← h4]
    exact ⟨canon_dgs n, (dgs_spec (n + 1) n (by omega)).2.1⟩
theorem dgs_len : ∀ (k n : Nat), n < 10 ^ (k + 1) → (dgs n).length ≤ k + 1 := fun k => by
  induction k with
  | zero => intro n h; rw [dgs_one (by omega)]; simp
  | succ k ih =>
    intro n h
    by_cases h10 : n < 10
    · rw [dgs_one h10]; simp
    · rw [dgs_more h10, List.length_append]
      have := ih (n / 10) (by
        rw [Nat.pow_succ] at h
        omega)
      simp
      omega
end Go.Proofs.YtblngdnndkljoaaDoor
