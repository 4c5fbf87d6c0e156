/- AddrNets: the plain part. -/
import Derived.Test.YtblngdnndkljoaaDoorQKept
import Derived.Test.YtblngdnndkljoaaDoorQNoc
namespace Go.Proofs.YtblngdnndkljoaaDoor
open Pv
set_option linter.unusedVariables false
def exA : List Int := [58, 58, 102, 102, 102, 102, 58, 49, 48, 46, 48, 46, 48, 46, 49]
def exB : List Int := [58, 58, 102, 102, 102, 102, 58, 97, 48, 48, 58, 49]
theorem exA_dotted : F_addr_dotted exA = some ([], false) := by rw [dotted_eq _ (by decide)]; rfl
theorem exB_dotted : F_addr_dotted exB = some ([], false) := by rw [dotted_eq _ (by decide)]; rfl
theorem exA_coloned : F_addr_coloned exA = some ([], false) := by
  unfold F_addr_coloned
  refine (join_inr (s := (2, (([] : List Int), 0, 3, 15, 1))) (by kernel_rfl)).trans ?_
  exact loop_of_iter (n := 20) (by kernel_rfl)
theorem exB_coloned : F_addr_coloned exB = some ([0, 0, 0, 0, 0, 0, 0, 0, 0, 0, 255, 255, 10, 0, 0, 1], true) := by
  unfold F_addr_coloned
  refine (join_inr (s := (2, (([] : List Int), 0, 3, 15, 1))) (by kernel_rfl)).trans ?_
  exact loop_of_iter (n := 20) (by kernel_rfl)
theorem first15 : F_wlvlaw15_first = some true := by
  have h1 : F_addr_Parse exA = some ([], 2) := by
    unfold F_addr_Parse
    rw [exA_dotted, Option.bind_some, exA_coloned]
    kernel_rfl
  have h2 : F_addr_Parse exB = some ([10, 0, 0, 1], 0) := by
    unfold F_addr_Parse
    rw [exB_dotted, Option.bind_some, exB_coloned]
    kernel_rfl
  unfold F_wlvlaw15_first
  unfold exA at h1
  unfold exB at h2
  rw [h1, Option.bind_some, h2]
  rfl
theorem xor_nat (k : IntKind) (j : Nat) (hj : j ≤ k.bits) (hk : ∀ n : Int, 0 ≤ n → n < 2 ^ j → k.wrap n = n) (a b : Nat) (ha : a < 2 ^ j) (hb : b < 2 ^ j) : bits .xor k a b = ((a ^^^ b : Nat) : Int) := by
  have hp : 2 ^ j ≤ 2 ^ k.bits := Nat.pow_le_pow_right (by decide) hj
  have h1 : a % 2 ^ k.bits = a := Nat.mod_eq_of_lt (Nat.lt_of_lt_of_le ha hp)
  have h2 : b % 2 ^ k.bits = b := Nat.mod_eq_of_lt (Nat.lt_of_lt_of_le hb hp)
  have h3 : ((a ^^^ b : Nat) : Int) < 2 ^ j := by
    have := Nat.xor_lt_two_pow ha hb
    exact_mod_cast this
  simp only [bits, BitVec.ofInt_natCast, BitVec.toNat_xor, BitVec.toNat_ofNat, h1, h2]
  exact hk _ (Int.natCast_nonneg _) h3
theorem xor_bit {x y : Int} (hx : isB x) (hy : isB y) {j : Nat} (hj : j < 8) : (bits .and .u8 (Int.fdiv (bits .xor .u8 x y) (2 ^ (7 - j))) 1 == 0) = (bitI x j == bitI y j) := by
  obtain ⟨a, rfl⟩ := Int.eq_ofNat_of_zero_le hx.1
  obtain ⟨b, rfl⟩ := Int.eq_ofNat_of_zero_le hy.1
  have ha : a < 2 ^ 8 := by have := hx.2; omega
  have hb : b < 2 ^ 8 := by have := hy.2; omega
  have hxr := xor_nat .u8 8 (by decide) wraps_u8 a b ha hb
  have hlt : a ^^^ b < 2 ^ 8 := Nat.xor_lt_two_pow ha hb
  rw [hxr]
  have hq : Int.fdiv ((a ^^^ b : Nat) : Int) (2 ^ (7 - j)) = (((a ^^^ b) / 2 ^ (7 - j) : Nat) : Int) := by
    rw [Int.fdiv_eq_ediv_of_nonneg _ (Int.pow_nonneg (by decide))]
    simp
  have hd : (a ^^^ b) / 2 ^ (7 - j) ≤ a ^^^ b := Nat.div_le_self _ _
  have h1 : (a ^^^ b).testBit (7 - j) = (a.testBit (7 - j) ^^ b.testBit (7 - j)) := Nat.testBit_xor ..
  rw [Nat.testBit_eq_decide_div_mod_eq, Nat.testBit_eq_decide_div_mod_eq, Nat.testBit_eq_decide_div_mod_eq] at h1
  have ba : bitI (a : Int) j = ((a / 2 ^ (7 - j) % 2 : Nat) : Int) := by unfold bitI; simp
  have bb : bitI (b : Int) j = ((b / 2 ^ (7 - j) % 2 : Nat) : Int) := by unfold bitI; simp
  rw [ba, bb, hq]
  generalize (a ^^^ b) / 2 ^ (7 - j) = p at h1 hd ⊢
  generalize a / 2 ^ (7 - j) = q at h1 ⊢
  generalize b / 2 ^ (7 - j) = r at h1 ⊢
  rw [show (1 : Int) = 2 ^ 1 - 1 from rfl, bits_mask .u8 8 (by decide) wraps_u8 1 (by decide) _ (by omega) (by omega)]
  rw [Bool.eq_iff_iff, beq_iff_eq, beq_iff_eq]
  have e2 : (2 : Int) ^ 1 = 2 := rfl
  rw [e2]
  by_cases h2 : q % 2 = 1 <;> by_cases h3 : r % 2 = 1 <;> simp [h2, h3] at h1 <;> omega
theorem nets_loop (s t : List Int) (a b : Int) (hl : t.length = s.length) (h16 : s.length ≤ 16) (hs : ∀ x ∈ s, isB x) (ht : ∀ x ∈ t, isB x) :
    ∃ m : Nat, loopC (F_wlvlaw15_AddrNets_L10 s t) (0, s, a, s, b) = some (.inr ((m : Int), s, a, s, b)) ∧ m ≤ 8 * s.length ∧ (∀ j, j < m → bitAt s j = bitAt t j) ∧ (m < 8 * s.length → bitAt s m ≠ bitAt t m) := by
  obtain ⟨r, h1, m, h2, h3, h4, h5⟩ := loop_inv (body := F_wlvlaw15_AddrNets_L10 s t) (I := fun st => ∃ i : Nat, st = ((i : Int), s, a, s, b) ∧ i ≤ 8 * s.length ∧ ∀ j, j < i → bitAt s j = bitAt t j) (m := fun st => 8 * s.length - st.1.toNat)
    (Q := fun r => ∃ m : Nat, r = .inr ((m : Int), s, a, s, b) ∧ m ≤ 8 * s.length ∧ (∀ j, j < m → bitAt s j = bitAt t j) ∧ (m < 8 * s.length → bitAt s m ≠ bitAt t m)) (fun st ⟨i, e, hi, hb⟩ => by
      subst e
      unfold F_wlvlaw15_AddrNets_L10 chk
      dsimp only
      rw [wrap_in (x := 8 * (s.length : Int)) (by omega) (by omega)]
      by_cases hlt : i < 8 * s.length
      · have hi8 : i / 8 < s.length := by omega
        have hdv : Int.tdiv (i : Int) 8 = ((i / 8 : Nat) : Int) := by rw [Int.tdiv_eq_ediv_of_nonneg (by omega)]; omega
        have hmd : Int.tmod (i : Int) 8 = ((i % 8 : Nat) : Int) := by rw [Int.tmod_eq_emod_of_nonneg (by omega)]; omega
        have g1 : getI s ((i / 8 : Nat) : Int) = some (s.getD (i / 8) 0) := getI_nat (by rw [List.getD_eq_getElem?_getD, List.getElem?_eq_getElem hi8]; rfl)
        have g2 : getI t ((i / 8 : Nat) : Int) = some (t.getD (i / 8) 0) := getI_nat (by rw [List.getD_eq_getElem?_getD, List.getElem?_eq_getElem (by omega)]; rfl)
        have m1 : isB (s.getD (i / 8) 0) := hs _ (by rw [List.getD_eq_getElem?_getD, List.getElem?_eq_getElem hi8]; exact List.getElem_mem _)
        have m2 : isB (t.getD (i / 8) 0) := ht _ (by rw [List.getD_eq_getElem?_getD, List.getElem?_eq_getElem (by omega)]; exact List.getElem_mem _)
        have hu : IntKind.u64.wrap (IntKind.i64.wrap (7 - ((i % 8 : Nat) : Int))) = ((7 - i % 8 : Nat) : Int) := by
          rw [wrap_in (by omega) (by omega)]
          show (7 - ((i % 8 : Nat) : Int)) % 18446744073709551616 = _
          omega
        rw [decide_eq_true (show (i : Int) < 8 * (s.length : Int) by omega), cond_true, hdv, hmd, wrap_in (x := ((i / 8 : Nat) : Int)) (by omega) (by omega), g1, Option.bind_some, g2, Option.bind_some, hu, decide_eq_true (show (0 : Int) ≤ ((7 - i % 8 : Nat) : Int) by omega), cond_true, Int.toNat_natCast, Nat.min_eq_left (show 7 - i % 8 ≤ 8 by omega), xor_bit m1 m2 (Nat.mod_lt i (by decide))]
        cases hq : bitI (s.getD (i / 8) 0) (i % 8) == bitI (t.getD (i / 8) 0) (i % 8) with
        | true =>
          rw [cond_true, wrap_in (x := (i : Int) + 1) (by omega) (by omega)]
          refine .inr ⟨_, rfl, ⟨i + 1, rfl, by omega, fun j hj => ?_⟩, ?_⟩
          · rcases Nat.lt_or_eq_of_le (Nat.le_of_lt_succ hj) with h | rfl
            · exact hb j h
            · exact beq_iff_eq.1 hq
          · show 8 * s.length - ((i : Int) + 1).toNat < 8 * s.length - (i : Int).toNat
            omega
        | false => exact .inl ⟨_, rfl, i, rfl, hi, hb, fun _ => beq_eq_false_iff_ne.1 hq⟩
      · rw [decide_eq_false (show ¬ (i : Int) < 8 * (s.length : Int) by omega), cond_false]
        exact .inl ⟨_, rfl, i, rfl, hi, hb, fun h => absurd h hlt⟩) (0, s, a, s, b) ⟨0, rfl, by omega, fun j hj => absurd hj (Nat.not_lt_zero j)⟩
  subst h2
  exact ⟨m, h1, h3, h4, h5⟩
theorem AddrNets_true (s t : List Int) (a b : Int) (hs : ∀ x ∈ s, isB x) (ht : ∀ x ∈ t, isB x) : F_wlvlaw15_AddrNets s t a b = some true := by
  unfold F_wlvlaw15_AddrNets
  rw [first15, Option.bind_some, Bool.not_true, cond_false]
  have hgo : ∀ n : Nat, s.length = n → (n = 4 ∨ n = 16) → t.length = s.length → 0 ≤ a → a ≤ b → b ≤ 8 * (s.length : Int) → (joinC (S := Int × List Int × Int × List Int × Int) (R := Bool) (loopC (S := Int × List Int × Int × List Int × Int) (R := (Bool) ⊕ (Int × List Int × Int × List Int × Int)) (F_wlvlaw15_AddrNets_L10 s t) (0, s, a, s, b)) (F_wlvlaw15_AddrNets_J9 s t a b)) = some true := fun n hn hc hl h0 hab hb8 => by
    have hs4 : s.length = 4 ∨ s.length = 16 := by omega
    obtain ⟨m, h1, h2, h3, h4⟩ := nets_loop s t a b hl (by omega) hs ht
    rw [join_inr (s := ((m : Int), s, a, s, b)) h1]
    have hin : ∀ c : Int, 0 ≤ c → c ≤ 8 * (s.length : Int) → F_addr_In s c t = some (decide ((m : Int) ≥ c)) := fun c hc0 hc8 => by
      rw [In_eq s t c hs4 hs ht (by omega), decide_eq_true hl, decide_eq_true hc0, decide_eq_true hc8]
      congr 1
      rw [Bool.true_and, Bool.true_and, Bool.true_and, Bool.eq_iff_iff, beq_iff_eq, decide_eq_true_iff, kept_iff c t s 0 hl ht hs]
      constructor
      · intro h
        rcases Nat.lt_or_ge m (8 * s.length) with hm | hm
        · have hne := h4 hm
          have : ¬ (m : Int) < c := fun hlt => hne (h m (by omega) (by simpa using hlt)).symm
          omega
        · omega
      · intro h j hj hjc
        exact (h3 j (by simp at hjc; omega)).symm
    unfold F_wlvlaw15_AddrNets_J9
    dsimp only
    have ha := hin a h0 (by omega)
    have hb := hin b (by omega) hb8
    have h0' := hin 0 (by omega) (by omega)
    have hcut : ∃ u, cutI t 0 3 = some u ∧ u.length = 3 ∧ ∀ x ∈ u, isB x := ⟨(t.take 3).drop 0, cutI_nat (a := 0) (b := 3) (by omega) (by omega), by simp; omega, fun x hx => ht x (List.mem_of_mem_take (by simpa using hx))⟩
    obtain ⟨u, hu1, hu2, hu3⟩ := hcut
    have hiu : F_addr_In s a u = some false := by rw [In_eq s u a hs4 hs hu3 (by omega), decide_eq_false (by omega)]; rfl
    have him : F_addr_In s (-1) s = some false := by rw [In_eq s s (-1) hs4 hs hs (by omega)]; simp
    have hip : F_addr_In s (IntKind.i64.wrap ((IntKind.i64.wrap (8 * (s.length : Int))) + 1)) s = some false := by
      rw [wrap_in (x := 8 * (s.length : Int)) (by omega) (by omega), wrap_in (by omega) (by omega), In_eq s s _ hs4 hs hs (by omega), decide_eq_false (show ¬ 8 * (s.length : Int) + 1 ≤ 8 * (s.length : Int) by omega)]
      simp
    simp only [hb, ha, first15, hu1, hiu, him, hip, h0', Option.bind_some]
    rw [decide_eq_true (show (m : Int) ≥ 0 by omega)]
    by_cases hmb : (m : Int) ≥ b
    · rw [decide_eq_true hmb, decide_eq_true (show (m : Int) ≥ a by omega)]; rfl
    · rw [decide_eq_false hmb, cond_false]
      cases decide ((m : Int) ≥ a) <;> rfl
  by_cases hc : (((((((s.length : Int) != 4) && ((s.length : Int) != 16)) || ((t.length : Int) != (s.length : Int))) || (decide (a < 0))) || (decide (b < a))) || (decide (b > (IntKind.i64.wrap (8 * (s.length : Int)))))) = true
  · rw [hc, cond_true]; rfl
  · have hc := Bool.eq_false_iff.2 hc
    rw [hc, cond_false]
    simp only [Bool.or_eq_false_iff, Bool.and_eq_false_iff, bne_eq_false_iff_eq, decide_eq_false_iff_not] at hc
    obtain ⟨⟨⟨⟨h1, h2⟩, h3⟩, h4⟩, h5⟩ := hc
    have hlen : s.length = 4 ∨ s.length = 16 := by omega
    rw [wrap_in (by omega) (by omega)] at h5
    exact hgo s.length rfl hlen (by omega) (by omega) (by omega) (by omega)
end Go.Proofs.YtblngdnndkljoaaDoor
