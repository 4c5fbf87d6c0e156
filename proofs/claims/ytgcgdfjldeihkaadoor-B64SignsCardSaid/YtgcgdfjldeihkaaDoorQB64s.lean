/- B64Signs: plain. -/
import Derived.Test.YtgcgdfjldeihkaaDoorQB64l
namespace Go.Proofs.YtgcgdfjldeihkaaDoor
open Pv
set_option linter.unusedVariables false
/-- A sign of the alphabet. -/
def Alpha (c : Int) : Prop := (65 ≤ c ∧ c ≤ 90) ∨ (97 ≤ c ∧ c ≤ 122) ∨ (48 ≤ c ∧ c ≤ 57) ∨ c = 43 ∨ c = 47
instance (c : Int) : Decidable (Alpha c) := by unfold Alpha; infer_instance
theorem sig_alpha : ∀ q : Fin 64, Alpha (byteI (sigs.getD q.val 0)) := by decide +kernel
theorem encI_cls (l : List Int) {i : Nat} (h : i < (encI l).length) : ∃ c, (encI l)[i]? = some c ∧ (Alpha c ∨ (c = 61 ∧ (encI l).length ≤ i + 2)) := by
  have hlen := encI_len l
  rw [hlen] at h ⊢
  have hj : 3 * (i / 4) < l.length := by omega
  have hg := encI_get l (j := i / 4) (t := i % 4) hj (Nat.mod_lt _ (by omega))
  rw [show 4 * (i / 4) + i % 4 = i by omega] at hg
  refine ⟨_, hg, ?_⟩
  by_cases hm : min (l.length - 3 * (i / 4)) 3 < i % 4
  · exact .inr ⟨sgn_pad hm, by omega⟩
  · refine .inl ?_
    have h0 := Int.emod_nonneg (gv l (3 * (i / 4)) 3 / 2 ^ (6 * (3 - i % 4))) (show (64 : Int) ≠ 0 by decide)
    have h1 := Int.emod_lt_of_pos (gv l (3 * (i / 4)) 3 / 2 ^ (6 * (3 - i % 4))) (show (0 : Int) < 64 by decide)
    have := sig_alpha ⟨(gv l (3 * (i / 4)) 3 / 2 ^ (6 * (3 - i % 4)) % 64).toNat, by omega⟩
    rw [show sgn (min (l.length - 3 * (i / 4)) 3) (gv l (3 * (i / 4)) 3) (i % 4) = _ from if_neg hm]
    exact this
theorem signs_step {s : List Int} {i c : Int} (hi : 0 ≤ i) (hs : s.length ≤ 1000000) (hn : i < s.length) (hc : getI s i = some c) (h : Alpha c ∨ (c = 61 ∧ (s.length : Int) ≤ i + 2)) : F_wlvlaw2_B64Signs_L10 s i = some (.inr (i + 1)) := by
  have w1 : IntKind.i64.wrap (i + 1) = i + 1 := wrap_in (by omega) (by omega)
  have w2 : IntKind.i64.wrap ((s.length : Int) - 2) = (s.length : Int) - 2 := wrap_in (by omega) (by omega)
  unfold F_wlvlaw2_B64Signs_L10
  simp only
  rw [decide_eq_true hn, cond_true, hc, Option.bind_some, w1, w2]
  rcases h with h | ⟨rfl, h⟩
  · rcases h with ⟨a, b⟩ | ⟨a, b⟩ | ⟨a, b⟩ | rfl | rfl
    · rw [decide_eq_true (show c ≥ 65 from a), decide_eq_true b]; rfl
    · rw [decide_eq_false (show ¬ c ≤ 90 by omega), Bool.and_false, cond_false, decide_eq_true (show c ≥ 97 from a), decide_eq_true b]; rfl
    · rw [decide_eq_false (show ¬ c ≥ 65 by omega), Bool.false_and, cond_false, decide_eq_false (show ¬ c ≥ 97 by omega), Bool.false_and, cond_false, decide_eq_true (show c ≥ 48 from a), decide_eq_true b]; rfl
    · rfl
    · rfl
  · rw [decide_eq_false (show ¬ i < (s.length : Int) - 2 by omega)]; rfl
theorem signs_loop (l : List Int) (hl : (encI l).length ≤ 1000000) : loopC (F_wlvlaw2_B64Signs_L10 (encI l)) 0 = some (.inr ()) := by
  have hstep : ∀ i : Int, 0 ≤ i → (∃ r, F_wlvlaw2_B64Signs_L10 (encI l) i = some (.inl r) ∧ r = .inr ()) ∨ ∃ s', F_wlvlaw2_B64Signs_L10 (encI l) i = some (.inr s') ∧ 0 ≤ s' ∧ ((encI l).length - s'.toNat) < ((encI l).length - i.toNat) := fun i hi => by
    by_cases hn : i < (encI l).length
    · obtain ⟨c, hc, hcl⟩ := encI_cls l (i := i.toNat) (by omega)
      have hg := getI_nat hc
      rw [Int.toNat_of_nonneg hi] at hg
      exact .inr ⟨_, signs_step hi hl hn hg (hcl.imp id fun ⟨a, b⟩ => ⟨a, by omega⟩), by omega, by omega⟩
    · refine .inl ⟨_, ?_, rfl⟩
      unfold F_wlvlaw2_B64Signs_L10
      simp only
      rw [decide_eq_false hn]; rfl
  obtain ⟨r, h1, h2⟩ := loop_inv (body := F_wlvlaw2_B64Signs_L10 (encI l)) (I := fun i : Int => 0 ≤ i) (m := fun i : Int => ((encI l).length - i.toNat)) (Q := fun r => r = .inr ()) hstep 0 (Int.le_refl 0)
  rw [h1, h2]
theorem odd_at : ∀ k : Fin 6, ∃ c, getI ([32, 10, 45, 95, 0, 255] : List Int) (k.val : Int) = some c ∧ ¬ Alpha c ∧ c ≠ 61 := by
  intro k
  match k with
  | 0 => exact ⟨32, rfl, by decide, by decide⟩
  | 1 => exact ⟨10, rfl, by decide, by decide⟩
  | 2 => exact ⟨45, rfl, by decide, by decide⟩
  | 3 => exact ⟨95, rfl, by decide, by decide⟩
  | 4 => exact ⟨0, rfl, by decide, by decide⟩
  | 5 => exact ⟨255, rfl, by decide, by decide⟩
theorem signsLaw (l1 : List Int) (i2 i3 : Int) (hl : ∀ x ∈ l1, 0 ≤ x ∧ x < 256) (h3 : (Lit.int .u8 i3).wf = true) : F_wlvlaw2_B64Signs l1 i2 i3 = some true := by
  have h3' : 0 ≤ i3 ∧ i3 < 256 := by
    simp [Lit.wf, IntKind.min, IntKind.max, IntKind.signed, IntKind.bits] at h3
    omega
  unfold F_wlvlaw2_B64Signs
  rw [first2, Option.bind_some]
  show cond (((decide ((l1.length : Int) > 1000)) || ((l1.length : Int) == 0)) || (decide (i2 < 0))) (some true) _ = _
  by_cases h1 : (l1.length : Int) > 1000
  · rw [decide_eq_true h1]; rfl
  by_cases h2 : (l1.length : Int) = 0
  · rw [show ((l1.length : Int) == 0) = true from beq_iff_eq.2 h2, Bool.or_true]; rfl
  by_cases h4 : i2 < 0
  · rw [decide_eq_true h4, Bool.or_true]; rfl
  rw [decide_eq_false h1, decide_eq_false h4, show ((l1.length : Int) == 0) = false from beq_eq_false_iff_ne.2 h2]
  have hlen := encI_len l1
  have hL : (encI l1).length ≤ 1000000 := by omega
  rw [Bool.or_self, Bool.or_self, cond_false, enc_some (by omega), Option.bind_some, signs_loop l1 hL, join_inr rfl]
  unfold F_wlvlaw2_B64Signs_J8
  generalize hs : encI l1 = s at hlen hL ⊢
  have hpos : 0 < (s.length : Int) := by omega
  have e6 : Int.tmod i3 6 = i3 % 6 := Int.tmod_eq_emod_of_nonneg h3'.1
  have ep : Int.tmod i2 (s.length : Int) = i2 % (s.length : Int) := Int.tmod_eq_emod_of_nonneg (by omega)
  have hp0 := Int.emod_nonneg i2 (show (s.length : Int) ≠ 0 by omega)
  have hp1 := Int.emod_lt_of_pos i2 hpos
  have e4 : Int.tmod (s.length : Int) 4 = 0 := by rw [Int.tmod_eq_emod_of_nonneg (by omega)]; omega
  obtain ⟨c, hc, hc1, hc2⟩ := odd_at ⟨(i3 % 6).toNat, by omega⟩
  have hc' : getI ([32, 10, 45, 95, 0, 255] : List Int) (i3 % 6) = some c := by
    rw [← hc]
    show _ = getI _ (((i3 % 6).toNat : Nat) : Int)
    rw [Int.toNat_of_nonneg (by omega)]
  rw [show ((s.length : Int) == 0) = false from beq_eq_false_iff_ne.2 (by omega), cond_false, show ((s.length : Int) != 0) = true by rw [bne_iff_ne]; omega, e6, hc', ep, e4]
  generalize hp : i2 % (s.length : Int) = p at hp0 hp1
  unfold chk
  rw [cond_true, Option.bind_some, decide_eq_true hp0, decide_eq_true hp1, Bool.and_self, cond_true, cond_true, List.length_set, Nat.ble_eq_true_of_le (Nat.le_refl _), cond_true, List.take_of_length_le (by rw [List.length_set]; exact Nat.le_refl _)]
  have hd : F_b64_Decode (s.set p.toNat c) = some ([], 2) := by
    rcases dec_total (s.set p.toNat c) (by rw [List.length_set]; exact hL) with h | ⟨b, _, he, _⟩
    · exact h
    · exfalso
      have hlb : (encI b).length = s.length := by rw [he, List.length_set]
      obtain ⟨x, hx, hcl⟩ := encI_cls b (i := p.toNat) (by omega)
      rw [he, List.getElem?_set_self (by omega)] at hx
      injection hx with hx
      subst hx
      rcases hcl with h | ⟨h, _⟩
      · exact hc1 h
      · exact hc2 h
  rw [hd, Option.bind_some, first2]
  rfl
end Go.Proofs.YtgcgdfjldeihkaaDoor
