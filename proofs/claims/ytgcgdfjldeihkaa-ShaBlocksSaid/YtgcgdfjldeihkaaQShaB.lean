/- ShaBlocks, in plain words. -/
import Derived.Test.YtgcgdfjldeihkaaQShaL
namespace Go.Proofs.Ytgcgdfjldeihkaa
open Pv
set_option linter.unusedVariables false
theorem fillB (n : Nat) (c : Int) (hn : n ≤ 300) : ∀ (k i : Nat) (l : List Int), i + k = n → l.length = n → ∃ l', loopC (F_wlvlaw3_ShaBlocks_L10 (n : Int) c) ((i : Int), l) = some (.inr l') ∧ l'.length = n
  | 0, i, l, hi, hl => by
    refine ⟨l, loop_inl ?_, hl⟩
    unfold F_wlvlaw3_ShaBlocks_L10
    dsimp only
    rw [decide_eq_false (by omega), cond_false]
  | k + 1, i, l, hi, hl => by
    obtain ⟨l', h1, h2⟩ := fillB n c hn k (i + 1) (l.set i c) (by omega) (by rw [List.length_set]; exact hl)
    refine ⟨l', loop_inr ?_ h1, h2⟩
    unfold F_wlvlaw3_ShaBlocks_L10
    dsimp only
    rw [decide_eq_true (show (i : Int) < (n : Int) by omega), cond_true, Int.toNat_natCast, Int.toNat_natCast, List.length_replicate, hl, ck_t (by rw [decide_eq_true (by omega), decide_eq_true (by omega)]; rfl), ck_t (decide_eq_true (by omega)), wrap_in (x := (i : Int) + 1) (by omega) (by omega)]
    rfl
theorem ShaBlocks_true (n c : Int) : F_wlvlaw3_ShaBlocks n c = some true := by
  unfold F_wlvlaw3_ShaBlocks
  rw [first_true]
  simp only [Option.bind_some, Bool.not_true, cond_false]
  cases hc : (decide (n < 0)) || (decide (n > 300)) with
  | true => rfl
  | false =>
    simp only [Bool.or_eq_false_iff, decide_eq_false_iff_not] at hc
    obtain ⟨h1, h2⟩ := hc
    obtain ⟨m, rfl⟩ := Int.eq_ofNat_of_zero_le (show 0 ≤ n by omega)
    have hm : maxLen = 9223372036854775807 := rfl
    obtain ⟨l, hl, hlen⟩ := fillB m c (by omega) m 0 (List.replicate m 0) (by omega) List.length_replicate
    rw [cond_false, ck_t (by rw [decide_eq_true (by omega), decide_eq_true (by omega), decide_eq_true (by omega), decide_eq_true (by omega)]; rfl), Int.toNat_natCast]
    refine (join_inr hl).trans ?_
    unfold F_wlvlaw3_ShaBlocks_J8
    dsimp only
    rw [first_true, Int.toNat_natCast, List.length_replicate, hlen]
    have ht : List.take m l = l := List.take_of_length_le (by omega)
    have b1 : Nat.ble m m = true := Nat.ble_eq_true_of_le (Nat.le_refl _)
    have e1 : ([c] : List Int).length = 1 := rfl
    have e0 : ([0] : List Int).length = 1 := rfl
    have la : (l ++ [c]).length = m + 1 := by rw [List.length_append, hlen]; rfl
    have lb : ([0] ++ l : List Int).length = 1 + m := by rw [List.length_append, hlen]; rfl
    have c1 : (Nat.blt 0 1 && decide ((m + 1) * 1 ≤ 140737488355328) && decide (m + 1 ≤ maxLen)) = true := by
      rw [decide_eq_true (by omega), decide_eq_true (by omega)]; rfl
    have c2 : (decide ((1 + m) * 1 ≤ 140737488355328) && decide (1 + m ≤ maxLen)) = true := ck_app (by omega) (by omega)
    have s1 := sha_One (l := l) (by omega)
    have r1 := ref_One (l := l) (by omega)
    have s2 := sha_One (l := l ++ [c]) (by omega)
    have r2 := ref_One (l := l ++ [c]) (by omega)
    have s3 := sha_Salted (s := []) (l := l) (by decide) (by omega)
    have s4 := sha_One (l := [0] ++ l) (by omega)
    have e2 : ([] : List Int) ++ 0 :: l = [0] ++ l := rfl
    rw [e2] at s3
    have ct : ∀ {α : Type} (x : Option α), chk true x = x := fun _ => rfl
    simp only [Option.bind_some, cond_true, b1, Bool.and_true, ct, ht, hlen, e1, e0, s1, r1, bytes_eq, beq_self_eq_true]
    simp only [c1, c2, ct, s2, r2, s3, s4, Option.bind_some, cond_true, bytes_eq, beq_self_eq_true, ht, hlen]
end Go.Proofs.Ytgcgdfjldeihkaa
