/- B64Tells: plain, the rest. -/
import Derived.Test.YtgcgdfjldeihkaaDoorQB64t
namespace Go.Proofs.YtgcgdfjldeihkaaDoor
open Pv
set_option linter.unusedVariables false
theorem idx_pad : idxI signs 61 = -1 := by decide +kernel
theorem val_in {m t : Nat} {v d : Int} (h : t ≤ m) (hv : 0 ≤ v) (hd : (2 : Int) ^ (6 * (3 - t)) = d) : idxI signs (byteI (sgn m v t)) = v / d % 64 := by
  obtain ⟨q, q1, q2, q3⟩ := sgn_in h hv
  rw [q3, (sig_idx ⟨q, q1⟩).1, q2, hd]
theorem val_pad {m t : Nat} {v : Int} (h : m < t) : idxI signs (byteI (sgn m v t)) = -1 := by rw [sgn_pad h, idx_pad]
theorem up0_nn {v : Int} (h : 0 ≤ v) : up0 v = v := by unfold up0; rw [decide_eq_false (by omega)]; rfl
theorem lowN_nn {v n k : Int} (h : 0 ≤ v) : lowN v n k = n := by unfold lowN; rw [decide_eq_false (by omega)]; rfl
theorem ref_groups (l : List Int) (hl : ∀ x ∈ l, 0 ≤ x ∧ x < 256) (hn : l.length ≤ 20000) : ∀ (d j : Nat), (l.length + 2) / 3 - j = d → j ≤ (l.length + 2) / 3 → loopC (F_wlvref1_Decode_L7 (encI l)) (l.take (3 * j), ((4 * j : Nat) : Int)) = some (.inr l)
  | 0, j, hd, hj => by
    have hlen := encI_len l
    rw [List.take_of_length_le (by omega)]
    exact loop_inl (ref_end (by omega))
  | d + 1, j, hd, hj => by
    have hlen := encI_len l
    have hj3 : 3 * j < l.length := by omega
    have ih := ref_groups l hl hn d (j + 1) (by omega) (by omega)
    have hg := gv3 l (3 * j)
    have g0 := getD_in hl (3 * j)
    have g1 := getD_in hl (3 * j + 1)
    have g2 := getD_in hl (3 * j + 2)
    have hgn := (gv_in hl (3 * j) 3).1
    have c : ∀ t : Nat, t < 4 → getI (encI l) (((4 * j : Nat) : Int) + (t : Int)) = some (byteI (sgn (min (l.length - 3 * j) 3) (gv l (3 * j) 3) t)) := fun t ht => by
      rw [show ((4 * j : Nat) : Int) + (t : Int) = ((4 * j + t : Nat) : Int) by omega]
      exact getI_nat (encI_get l hj3 ht)
    have hgrp := group (s := encI l) (L := l.take (3 * j)) (i := ((4 * j : Nat) : Int)) (by omega) (by omega) (by rw [List.length_take]; omega) (by omega) (c 0 (by omega)) (c 1 (by omega)) (c 2 (by omega)) (c 3 (by omega))
    generalize hv : gv l (3 * j) 3 = v at hgrp hg hgn
    rw [show ((4 * j : Nat) : Int) + 4 = ((4 * (j + 1) : Nat) : Int) by omega] at hgrp
    have e0 : v / 65536 % 256 = l.getD (3 * j) 0 := by omega
    have e1 : v / 256 % 256 = l.getD (3 * j + 1) 0 := by omega
    have e2 : v % 256 = l.getD (3 * j + 2) 0 := by omega
    obtain hm | hm | hm : min (l.length - 3 * j) 3 = 3 ∨ min (l.length - 3 * j) 3 = 2 ∨ min (l.length - 3 * j) 3 = 1 := by omega
    · rw [hm, val_in (d := 262144) (by omega) hgn (by decide), val_in (d := 4096) (by omega) hgn (by decide), val_in (d := 64) (by omega) hgn (by decide), val_in (d := 1) (by omega) hgn (by decide)] at hgrp
      have h4 : num4 (v / 262144 % 64) (v / 4096 % 64) (v / 64 % 64) (v / 1 % 64) = 4 := by
        unfold num4
        rw [lowN_nn (by omega), lowN_nn (by omega), lowN_nn (by omega), lowN_nn (by omega)]
      have hw : word4 (v / 262144 % 64) (v / 4096 % 64) (v / 64 % 64) (v / 1 % 64) = v := by
        unfold word4
        rw [up0_nn (by omega), up0_nn (by omega), up0_nn (by omega), up0_nn (by omega)]
        omega
      rw [h4, hw, show decide ((4 : Int) < 2) = false from rfl, cond_false] at hgrp
      refine loop_inr hgrp ?_
      rw [show (three v).take ((4 : Int) - 1).toNat = [l.getD (3 * j) 0, l.getD (3 * j + 1) 0, l.getD (3 * j + 2) 0] by unfold three; rw [e0, e1, e2]; rfl]
      rw [show l.take (3 * j) ++ [l.getD (3 * j) 0, l.getD (3 * j + 1) 0, l.getD (3 * j + 2) 0] = l.take (3 * (j + 1)) by
        rw [show [l.getD (3 * j) 0, l.getD (3 * j + 1) 0, l.getD (3 * j + 2) 0] = [l.getD (3 * j) 0] ++ ([l.getD (3 * j + 1) 0] ++ [l.getD (3 * j + 2) 0]) from rfl, ← List.append_assoc, ← List.append_assoc, take_one (by omega), take_one (by omega), take_one (by omega)]; rfl]
      exact ih
    · have hz : l.getD (3 * j + 2) 0 = 0 := by rw [List.getD_eq_getElem?_getD, List.getElem?_eq_none (by omega)]; rfl
      rw [hm, val_in (d := 262144) (by omega) hgn (by decide), val_in (d := 4096) (by omega) hgn (by decide), val_in (d := 64) (by omega) hgn (by decide), val_pad (by omega)] at hgrp
      have h4 : num4 (v / 262144 % 64) (v / 4096 % 64) (v / 64 % 64) (-1) = 3 := by
        unfold num4
        rw [lowN_nn (v := v / 64 % 64) (by omega), lowN_nn (v := v / 4096 % 64) (by omega), lowN_nn (v := v / 262144 % 64) (by omega)]
        rfl
      have hw : word4 (v / 262144 % 64) (v / 4096 % 64) (v / 64 % 64) (-1) = v := by
        unfold word4
        rw [up0_nn (by omega), up0_nn (by omega), up0_nn (by omega), show up0 (-1) = 0 from rfl]
        omega
      rw [h4, hw, show decide ((3 : Int) < 2) = false from rfl, cond_false] at hgrp
      refine loop_inr hgrp ?_
      rw [show (three v).take ((3 : Int) - 1).toNat = [l.getD (3 * j) 0, l.getD (3 * j + 1) 0] by unfold three; rw [e0, e1]; rfl]
      rw [show l.take (3 * j) ++ [l.getD (3 * j) 0, l.getD (3 * j + 1) 0] = l.take (3 * (j + 1)) by
        rw [show [l.getD (3 * j) 0, l.getD (3 * j + 1) 0] = [l.getD (3 * j) 0] ++ [l.getD (3 * j + 1) 0] from rfl, ← List.append_assoc, take_one (by omega), take_one (by omega), List.take_of_length_le (by omega), List.take_of_length_le (by omega)]]
      exact ih
    · have hz : l.getD (3 * j + 2) 0 = 0 := by rw [List.getD_eq_getElem?_getD, List.getElem?_eq_none (by omega)]; rfl
      have hz1 : l.getD (3 * j + 1) 0 = 0 := by rw [List.getD_eq_getElem?_getD, List.getElem?_eq_none (by omega)]; rfl
      rw [hm, val_in (d := 262144) (by omega) hgn (by decide), val_in (d := 4096) (by omega) hgn (by decide), val_pad (t := 2) (by omega), val_pad (t := 3) (by omega)] at hgrp
      have h4 : num4 (v / 262144 % 64) (v / 4096 % 64) (-1) (-1) = 2 := by
        unfold num4
        rw [lowN_nn (v := v / 4096 % 64) (by omega), lowN_nn (v := v / 262144 % 64) (by omega)]
        rfl
      have hw : word4 (v / 262144 % 64) (v / 4096 % 64) (-1) (-1) = v := by
        unfold word4
        rw [up0_nn (by omega), up0_nn (by omega), show up0 (-1) = 0 from rfl]
        omega
      rw [h4, hw, show decide ((2 : Int) < 2) = false from rfl, cond_false] at hgrp
      refine loop_inr hgrp ?_
      rw [show (three v).take ((2 : Int) - 1).toNat = [l.getD (3 * j) 0] by unfold three; rw [e0]; rfl]
      rw [show l.take (3 * j) ++ [l.getD (3 * j) 0] = l.take (3 * (j + 1)) by
        rw [take_one (by omega), List.take_of_length_le (by omega), List.take_of_length_le (by omega)]]
      exact ih
theorem ref_enc (l : List Int) (hl : ∀ x ∈ l, 0 ≤ x ∧ x < 256) (hn : l.length ≤ 20000) : F_wlvref1_Decode (encI l) = some (l, 0) := by
  have hlen := encI_len l
  unfold F_wlvref1_Decode
  rw [show Int.tmod ((encI l).length : Int) 4 = 0 by rw [Int.tmod_eq_emod_of_nonneg (by omega)]; omega, show ((0 : Int) != 0) = false from rfl, cond_false]
  have := ref_groups l hl hn _ 0 rfl (by omega)
  rw [Nat.mul_zero, List.take_zero] at this
  rw [join_inr (show loopC (F_wlvref1_Decode_L7 (encI l)) ([], 0) = some (.inr l) from this)]
  unfold F_wlvref1_Decode_J5
  dsimp only
  rw [renc_some (by omega), Option.bind_some, show (encI l == encI l) = true from beq_self_eq_true _]
  rfl
/-- The bytes that b64.Decode gives are bytes. -/
theorem dec_loop2 (s2 : List Int) (hs : s2.length ≤ 1000000) : ∃ r, loopC (F_b64_Decode_L6 s2) ([], 0, 0, 0) = some r ∧ (r = .inl ([], 2) ∨ ∃ b : List Int, r = .inr b ∧ b.length ≤ 1000000 ∧ ∀ x ∈ b, 0 ≤ x ∧ x < 256) := by
  refine loop_inv (I := fun s : List Int × Int × Int × Int => 0 ≤ s.2.1 ∧ s.2.1 < 16384 ∧ 0 ≤ s.2.2.1 ∧ s.2.2.1 < 8 ∧ 0 ≤ s.2.2.2 ∧ s.2.2.2 ≤ (s2.length : Int) ∧ (s.1.length : Int) ≤ s.2.2.2 ∧ ∀ x ∈ s.1, 0 ≤ x ∧ x < 256) (m := fun s => ((s2.length : Int) - s.2.2.2).toNat) (fun s ⟨h1, h2, h3, h4, h5, h6, h7, h8⟩ => ?_) _ ⟨by decide, by decide, by decide, by decide, by decide, by show (0 : Int) ≤ _; omega, by show (0 : Int) ≤ 0; decide, fun x hx => by cases hx⟩
  obtain ⟨L, A, B, p⟩ := s
  simp only at h1 h2 h3 h4 h5 h6 h7 h8
  by_cases hp : p < s2.length
  · obtain ⟨c, hc, _⟩ := getI_of h5 hp
    by_cases hk : idxI signs c < 0
    · exact .inl ⟨_, dec_bad hp hc hk, .inl rfl⟩
    · have hin := idxI_in signs c
      have hsl : signs.length = 64 := rfl
      refine .inr ⟨_, dec_step h5 hp hc rfl (by omega) (by omega) h1 h2 h3 h4 (by omega) hs, ?_, ?_⟩
      · cases hb : decide (2 ≤ B)
        · have := of_decide_eq_false hb
          exact ⟨by show 0 ≤ (A * 64 + idxI signs c) % 16384; omega, by show (A * 64 + idxI signs c) % 16384 < 16384; omega, by show 0 ≤ B + 6; omega, by show B + 6 < 8; omega, by show 0 ≤ p + 1; omega, by show p + 1 ≤ _; omega, by show (L.length : Int) ≤ p + 1; omega, h8⟩
        · have := of_decide_eq_true hb
          exact ⟨by show 0 ≤ (A * 64 + idxI signs c) % 16384; omega, by show (A * 64 + idxI signs c) % 16384 < 16384; omega, by show 0 ≤ B - 2; omega, by show B - 2 < 8; omega, by show 0 ≤ p + 1; omega, by show p + 1 ≤ _; omega, by
            show ((L ++ [_]).length : Int) ≤ p + 1
            rw [List.length_append, List.length_singleton]; omega, fun x hx => by
            rcases List.mem_append.1 hx with hx | hx
            · exact h8 x hx
            · obtain rfl := List.mem_singleton.1 hx
              exact ⟨Int.emod_nonneg _ (by decide), Int.emod_lt_of_pos _ (by decide)⟩⟩
      · cases decide (2 ≤ B)
        · show ((s2.length : Int) - (p + 1)).toNat < ((s2.length : Int) - p).toNat; omega
        · show ((s2.length : Int) - (p + 1)).toNat < ((s2.length : Int) - p).toNat; omega
  · exact .inl ⟨_, dec_end hp, .inr ⟨L, rfl, by omega, h8⟩⟩
theorem dec_total2 (s : List Int) (hs : s.length ≤ 1000000) : F_b64_Decode s = some ([], 2) ∨ ∃ b : List Int, F_b64_Decode s = some (b, 0) ∧ encI b = s ∧ ∀ x ∈ b, 0 ≤ x ∧ x < 256 := by
  unfold F_b64_Decode
  rw [trim_some s hs, Option.bind_some]
  have hl := trimR_len s
  obtain ⟨r, h1, h2⟩ := dec_loop2 (trimR s) (by omega)
  rcases h2 with rfl | ⟨b, rfl, hb, hr⟩
  · exact .inl (join_inl h1)
  · rw [join_inr h1]
    unfold F_b64_Decode_J4
    dsimp only
    rw [enc_some hb, Option.bind_some]
    by_cases he : encI b = s
    · right
      refine ⟨b, ?_, he, hr⟩
      rw [show (encI b == s) = true from beq_iff_eq.2 he]; rfl
    · left
      rw [show (encI b == s) = false from beq_eq_false_iff_ne.2 he]; rfl
theorem ref_same (s : List Int) (hs : s.length ≤ 20000) : ∃ x, F_b64_Decode s = some x ∧ F_wlvref1_Decode s = some x := by
  rcases dec_total2 s (by omega) with h | ⟨b, h, he, hr⟩
  · rcases ref_total s (by omega) with h' | ⟨b, h', he, hb, hr⟩
    · exact ⟨_, h, h'⟩
    · have hlen := encI_len b
      rw [he] at hlen
      have := dec_enc b hr (by omega)
      rw [he] at this
      exact ⟨_, this, h'⟩
  · have hlen := encI_len b
    rw [he] at hlen
    have := ref_enc b hr (by omega)
    rw [he] at this
    exact ⟨_, h, this⟩
theorem tells (l1 : List Int) (s2 : List Int) : F_wlvlaw2_B64Tells l1 s2 = some true := by
  unfold F_wlvlaw2_B64Tells
  rw [first2, Option.bind_some]
  show cond ((decide ((l1.length : Int) > 3000)) || (decide ((s2.length : Int) > 3000))) (some true) _ = _
  by_cases h1 : (l1.length : Int) > 3000
  · rw [decide_eq_true h1]; rfl
  by_cases h2 : (s2.length : Int) > 3000
  · rw [decide_eq_true h2, Bool.or_true]; rfl
  rw [decide_eq_false h1, decide_eq_false h2]
  obtain ⟨x, e1, e2⟩ := ref_same s2 (by omega)
  rw [Bool.or_self, cond_false, e1, Option.bind_some, e2, Option.bind_some, Option.bind_some, cond_true, enc_some (by omega), Option.bind_some, renc_some (by omega), Option.bind_some, beq_self_eq_true, beq_self_eq_true, Bool.and_self, cond_true]
  unfold F_wlvref_Bytes
  rw [beq_self_eq_true]
  rfl
end Go.Proofs.YtgcgdfjldeihkaaDoor
