/- Base64: what was written is read. -/
import Derived.Test.YtgcgdfjldeihkaaDoorQB64q
namespace Go.Proofs.YtgcgdfjldeihkaaDoor
open Pv
set_option linter.unusedVariables false
theorem sig_idx : ∀ q : Fin 64, idxI signs (byteI (sigs.getD q.val 0)) = (q.val : Int) ∧ byteI (sigs.getD q.val 0) ≠ 61 := by decide +kernel
/-- The sign at a place. -/
theorem encK_get (l : List Int) : ∀ (k j t : Nat), j < k → t < 4 → (encK l k)[4 * j + t]? = some (sgn (min (l.length - 3 * j) 3) (gv l (3 * j) 3) t)
  | 0, j, t, h, _ => by omega
  | k + 1, j, t, h, ht => by
    show (encK l k ++ grp l (3 * k) 4)[4 * j + t]? = _
    by_cases hj : j < k
    · rw [List.getElem?_append_left (by rw [encK_len]; omega)]
      exact encK_get l k j t hj ht
    · obtain rfl : j = k := by omega
      rw [List.getElem?_append_right (by rw [encK_len]; omega), encK_len, show 4 * j + t - 4 * j = t by omega]
      unfold grp
      rw [List.getElem?_map, List.getElem?_range ht]; rfl
theorem encI_get (l : List Int) {j t : Nat} (hj : 3 * j < l.length) (ht : t < 4) : (encI l)[4 * j + t]? = some (byteI (sgn (min (l.length - 3 * j) 3) (gv l (3 * j) 3) t)) := by
  unfold encI encB
  rw [List.getElem?_map, encK_get l _ j t (by omega) ht]; rfl
/-- How many signs are no =. -/
def bl (n : Nat) : Nat := 4 * (n / 3) + (if n % 3 = 0 then 0 else n % 3 + 1)
theorem sgn_in {m t : Nat} {v : Int} (h : t ≤ m) (hv : 0 ≤ v) : ∃ q : Nat, q < 64 ∧ (q : Int) = v / 2 ^ (6 * (3 - t)) % 64 ∧ byteI (sgn m v t) = byteI (sigs.getD q 0) := by
  have hp : (0 : Int) < 2 ^ (6 * (3 - t)) := Int.pow_pos (by decide)
  refine ⟨((v / 2 ^ (6 * (3 - t))) % 64).toNat, by omega, by omega, ?_⟩
  unfold sgn
  rw [if_neg (by omega)]
theorem sgn_pad {m t : Nat} {v : Int} (h : m < t) : byteI (sgn m v t) = 61 := by
  unfold sgn
  rw [if_pos h]; rfl
theorem encI_cut (l : List Int) (hl : ∀ x ∈ l, 0 ≤ x ∧ x < 256) : trimR (encI l) = (encI l).take (bl l.length) := by
  have hlen := encI_len l
  have hble : bl l.length ≤ (encI l).length := by
    rw [hlen]; unfold bl
    split <;> omega
  have hrep : (encI l).drop (bl l.length) = List.replicate ((encI l).length - bl l.length) 61 := by
    rw [List.eq_replicate_iff]
    refine ⟨List.length_drop, fun x hx => ?_⟩
    obtain ⟨i, hi⟩ := List.mem_iff_getElem?.1 hx
    rw [List.getElem?_drop] at hi
    have hlt := (List.getElem?_eq_some_iff.1 hi).1
    rw [hlen] at hlt
    have hz : l.length % 3 ≠ 0 := fun e => by unfold bl at hlt; rw [if_pos e] at hlt; omega
    unfold bl at hi hlt
    rw [if_neg hz] at hi hlt
    have := encI_get l (j := l.length / 3) (t := l.length % 3 + 1 + i) (by omega) (by omega)
    rw [show 4 * (l.length / 3) + (l.length % 3 + 1) + i = 4 * (l.length / 3) + (l.length % 3 + 1 + i) by omega, this] at hi
    injection hi with hi
    rw [← hi]
    exact sgn_pad (by omega)
  conv => lhs; rw [← List.take_append_drop (bl l.length) (encI l), hrep]
  refine trimR_of fun x hx => ?_
  rw [List.getLast?_eq_getElem?, List.length_take, Nat.min_eq_left hble] at hx
  have hpos : 0 < bl l.length := by
    rcases Nat.eq_zero_or_pos (bl l.length) with e | e
    · rw [e] at hx; simp at hx
    · exact e
  rw [List.getElem?_take_of_lt (by omega)] at hx
  have hgv := gv_in hl
  by_cases hz : l.length % 3 = 0
  · unfold bl at hx hpos
    rw [if_pos hz] at hx hpos
    have := encI_get l (j := l.length / 3 - 1) (t := 3) (by omega) (by omega)
    rw [show 4 * (l.length / 3) + 0 - 1 = 4 * (l.length / 3 - 1) + 3 by omega, this] at hx
    injection hx with hx
    obtain ⟨q, q1, q2, q3⟩ := sgn_in (m := min (l.length - 3 * (l.length / 3 - 1)) 3) (t := 3) (by omega) (hgv (3 * (l.length / 3 - 1)) 3).1
    rw [← hx, q3]
    exact (sig_idx ⟨q, q1⟩).2
  · unfold bl at hx
    rw [if_neg hz] at hx
    have := encI_get l (j := l.length / 3) (t := l.length % 3) (by omega) (by omega)
    rw [show 4 * (l.length / 3) + (l.length % 3 + 1) - 1 = 4 * (l.length / 3) + l.length % 3 by omega, this] at hx
    injection hx with hx
    obtain ⟨q, q1, q2, q3⟩ := sgn_in (m := min (l.length - 3 * (l.length / 3)) 3) (t := l.length % 3) (by omega) (hgv (3 * (l.length / 3)) 3).1
    rw [← hx, q3]
    exact (sig_idx ⟨q, q1⟩).2
section
variable {s2 : List Int} {r : (List Int × Int) ⊕ (List Int)} {L : List Int} {A p c k : Int}
theorem st0 (hp0 : 0 ≤ p) (hp : p < s2.length) (hc : getI s2 p = some c) (hk : idxI signs c = k) (k0 : 0 ≤ k) (k1 : k < 64) (hA0 : 0 ≤ A) (hA1 : A < 16384) (hL : L.length ≤ 1000000) (hs : s2.length ≤ 1000000)
    (h : loopC (F_b64_Decode_L6 s2) (L, (A * 64 + k) % 16384, 6, p + 1) = some r) : loopC (F_b64_Decode_L6 s2) (L, A, 0, p) = some r :=
  loop_inr (dec_step hp0 hp hc hk k0 k1 hA0 hA1 (Int.le_refl 0) (by decide) hL hs) h
theorem st6 (hp0 : 0 ≤ p) (hp : p < s2.length) (hc : getI s2 p = some c) (hk : idxI signs c = k) (k0 : 0 ≤ k) (k1 : k < 64) (hA0 : 0 ≤ A) (hA1 : A < 16384) (hL : L.length ≤ 1000000) (hs : s2.length ≤ 1000000)
    (h : loopC (F_b64_Decode_L6 s2) (L ++ [((A * 64 + k) % 16384 / 16) % 256], (A * 64 + k) % 16384, 4, p + 1) = some r) : loopC (F_b64_Decode_L6 s2) (L, A, 6, p) = some r :=
  loop_inr (dec_step hp0 hp hc hk k0 k1 hA0 hA1 (by decide) (by decide) hL hs) h
theorem st4 (hp0 : 0 ≤ p) (hp : p < s2.length) (hc : getI s2 p = some c) (hk : idxI signs c = k) (k0 : 0 ≤ k) (k1 : k < 64) (hA0 : 0 ≤ A) (hA1 : A < 16384) (hL : L.length ≤ 1000000) (hs : s2.length ≤ 1000000)
    (h : loopC (F_b64_Decode_L6 s2) (L ++ [((A * 64 + k) % 16384 / 4) % 256], (A * 64 + k) % 16384, 2, p + 1) = some r) : loopC (F_b64_Decode_L6 s2) (L, A, 4, p) = some r :=
  loop_inr (dec_step hp0 hp hc hk k0 k1 hA0 hA1 (by decide) (by decide) hL hs) h
theorem st2 (hp0 : 0 ≤ p) (hp : p < s2.length) (hc : getI s2 p = some c) (hk : idxI signs c = k) (k0 : 0 ≤ k) (k1 : k < 64) (hA0 : 0 ≤ A) (hA1 : A < 16384) (hL : L.length ≤ 1000000) (hs : s2.length ≤ 1000000)
    (h : loopC (F_b64_Decode_L6 s2) (L ++ [((A * 64 + k) % 16384 / 1) % 256], (A * 64 + k) % 16384, 0, p + 1) = some r) : loopC (F_b64_Decode_L6 s2) (L, A, 2, p) = some r :=
  loop_inr (dec_step hp0 hp hc hk k0 k1 hA0 hA1 (by decide) (by decide) hL hs) h
end
theorem take_one {l : List Int} {i : Nat} (h : i < l.length) : l.take i ++ [l.getD i 0] = l.take (i + 1) := by
  rw [List.take_add_one, List.getD_eq_getElem?_getD, List.getElem?_eq_getElem h]; rfl
theorem gv3 (l : List Int) (i : Nat) : gv l i 3 = l.getD i 0 * 65536 + l.getD (i + 1) 0 * 256 + l.getD (i + 2) 0 := by
  show ((0 * 256 + l.getD (i + 0) 0) * 256 + l.getD (i + 1) 0) * 256 + l.getD (i + 2) 0 = _
  rw [Nat.add_zero]
  omega
theorem getI_nat {α : Type} {l : List α} {i : Nat} {x : α} (h : l[i]? = some x) : getI l (i : Int) = some x := by
  unfold getI
  rw [decide_eq_true (show (0 : Int) ≤ i by omega)]
  exact h
/-- The sign at a place, read. -/
theorem sign_at (l : List Int) (hl : ∀ x ∈ l, 0 ≤ x ∧ x < 256) {j t : Nat} (hj : 3 * j + t ≤ l.length) (hj' : 3 * j < l.length) (ht : t < 4) (hb : 4 * j + t < bl l.length) : ∃ c, getI ((encI l).take (bl l.length)) ((4 * j + t : Nat) : Int) = some c ∧ idxI signs c = gv l (3 * j) 3 / 2 ^ (6 * (3 - t)) % 64 := by
  obtain ⟨q, q1, q2, q3⟩ := sgn_in (m := min (l.length - 3 * j) 3) (t := t) (by omega) (gv_in hl (3 * j) 3).1
  refine ⟨_, getI_nat (by rw [List.getElem?_take_of_lt hb]; exact encI_get l hj' ht), ?_⟩
  rw [q3, ← q2]
  exact (sig_idx ⟨q, q1⟩).1
theorem read_groups (l : List Int) (hl : ∀ x ∈ l, 0 ≤ x ∧ x < 256) (hn : l.length ≤ 100000) : ∀ (d j : Nat), l.length / 3 - j = d → j ≤ l.length / 3 → ∀ A : Int, 0 ≤ A → A < 16384 → loopC (F_b64_Decode_L6 ((encI l).take (bl l.length))) (l.take (3 * j), A, 0, ((4 * j : Nat) : Int)) = some (.inr l) := by
  have hlen : ((encI l).take (bl l.length)).length = bl l.length := by
    rw [List.length_take, encI_len]
    unfold bl
    split <;> omega
  have hbl : bl l.length ≤ 1000000 := by unfold bl; split <;> omega
  intro d
  induction d with
  | zero =>
    intro j hd hj A hA0 hA1
    have hj : j = l.length / 3 := by omega
    have hg := gv3 l (3 * j)
    have g0 := getD_in hl (3 * j)
    have g1 := getD_in hl (3 * j + 1)
    have g2 := getD_in hl (3 * j + 2)
    have hLen : (l.take (3 * j)).length ≤ 1000000 := by rw [List.length_take]; omega
    have hb : bl l.length = 4 * j + (if l.length % 3 = 0 then 0 else l.length % 3 + 1) := by unfold bl; rw [hj]
    by_cases h0 : l.length % 3 = 0
    · rw [if_pos h0] at hb
      have : l.take (3 * j) = l := List.take_of_length_le (by omega)
      rw [this]
      exact loop_inl (dec_end (by rw [hlen]; omega))
    · rw [if_neg h0] at hb
      obtain ⟨c0, x0, y0⟩ := sign_at l hl (j := j) (t := 0) (by omega) (by omega) (by omega) (by omega)
      obtain ⟨c1, x1, y1⟩ := sign_at l hl (j := j) (t := 1) (by omega) (by omega) (by omega) (by omega)
      rw [show (2 : Int) ^ (6 * (3 - 0)) = 262144 by decide] at y0
      rw [show (2 : Int) ^ (6 * (3 - 1)) = 4096 by decide] at y1
      refine st0 (by omega) (by rw [hlen]; omega) x0 y0 (by omega) (by omega) hA0 hA1 hLen (by omega) ?_
      refine st6 (p := ((4 * j : Nat) : Int) + 1) (by omega) (by rw [hlen]; omega) x1 y1 (by omega) (by omega) (by omega) (by omega) hLen (by omega) ?_
      generalize hA2 : (((A * 64 + gv l (3 * j) 3 / 262144 % 64) % 16384 * 64 + gv l (3 * j) 3 / 4096 % 64) % 16384) = A2
      have e0 : A2 / 16 % 256 = l.getD (3 * j) 0 := by omega
      rw [e0, take_one (by omega)]
      by_cases h1 : l.length % 3 = 1
      · have : l.take (3 * j + 1) = l := List.take_of_length_le (by omega)
        rw [this]
        exact loop_inl (dec_end (by rw [hlen]; omega))
      · obtain ⟨c2, x2, y2⟩ := sign_at l hl (j := j) (t := 2) (by omega) (by omega) (by omega) (by omega)
        rw [show (2 : Int) ^ (6 * (3 - 2)) = 64 by decide] at y2
        refine st4 (p := ((4 * j : Nat) : Int) + 1 + 1) (by omega) (by rw [hlen]; omega) (by rw [← x2]; congr 1) y2 (by omega) (by omega) (by omega) (by omega) (by rw [List.length_take]; omega) (by omega) ?_
        have e1 : (A2 * 64 + gv l (3 * j) 3 / 64 % 64) % 16384 / 4 % 256 = l.getD (3 * j + 1) 0 := by omega
        rw [e1, take_one (by omega)]
        have : l.take (3 * j + 1 + 1) = l := List.take_of_length_le (by omega)
        rw [this]
        exact loop_inl (dec_end (by rw [hlen]; omega))
  | succ d ih =>
    intro j hd hj A hA0 hA1
    have hg := gv3 l (3 * j)
    have g0 := getD_in hl (3 * j)
    have g1 := getD_in hl (3 * j + 1)
    have g2 := getD_in hl (3 * j + 2)
    have hLen : ∀ i, (l.take i).length ≤ 1000000 := fun i => by rw [List.length_take]; omega
    have hb : 4 * j + 4 ≤ bl l.length := by unfold bl; split <;> omega
    obtain ⟨c0, x0, y0⟩ := sign_at l hl (j := j) (t := 0) (by omega) (by omega) (by omega) (by omega)
    obtain ⟨c1, x1, y1⟩ := sign_at l hl (j := j) (t := 1) (by omega) (by omega) (by omega) (by omega)
    obtain ⟨c2, x2, y2⟩ := sign_at l hl (j := j) (t := 2) (by omega) (by omega) (by omega) (by omega)
    obtain ⟨c3, x3, y3⟩ := sign_at l hl (j := j) (t := 3) (by omega) (by omega) (by omega) (by omega)
    rw [show (2 : Int) ^ (6 * (3 - 0)) = 262144 by decide] at y0
    rw [show (2 : Int) ^ (6 * (3 - 1)) = 4096 by decide] at y1
    rw [show (2 : Int) ^ (6 * (3 - 2)) = 64 by decide] at y2
    rw [show (2 : Int) ^ (6 * (3 - 3)) = 1 by decide] at y3
    refine st0 (by omega) (by rw [hlen]; omega) x0 y0 (by omega) (by omega) hA0 hA1 (hLen _) (by omega) ?_
    refine st6 (p := ((4 * j : Nat) : Int) + 1) (by omega) (by rw [hlen]; omega) x1 y1 (by omega) (by omega) (by omega) (by omega) (hLen _) (by omega) ?_
    generalize hA2 : (((A * 64 + gv l (3 * j) 3 / 262144 % 64) % 16384 * 64 + gv l (3 * j) 3 / 4096 % 64) % 16384) = A2
    have e0 : A2 / 16 % 256 = l.getD (3 * j) 0 := by omega
    rw [e0, take_one (by omega)]
    refine st4 (p := ((4 * j : Nat) : Int) + 1 + 1) (by omega) (by rw [hlen]; omega) (by rw [← x2]; congr 1) y2 (by omega) (by omega) (by omega) (by omega) (hLen _) (by omega) ?_
    generalize hA3 : (A2 * 64 + gv l (3 * j) 3 / 64 % 64) % 16384 = A3
    have e1 : A3 / 4 % 256 = l.getD (3 * j + 1) 0 := by omega
    rw [e1, take_one (by omega)]
    refine st2 (p := ((4 * j : Nat) : Int) + 1 + 1 + 1) (by omega) (by rw [hlen]; omega) (by rw [← x3]; congr 1) y3 (by omega) (by omega) (by omega) (by omega) (hLen _) (by omega) ?_
    generalize hA4 : (A3 * 64 + gv l (3 * j) 3 / 1 % 64) % 16384 = A4
    have e2 : A4 / 1 % 256 = l.getD (3 * j + 2) 0 := by omega
    rw [e2, take_one (by omega)]
    have := ih (j + 1) (by omega) (by omega) A4 (by omega) (by omega)
    rw [show 3 * j + 1 + 1 + 1 = 3 * (j + 1) by omega, show ((4 * j : Nat) : Int) + 1 + 1 + 1 + 1 = ((4 * (j + 1) : Nat) : Int) by omega]
    exact this
theorem dec_enc (l : List Int) (hl : ∀ x ∈ l, 0 ≤ x ∧ x < 256) (hn : l.length ≤ 100000) : F_b64_Decode (encI l) = some (l, 0) := by
  unfold F_b64_Decode
  rw [trim_some _ (by rw [encI_len]; omega), Option.bind_some, encI_cut l hl]
  have := read_groups l hl hn _ 0 rfl (by omega) 0 (by decide) (by decide)
  rw [Nat.mul_zero, List.take_zero] at this
  have this : loopC (F_b64_Decode_L6 ((encI l).take (bl l.length))) ([], 0, 0, 0) = some (.inr l) := this
  rw [join_inr this]
  unfold F_b64_Decode_J4
  dsimp only
  rw [enc_some (by omega), Option.bind_some, show (encI l == encI l) = true from beq_self_eq_true _]
  rfl
end Go.Proofs.YtgcgdfjldeihkaaDoor
