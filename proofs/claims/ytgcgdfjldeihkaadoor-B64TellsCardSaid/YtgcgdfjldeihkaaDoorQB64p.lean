/- Base64: the plain facts. -/
import Derived.Test.YtgcgdfjldeihkaaDoorQB64
import Derived.Test.YtgcgdfjldeihkaaDoorQb
namespace Go.Proofs.YtgcgdfjldeihkaaDoor
open Pv
set_option linter.unusedVariables false
def signs : List Int := [65, 66, 67, 68, 69, 70, 71, 72, 73, 74, 75, 76, 77, 78, 79, 80, 81, 82, 83, 84, 85, 86, 87, 88, 89, 90, 97, 98, 99, 100, 101, 102, 103, 104, 105, 106, 107, 108, 109, 110, 111, 112, 113, 114, 115, 116, 117, 118, 119, 120, 121, 122, 48, 49, 50, 51, 52, 53, 54, 55, 56, 57, 43, 47]
def encI (l : List Int) : List Int := (encB l).map byteI
theorem enc_some {l : List Int} (h : l.length ≤ 1000000) : F_b64_Encode l = some (encI l) := by
  unfold F_b64_Encode
  rw [Nat.ble_eq_true_of_le (by omega)]; rfl
theorem encI_len (l : List Int) : (encI l).length = 4 * ((l.length + 2) / 3) := by unfold encI; rw [List.length_map, encB_len]
theorem u8w (x : Int) : IntKind.u8.wrap x = x % 256 := IntKind.wrap_u8 x
theorem nx_eq {a k : Int} (h0 : 0 ≤ a) (h1 : a < 16384) (k0 : 0 ≤ k) (k1 : k < 64) : bits .and .i64 (bits .or .i64 (IntKind.i64.wrap (a * 2 ^ 6)) k) 16383 = (a * 64 + k) % 16384 := by
  have e : a * (2 : Int) ^ 6 = a * 64 := rfl
  rw [e, w64 (by omega) (by omega)]
  rw [bits_join .i64 40 (by decide) (fun n h0 h1 => w64 h0 (by rw [← e40]; exact h1)) 6 (a * 64) k (by omega) (by show a * 64 % 64 = 0; omega) (by rw [e40]; omega) k0 (by show k < 64; exact k1) (by rw [e40]; omega)]
  exact bits_mask .i64 40 (by decide) (fun n h0 h1 => w64 h0 (by rw [← e40]; exact h1)) 14 (by decide) _ (by omega) (by rw [e40]; omega)
theorem idx_text (c : Int) : F_strings_IndexByte ([65, 66, 67, 68, 69, 70, 71, 72, 73, 74, 75, 76, 77, 78, 79, 80, 81, 82, 83, 84, 85, 86, 87, 88, 89, 90, 97, 98, 99, 100, 101, 102, 103, 104, 105, 106, 107, 108, 109, 110, 111, 112, 113, 114, 115, 116, 117, 118, 119, 120, 121, 122, 48, 49, 50, 51, 52, 53, 54, 55, 56, 57, 43, 47] : List Int) c = some (idxI signs c) := by unfold F_strings_IndexByte signs; rfl
/-- One sign more. -/
theorem dec_step {s2 L : List Int} {A B p c k : Int} (hp0 : 0 ≤ p) (hp : p < s2.length) (hc : getI s2 p = some c) (hk : idxI signs c = k) (k0 : 0 ≤ k) (k1 : k < 64) (hA0 : 0 ≤ A) (hA1 : A < 16384) (hB0 : 0 ≤ B) (hB1 : B < 8) (hL : L.length ≤ 1000000) (hs : s2.length ≤ 1000000) :
    F_b64_Decode_L6 s2 (L, A, B, p) = some (.inr (cond (decide (2 ≤ B)) (L ++ [((A * 64 + k) % 16384 / 2 ^ (B - 2).toNat) % 256], (A * 64 + k) % 16384, B - 2, p + 1) (L, (A * 64 + k) % 16384, B + 6, p + 1))) := by
  have e1 : IntKind.i64.wrap (B + 6) = B + 6 := wrap_in (by omega) (by omega)
  have e2 : IntKind.i64.wrap (B + 6 - 8) = B - 2 := by rw [wrap_in (by omega) (by omega)]; omega
  have e3 : IntKind.i64.wrap (p + 1) = p + 1 := wrap_in (by omega) (by omega)
  have e4 := nx_eq hA0 hA1 k0 k1
  have e5 := idx_text c
  rw [hk] at e5
  unfold F_b64_Decode_L6
  show cond (decide (p < (s2.length : Int))) ((getI s2 p).bind fun i7 => _) _ = _
  rw [decide_eq_true hp, hc, cond_true, Option.bind_some, e5, Option.bind_some, decide_eq_false (show ¬ k < 0 by omega), cond_false]
  dsimp only
  rw [e1, e2, e3, e4]
  by_cases hb : 2 ≤ B
  · rw [decide_eq_true hb, decide_eq_true (show B + 6 ≥ 8 by omega), decide_eq_true (show 0 ≤ B - 2 by omega)]
    have hm : maxLen = 9223372036854775807 := rfl
    rw [decide_eq_true (show (L.length + ([IntKind.u8.wrap (((A * 64 + k) % 16384).fdiv (2 ^ min (B - 2).toNat 64))] : List Int).length) * 1 ≤ 140737488355328 by rw [List.length_singleton]; omega), decide_eq_true (show L.length + ([IntKind.u8.wrap (((A * 64 + k) % 16384).fdiv (2 ^ min (B - 2).toNat 64))] : List Int).length ≤ maxLen by rw [List.length_singleton]; omega)]
    simp only [cond_true, chk, Bool.and_self]
    have e6 : min (B - 2).toNat 64 = (B - 2).toNat := Nat.min_eq_left (by omega)
    rw [e6, u8w, Int.fdiv_eq_ediv_of_nonneg _ (Int.le_of_lt (Int.pow_pos (by decide)))]
  · rw [decide_eq_false hb, decide_eq_false (show ¬ B + 6 ≥ 8 by omega)]
    simp only [cond_false]
theorem dec_bad {s2 L : List Int} {A B p c : Int} (hp : p < s2.length) (hc : getI s2 p = some c) (hk : idxI signs c < 0) : F_b64_Decode_L6 s2 (L, A, B, p) = some (.inl (.inl ([], 2))) := by
  have e5 := idx_text c
  unfold F_b64_Decode_L6
  show cond (decide (p < (s2.length : Int))) ((getI s2 p).bind fun i7 => _) _ = _
  rw [decide_eq_true hp, hc, cond_true, Option.bind_some, e5, Option.bind_some, decide_eq_true hk, cond_true]
theorem dec_end {s2 L : List Int} {A B p : Int} (hp : ¬ p < s2.length) : F_b64_Decode_L6 s2 (L, A, B, p) = some (.inl (.inr L)) := by
  unfold F_b64_Decode_L6
  simp only []
  rw [decide_eq_false hp]
  rfl
/-- The reading loop comes to an end, whatever it reads. -/
theorem dec_loop (s2 : List Int) (hs : s2.length ≤ 1000000) : ∃ r, loopC (F_b64_Decode_L6 s2) ([], 0, 0, 0) = some r ∧ (r = .inl ([], 2) ∨ ∃ b : List Int, r = .inr b ∧ b.length ≤ 1000000) := by
  refine loop_inv (I := fun s : List Int × Int × Int × Int => 0 ≤ s.2.1 ∧ s.2.1 < 16384 ∧ 0 ≤ s.2.2.1 ∧ s.2.2.1 < 8 ∧ 0 ≤ s.2.2.2 ∧ s.2.2.2 ≤ (s2.length : Int) ∧ (s.1.length : Int) ≤ s.2.2.2) (m := fun s => ((s2.length : Int) - s.2.2.2).toNat) (fun s ⟨h1, h2, h3, h4, h5, h6, h7⟩ => ?_) _ ⟨by decide, by decide, by decide, by decide, by decide, by show (0 : Int) ≤ _; omega, by show (0 : Int) ≤ 0; decide⟩
  obtain ⟨L, A, B, p⟩ := s
  simp only at h1 h2 h3 h4 h5 h6 h7
  by_cases hp : p < s2.length
  · obtain ⟨c, hc, _⟩ := getI_of h5 hp
    by_cases hk : idxI signs c < 0
    · exact .inl ⟨_, dec_bad hp hc hk, .inl rfl⟩
    · have hin := idxI_in signs c
      have hsl : signs.length = 64 := rfl
      refine .inr ⟨_, dec_step h5 hp hc rfl (by omega) (by omega) h1 h2 h3 h4 (by omega) hs, ?_, ?_⟩
      · cases hb : decide (2 ≤ B)
        · have := of_decide_eq_false hb
          exact ⟨by show 0 ≤ (A * 64 + idxI signs c) % 16384; omega, by show (A * 64 + idxI signs c) % 16384 < 16384; omega, by show 0 ≤ B + 6; omega, by show B + 6 < 8; omega, by show 0 ≤ p + 1; omega, by show p + 1 ≤ _; omega, by show (L.length : Int) ≤ p + 1; omega⟩
        · have := of_decide_eq_true hb
          exact ⟨by show 0 ≤ (A * 64 + idxI signs c) % 16384; omega, by show (A * 64 + idxI signs c) % 16384 < 16384; omega, by show 0 ≤ B - 2; omega, by show B - 2 < 8; omega, by show 0 ≤ p + 1; omega, by show p + 1 ≤ _; omega, by
            show ((L ++ [_]).length : Int) ≤ p + 1
            rw [List.length_append, List.length_singleton]; omega⟩
      · cases decide (2 ≤ B)
        · show ((s2.length : Int) - (p + 1)).toNat < ((s2.length : Int) - p).toNat; omega
        · show ((s2.length : Int) - (p + 1)).toNat < ((s2.length : Int) - p).toNat; omega
  · exact .inl ⟨_, dec_end hp, .inr ⟨L, rfl, by omega⟩⟩
end Go.Proofs.YtgcgdfjldeihkaaDoor
