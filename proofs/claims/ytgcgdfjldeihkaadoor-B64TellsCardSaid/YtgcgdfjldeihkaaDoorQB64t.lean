/- B64Tells: plain: wlvref1.Decode reads what b64.Decode reads. -/
import Derived.Test.YtgcgdfjldeihkaaDoorQB64l
import Derived.Test.YtgcgdfjldeihkaaDoorQB64T
namespace Go.Proofs.YtgcgdfjldeihkaaDoor
open Pv
set_option linter.unusedVariables false
/-! ### a sign's value -/
theorem sign_at64 : ∀ q : Fin 64, F_wlvref1_sign (q.val : Int) = some (signs.getD q.val 0) := by decide +kernel
theorem signs_drop {j : Nat} (h : j < 64) : signs.drop j = signs.getD j 0 :: signs.drop (j + 1) := by
  have hl : j < signs.length := h
  rw [List.drop_eq_getElem_cons hl, List.getD_eq_getElem?_getD, List.getElem?_eq_getElem hl]; rfl
theorem value_loop (c : Int) : ∀ (d j : Nat), 64 - j = d → j ≤ 64 → loopC (F_wlvref1_value_L3 c) (j : Int) = some (cond (decide (idxI (signs.drop j) c < 0)) (.inr ()) (.inl (idxI (signs.drop j) c + j)))
  | 0, j, hd, hj => by
    obtain rfl : j = 64 := by omega
    refine loop_inl ?_
    unfold F_wlvref1_value_L3
    rfl
  | d + 1, j, hd, hj => by
    have hlt : j < 64 := by omega
    have ih := value_loop c d (j + 1) (by omega) (by omega)
    have hs := sign_at64 ⟨j, hlt⟩
    have hb : F_wlvref1_value_L3 c (j : Int) = cond (signs.getD j 0 == c) (some (.inl (.inl (j : Int)))) (some (.inr ((j : Int) + 1))) := by
      unfold F_wlvref1_value_L3
      dsimp only
      rw [decide_eq_true (show (j : Int) < 64 by omega), cond_true]
      have hs' : F_wlvref1_sign (j : Int) = some (signs.getD j 0) := hs
      rw [hs', Option.bind_some, wrap_in (by omega) (by omega)]
    rw [signs_drop hlt]
    have hin := idxI_in (signs.drop (j + 1)) c
    unfold idxI
    cases he : (signs.getD j 0 == c) with
    | true =>
      rw [he] at hb
      rw [cond_true]
      rw [loop_inl (show F_wlvref1_value_L3 c (j : Int) = some (.inl (.inl (j : Int))) from hb)]
      simp
    | false =>
      rw [he] at hb
      rw [cond_false]
      rw [loop_inr (show F_wlvref1_value_L3 c (j : Int) = some (.inr ((j : Int) + 1)) from hb) (show loopC (F_wlvref1_value_L3 c) ((j : Int) + 1) = _ from ih)]
      by_cases h1 : idxI (signs.drop (j + 1)) c = -1
      · rw [h1]; rfl
      · rw [show (idxI (signs.drop (j + 1)) c == -1) = false from beq_eq_false_iff_ne.2 h1, cond_false, decide_eq_false (show ¬ idxI (signs.drop (j + 1)) c < 0 by omega), decide_eq_false (show ¬ idxI (signs.drop (j + 1)) c + 1 < 0 by omega), cond_false, cond_false]
        congr 2
        omega
theorem value_eq (c : Int) : F_wlvref1_value c = some (idxI signs c) := by
  have h := value_loop c 64 0 rfl (by omega)
  rw [List.drop_zero] at h
  have hin := idxI_in signs c
  unfold F_wlvref1_value
  by_cases h0 : idxI signs c < 0
  · rw [decide_eq_true h0, cond_true] at h
    rw [join_inr (show loopC (F_wlvref1_value_L3 c) 0 = _ from h)]
    unfold F_wlvref1_value_J1
    rw [show idxI signs c = -1 by omega]
  · rw [decide_eq_false h0, cond_false] at h
    rw [join_inl (show loopC (F_wlvref1_value_L3 c) 0 = _ from h)]
    congr 1
    show idxI signs c + ((0 : Nat) : Int) = _
    omega
/-! ### four signs -/
def up0 (v : Int) : Int := cond (decide (v < 0)) 0 v
def lowN (v n k : Int) : Int := cond (decide (v < 0)) (minI n k) n
theorem step14 {s L : List Int} {i w n k c : Int} (hi : 0 ≤ i) (hi2 : i ≤ 1000000) (hk : 0 ≤ k) (hk4 : k < 4) (hw : 0 ≤ w) (hw2 : w < 1073741824) (hc : getI s (i + k) = some c) :
    F_wlvref1_Decode_L14 s i (L, w, n, k) = some (.inr (L, w * 64 + up0 (idxI signs c), lowN (idxI signs c) n k, k + 1)) := by
  have hin := idxI_in signs c
  have hsl : signs.length = 64 := rfl
  have e1 : IntKind.i64.wrap (i + k) = i + k := wrap_in (by omega) (by omega)
  have e2 : IntKind.i64.wrap (k + 1) = k + 1 := wrap_in (by omega) (by omega)
  have e3 : ∀ v : Int, 0 ≤ v → v < 64 → bits .or .i64 (IntKind.i64.wrap (w * 2 ^ 6)) v = w * 64 + v := fun v h0 h1 => by
    rw [show w * (2 : Int) ^ 6 = w * 64 from rfl, w64 (by omega) (by omega)]
    exact bits_join .i64 40 (by decide) (fun n h0 h1 => w64 h0 (by rw [← e40]; exact h1)) 6 (w * 64) v (by omega) (by show w * 64 % 64 = 0; omega) (by rw [e40]; omega) h0 (by show v < 64; exact h1) (by rw [e40]; omega)
  unfold F_wlvref1_Decode_L14
  dsimp only
  rw [decide_eq_true hk4, cond_true, e1, hc, Option.bind_some, value_eq, Option.bind_some, e2]
  unfold up0 lowN
  by_cases hv : idxI signs c < 0
  · rw [decide_eq_true hv, cond_true, cond_true, cond_true, e3 0 (by omega) (by omega)]
  · rw [decide_eq_false hv, cond_false, cond_false, cond_false, e3 _ (by omega) (by omega)]
theorem up0_in (c : Int) : 0 ≤ up0 (idxI signs c) ∧ up0 (idxI signs c) < 64 := by
  have hin := idxI_in signs c
  have hsl : signs.length = 64 := rfl
  unfold up0
  by_cases hv : idxI signs c < 0
  · rw [decide_eq_true hv, cond_true]; omega
  · rw [decide_eq_false hv, cond_false]; omega
def word4 (v0 v1 v2 v3 : Int) : Int := (((0 * 64 + up0 v0) * 64 + up0 v1) * 64 + up0 v2) * 64 + up0 v3
def num4 (v0 v1 v2 v3 : Int) : Int := lowN v3 (lowN v2 (lowN v1 (lowN v0 4 0) 1) 2) 3
theorem read4 {s L : List Int} {i c0 c1 c2 c3 : Int} (hi : 0 ≤ i) (hi2 : i ≤ 1000000) (h0 : getI s (i + 0) = some c0) (h1 : getI s (i + 1) = some c1) (h2 : getI s (i + 2) = some c2) (h3 : getI s (i + 3) = some c3) :
    loopC (F_wlvref1_Decode_L14 s i) (L, 0, 4, 0) = some (.inr (L, word4 (idxI signs c0) (idxI signs c1) (idxI signs c2) (idxI signs c3), num4 (idxI signs c0) (idxI signs c1) (idxI signs c2) (idxI signs c3))) := by
  have u0 := up0_in c0
  have u1 := up0_in c1
  have u2 := up0_in c2
  refine loop_inr (step14 (k := 0) hi hi2 (by omega) (by omega) (by omega) (by omega) h0) ?_
  refine loop_inr (step14 (k := 0 + 1) hi hi2 (by omega) (by omega) (by omega) (by omega) h1) ?_
  refine loop_inr (step14 (k := 0 + 1 + 1) hi hi2 (by omega) (by omega) (by omega) (by omega) h2) ?_
  refine loop_inr (step14 (k := 0 + 1 + 1 + 1) hi hi2 (by omega) (by omega) (by omega) (by omega) h3) ?_
  refine loop_inl ?_
  unfold F_wlvref1_Decode_L14
  rfl
theorem lowN_in {v n k : Int} (hn : 0 ≤ n ∧ n ≤ 4) (hk : 0 ≤ k ∧ k ≤ 4) : 0 ≤ lowN v n k ∧ lowN v n k ≤ 4 := by
  unfold lowN minI
  by_cases h : v < 0 <;> by_cases h2 : k < n <;> simp [h, h2] <;> omega
theorem num4_in (v0 v1 v2 v3 : Int) : 0 ≤ num4 v0 v1 v2 v3 ∧ num4 v0 v1 v2 v3 ≤ 4 := lowN_in (lowN_in (lowN_in (lowN_in (by omega) (by omega)) (by omega)) (by omega)) (by omega)
theorem word4_in (c0 c1 c2 c3 : Int) : 0 ≤ word4 (idxI signs c0) (idxI signs c1) (idxI signs c2) (idxI signs c3) ∧ word4 (idxI signs c0) (idxI signs c1) (idxI signs c2) (idxI signs c3) < 16777216 := by
  have u0 := up0_in c0
  have u1 := up0_in c1
  have u2 := up0_in c2
  have u3 := up0_in c3
  unfold word4
  omega
def three (w : Int) : List Int := [w / 65536 % 256, w / 256 % 256, w % 256]
/-- One group of the reference. -/
theorem group {s L : List Int} {i c0 c1 c2 c3 : Int} (hi : 0 ≤ i) (hi2 : i ≤ 1000000) (hL : L.length ≤ 1000000) (hs : i < s.length) (h0 : getI s (i + 0) = some c0) (h1 : getI s (i + 1) = some c1) (h2 : getI s (i + 2) = some c2) (h3 : getI s (i + 3) = some c3) :
    F_wlvref1_Decode_L7 s (L, i) = some (cond (decide (num4 (idxI signs c0) (idxI signs c1) (idxI signs c2) (idxI signs c3) < 2)) (.inl (.inl ([], 2)))
      (.inr (L ++ (three (word4 (idxI signs c0) (idxI signs c1) (idxI signs c2) (idxI signs c3))).take (num4 (idxI signs c0) (idxI signs c1) (idxI signs c2) (idxI signs c3) - 1).toNat, i + 4))) := by
  have hr := read4 (L := L) hi hi2 h0 h1 h2 h3
  have hn := num4_in (idxI signs c0) (idxI signs c1) (idxI signs c2) (idxI signs c3)
  have hw := word4_in c0 c1 c2 c3
  generalize num4 (idxI signs c0) (idxI signs c1) (idxI signs c2) (idxI signs c3) = n at hr hn
  generalize word4 (idxI signs c0) (idxI signs c1) (idxI signs c2) (idxI signs c3) = w at hr hw
  unfold F_wlvref1_Decode_L7
  dsimp only
  rw [decide_eq_true hs, cond_true, join_inr hr]
  unfold F_wlvref1_Decode_J12
  dsimp only
  by_cases h : n < 2
  · rw [decide_eq_true h, cond_true, cond_true]
    rfl
  · rw [decide_eq_false h, cond_false, cond_false, wrap_in (x := n - 1) (by omega) (by omega), u8w, u8w, u8w, Int.fdiv_eq_ediv_of_nonneg _ (by decide), Int.fdiv_eq_ediv_of_nonneg _ (by decide)]
    have hc : cutI ([w / 2 ^ 16 % 256, w / 2 ^ 8 % 256, w % 256] : List Int) 0 (n - 1) = some ((three w).take (n - 1).toNat) := by
      unfold cutI
      rw [decide_eq_true (show (0 : Int) ≤ 0 by omega), decide_eq_true (show 0 ≤ n - 1 by omega), decide_eq_true (show n - 1 ≤ (([w / 2 ^ 16 % 256, w / 2 ^ 8 % 256, w % 256] : List Int).length : Int) by show n - 1 ≤ 3; omega)]
      rfl
    have htl : ((three w).take (n - 1).toNat).length ≤ 3 := by rw [List.length_take]; show min _ 3 ≤ 3; omega
    have hm : maxLen = 9223372036854775807 := rfl
    rw [hc, Option.bind_some]
    unfold chk
    rw [decide_eq_true (show (L.length + ((three w).take (n - 1).toNat).length) * 1 ≤ 140737488355328 by omega), decide_eq_true (show L.length + ((three w).take (n - 1).toNat).length ≤ maxLen by omega)]
    show joinC (some (.inr (L ++ (three w).take (n - 1).toNat))) (F_wlvref1_Decode_J10 i) = _
    rw [join_inr rfl]
    unfold F_wlvref1_Decode_J10
    rw [wrap_in (x := i + 4) (by omega) (by omega)]
theorem ref_end {s L : List Int} {i : Int} (h : ¬ i < s.length) : F_wlvref1_Decode_L7 s (L, i) = some (.inl (.inr L)) := by
  unfold F_wlvref1_Decode_L7
  dsimp only
  rw [decide_eq_false h]; rfl
theorem three_in (w : Int) : ∀ x ∈ three w, 0 ≤ x ∧ x < 256 := fun x hx => by
  unfold three at hx
  simp at hx
  rcases hx with rfl | rfl | rfl <;> omega
theorem ref_loop (s : List Int) (hs : s.length ≤ 100000) (h4 : s.length % 4 = 0) : ∃ r, loopC (F_wlvref1_Decode_L7 s) ([], 0) = some r ∧ (r = .inl ([], 2) ∨ ∃ b : List Int, r = .inr b ∧ b.length ≤ 100000 ∧ ∀ x ∈ b, 0 ≤ x ∧ x < 256) := by
  refine loop_inv (I := fun s' : List Int × Int => 0 ≤ s'.2 ∧ s'.2 % 4 = 0 ∧ s'.2 ≤ (s.length : Int) ∧ (s'.1.length : Int) ≤ s'.2 ∧ ∀ x ∈ s'.1, 0 ≤ x ∧ x < 256) (m := fun s' => ((s.length : Int) - s'.2).toNat) (fun s' ⟨h1, h2, h3, h5, h6⟩ => ?_) _ ⟨by decide, by decide, by show (0 : Int) ≤ _; omega, by show (0 : Int) ≤ 0; decide, fun x hx => by cases hx⟩
  obtain ⟨L, i⟩ := s'
  simp only at h1 h2 h3 h5 h6
  by_cases hp : i < s.length
  · obtain ⟨c0, x0, _⟩ := getI_of (l := s) (j := i + 0) (by omega) (by omega)
    obtain ⟨c1, x1, _⟩ := getI_of (l := s) (j := i + 1) (by omega) (by omega)
    obtain ⟨c2, x2, _⟩ := getI_of (l := s) (j := i + 2) (by omega) (by omega)
    obtain ⟨c3, x3, _⟩ := getI_of (l := s) (j := i + 3) (by omega) (by omega)
    have hg := group (L := L) h1 (by omega) (by omega) hp x0 x1 x2 x3
    by_cases hn : num4 (idxI signs c0) (idxI signs c1) (idxI signs c2) (idxI signs c3) < 2
    · rw [decide_eq_true hn, cond_true] at hg
      exact .inl ⟨_, hg, .inl rfl⟩
    · rw [decide_eq_false hn, cond_false] at hg
      have hl3 : ((three (word4 (idxI signs c0) (idxI signs c1) (idxI signs c2) (idxI signs c3))).take (num4 (idxI signs c0) (idxI signs c1) (idxI signs c2) (idxI signs c3) - 1).toNat).length ≤ 3 := by rw [List.length_take]; show min _ 3 ≤ 3; omega
      refine .inr ⟨_, hg, ⟨by show 0 ≤ i + 4; omega, by show (i + 4) % 4 = 0; omega, by show i + 4 ≤ _; omega, by
        show ((L ++ _).length : Int) ≤ i + 4
        rw [List.length_append]; omega, fun x hx => ?_⟩, by show ((s.length : Int) - (i + 4)).toNat < ((s.length : Int) - i).toNat; omega⟩
      rcases List.mem_append.1 hx with hx | hx
      · exact h6 x hx
      · exact three_in _ x (List.mem_of_mem_take hx)
  · exact .inl ⟨_, ref_end hp, .inr ⟨L, rfl, by omega, h6⟩⟩
theorem renc_some {l : List Int} (h : l.length ≤ 100000) : F_wlvref1_Encode l = some (encI l) := by
  unfold F_wlvref1_Encode
  rw [Nat.ble_eq_true_of_le (show l.length ≤ 1000000 by omega)]; rfl
theorem ref_total (s : List Int) (hs : s.length ≤ 100000) : F_wlvref1_Decode s = some ([], 2) ∨ ∃ b : List Int, F_wlvref1_Decode s = some (b, 0) ∧ encI b = s ∧ b.length ≤ 100000 ∧ ∀ x ∈ b, 0 ≤ x ∧ x < 256 := by
  unfold F_wlvref1_Decode
  have e4 : Int.tmod (s.length : Int) 4 = ((s.length % 4 : Nat) : Int) := by rw [Int.tmod_eq_emod_of_nonneg (by omega)]; omega
  by_cases h4 : s.length % 4 = 0
  · rw [e4, h4, show (((0 : Nat) : Int) != 0) = false from rfl, cond_false]
    obtain ⟨r, h1, h2⟩ := ref_loop s hs h4
    rcases h2 with rfl | ⟨b, rfl, hb, hr⟩
    · exact .inl (join_inl h1)
    · rw [join_inr h1]
      unfold F_wlvref1_Decode_J5
      dsimp only
      rw [renc_some hb, Option.bind_some]
      by_cases he : encI b = s
      · right
        refine ⟨b, ?_, he, hb, hr⟩
        rw [show (encI b == s) = true from beq_iff_eq.2 he]; rfl
      · left
        rw [show (encI b == s) = false from beq_eq_false_iff_ne.2 he]; rfl
  · left
    rw [e4, show (((s.length % 4 : Nat) : Int) != 0) = true by rw [bne_iff_ne]; omega]; rfl
end Go.Proofs.YtgcgdfjldeihkaaDoor
