/- Addresses of four bytes, and texts without a colon. -/
import Derived.Test.YtblngdnndkljoaaDoorQDot
namespace Go.Proofs.YtblngdnndkljoaaDoor
open Pv
set_option linter.unusedVariables false
def byteB (w : List Int) : Bool := canonB w && decide (valI w ≤ 255)
def fourR (s : List Int) : List Int × Bool := cond (decide ((splitI s 46).length = 4) && (splitI s 46).all byteB) ((splitI s 46).map valI, true) ([], false)
theorem byte_val {w : List Int} (h : byteB w = true) : 0 ≤ valI w ∧ valI w ≤ 255 := by
  unfold byteB at h
  rw [Bool.and_eq_true, decide_eq_true_iff] at h
  have := h.1
  unfold canonB at this
  exact ⟨valI_nn _ w rfl (Bool.and_eq_true _ _ ▸ this).1, h.2⟩
theorem split_mem_len {s w : List Int} {c : Int} (h : w ∈ splitI s c) : w.length ≤ s.length := by
  have h1 := splitI_sum s c
  have h2 : w.length ≤ ((splitI s c).map List.length).sum := mem_sum (List.mem_map.2 ⟨w, h, rfl⟩)
  have h3 : 0 < (splitI s c).length := List.length_pos_iff.2 (splitI_ne s c)
  omega
theorem all_snoc {l : List (List Int)} {i : Nat} {w : List Int} (h : l[i]? = some w) (ha : (l.take i).all byteB = true) (hw : byteB w = true) : (l.take (i + 1)).all byteB = true := by
  rw [List.take_add_one, h, List.all_append, ha]
  simp [hw]
theorem all_bad {l : List (List Int)} {i : Nat} {w : List Int} (h : l[i]? = some w) (hw : byteB w = false) : l.all byteB = false := by
  rw [List.all_eq_false]
  exact ⟨w, List.mem_of_getElem? h, by rw [hw]; decide⟩
theorem map_snoc {l : List (List Int)} {i : Nat} {w : List Int} (h : l[i]? = some w) : (l.take (i + 1)).map valI = (l.take i).map valI ++ [valI w] := by
  rw [List.take_add_one, h, List.map_append]; rfl
theorem dotted_loop (l : List (List Int)) (hl : l.length = 4) (hw : ∀ w ∈ l, w.length ≤ 1000000) : loopC (F_addr_dotted_L8 l) (([] : List Int), l, 0) = some (cond (l.all byteB) (.inr (l.map valI)) (.inl ([], false))) := by
  obtain ⟨r, h1, h2⟩ := loop_inv (body := F_addr_dotted_L8 l) (I := fun st => ∃ i : Nat, i ≤ 4 ∧ (l.take i).all byteB = true ∧ st = ((l.take i).map valI, l, (i : Int))) (m := fun st => 4 - st.2.2.toNat) (Q := fun q => q = cond (l.all byteB) (.inr (l.map valI)) (.inl ([], false))) (fun st ⟨i, hi, hd, e⟩ => by
    subst e
    unfold F_addr_dotted_L8
    dsimp only
    by_cases hlt : i < 4
    · have hg := List.getElem?_eq_getElem (l := l) (i := i) (by omega)
      obtain ⟨x, hx1, hx2⟩ := decimal_eq l[i] 255 (hw _ (List.getElem_mem _)) (by omega)
      rw [show (canonB l[i] && decide (valI l[i] ≤ 255)) = byteB l[i] from rfl] at hx1
      rw [decide_eq_true (by omega), cond_true, getI_nat hg, Option.bind_some, hx1, Option.bind_some]
      cases hb : byteB l[i] with
      | false =>
        rw [all_bad hg hb]
        exact .inl ⟨_, rfl, rfl⟩
      | true =>
        have hv := byte_val hb
        have hxv : x = valI l[i] := by
          unfold byteB at hb
          rw [Bool.and_eq_true, decide_eq_true_iff] at hb
          exact hx2 hb.1 hb.2
        subst hxv
        unfold chk
        rw [Bool.not_true, cond_false, chk1 (by rw [List.length_map, List.length_take]; show _ + 1 ≤ _; omega), cond_true, u8_in hv.1 hv.2, wrap_in (by omega) (by omega)]
        refine .inr ⟨_, rfl, ⟨i + 1, by omega, all_snoc hg hd hb, by rw [map_snoc hg]; rfl⟩, ?_⟩
        show 4 - ((i : Int) + 1).toNat < 4 - (i : Int).toNat
        omega
    · rw [decide_eq_false (by omega), cond_false]
      rw [List.take_of_length_le (by omega)] at hd
      refine .inl ⟨_, rfl, ?_⟩
      rw [hd, cond_true, List.take_of_length_le (by omega)]) (([] : List Int), l, 0) ⟨0, by omega, by simp, by simp⟩
  rw [h1, h2]
theorem dotted_eq (s : List Int) (hs : s.length ≤ 1000000) : F_addr_dotted s = some (fourR s) := by
  unfold F_addr_dotted fourR
  rw [SplitL_eq s 46 hs, Option.bind_some]
  by_cases h4 : (splitI s 46).length = 4
  · rw [show (((splitI s 46).length : Int) != 4) = false by rw [h4]; rfl, cond_false, decide_eq_true h4, Bool.true_and, dotted_loop _ h4 fun w hw => by have := split_mem_len hw; omega]
    cases (splitI s 46).all byteB <;> rfl
  · rw [show (((splitI s 46).length : Int) != 4) = true from bne_iff_ne.2 (by omega), cond_true, decide_eq_false h4]
    rfl
theorem byte_num (w : List Int) : (canonB w && decide (w.length ≤ 17) && (decide (0 ≤ valI w) && decide (valI w ≤ 255))) = byteB w := by
  unfold byteB
  cases hc : canonB w with
  | false => rfl
  | true =>
    by_cases hv : valI w ≤ 255
    · obtain ⟨n, h1, h2⟩ := canon_eq _ w rfl hc
      have := dgs_len 2 n (by omega)
      rw [← h1] at this
      rw [decide_eq_true (show w.length ≤ 17 by omega), decide_eq_true hv, decide_eq_true (by omega)]; rfl
    · rw [decide_eq_false hv]
      simp
theorem four_loop (l : List (List Int)) (hl : l.length = 4) : loopC F_wlvref15_four_L8 (l, ([] : List Int), 0) = some (cond (l.all byteB) (.inr (l.map valI)) (.inl ([], false))) := by
  obtain ⟨r, h1, h2⟩ := loop_inv (body := F_wlvref15_four_L8) (I := fun st => ∃ i : Nat, i ≤ 4 ∧ (l.take i).all byteB = true ∧ st = (l, (l.take i).map valI, (i : Int))) (m := fun st => 4 - st.2.2.toNat) (Q := fun q => q = cond (l.all byteB) (.inr (l.map valI)) (.inl ([], false))) (fun st ⟨i, hi, hd, e⟩ => by
    subst e
    unfold F_wlvref15_four_L8
    dsimp only
    by_cases hlt : i < 4
    · have hg := List.getElem?_eq_getElem (l := l) (i := i) (by omega)
      obtain ⟨x, hx1, hx2⟩ := Num_eq l[i] 0 255
      rw [byte_num] at hx1
      rw [decide_eq_true (by omega), cond_true, getI_nat hg, Option.bind_some, hx1, Option.bind_some]
      cases hb : byteB l[i] with
      | false =>
        rw [all_bad hg hb]
        exact .inl ⟨_, rfl, rfl⟩
      | true =>
        have hv := byte_val hb
        have hxv : x = valI l[i] := by
          have hq := byte_num l[i]
          rw [hb, Bool.and_eq_true, Bool.and_eq_true, decide_eq_true_iff] at hq
          exact hx2 hq.1.1 hq.1.2
        subst hxv
        unfold chk
        rw [Bool.not_true, cond_false, chk1 (by rw [List.length_map, List.length_take]; show _ + 1 ≤ _; omega), cond_true, u8_in hv.1 hv.2, wrap_in (by omega) (by omega)]
        refine .inr ⟨_, rfl, ⟨i + 1, by omega, all_snoc hg hd hb, by rw [map_snoc hg]; rfl⟩, ?_⟩
        show 4 - ((i : Int) + 1).toNat < 4 - (i : Int).toNat
        omega
    · rw [decide_eq_false (by omega), cond_false]
      rw [List.take_of_length_le (by omega)] at hd
      refine .inl ⟨_, rfl, ?_⟩
      rw [hd, cond_true, List.take_of_length_le (by omega)]) (l, ([] : List Int), 0) ⟨0, by omega, by simp, by simp⟩
  rw [h1, h2]
theorem four_eq (s : List Int) (hs : s.length ≤ 1000000) : F_wlvref15_four s = some (fourR s) := by
  unfold F_wlvref15_four fourR
  rw [Split_eq s 46 hs, Option.bind_some]
  by_cases h4 : (splitI s 46).length = 4
  · rw [show (((splitI s 46).length : Int) != 4) = false by rw [h4]; rfl, cond_false, decide_eq_true h4, Bool.true_and, four_loop _ h4]
    cases (splitI s 46).all byteB <;> rfl
  · rw [show (((splitI s 46).length : Int) != 4) = true from bne_iff_ne.2 (by omega), cond_true, decide_eq_false h4]
    rfl
end Go.Proofs.YtblngdnndkljoaaDoor
