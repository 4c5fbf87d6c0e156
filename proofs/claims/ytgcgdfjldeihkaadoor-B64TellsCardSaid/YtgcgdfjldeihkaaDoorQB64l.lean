/- B64Back and B64Joins: plain. -/
import Derived.Test.YtgcgdfjldeihkaaDoorQB64r
namespace Go.Proofs.YtgcgdfjldeihkaaDoor
open Pv
set_option linter.unusedVariables false
theorem abc : encI [97, 58, 98] = [89, 84, 112, 105] := by decide +kernel
theorem first2 : F_wlvlaw2_first = some true := by
  have h1 := dec_enc [97, 58, 98] (by decide) (by decide)
  rw [abc] at h1
  have h2 := enc_some (l := [97, 58, 98]) (by decide)
  rw [abc] at h2
  unfold F_wlvlaw2_first
  rw [h1, Option.bind_some, h2]
  rfl
theorem back (l1 : List Int) (s2 : List Int) (hl : ∀ x ∈ l1, 0 ≤ x ∧ x < 256) : F_wlvlaw2_B64Back l1 s2 = some true := by
  unfold F_wlvlaw2_B64Back
  rw [first2, Option.bind_some]
  show cond ((decide ((l1.length : Int) > 3000)) || (decide ((s2.length : Int) > 3000))) (some true) _ = _
  by_cases h1 : (l1.length : Int) > 3000
  · rw [decide_eq_true h1]; rfl
  by_cases h2 : (s2.length : Int) > 3000
  · rw [decide_eq_true h2, Bool.or_true]; rfl
  rw [decide_eq_false h1, decide_eq_false h2]
  have hm : maxLen = 9223372036854775807 := rfl
  have hc : F_wlvref_Copy l1 = some l1 := by
    unfold F_wlvref_Copy chk
    rw [decide_eq_true (show (([] : List Int).length + l1.length) * 1 ≤ 140737488355328 by rw [List.length_nil]; omega), decide_eq_true (show ([] : List Int).length + l1.length ≤ maxLen by rw [List.length_nil]; omega)]
    rfl
  have hb : F_wlvref_Bytes l1 l1 = some true := by unfold F_wlvref_Bytes; rw [beq_self_eq_true]
  have hlen := encI_len l1
  have hw : IntKind.i64.wrap ((IntKind.i64.wrap (Int.tdiv (IntKind.i64.wrap ((l1.length : Int) + 2)) 3)) * 4) = ((encI l1).length : Int) := by
    have e1 : IntKind.i64.wrap ((l1.length : Int) + 2) = (l1.length : Int) + 2 := wrap_in (by omega) (by omega)
    have e2 : Int.tdiv ((l1.length : Int) + 2) 3 = ((l1.length : Int) + 2) / 3 := Int.tdiv_eq_ediv_of_nonneg (by omega)
    rw [e1, e2, wrap_in (x := ((l1.length : Int) + 2) / 3) (by omega) (by omega), wrap_in (by omega) (by omega)]
    omega
  rw [Bool.or_self, cond_false, hc, Option.bind_some, enc_some (by omega), Option.bind_some, dec_enc l1 hl (by omega), Option.bind_some]
  rw [show ((l1, (0 : Int)).2 != 0) = false from rfl, cond_false, show (l1, (0 : Int)).1 = l1 from rfl, hb, Option.bind_some, Bool.not_true, cond_false, Option.bind_some, Bool.not_true, hw]
  have e3 : (((encI l1).length : Int) != ((encI l1).length : Int)) = false := by simp
  rw [e3, Bool.or_self, cond_false]
  rcases dec_total s2 (by omega) with h | ⟨b, h, he, hbl⟩
  · rw [h]; rfl
  · rw [h, Option.bind_some, Option.bind_some]
    show (F_b64_Encode b).bind (fun s12 => some (s12 == s2)) = _
    rw [enc_some hbl, Option.bind_some, he, beq_self_eq_true]
theorem dec_odd {s : List Int} (hs : s.length ≤ 1000000) (h4 : s.length % 4 ≠ 0) : F_b64_Decode s = some ([], 2) := by
  rcases dec_total s hs with h | ⟨b, _, he, _⟩
  · exact h
  · exfalso
    rw [← he, encI_len] at h4
    omega
theorem gv_app {a b : List Int} {i : Nat} (h : i + 3 ≤ a.length) : gv (a ++ b) i 3 = gv a i 3 := by
  rw [gv3, gv3]
  have e : ∀ j, j < a.length → (a ++ b).getD j 0 = a.getD j 0 := fun j hj => by
    rw [List.getD_eq_getElem?_getD, List.getD_eq_getElem?_getD, List.getElem?_append_left hj]
  rw [e i (by omega), e (i + 1) (by omega), e (i + 2) (by omega)]
theorem encK_app {a b : List Int} : ∀ k, 3 * k ≤ a.length → encK (a ++ b) k = encK a k
  | 0, _ => rfl
  | k + 1, h => by
    show encK (a ++ b) k ++ grp (a ++ b) (3 * k) 4 = encK a k ++ grp a (3 * k) 4
    rw [encK_app k (by omega)]
    unfold grp
    rw [gv_app (by omega), List.length_append, show min (a.length + b.length - 3 * k) 3 = 3 by omega, show min (a.length - 3 * k) 3 = 3 by omega]
theorem grp_shift {a b : List Int} {i : Nat} : grp (a ++ b) (a.length + i) 4 = grp b i 4 := by
  have e : ∀ j, (a ++ b).getD (a.length + j) 0 = b.getD j 0 := fun j => by
    rw [List.getD_eq_getElem?_getD, List.getD_eq_getElem?_getD, List.getElem?_append_right (by omega), Nat.add_sub_cancel_left]
  unfold grp
  rw [gv3, gv3, List.length_append, e, Nat.add_assoc, e, Nat.add_assoc, e, show a.length + b.length - (a.length + i) = b.length - i by omega]
theorem encK_shift {a b : List Int} {q : Nat} (h : a.length = 3 * q) : ∀ k, encK (a ++ b) (q + k) = encK a q ++ encK b k
  | 0 => by
    rw [Nat.add_zero, encK_app q (by omega)]
    exact (List.append_nil _).symm
  | k + 1 => by
    show encK (a ++ b) (q + k) ++ grp (a ++ b) (3 * (q + k)) 4 = encK a q ++ (encK b k ++ grp b (3 * k) 4)
    rw [encK_shift h k, show 3 * (q + k) = a.length + 3 * k by omega, grp_shift, List.append_assoc]
theorem encI_app {a b : List Int} {q : Nat} (h : a.length = 3 * q) : encI (a ++ b) = encI a ++ encI b := by
  unfold encI encB
  rw [List.length_append, show (a.length + b.length + 2) / 3 = q + (b.length + 2) / 3 by omega, show (a.length + 2) / 3 = q by omega, encK_shift h, List.map_append]
theorem joins (l1 l2 : List Int) (hl1 : ∀ x ∈ l1, 0 ≤ x ∧ x < 256) (hl2 : ∀ x ∈ l2, 0 ≤ x ∧ x < 256) : F_wlvlaw2_B64Joins l1 l2 = some true := by
  unfold F_wlvlaw2_B64Joins
  rw [first2, Option.bind_some]
  show cond ((decide ((l1.length : Int) > 1500)) || (decide ((l2.length : Int) > 1500))) (some true) _ = _
  by_cases h1 : (l1.length : Int) > 1500
  · rw [decide_eq_true h1]; rfl
  by_cases h2 : (l2.length : Int) > 1500
  · rw [decide_eq_true h2, Bool.or_true]; rfl
  rw [decide_eq_false h1, decide_eq_false h2]
  have hm : maxLen = 9223372036854775807 := rfl
  have hw : IntKind.i64.wrap ((IntKind.i64.wrap (Int.tdiv (l1.length : Int) 3)) * 3) = ((3 * (l1.length / 3) : Nat) : Int) := by
    have e2 : Int.tdiv (l1.length : Int) 3 = (l1.length : Int) / 3 := Int.tdiv_eq_ediv_of_nonneg (by omega)
    rw [e2, wrap_in (x := (l1.length : Int) / 3) (by omega) (by omega), wrap_in (by omega) (by omega)]
    omega
  rw [hw]
  generalize hq : l1.length / 3 = q
  have hcut : cutI l1 0 ((3 * q : Nat) : Int) = some (l1.take (3 * q)) := by
    unfold cutI
    rw [decide_eq_true (show (0 : Int) ≤ 0 by omega), decide_eq_true (show 0 ≤ ((3 * q : Nat) : Int) by omega), decide_eq_true (show ((3 * q : Nat) : Int) ≤ l1.length by omega)]
    show some ((l1.take ((3 * q : Nat) : Int).toNat).drop 0) = _
    rw [List.drop_zero, Int.toNat_natCast]
  generalize ha : l1.take (3 * q) = a at hcut
  have hal : a.length = 3 * q := by rw [← ha, List.length_take]; omega
  have hab : ∀ x ∈ a ++ l2, 0 ≤ x ∧ x < 256 := fun x hx => by
    rcases List.mem_append.1 hx with h | h
    · rw [← ha] at h; exact hl1 x (List.mem_of_mem_take h)
    · exact hl2 x h
  have happ := encI_app (b := l2) hal
  have lenA := encI_len a
  have lenB := encI_len l2
  have lenAB : (encI (a ++ l2)).length = (encI a).length + (encI l2).length := by rw [happ, List.length_append]
  rw [Bool.or_self, cond_false, hcut, Option.bind_some, enc_some (l := a) (by omega), Option.bind_some, enc_some (l := l2) (by omega), Option.bind_some, Option.bind_some]
  rw [show ([] : List Int) ++ a = a from rfl]
  unfold chk
  rw [decide_eq_true (show (([] : List Int).length + a.length) * 1 ≤ 140737488355328 by rw [List.length_nil]; omega), decide_eq_true (show ([] : List Int).length + a.length ≤ maxLen by rw [List.length_nil]; omega),
    decide_eq_true (show (a.length + l2.length) * 1 ≤ 140737488355328 by omega), decide_eq_true (show a.length + l2.length ≤ maxLen by omega), Bool.and_self, cond_true, cond_true]
  rw [enc_some (l := a ++ l2) (by rw [List.length_append]; omega), Option.bind_some]
  have s1 : ([65] : List Int).length = 1 := rfl
  have s2 : ([61] : List Int).length = 1 := rfl
  rw [Nat.ble_eq_true_of_le (show (encI (a ++ l2)).length + ([65] : List Int).length ≤ maxLen by omega), cond_true, dec_odd (s := encI (a ++ l2) ++ [65]) (by rw [List.length_append]; omega) (by rw [List.length_append]; omega), Option.bind_some,
    Nat.ble_eq_true_of_le (show ([61] : List Int).length + (encI (a ++ l2)).length ≤ maxLen by omega), cond_true, dec_odd (s := [61] ++ encI (a ++ l2)) (by rw [List.length_append]; omega) (by rw [List.length_append]; omega), Option.bind_some,
    Nat.ble_eq_true_of_le (show (encI a).length + (encI l2).length ≤ maxLen by omega), cond_true, ← happ, dec_enc (a ++ l2) hab (by rw [List.length_append]; omega), Option.bind_some, Option.bind_some, cond_true, cond_true, beq_self_eq_true]
  have hx : ((a ++ l2).length : Int) = IntKind.i64.wrap (((3 * q : Nat) : Int) + (l2.length : Int)) := by
    rw [wrap_in (by omega) (by omega), List.length_append]
    omega
  rw [← hx]
  have hxx : (((a ++ l2).length : Int) == ((a ++ l2).length : Int)) = true := beq_self_eq_true _
  rw [hxx]
  show cond (((encI (a ++ l2)).length : Int) == 0) (some true) _ = _
  by_cases hz : ((encI (a ++ l2)).length : Int) = 0
  · rw [show (((encI (a ++ l2)).length : Int) == 0) = true from beq_iff_eq.2 hz]; rfl
  · rw [show (((encI (a ++ l2)).length : Int) == 0) = false from beq_eq_false_iff_ne.2 hz, cond_false, wrap_in (by omega) (by omega)]
    have hc2 : cutI (encI (a ++ l2)) 0 (((encI (a ++ l2)).length : Int) - 1) = some ((encI (a ++ l2)).take ((encI (a ++ l2)).length - 1)) := by
      unfold cutI
      rw [decide_eq_true (show (0 : Int) ≤ 0 by omega), decide_eq_true (show 0 ≤ ((encI (a ++ l2)).length : Int) - 1 by omega), decide_eq_true (show ((encI (a ++ l2)).length : Int) - 1 ≤ (encI (a ++ l2)).length by omega)]
      show some (((encI (a ++ l2)).take (((encI (a ++ l2)).length : Int) - 1).toNat).drop 0) = _
      rw [List.drop_zero]
      congr 2
      omega
    rw [hc2, Option.bind_some]
    unfold F_wlvlaw2_short
    rw [dec_odd (by rw [List.length_take]; omega) (by rw [List.length_take]; omega)]
    rfl
end Go.Proofs.YtgcgdfjldeihkaaDoor
