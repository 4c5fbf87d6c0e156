/- CredWho: the plain part. -/
import Derived.Test.YtniilnnhpcpccaaDoorQB64r
namespace Go.Proofs.YtniilnnhpcpccaaDoor
open Pv
set_option linter.unusedVariables false
def P6 : List Int := [66, 97, 115, 105, 99, 32]
theorem ble_max {a : Nat} (h : a ≤ 1000000) : Nat.ble a maxLen = true := Nat.ble_eq_true_of_le (by have : maxLen = 9223372036854775807 := rfl; omega)
theorem idx_at : ∀ (u : List Int) (w : List Int), (∀ x ∈ u, x ≠ 58) → idxI (u ++ 58 :: w) 58 = u.length
  | [], w, _ => rfl
  | x :: u, w, h => by
    have ih := idx_at u w fun y hy => h y (by simp [hy])
    have hx : (x == (58 : Int)) = false := beq_eq_false_iff_ne.2 (h x (by simp))
    show cond (x == 58) 0 (cond (idxI (u ++ 58 :: w) 58 == -1) (-1) (idxI (u ++ 58 :: w) 58 + 1)) = _
    rw [hx, ih, cond_false, show ((u.length : Int) == -1) = false from beq_eq_false_iff_ne.2 (by omega), cond_false, List.length_cons]
    omega
theorem idx_none : ∀ (u : List Int), (∀ x ∈ u, x ≠ 58) → idxI u 58 = -1
  | [], _ => rfl
  | x :: u, h => by
    have ih := idx_none u fun y hy => h y (by simp [hy])
    have hx : (x == (58 : Int)) = false := beq_eq_false_iff_ne.2 (h x (by simp))
    show cond (x == 58) 0 (cond (idxI u 58 == -1) (-1) (idxI u 58 + 1)) = _
    rw [hx, ih]; rfl
theorem cutI_of {s : List Int} {a b : Nat} (h1 : a ≤ b) (h2 : b ≤ s.length) : cutI s (a : Int) (b : Int) = some ((s.take b).drop a) := by
  unfold cutI
  rw [decide_eq_true (show (0 : Int) ≤ (a : Int) by omega), decide_eq_true (show (a : Int) ≤ (b : Int) by omega), decide_eq_true (show (b : Int) ≤ (s.length : Int) by omega)]
  rfl
theorem cut_yes (u w : List Int) (hu : ∀ x ∈ u, x ≠ 58) (hl : u.length + w.length ≤ 100000) : F_strings_Cut (u ++ 58 :: w) ([58] : List Int) = some (u, w, true) := by
  have hi : F_internal_stringslite_Index (u ++ 58 :: w) ([58] : List Int) = some ((u.length : Nat) : Int) := by
    show some (idxI (u ++ 58 :: w) 58) = _
    rw [idx_at u w hu]
  have hlen : (u ++ 58 :: w).length = u.length + (w.length + 1) := by rw [List.length_append, List.length_cons]
  have c1 : cutI (u ++ 58 :: w) 0 ((u.length : Nat) : Int) = some u := by
    have := cutI_of (s := u ++ 58 :: w) (a := 0) (b := u.length) (by omega) (by omega)
    rw [List.drop_zero, List.take_left] at this
    exact this
  have hw : IntKind.i64.wrap (((u.length : Nat) : Int) + (([58] : List Int).length : Int)) = ((u.length + 1 : Nat) : Int) := by
    rw [show (([58] : List Int).length : Int) = 1 from rfl, wrap_in (by omega) (by omega)]
    omega
  have c2 : cutI (u ++ 58 :: w) ((u.length + 1 : Nat) : Int) ((u ++ 58 :: w).length : Int) = some w := by
    rw [cutI_of (by omega) (Nat.le_refl _), List.take_length]
    rw [show u ++ 58 :: w = (u ++ [58]) ++ w by simp, show u.length + 1 = (u ++ [(58 : Int)]).length by simp, List.drop_left]
  unfold F_strings_Cut F_internal_stringslite_Cut
  rw [hi, Option.bind_some, decide_eq_true (show ((u.length : Nat) : Int) ≥ 0 by omega), cond_true, c1, Option.bind_some, hw, c2]
  rfl
theorem cut_no (u : List Int) (hu : ∀ x ∈ u, x ≠ 58) : F_strings_Cut u ([58] : List Int) = some (u, [], false) := by
  have hi : F_internal_stringslite_Index u ([58] : List Int) = some (-1) := by
    show some (idxI u 58) = _
    rw [idx_none u hu]
  unfold F_strings_Cut F_internal_stringslite_Cut
  rw [hi]
  rfl
theorem plain_yes (s : List Int) (hs : ∀ x ∈ s, 32 ≤ x ∧ x ≠ 127) (hl : s.length ≤ 100000) : F_cred_plain s = some true := by
  obtain ⟨r, h1, h2⟩ := loop_inv (body := F_cred_plain_L3 s) (I := fun i : Int => 0 ≤ i ∧ i ≤ (s.length : Int)) (m := fun i => ((s.length : Int) - i).toNat) (Q := fun r => r = .inr ()) (fun i ⟨h0, h3⟩ => by
    unfold F_cred_plain_L3
    dsimp only
    by_cases hi : i < (s.length : Int)
    · obtain ⟨x, hx, hx2⟩ := getI_of h0 hi
      obtain ⟨p1, p2⟩ := hs x (List.mem_of_getElem? hx2)
      rw [decide_eq_true hi, cond_true, hx, Option.bind_some, decide_eq_false (show ¬ x < 32 by omega), cond_false, Option.bind_some, show (x == (127 : Int)) = false from beq_eq_false_iff_ne.2 p2, cond_false, wrap_in (by omega) (by omega)]
      exact .inr ⟨i + 1, rfl, ⟨by omega, by omega⟩, by omega⟩
    · rw [decide_eq_false hi, cond_false]
      exact .inl ⟨_, rfl, rfl⟩) 0 ⟨by decide, by omega⟩
  subst h2
  unfold F_cred_plain
  rw [join_inr h1]; rfl
theorem fold6 : F_strings_EqualFold P6 ([98, 97, 115, 105, 99, 32] : List Int) = some true := by decide +kernel
/-- What is read of an encoded text. -/
theorem parse_enc (t : List Int) (ht : ∀ x ∈ t, 0 ≤ x ∧ x < 256) (hl : t.length ≤ 10000) {u w : List Int} {ok : Bool} (hc : F_strings_Cut t ([58] : List Int) = some (u, w, ok)) (hul : u.length + w.length ≤ 100000) (hp : ∀ x ∈ u ++ w, 32 ≤ x ∧ x ≠ 127) :
    F_cred_Parse (P6 ++ encI t) = some (cond ((!ok || (u == ([] : List Int))) || decide ((u.length : Int) > 64) || decide ((w.length : Int) > 256)) ([], [], 2) (u, w, 0)) := by
  have h6 : P6.length = 6 := rfl
  have hlen : (P6 ++ encI t).length = 6 + (encI t).length := by rw [List.length_append, h6]
  have c1 : cutI (P6 ++ encI t) 0 6 = some P6 := by
    have := cutI_of (s := P6 ++ encI t) (a := 0) (b := 6) (by omega) (by omega)
    rw [List.drop_zero, show (6 : Nat) = P6.length from rfl, List.take_left] at this
    exact this
  have c2 : cutI (P6 ++ encI t) 6 ((P6 ++ encI t).length : Int) = some (encI t) := by
    have := cutI_of (s := P6 ++ encI t) (a := 6) (b := (P6 ++ encI t).length) (by omega) (Nat.le_refl _)
    rw [List.take_length, show (6 : Nat) = P6.length from rfl, List.drop_left] at this
    exact this
  unfold F_cred_Parse
  rw [decide_eq_false (show ¬ ((P6 ++ encI t).length : Int) < 6 by omega), cond_false, c1, Option.bind_some, fold6, Option.bind_some, Bool.not_true, cond_false, c2, Option.bind_some, dec_enc t ht (by omega), Option.bind_some]
  dsimp only
  rw [hc, Option.bind_some]
  dsimp only
  rw [show ((0 : Int) != 0) = false from rfl, Bool.false_or, plain_yes (u ++ w) hp (by rw [List.length_append]; omega)]
  cases (!ok || (u == ([] : List Int))) || decide ((u.length : Int) > 64) || decide ((w.length : Int) > 256) with
  | true => rfl
  | false =>
    rw [cond_false, cond_false]
    unfold chk
    rw [ble_max (by omega)]
    rfl
theorem enc_abc : encI [97, 58, 98] = [89, 84, 112, 105] := by decide +kernel
theorem first17 : F_wlvlaw17_first = some true := by
  have hc : F_strings_Cut ([97] ++ 58 :: [98]) ([58] : List Int) = some ([97], [98], true) := cut_yes [97] [98] (by decide) (by decide)
  have h := parse_enc [97, 58, 98] (by decide) (by decide) hc (by decide) (by decide)
  rw [enc_abc] at h
  have h : F_cred_Parse ([66, 97, 115, 105, 99, 32, 89, 84, 112, 105] : List Int) = some ([97], [98], 0) := h
  unfold F_wlvlaw17_first
  rw [h]; rfl
theorem loop9 (i1 : Int) (h0 : 0 ≤ i1) (h1 : i1 ≤ 1000) : loopC (F_wlvlaw17_CredWho_L9 i1) [] = some (.inr (List.replicate i1.toNat 117)) := by
  obtain ⟨r, g1, g2⟩ := loop_inv (body := F_wlvlaw17_CredWho_L9 i1) (I := fun s : List Int => ∃ k, k ≤ i1.toNat ∧ s = List.replicate k 117) (m := fun s => i1.toNat - s.length) (Q := fun r => r = .inr (List.replicate i1.toNat 117)) (fun s ⟨k, hk, hs⟩ => by
    subst hs
    unfold F_wlvlaw17_CredWho_L9
    dsimp only
    have hl : (List.replicate k (117 : Int)).length = k := List.length_replicate
    have h11 : ([117] : List Int).length = 1 := rfl
    by_cases hi : k < i1.toNat
    · rw [decide_eq_true (show ((List.replicate k (117 : Int)).length : Int) < i1 by omega), cond_true]
      unfold chk
      rw [ble_max (by omega), cond_true]
      exact .inr ⟨_, rfl, ⟨k + 1, by omega, by rw [List.replicate_succ']⟩, by rw [List.length_append, hl, h11]; omega⟩
    · obtain rfl : k = i1.toNat := by omega
      rw [decide_eq_false (show ¬ ((List.replicate i1.toNat (117 : Int)).length : Int) < i1 by omega), cond_false]
      exact .inl ⟨_, rfl, rfl⟩) [] ⟨0, by omega, rfl⟩
  rw [g1, g2]
theorem loop13 (i1 : Int) (h0 : 0 ≤ i1) (h1 : i1 ≤ 1000) : loopC (F_wlvlaw17_CredWho_L13 i1) [] = some (.inr (List.replicate i1.toNat 119)) := by
  obtain ⟨r, g1, g2⟩ := loop_inv (body := F_wlvlaw17_CredWho_L13 i1) (I := fun s : List Int => ∃ k, k ≤ i1.toNat ∧ s = List.replicate k 119) (m := fun s => i1.toNat - s.length) (Q := fun r => r = .inr (List.replicate i1.toNat 119)) (fun s ⟨k, hk, hs⟩ => by
    subst hs
    unfold F_wlvlaw17_CredWho_L13
    dsimp only
    have hl : (List.replicate k (119 : Int)).length = k := List.length_replicate
    have h11 : ([119] : List Int).length = 1 := rfl
    by_cases hi : k < i1.toNat
    · rw [decide_eq_true (show ((List.replicate k (119 : Int)).length : Int) < i1 by omega), cond_true]
      unfold chk
      rw [ble_max (by omega), cond_true]
      exact .inr ⟨_, rfl, ⟨k + 1, by omega, by rw [List.replicate_succ']⟩, by rw [List.length_append, hl, h11]; omega⟩
    · obtain rfl : k = i1.toNat := by omega
      rw [decide_eq_false (show ¬ ((List.replicate i1.toNat (119 : Int)).length : Int) < i1 by omega), cond_false]
      exact .inl ⟨_, rfl, rfl⟩) [] ⟨0, by omega, rfl⟩
  rw [g1, g2]
theorem loop18 (i3 : Int) (h0 : 0 ≤ i3) (h1 : i3 ≤ 5) (w : List Int) (hw : w.length ≤ 1000) : loopC (F_wlvlaw17_CredWho_L18 i3) (w, 0) = some (.inr (List.replicate i3.toNat 58 ++ w)) := by
  obtain ⟨r, g1, g2⟩ := loop_inv (body := F_wlvlaw17_CredWho_L18 i3) (I := fun s : List Int × Int => ∃ k : Nat, k ≤ i3.toNat ∧ s = (List.replicate k 58 ++ w, (k : Int))) (m := fun s => (i3 - s.2).toNat) (Q := fun r => r = .inr (List.replicate i3.toNat 58 ++ w)) (fun s ⟨k, hk, hs⟩ => by
    subst hs
    unfold F_wlvlaw17_CredWho_L18
    dsimp only
    have hl : (List.replicate k (58 : Int) ++ w).length = k + w.length := by rw [List.length_append, List.length_replicate]
    have h11 : ([58] : List Int).length = 1 := rfl
    by_cases hi : k < i3.toNat
    · rw [decide_eq_true (show (k : Int) < i3 by omega), cond_true]
      unfold chk
      rw [ble_max (by omega), cond_true, wrap_in (by omega) (by omega)]
      exact .inr ⟨_, rfl, ⟨k + 1, by omega, by rw [List.replicate_succ]; rfl⟩, by show (i3 - ((k : Int) + 1)).toNat < (i3 - (k : Int)).toNat; omega⟩
    · obtain rfl : k = i3.toNat := by omega
      rw [decide_eq_false (show ¬ ((i3.toNat : Nat) : Int) < i3 by omega), cond_false]
      exact .inl ⟨_, rfl, rfl⟩) (w, 0) ⟨0, by omega, rfl⟩
  rw [g1, g2]
theorem mem_rep {n : Nat} {c x : Int} (h : x ∈ List.replicate n c) : x = c := (List.mem_replicate.1 h).2
theorem who (i1 i2 i3 : Int) : F_wlvlaw17_CredWho i1 i2 i3 = some true := by
  unfold F_wlvlaw17_CredWho
  rw [first17, Option.bind_some, Bool.not_true, cond_false]
  cases hb : (((((decide (i1 < 0)) || (decide (i1 > 70))) || (decide (i2 < 0))) || (decide (i2 > 260))) || (decide (i3 < 0))) || (decide (i3 > 5)) with
  | true => rfl
  | false =>
    simp only [Bool.or_eq_false_iff, decide_eq_false_iff_not] at hb
    obtain ⟨⟨⟨⟨⟨a1, a2⟩, a3⟩, a4⟩, a5⟩, a6⟩ := hb
    rw [cond_false, join_inr (loop9 i1 (by omega) (by omega))]
    unfold F_wlvlaw17_CredWho_J8
    dsimp only
    rw [join_inr (loop13 i2 (by omega) (by omega))]
    unfold F_wlvlaw17_CredWho_J12
    dsimp only
    rw [join_inr (loop18 i3 (by omega) (by omega) _ (by rw [List.length_replicate]; omega))]
    unfold F_wlvlaw17_CredWho_J16
    dsimp only
    generalize hu : List.replicate i1.toNat (117 : Int) = u
    generalize hw : List.replicate i3.toNat (58 : Int) ++ List.replicate i2.toNat 119 = w
    have ul : u.length = i1.toNat := by rw [← hu, List.length_replicate]
    have wl : w.length = i3.toNat + i2.toNat := by rw [← hw, List.length_append, List.length_replicate, List.length_replicate]
    have um : ∀ x ∈ u, x = 117 := fun x hx => by rw [← hu] at hx; exact mem_rep hx
    have wm : ∀ x ∈ w, x = 58 ∨ x = 119 := fun x hx => by
      rw [← hw] at hx
      exact (List.mem_append.1 hx).imp mem_rep mem_rep
    have u58 : ∀ x ∈ u, x ≠ 58 := fun x hx => by rw [um x hx]; decide
    have e1 : (u ++ ([58] : List Int)) ++ w = u ++ 58 :: w := by simp
    have l58 : ([58] : List Int).length = 1 := rfl
    have l6 : ([66, 97, 115, 105, 99, 32] : List Int).length = 6 := rfl
    have tl : (u ++ 58 :: w).length = u.length + (w.length + 1) := by rw [List.length_append, List.length_cons]
    have el := encI_len (u ++ 58 :: w)
    have el2 := encI_len u
    have tb : ∀ x ∈ u ++ 58 :: w, 0 ≤ x ∧ x < 256 := fun x hx => by
      rcases List.mem_append.1 hx with h | h
      · rw [um x h]; decide
      · rcases List.mem_cons.1 h with h | h
        · rw [h]; decide
        · rcases wm x h with h | h <;> (rw [h]; decide)
    have ub : ∀ x ∈ u, 0 ≤ x ∧ x < 256 := fun x hx => by rw [um x hx]; decide
    have pm : ∀ x ∈ u ++ w, 32 ≤ x ∧ x ≠ 127 := fun x hx => by
      rcases List.mem_append.1 hx with h | h
      · rw [um x h]; decide
      · rcases wm x h with h | h <;> (rw [h]; decide)
    have pu : ∀ x ∈ u ++ ([] : List Int), 32 ≤ x ∧ x ≠ 127 := fun x hx => pm x (by rw [List.append_nil] at hx; exact List.mem_append_left _ hx)
    have p1 := parse_enc (u ++ 58 :: w) tb (by omega) (cut_yes u w u58 (by omega)) (by omega) pm
    have p2 := parse_enc u ub (by omega) (cut_no u u58) (by rw [List.length_nil]; omega) pu
    unfold chk
    rw [ble_max (show u.length + ([58] : List Int).length ≤ 1000000 by omega), cond_true, ble_max (show (u ++ ([58] : List Int)).length + w.length ≤ 1000000 by rw [List.length_append]; omega), cond_true, e1, enc_some (by omega), Option.bind_some,
      ble_max (show ([66, 97, 115, 105, 99, 32] : List Int).length + (encI (u ++ 58 :: w)).length ≤ 1000000 by omega), cond_true]
    have p1' : F_cred_Parse (([66, 97, 115, 105, 99, 32] : List Int) ++ encI (u ++ 58 :: w)) = _ := p1
    have p2' : F_cred_Parse (([66, 97, 115, 105, 99, 32] : List Int) ++ encI u) = some ([], [], 2) := p2
    rw [p1', Option.bind_some, enc_some (by omega), Option.bind_some, ble_max (show ([66, 97, 115, 105, 99, 32] : List Int).length + (encI u).length ≤ 1000000 by omega), cond_true, p2', Option.bind_some]
    rw [first17, Option.bind_some]
    have hnil : (u == ([] : List Int)) = decide (¬ i1 ≥ 1) := by
      by_cases h : i1 ≥ 1
      · rw [decide_eq_false (by omega)]
        exact beq_eq_false_iff_ne.2 fun e => by rw [e] at ul; simp at ul; omega
      · rw [decide_eq_true (by omega)]
        have : u = [] := List.eq_nil_of_length_eq_zero (by omega)
        rw [this]; rfl
    by_cases m1 : i1 ≥ 1
    · by_cases m2 : i1 ≤ 64
      · by_cases m3 : (w.length : Int) ≤ 256
        · rw [hnil, decide_eq_false (show ¬ ¬ i1 ≥ 1 by omega), decide_eq_false (show ¬ (u.length : Int) > 64 by omega), decide_eq_false (show ¬ (w.length : Int) > 256 by omega), decide_eq_true m1, decide_eq_true m2, decide_eq_true m3]
          show cond true (cond false _ (some (((u == u) && (w == w)) && true))) _ = _
          rw [show (u == u) = true from beq_self_eq_true u, show (w == w) = true from beq_self_eq_true w]; rfl
        · rw [decide_eq_true (show (w.length : Int) > 256 by omega), decide_eq_false m3, Bool.or_true, Bool.and_false]; rfl
      · rw [decide_eq_true (show (u.length : Int) > 64 by omega), decide_eq_false m2, Bool.or_true, Bool.true_or, Bool.and_false, Bool.false_and]; rfl
    · rw [hnil, decide_eq_true (show ¬ i1 ≥ 1 from m1), decide_eq_false m1, Bool.or_true, Bool.true_or, Bool.true_or, Bool.false_and, Bool.false_and]; rfl
end Go.Proofs.YtniilnnhpcpccaaDoor
