/- Base64: what is read of what was written. -/
import Derived.Test.YtgcgdfjldeihkaaDoorQB64p
namespace Go.Proofs.YtgcgdfjldeihkaaDoor
open Pv
set_option linter.unusedVariables false
/-! ### the signs = at the end -/
def trimR (s : List Int) : List Int := (s.reverse.dropWhile (· == 61)).reverse
theorem drop_rep : ∀ (m : Nat) (r : List Int), (List.replicate m (61 : Int) ++ r).dropWhile (· == 61) = r.dropWhile (· == 61)
  | 0, _ => rfl
  | m + 1, r => by
    rw [List.replicate_succ, List.cons_append, List.dropWhile_cons]
    exact drop_rep m r
theorem trimR_of {t : List Int} {m : Nat} (h : ∀ x, t.getLast? = some x → x ≠ 61) : trimR (t ++ List.replicate m 61) = t := by
  unfold trimR
  rw [List.reverse_append, List.reverse_replicate, drop_rep]
  have e : t.reverse.dropWhile (· == 61) = t.reverse := by
    cases ht : t.reverse with
    | nil => rfl
    | cons x r =>
      have hl : t.getLast? = some x := by
        rw [List.getLast?_eq_head?_reverse, ht]; rfl
      rw [List.dropWhile_cons, show (x == 61) = false from beq_eq_false_iff_ne.2 (h x hl)]
      rfl
  rw [e, List.reverse_reverse]
theorem trim_loop (s : List Int) (hs : s.length ≤ 1000000) : ∃ r, loopC (F_strings_trimRightByte_L2 61) s = some r ∧ r = .inr (trimR s) := by
  refine loop_inv (I := fun u : List Int => ∃ m, s = u ++ List.replicate m 61) (m := fun u => u.length) (fun u ⟨m, hm⟩ => ?_) s ⟨0, by simp⟩
  have hu : u.length ≤ 1000000 := by rw [hm] at hs; simp at hs; omega
  unfold F_strings_trimRightByte_L2
  dsimp only
  by_cases hp : (u.length : Int) > 0
  · have e1 : IntKind.i64.wrap ((u.length : Int) - 1) = (u.length : Int) - 1 := wrap_in (by omega) (by omega)
    obtain ⟨x, hx, hx2⟩ := getI_of (l := u) (j := (u.length : Int) - 1) (by omega) (by omega)
    have hlast : u.getLast? = some x := by
      rw [List.getLast?_eq_getElem?, ← hx2]
      congr 1
      omega
    rw [decide_eq_true hp, e1, hx, cond_true, Option.bind_some]
    by_cases h61 : x = 61
    · have hcut : cutI u 0 ((u.length : Int) - 1) = some u.dropLast := by
        unfold cutI
        rw [decide_eq_true (show (0 : Int) ≤ 0 by omega), decide_eq_true (show 0 ≤ (u.length : Int) - 1 by omega), decide_eq_true (show (u.length : Int) - 1 ≤ u.length by omega)]
        show some ((u.take ((u.length : Int) - 1).toNat).drop 0) = _
        rw [List.drop_zero, List.dropLast_eq_take]
        congr 2
        omega
      rw [show (x == (61 : Int)) = true from beq_iff_eq.2 h61, cond_true, hcut, Option.bind_some]
      refine .inr ⟨_, rfl, ⟨m + 1, ?_⟩, ?_⟩
      · have hne : u ≠ [] := fun e => by rw [e] at hp; simp at hp
        obtain ⟨ys, hys⟩ := List.getLast?_eq_some_iff.1 hlast
        rw [hm, List.replicate_succ, hys, h61, List.dropLast_concat, List.append_assoc]; rfl
      · rw [List.length_dropLast]; omega
    · rw [show (x == (61 : Int)) = false from beq_eq_false_iff_ne.2 h61, cond_false]
      exact .inl ⟨_, rfl, by rw [hm, trimR_of fun y hy => by rw [hlast] at hy; injection hy with hy; rw [← hy]; exact h61]⟩
  · rw [decide_eq_false hp, cond_false]
    have hu0 : u = [] := List.eq_nil_of_length_eq_zero (by omega)
    exact .inl ⟨_, rfl, by rw [hm, trimR_of fun y hy => by rw [hu0] at hy; cases hy]⟩
theorem trim_some (s : List Int) (hs : s.length ≤ 1000000) : F_strings_TrimRight s ([61] : List Int) = some (trimR s) := by
  obtain ⟨r, h1, h2⟩ := trim_loop s hs
  subst h2
  have hb : F_strings_trimRightByte s 61 = some (trimR s) := by
    unfold F_strings_trimRightByte
    rw [join_inr h1]; rfl
  unfold F_strings_TrimRight
  cases s with
  | nil => rfl
  | cons x r =>
    show (F_strings_trimRightByte (x :: r) 61).bind (fun s5 => some s5) = _
    rw [hb]; rfl
theorem trimR_len (s : List Int) : (trimR s).length ≤ s.length := by
  unfold trimR
  rw [List.length_reverse]
  have := List.dropWhile_suffix (l := s.reverse) (p := (· == 61))
  have := this.length_le
  rwa [List.length_reverse] at this
/-- Whatever is read: a fault, or the bytes whose text it is. -/
theorem dec_total (s : List Int) (hs : s.length ≤ 1000000) : F_b64_Decode s = some ([], 2) ∨ ∃ b : List Int, F_b64_Decode s = some (b, 0) ∧ encI b = s ∧ b.length ≤ 1000000 := by
  unfold F_b64_Decode
  rw [trim_some s hs, Option.bind_some]
  have hl := trimR_len s
  obtain ⟨r, h1, h2⟩ := dec_loop (trimR s) (by omega)
  rcases h2 with rfl | ⟨b, rfl, hb⟩
  · exact .inl (join_inl h1)
  · rw [join_inr h1]
    unfold F_b64_Decode_J4
    dsimp only
    rw [enc_some hb, Option.bind_some]
    by_cases he : encI b = s
    · right
      refine ⟨b, ?_, he, hb⟩
      rw [show (encI b == s) = true from beq_iff_eq.2 he]; rfl
    · left
      rw [show (encI b == s) = false from beq_eq_false_iff_ne.2 he]; rfl
end Go.Proofs.YtgcgdfjldeihkaaDoor
