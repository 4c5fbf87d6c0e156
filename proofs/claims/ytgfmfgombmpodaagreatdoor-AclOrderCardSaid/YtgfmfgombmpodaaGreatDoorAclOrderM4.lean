/- Texts of this claim, one behind the other. -/
import Derived.Test.YtgfmfgombmpodaaGreatDoorAclOrderM3
/- The functions compute what their Lean functions tell. -/
namespace Go.Proofs.YtgfmfgombmpodaaGreatDoor
open Pv
theorem F_conf_copied_sound {T : Tab} : SoundFn Tryz.prog T 66 F_conf_copied_sig ⟨F_conf_copied⟩ := by
  have h := fn_sound (T := T) (E := F_conf_copied_env) (by unfold Env.ok; exact List.forall_mem_cons.2 ⟨F_bytes_Clone_sound, List.forall_mem_cons.2 ⟨F_slices_Clone_conf_Rule_conf_Rule_sound, fun p h => by cases h⟩⟩) (A := F_conf_copied_ann) (f := 66) (fn := Tryz.f66) (s := F_conf_copied_sig) Tryz.func66
  rw [F_conf_copied_text] at h
  exact h
theorem F_conf_Find_sound {T : Tab} : SoundFn Tryz.prog T 34 F_conf_Find_sig ⟨F_conf_Find⟩ := by
  have h := fn_sound (T := T) (E := F_conf_Find_env) (by unfold Env.ok; exact List.forall_mem_cons.2 ⟨F_conf_copied_sound, fun p h => by cases h⟩) (A := F_conf_Find_ann) (f := 34) (fn := Tryz.f34) (s := F_conf_Find_sig) Tryz.func34
  rw [F_conf_Find_text] at h
  exact h
theorem F_internal_stringslite_HasSuffix_sound {T : Tab} : SoundFn Tryz.prog T 142 F_internal_stringslite_HasSuffix_sig ⟨F_internal_stringslite_HasSuffix⟩ := by
  have h := fn_sound (T := T) (E := F_internal_stringslite_HasSuffix_env) (by unfold Env.ok; exact fun p h => by cases h) (A := F_internal_stringslite_HasSuffix_ann) (f := 142) (fn := Tryz.f142) (s := F_internal_stringslite_HasSuffix_sig) Tryz.func142
  rw [F_internal_stringslite_HasSuffix_text] at h
  exact h
theorem F_strings_HasSuffix_sound {T : Tab} : SoundFn Tryz.prog T 105 F_strings_HasSuffix_sig ⟨F_strings_HasSuffix⟩ := by
  have h := fn_sound (T := T) (E := F_strings_HasSuffix_env) (by unfold Env.ok; exact List.forall_mem_cons.2 ⟨F_internal_stringslite_HasSuffix_sound, fun p h => by cases h⟩) (A := F_strings_HasSuffix_ann) (f := 105) (fn := Tryz.f105) (s := F_strings_HasSuffix_sig) Tryz.func105
  rw [F_strings_HasSuffix_text] at h
  exact h
theorem F_addr_kept_sound {T : Tab} : SoundFn Tryz.prog T 143 F_addr_kept_sig ⟨F_addr_kept⟩ := by
  have h := fn_sound (T := T) (E := F_addr_kept_env) (by unfold Env.ok; exact fun p h => by cases h) (A := F_addr_kept_ann) (f := 143) (fn := Tryz.f143) (s := F_addr_kept_sig) Tryz.func143
  rw [F_addr_kept_text] at h
  exact h
theorem F_addr_In_sound {T : Tab} : SoundFn Tryz.prog T 106 F_addr_In_sig ⟨F_addr_In⟩ := by
  have h := fn_sound (T := T) (E := F_addr_In_env) (by unfold Env.ok; exact List.forall_mem_cons.2 ⟨F_addr_kept_sound, fun p h => by cases h⟩) (A := F_addr_In_ann) (f := 106) (fn := Tryz.f106) (s := F_addr_In_sig) Tryz.func106
  rw [F_addr_In_text] at h
  exact h
theorem F_acl_Fits_sound {T : Tab} : SoundFn Tryz.prog T 65 F_acl_Fits_sig ⟨F_acl_Fits⟩ := by
  have h := fn_sound (T := T) (E := F_acl_Fits_env) (by unfold Env.ok; exact List.forall_mem_cons.2 ⟨F_strings_HasSuffix_sound, List.forall_mem_cons.2 ⟨F_addr_In_sound, fun p h => by cases h⟩⟩) (A := F_acl_Fits_ann) (f := 65) (fn := Tryz.f65) (s := F_acl_Fits_sig) Tryz.func65
  rw [F_acl_Fits_text] at h
  exact h
theorem F_acl_Allowed_sound {T : Tab} : SoundFn Tryz.prog T 33 F_acl_Allowed_sig ⟨F_acl_Allowed⟩ := by
  have h := fn_sound (T := T) (E := F_acl_Allowed_env) (by unfold Env.ok; exact List.forall_mem_cons.2 ⟨F_conf_Find_sound, List.forall_mem_cons.2 ⟨F_acl_Fits_sound, fun p h => by cases h⟩⟩) (A := F_acl_Allowed_ann) (f := 33) (fn := Tryz.f33) (s := F_acl_Allowed_sig) Tryz.func33
  rw [F_acl_Allowed_text] at h
  exact h
theorem F_wlvlaw19_first_sound {T : Tab} : SoundFn Tryz.prog T 32 F_wlvlaw19_first_sig ⟨F_wlvlaw19_first⟩ := by
  have h := fn_sound (T := T) (E := F_wlvlaw19_first_env) (by unfold Env.ok; exact List.forall_mem_cons.2 ⟨F_conf_Parse_sound, List.forall_mem_cons.2 ⟨F_acl_Allowed_sound, fun p h => by cases h⟩⟩) (A := F_wlvlaw19_first_ann) (f := 32) (fn := Tryz.f32) (s := F_wlvlaw19_first_sig) Tryz.func32
  rw [F_wlvlaw19_first_text] at h
  exact h
theorem F_wlvlaw19_AclOrder_sound {T : Tab} : SoundFn Tryz.prog T 8 F_wlvlaw19_AclOrder_sig ⟨F_wlvlaw19_AclOrder⟩ := by
  have h := fn_sound (T := T) (E := F_wlvlaw19_AclOrder_env) (by unfold Env.ok; exact List.forall_mem_cons.2 ⟨F_wlvlaw19_first_sound, List.forall_mem_cons.2 ⟨F_acl_Allowed_sound, fun p h => by cases h⟩⟩) (A := F_wlvlaw19_AclOrder_ann) (f := 8) (fn := Tryz.f8) (s := F_wlvlaw19_AclOrder_sig) Tryz.func8
  rw [F_wlvlaw19_AclOrder_text] at h
  exact h
end Go.Proofs.YtgfmfgombmpodaaGreatDoor

/- Rules for the loops of plain functions. -/
namespace Go.Proofs.YtgfmfgombmpodaaGreatDoor
namespace Pv
set_option linter.unusedVariables false
section
variable {S R T : Type} {body : S → Option (R ⊕ S)} {s s' : S} {r r' : R}
theorem iter_uniq : ∀ {n m : Nat} {s : S}, iterC body n s = some r → iterC body m s = some r' → r = r'
  | 0, _, _, h, _ => by cases h
  | _ + 1, 0, _, _, h => by cases h
  | n + 1, m + 1, s, h, k => by
    unfold iterC at h k
    split at h
    · cases h
    · rename_i x hx
      rw [hx] at k
      injection h with h; injection k with k
      exact h.symm.trans k
    · rename_i x hx
      rw [hx] at k
      exact iter_uniq h k
theorem loop_of_iter {n : Nat} (h : iterC body n s = some r) : loopC body s = some r := by
  unfold loopC
  have hex : ∃ r n, iterC body n s = some r := ⟨r, n, h⟩
  rw [dif_pos hex]
  obtain ⟨m, hm⟩ := hex.choose_spec
  rw [iter_uniq hm h]
theorem iter_of_loop' (h : loopC body s = some r) : ∃ n, iterC body n s = some r := by
  unfold loopC at h
  split at h
  · rename_i hex
    injection h with h
    obtain ⟨n, hn⟩ := hex.choose_spec
    exact ⟨n, by rw [hn, h]⟩
  · cases h
theorem loop_inl (h : body s = some (.inl r)) : loopC body s = some r := loop_of_iter (n := 1) (by unfold iterC; rw [h])
theorem loop_inr (h : body s = some (.inr s')) (k : loopC body s' = some r) : loopC body s = some r := by
  obtain ⟨n, hn⟩ := iter_of_loop' k
  exact loop_of_iter (n := n + 1) (by unfold iterC; rw [h]; exact hn)
theorem loop_inv {I : S → Prop} {m : S → Nat} {Q : R → Prop} (h : ∀ s, I s → (∃ r, body s = some (.inl r) ∧ Q r) ∨ ∃ s', body s = some (.inr s') ∧ I s' ∧ m s' < m s) (s : S) (hs : I s) : ∃ r, loopC body s = some r ∧ Q r := by
  have key : ∀ n s, m s < n → I s → ∃ r, loopC body s = some r ∧ Q r := fun n => by
    induction n with
    | zero => intro s hn; omega
    | succ n ih =>
      intro s hn hs
      rcases h s hs with ⟨r, h1, h2⟩ | ⟨s', h1, h2, h3⟩
      · exact ⟨r, loop_inl h1, h2⟩
      · obtain ⟨r, k1, k2⟩ := ih s' (by omega) h2
        exact ⟨r, loop_inr h1 k1, k2⟩
  exact key _ s (Nat.lt_succ_self _) hs
theorem join_inl {A : Option (R ⊕ S)} {B : S → Option R} (h : A = some (.inl r)) : joinC A B = some r := by rw [h]; rfl
theorem join_inr {A : Option (R ⊕ S)} {B : S → Option R} (h : A = some (.inr s)) : joinC A B = B s := by rw [h]; rfl
theorem getI_of {α : Type} {l : List α} {j : Int} (h0 : 0 ≤ j) (h1 : j < l.length) : ∃ x, getI l j = some x ∧ l[j.toNat]? = some x := by
  have hlt : j.toNat < l.length := by omega
  exact ⟨l[j.toNat], by unfold getI; rw [decide_eq_true h0]; simp [hlt], by simp [hlt]⟩
theorem wrap_in {x : Int} (h0 : -9223372036854775808 ≤ x) (h1 : x ≤ 9223372036854775807) : IntKind.i64.wrap x = x := by
  show (if (true && decide (x % 18446744073709551616 ≥ 9223372036854775808)) = true then x % 18446744073709551616 - 18446744073709551616 else x % 18446744073709551616) = x
  simp only [Bool.true_and, decide_eq_true_eq]
  split <;> omega
end
end Pv
end Go.Proofs.YtgfmfgombmpodaaGreatDoor

/- AclOrder: plain. -/
namespace Go.Proofs.YtgfmfgombmpodaaGreatDoor
open Pv
set_option linter.unusedVariables false
abbrev Rul := Bool × Int × List Int × (List Int × Int) × Int × Int
abbrev Usr := List Int × (List Int × List Int) × Int × (Nat × Nat) × List Rul
def rulF (x : Bool × Int × Int) : Rul := (x.1, 0, [], ([], 0), x.2.1, x.2.2)
def firstFit (p : Int) : List (Bool × Int × Int) → Option Bool
  | [] => none
  | x :: r => cond (decide (x.2.1 ≤ p) && decide (p ≤ x.2.2)) (some x.1) (firstFit p r)
theorem fits0 (b : Bool) (s3 s4 : List Int) (i5 f t : Int) (s8 s9 s10 : List Int) (p : Int) : F_acl_Fits b 0 s3 s4 i5 f t s8 s9 s10 p = some (decide (f ≤ p) && decide (p ≤ t)) := by
  unfold F_acl_Fits
  by_cases h1 : p < f
  · rw [decide_eq_true h1, cond_true, decide_eq_false (show ¬ f ≤ p by omega), Bool.false_and]
  · rw [decide_eq_false h1, cond_false, decide_eq_true (show f ≤ p by omega), Bool.true_and]
    by_cases h2 : p > t
    · rw [decide_eq_true h2, cond_true, decide_eq_false (show ¬ p ≤ t by omega)]
    · rw [decide_eq_false h2, cond_false, decide_eq_true (show p ≤ t by omega)]
      rfl
theorem getI_natA {α : Type} {l : List α} {i : Nat} {x : α} (h : l[i]? = some x) : getI l (i : Int) = some x := by
  unfold getI
  rw [decide_eq_true (Int.natCast_nonneg i), Int.toNat_natCast, h]; rfl
def fitR : Option Bool → Bool ⊕ Unit
  | some b => .inl b
  | none => .inr ()
theorem al_loop (L : List (Bool × Int × Int)) (hl : L.length ≤ 1000000) (s10 s11 s12 : List Int) (p : Int) (x : List Int × List Int × List Int × Int × (Nat × Nat) × List Rul × Bool) (hx : x.2.2.2.2.2.1.length = L.length) : ∀ (k i : Nat), i + k = L.length → loopC (F_acl_Allowed_L4 s10 s11 s12 p x) (L.map rulF, (i : Int)) = some (fitR (firstFit p (L.drop i)))
  | 0, i, h => by
    rw [List.drop_eq_nil_of_le (by omega)]
    refine loop_inl ?_
    unfold F_acl_Allowed_L4
    dsimp only
    rw [hx, decide_eq_false (show ¬ (i : Int) < (L.length : Int) by omega), cond_false]
    rfl
  | k + 1, i, h => by
    have hlt : i < L.length := by omega
    have ih := al_loop L hl s10 s11 s12 p x hx k (i + 1) (by omega)
    have g : getI (L.map rulF) (i : Int) = some (rulF L[i]) := getI_natA (by rw [List.getElem?_map, List.getElem?_eq_getElem hlt]; rfl)
    have st : F_acl_Allowed_L4 s10 s11 s12 p x (L.map rulF, (i : Int)) = cond (decide (L[i].2.1 ≤ p) && decide (p ≤ L[i].2.2)) (some (.inl (.inl L[i].1))) (some (.inr (L.map rulF, ((i + 1 : Nat) : Int)))) := by
      unfold F_acl_Allowed_L4
      dsimp only
      rw [hx, decide_eq_true (show (i : Int) < (L.length : Int) by omega), cond_true, g, Option.bind_some]
      unfold rulF
      dsimp only
      rw [fits0, Option.bind_some, wrap_in (by omega) (by omega)]
      rfl
    rw [List.drop_eq_getElem_cons hlt]
    show _ = some (fitR (cond (decide (L[i].2.1 ≤ p) && decide (p ≤ L[i].2.2)) (some L[i].1) (firstFit p (L.drop (i + 1)))))
    cases hc : decide (L[i].2.1 ≤ p) && decide (p ≤ L[i].2.2)
    · rw [hc, cond_false] at st
      rw [cond_false]
      exact loop_inr st ih
    · rw [hc, cond_true] at st
      rw [cond_true]
      exact loop_inl st
theorem allowed_eq {c1 c2 c3 c4 c5 c6 c7 : Int} {us : List Usr} {s9 n1 n2 n3 s10 s11 s12 : List Int} {p q : Int} {z : Nat × Nat} {b : Bool} {L : List (Bool × Int × Int)} (hl : L.length ≤ 1000000)
    (h : F_conf_Find c1 c2 c3 c4 c5 c6 c7 us s9 = some (n1, n2, n3, q, z, L.map rulF, b)) : F_acl_Allowed c1 c2 c3 c4 c5 c6 c7 us s9 s10 s11 s12 p = some ((firstFit p L).getD false) := by
  unfold F_acl_Allowed
  rw [h, Option.bind_some]
  have hL : loopC (F_acl_Allowed_L4 s10 s11 s12 p (n1, n2, n3, q, z, L.map rulF, b)) (L.map rulF, 0) = some (fitR (firstFit p L)) := al_loop L hl s10 s11 s12 p (n1, n2, n3, q, z, L.map rulF, b) (by simp) L.length 0 (by omega)
  dsimp only
  cases hf : firstFit p L with
  | none =>
    rw [hf] at hL
    have hL : _ = some (Sum.inr ()) := hL
    rw [join_inr hL]; rfl
  | some v =>
    rw [hf] at hL
    have hL : _ = some (Sum.inl v) := hL
    rw [join_inl hL]; rfl
def usrs (r1 r2 r3 : Rul) : List Usr := [([97], ([], []), 0, (0, 0), [r1, r2]), ([98], ([], []), 0, (0, 0), []), ([100], ([], []), 0, (0, 0), [r3])]
theorem find_a (r1 r2 r3 : Rul) : F_conf_Find 0 0 0 0 0 0 0 (usrs r1 r2 r3) [97] = some ([97], [], [], 0, (0, 0), [r1, r2], true) := by
  have h : loopC (F_conf_Find_L3 (usrs r1 r2 r3) [97]) (0, [], [], [], 0, (0, 0), []) = some (.inl ([97], [], [], 0, (0, 0), [r1, r2], true)) := loop_of_iter (n := 1) rfl
  unfold F_conf_Find
  rw [join_inl h]
theorem find_b (r1 r2 r3 : Rul) : F_conf_Find 0 0 0 0 0 0 0 (usrs r1 r2 r3) [98] = some ([98], [], [], 0, (0, 0), [], true) := by
  have h : loopC (F_conf_Find_L3 (usrs r1 r2 r3) [98]) (0, [], [], [], 0, (0, 0), []) = some (.inl ([98], [], [], 0, (0, 0), [], true)) := loop_of_iter (n := 2) rfl
  unfold F_conf_Find
  rw [join_inl h]
theorem find_c (r1 r2 r3 : Rul) : F_conf_Find 0 0 0 0 0 0 0 (usrs r1 r2 r3) [99] = some ([], [], [], 0, (0, 0), [], false) := by
  have h : loopC (F_conf_Find_L3 (usrs r1 r2 r3) [99]) (0, [], [], [], 0, (0, 0), []) = some (.inr ([], [], [], 0, (0, 0), [])) := loop_of_iter (n := 4) rfl
  unfold F_conf_Find
  rw [join_inr h]; rfl
theorem find_d (r1 r2 r3 : Rul) : F_conf_Find 0 0 0 0 0 0 0 (usrs r1 r2 r3) [100] = some ([100], [], [], 0, (0, 0), [r3], true) := by
  have h : loopC (F_conf_Find_L3 (usrs r1 r2 r3) [100]) (0, [], [], [], 0, (0, 0), []) = some (.inl ([100], [], [], 0, (0, 0), [r3], true)) := loop_of_iter (n := 3) rfl
  unfold F_conf_Find
  rw [join_inl h]
theorem find_0 : F_conf_Find 16 100 65535 1000 1000000 1000 16384 ([] : List Usr) [117] = some ([], [], [], 0, (0, 0), [], false) := by
  have h : loopC (F_conf_Find_L3 ([] : List Usr) [117]) (0, [], [], [], 0, (0, 0), []) = some (.inr ([], [], [], 0, (0, 0), [])) := loop_of_iter (n := 1) rfl
  unfold F_conf_Find
  rw [join_inr h]; rfl
theorem aor_first : F_wlvlaw19_first = some true := by
  unfold F_wlvlaw19_first
  rw [show F_conf_Parse ([] : List (List Int)) = some confD from rfl, Option.bind_some]
  unfold confD
  dsimp only
  rw [allowed_eq (L := []) (Nat.le_of_ble_eq_true rfl) find_0, Option.bind_some]
  rfl
theorem AclOrder_true (p f t : Int) (b : Bool) : F_wlvlaw19_AclOrder p f t b = some true := by
  unfold F_wlvlaw19_AclOrder
  rw [aor_first]
  simp only [Option.bind_some, Bool.not_true, cond_false, cond_true]
  cases hc : ((((decide (p < 1)) || (decide (p > 65535))) || (decide (f < 1))) || (decide (t < f))) || (decide (t > 65535))
  · rw [cond_false]
    simp only [Bool.or_eq_false_iff, decide_eq_false_iff_not] at hc
    obtain ⟨⟨⟨⟨c1, c2⟩, c3⟩, c4⟩, c5⟩ := hc
    have hd : (firstFit p [(false, f, t)]).getD false = false := by
      unfold firstFit firstFit
      cases (decide (f ≤ p) && decide (p ≤ t)) <;> rfl
    cases b
    · rw [cond_false]
      have U : ([(([97] : List Int), (([] : List Int), ([] : List Int)), 0, (0, 0), ([(true, 0, ([] : List Int), (([] : List Int), 0), 1, 65535), (false, 0, ([] : List Int), (([] : List Int), 0), f, t)] : List Rul)), (([98] : List Int), (([] : List Int), ([] : List Int)), 0, (0, 0), ([] : List Rul)), (([100] : List Int), (([] : List Int), ([] : List Int)), 0, (0, 0), ([(false, 0, ([] : List Int), (([] : List Int), 0), f, t)] : List Rul))] : List Usr) = usrs (rulF (true, 1, 65535)) (rulF (false, f, t)) (rulF (false, f, t)) := rfl
      rw [U, allowed_eq (L := [(true, 1, 65535), (false, f, t)]) (Nat.le_of_ble_eq_true rfl) (find_a _ _ _), allowed_eq (L := []) (Nat.le_of_ble_eq_true rfl) (find_b _ _ _), allowed_eq (L := []) (Nat.le_of_ble_eq_true rfl) (find_c _ _ _), allowed_eq (L := [(false, f, t)]) (Nat.le_of_ble_eq_true rfl) (find_d _ _ _), hd]
      simp only [Option.bind_some]
      have ha : (firstFit p [(true, 1, 65535), (false, f, t)]).getD false = true := by
        unfold firstFit
        rw [decide_eq_true (show (1 : Int) ≤ p by omega), decide_eq_true (show p ≤ 65535 by omega)]; rfl
      rw [ha]; rfl
    · rw [cond_true]
      have U : ([(([97] : List Int), (([] : List Int), ([] : List Int)), 0, (0, 0), ([(false, 0, ([] : List Int), (([] : List Int), 0), f, t), (true, 0, ([] : List Int), (([] : List Int), 0), 1, 65535)] : List Rul)), (([98] : List Int), (([] : List Int), ([] : List Int)), 0, (0, 0), ([] : List Rul)), (([100] : List Int), (([] : List Int), ([] : List Int)), 0, (0, 0), ([(false, 0, ([] : List Int), (([] : List Int), 0), f, t)] : List Rul))] : List Usr) = usrs (rulF (false, f, t)) (rulF (true, 1, 65535)) (rulF (false, f, t)) := rfl
      rw [U, allowed_eq (L := [(false, f, t), (true, 1, 65535)]) (Nat.le_of_ble_eq_true rfl) (find_a _ _ _), allowed_eq (L := []) (Nat.le_of_ble_eq_true rfl) (find_b _ _ _), allowed_eq (L := []) (Nat.le_of_ble_eq_true rfl) (find_c _ _ _), allowed_eq (L := [(false, f, t)]) (Nat.le_of_ble_eq_true rfl) (find_d _ _ _), hd]
      simp only [Option.bind_some]
      have ha : (firstFit p [(false, f, t), (true, 1, 65535)]).getD false = !(decide (p ≥ f) && decide (p ≤ t)) := by
        unfold firstFit
        show (cond (decide (f ≤ p) && decide (p ≤ t)) (some false) (firstFit p [(true, 1, 65535)])).getD false = !(decide (f ≤ p) && decide (p ≤ t))
        cases (decide (f ≤ p) && decide (p ≤ t))
        · rw [cond_false]
          unfold firstFit
          rw [decide_eq_true (show (1 : Int) ≤ p by omega), decide_eq_true (show p ≤ 65535 by omega)]; rfl
        · rfl
      rw [ha]
      cases (decide (p ≥ f) && decide (p ≤ t)) <;> rfl
  · rw [cond_true]
end Go.Proofs.YtgfmfgombmpodaaGreatDoor
