/- HostPorts: the plain part. -/
import Derived.Test.YtblngdnndkljoaaDoorQNoc
namespace Go.Proofs.YtblngdnndkljoaaDoor
open Pv
set_option linter.unusedVariables false
/-! ### decimal digits of a number -/
theorem maxI0 (n : Int) : maxI n 0 = (n.toNat : Int) := by
  unfold maxI
  by_cases h : (0 : Int) > n
  · rw [decide_eq_true h, cond_true]; omega
  · rw [decide_eq_false h, cond_false]; omega
theorem Dec_fuel_eq : ∀ (k : Nat) (n : Int), n < 10 ^ (k + 1) → n ≤ 9223372036854775807 → F_wlvref_Dec_fuel (k + 1) n = some (dgs n.toNat) := fun k => by
  induction k with
  | zero =>
    intro n h h2
    show F_wlvref_Dec_step (F_wlvref_Dec_fuel 0) n = _
    unfold F_wlvref_Dec_step
    have h : n < 10 := h
    rw [decide_eq_true h, cond_true, dgs_one (by omega)]
    rw [maxI0, wrap_in (by omega) (by omega), u8_in (by omega) (by omega)]
  | succ k ih =>
    intro n h h2
    show F_wlvref_Dec_step (F_wlvref_Dec_fuel (k + 1)) n = _
    unfold F_wlvref_Dec_step
    by_cases h10 : n < 10
    · rw [decide_eq_true h10, cond_true, dgs_one (by omega)]
      rw [maxI0, wrap_in (by omega) (by omega), u8_in (by omega) (by omega)]
    · have e1 : Int.tdiv n 10 = n / 10 := Int.tdiv_eq_ediv_of_nonneg (by omega)
      have e2 : Int.tmod n 10 = n % 10 := Int.tmod_eq_emod_of_nonneg (by omega)
      rw [decide_eq_false h10, cond_false, e1, e2, wrap_in (x := n / 10) (by omega) (by omega)]
      rw [ih (n / 10) (by rw [Int.pow_succ] at h; omega) (by omega), Option.bind_some]
      have hl := dgs_len 18 (n / 10).toNat (by
        have : (10 : Nat) ^ (18 + 1) = 10000000000000000000 := by decide
        omega)
      have hb : ∀ a : Int, Nat.ble ((dgs (n / 10).toNat).length + ([a] : List Int).length) maxLen = true := fun a => Nat.ble_eq_true_of_le (by
        have : maxLen = 9223372036854775807 := rfl
        simp
        omega)
      unfold chk
      rw [hb, cond_true, wrap_in (by omega) (by omega), u8_in (by omega) (by omega), dgs_more (n := n.toNat) (by omega)]
      rw [show (n / 10).toNat = n.toNat / 10 by omega, show n % 10 = ((n.toNat % 10 : Nat) : Int) by omega]
theorem Dec_eq (n : Int) (h2 : n ≤ 9223372036854775807) : F_wlvref_Dec n = some (dgs n.toNat) :=
  Dec_fuel_eq 63 n (by have : (10 : Int) ^ (63 + 1) = 10000000000000000000000000000000000000000000000000000000000000000 := by decide
                       omega) h2
/-! ### a host and a port -/
theorem lastI_none : ∀ {t : List Int} {c : Int}, (∀ x ∈ t, x ≠ c) → lastI t c = -1
  | [], _, _ => rfl
  | x :: t, c, h => by
    unfold lastI
    rw [lastI_none (t := t) fun y hy => h y (by simp [hy]), beq_eq_false_iff_ne.2 (h x (by simp))]
    rfl
theorem lastI_at : ∀ (h : List Int) {t : List Int} {c : Int}, (∀ x ∈ t, x ≠ c) → lastI (h ++ c :: t) c = h.length
  | [], t, c, ht => by
    show cond (lastI t c == -1) (cond (c == c) 0 (-1)) (lastI t c + 1) = _
    rw [lastI_none ht, beq_self_eq_true, beq_self_eq_true]
    rfl
  | x :: h, t, c, ht => by
    show cond (lastI (h ++ c :: t) c == -1) _ (lastI (h ++ c :: t) c + 1) = _
    rw [lastI_at h ht, beq_eq_false_iff_ne.2 (show (h.length : Int) ≠ -1 by omega), cond_false, List.length_cons]
    omega
theorem Auth_none (s : List Int) (hs : s.length ≤ 1000000) (h58 : ∀ c ∈ s, c ≠ 58) : F_host_Authority s = some ([], [], 0, 2) := by
  unfold F_host_Authority
  rw [show F_strings_LastIndexByte s 58 = some (lastI s 58) by
    unfold F_strings_LastIndexByte
    rw [Nat.ble_eq_true_of_le (by omega)]; rfl]
  rw [Option.bind_some, lastI_none h58]
  rfl
theorem Auth_at (h t : List Int) (x : List Int × List Int × Bool) (hh : h.length ≤ 100000) (ht : t.length ≤ 100000) (t58 : ∀ c ∈ t, c ≠ 58) (hp : F_host_place h = some x) :
    F_host_Authority ((h ++ [58]) ++ t) = some (cond (x.2.2 && canonB t && decide (1 ≤ valI t) && decide (valI t ≤ 65535)) (x.1, x.2.1, valI t, 0) ([], [], 0, 2)) := by
  have e0 : (h ++ [58]) ++ t = h ++ 58 :: t := by rw [List.append_assoc]; rfl
  rw [e0]
  have hlen : (h ++ 58 :: t).length = h.length + (t.length + 1) := by rw [List.length_append, List.length_cons]
  unfold F_host_Authority
  rw [show F_strings_LastIndexByte (h ++ 58 :: t) 58 = some (lastI (h ++ 58 :: t) 58) by
    unfold F_strings_LastIndexByte
    rw [Nat.ble_eq_true_of_le (by omega)]; rfl]
  rw [Option.bind_some, lastI_at h t58, decide_eq_false (show ¬ (h.length : Int) < 0 by omega), cond_false, wrap_in (by omega) (by omega)]
  have c1 : cutI (h ++ 58 :: t) ((h.length : Int) + 1) ((h ++ 58 :: t).length : Int) = some t := by
    have := cutI_nat (s := h ++ 58 :: t) (a := h.length + 1) (b := (h ++ 58 :: t).length) (by omega) (by omega)
    rw [show ((h.length + 1 : Nat) : Int) = (h.length : Int) + 1 by omega] at this
    rw [this, List.take_length, List.drop_append, List.drop_of_length_le (by omega), show h.length + 1 - h.length = 1 by omega]
    rfl
  have c2 : cutI (h ++ 58 :: t) 0 (h.length : Int) = some h := by
    have := cutI_nat (s := h ++ 58 :: t) (a := 0) (b := h.length) (by omega) (by omega)
    rw [show ((0 : Nat) : Int) = 0 from rfl] at this
    rw [this, List.take_left]
    rfl
  rw [c1, Option.bind_some, show F_strconv_Atoi t = some (atoiP t) by
    unfold F_strconv_Atoi
    rw [Nat.ble_eq_true_of_le (by omega)]; rfl]
  rw [Option.bind_some, c2, Option.bind_some, hp, Option.bind_some]
  obtain ⟨k1, k2⟩ := decimal_law t 65535 (by omega)
  by_cases hg : canonB t = true ∧ valI t ≤ 65535
  · obtain ⟨q1, q2, q3⟩ := k1 hg
    rw [q1, q2, hg.1, decide_eq_true hg.2]
    unfold F_strconv_Itoa
    rw [q3]
    simp only [Option.bind_some]
    by_cases h1 : 1 ≤ valI t
    · rw [decide_eq_true h1, decide_eq_false (show ¬ valI t < 1 by omega), decide_eq_false (show ¬ valI t > 65535 by omega), beq_self_eq_true]
      cases x.2.2 <;> rfl
    · rw [decide_eq_false h1, decide_eq_true (show valI t < 1 by omega)]
      cases x.2.2 <;> rfl
  · have hf : (x.2.2 && canonB t && decide (1 ≤ valI t) && decide (valI t ≤ 65535)) = false := by
      cases hb : (x.2.2 && canonB t && decide (1 ≤ valI t) && decide (valI t ≤ 65535)) with
      | false => rfl
      | true =>
        simp at hb
        exact absurd ⟨hb.1.1.2, hb.2⟩ hg
    rw [hf, cond_false]
    cases hb : (((!x.2.2) || (atoiP t).2) || (decide ((atoiP t).1 < 1))) || (decide ((atoiP t).1 > 65535)) with
    | true => rfl
    | false =>
      rw [cond_false]
      unfold F_strconv_Itoa
      simp only [Option.bind_some]
      cases he : itoaI (atoiP t).1 == t with
      | false => rfl
      | true =>
        exfalso
        simp at hb
        obtain ⟨r1, r2⟩ := k2 (by
          cases h : (atoiP t).2 with
          | false => rfl
          | true => exact absurd h (by simp [hb.1.1.2])) (by omega) (by omega) (beq_iff_eq.1 he)
        exact hg ⟨r1, by omega⟩
/-! ### what a name is -/
theorem sg_spec (c : Int) : sg c = if 65 ≤ c ∧ c ≤ 90 then c + 32 else if (97 ≤ c ∧ c ≤ 122) ∨ (48 ≤ c ∧ c ≤ 57) ∨ c = 45 ∨ c = 95 then c else 0 := by
  have h := sign_eq c
  unfold F_host_sign at h
  by_cases h1 : 65 ≤ c ∧ c ≤ 90
  · rw [decide_eq_true h1.1, decide_eq_true h1.2, u8_in (x := c + 97) (by omega) (by omega), u8_in (by omega) (by omega)] at h
    have h : some (c + 97 - 65) = some (sg c) := h
    injection h with h
    rw [if_pos h1]
    omega
  · have e1 : (decide (c ≥ 65) && decide (c ≤ 90)) = false := by simp; omega
    rw [e1, cond_false] at h
    rw [if_neg h1]
    by_cases h2 : 97 ≤ c ∧ c ≤ 122
    · rw [decide_eq_true h2.1, decide_eq_true h2.2] at h
      have h : some c = some (sg c) := h
      injection h with h
      rw [if_pos (.inl h2)]
      exact h.symm
    · have e2 : (decide (c ≥ 97) && decide (c ≤ 122)) = false := by simp; omega
      rw [e2, cond_false] at h
      by_cases h3 : 48 ≤ c ∧ c ≤ 57
      · rw [decide_eq_true h3.1, decide_eq_true h3.2] at h
        have h : some c = some (sg c) := h
        injection h with h
        rw [if_pos (.inr (.inl h3))]
        exact h.symm
      · have e3 : (decide (c ≥ 48) && decide (c ≤ 57)) = false := by simp; omega
        rw [e3, cond_false] at h
        by_cases h4 : c = 45
        · subst h4
          exact (by kernel_rfl : sg 45 = 45)
        · rw [beq_eq_false_iff_ne.2 h4, cond_false] at h
          by_cases h5 : c = 95
          · subst h5
            exact (by kernel_rfl : sg 95 = 95)
          · rw [beq_eq_false_iff_ne.2 h5, cond_false] at h
            have h : some (0 : Int) = some (sg c) := h
            injection h with h
            rw [if_neg (by omega)]
            exact h.symm
noncomputable def lowI (c : Int) : Int := cond (c == 46) 46 (sg c)
theorem name_some : ∀ (s out : List Int) (n : Nat) (b : List Int), nameP out n s = some b → b = out ++ s.map lowI ∧ (∀ c ∈ s, c = 46 ∨ sg c ≠ 0) ∧ (n = 0 → s ≠ [])
  | [], out, n, b, h => by
    rw [nameP] at h
    cases he : endsB out n with
    | true => rw [he] at h; cases h
    | false =>
      rw [he] at h
      have h : some out = some b := h
      injection h with h
      refine ⟨by simp [h], by simp, fun h0 => ?_⟩
      subst h0
      cases he
  | c :: s, out, n, b, h => by
    rw [nameP] at h
    cases h46 : c == 46 with
    | true =>
      rw [h46, cond_true] at h
      have hc := beq_iff_eq.1 h46
      cases he : endsB out n with
      | true => rw [he] at h; cases h
      | false =>
        rw [he, cond_false] at h
        obtain ⟨h1, h2, _⟩ := name_some s _ _ _ h
        refine ⟨by rw [h1, List.append_assoc, List.map_cons]; congr 1; show 46 :: _ = lowI c :: _; unfold lowI; rw [h46]; rfl, fun x hx => ?_, fun _ => by simp⟩
        rcases List.mem_cons.1 hx with rfl | hx
        · exact .inl hc
        · exact h2 x hx
    | false =>
      rw [h46, cond_false] at h
      cases hb : (sg c == 0 || n == 63 || (sg c == 45 && n == 0)) with
      | true => rw [hb] at h; cases h
      | false =>
        rw [hb, cond_false] at h
        obtain ⟨h1, h2, _⟩ := name_some s _ _ _ h
        refine ⟨by rw [h1, List.append_assoc, List.map_cons]; congr 1; show sg c :: _ = lowI c :: _; unfold lowI; rw [h46]; rfl, fun x hx => ?_, fun _ => by simp⟩
        rcases List.mem_cons.1 hx with rfl | hx
        · right
          rw [Bool.or_assoc, Bool.or_eq_false_iff] at hb
          exact beq_eq_false_iff_ne.1 hb.1
        · exact h2 x hx
theorem low_46 (c : Int) (h : c = 46 ∨ sg c ≠ 0) : (lowI c == 46) = (c == 46) := by
  unfold lowI
  cases h46 : c == 46 with
  | true => rfl
  | false =>
    rw [cond_false]
    refine beq_eq_false_iff_ne.2 ?_
    have hc := beq_eq_false_iff_ne.1 h46
    rw [sg_spec]
    split
    · omega
    · split <;> omega
theorem split_low : ∀ (s : List Int), (∀ c ∈ s, c = 46 ∨ sg c ≠ 0) → splitI (s.map lowI) 46 = (splitI s 46).map (List.map lowI)
  | [], _ => rfl
  | c :: s, h => by
    have ih := split_low s fun x hx => h x (by simp [hx])
    rw [List.map_cons]
    unfold splitI
    rw [low_46 c (h c (by simp)), ih]
    cases c == 46
    · rw [cond_false, cond_false]
      cases hs : splitI s 46 with
      | nil => exact absurd hs (splitI_ne s 46)
      | cons w r => rfl
    · rfl
theorem split_mem : ∀ (s : List Int) (w : List Int), w ∈ splitI s 46 → ∀ c ∈ w, c ∈ s ∧ c ≠ 46
  | [], w, h, c, hc => by
    rw [List.mem_singleton.1 h] at hc
    cases hc
  | x :: s, w, h, c, hc => by
    unfold splitI at h
    cases hx : x == 46 with
    | true =>
      rw [hx, cond_true] at h
      rcases List.mem_cons.1 h with rfl | h
      · cases hc
      · have := split_mem s w h c hc
        exact ⟨by simp [this.1], this.2⟩
    | false =>
      rw [hx, cond_false] at h
      cases hs : splitI s 46 with
      | nil => exact absurd hs (splitI_ne s 46)
      | cons v r =>
        rw [hs] at h
        rcases List.mem_cons.1 h with rfl | h
        · rcases List.mem_cons.1 hc with rfl | hc
          · exact ⟨by simp, beq_eq_false_iff_ne.1 hx⟩
          · have := split_mem s v (by rw [hs]; simp) c hc
            exact ⟨by simp [this.1], this.2⟩
        · have := split_mem s w (by rw [hs]; simp [h]) c hc
          exact ⟨by simp [this.1], this.2⟩
theorem dig_low (c : Int) (h : sg c ≠ 0) (h46 : c ≠ 46) : isDig (lowI c) = isDig c ∧ (isDig c = true → lowI c = c) := by
  unfold lowI
  rw [beq_eq_false_iff_ne.2 h46, cond_false, sg_spec] at *
  unfold isDig
  split
  · refine ⟨?_, fun hd => by simp at hd; omega⟩
    rw [decide_eq_false (show ¬ c + 32 ≤ 57 by omega), decide_eq_false (show ¬ c ≤ 57 by omega), Bool.and_false, Bool.and_false]
  · split
    · exact ⟨rfl, fun _ => rfl⟩
    · rename_i h1 h2
      rw [if_neg h1, if_neg h2] at h
      exact absurd rfl h
theorem all_same {f g : Int → Bool} : ∀ (l : List Int), (∀ c ∈ l, f c = g c) → l.all f = l.all g
  | [], _ => rfl
  | x :: l, h => by
    rw [List.all_cons, List.all_cons, h x (by simp), all_same l fun c hc => h c (by simp [hc])]
theorem byte_low (w : List Int) (h : ∀ c ∈ w, sg c ≠ 0 ∧ c ≠ 46) : byteB (w.map lowI) = byteB w := by
  have hall : (w.map lowI).all isDig = w.all isDig := by
    rw [List.all_map]
    refine all_same _ fun c hc => ?_
    exact (dig_low c (h c hc).1 (h c hc).2).1
  cases hd : w.all isDig with
  | false =>
    unfold byteB canonB
    rw [hall, hd]
    rfl
  | true =>
    have : w.map lowI = w := by
      conv => rhs; rw [← List.map_id w]
      apply List.map_congr_left
      intro c hc
      exact (dig_low c (h c hc).1 (h c hc).2).2 (List.all_eq_true.1 hd c hc)
    rw [this]
theorem all_low : ∀ (l : List (List Int)), (∀ w ∈ l, ∀ c ∈ w, sg c ≠ 0 ∧ c ≠ 46) → (l.map (List.map lowI)).all byteB = l.all byteB
  | [], _ => rfl
  | w :: l, h => by
    rw [List.map_cons, List.all_cons, List.all_cons, byte_low w (h w (by simp)), all_low l fun v hv => h v (by simp [hv])]
theorem four_low (s : List Int) (h : ∀ c ∈ s, c = 46 ∨ sg c ≠ 0) : (fourR (s.map lowI)).2 = (fourR s).2 := by
  unfold fourR
  rw [split_low s h, List.length_map, all_low _ fun w hw c hc => by
    have := split_mem s w hw c hc
    exact ⟨(h c this.1).resolve_left this.2, this.2⟩]
  cases (decide ((splitI s 46).length = 4) && (splitI s 46).all byteB) <;> rfl
/-! ### the law -/
theorem u_four (s : List Int) : (fourR (117 :: s)).2 = false := by
  unfold fourR
  have : (splitI (117 :: s) 46).all byteB = false := by
    unfold splitI
    rw [show ((117 : Int) == 46) = false from rfl, cond_false]
    cases splitI s 46 with
    | nil => rfl
    | cons w r => rfl
  rw [this, Bool.and_false]
  rfl
theorem u_name (s : List Int) : nameR (117 :: 64 :: s) = ([], 2) := by
  unfold nameR
  have : nameP [] 0 (117 :: 64 :: s) = none := by
    rw [nameP, show ((117 : Int) == 46) = false from rfl, cond_false, show sg 117 = 117 by kernel_rfl]
    rw [show ((117 : Int) == 0 || (0 : Nat) == 63 || ((117 : Int) == 45 && (0 : Nat) == 0)) = false from rfl, cond_false]
    rw [nameP, show ((64 : Int) == 46) = false from rfl, cond_false, show sg 64 = 0 by kernel_rfl]
    rfl
  rw [this]
  generalize decide (253 < (117 :: 64 :: s).length) = z
  cases z <;> rfl
theorem dgs_no58 (n : Nat) : ∀ c ∈ dgs n, c ≠ 58 := fun c hc => by
  have := dig_of (List.all_eq_true.1 (dgs_spec (n + 1) n (by omega)).1 c hc)
  omega
theorem HostPorts_true (s : List Int) (p : Int) (hb : (Lit.int .i64 p).wf = true) : F_wlvlaw16_HostPorts s p = some true := by
  have hw : -9223372036854775808 ≤ p ∧ p ≤ 9223372036854775807 := wf_i64 hb
  unfold F_wlvlaw16_HostPorts
  rw [first16, Option.bind_some, Bool.not_true, cond_false, name_eq, Option.bind_some]
  cases hg : (decide ((s.length : Int) > 500) || (nameR s).2 != 0) with
  | true => rfl
  | false =>
    rw [cond_false]
    rw [Bool.or_eq_false_iff] at hg
    have hl : s.length ≤ 500 := by have := hg.1; simp at this; omega
    have h0 : (nameR s).2 = 0 := by simpa using hg.2
    obtain ⟨b, hnb, hnR⟩ : ∃ b, nameP [] 0 s = some b ∧ nameR s = (b, 0) := by
      unfold nameR at h0 ⊢
      cases hd : decide (253 < s.length) with
      | true => rw [hd] at h0; simp [resN] at h0
      | false =>
        rw [hd] at h0
        rw [cond_false] at h0 ⊢
        cases hp : nameP [] 0 s with
        | none => rw [hp] at h0; cases h0
        | some b => exact ⟨b, rfl, rfl⟩
    obtain ⟨e1, e2, e3⟩ := name_some s [] 0 b hnb
    have e1 : b = s.map lowI := e1
    have hne := e3 rfl
    have bad : ∀ x : Int, x ≠ 46 → sg x = 0 → ∀ c ∈ s, c ≠ x := fun x h1 h2 c hc e => by
      subst e
      rcases e2 c hc with h | h
      · exact h1 h
      · exact h h2
    have n58 := bad 58 (by decide) (by kernel_rfl)
    have n91 := bad 91 (by decide) (by kernel_rfl)
    have hh : s.head? ≠ some 91 := fun e => n91 91 (List.mem_of_head? e) rfl
    have b58 : ∀ c ∈ b, c ≠ 58 := fun c hc => by
      rw [e1] at hc
      obtain ⟨x, hx, rfl⟩ := List.mem_map.1 hc
      unfold lowI
      cases h46 : x == 46 with
      | true => rw [cond_true]; decide
      | false =>
        rw [cond_false, sg_spec]
        have := n58 x hx
        split
        · omega
        · split <;> omega
    have hm : maxLen = 9223372036854775807 := rfl
    have hbl : b.length = s.length := by rw [e1, List.length_map]
    have hbne : b ≠ [] := fun e => hne (List.length_eq_zero_iff.1 (by rw [← hbl, e]; rfl))
    have hdl := dgs_len 18 p.toNat (by
      have : (10 : Nat) ^ (18 + 1) = 10000000000000000000 := by decide
      omega)
    have hpl := place_no s (by omega) n58 hh
    have hf4 : (fourR b).2 = (fourR s).2 := by rw [e1]; exact four_low s e2
    have hcan := canon_dgs p.toNat
    have hval := (dgs_spec (p.toNat + 1) p.toNat (by omega)).2.1
    rw [hnR]
    unfold chk
    rw [Nat.ble_eq_true_of_le (show s.length + ([58] : List Int).length ≤ maxLen by simp; omega), cond_true, Dec_eq p hw.2, Option.bind_some]
    rw [Nat.ble_eq_true_of_le (show (s ++ ([58] : List Int)).length + (dgs p.toNat).length ≤ maxLen by simp; omega), cond_true]
    rw [Auth_at s (dgs p.toNat) _ (by omega) (by omega) (dgs_no58 _) hpl, Option.bind_some, refParse_no b (by omega) b58, Option.bind_some, hcan, hval, hf4, hnR]
    by_cases hr : p < 1 ∨ p > 65535
    · have : (decide (p < 1) || decide (p > 65535)) = true := by simpa using hr
      rw [this, cond_true, Option.bind_some]
      have : (decide (1 ≤ (p.toNat : Int)) && decide ((p.toNat : Int) ≤ 65535)) = false := by simp; omega
      rw [Bool.and_assoc _ (decide (1 ≤ (p.toNat : Int))), this, Bool.and_false]
      rfl
    · have : (decide (p < 1) || decide (p > 65535)) = false := by simp; omega
      rw [this, cond_false, Auth_none s (by omega) n58, Option.bind_some]
      rw [Nat.ble_eq_true_of_le (show s.length + ([58, 48] : List Int).length ≤ maxLen by simp; omega), cond_true, Option.bind_some]
      rw [Nat.ble_eq_true_of_le (show (s ++ ([58, 48] : List Int)).length + (dgs p.toNat).length ≤ maxLen by simp; omega), cond_true]
      have a2 : F_host_Authority ((s ++ [58, 48]) ++ dgs p.toNat) = some ([], [], 0, 2) := by
        have := Auth_at s (48 :: dgs p.toNat) _ (by omega) (by rw [List.length_cons]; omega) (fun c hc => by
          rcases List.mem_cons.1 hc with rfl | hc
          · decide
          · exact dgs_no58 _ c hc) hpl
        have hc48 : canonB (48 :: dgs p.toNat) = false := by
          unfold canonB
          cases hq : dgs p.toNat with
          | nil => exact absurd hq (dgs_spec (p.toNat + 1) p.toNat (by omega)).2.2.1
          | cons x r => exact Bool.and_false _
        rw [hc48, Bool.and_false, Bool.false_and, Bool.false_and, cond_false] at this
        rw [← this]
        congr 1
        simp
      rw [a2, Option.bind_some]
      rw [Nat.ble_eq_true_of_le (show ([117, 64] : List Int).length + s.length ≤ maxLen by simp; omega), cond_true]
      rw [Nat.ble_eq_true_of_le (show (([117, 64] : List Int) ++ s).length + ([58, 56, 48] : List Int).length ≤ maxLen by simp; omega), cond_true]
      have a3 : F_host_Authority ((([117, 64] : List Int) ++ s) ++ [58, 56, 48]) = some ([], [], 0, 2) := by
        have hu := place_no (117 :: 64 :: s) (by simp; omega) (fun c hc => by
          rcases List.mem_cons.1 hc with rfl | hc
          · decide
          · rcases List.mem_cons.1 hc with rfl | hc
            · decide
            · exact n58 c hc) (by simp)
        rw [u_four, cond_false, u_name] at hu
        have := Auth_at (117 :: 64 :: s) [56, 48] _ (by simp; omega) (by simp) (by decide) hu
        rw [show ((2 : Int) == 0) = false from rfl, Bool.false_and, Bool.false_and, Bool.false_and, cond_false] at this
        rw [← this]
        congr 1
        simp
      rw [a3, Option.bind_some, Option.bind_some]
      have hpp : (p.toNat : Int) = p := by omega
      rw [hpp, decide_eq_true (show 1 ≤ p by omega), decide_eq_true (show p ≤ 65535 by omega)]
      cases hf : (fourR s).2 with
      | true =>
        have h4 := (four_len hf).2
        have hb1 : (([] : List Int) == b) = false := beq_eq_false_iff_ne.2 fun e => hbne e.symm
        have hb2 : ((fourR s).1 == ([] : List Int)) = false := beq_eq_false_iff_ne.2 fun e => by rw [e] at h4; cases h4
        simp only [cond_true]
        rw [show (true && true && true && true) = true from rfl]
        simp only [cond_true]
        rw [hb1, hb2, show (p != p) = false by simp]
        rfl
      | false =>
        simp only [cond_false]
        rw [show ((0 : Int) == 0 && true && true && true) = true from rfl]
        simp only [cond_true]
        rw [show (b == b) = true by simp, show (p != p) = false by simp]
        rfl
end Go.Proofs.YtblngdnndkljoaaDoor
