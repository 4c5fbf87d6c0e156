/- Texts of this claim, one behind the other. -/
import Derived.Test.YtblngdnndkljoaaDoorHostReadsM4
import Derived.Laws.BitsLemmas
import Derived.KernelRfl
/- HostPorts: the plain part. -/
namespace Go.Proofs.YtblngdnndkljoaaDoor
open Pv
set_option linter.unusedVariables false
/-! ### decimal digits of a number -/
theorem maxI0 (n : Int) : maxI n 0 = (n.toNat : Int) := by
  unfold maxI
  by_cases h : (0 : Int) > n
  · rw [decide_eq_true h, cond_true]; omega
  · rw [decide_eq_false h, cond_false]; omega
theorem Dec_fuel_eq : ∀ (k : Nat) (n : Int), n < 10 ^ (k + 1) → n ≤ 9223372036854775807 → F_wlvref_Dec_fuel (k + 1) n = some (dgs n.toNat) := fun k => by
  induction k with
  | zero =>
    intro n h h2
    show F_wlvref_Dec_step (F_wlvref_Dec_fuel 0) n = _
    unfold F_wlvref_Dec_step
    have h : n < 10 := h
    rw [decide_eq_true h, cond_true, dgs_one (by omega)]
    rw [maxI0, wrap_in (by omega) (by omega), u8_in (by omega) (by omega)]
  | succ k ih =>
    intro n h h2
    show F_wlvref_Dec_step (F_wlvref_Dec_fuel (k + 1)) n = _
    unfold F_wlvref_Dec_step
    by_cases h10 : n < 10
    · rw [decide_eq_true h10, cond_true, dgs_one (by omega)]
      rw [maxI0, wrap_in (by omega) (by omega), u8_in (by omega) (by omega)]
    · have e1 : Int.tdiv n 10 = n / 10 := Int.tdiv_eq_ediv_of_nonneg (by omega)
      have e2 : Int.tmod n 10 = n % 10 := Int.tmod_eq_emod_of_nonneg (by omega)
      rw [decide_eq_false h10, cond_false, e1, e2, wrap_in (x := n / 10) (by omega) (by omega)]
      rw [ih (n / 10) (by rw [Int.pow_succ] at h; omega) (by omega), Option.bind_some]
      have hl := dgs_len 18 (n / 10).toNat (by
        have : (10 : Nat) ^ (18 + 1) = 10000000000000000000 := by decide
        omega)
      have hb : ∀ a : Int, Nat.ble ((dgs (n / 10).toNat).length + ([a] : List Int).length) maxLen = true := fun a => Nat.ble_eq_true_of_le (by
        have : maxLen = 9223372036854775807 := rfl
        simp
        omega)
      unfold chk
      rw [hb, cond_true, wrap_in (by omega) (by omega), u8_in (by omega) (by omega), dgs_more (n := n.toNat) (by omega)]
      rw [show (n / 10).toNat = n.toNat / 10 by omega, show n % 10 = ((n.toNat % 10 : Nat) : Int) by omega]
theorem Dec_eq (n : Int) (h2 : n ≤ 9223372036854775807) : F_wlvref_Dec n = some (dgs n.toNat) :=
  Dec_fuel_eq 63 n (by have : (10 : Int) ^ (63 + 1) = 10000000000000000000000000000000000000000000000000000000000000000 := by decide
                       omega) h2
/-! ### a host and a port -/
theorem lastI_none : ∀ {t : List Int} {c : Int}, (∀ x ∈ t, x ≠ c) → lastI t c = -1
  | [], _, _ => rfl
  | x :: t, c, h => by
    unfold lastI
    rw [lastI_none (t := t) fun y hy => h y (by simp [hy]), beq_eq_false_iff_ne.2 (h x (by simp))]
    rfl
theorem lastI_at : ∀ (h : List Int) {t : List Int} {c : Int}, (∀ x ∈ t, x ≠ c) → lastI (h ++ c :: t) c = h.length
  | [], t, c, ht => by
    show cond (lastI t c == -1) (cond (c == c) 0 (-1)) (lastI t c + 1) = _
    rw [lastI_none ht, beq_self_eq_true, beq_self_eq_true]
    rfl
  | x :: h, t, c, ht => by
    show cond (lastI (h ++ c :: t) c == -1) _ (lastI (h ++ c :: t) c + 1) = _
    rw [lastI_at h ht, beq_eq_false_iff_ne.2 (show (h.length : Int) ≠ -1 by omega), cond_false, List.length_cons]
    omega
theorem Auth_none (s : List Int) (hs : s.length ≤ 1000000) (h58 : ∀ c ∈ s, c ≠ 58) : F_host_Authority s = some ([], [], 0, 2) := by
  unfold F_host_Authority
  rw [show F_strings_LastIndexByte s 58 = some (lastI s 58) by
    unfold F_strings_LastIndexByte
    rw [Nat.ble_eq_true_of_le (by omega)]; rfl]
  rw [Option.bind_some, lastI_none h58]
  rfl
theorem Auth_at (h t : List Int) (x : List Int × List Int × Bool) (hh : h.length ≤ 100000) (ht : t.length ≤ 100000) (t58 : ∀ c ∈ t, c ≠ 58) (hp : F_host_place h = some x) :
    F_host_Authority ((h ++ [58]) ++ t) = some (cond (x.2.2 && canonB t && decide (1 ≤ valI t) && decide (valI t ≤ 65535)) (x.1, x.2.1, valI t, 0) ([], [], 0, 2)) := by
  have e0 : (h ++ [58]) ++ t = h ++ 58 :: t := by rw [List.append_assoc]; rfl
  rw [e0]
  have hlen : (h ++ 58 :: t).length = h.length + (t.length + 1) := by rw [List.length_append, List.length_cons]
  unfold F_host_Authority
  rw [show F_strings_LastIndexByte (h ++ 58 :: t) 58 = some (lastI (h ++ 58 :: t) 58) by
    unfold F_strings_LastIndexByte
    rw [Nat.ble_eq_true_of_le (by omega)]; rfl]
  rw [Option.bind_some, lastI_at h t58, decide_eq_false (show ¬ (h.length : Int) < 0 by omega), cond_false, wrap_in (by omega) (by omega)]
  have c1 : cutI (h ++ 58 :: t) ((h.length : Int) + 1) ((h ++ 58 :: t).length : Int) = some t := by
    have := cutI_nat (s := h ++ 58 :: t) (a := h.length + 1) (b := (h ++ 58 :: t).length) (by omega) (by omega)
    rw [show ((h.length + 1 : Nat) : Int) = (h.length : Int) + 1 by omega] at this
    rw [this, List.take_length, List.drop_append, List.drop_of_length_le (by omega), show h.length + 1 - h.length = 1 by omega]
    rfl
  have c2 : cutI (h ++ 58 :: t) 0 (h.length : Int) = some h := by
    have := cutI_nat (s := h ++ 58 :: t) (a := 0) (b := h.length) (by omega) (by omega)
    rw [show ((0 : Nat) : Int) = 0 from rfl] at this
    rw [this, List.take_left]
    rfl
  rw [c1, Option.bind_some, show F_strconv_Atoi t = some (atoiP t) by
    unfold F_strconv_Atoi
    rw [Nat.ble_eq_true_of_le (by omega)]; rfl]
  rw [Option.bind_some, c2, Option.bind_some, hp, Option.bind_some]
  obtain ⟨k1, k2⟩ := decimal_law t 65535 (by omega)
  by_cases hg : canonB t = true ∧ valI t ≤ 65535
  · obtain ⟨q1, q2, q3⟩ := k1 hg
    rw [q1, q2, hg.1, decide_eq_true hg.2]
    unfold F_strconv_Itoa
    rw [q3]
    simp only [Option.bind_some]
    by_cases h1 : 1 ≤ valI t
    · rw [decide_eq_true h1, decide_eq_false (show ¬ valI t < 1 by omega), decide_eq_false (show ¬ valI t > 65535 by omega), beq_self_eq_true]
      cases x.2.2 <;> rfl
    · rw [decide_eq_false h1, decide_eq_true (show valI t < 1 by omega)]
      cases x.2.2 <;> rfl
  · have hf : (x.2.2 && canonB t && decide (1 ≤ valI t) && decide (valI t ≤ 65535)) = false := by
      cases hb : (x.2.2 && canonB t && decide (1 ≤ valI t) && decide (valI t ≤ 65535)) with
      | false => rfl
      | true =>
        simp at hb
        exact absurd ⟨hb.1.1.2, hb.2⟩ hg
    rw [hf, cond_false]
    cases hb : (((!x.2.2) || (atoiP t).2) || (decide ((atoiP t).1 < 1))) || (decide ((atoiP t).1 > 65535)) with
    | true => rfl
    | false =>
      rw [cond_false]
      unfold F_strconv_Itoa
      simp only [Option.bind_some]
      cases he : itoaI (atoiP t).1 == t with
      | false => rfl
      | true =>
        exfalso
        simp at hb
        obtain ⟨r1, r2⟩ := k2 (by
          cases h : (atoiP t).2 with
          | false => rfl
          | true => exact absurd h (by simp [hb.1.1.2])) (by omega) (by omega) (beq_iff_eq.1 he)
        exact hg ⟨r1, by omega⟩
/-! ### what a name is -/
theorem sg_spec (c : Int) : sg c = if 65 ≤ c ∧ c ≤ 90 then c + 32 else if (97 ≤ c ∧ c ≤ 122) ∨ (48 ≤ c ∧ c ≤ 57) ∨ c = 45 ∨ c = 95 then c else 0 := by
  have h := sign_eq c
  unfold F_host_sign at h
  by_cases h1 : 65 ≤ c ∧ c ≤ 90
  · rw [decide_eq_true h1.1, decide_eq_true h1.2, u8_in (x := c + 97) (by omega) (by omega), u8_in (by omega) (by omega)] at h
    have h : some (c + 97 - 65) = some (sg c) := h
    injection h with h
    rw [if_pos h1]
    omega
  · have e1 : (decide (c ≥ 65) && decide (c ≤ 90)) = false := by simp; omega
    rw [e1, cond_false] at h
    rw [if_neg h1]
    by_cases h2 : 97 ≤ c ∧ c ≤ 122
    · rw [decide_eq_true h2.1, decide_eq_true h2.2] at h
      have h : some c = some (sg c) := h
      injection h with h
      rw [if_pos (.inl h2)]
      exact h.symm
    · have e2 : (decide (c ≥ 97) && decide (c ≤ 122)) = false := by simp; omega
      rw [e2, cond_false] at h
      by_cases h3 : 48 ≤ c ∧ c ≤ 57
      · rw [decide_eq_true h3.1, decide_eq_true h3.2] at h
        have h : some c = some (sg c) := h
        injection h with h
        rw [if_pos (.inr (.inl h3))]
        exact h.symm
      · have e3 : (decide (c ≥ 48) && decide (c ≤ 57)) = false := by simp; omega
        rw [e3, cond_false] at h
        by_cases h4 : c = 45
        · subst h4
          exact (by kernel_rfl : sg 45 = 45)
        · rw [beq_eq_false_iff_ne.2 h4, cond_false] at h
          by_cases h5 : c = 95
          · subst h5
            exact (by kernel_rfl : sg 95 = 95)
          · rw [beq_eq_false_iff_ne.2 h5, cond_false] at h
            have h : some (0 : Int) = some (sg c) := h
            injection h with h
            rw [if_neg (by omega)]
            exact h.symm
noncomputable def lowI (c : Int) : Int := cond (c == 46) 46 (sg c)
theorem name_some : ∀ (s out : List Int) (n : Nat) (b : List Int), nameP out n s = some b → b = out ++ s.map lowI ∧ (∀ c ∈ s, c = 46 ∨ sg c ≠ 0) ∧ (n = 0 → s ≠ [])
  | [], out, n, b, h => by
    rw [nameP] at h
    cases he : endsB out n with
    | true => rw [he] at h; cases h
    | false =>
      rw [he] at h
      have h : some out = some b := h
      injection h with h
      refine ⟨by simp [h], by simp, fun h0 => ?_⟩
      subst h0
      cases he
  | c :: s, out, n, b, h => by
    rw [nameP] at h
    cases h46 : c == 46 with
    | true =>
      rw [h46, cond_true] at h
      have hc := beq_iff_eq.1 h46
      cases he : endsB out n with
      | true => rw [he] at h; cases h
      | false =>
        rw [he, cond_false] at h
        obtain ⟨h1, h2, _⟩ := name_some s _ _ _ h
        refine ⟨by rw [h1, List.append_assoc, List.map_cons]; congr 1; show 46 :: _ = lowI c :: _; unfold lowI; rw [h46]; rfl, fun x hx => ?_, fun _ => by simp⟩
        rcases List.mem_cons.1 hx with rfl | hx
        · exact .inl hc
        · exact h2 x hx
    | false =>
      rw [h46, cond_false] at h
      cases hb : (sg c == 0 || n == 63 || (sg c == 45 && n == 0)) with
      | true => rw [hb] at h; cases h
      | false =>
        rw [hb, cond_false] at h
        obtain ⟨h1, h2, _⟩ := name_some s _ _ _ h
        refine ⟨by rw [h1, List.append_assoc, List.map_cons]; congr 1; show sg c :: _ = lowI c :: _; unfold lowI; rw [h46]; rfl, fun x hx => ?_, fun _ => by simp⟩
        rcases List.mem_cons.1 hx with rfl | hx
        · right
          rw [Bool.or_assoc, Bool.or_eq_false_iff] at hb
          exact beq_eq_false_iff_ne.1 hb.1
        · exact h2 x hx
theorem low_46 (c : Int) (h : c = 46 ∨ sg c ≠ 0) : (lowI c == 46) = (c == 46) := by
  unfold lowI
  cases h46 : c == 46 with
  | true => rfl
  | false =>
    rw [cond_false]
    refine beq_eq_false_iff_ne.2 ?_
    have hc := beq_eq_false_iff_ne.1 h46
    rw [sg_spec]
    split
    · omega
    · split <;> omega
theorem split_low : ∀ (s : List Int), (∀ c ∈ s, c = 46 ∨ sg c ≠ 0) → splitI (s.map lowI) 46 = (splitI s 46).map (List.map lowI)
  | [], _ => rfl
  | c :: s, h => by
    have ih := split_low s fun x hx => h x (by simp [hx])
    rw [List.map_cons]
    unfold splitI
    rw [low_46 c (h c (by simp)), ih]
    cases c == 46
    · rw [cond_false, cond_false]
      cases hs : splitI s 46 with
      | nil => exact absurd hs (splitI_ne s 46)
      | cons w r => rfl
    · rfl
theorem split_mem : ∀ (s : List Int) (w : List Int), w ∈ splitI s 46 → ∀ c ∈ w, c ∈ s ∧ c ≠ 46
  | [], w, h, c, hc => by
    rw [List.mem_singleton.1 h] at hc
    cases hc
  | x :: s, w, h, c, hc => by
    unfold splitI at h
    cases hx : x == 46 with
    | true =>
      rw [hx, cond_true] at h
      rcases List.mem_cons.1 h with rfl | h
      · cases hc
      · have := split_mem s w h c hc
        exact ⟨by simp [this.1], this.2⟩
    | false =>
      rw [hx, cond_false] at h
      cases hs : splitI s 46 with
      | nil => exact absurd hs (splitI_ne s 46)
      | cons v r =>
        rw [hs] at h
        rcases List.mem_cons.1 h with rfl | h
        · rcases List.mem_cons.1 hc with rfl | hc
          · exact ⟨by simp, beq_eq_false_iff_ne.1 hx⟩
          · have := split_mem s v (by rw [hs]; simp) c hc
            exact ⟨by simp [this.1], this.2⟩
        · have := split_mem s w (by rw [hs]; simp [h]) c hc
          exact ⟨by simp [this.1], this.2⟩
theorem dig_low (c : Int) (h : sg c ≠ 0) (h46 : c ≠ 46) : isDig (lowI c) = isDig c ∧ (isDig c = true → lowI c = c) := by
  unfold lowI
  rw [beq_eq_false_iff_ne.2 h46, cond_false, sg_spec] at *
  unfold isDig
  split
  · refine ⟨?_, fun hd => by simp at hd; omega⟩
    rw [decide_eq_false (show ¬ c + 32 ≤ 57 by omega), decide_eq_false (show ¬ c ≤ 57 by omega), Bool.and_false, Bool.and_false]
  · split
    · exact ⟨rfl, fun _ => rfl⟩
    · rename_i h1 h2
      rw [if_neg h1, if_neg h2] at h
      exact absurd rfl h
theorem all_same {f g : Int → Bool} : ∀ (l : List Int), (∀ c ∈ l, f c = g c) → l.all f = l.all g
  | [], _ => rfl
  | x :: l, h => by
    rw [List.all_cons, List.all_cons, h x (by simp), all_same l fun c hc => h c (by simp [hc])]
theorem byte_low (w : List Int) (h : ∀ c ∈ w, sg c ≠ 0 ∧ c ≠ 46) : byteB (w.map lowI) = byteB w := by
  have hall : (w.map lowI).all isDig = w.all isDig := by
    rw [List.all_map]
    refine all_same _ fun c hc => ?_
    exact (dig_low c (h c hc).1 (h c hc).2).1
  cases hd : w.all isDig with
  | false =>
    unfold byteB canonB
    rw [hall, hd]
    rfl
  | true =>
    have : w.map lowI = w := by
      conv => rhs; rw [← List.map_id w]
      apply List.map_congr_left
      intro c hc
      exact (dig_low c (h c hc).1 (h c hc).2).2 (List.all_eq_true.1 hd c hc)
    rw [this]
theorem all_low : ∀ (l : List (List Int)), (∀ w ∈ l, ∀ c ∈ w, sg c ≠ 0 ∧ c ≠ 46) → (l.map (List.map lowI)).all byteB = l.all byteB
  | [], _ => rfl
  | w :: l, h => by
    rw [List.map_cons, List.all_cons, List.all_cons, byte_low w (h w (by simp)), all_low l fun v hv => h v (by simp [hv])]
theorem four_low (s : List Int) (h : ∀ c ∈ s, c = 46 ∨ sg c ≠ 0) : (fourR (s.map lowI)).2 = (fourR s).2 := by
  unfold fourR
  rw [split_low s h, List.length_map, all_low _ fun w hw c hc => by
    have := split_mem s w hw c hc
    exact ⟨(h c this.1).resolve_left this.2, this.2⟩]
  cases (decide ((splitI s 46).length = 4) && (splitI s 46).all byteB) <;> rfl
/-! ### the law -/
theorem u_four (s : List Int) : (fourR (117 :: s)).2 = false := by
  unfold fourR
  have : (splitI (117 :: s) 46).all byteB = false := by
    unfold splitI
    rw [show ((117 : Int) == 46) = false from rfl, cond_false]
    cases splitI s 46 with
    | nil => rfl
    | cons w r => rfl
  rw [this, Bool.and_false]
  rfl
theorem u_name (s : List Int) : nameR (117 :: 64 :: s) = ([], 2) := by
  unfold nameR
  have : nameP [] 0 (117 :: 64 :: s) = none := by
    rw [nameP, show ((117 : Int) == 46) = false from rfl, cond_false, show sg 117 = 117 by kernel_rfl]
    rw [show ((117 : Int) == 0 || (0 : Nat) == 63 || ((117 : Int) == 45 && (0 : Nat) == 0)) = false from rfl, cond_false]
    rw [nameP, show ((64 : Int) == 46) = false from rfl, cond_false, show sg 64 = 0 by kernel_rfl]
    rfl
  rw [this]
  generalize decide (253 < (117 :: 64 :: s).length) = z
  cases z <;> rfl
theorem dgs_no58 (n : Nat) : ∀ c ∈ dgs n, c ≠ 58 := fun c hc => by
  have := dig_of (List.all_eq_true.1 (dgs_spec (n + 1) n (by omega)).1 c hc)
  omega
theorem HostPorts_true (s : List Int) (p : Int) (hb : (Lit.int .i64 p).wf = true) : F_wlvlaw16_HostPorts s p = some true := by
  have hw : -9223372036854775808 ≤ p ∧ p ≤ 9223372036854775807 := wf_i64 hb
  unfold F_wlvlaw16_HostPorts
  rw [first16, Option.bind_some, Bool.not_true, cond_false, name_eq, Option.bind_some]
  cases hg : (decide ((s.length : Int) > 500) || (nameR s).2 != 0) with
  | true => rfl
  | false =>
    rw [cond_false]
    rw [Bool.or_eq_false_iff] at hg
    have hl : s.length ≤ 500 := by have := hg.1; simp at this; omega
    have h0 : (nameR s).2 = 0 := by simpa using hg.2
    obtain ⟨b, hnb, hnR⟩ : ∃ b, nameP [] 0 s = some b ∧ nameR s = (b, 0) := by
      unfold nameR at h0 ⊢
      cases hd : decide (253 < s.length) with
      | true => rw [hd] at h0; simp [resN] at h0
      | false =>
        rw [hd] at h0
        rw [cond_false] at h0 ⊢
        cases hp : nameP [] 0 s with
        | none => rw [hp] at h0; cases h0
        | some b => exact ⟨b, rfl, rfl⟩
    obtain ⟨e1, e2, e3⟩ := name_some s [] 0 b hnb
    have e1 : b = s.map lowI := e1
    have hne := e3 rfl
    have bad : ∀ x : Int, x ≠ 46 → sg x = 0 → ∀ c ∈ s, c ≠ x := fun x h1 h2 c hc e => by
      subst e
      rcases e2 c hc with h | h
      · exact h1 h
      · exact h h2
    have n58 := bad 58 (by decide) (by kernel_rfl)
    have n91 := bad 91 (by decide) (by kernel_rfl)
    have hh : s.head? ≠ some 91 := fun e => n91 91 (List.mem_of_head? e) rfl
    have b58 : ∀ c ∈ b, c ≠ 58 := fun c hc => by
      rw [e1] at hc
      obtain ⟨x, hx, rfl⟩ := List.mem_map.1 hc
      unfold lowI
      cases h46 : x == 46 with
      | true => rw [cond_true]; decide
      | false =>
        rw [cond_false, sg_spec]
        have := n58 x hx
        split
        · omega
        · split <;> omega
    have hm : maxLen = 9223372036854775807 := rfl
    have hbl : b.length = s.length := by rw [e1, List.length_map]
    have hbne : b ≠ [] := fun e => hne (List.length_eq_zero_iff.1 (by rw [← hbl, e]; rfl))
    have hdl := dgs_len 18 p.toNat (by
      have : (10 : Nat) ^ (18 + 1) = 10000000000000000000 := by decide
      omega)
    have hpl := place_no s (by omega) n58 hh
    have hf4 : (fourR b).2 = (fourR s).2 := by rw [e1]; exact four_low s e2
    have hcan := canon_dgs p.toNat
    have hval := (dgs_spec (p.toNat + 1) p.toNat (by omega)).2.1
    rw [hnR]
    unfold chk
    rw [Nat.ble_eq_true_of_le (show s.length + ([58] : List Int).length ≤ maxLen by simp; omega), cond_true, Dec_eq p hw.2, Option.bind_some]
    rw [Nat.ble_eq_true_of_le (show (s ++ ([58] : List Int)).length + (dgs p.toNat).length ≤ maxLen by simp; omega), cond_true]
    rw [Auth_at s (dgs p.toNat) _ (by omega) (by omega) (dgs_no58 _) hpl, Option.bind_some, refParse_no b (by omega) b58, Option.bind_some, hcan, hval, hf4, hnR]
    by_cases hr : p < 1 ∨ p > 65535
    · have : (decide (p < 1) || decide (p > 65535)) = true := by simpa using hr
      rw [this, cond_true, Option.bind_some]
      have : (decide (1 ≤ (p.toNat : Int)) && decide ((p.toNat : Int) ≤ 65535)) = false := by simp; omega
      rw [Bool.and_assoc _ (decide (1 ≤ (p.toNat : Int))), this, Bool.and_false]
      rfl
    · have : (decide (p < 1) || decide (p > 65535)) = false := by simp; omega
      rw [this, cond_false, Auth_none s (by omega) n58, Option.bind_some]
      rw [Nat.ble_eq_true_of_le (show s.length + ([58, 48] : List Int).length ≤ maxLen by simp; omega), cond_true, Option.bind_some]
      rw [Nat.ble_eq_true_of_le (show (s ++ ([58, 48] : List Int)).length + (dgs p.toNat).length ≤ maxLen by simp; omega), cond_true]
      have a2 : F_host_Authority ((s ++ [58, 48]) ++ dgs p.toNat) = some ([], [], 0, 2) := by
        have := Auth_at s (48 :: dgs p.toNat) _ (by omega) (by rw [List.length_cons]; omega) (fun c hc => by
          rcases List.mem_cons.1 hc with rfl | hc
          · decide
          · exact dgs_no58 _ c hc) hpl
        have hc48 : canonB (48 :: dgs p.toNat) = false := by
          unfold canonB
          cases hq : dgs p.toNat with
          | nil => exact absurd hq (dgs_spec (p.toNat + 1) p.toNat (by omega)).2.2.1
          | cons x r => exact Bool.and_false _
        rw [hc48, Bool.and_false, Bool.false_and, Bool.false_and, cond_false] at this
        rw [← this]
        congr 1
        simp
      rw [a2, Option.bind_some]
      rw [Nat.ble_eq_true_of_le (show ([117, 64] : List Int).length + s.length ≤ maxLen by simp; omega), cond_true]
      rw [Nat.ble_eq_true_of_le (show (([117, 64] : List Int) ++ s).length + ([58, 56, 48] : List Int).length ≤ maxLen by simp; omega), cond_true]
      have a3 : F_host_Authority ((([117, 64] : List Int) ++ s) ++ [58, 56, 48]) = some ([], [], 0, 2) := by
        have hu := place_no (117 :: 64 :: s) (by simp; omega) (fun c hc => by
          rcases List.mem_cons.1 hc with rfl | hc
          · decide
          · rcases List.mem_cons.1 hc with rfl | hc
            · decide
            · exact n58 c hc) (by simp)
        rw [u_four, cond_false, u_name] at hu
        have := Auth_at (117 :: 64 :: s) [56, 48] _ (by simp; omega) (by simp) (by decide) hu
        rw [show ((2 : Int) == 0) = false from rfl, Bool.false_and, Bool.false_and, Bool.false_and, cond_false] at this
        rw [← this]
        congr 1
        simp
      rw [a3, Option.bind_some, Option.bind_some]
      have hpp : (p.toNat : Int) = p := by omega
      rw [hpp, decide_eq_true (show 1 ≤ p by omega), decide_eq_true (show p ≤ 65535 by omega)]
      cases hf : (fourR s).2 with
      | true =>
        have h4 := (four_len hf).2
        have hb1 : (([] : List Int) == b) = false := beq_eq_false_iff_ne.2 fun e => hbne e.symm
        have hb2 : ((fourR s).1 == ([] : List Int)) = false := beq_eq_false_iff_ne.2 fun e => by rw [e] at h4; cases h4
        simp only [cond_true]
        rw [show (true && true && true && true) = true from rfl]
        simp only [cond_true]
        rw [hb1, hb2, show (p != p) = false by simp]
        rfl
      | false =>
        simp only [cond_false]
        rw [show ((0 : Int) == 0 && true && true && true) = true from rfl]
        simp only [cond_true]
        rw [show (b == b) = true by simp, show (p != p) = false by simp]
        rfl
end Go.Proofs.YtblngdnndkljoaaDoor

/- The bits of an address that count. -/
namespace Go.Proofs.YtblngdnndkljoaaDoor
open Pv
set_option linter.unusedVariables false
def isB (x : Int) : Prop := 0 ≤ x ∧ x < 256
/-- A byte's bit, the highest first. -/
def bitI (x : Int) (j : Nat) : Int := x / 2 ^ (7 - j) % 2
def bitAt (s : List Int) (i : Nat) : Int := bitI (s.getD (i / 8) 0) (i % 8)
def keepB (x : Int) (k : Nat) : Int := x / 2 ^ (8 - k) * 2 ^ (8 - k)
def nbits (b : Int) (i : Nat) : Nat := min (b - 8 * i).toNat 8
def keptL (b : Int) : Nat → List Int → List Int
  | _, [] => []
  | i, x :: r => keepB x (nbits b i) :: keptL b (i + 1) r
theorem mask_all : (List.range 256).all (fun x => (List.range 9).all fun k => bits .and .u8 (x : Int) (IntKind.u8.wrap (Int.fdiv 65280 (2 ^ (min k 64)))) == keepB x k) = true := by kernel_rfl
theorem mask_eq {x : Int} (hx : isB x) {k : Nat} (hk : k ≤ 8) : bits .and .u8 x (IntKind.u8.wrap (Int.fdiv 65280 (2 ^ (min k 64)))) = keepB x k := by
  have h := List.all_eq_true.1 (List.all_eq_true.1 mask_all x.toNat (List.mem_range.2 (by obtain ⟨_, _⟩ := hx; omega))) k (List.mem_range.2 (by omega))
  have e : ((x.toNat : Nat) : Int) = x := Int.toNat_of_nonneg hx.1
  rw [e] at h
  exact beq_iff_eq.1 h
theorem nb_eq (b : Int) (i : Nat) (hb : -1000000 ≤ b ∧ b ≤ 1000000) (hi : i ≤ 1000000) : (minI (maxI (IntKind.i64.wrap (b - (IntKind.i64.wrap (8 * (i : Int))))) 0) 8) = (nbits b i : Int) := by
  rw [wrap_in (x := 8 * (i : Int)) (by omega) (by omega), wrap_in (by omega) (by omega)]
  unfold minI maxI nbits
  by_cases h : (0 : Int) > b - 8 * i
  · rw [decide_eq_true h, cond_true, decide_eq_false (by omega), cond_false]; omega
  · rw [decide_eq_false h, cond_false]
    by_cases h8 : (8 : Int) < b - 8 * i
    · rw [decide_eq_true h8, cond_true]; omega
    · rw [decide_eq_false h8, cond_false]; omega
theorem set_mid (pre : List Int) (x v : Int) (r : List Int) : (pre ++ x :: r).set pre.length v = pre ++ v :: r := by
  rw [List.set_append_right _ _ (Nat.le_refl _), Nat.sub_self]; rfl
theorem kept_loop (s : List Int) (b : Int) (hb : -1000000 ≤ b ∧ b ≤ 1000000) (hs : s.length ≤ 1000000) : ∀ (r pre : List Int), s.length = pre.length + r.length → (∀ x ∈ r, isB x) → loopC (F_addr_kept_L4 s b) ((pre.length : Int), pre ++ r) = some (.inr (pre ++ keptL b pre.length r))
  | [], pre, hl, _ => by
    refine loop_inl ?_
    unfold F_addr_kept_L4
    dsimp only
    rw [decide_eq_false (by rw [hl]; simp), cond_false]
    rfl
  | x :: r, pre, hl, hr => by
    have hl' : s.length = pre.length + (r.length + 1) := hl
    have ih := kept_loop s b hb hs r (pre ++ [keepB x (nbits b pre.length)]) (by rw [List.length_append]; simp; omega) (fun y hy => hr y (List.mem_cons_of_mem _ hy))
    refine loop_inr (s' := (((pre ++ [keepB x (nbits b pre.length)]).length : Int), (pre ++ [keepB x (nbits b pre.length)]) ++ r)) ?_ (ih.trans ?_)
    · unfold F_addr_kept_L4 chk
      dsimp only
      have h1 : (decide ((0 : Int) ≤ (pre.length : Int)) && decide ((pre.length : Int) < (s.length : Int))) = true := by simp; omega
      have h2 : decide ((pre.length : Int) < (s.length : Int)) = true := decide_eq_true (by omega)
      have hg : getI (pre ++ x :: r) (pre.length : Int) = some x := getI_nat (by simp)
      have h3 : decide ((pre.length : Int) < ((pre ++ x :: r).length : Int)) = true := decide_eq_true (by rw [List.length_append, List.length_cons]; omega)
      rw [h1, h2, cond_true, cond_true, hg, Option.bind_some, nb_eq b pre.length hb (by omega), decide_eq_true (show (0 : Int) ≤ (nbits b pre.length : Int) by omega), cond_true, cond_true, h3, cond_true]
      rw [Int.toNat_natCast, Int.toNat_natCast, mask_eq (hr x List.mem_cons_self) (show nbits b pre.length ≤ 8 by unfold nbits; omega), set_mid, wrap_in (by omega) (by omega)]
      have e : ((pre ++ [keepB x (nbits b pre.length)]).length : Int) = (pre.length : Int) + 1 := by rw [List.length_append]; simp
      rw [e, List.append_assoc]; rfl
    · rw [show (pre ++ [keepB x (nbits b pre.length)]).length = pre.length + 1 by simp, List.append_assoc]
      rfl
theorem keptL_len (b : Int) : ∀ (r : List Int) (i : Nat), (keptL b i r).length = r.length
  | [], _ => rfl
  | _ :: r, i => by show (keptL b (i + 1) r).length + 1 = _; rw [keptL_len b r]; rfl
theorem kept_eq (s : List Int) (b : Int) (hb : -1000000 ≤ b ∧ b ≤ 1000000) (hs : s.length ≤ 1000000) (hB : ∀ x ∈ s, isB x) : F_addr_kept s b = some (keptL b 0 s) := by
  have h : loopC (F_addr_kept_L4 s b) (0, s) = some (.inr (keptL b 0 s)) := kept_loop s b hb hs s [] (by simp) hB
  unfold F_addr_kept
  rw [join_inr (s := keptL b 0 s) h]
  unfold F_addr_kept_J2
  dsimp only
  have hl := keptL_len b s 0
  rw [show Nat.ble s.length (List.length (keptL b 0 s)) = true from Nat.ble_eq_true_of_le (Nat.le_of_eq hl.symm)]
  unfold chk
  rw [cond_true, List.take_of_length_le (Nat.le_of_eq hl)]
theorem pow_half (k : Nat) (hk : k ≤ 7) (x : Int) : x / 2 ^ (8 - k) = x / 2 ^ (7 - k) / 2 := by
  have hp : (0 : Int) < 2 ^ (7 - k) := Int.pow_pos (by decide)
  rw [show 8 - k = (7 - k) + 1 by omega, Int.pow_succ]
  exact (Int.ediv_ediv_of_nonneg (by omega)).symm
theorem div_iff {x y : Int} (hx : isB x) (hy : isB y) : ∀ k : Nat, k ≤ 8 → (x / 2 ^ (8 - k) = y / 2 ^ (8 - k) ↔ ∀ j, j < k → bitI x j = bitI y j)
  | 0, _ => by
    obtain ⟨a, b⟩ := hx
    obtain ⟨c, d⟩ := hy
    refine ⟨fun _ j hj => absurd hj (Nat.not_lt_zero j), fun _ => ?_⟩
    show x / 256 = y / 256
    omega
  | k + 1, hk => by
    have ih := div_iff hx hy k (by omega)
    have px := pow_half k (by omega) x
    have py := pow_half k (by omega) y
    have hsub : 8 - (k + 1) = 7 - k := by omega
    rw [hsub]
    constructor
    · intro h j hj
      rcases Nat.lt_or_eq_of_le (Nat.le_of_lt_succ hj) with hlt | rfl
      · exact ih.1 (by rw [px, py, h]) j hlt
      · unfold bitI; rw [h]
    · intro h
      have h1 := ih.2 fun j hj => h j (by omega)
      have h2 := h k (by omega)
      unfold bitI at h2
      rw [px, py] at h1
      omega
theorem keepB_iff {x y : Int} (hx : isB x) (hy : isB y) (k : Nat) (hk : k ≤ 8) : keepB x k = keepB y k ↔ ∀ j, j < k → bitI x j = bitI y j := by
  rw [← div_iff hx hy k hk]
  unfold keepB
  have hp : (0 : Int) < 2 ^ (8 - k) := Int.pow_pos (by decide)
  exact ⟨fun h => Int.eq_of_mul_eq_mul_right (by omega) h, fun h => by rw [h]⟩
theorem kept_iff (b : Int) : ∀ (s t : List Int) (i : Nat), s.length = t.length → (∀ x ∈ s, isB x) → (∀ x ∈ t, isB x) → (keptL b i s = keptL b i t ↔ ∀ j : Nat, j < 8 * s.length → ((8 * i + j : Nat) : Int) < b → bitAt s j = bitAt t j)
  | [], [], i, _, _, _ => ⟨fun _ j hj => by simp at hj, fun _ => rfl⟩
  | [], _ :: _, _, h, _, _ => by cases h
  | _ :: _, [], _, h, _, _ => by cases h
  | x :: s, y :: t, i, hl, hs, ht => by
    have ih := kept_iff b s t (i + 1) (by simpa using hl) (fun x hx => hs x (List.mem_cons_of_mem _ hx)) (fun x hx => ht x (List.mem_cons_of_mem _ hx))
    have hk := keepB_iff (hs x List.mem_cons_self) (ht y List.mem_cons_self) (nbits b i) (by unfold nbits; omega)
    have hat : ∀ (z : Int) (u : List Int) (j : Nat), bitAt (z :: u) (j + 8) = bitAt u j := fun z u j => by
      unfold bitAt
      rw [show (j + 8) / 8 = j / 8 + 1 by omega, show (j + 8) % 8 = j % 8 by omega]
      rfl
    have ha0 : ∀ (z : Int) (u : List Int) (j : Nat), j < 8 → bitAt (z :: u) j = bitI z j := fun z u j hj => by
      unfold bitAt
      rw [show j / 8 = 0 by omega, show j % 8 = j by omega]
      rfl
    show keepB x (nbits b i) :: keptL b (i + 1) s = keepB y (nbits b i) :: keptL b (i + 1) t ↔ _
    rw [List.cons.injEq, hk, ih, List.length_cons]
    constructor
    · rintro ⟨h1, h2⟩ j hj hb
      rcases Nat.lt_or_ge j 8 with h8 | h8
      · rw [ha0 x s j h8, ha0 y t j h8]
        exact h1 j (by unfold nbits; omega)
      · obtain ⟨j', rfl⟩ : ∃ j', j = j' + 8 := ⟨j - 8, by omega⟩
        rw [hat, hat]
        exact h2 j' (by omega) (by omega)
    · intro h
      refine ⟨fun j hj => ?_, fun j hj hb => ?_⟩
      · have hj8 : j < 8 := by unfold nbits at hj; omega
        have := h j (by omega) (by unfold nbits at hj; omega)
        rwa [ha0 x s j hj8, ha0 y t j hj8] at this
      · have := h (j + 8) (by omega) (by omega)
        rwa [hat, hat] at this
/-- Two addresses of one length. -/
theorem In_eq (s t : List Int) (b : Int) (hl : s.length = 4 ∨ s.length = 16) (hs : ∀ x ∈ s, isB x) (ht : ∀ x ∈ t, isB x) (ht16 : t.length ≤ 1000000) :
    F_addr_In s b t = some (decide (t.length = s.length) && decide (0 ≤ b) && decide (b ≤ 8 * s.length) && (keptL b 0 t == keptL b 0 s)) := by
  have key : ∀ n : Nat, s.length = n → (n = 4 ∨ n = 16) → (cond ((t.length : Int) == (s.length : Int)) (cond (decide (b ≥ 0)) (cond (decide (b ≤ (IntKind.i64.wrap (8 * (t.length : Int))))) ((F_addr_kept t b).bind fun s4 => (F_addr_kept s b).bind fun s5 => some (s4 == s5)) (some false)) (some false)) (some false))
      = some (decide (t.length = s.length) && decide (0 ≤ b) && decide (b ≤ 8 * s.length) && (keptL b 0 t == keptL b 0 s)) := fun n hn hc => by
    by_cases h1 : t.length = s.length
    · rw [beq_iff_eq.2 (show (t.length : Int) = (s.length : Int) by omega), cond_true, decide_eq_true h1]
      by_cases h2 : 0 ≤ b
      · rw [decide_eq_true (show b ≥ 0 from h2), cond_true, wrap_in (by omega) (by omega)]
        by_cases h3 : b ≤ 8 * (s.length : Int)
        · rw [decide_eq_true (show b ≤ 8 * (t.length : Int) by omega), cond_true, decide_eq_true h3, kept_eq t b (by omega) (by omega) ht, kept_eq s b (by omega) (by omega) hs]
          rfl
        · rw [decide_eq_false (show ¬ b ≤ 8 * (t.length : Int) by omega), cond_false, decide_eq_false h3]; rfl
      · rw [decide_eq_false (show ¬ b ≥ 0 from h2), cond_false]; rfl
    · rw [beq_eq_false_iff_ne.2 (show (t.length : Int) ≠ (s.length : Int) by omega), cond_false, decide_eq_false h1]; rfl
  unfold F_addr_In
  rcases hl with h4 | h4
  · rw [beq_iff_eq.2 (show (s.length : Int) = 4 by omega), cond_true]
    exact key 4 h4 (.inl rfl)
  · rw [beq_eq_false_iff_ne.2 (show (s.length : Int) ≠ 4 by omega), cond_false, beq_iff_eq.2 (show (s.length : Int) = 16 by omega), cond_true]
    exact key 16 h4 (.inr rfl)
end Go.Proofs.YtblngdnndkljoaaDoor

/- host.Name and the reference's Name alike. -/
namespace Go.Proofs.YtblngdnndkljoaaDoor
open Pv
set_option linter.unusedVariables false
def lw (c : Int) : Int := if 65 ≤ c ∧ c ≤ 90 then c + 32 else c
def okc (c : Int) : Bool := (decide (97 ≤ c) && decide (c ≤ 122)) || (decide (48 ≤ c) && decide (c ≤ 57)) || c == 45 || c == 95
def labB (w : List Int) : Bool := decide (1 ≤ w.length) && decide (w.length ≤ 63) && !(w.head? == some 45) && !(w.getLast? == some 45) && w.all okc
theorem okc_iff (c : Int) : okc c = true ↔ (97 ≤ c ∧ c ≤ 122) ∨ (48 ≤ c ∧ c ≤ 57) ∨ c = 45 ∨ c = 95 := by
  unfold okc
  simp only [Bool.or_eq_true, Bool.and_eq_true, decide_eq_true_eq, beq_iff_eq]
  omega
theorem sg_lw (c : Int) (h46 : c ≠ 46) : (sg c ≠ 0 → sg c = lw c ∧ okc (lw c) = true) ∧ (sg c = 0 → okc (lw c) = false) := by
  rw [sg_spec]
  unfold lw
  by_cases h1 : 65 ≤ c ∧ c ≤ 90
  · rw [if_pos h1, if_pos h1]
    exact ⟨fun _ => ⟨rfl, (okc_iff _).2 (by omega)⟩, fun h => by omega⟩
  · rw [if_neg h1, if_neg h1]
    by_cases h2 : (97 ≤ c ∧ c ≤ 122) ∨ (48 ≤ c ∧ c ≤ 57) ∨ c = 45 ∨ c = 95
    · rw [if_pos h2]
      exact ⟨fun _ => ⟨rfl, (okc_iff _).2 h2⟩, fun h => by omega⟩
    · rw [if_neg h2]
      refine ⟨fun h => absurd rfl h, fun _ => ?_⟩
      cases hk : okc c with
      | false => rfl
      | true => exact absurd ((okc_iff _).1 hk) h2
theorem lw_46 {c : Int} (h : c ≠ 46) : lw c ≠ 46 := by unfold lw; split <;> omega
theorem split_c (x : Int) (r : List Int) (h : x ≠ 46) : ∃ p ps, splitI r 46 = p :: ps ∧ splitI (x :: r) 46 = (x :: p) :: ps := by
  have hne := splitI_ne r 46
  cases hq : splitI r 46 with
  | nil => exact absurd hq hne
  | cons p ps =>
    refine ⟨p, ps, rfl, ?_⟩
    have : splitI (x :: r) 46 = cond (x == 46) ([] :: splitI r 46) (match splitI r 46 with | [] => [[x]] | w :: q => (x :: w) :: q) := rfl
    rw [this, beq_eq_false_iff_ne.2 h, cond_false, hq]
/-- The part of a label that has been read. -/
structure Pre (w : List Int) (out : List Int) : Prop where
  len : w.length ≤ 63
  head : w.head? ≠ some 45
  ok : w.all okc = true
  last : w ≠ [] → out.getLast? = w.getLast?
theorem lab_ext {w p : List Int} {c : Int} (h : (w.all okc && okc c) = false) : labB (w ++ c :: p) = false := by
  have h2 : (w ++ c :: p).all okc = false := by rw [List.all_append, List.all_cons, ← Bool.and_assoc, h, Bool.false_and]
  unfold labB
  rw [h2, Bool.and_false]
theorem nameP_eq : ∀ (r out w : List Int), Pre w out → ∀ p ps, splitI (r.map lw) 46 = p :: ps → nameP out w.length r = cond (labB (w ++ p) && ps.all labB) (some (out ++ r.map lw)) none
  | [], out, w, hP, p, ps, hs => by
    have hs : ([[]] : List (List Int)) = p :: ps := hs
    injection hs with h1 h2
    subst h1; subst h2
    rw [nameP, List.append_nil]
    show cond (endsB out w.length) none (some out) = cond (labB w && true) (some (out ++ [])) none
    rw [Bool.and_true, List.append_nil]
    unfold endsB labB
    cases w with
    | nil => rfl
    | cons x w =>
      have hh := hP.head
      have hl := hP.last (by simp)
      rw [hl, hP.ok, decide_eq_true hP.len, beq_eq_false_iff_ne.2 hh, decide_eq_true (show 1 ≤ (x :: w).length by simp), beq_eq_false_iff_ne.2 (show (x :: w).length ≠ 0 by simp)]
      cases ((x :: w).getLast? == some 45) <;> rfl
  | c :: r, out, w, hP, p, ps, hs => by
    rw [nameP]
    by_cases h46 : c = 46
    · subst h46
      have e : splitI ((46 :: r).map lw) 46 = [] :: splitI (r.map lw) 46 := rfl
      rw [e] at hs
      injection hs with h1 h2
      subst h1; subst h2
      rw [show ((46 : Int) == 46) = true from rfl, cond_true, List.append_nil]
      have hne := splitI_ne (r.map lw) 46
      cases hq : splitI (r.map lw) 46 with
      | nil => exact absurd hq hne
      | cons p' ps' =>
        have ih := nameP_eq r (out ++ [46]) [] ⟨by simp, by simp, rfl, fun h => absurd rfl h⟩ p' ps' hq
        have ih : nameP (out ++ [46]) 0 r = cond (labB p' && ps'.all labB) (some ((out ++ [46]) ++ r.map lw)) none := ih
        rw [ih, List.all_cons]
        have hb : labB w = !(endsB out w.length) := by
          unfold endsB labB
          cases w with
          | nil => rfl
          | cons x w =>
            have hh := hP.head
            have hl := hP.last (by simp)
            rw [hl, hP.ok, decide_eq_true hP.len, beq_eq_false_iff_ne.2 hh, decide_eq_true (show 1 ≤ (x :: w).length by simp), beq_eq_false_iff_ne.2 (show (x :: w).length ≠ 0 by simp)]
            cases ((x :: w).getLast? == some 45) <;> rfl
        rw [hb]
        cases endsB out w.length with
        | true => rfl
        | false =>
          rw [cond_false, Bool.not_false, Bool.true_and, List.append_assoc]
          rfl
    · have hx := lw_46 h46
      obtain ⟨p', ps', hq, hs'⟩ := split_c (lw c) (r.map lw) hx
      have hs : splitI (lw c :: r.map lw) 46 = p :: ps := hs
      rw [hs'] at hs
      injection hs with h1 h2
      subst h1; subst h2
      obtain ⟨g1, g2⟩ := sg_lw c h46
      rw [beq_eq_false_iff_ne.2 h46, cond_false]
      by_cases hz : sg c = 0
      · rw [beq_iff_eq.2 hz, Bool.true_or, Bool.true_or, cond_true, lab_ext (by rw [g2 hz, Bool.and_false]), Bool.false_and, cond_false]
      · obtain ⟨e1, e2⟩ := g1 hz
        rw [beq_eq_false_iff_ne.2 hz, Bool.false_or]
        by_cases h63 : w.length = 63
        · rw [beq_iff_eq.2 h63, Bool.true_or, cond_true]
          have : labB (w ++ lw c :: p') = false := by
            unfold labB
            rw [decide_eq_false (show ¬ (w ++ lw c :: p').length ≤ 63 by rw [List.length_append, List.length_cons]; omega), Bool.and_false]; rfl
          rw [this]; rfl
        · rw [beq_eq_false_iff_ne.2 h63, Bool.false_or]
          by_cases hd : sg c = 45 ∧ w.length = 0
          · rw [beq_iff_eq.2 hd.1, beq_iff_eq.2 hd.2, Bool.and_self, cond_true]
            have hw : w = [] := List.eq_nil_of_length_eq_zero hd.2
            have : labB (w ++ lw c :: p') = false := by
              subst hw
              unfold labB
              rw [← e1, hd.1]
              simp
            rw [this]; rfl
          · have : (sg c == 45 && w.length == 0) = false := by
              rw [Bool.and_eq_false_iff, beq_eq_false_iff_ne, beq_eq_false_iff_ne]
              by_cases h : sg c = 45
              · exact .inr fun h2 => hd ⟨h, h2⟩
              · exact .inl h
            rw [this, cond_false, e1]
            have hP' : Pre (w ++ [lw c]) (out ++ [lw c]) := by
              refine ⟨by have := hP.len; rw [List.length_append]; simp; omega, ?_, by rw [List.all_append, hP.ok]; simpa using e2, fun _ => by simp⟩
              cases w with
              | nil =>
                intro h
                have : lw c = 45 := by simpa using h
                exact hd ⟨by rw [e1, this], rfl⟩
              | cons x w => exact hP.head
            have ih := nameP_eq r (out ++ [lw c]) (w ++ [lw c]) hP' p' ps' hq
            rw [List.length_append] at ih
            rw [show w.length + 1 = w.length + [lw c].length from rfl, ih, List.append_assoc, List.append_assoc]
            rfl
noncomputable def nameQ (s : List Int) : List Int × Int := cond (decide (1 ≤ s.length) && decide (s.length ≤ 253) && (splitI (s.map lw) 46).all labB) (s.map lw, 0) ([], 2)
theorem nameR_eq (s : List Int) : nameR s = nameQ s := by
  unfold nameR nameQ
  have hne := splitI_ne (s.map lw) 46
  cases hq : splitI (s.map lw) 46 with
  | nil => exact absurd hq hne
  | cons p ps =>
    have h := nameP_eq s [] [] ⟨by simp, by simp, rfl, fun h => absurd rfl h⟩ p ps hq
    have h : nameP [] 0 s = cond (labB p && ps.all labB) (some (s.map lw)) none := h
    rw [h, List.all_cons]
    by_cases h253 : 253 < s.length
    · rw [decide_eq_true h253, decide_eq_false (show ¬ s.length ≤ 253 by omega), Bool.and_false]; rfl
    · rw [decide_eq_false h253, cond_false, decide_eq_true (show s.length ≤ 253 by omega)]
      by_cases h1 : 1 ≤ s.length
      · rw [decide_eq_true h1, Bool.true_and, Bool.true_and]
        cases (labB p && ps.all labB) <;> rfl
      · have : s = [] := List.eq_nil_of_length_eq_zero (by omega)
        subst this
        have hq : ([[]] : List (List Int)) = p :: ps := hq
        injection hq with q1 q2
        subst q1; subst q2
        rfl
/-! ### the reference -/
theorem lower_loop (s : List Int) (hs : s.length ≤ 1000000) : ∀ (r pre : List Int), s.length = pre.length + r.length → loopC (F_wlvref_Lower_L4 s) ((pre.length : Int), pre ++ r) = some (.inr (pre ++ r.map lw))
  | [], pre, hl => by
    refine loop_inl ?_
    unfold F_wlvref_Lower_L4
    dsimp only
    rw [decide_eq_false (by rw [hl]; simp), cond_false]
    rfl
  | x :: r, pre, hl => by
    have hl' : s.length = pre.length + (r.length + 1) := hl
    have ih := lower_loop s hs r (pre ++ [lw x]) (by rw [List.length_append]; simp; omega)
    have e : ((pre ++ [lw x]).length : Int) = (pre.length : Int) + 1 := by rw [List.length_append]; simp
    refine loop_inr (s' := (((pre ++ [lw x]).length : Int), (pre ++ [lw x]) ++ r)) ?_ (ih.trans ?_)
    · unfold F_wlvref_Lower_L4 chk
      dsimp only
      have h1 : (decide ((0 : Int) ≤ (pre.length : Int)) && decide ((pre.length : Int) < (s.length : Int))) = true := by simp; omega
      have h2 : decide ((pre.length : Int) < (s.length : Int)) = true := decide_eq_true (by omega)
      have hg : getI (pre ++ x :: r) (pre.length : Int) = some x := getI_nat (by simp)
      have h3 : decide ((pre.length : Int) < ((pre ++ x :: r).length : Int)) = true := decide_eq_true (by rw [List.length_append, List.length_cons]; omega)
      rw [h1, h2, cond_true, hg, h3]
      simp only [cond_true, Option.bind_some]
      rw [Int.toNat_natCast, set_mid, wrap_in (by omega) (by omega), e, List.append_assoc]
      unfold lw
      by_cases hx : 65 ≤ x ∧ x ≤ 90
      · rw [decide_eq_true (show x ≥ 65 from hx.1), decide_eq_true hx.2, cond_true, cond_true, if_pos hx, u8_sm (by omega) (by omega)]; rfl
      · rw [if_neg hx]
        by_cases h65 : x ≥ 65
        · rw [decide_eq_true h65, decide_eq_false (show ¬ x ≤ 90 by omega)]; rfl
        · rw [decide_eq_false h65]; rfl
    · rw [List.append_assoc]; rfl
theorem Lower_eq (s : List Int) (hs : s.length ≤ 1000000) : F_wlvref_Lower s = some (s.map lw) := by
  have h : loopC (F_wlvref_Lower_L4 s) (0, s) = some (.inr (s.map lw)) := lower_loop s hs s [] (by simp)
  unfold F_wlvref_Lower
  rw [join_inr (s := s.map lw) h]
  unfold F_wlvref_Lower_J2 chk
  dsimp only
  rw [Nat.ble_eq_true_of_le (by simp), cond_true, List.take_of_length_le (by simp)]
theorem lab_loop (w : List Int) (l : List (List Int)) (hw : w.length ≤ 1000) : loopC (F_wlvref15_Name_L17 w) (l, 0) = some (cond (w.all okc) (.inr l) (.inl (.inl (.inl ([], 2))))) := by
  obtain ⟨r, h1, rfl⟩ := loop_inv (body := F_wlvref15_Name_L17 w) (I := fun st => ∃ i : Nat, st = (l, (i : Int)) ∧ i ≤ w.length ∧ (w.take i).all okc = true) (m := fun st => w.length - st.2.toNat)
    (Q := fun r => r = cond (w.all okc) (.inr l) (.inl (.inl (.inl ([], 2))))) (fun st ⟨i, e, hi, ha⟩ => by
      subst e
      unfold F_wlvref15_Name_L17
      dsimp only
      by_cases hlt : i < w.length
      · have hg := getI_nat (List.getElem?_eq_getElem hlt)
        rw [decide_eq_true (show (i : Int) < (w.length : Int) by omega), cond_true, hg, Option.bind_some, wrap_in (x := (i : Int) + 1) (by omega) (by omega)]
        have next : okc w[i] = true → ∃ s' : List (List Int) × Int, some (Sum.inr (l, (i : Int) + 1)) = (some (.inr s') : Option ((((((List Int × Int) ⊕ Unit) ⊕ (List (List Int) × Int)) ⊕ List (List Int))) ⊕ (List (List Int) × Int))) ∧ (∃ i : Nat, s' = (l, (i : Int)) ∧ i ≤ w.length ∧ (w.take i).all okc = true) ∧ w.length - s'.2.toNat < w.length - (i : Int).toNat := fun hk => by
          refine ⟨_, rfl, ⟨i + 1, rfl, by omega, ?_⟩, ?_⟩
          · rw [List.take_add_one, List.getElem?_eq_getElem hlt, List.all_append, ha]
            simpa using hk
          · show w.length - ((i : Int) + 1).toNat < _
            omega
        by_cases h1 : 97 ≤ w[i] ∧ w[i] ≤ 122
        · rw [show (decide (w[i] < 97) || decide (w[i] > 122)) = false by simp; omega, cond_false]
          exact .inr (next ((okc_iff _).2 (by omega)))
        · rw [show (decide (w[i] < 97) || decide (w[i] > 122)) = true by rw [Bool.or_eq_true, decide_eq_true_iff, decide_eq_true_iff]; omega, cond_true]
          by_cases h2 : (48 ≤ w[i] ∧ w[i] ≤ 57) ∨ w[i] = 45 ∨ w[i] = 95
          · have : (((decide (w[i] < 48) || decide (w[i] > 57)) && (w[i] != 45)) && (w[i] != 95)) = false := by
              rw [Bool.and_eq_false_iff, Bool.and_eq_false_iff, Bool.or_eq_false_iff, decide_eq_false_iff_not, decide_eq_false_iff_not, bne_eq_false_iff_eq, bne_eq_false_iff_eq]
              omega
            rw [this, cond_false]
            exact .inr (next ((okc_iff _).2 (by omega)))
          · have : (((decide (w[i] < 48) || decide (w[i] > 57)) && (w[i] != 45)) && (w[i] != 95)) = true := by
              simp only [Bool.and_eq_true, Bool.or_eq_true, decide_eq_true_eq, bne_iff_ne]
              omega
            rw [this, cond_true]
            refine .inl ⟨_, rfl, ?_⟩
            have hk : okc w[i] = false := by
              cases hk : okc w[i] with
              | false => rfl
              | true => exact absurd ((okc_iff _).1 hk) (by omega)
            have : w.all okc = false := by
              rw [List.all_eq_false]
              exact ⟨w[i], List.getElem_mem _, by rw [hk]; simp⟩
            rw [this]; rfl
      · rw [decide_eq_false (show ¬ (i : Int) < (w.length : Int) by omega), cond_false]
        refine .inl ⟨_, rfl, ?_⟩
        rw [List.take_of_length_le (by omega)] at ha
        rw [ha]; rfl) (l, 0) ⟨0, rfl, by omega, rfl⟩
  exact h1
theorem labs_loop (l : List (List Int)) (hl : l.length ≤ 1000000) : loopC F_wlvref15_Name_L8 (l, 0) = some (cond (l.all labB) (.inr ()) (.inl ([], 2))) := by
  obtain ⟨r, h1, rfl⟩ := loop_inv (body := F_wlvref15_Name_L8) (I := fun st => ∃ i : Nat, st = (l, (i : Int)) ∧ i ≤ l.length ∧ (l.take i).all labB = true) (m := fun st => l.length - st.2.toNat)
    (Q := fun r => r = cond (l.all labB) (.inr ()) (.inl ([], 2))) (fun st ⟨i, e, hi, ha⟩ => by
      subst e
      unfold F_wlvref15_Name_L8
      dsimp only
      by_cases hlt : i < l.length
      · have hg := getI_nat (List.getElem?_eq_getElem hlt)
        rw [decide_eq_true (show (i : Int) < (l.length : Int) by omega), cond_true, hg, Option.bind_some]
        obtain ⟨w, hw⟩ : ∃ w, l[i] = w := ⟨_, rfl⟩
        rw [hw]
        have bad : labB w = false → cond (l.all labB) (Sum.inr ()) (Sum.inl (([] : List Int), (2 : Int))) = (Sum.inl ([], 2) : (List Int × Int) ⊕ Unit) := fun hb => by
          have : l.all labB = false := by
            rw [List.all_eq_false]
            exact ⟨l[i], List.getElem_mem _, by rw [hw, hb]; simp⟩
          rw [this]; rfl
        by_cases hlen : 1 ≤ w.length ∧ w.length ≤ 63
        · rw [decide_eq_false (show ¬ (w.length : Int) < 1 by omega), decide_eq_false (show ¬ (w.length : Int) > 63 by omega), Bool.or_self, cond_false]
          cases w with
          | nil => simp at hlen
          | cons x w' =>
            have g0 : getI (x :: w') 0 = some x := getI_nat (i := 0) rfl
            have hgl : ∃ y, (x :: w').getLast? = some y ∧ getI (x :: w') (IntKind.i64.wrap (((x :: w').length : Int) - 1)) = some y := by
              rw [wrap_in (by omega) (by omega)]
              obtain ⟨y, q1, q2⟩ := getI_of (l := x :: w') (j := ((x :: w').length : Int) - 1) (by omega) (by omega)
              refine ⟨y, ?_, q1⟩
              rw [List.getLast?_eq_getElem?, ← q2]
              congr 1; omega
            obtain ⟨y, y1, y2⟩ := hgl
            rw [g0, Option.bind_some, y2]
            have hb : labB (x :: w') = (!(x == 45) && !(y == 45) && (x :: w').all okc) := by
              unfold labB
              rw [decide_eq_true hlen.1, decide_eq_true hlen.2, y1, show (x :: w').head? = some x from rfl]
              rfl
            cases hx : x == 45 with
            | true =>
              refine .inl ⟨_, rfl, (bad (by rw [hb, hx]; rfl)).symm⟩
            | false =>
              rw [cond_false, Option.bind_some]
              cases hy : y == 45 with
              | true => exact .inl ⟨_, rfl, (bad (by rw [hb, hy, Bool.not_true, Bool.and_false]; rfl)).symm⟩
              | false =>
                rw [cond_false, lab_loop (x :: w') l (by omega)]
                cases hk : (x :: w').all okc with
                | false => exact .inl ⟨_, rfl, (bad (by rw [hb, hk, Bool.and_false])).symm⟩
                | true =>
                  refine .inr ⟨_, rfl, ⟨i + 1, ?_, by omega, ?_⟩, ?_⟩
                  · rw [wrap_in (x := (i : Int) + 1) (by omega) (by omega)]; rfl
                  · rw [List.take_add_one, List.getElem?_eq_getElem hlt, List.all_append, ha, hw]
                    show (true && (labB (x :: w') && true)) = true
                    rw [hb, hx, hy, hk]; rfl
                  · show l.length - (IntKind.i64.wrap ((i : Int) + 1)).toNat < l.length - (i : Int).toNat
                    rw [wrap_in (x := (i : Int) + 1) (by omega) (by omega)]
                    omega
        · have : (decide ((w.length : Int) < 1) || decide ((w.length : Int) > 63)) = true := by
            rw [Bool.or_eq_true, decide_eq_true_iff, decide_eq_true_iff]; omega
          rw [this, cond_true]
          refine .inl ⟨_, rfl, (bad ?_).symm⟩
          unfold labB
          have : (decide (1 ≤ w.length) && decide (w.length ≤ 63)) = false := by
            rw [Bool.and_eq_false_iff, decide_eq_false_iff_not, decide_eq_false_iff_not]; omega
          rw [this]; rfl
      · rw [decide_eq_false (show ¬ (i : Int) < (l.length : Int) by omega), cond_false]
        refine .inl ⟨_, rfl, ?_⟩
        rw [List.take_of_length_le (by omega)] at ha
        rw [ha]; rfl) (l, 0) ⟨0, rfl, by omega, rfl⟩
  exact h1
theorem refName_eq (s : List Int) (hs : s.length ≤ 1000000) : F_wlvref15_Name s = some (nameQ s) := by
  unfold F_wlvref15_Name nameQ
  by_cases hlen : 1 ≤ s.length ∧ s.length ≤ 253
  · rw [decide_eq_false (show ¬ (s.length : Int) < 1 by omega), decide_eq_false (show ¬ (s.length : Int) > 253 by omega), Bool.or_self, cond_false, Lower_eq s hs, Option.bind_some, Split_eq _ 46 (by simp; omega), Option.bind_some]
    have hsl := split_len (s.map lw) 46 (by simp; omega)
    rw [List.length_map] at hsl
    have hl := labs_loop (splitI (s.map lw) 46) (by omega)
    rw [decide_eq_true hlen.1, decide_eq_true hlen.2, Bool.true_and, Bool.true_and, hl]
    cases (splitI (s.map lw) 46).all labB <;> rfl
  · have : (decide ((s.length : Int) < 1) || decide ((s.length : Int) > 253)) = true := by
      rw [Bool.or_eq_true, decide_eq_true_iff, decide_eq_true_iff]; omega
    rw [this, cond_true]
    have h2 : (decide (1 ≤ s.length) && decide (s.length ≤ 253)) = false := by
      rw [Bool.and_eq_false_iff, decide_eq_false_iff_not, decide_eq_false_iff_not]; omega
    rw [h2]; rfl
end Go.Proofs.YtblngdnndkljoaaDoor

/- HostReads: the plain part. -/
namespace Go.Proofs.YtblngdnndkljoaaDoor
open Pv
set_option linter.unusedVariables false
theorem suffix_lit (s : List Int) (c : Int) (hs : s.length ≤ 1000000) : F_strings_HasSuffix s [c] = some (s.getLast? == some c) := by
  unfold F_strings_HasSuffix F_internal_stringslite_HasSuffix
  have e1 : (([c] : List Int).length : Int) = 1 := rfl
  rw [e1]
  cases hq : s.getLast? with
  | none =>
    have : s = [] := List.getLast?_eq_none_iff.1 hq
    subst this; rfl
  | some y =>
    have hne : s ≠ [] := fun e => by rw [e] at hq; cases hq
    have hpos : 0 < s.length := List.length_pos_iff.2 hne
    rw [decide_eq_true (show (s.length : Int) ≥ 1 by omega), cond_true, wrap_in (by omega) (by omega)]
    have h := cutI_nat (s := s) (a := s.length - 1) (b := s.length) (by omega) (by omega)
    rw [List.take_length, show ((s.length - 1 : Nat) : Int) = (s.length : Int) - 1 by omega] at h
    have hd : s.drop (s.length - 1) = [y] := by
      have h2 : s[s.length - 1]? = some y := by rw [← hq, List.getLast?_eq_getElem?]
      rw [List.drop_eq_getElem_cons (by omega), List.drop_of_length_le (by omega)]
      rw [List.getElem?_eq_getElem (by omega)] at h2
      injection h2 with h2
      rw [h2]
    rw [h, hd, Option.bind_some]
    show (some ([y] == [c])).bind (fun b3 => some b3) = _
    have : (([y] : List Int) == [c]) = (some y == some c) := by
      rw [Bool.eq_iff_iff, beq_iff_eq, beq_iff_eq]
      constructor
      · intro e; injection e with e; rw [e]
      · intro e; injection e with e; rw [e]
    rw [this]; rfl
theorem brk_of {h : List Int} (h1 : h.head? = some 91) (h2 : h.getLast? = some 93) : ∃ m, h = 91 :: (m ++ [93]) := by
  cases h with
  | nil => cases h1
  | cons x r =>
    injection h1 with h1
    subst h1
    cases r with
    | nil => cases h2
    | cons y r =>
      rw [List.getLast?_cons_cons] at h2
      obtain ⟨m, hm⟩ : ∃ m, y :: r = m ++ [93] := by
        refine ⟨(y :: r).dropLast, ?_⟩
        have hne : y :: r ≠ [] := by simp
        have h3 : (y :: r).getLast hne = 93 := by
          rw [List.getLast?_eq_some_getLast hne] at h2
          injection h2
        have h4 := List.dropLast_concat_getLast hne
        rw [h3] at h4
        exact h4.symm
      exact ⟨m, by rw [hm]⟩
theorem split_cover (c0 : Int) : ∀ (s : List Int) (c : Int), c ∈ s → c = c0 ∨ ∃ w ∈ splitI s c0, c ∈ w
  | [], _, h => by cases h
  | x :: s, c, h => by
    have hne := splitI_ne s c0
    have hu : splitI (x :: s) c0 = cond (x == c0) ([] :: splitI s c0) (match splitI s c0 with | [] => [[x]] | w :: q => (x :: w) :: q) := rfl
    rcases List.mem_cons.1 h with rfl | h
    · by_cases hx : c = c0
      · exact .inl hx
      · rw [hu, beq_eq_false_iff_ne.2 hx, cond_false]
        cases hq : splitI s c0 with
        | nil => exact absurd hq hne
        | cons w q => exact .inr ⟨c :: w, by simp, by simp⟩
    · rcases split_cover c0 s c h with h1 | ⟨w, h1, h2⟩
      · exact .inl h1
      · rw [hu]
        cases x == c0 with
        | true => exact .inr ⟨w, List.mem_cons_of_mem _ h1, h2⟩
        | false =>
          rw [cond_false]
          cases hq : splitI s c0 with
          | nil => exact absurd hq hne
          | cons w' q =>
            rw [hq] at h1
            rcases List.mem_cons.1 h1 with rfl | h1
            · exact .inr ⟨x :: w, by simp, by simp [h2]⟩
            · exact .inr ⟨w, List.mem_cons_of_mem _ h1, h2⟩
theorem four_chars {s : List Int} (h : (fourR s).2 = true) : ∀ c ∈ s, c = 46 ∨ isDig c = true := fun c hc => by
  unfold fourR at h
  cases hb : (decide ((splitI s 46).length = 4) && (splitI s 46).all byteB) with
  | false => rw [hb] at h; cases h
  | true =>
    rw [Bool.and_eq_true] at hb
    rcases split_cover 46 s c hc with h1 | ⟨w, h1, h2⟩
    · exact .inl h1
    · right
      have hw := List.all_eq_true.1 hb.2 w h1
      unfold byteB canonB at hw
      simp only [Bool.and_eq_true] at hw
      exact List.all_eq_true.1 hw.1.1 c h2
theorem four_no {s : List Int} (h : (fourR s).2 = true) {x : Int} (hx : x = 58 ∨ x = 91) : x ∉ s := fun hc => by
  rcases four_chars h x hc with h1 | h1
  · omega
  · have := dig_of h1; omega
theorem dc_none : ∀ (s : List Int), (∀ c ∈ s, c ≠ 58) → dcI s = none := fun s h => by
  have := dc_p s [] h
  rw [List.append_nil] at this
  rw [this]; rfl
theorem grp_58 {s x : List Int} (h : grpR [] s = some x) : (58 : Int) ∈ s := by
  by_cases hm : (58 : Int) ∈ s
  · exact hm
  · have hn : ∀ c ∈ s, c ≠ 58 := fun c hc e => hm (by rw [← e]; exact hc)
    unfold grpR at h
    rw [dc_none s hn, split_p s hn] at h
    have : ([s].all hexB && (([] : List Int).length + 2 * [s].length == 16)) = false := by
      rw [show (([] : List Int).length + 2 * [s].length == 16) = false from rfl, Bool.and_false]
    rw [this] at h
    cases h
theorem name_91 (r : List Int) : nameR (91 :: r) = ([], 2) := by
  have h91 : sg 91 = 0 := by rw [sg_spec]; rfl
  unfold nameR
  cases decide (253 < (91 :: r).length) with
  | true => rfl
  | false =>
    rw [cond_false, nameP, h91]; rfl
noncomputable def placeR (h : List Int) : List Int × List Int × Bool := cond (h.head? == some 91 && h.getLast? == some 93 && h.contains 58) ([], (parseR (h.take (h.length - 1)).tail).1, (parseR (h.take (h.length - 1)).tail).2 == 0)
  (cond (fourR h).2 ([], (fourR h).1, true) ((nameR h).1, [], (nameR h).2 == 0))
theorem has_con (s : List Int) : F_strings_Contains s [58] = some (s.contains 58) := rfl
theorem mid_of (m : List Int) : ((91 :: (m ++ [93]) : List Int).take ((91 :: (m ++ [93]) : List Int).length - 1)).tail = m := by
  rw [List.length_cons, List.length_append, show m.length + [(93 : Int)].length + 1 - 1 = m.length + 1 by simp, List.take_succ_cons, List.tail_cons, List.take_left]
theorem cut_mid (m : List Int) (hm : m.length ≤ 1000000) : cutI (91 :: (m ++ [93]) : List Int) 1 (IntKind.i64.wrap (((91 :: (m ++ [93]) : List Int).length : Int) - 1)) = some m := by
  have hl : ((91 :: (m ++ [93]) : List Int).length : Int) = (m.length : Int) + 2 := by simp; omega
  rw [hl, wrap_in (by omega) (by omega)]
  have h := cutI_nat (s := 91 :: (m ++ [93])) (a := 1) (b := m.length + 1) (by omega) (by simp)
  rw [show ((m.length + 1 : Nat) : Int) = (m.length : Int) + 2 - 1 by omega] at h
  have h : cutI (91 :: (m ++ [93]) : List Int) 1 ((m.length : Int) + 2 - 1) = _ := h
  rw [h, List.take_succ_cons, List.take_left]; rfl
theorem place_eq (h : List Int) (hs : h.length ≤ 100000) : F_host_place h = some (placeR h) := by
  have rest : (F_addr_Parse h).bind (fun x15 => cond ((x15.2 == 0) && ((x15.1.length : Int) == 4)) ((F_strings_Contains h ([58] : List Int)).bind fun b16 => cond (!b16) (some (([] : List Int), x15.1, true)) ((F_host_Name h).bind fun x17 => some (x17.1, ([] : List Int), (x17.2 == 0)))) ((F_host_Name h).bind fun x18 => some (x18.1, ([] : List Int), (x18.2 == 0))))
      = some (cond (fourR h).2 ([], (fourR h).1, true) ((nameR h).1, [], (nameR h).2 == 0)) := by
    rw [Parse_eq h (by omega), Option.bind_some, has_con, name_eq]
    unfold parseR
    cases h4 : (fourR h).2 with
    | true =>
      have hl := (four_len h4).2
      have hc : h.contains 58 = false := by
        rw [List.contains_eq_mem]
        exact decide_eq_false (four_no h4 (.inl rfl))
      rw [cond_true, cond_true, hc, show (((fourR h).1.length : Int) == 4) = true from beq_iff_eq.2 (by omega)]
      rfl
    | false =>
      rw [cond_false, cond_false]
      cases hg : grpR [] h with
      | none => rfl
      | some x =>
        have hc : h.contains 58 = true := by
          rw [List.contains_eq_mem]
          exact decide_eq_true (grp_58 hg)
        show cond ((0 : Int) == 0 && ((plainR x).length : Int) == 4) ((some (h.contains 58)).bind _) _ = _
        rw [hc]
        cases ((0 : Int) == 0 && ((plainR x).length : Int) == 4) <;> rfl
  have hpre : F_strings_HasPrefix h [91] = some (h.head? == some 91) := by
    rw [prefix_lit h _ (by omega)]
    match h with
    | [] => rfl
    | x :: r =>
      have e : (x :: r).take ([91] : List Int).length = [x] := rfl
      rw [e, decide_eq_true (show ([91] : List Int).length ≤ (x :: r).length by simp), Bool.true_and]
      congr 1
      rw [Bool.eq_iff_iff, beq_iff_eq, beq_iff_eq]
      constructor
      · intro e; injection e with e; rw [e]; rfl
      · intro e; injection e with e; rw [e]
  unfold F_host_place placeR
  rw [hpre, Option.bind_some, suffix_lit h 93 (by omega)]
  cases h1 : h.head? == some 91 with
  | false => exact rest
  | true =>
    rw [cond_true, Option.bind_some, Bool.true_and]
    cases h2 : h.getLast? == some 93 with
    | false => exact rest
    | true =>
      rw [cond_true, Bool.true_and, has_con, Option.bind_some]
      cases h3 : h.contains 58 with
      | false =>
        rw [has_con, h3] at rest
        exact rest
      | true =>
        obtain ⟨m, rfl⟩ := brk_of (beq_iff_eq.1 h1) (beq_iff_eq.1 h2)
        have hm : m.length ≤ 100000 := by simp at hs; omega
        rw [cond_true, cond_true, cut_mid m (by omega), Option.bind_some, mid_of, Parse_eq m (by omega)]; rfl
/-! ### the reference's authority -/
theorem at_loop (s : List Int) (hs : s.length ≤ 1000000) : loopC (F_wlvref15_Authority_L4 s) ((-1), 0, ([] : List Int), ([] : List Int)) = some (.inr (lastI s 58, [], [])) := by
  obtain ⟨r, h1, rfl⟩ := loop_inv (body := F_wlvref15_Authority_L4 s) (I := fun st => ∃ i : Nat, st = (lastI (s.take i) 58, (i : Int), [], []) ∧ i ≤ s.length) (m := fun st => s.length - st.2.1.toNat)
    (Q := fun r => r = .inr (lastI s 58, [], [])) (fun st ⟨i, e, hi⟩ => by
      subst e
      unfold F_wlvref15_Authority_L4
      dsimp only
      by_cases hlt : i < s.length
      · have hg := getI_nat (List.getElem?_eq_getElem hlt)
        have htk : s.take (i + 1) = s.take i ++ [s[i]] := by rw [List.take_add_one, List.getElem?_eq_getElem hlt]; rfl
        rw [decide_eq_true (show (i : Int) < (s.length : Int) by omega), cond_true, hg, Option.bind_some, wrap_in (x := (i : Int) + 1) (by omega) (by omega)]
        have hm : s.length - ((i : Int) + 1).toNat < s.length - (i : Int).toNat := by omega
        have hl := lastI_app (s.take i) s[i] 58
        rw [← htk, List.length_take, Nat.min_eq_left (by omega)] at hl
        cases hc : s[i] == 58 with
        | true =>
          rw [hc, cond_true] at hl
          exact .inr ⟨_, rfl, ⟨i + 1, by rw [hl]; rfl, by omega⟩, hm⟩
        | false =>
          rw [hc, cond_false] at hl
          exact .inr ⟨_, rfl, ⟨i + 1, by rw [hl]; rfl, by omega⟩, hm⟩
      · rw [decide_eq_false (show ¬ (i : Int) < (s.length : Int) by omega), cond_false, List.take_of_length_le (by omega)]
        exact .inl ⟨_, rfl, rfl⟩) ((-1), 0, [], []) ⟨0, rfl, by omega⟩
  exact h1
theorem colon_loop (m : List Int) (hs : m.length ≤ 1000000) : loopC (F_wlvref15_Authority_L23 m) (false, 0, ([] : List Int), ([] : List Int)) = some (.inr (m.contains 58, [], [])) := by
  obtain ⟨r, h1, rfl⟩ := loop_inv (body := F_wlvref15_Authority_L23 m) (I := fun st => ∃ i : Nat, st = ((m.take i).contains 58, (i : Int), [], []) ∧ i ≤ m.length) (m := fun st => m.length - st.2.1.toNat)
    (Q := fun r => r = .inr (m.contains 58, [], [])) (fun st ⟨i, e, hi⟩ => by
      subst e
      unfold F_wlvref15_Authority_L23
      dsimp only
      by_cases hlt : i < m.length
      · have hg := getI_nat (List.getElem?_eq_getElem hlt)
        have htk : (m.take (i + 1)).contains 58 = ((m.take i).contains 58 || m[i] == 58) := by
          rw [List.take_add_one, List.getElem?_eq_getElem hlt]
          show ((m.take i ++ [m[i]]).contains 58) = _
          rw [Bool.eq_iff_iff]
          simp only [List.contains_eq_mem, List.mem_append, List.mem_singleton, decide_eq_true_eq, Bool.or_eq_true, beq_iff_eq]
          exact ⟨fun h => h.elim .inl fun h => .inr h.symm, fun h => h.elim .inl fun h => .inr h.symm⟩
        rw [decide_eq_true (show (i : Int) < (m.length : Int) by omega), cond_true, hg, Option.bind_some, wrap_in (x := (i : Int) + 1) (by omega) (by omega)]
        have hm : m.length - ((i : Int) + 1).toNat < m.length - (i : Int).toNat := by omega
        cases hb : (m.take i).contains 58 with
        | true =>
          rw [hb, Bool.true_or] at htk
          exact .inr ⟨_, rfl, ⟨i + 1, by rw [htk]; rfl, by omega⟩, hm⟩
        | false =>
          rw [hb, Bool.false_or] at htk
          exact .inr ⟨_, rfl, ⟨i + 1, by rw [htk]; rfl, by omega⟩, hm⟩
      · rw [decide_eq_false (show ¬ (i : Int) < (m.length : Int) by omega), cond_false, List.take_of_length_le (by omega)]
        exact .inl ⟨_, rfl, rfl⟩) (false, 0, [], []) ⟨0, rfl, by omega⟩
  exact h1
theorem last_cut : ∀ (s : List Int), (∀ c ∈ s, c ≠ 58) ∨ ∃ h t, s = (h ++ [58]) ++ t ∧ ∀ c ∈ t, c ≠ 58
  | [] => .inl fun _ h => (by cases h)
  | x :: s => by
    rcases last_cut s with h | ⟨h, t, e, ht⟩
    · by_cases hx : x = 58
      · exact .inr ⟨[], s, by rw [hx]; rfl, h⟩
      · refine .inl fun c hc => ?_
        rcases List.mem_cons.1 hc with rfl | hc
        · exact hx
        · exact h c hc
    · exact .inr ⟨x :: h, t, by rw [e]; rfl, ht⟩
theorem canon_17 {t : List Int} (h : canonB t = true) (hv : valI t ≤ 65535) : t.length ≤ 17 := by
  obtain ⟨n, rfl, hn⟩ := canon_eq t.length t rfl h
  have := dgs_len 4 n (by rw [hn] at hv; omega)
  omega
theorem refAuth_eq (s : List Int) (hs : s.length ≤ 1000) : ∃ x, F_host_Authority s = some x ∧ F_wlvref15_Authority s = some x := by
  unfold F_wlvref15_Authority
  rw [join_inr (at_loop s (by omega))]
  unfold F_wlvref15_Authority_J2
  dsimp only
  rcases last_cut s with h58 | ⟨h, t, rfl, t58⟩
  · rw [Auth_none s (by omega) h58, lastI_none h58]
    exact ⟨_, rfl, rfl⟩
  · have hlen : ((h ++ [58]) ++ t).length = h.length + 1 + t.length := by rw [List.length_append, List.length_append]; rfl
    rw [Auth_at h t (placeR h) (by omega) (by omega) t58 (place_eq h (by omega))]
    have e0 : (h ++ [58]) ++ t = h ++ 58 :: t := by rw [List.append_assoc]; rfl
    have hh : h.length + 1 + t.length ≤ 1000 := by omega
    rw [e0] at hlen ⊢
    refine ⟨_, rfl, ?_⟩
    have c1 : cutI (h ++ 58 :: t) ((h.length : Int) + 1) ((h ++ 58 :: t).length : Int) = some t := by
      have := cutI_nat (s := h ++ 58 :: t) (a := h.length + 1) (b := (h ++ 58 :: t).length) (by omega) (by omega)
      rw [show ((h.length + 1 : Nat) : Int) = (h.length : Int) + 1 by omega] at this
      rw [this, List.take_length, List.drop_append, List.drop_of_length_le (by omega), show h.length + 1 - h.length = 1 by omega]
      rfl
    have c2 : cutI (h ++ 58 :: t) 0 (h.length : Int) = some h := by
      have := cutI_nat (s := h ++ 58 :: t) (a := 0) (b := h.length) (by omega) (by omega)
      rw [show ((0 : Nat) : Int) = 0 from rfl] at this
      rw [this, List.take_left]
      rfl
    rw [lastI_at h t58, decide_eq_false (show ¬ (h.length : Int) < 0 by omega), cond_false, wrap_in (x := (h.length : Int) + 1) (by omega) (by omega), c1, Option.bind_some]
    obtain ⟨x, n1, n2⟩ := Num_eq t 1 65535
    rw [n1, Option.bind_some]
    dsimp only
    by_cases hok : canonB t = true ∧ 1 ≤ valI t ∧ valI t ≤ 65535
    · have h17 := canon_17 hok.1 hok.2.2
      have hx := n2 hok.1 h17
      subst hx
      rw [hok.1, decide_eq_true h17, decide_eq_true hok.2.1, decide_eq_true hok.2.2]
      simp only [Bool.and_true, Bool.not_true, cond_false]
      rw [c2, Option.bind_some]
      by_cases hb : (h.head? == some 91 && h.getLast? == some 93) = true
      · rw [Bool.and_eq_true, beq_iff_eq, beq_iff_eq] at hb
        obtain ⟨m, rfl⟩ := brk_of hb.1 hb.2
        have hm : m.length ≤ 1000 := by simp at hh; omega
        have hl2 : ((91 :: (m ++ [93]) : List Int).length : Int) = (m.length : Int) + 2 := by simp; omega
        have g0 : getI (91 :: (m ++ [93]) : List Int) 0 = some 91 := rfl
        have g1 : getI (91 :: (m ++ [93]) : List Int) (IntKind.i64.wrap (((91 :: (m ++ [93]) : List Int).length : Int) - 1)) = some 93 := by
          rw [hl2, wrap_in (by omega) (by omega)]
          have := getI_nat (s := (91 :: (m ++ [93]) : List Int)) (i := m.length + 1) (x := 93) (by simp)
          rw [show (m.length : Int) + 2 - 1 = ((m.length + 1 : Nat) : Int) by omega]
          exact this
        have hcon : (91 :: (m ++ [93]) : List Int).contains 58 = m.contains 58 := by
          rw [Bool.eq_iff_iff]
          simp [List.contains_eq_mem]
        rw [decide_eq_true (show ((91 :: (m ++ [93]) : List Int).length : Int) ≥ 2 by omega), cond_true, g0, Option.bind_some, show ((91 : Int) == 91) = true from rfl, cond_true, g1, Option.bind_some, show ((93 : Int) == 93) = true from rfl, cond_true, cut_mid m (by omega), Option.bind_some, join_inr (colon_loop m (by omega))]
        unfold F_wlvref15_Authority_J21 placeR
        dsimp only
        rw [refParse_eq m (by omega), Option.bind_some, mid_of, hcon, show ((91 :: (m ++ [93]) : List Int).head? == some 91) = true from rfl, show ((91 :: (m ++ [93]) : List Int).getLast? == some 93) = true by rw [beq_iff_eq]; exact hb.2, Bool.true_and, Bool.true_and]
        cases hc : m.contains 58 with
        | true =>
          rw [cond_true, Bool.not_true, Bool.or_false]
          by_cases hp : (parseR m).2 = 0
          · rw [show ((parseR m).2 != 0) = false by rw [hp]; rfl, show ((parseR m).2 == 0) = true by rw [hp]; rfl]; rfl
          · rw [show ((parseR m).2 != 0) = true from bne_iff_ne.2 hp, show ((parseR m).2 == 0) = false from beq_eq_false_iff_ne.2 hp]; rfl
        | false =>
          rw [cond_false, Bool.not_false, Bool.or_true]
          have hf : (fourR (91 :: (m ++ [93]))).2 = false := by
            cases h4 : (fourR (91 :: (m ++ [93]))).2 with
            | false => rfl
            | true => exact absurd List.mem_cons_self (four_no h4 (.inr rfl))
          rw [hf, name_91]; rfl
      · have hchain : (cond (decide ((h.length : Int) ≥ 2)) ((getI h 0).bind fun i13 => cond (i13 == 91) ((getI h (IntKind.i64.wrap ((h.length : Int) - 1))).bind fun i14 => cond (i14 == 93)
            ((cutI h 1 (IntKind.i64.wrap ((h.length : Int) - 1))).bind fun s15 => joinC (S := Bool × List Int × List Int) (R := (List Int × List Int × Int × Int) ⊕ (List Int × List Int × List Int)) (loopC (S := Bool × Int × List Int × List Int) (R := ((List Int × List Int × Int × Int) ⊕ (List Int × List Int × List Int)) ⊕ (Bool × List Int × List Int)) (F_wlvref15_Authority_L23 s15) (false, 0, [], [])) (F_wlvref15_Authority_J21 (valI t, true) s15))
            (some (.inr (h, [], [])))) (some (.inr (h, [], [])))) (some (.inr (h, [], [])))) = some (Sum.inr (h, [], [])) := by
          by_cases h2 : h.length ≥ 2
          · rw [decide_eq_true (show (h.length : Int) ≥ 2 by omega), cond_true]
            obtain ⟨y0, p1, p2⟩ := getI_of (l := h) (j := 0) (by omega) (by omega)
            obtain ⟨y1, q1, q2⟩ := getI_of (l := h) (j := (h.length : Int) - 1) (by omega) (by omega)
            rw [p1, Option.bind_some, wrap_in (by omega) (by omega), q1, Option.bind_some]
            cases e1 : y0 == 91 with
            | false => rfl
            | true =>
              rw [cond_true]
              cases e2 : y1 == 93 with
              | false => rfl
              | true =>
                exfalso
                apply hb
                rw [Bool.and_eq_true, beq_iff_eq, beq_iff_eq]
                refine ⟨?_, ?_⟩
                · rw [List.head?_eq_getElem?]
                  have p2 : h[0]? = some y0 := p2
                  rw [p2, beq_iff_eq.1 e1]
                · rw [List.getLast?_eq_getElem?]
                  have : ((h.length : Int) - 1).toNat = h.length - 1 := by omega
                  rw [this] at q2
                  rw [q2, beq_iff_eq.1 e2]
          · rw [decide_eq_false (show ¬ (h.length : Int) ≥ 2 by omega)]; rfl
        rw [join_inr hchain]
        unfold F_wlvref15_Authority_J17 placeR
        dsimp only
        rw [Bool.eq_false_iff.2 hb, Bool.false_and, cond_false, four_eq h (by omega), Option.bind_some, refName_eq h (by omega), ← nameR_eq]
        cases (fourR h).2 with
        | true => rfl
        | false =>
          rw [cond_false, cond_false, Option.bind_some]
          by_cases hp : (nameR h).2 = 0
          · rw [show ((nameR h).2 != 0) = false by rw [hp]; rfl, show ((nameR h).2 == 0) = true by rw [hp]; rfl]; rfl
          · rw [show ((nameR h).2 != 0) = true from bne_iff_ne.2 hp, show ((nameR h).2 == 0) = false from beq_eq_false_iff_ne.2 hp]; rfl
    · have h1 : ((placeR h).2.2 && canonB t && decide (1 ≤ valI t) && decide (valI t ≤ 65535)) = false := by
        cases hb : ((placeR h).2.2 && canonB t && decide (1 ≤ valI t) && decide (valI t ≤ 65535)) with
        | false => rfl
        | true =>
          simp only [Bool.and_eq_true, decide_eq_true_eq] at hb
          exact absurd ⟨hb.1.1.2, hb.1.2, hb.2⟩ hok
      have h2 : (canonB t && decide (t.length ≤ 17) && (decide (1 ≤ valI t) && decide (valI t ≤ 65535))) = false := by
        cases hb : (canonB t && decide (t.length ≤ 17) && (decide (1 ≤ valI t) && decide (valI t ≤ 65535))) with
        | false => rfl
        | true =>
          simp only [Bool.and_eq_true, decide_eq_true_eq] at hb
          exact absurd ⟨hb.1.1, hb.2.1, hb.2.2⟩ hok
      rw [h1, h2]; rfl
theorem HostReads_true (s : List Int) : F_wlvlaw16_HostReads s = some true := by
  unfold F_wlvlaw16_HostReads
  rw [first16, Option.bind_some, Bool.not_true, cond_false]
  by_cases h : (s.length : Int) > 1000
  · rw [decide_eq_true h]; rfl
  · obtain ⟨x, h1, h2⟩ := refAuth_eq s (by omega)
    rw [decide_eq_false h, cond_false, h1, Option.bind_some, h2, Option.bind_some, name_eq, Option.bind_some, refName_eq s (by omega), Option.bind_some, ← nameR_eq, Option.bind_some, cond_true]
    unfold eqL
    simp
end Go.Proofs.YtblngdnndkljoaaDoor
