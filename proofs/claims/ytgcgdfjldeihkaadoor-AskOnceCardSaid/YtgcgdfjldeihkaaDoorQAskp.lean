/- What a name and a value of a request may be: the plain part. -/
import Derived.Test.YtgcgdfjldeihkaaDoorQAskc
import Derived.Test.YtgcgdfjldeihkaaDoorQb
namespace Go.Proofs.YtgcgdfjldeihkaaDoor
open Pv
set_option linter.unusedVariables false
abbrev BL (s : List Int) : Prop := ∀ x ∈ s, 0 ≤ x ∧ x < 256
theorem cutI_nat {s : List Int} {a b : Nat} (h1 : a ≤ b) (h2 : b ≤ s.length) : cutI s (a : Int) (b : Int) = some ((s.take b).drop a) := by
  unfold cutI
  rw [decide_eq_true (show (0 : Int) ≤ (a : Int) by omega), decide_eq_true (show (a : Int) ≤ (b : Int) by omega), decide_eq_true (show (b : Int) ≤ (s.length : Int) by omega)]
  rfl
def setWS : List Bool := ((List.replicate 256 false).set 32 true).set 9 true
theorem makeWS : F_strings_makeASCIISet [32, 9] = some (setWS, true) := by
  unfold F_strings_makeASCIISet
  have h : loopC (S := Int × List Bool) (R := (List Bool × Bool) ⊕ (List Bool)) (F_strings_makeASCIISet_L3 [32, 9]) (0, (List.replicate 256 false)) = some (.inr setWS) := by
    refine loop_inr (s' := (1, (List.replicate 256 false).set 32 true)) (by decide +kernel) (loop_inr (s' := (2, setWS)) (by decide +kernel) (loop_inl (by decide +kernel)))
  rw [join_inr h]; rfl
def blank (x : Int) : Bool := (x == 32) || (x == 9)
theorem hasWS {x : Int} (h : 0 ≤ x ∧ x < 256) : F_strings_asciiSet_contains setWS x = some (blank x, setWS) := by
  unfold F_strings_asciiSet_contains
  have hall : ∀ n : Fin 256, (chk (decide (0 ≤ ((n.val : Nat) : Int)) && decide (((n.val : Nat) : Int) < (256 : Int))) ((getI setWS ((n.val : Nat) : Int)).bind fun b3 => some (b3, setWS))).map (·.1) = some (blank ((n.val : Nat) : Int)) := by decide +kernel
  have := hall ⟨x.toNat, by omega⟩
  have hx : ((x.toNat : Nat) : Int) = x := by omega
  dsimp only at this
  rw [hx] at this
  unfold chk at this ⊢
  rw [decide_eq_true h.1, decide_eq_true h.2] at this ⊢
  simp only [Bool.and_self, cond_true] at this ⊢
  cases hg : getI setWS x with
  | none => rw [hg] at this; cases this
  | some b => rw [hg] at this; simpa using this
def lastOk (s : List Int) : Bool := match s.getLast? with
  | none => true
  | some x => !blank x
def headOk : List Int → Bool
  | [] => true
  | x :: _ => !blank x
theorem trimR (s : List Int) (hs : BL s) (hl : s.length ≤ 1000000) : ∃ r, F_strings_trimRightASCII s setWS = some (r, setWS) ∧ r.length ≤ s.length ∧ BL r ∧ (lastOk s = true → r = s) ∧ (lastOk s = false → r.length < s.length) := by
  obtain ⟨r, h1, h2⟩ := loop_inv (body := F_strings_trimRightASCII_L2) (I := fun t : List Int × List Bool => t.2 = setWS ∧ ∃ k, k ≤ s.length ∧ t.1 = s.take k ∧ (lastOk s = true → k = s.length) ∧ (k < s.length ∨ k = s.length)) (m := fun t => t.1.length) (Q := fun q => ∃ r, q = .inr (r, setWS) ∧ r.length ≤ s.length ∧ BL r ∧ (lastOk s = true → r = s) ∧ (lastOk s = false → r.length < s.length)) (fun t ⟨ht, k, hk, hk2, hk3, hk4⟩ => by
    obtain ⟨t1, t2⟩ := t
    dsimp only at ht hk2
    subst ht; subst hk2
    unfold F_strings_trimRightASCII_L2
    dsimp only
    have hlen : (s.take k).length = k := by rw [List.length_take]; omega
    rw [hlen]
    by_cases h0 : 0 < k
    · obtain ⟨x, hx, hx2⟩ := getI_of (l := s.take k) (j := (k : Int) - 1) (by omega) (by rw [hlen]; omega)
      have hb := hs x (List.mem_of_mem_take (List.mem_of_getElem? hx2))
      rw [decide_eq_true (show ((k : Nat) : Int) > 0 by omega), cond_true, wrap_in (by omega) (by omega), hx, Option.bind_some, hasWS hb, Option.bind_some]
      have hx3 : s[k - 1]? = some x := by
        rw [show ((k : Int) - 1).toNat = k - 1 by omega, List.getElem?_take] at hx2
        rwa [if_pos (by omega)] at hx2
      cases hbl : blank x with
      | true =>
        refine .inr ⟨(s.take (k - 1), setWS), ?_, ⟨rfl, k - 1, by omega, rfl, fun hok => ?_, by omega⟩, ?_⟩
        · show (cutI (s.take k) 0 ((k : Int) - 1)).bind _ = _
          have := cutI_nat (s := s.take k) (a := 0) (b := k - 1) (by omega) (by rw [hlen]; omega)
          rw [show ((k - 1 : Nat) : Int) = (k : Int) - 1 by omega, List.drop_zero, List.take_take, Nat.min_eq_left (by omega)] at this
          have this : cutI (s.take k) 0 ((k : Int) - 1) = _ := this
          rw [this]; rfl
        · exfalso
          have hkl := hk3 hok
          unfold lastOk at hok
          rw [List.getLast?_eq_getElem?, ← hkl, hx3] at hok
          dsimp only at hok
          rw [hbl] at hok
          cases hok
        · show (s.take (k - 1)).length < k
          rw [List.length_take]; omega
      | false =>
        refine .inl ⟨_, rfl, s.take k, rfl, by rw [hlen]; exact hk, fun y hy => hs y (List.mem_of_mem_take hy), fun hok => ?_, fun hno => ?_⟩
        · rw [hk3 hok, List.take_length]
        · rw [hlen]
          rcases hk4 with h | h
          · exact h
          · exfalso
            unfold lastOk at hno
            rw [List.getLast?_eq_getElem?, ← h, hx3] at hno
            dsimp only at hno
            rw [hbl] at hno
            cases hno
    · obtain rfl : k = 0 := by omega
      rw [decide_eq_false (by omega), cond_false]
      refine .inl ⟨_, rfl, [], rfl, by simp, fun y hy => (by cases hy), fun hok => ?_, fun hno => ?_⟩
      · have := hk3 hok
        exact (List.eq_nil_of_length_eq_zero this.symm).symm
      · rcases hk4 with h | h
        · exact h
        · exfalso
          have := List.eq_nil_of_length_eq_zero h.symm
          rw [this] at hno
          cases hno) (s, setWS) ⟨rfl, s.length, Nat.le_refl _, by rw [List.take_length], fun _ => rfl, .inr rfl⟩
  obtain ⟨t, rfl, h3⟩ := h2
  refine ⟨t, ?_, h3⟩
  unfold F_strings_trimRightASCII
  rw [join_inr h1]; rfl
theorem trimL (s : List Int) (hs : BL s) (hl : s.length ≤ 1000000) : ∃ r, F_strings_trimLeftASCII s setWS = some (r, setWS) ∧ r.length ≤ s.length ∧ (headOk s = true → r = s) ∧ (headOk s = false → r.length < s.length) := by
  obtain ⟨r, h1, h2⟩ := loop_inv (body := F_strings_trimLeftASCII_L2) (I := fun t : List Int × List Bool => t.2 = setWS ∧ ∃ k, k ≤ s.length ∧ t.1 = s.drop k ∧ (headOk s = true → k = 0)) (m := fun t => t.1.length) (Q := fun q => ∃ r, q = .inr (r, setWS) ∧ r.length ≤ s.length ∧ (headOk s = true → r = s) ∧ (headOk s = false → r.length < s.length)) (fun t ⟨ht, k, hk, hk2, hk3⟩ => by
    obtain ⟨t1, t2⟩ := t
    dsimp only at ht hk2
    subst ht; subst hk2
    unfold F_strings_trimLeftASCII_L2
    dsimp only
    have hlen : (s.drop k).length = s.length - k := List.length_drop
    by_cases h0 : k < s.length
    · obtain ⟨x, hx, hx2⟩ := getI_of (l := s.drop k) (j := 0) (by omega) (by rw [hlen]; omega)
      have hb := hs x (List.mem_of_mem_drop (List.mem_of_getElem? hx2))
      rw [decide_eq_true (show ((s.drop k).length : Int) > 0 by omega), cond_true, hx, Option.bind_some, hasWS hb, Option.bind_some]
      have hx3 : s[k]? = some x := by
        have : (s.drop k)[0]? = some x := hx2
        rwa [List.getElem?_drop] at this
      have hhead : k = 0 → headOk s = !blank x := fun e => by
        subst e
        cases s with
        | nil => cases hx3
        | cons y s => injection hx3 with e; subst e; rfl
      cases hbl : blank x with
      | true =>
        refine .inr ⟨(s.drop (k + 1), setWS), ?_, ⟨rfl, k + 1, by omega, rfl, fun hok => ?_⟩, ?_⟩
        · show (cutI (s.drop k) 1 ((s.drop k).length : Int)).bind _ = _
          have := cutI_nat (s := s.drop k) (a := 1) (b := (s.drop k).length) (by omega) (Nat.le_refl _)
          rw [List.take_length, List.drop_drop] at this
          have this : cutI (s.drop k) 1 ((s.drop k).length : Int) = _ := this
          rw [this]; rfl
        · exfalso
          have := hhead (hk3 hok)
          rw [hok, hbl] at this
          cases this
        · show (s.drop (k + 1)).length < (s.drop k).length
          rw [List.length_drop, List.length_drop]; omega
      | false =>
        refine .inl ⟨_, rfl, s.drop k, rfl, by omega, fun hok => ?_, fun hno => ?_⟩
        · rw [hk3 hok, List.drop_zero]
        · rcases Nat.eq_zero_or_pos k with h | h
          · exfalso
            have := hhead h
            rw [hno, hbl] at this
            cases this
          · omega
    · rw [decide_eq_false (by omega), cond_false]
      refine .inl ⟨_, rfl, s.drop k, rfl, by omega, fun hok => ?_, fun hno => ?_⟩
      · rw [hk3 hok, List.drop_zero]
      · have : s ≠ [] := fun e => by rw [e] at hno; cases hno
        have := List.length_pos_iff.2 this
        omega) (s, setWS) ⟨rfl, 0, by omega, rfl, fun _ => rfl⟩
  obtain ⟨t, rfl, h3⟩ := h2
  refine ⟨t, ?_, h3⟩
  unfold F_strings_trimLeftASCII
  rw [join_inr h1]; rfl
theorem trim_eq (s : List Int) (hs : BL s) (hl : s.length ≤ 1000000) : ∃ r, F_strings_Trim s [32, 9] = some r ∧ (r == s) = (lastOk s && headOk s) := by
  unfold F_strings_Trim
  cases hn : s == ([] : List Int) with
  | true =>
    have := eq_of_beq hn
    subst this
    exact ⟨[], rfl, rfl⟩
  | false =>
    obtain ⟨r, h1, h2, h3, h4, h5⟩ := trimR s hs hl
    obtain ⟨q, k1, k2, k3, k4⟩ := trimL r h3 (by omega)
    refine ⟨q, ?_, ?_⟩
    · rw [show (([32, 9] : List Int) == ([] : List Int)) = false from rfl, Bool.or_false, cond_false, show ((([32, 9] : List Int).length : Int) == 1) = false from rfl, cond_false, makeWS, Option.bind_some]
      dsimp only
      rw [cond_true, h1, Option.bind_some]
      dsimp only
      rw [k1]; rfl
    · cases hL : lastOk s with
      | false =>
        have := h5 hL
        exact beq_eq_false_iff_ne.2 fun e => by rw [e] at k2; omega
      | true =>
        obtain rfl := h4 hL
        cases hH : headOk r with
        | false =>
          have := k4 hH
          exact beq_eq_false_iff_ne.2 fun e => by rw [e] at this; omega
        | true => rw [k3 hH]; simp
theorem idxI_mem : ∀ (l : List Int) (c : Int), decide (idxI l c ≥ 0) = l.contains c
  | [], c => rfl
  | x :: l, c => by
    have ih := idxI_mem l c
    have hin := idxI_in l c
    show decide (cond (x == c) 0 (cond (idxI l c == -1) (-1) (idxI l c + 1)) ≥ 0) = _
    rw [List.contains_cons, ← ih]
    by_cases h : x = c
    · subst h; simp
    · rw [beq_eq_false_iff_ne.2 h, beq_eq_false_iff_ne.2 (Ne.symm h), Bool.false_or, cond_false]
      by_cases h1 : idxI l c = -1
      · rw [h1]; rfl
      · rw [beq_eq_false_iff_ne.2 h1, cond_false, decide_eq_true (by omega), decide_eq_true (by omega)]
def valuedB (s : List Int) : Bool := !s.contains 0 && (!s.contains 10 && (!s.contains 13 && (lastOk s && headOk s)))
theorem valued_eq (s : List Int) (hs : BL s) (hl : s.length ≤ 1000000) : F_ask_valued s = some (valuedB s) := by
  obtain ⟨r, h1, h2⟩ := trim_eq s hs hl
  unfold F_ask_valued valuedB
  have hstep : ∀ (i : Nat) (c : Int), ([0, 10, 13] : List Int)[i]? = some c → F_ask_valued_L3 s ([0, 10, 13], (i : Int)) = cond (s.contains c) (some (.inl (.inl false))) (some (.inr ([0, 10, 13], ((i + 1 : Nat) : Int)))) := fun i c hc => by
    unfold F_ask_valued_L3
    dsimp only
    have hi : i < 3 := (List.getElem?_eq_some_iff.1 hc).1
    have hg : getI ([0, 10, 13] : List Int) (i : Int) = some c := by
      unfold getI
      rw [decide_eq_true (by omega), cond_true, Int.toNat_natCast, hc]
    rw [decide_eq_true (show ((i : Nat) : Int) < ((([0, 10, 13] : List Int).length : Nat) : Int) by show (i : Int) < 3; omega), cond_true, hg, Option.bind_some]
    show (some (idxI s c)).bind _ = _
    rw [Option.bind_some, idxI_mem, wrap_in (by omega) (by omega)]
    rfl
  have hend : F_ask_valued_L3 s ([0, 10, 13], ((3 : Nat) : Int)) = some (.inl (.inr ())) := rfl
  have s0 : F_ask_valued_L3 s ([0, 10, 13], 0) = cond (s.contains 0) (some (.inl (.inl false))) (some (.inr ([0, 10, 13], 1))) := hstep 0 0 rfl
  have s1 : F_ask_valued_L3 s ([0, 10, 13], 1) = cond (s.contains 10) (some (.inl (.inl false))) (some (.inr ([0, 10, 13], 2))) := hstep 1 10 rfl
  have s2 : F_ask_valued_L3 s ([0, 10, 13], 2) = cond (s.contains 13) (some (.inl (.inl false))) (some (.inr ([0, 10, 13], 3))) := hstep 2 13 rfl
  have hend : F_ask_valued_L3 s ([0, 10, 13], 3) = some (.inl (.inr ())) := hend
  cases c0 : s.contains 0 with
  | true =>
    rw [c0] at s0
    rw [join_inl (loop_inl s0)]; rfl
  | false =>
    rw [c0] at s0
    cases c1 : s.contains 10 with
    | true =>
      rw [c1] at s1
      rw [join_inl (loop_inr s0 (loop_inl s1))]; rfl
    | false =>
      rw [c1] at s1
      cases c2 : s.contains 13 with
      | true =>
        rw [c2] at s2
        rw [join_inl (loop_inr s0 (loop_inr s1 (loop_inl s2)))]; rfl
      | false =>
        rw [c2] at s2
        rw [join_inr (loop_inr s0 (loop_inr s1 (loop_inr s2 (loop_inl hend))))]
        unfold F_ask_valued_J1
        rw [h1, Option.bind_some, h2]
        rfl
def nsigns : List Int := [33, 35, 36, 37, 38, 39, 42, 43, 45, 46, 94, 95, 96, 124, 126]
def nameOk (c : Int) : Bool := (decide (c ≥ 97) && decide (c ≤ 122)) || ((decide (c ≥ 48) && decide (c ≤ 57)) || nsigns.contains c)
def unColon : List Int → List Int
  | [] => []
  | x :: s => cond (x == 58) s (x :: s)
def namedB (s : List Int) : Bool := (unColon s).all nameOk && !(unColon s == [])
theorem trimColon (s : List Int) : F_strings_TrimPrefix s [58] = some (unColon s) := by
  unfold F_strings_TrimPrefix F_internal_stringslite_TrimPrefix F_internal_stringslite_HasPrefix
  cases s with
  | nil => rfl
  | cons x s =>
    have h1 : decide (((x :: s).length : Int) ≥ (([58] : List Int).length : Int)) = true := decide_eq_true (by rw [List.length_cons]; show ((s.length + 1 : Nat) : Int) ≥ 1; omega)
    have h2 : cutI (x :: s) 0 (([58] : List Int).length : Int) = some [x] := by
      have := cutI_nat (s := x :: s) (a := 0) (b := 1) (by omega) (by rw [List.length_cons]; omega)
      exact this
    rw [h1, cond_true, h2, Option.bind_some]
    show ((some ([x] == ([58] : List Int))).bind _).bind _ = some (cond (x == 58) s (x :: s))
    rw [Option.bind_some]
    have h3 : ([x] == ([58] : List Int)) = (x == 58) := by simp [List.cons_beq_cons]
    rw [h3]
    cases x == 58
    · rfl
    · have := cutI_nat (s := x :: s) (a := 1) (b := (x :: s).length) (by rw [List.length_cons]; omega) (Nat.le_refl _)
      rw [List.take_length] at this
      have this : cutI (x :: s) (([58] : List Int).length : Int) ((x :: s).length : Int) = some s := this
      rw [cond_true, this]; rfl
theorem named_eq (s : List Int) (hl : s.length ≤ 1000000) : F_ask_named s = some (namedB s) := by
  unfold F_ask_named namedB
  rw [trimColon, Option.bind_some]
  have hul : (unColon s).length ≤ s.length := by
    cases s with
    | nil => exact Nat.le_refl _
    | cons x s =>
      show (cond (x == 58) s (x :: s)).length ≤ s.length + 1
      cases x == 58
      · exact Nat.le_refl _
      · exact Nat.le_succ _
  obtain ⟨t, ht⟩ : ∃ t, unColon s = t := ⟨_, rfl⟩
  rw [ht] at hul ⊢
  clear ht
  obtain ⟨r, h1, h2⟩ := loop_inv (body := F_ask_named_L4 t) (I := fun i : Int => 0 ≤ i ∧ i ≤ t.length ∧ (t.take i.toNat).all nameOk = true) (m := fun i => t.length - i.toNat) (Q := fun q => (q = .inl false ∧ t.all nameOk = false) ∨ (q = .inr () ∧ t.all nameOk = true)) (fun i ⟨h0, h3, h4⟩ => by
    unfold F_ask_named_L4
    dsimp only
    by_cases hi : i < (t.length : Int)
    · obtain ⟨x, hx, hx2⟩ := getI_of h0 hi
      rw [decide_eq_true hi, cond_true, hx, Option.bind_some]
      have hnext : nameOk x = true → (∃ s', some (.inr (IntKind.i64.wrap (i + 1))) = some (.inr s' : ((Bool ⊕ Unit) ⊕ Int)) ∧ (0 ≤ s' ∧ s' ≤ t.length ∧ (t.take s'.toNat).all nameOk = true) ∧ t.length - s'.toNat < t.length - i.toNat) := fun hok => by
        rw [wrap_in (by omega) (by omega)]
        refine ⟨i + 1, rfl, ⟨by omega, by omega, ?_⟩, by omega⟩
        rw [show (i + 1).toNat = i.toNat + 1 by omega, List.take_add_one, hx2, List.all_append, h4]
        simp [hok]
      cases c1 : (decide (x ≥ 97)) && (decide (x ≤ 122)) with
      | true => exact .inr (hnext (by unfold nameOk; rw [c1, Bool.true_or]))
      | false =>
        rw [cond_false]
        cases c2 : (decide (x ≥ 48)) && (decide (x ≤ 57)) with
        | true => exact .inr (hnext (by unfold nameOk; rw [c1, c2]; rfl))
        | false =>
          rw [cond_false]
          have hidx : F_strings_IndexByte ([33, 35, 36, 37, 38, 39, 42, 43, 45, 46, 94, 95, 96, 124, 126] : List Int) x = some (idxI nsigns x) := rfl
          rw [hidx, Option.bind_some, idxI_mem]
          cases c3 : nsigns.contains x with
          | true => exact .inr (hnext (by unfold nameOk; rw [c1, c2, c3]; rfl))
          | false =>
            refine .inl ⟨_, rfl, .inl ⟨rfl, ?_⟩⟩
            rw [List.all_eq_false]
            refine ⟨x, List.mem_of_getElem? hx2, ?_⟩
            unfold nameOk
            rw [c1, c2, c3]
            simp
    · rw [decide_eq_false hi, cond_false]
      refine .inl ⟨_, rfl, .inr ⟨rfl, ?_⟩⟩
      rw [List.take_of_length_le (by omega)] at h4
      exact h4) 0 ⟨by omega, by omega, rfl⟩
  rcases h2 with ⟨rfl, h2⟩ | ⟨rfl, h2⟩
  · rw [join_inl h1, h2]; rfl
  · rw [join_inr h1, h2]; rfl
def lTe : List Int := [116, 101]
def lTr : List Int := [116, 114, 97, 105, 108, 101, 114, 115]
def lBars : List (List Int) := [[99, 111, 110, 110, 101, 99, 116, 105, 111, 110], [112, 114, 111, 120, 121, 45, 99, 111, 110, 110, 101, 99, 116, 105, 111, 110], [107, 101, 101, 112, 45, 97, 108, 105, 118, 101], [116, 114, 97, 110, 115, 102, 101, 114, 45, 101, 110, 99, 111, 100, 105, 110, 103], [117, 112, 103, 114, 97, 100, 101]]
def barredB (n v : List Int) : Bool := lBars.contains n || ((n == lTe) && !(v == lTr))
theorem barred_eq (n v : List Int) (b : Bool) : F_ask_barred n v b = some (barredB n v) := by
  unfold F_ask_barred barredB lBars lTe lTr
  simp only [List.contains_cons, List.contains_nil]
  cases n == ([99, 111, 110, 110, 101, 99, 116, 105, 111, 110] : List Int) <;> cases n == ([112, 114, 111, 120, 121, 45, 99, 111, 110, 110, 101, 99, 116, 105, 111, 110] : List Int) <;> cases n == ([107, 101, 101, 112, 45, 97, 108, 105, 118, 101] : List Int) <;> cases n == ([116, 114, 97, 110, 115, 102, 101, 114, 45, 101, 110, 99, 111, 100, 105, 110, 103] : List Int) <;> cases n == ([117, 112, 103, 114, 97, 100, 101] : List Int) <;> cases n == ([116, 101] : List Int) <;> rfl
end Go.Proofs.YtgcgdfjldeihkaaDoor
