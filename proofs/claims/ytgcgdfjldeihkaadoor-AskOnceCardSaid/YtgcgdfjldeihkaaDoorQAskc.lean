/- ask.Read by its contract. -/
import Derived.Test.YtgcgdfjldeihkaaDoorQRead
import Derived.Test.YtgcgdfjldeihkaaDoorQl
namespace Go.Proofs.YtgcgdfjldeihkaaDoor
open Go.RowKit Pv
set_option linter.unusedVariables false
abbrev tRF : Ty := .pr .str (.pr .str .bool)
def F_ask_Read_sig : Sig := ⟨[.v false [.d (.sl tRF)]], [(true, [.d .bool, .d .str, .d .str, .d .str, .d (.int .i64)]), (false, [.d .bool])]⟩
noncomputable def F_ask_Read (l : List RF) : Option RO := cond (Nat.ble l.length 1000000) ((rdFold l ([], false, [], 0)).map rdOut) none
theorem rdStep_q {f : RF} {s s' : RS} (h : rdStep f s = some (some s')) : s.2.2.2 ≤ s'.2.2.2 ∧ s'.2.2.2 ≤ s.2.2.2 + 1 := by
  unfold rdStep at h
  obtain ⟨a, h1, h⟩ := Option.bind_eq_some_iff.1 h
  cases a with
  | false => cases h
  | true =>
  obtain ⟨b, h2, h⟩ := Option.bind_eq_some_iff.1 h
  cases b with
  | false => cases h
  | true =>
  obtain ⟨c, h3, h⟩ := Option.bind_eq_some_iff.1 h
  cases c with
  | true => cases h
  | false =>
  obtain ⟨x, h4, h⟩ := Option.bind_eq_some_iff.1 h
  have h : cond (x == 58) (some ((takesI s.1 f.1 f.2.1 s.2.1).map fun p => (p, s.2))) (cond (f.1 == lX) (some (some (s.1, true, cond (s.2.2.2 == 0) f.2.1 s.2.2.1, s.2.2.2 + 1))) (some (some (s.1, true, s.2.2)))) = some (some s') := h
  cases hx : x == 58 with
  | true =>
    rw [hx] at h
    have h : some ((takesI s.1 f.1 f.2.1 s.2.1).map fun p => (p, s.2)) = some (some s') := h
    injection h with h
    obtain ⟨p, _, rfl⟩ := Option.map_eq_some_iff.1 h
    exact ⟨Int.le_refl _, by show s.2.2.2 ≤ s.2.2.2 + 1; omega⟩
  | false =>
    rw [hx] at h
    cases hy : f.1 == lX with
    | true =>
      rw [hy] at h
      have h : some (some (s.1, true, cond (s.2.2.2 == 0) f.2.1 s.2.2.1, s.2.2.2 + 1)) = some (some s') := h
      injection h with h
      injection h with h
      subst h
      exact ⟨by show s.2.2.2 ≤ s.2.2.2 + 1; omega, Int.le_refl _⟩
    | false =>
      rw [hy] at h
      have h : some (some (s.1, true, s.2.2)) = some (some s') := h
      injection h with h
      injection h with h
      subst h
      exact ⟨Int.le_refl _, by show s.2.2.2 ≤ s.2.2.2 + 1; omega⟩
theorem rdFold_q : ∀ {l : List RF} {s s' : RS}, rdFold l s = some (some s') → s.2.2.2 ≤ s'.2.2.2 ∧ s'.2.2.2 ≤ s.2.2.2 + l.length
  | [], s, s', h => by
    have h : some (some s) = some (some s') := h
    injection h with h
    injection h with h
    subst h
    simp
  | f :: l, s, s', h => by
    have h : (rdStep f s).bind (fun q => match q with | none => some none | some s' => rdFold l s') = some (some s') := h
    obtain ⟨q, h1, h2⟩ := Option.bind_eq_some_iff.1 h
    cases q with
    | none => cases h2
    | some t =>
      have h3 := rdStep_q h1
      have h4 := rdFold_q (l := l) h2
      rw [List.length_cons]
      omega
theorem rdOut_q {l : List RF} {r : Option RS} (h : rdFold l ([], false, [], 0) = some r) (hl : l.length ≤ 1000000) : 0 ≤ (rdOut r).2.2.2.2.1 ∧ (rdOut r).2.2.2.2.1 ≤ 1000000 := by
  cases r with
  | none => exact ⟨Int.le_refl _, by show (0 : Int) ≤ 1000000; decide⟩
  | some s =>
    have h1 := rdFold_q h
    have h2 : s.2.2.2 ≤ 0 + (l.length : Int) := h1.2
    have h1 : 0 ≤ s.2.2.2 := h1.1
    have e : rdOut (some s) = cond (wholeI s.1) (valI s.1 lM == lC, valI s.1 lM, valI s.1 lA, s.2.2.1, s.2.2.2, true) (false, [], [], [], 0, false) := rfl
    rw [e]
    cases wholeI s.1
    · exact ⟨Int.le_refl _, by show (0 : Int) ≤ 1000000; decide⟩
    · exact ⟨h1, by show s.2.2.2 ≤ 1000000; omega⟩
theorem wf_q {q : Int} (h1 : 0 ≤ q) (h2 : q ≤ 1000000) : (Lit.int .i64 q).wf = true := by
  simp [Lit.wf, IntKind.min, IntKind.max, IntKind.signed, IntKind.bits]
  omega
theorem F_ask_Read_sound {T : Tab} : SoundFn Tryd.prog T 20 F_ask_Read_sig ⟨F_ask_Read⟩ := by
  refine sound_d rfl fun F g O xs ls y tmf w args _ hls happ hsz hr => ?_
  obtain ⟨(l : List RF), xs', rfl, h2⟩ := appF_inv_c (ts := []) happ
  obtain ⟨rfl, h3⟩ := appF_inv_n h2
  have hls' : some [Leaf.d (.sl tRF) l] = some ls := hls
  injection hls' with hls'
  subst hls'
  have h0 := rel_leaf.1 (hr 0)
  obtain ⟨a, n, c, e0, e1, e2, e3, e4⟩ := h0
  have ha : args = #[.slice a n c] := by
    obtain ⟨al⟩ := args
    match al, hsz with
    | [v], _ =>
      have h : [v] = [.slice a n c] := e0
      injection h with h
      rw [h]
  subst ha
  have h3 : cond (Nat.ble l.length 1000000) ((rdFold l ([], false, [], 0)).map rdOut) none = some y := h3
  cases hb : Nat.ble l.length 1000000 with
  | false => rw [hb] at h3; cases h3
  | true =>
    rw [hb] at h3
    obtain ⟨r, hr1, hr2⟩ := Option.map_eq_some_iff.1 (show (rdFold l ([], false, [], 0)).map rdOut = some y from h3)
    have hle : l.length ≤ 1000000 := Nat.le_of_ble_eq_true hb
    have hq := rdOut_q hr1 hle
    refine (read_walk l a n c e1 (by rw [← e1]; exact hle) w (fun i f hi => ?_) r hr1).mono ?_
    · obtain ⟨ad, us, g1, g2, g3, g4⟩ := e4 i f hi
      obtain ⟨c1, c2, k1, ⟨s1, k2, k3, k4⟩, c3, c4, k5, ⟨s2, k6, k7, k8⟩, k9⟩ := g4
      have k9 : c4 = [.bool f.2.2] := k9
      subst k2; subst k6; subst k9; subst k5; subst k1
      have h0 := (g3 0 _ rfl).1
      have h1 := (g3 1 _ rfl).1
      have h2 := (g3 2 _ rfl).1
      exact ⟨ad, s1, s2, g1, k3, k7, k4, k8, h0, h1, h2⟩
    · rintro e w' ⟨me, au, ah, he, x1, x2, x3, z1, z2, z3, hbel⟩
      rw [hr2] at he x1 x2 x3 hq
      refine ⟨[.agg #[.bool y.1, .string me, .string au, .string ah, .int .i64 y.2.2.2.2.1], .bool y.2.2.2.2.2], [.d .bool y.1, .d .str y.2.1, .d .str y.2.2.1, .d .str y.2.2.2.1, .d (.int .i64) y.2.2.2.2.1, .d .bool y.2.2.2.2.2], he, rfl, rfl, hbel, fun i hi => ?_⟩
      match i, hi with
      | 0, _ =>
        refine ⟨[.bool y.1, .string me, .string au, .string ah, .int .i64 y.2.2.2.2.1], ⟨[.bool y.1], _, rfl, rfl, [.string me], _, rfl, ⟨me, rfl, x1, z1⟩, [.string au], _, rfl, ⟨au, rfl, x2, z2⟩, [.string ah], _, rfl, ⟨ah, rfl, x3, z3⟩, [.int .i64 y.2.2.2.2.1], _, rfl, ⟨rfl, wf_q hq.1 hq.2⟩, rfl⟩, rfl⟩
      | 1, _ => exact ⟨[.bool y.2.2.2.2.2], ⟨[.bool y.2.2.2.2.2], [], rfl, rfl, rfl⟩, rfl⟩
end Go.Proofs.YtgcgdfjldeihkaaDoor
