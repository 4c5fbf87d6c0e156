/- A function of which a piece is walked by hand. -/
import Derived.Test.YtgcgdfjldeihkaaQl
namespace Go.Proofs.Ytgcgdfjldeihkaa
open Go.RowKit
namespace Pv
set_option linter.unusedVariables false
section
variable {E : Env} {F : Fr} {g : Gh} {st : PSt} {w : World}
/-- A function with a piece that is walked by hand, in one frame. -/
theorem fnH_calls {T : Tab} (hE : E.ok T) {r : Nat} {h : PSt → Option (Bool × PSt)} {A : List (Nat × Ann)} {f : FuncId} {fn : Func} {s : Sig} (hf : E.P.funcs[f]? = some fn) (hh : ∀ c ac k, fn.body = some c → annot A c 0 = some (ac, k) → ∀ p ∈ (ac.withHand r h).hands, HandS E.P F p.1 p.2)
    {xs : List Dat} {y : s.out.D} {tmf : Nat → Value} {args : Array Value} (hT : TabF T F) (hent : entrySt s xs = some st) (happ : appF ((parsT s.ps).map LT.ty) (pvFnH r h E A fn s) xs = some y) (hrel : MRel F g st tmf w) (hw : F.w0 = w) (hn : F.n = fn.ntmps)
    (hsz : args.size = s.ps.length) (htm : ∀ i, tmf i = args.getD i undef) : Calls E.P f args w fun e w' => ∃ us g' st', e = .returned (retV us) ∧ us.length = s.rs.length ∧ exitSt s y = some st' ∧ MRel F g' st' (fun i => us.getD i undef) w' ∧ ∀ k, isM s.ps k = true → g'.ρ k = g.ρ k := by
  have hv := appF_curry _ _ _ _ happ
  unfold pvFnHL at hv
  rw [hent] at hv
  split at hv
  case h_2 => cases hv
  rename_i c st0 hb he
  injection he with he
  subst he
  split at hv
  case h_2 => cases hv
  rename_i ac0 k hac
  obtain ⟨ac, hace⟩ : ∃ ac, ac = AC.withHand r h ac0 := ⟨_, rfl⟩
  rw [← hace] at hv
  simp only at hv
  split at hv
  case h_2 => cases hv
  rename_i hgd
  simp only [Bool.and_eq_true] at hgd
  obtain ⟨⟨⟨⟨hg1, hg2⟩, hg3⟩, hg4⟩, hg5⟩ := hgd
  have hFn := hn
  have hle : args.size ≤ fn.ntmps := by rw [hsz]; rw [Nat.ble_eq] at hg3; exact hg3
  have hdst : ∀ d ∈ ac.dsts, d < F.n := fun d hd => by
    have := List.all_eq_true.1 hg2 d hd
    rw [Nat.blt_eq] at this
    omega
  have htm' : tm { tmps := args ++ Array.replicate (fn.ntmps - args.size) undef, defers := [] } = tmf := by
    funext i
    rw [htm i]
    unfold tm
    simp only [Array.getD_eq_getD_getElem?, Array.getElem?_append]
    by_cases hlt : i < args.size
    · simp [hlt]
    · rw [if_neg hlt, Array.getElem?_eq_none (show args.size ≤ i by omega)]
      simp only [Array.getElem?_replicate, Option.getD_none]
      split <;> rfl
  have hAR : AR F g st { tmps := args ++ Array.replicate (fn.ntmps - args.size) undef, defers := [] } w := ⟨by simp; omega, rfl, by rw [htm']; exact hrel⟩
  have he : ac.erase = c := by rw [hace, erase_hand]; exact annot_erase c 0 ac0 k hac
  refine calls_of_wp hf hb ?_
  have hs := pv_sound ⟨T, hE, hT⟩ ac (by rw [hace]; exact hh c ac0 k hb hac) _ st y g _ w hg1 hdst hAR hv
  rw [he] at hs
  have fin : ∀ {x a' w' g' st'}, retF E.P fn.results.toList s st' = some y → AR F g' st' a' w' → LftX x (· ∈ ac.dsts) (· ∈ ac.ids) g { tmps := args ++ Array.replicate (fn.ntmps - args.size) undef, defers := [] } w g' a' w' →
      a'.defers = [] ∧ ∃ v, (results fn a'.tmps).run E.P w' = .ok v w' ∧ ∃ us g' st', Ending.returned v = .returned (retV us) ∧ us.length = s.rs.length ∧ exitSt s y = some st' ∧ MRel F g' st' (fun i => us.getD i undef) w' ∧ ∀ k, isM s.ps k = true → g'.ρ k = g.ρ k := fun {x a' w' g' st'} hr hA hl => by
    obtain ⟨us, g2, stX, r1, r2, r3, r4, r5, r6⟩ := exit_relF hA hr
    refine ⟨hA.defers, retV us, results_run r2 r3, us, g2, stX, rfl, r1, r4, r5, fun k hk => ?_⟩
    rw [r6]
    refine hl.ρ k fun hm => ?_
    have hlt : k < s.ps.length := by
      obtain ⟨ts, hts⟩ := isM_iff.1 hk
      exact (List.getElem?_eq_some_iff.1 hts).1
    have := List.all_eq_true.1 hg5 k (List.mem_range.2 hlt)
    rw [hk, hasN_iff.2 hm] at this
    cases this
  refine Code.wp_mono (fun e a' w' hp => ?_) hs
  obtain ⟨x, st', g', rfl, hQ, hr, hl⟩ := hp
  cases x with
  | exit i => cases hQ
  | normal => exact fin hQ hr hl
  | ret => exact fin hQ hr hl
  | goto i => cases hQ
end
def LT.isd : LT → Bool
  | .d _ => true
  | _ => false
theorem resAt_d : ∀ {rs : List (Bool × List LT)} {ls : List Leaf} {i : Nat} {ag : Bool} {os : List Leaf}, ls.all isD = true → resAt rs ls i = .w ag os → os.all isD = true
  | [], _, _, _, _, _, h => by cases h
  | (_, ts) :: _, ls, 0, ag, os, hd, h => by
    injection h with _ h
    subst h
    exact List.all_eq_true.2 fun x hx => List.all_eq_true.1 hd x (List.mem_of_mem_take hx)
  | (_, ts) :: rs, ls, i + 1, ag, os, hd, h => resAt_d (rs := rs) (List.all_eq_true.2 fun x hx => List.all_eq_true.1 hd x (List.mem_of_mem_drop hx)) h
theorem parP_d : ∀ {ps : List Par} {ls : List Leaf} {i : Nat} {ag : Bool} {os : List Leaf}, ls.all isD = true → parP ps ls i = .w ag os → os.all isD = true
  | [], _, _, _, _, _, h => by cases h
  | .v _ ts :: _, ls, 0, ag, os, hd, h => by
    injection h with _ h
    subst h
    exact List.all_eq_true.2 fun x hx => List.all_eq_true.1 hd x (List.mem_of_mem_take hx)
  | .m _ :: _, ls, 0, ag, os, hd, h => by cases h
  | p :: ps, ls, i + 1, ag, os, hd, h => parP_d (ps := ps) (List.all_eq_true.2 fun x hx => List.all_eq_true.1 hd x (List.mem_of_mem_drop hx)) h
theorem parP_c : ∀ {ps : List Par} {ls : List Leaf} (i : Nat), ps.all Par.isv = true → (∃ ag os, parP ps ls i = .w ag os) ∨ parP ps ls i = .raw undef
  | [], _, _, _ => .inr rfl
  | .v _ _ :: _, ls, 0, _ => .inl ⟨_, _, rfl⟩
  | .v _ _ :: ps, ls, i + 1, h => parP_c (ps := ps) i (by simpa [Par.isv] using h)
  | .m _ :: _, _, _, h => by simp [Par.isv] at h
theorem parK_v : ∀ {ps : List Par} {ls : List Leaf} (k : Nat), ps.all Par.isv = true → parK ps ls k = none
  | [], _, _, _ => rfl
  | .v _ _ :: _, ls, 0, _ => rfl
  | .v _ _ :: ps, ls, i + 1, h => parK_v (ps := ps) i (by simpa [Par.isv] using h)
  | .m _ :: _, _, _, h => by simp [Par.isv] at h
theorem all_isd {ts : List LT} (h : ts.all LT.isd = true) : ts.all (fun t => match t with | .d _ => true | _ => false) = true :=
  List.all_eq_true.2 fun t ht => by
    have := List.all_eq_true.1 h t ht
    cases t <;> first | rfl | cases this
theorem labs_d {lab : Nat → Tok} : ∀ {ts : List LT} {j : Nat}, ts.all LT.isd = true → labs lab ts j = []
  | [], _, _ => rfl
  | .d _ :: ts, j, h => labs_d (ts := ts) (by simpa [LT.isd] using h)
  | .own _ _ :: _, _, h => by simp [LT.isd] at h
  | .row _ :: _, _, h => by simp [LT.isd] at h
/-- The frame of a function that owns nothing at its start. -/
def F01 (n : Nat) (w : World) (C : Com) : Fr := ⟨n, w, C, fun _ _ => False⟩
theorem fn_soundH {E : Env} {T : Tab} (hE : E.ok T) {r : Nat} {h : PSt → Option (Bool × PSt)} {A : List (Nat × Ann)} {f : FuncId} {fn : Func} {s : Sig} (hf : E.P.funcs[f]? = some fn) (hp : s.ps.all Par.isv = true) (hq : (parsT s.ps).all LT.isd = true) (ho : s.outs.all LT.isd = true)
    (hh : ∀ w C, ∀ c ac k, fn.body = some c → annot A c 0 = some (ac, k) → ∀ p ∈ (ac.withHand r h).hands, HandS E.P (F01 fn.ntmps w C) p.1 p.2) : SoundFn E.P T f s ⟨pvFnH r h E A fn s⟩ := by
  intro F g st xs y tmf w args hT hent happ hrel hw hn hsz htm
  have hTw : TabF T (F01 fn.ntmps w g.C) := fun p hp => by
    obtain ⟨h1, h2⟩ := hT p hp
    rw [hw] at h1
    exact ⟨h1, fun i hi => ⟨hrel.fr.mono _ _ (h2 i hi).1, fun h => h⟩⟩
  have hent0 := hent
  unfold entrySt at hent
  split at hent
  case h_1 => cases hent
  rename_i ls hls
  injection hent with hent
  have hld : ls.all isD = true := mkLs_d (all_isd hq) hls
  have hφ : ∀ i, st.φ i = parP s.ps ls i := fun i => by
    rw [← hent]
    show (match isM s.ps i with | true => PV.loc i 0 | false => parP s.ps ls i) = _
    rw [isM_v i hp]
  have hL : ∀ k, st.L k = none := fun k => by
    rw [← hent]
    show (match parK s.ps ls k with | some l => some ((0 : Nat), l) | none => none) = none
    rw [parK_v k hp]
  have hrel1 : MRel (F01 fn.ntmps w g.C) ⟨g.C, fun _ => none, fun _ => (0, 0), fun _ _ => []⟩ st tmf w := by
    refine ⟨⟨Nat.le_refl _, rfl, rfl, rfl, fun _ _ _ => rfl, fun b cs T fr _ hb => ⟨cs, fr, hb, rfl, fun _ _ => rfl⟩, fun _ _ _ _ => Iff.rfl, fun _ _ h => h, hrel.fr.lim⟩, fun i => ?_, fun k σ l hl => ?_, fun k σ l hl => ?_, fun t b hk => ?_, fun i t want ag l hs => ?_, fun d hd => ?_, fun i k hk => ?_, rfl, fun k k' b _ _ h => (by cases h), fun k b j x _ h => (by cases h), fun k b _ h => (by cases h), fun k b _ h => (by cases h), fun j j' x x' hj => ?_⟩
    · have h1 := hrel.slots i
      rw [hφ] at h1 ⊢
      rcases parP_c (ls := ls) i hp with ⟨ag, os, e⟩ | e
      · rw [e] at h1 ⊢
        obtain ⟨cs, h2, h3⟩ := h1
        exact ⟨cs, repLs_to (F := F) (g := g) (g' := ⟨g.C, fun _ => none, fun _ => (0, 0), fun _ _ => []⟩) (O := st.O) rfl (parP_d hld e) h2, h3⟩
      · rw [e] at h1 ⊢; exact h1
    · rw [hL] at hl; cases hl
    · rw [hL] at hl; cases hl
    · rw [← hent] at hk; cases hk
    · rw [hφ] at hs
      rcases parP_c (ls := ls) i hp with ⟨ag', os, e⟩ | e <;> rw [e] at hs <;> cases hs
    · rw [← hent] at hd; cases hd
    · rw [hφ] at hk
      rcases parP_c (ls := ls) i hp with ⟨ag', os, e⟩ | e <;> rw [e] at hk <;> cases hk
    · rw [hL] at hj; cases hj
  refine (fnH_calls hE hf (hh w g.C) hTw hent0 happ hrel1 rfl rfl hsz htm).mono ?_
  rintro e w' ⟨us, g', st', he, hus, hex, hr', _⟩
  have hfr := hrel.fr
  have hf1 := hr'.fr
  unfold exitSt at hex
  split at hex
  case h_1 => cases hex
  rename_i os hos
  injection hex with hex
  have hod : os.all isD = true := mkLs_d (all_isd ho) hos
  have hLx : ∀ k, st'.L k = none := fun k => by
    rw [← hex]
    show (match inoutAt s.ps (os.drop s.nres) k with | some l => some ((0 : Nat), l) | none => none) = none
    rw [inoutAt_v k hp]
  have hφx : ∀ i, st'.φ i = resAt s.rs os i := fun i => by rw [← hex]
  refine ⟨us, ⟨g'.C, fun _ => none, g.ρ, fun _ _ => []⟩, st', he, hus, ?_, ?_, fun k hk => absurd ((isM_v k hp).symm.trans hk) (by decide)⟩
  · unfold exitSt
    rw [hos, ← hex]
  · refine ⟨⟨by rw [hw]; exact hf1.size, by rw [hw]; exact hf1.os, by rw [hw]; exact hf1.tape, by rw [hw]; exact hf1.output, fun b hb _ => ?_, fun b cs T fr hb hc => ?_, fun b o hb hx => ?_, fun b o hc => ?_, hf1.lim⟩, fun i => ?_, fun k σ l hl => ?_, fun k σ l hl => ?_, fun t b hk => ?_, fun i t want ag l hs => ?_, fun d hd => ?_, fun i k hk => ?_, rfl, fun k k' b _ _ h => (by cases h), fun k b j x _ h => (by cases h), fun k b _ h => (by cases h), fun k b _ h => (by cases h), fun j j' x x' hj => ?_⟩
    · rw [hw] at hb ⊢
      exact hf1.old b hb fun _ h => h
    · rw [hw] at hb hc
      obtain ⟨cs', fr', q1, q2, q3⟩ := hf1.shape b cs T fr hb hc
      exact ⟨cs', fr', q1, q2, fun o _ => q3 o fun h => h⟩
    · rw [hw] at hb
      exact (hf1.com b o hb fun h => h).trans (hfr.com b o (by rw [hw]; exact hb) hx)
    · exact hf1.mono b o (hfr.mono b o hc)
    · have h1 := hr'.slots i
      rw [hφx] at h1 ⊢
      rcases resAt_w (rs := s.rs) (ls := os) i with ⟨ag, os', e⟩ | e
      · rw [e] at h1 ⊢
        obtain ⟨cs, h2, h3⟩ := h1
        exact ⟨cs, repLs_to (F := F01 fn.ntmps w g.C) (g := g') (g' := ⟨g'.C, fun _ => none, g.ρ, fun _ _ => []⟩) (O := st'.O) rfl (resAt_d hod e) h2, h3⟩
      · rw [e]; trivial
    · rw [hLx] at hl; cases hl
    · rw [hLx] at hl; cases hl
    · rw [← hex] at hk; cases hk
    · rw [hφx] at hs
      rcases resAt_w (rs := s.rs) (ls := os) i with ⟨ag', os', e⟩ | e <;> rw [e] at hs <;> cases hs
    · rw [← hex] at hd; cases hd
    · rw [hφx] at hk
      rcases resAt_w (rs := s.rs) (ls := os) i with ⟨ag', os', e⟩ | e <;> rw [e] at hk <;> cases hk
    · rw [hLx] at hj; cases hj
end Pv
end Go.Proofs.Ytgcgdfjldeihkaa
