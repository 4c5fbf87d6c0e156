/- The conditions of Vc are sound for the model's code: a region that draws its order, whole. -/
import Derived.Test.YtnlekdpnjphmfaaVcv
namespace Go.Proofs.Ytnlekdpnjphmfaa
namespace Vc
section
variable {E : Env} {v0 w0 : World} {n : Nat} {ops : Array Oper} {hf : List Bool} {sts : Nat → St} {ρ : Nat → Nat} {a : Act} {w : World}
theorem Rel.anywhere {v' : World} {L : Locals} {φ : Slots} (h : Rel v0 w0 n ρ ⟨φ, L, v'⟩ a w) (w' : World) : Rel w' w' n ρ ⟨φ, fun _ => none, w'⟩ a w' :=
  ⟨h.size, h.defers, h.slots, Vis.refl w', Keep.refl w' w', fun k cs hc => by (cases hc), fun k k' cs cs' hc => by (cases hc)⟩
theorem waits_iff {j i : Nat} : waits ops j i = true ↔ ∃ o, ops[j]? = some o ∧ ∃ e ∈ o.after, Region.binds .any e = true ∧ e.on = i := by
  unfold waits
  cases ho : ops[j]? with
  | none => simp
  | some o =>
    constructor
    · intro h
      obtain ⟨e, he, hb⟩ := List.any_eq_true.1 h
      simp only [Bool.and_eq_true] at hb
      exact ⟨o, rfl, e, by simpa using he, hb.1, Nat.eq_of_beq_eq_true hb.2⟩
    · rintro ⟨o', ho', e, he, hb, hon⟩
      cases ho'
      exact List.any_eq_true.2 ⟨e, by simpa using he, by simp [hb, hon]⟩
/-- An operation that looks at no memory yields its word in any world. -/
theorem DOk.pure (D : DOk E ops hf sts) {S : Nat → Prop} (hC : Clean E ops hf sts S) {v' : World} (hp : Pad (sts 0).v v') (h : Rel v0 w0 n ρ ⟨mask ops hf sts S, maskL E ops hf sts S, v'⟩ a w) {j : Nat} {o : Oper} (ho : ops[j]? = some o) (hH : HF hf j)
    (hn : ¬ S j) (hw : ∀ i, waits ops j i = true → S i) (hd : ∀ x, o.dst = some x → x < n) (hpk : isPk o.op = true) :
    ∃ u, Go.Yields E.P ops o u a ∧ Rel v0 w0 n ρ ⟨mask ops hf sts (plus S j), maskL E ops hf sts (plus S j), v'⟩ (a.put o.dst u) w := by
  have hsel : ∀ cs b, o.op ≠ .select cs b := fun cs b => Region.noSelect_spec D.nosel j o cs b ho
  obtain ⟨_, f2, f3⟩ := isPk_facts hpk
  rcases D.what ho hH with ⟨_, t, _, _, _, hop, _⟩ | ⟨hla, s, hφ, hW⟩
  · exact (f3 t hop).elim
  · have solid : ∀ (g : Option (Nat × Bool)) (b : Option (Bool × Bool)) (s1 : SV), (∀ t want, g = some (t, want) → tm a t = .bool want) → met b → detR E g b o (sts j).φ (sts j).L (sts j).v s1 →
        ∃ u, (∀ w', (execOp a.eval o).run E.P w' = .ok (.value u) w') ∧ RelF ρ u s1 := fun g b s1 hg hm hdd => by
      have hdd' := D.moved hC ho hH hn hw hdd hp
      have key : ∀ w', Yields E.P ρ a w' o s1 := fun w' => det_yields (h.anywhere w') hg hsel f2 hm (det_pure hpk hdd')
      rcases det_shape hdd with ⟨x, rfl⟩ | ⟨k, off, _, _, rfl, _⟩
      · refine ⟨x, fun w' => ?_, rfl⟩
        obtain ⟨u, hr, hu⟩ := key w'
        obtain rfl : u = x := hu
        exact hr
      · refine ⟨_, fun w' => ?_, rfl⟩
        obtain ⟨u, hr, hu⟩ := key w'
        obtain rfl : u = _ := hu
        exact hr
    have hW' := hW
    cases hW with
    | plain hg hdd =>
      obtain ⟨u, hr, hu⟩ := solid none none s none_g trivial hdd
      exact ⟨u, .inl ⟨by simp [Region.wanted, hg], hr⟩, D.after hC ho hH hn hla hφ hW' h hd hu.toS⟩
    | @way g t want q hg ht hq s1 hdd =>
      have htm := D.bool hC ho hH hn hw hg ht hq h
      by_cases hqw : q = want
      · obtain ⟨u, hr, hu⟩ := solid (some (t, want)) (some (q, want)) s1 (fun t' w' e => by simp only [Option.some.injEq, Prod.mk.injEq] at e; obtain ⟨rfl, rfl⟩ := e; rw [htm, hqw]) hqw hdd
        exact ⟨u, .inl ⟨by rw [wanted_eq hg ht, htm]; simp [isWant, hqw], hr⟩, D.after hC ho hH hn hla hφ hW' h hd ⟨q, htm, fun _ => hu, fun e => (e hqw).elim⟩⟩
      · exact ⟨undef, .inr ⟨by rw [wanted_eq hg ht, htm]; simpa [isWant] using hqw, rfl⟩, D.after hC ho hH hn hla hφ hW' h hd ⟨q, htm, fun e => (hqw e).elim, fun _ => rfl⟩⟩
    | @off g t want hg ht x hx hnb =>
      have htm := D.bool hC ho hH hn hw hg ht hx h
      exact ⟨undef, .inr ⟨by rw [wanted_eq hg ht, htm]; cases x <;> first | exact (hnb _ rfl).elim | simp [isWant], rfl⟩, D.after hC ho hH hn hla hφ hW' h hd rfl⟩

/-! ### how many are left -/
def left (l : List Bool) : Nat := (l.filter (!·)).length
theorem left_set : ∀ {l : List Bool} {j : Nat}, l[j]? = some false → left (l.set j true) + 1 = left l
  | [], j, h => by simp at h
  | q :: l, 0, h => by
    simp only [List.getElem?_cons_zero, Option.some.injEq] at h
    subst h
    simp [left]
  | q :: l, j + 1, h => by
    have := left_set (l := l) (j := j) (by simpa using h)
    cases q <;> simp [left] at this ⊢ <;> omega
theorem left_rep (m : Nat) : left (List.replicate m false) = m := by simp [left]

/-! ### the listed ones -/
def Sl (listed : Array Bool) (i : Nat) : Prop := listed.getD i false = true
theorem Sl_set {listed : Array Bool} {j : Nat} (hj : j < listed.size) : Sl (listed.setIfInBounds j true) = plus (Sl listed) j := by
  funext i
  apply propext
  unfold Sl plus
  by_cases e : j = i
  · subst e; simp [hj]
  · rw [getD_set_ne false e]
    exact ⟨.inl, fun h => h.elim id fun h => (e h.symm).elim⟩
theorem ready_facts {listed : Array Bool} {j : Nat} (hsz : listed.size = ops.size) (h : j ∈ Region.ready .any ops listed) : j < listed.size ∧ listed.toList[j]? = some false ∧ ¬ Sl listed j ∧ ∀ i, waits ops j i = true → Sl listed i := by
  obtain ⟨h0, o, ho, hall⟩ := mem_ready.1 h
  have hlt : j < listed.size := by rw [hsz]; exact (Array.getElem?_eq_some_iff.1 ho).1
  have h1 : listed[j] = false := by simpa [hlt] using h0
  refine ⟨hlt, by simp [hlt, h1], fun hs => ?_, fun i hi => ?_⟩
  · unfold Sl at hs; simp [hlt, h1] at hs
  · obtain ⟨o', ho', e, he, hb, rfl⟩ := waits_iff.1 hi
    rw [ho] at ho'; cases ho'
    exact hall e he hb
theorem DOk.phase (D : DOk E ops hf sts) {M : Nat → Prop} {ρ0 : Nat → Nat} {a0 : Act} {Q : Exit → Act → World → Prop} (hM : ∀ (i : Nat) (o : Oper), ops[i]? = some o → ∀ x, o.dst = some x → x < n ∧ M x) (hQ : ∀ c a w, ¬ Q (.panic c) a w)
    (hfree : ∀ (i : Nat) (oi : Oper) (j : Nat) (oj : Oper), ops[i]? = some oi → HF hf i → isPk oi.op = true → ops[j]? = some oj → i = j ∨ waits ops j i = true ∨ waits ops i j = true ∨ oi.apart ops oj = true)
    (tail : ∀ ρ a w v', Pad (sts 0).v v' → Rel v0 w0 n ρ ⟨(sts ops.size).φ, (sts ops.size).L, v'⟩ a w → FrM M ρ0 a0 ρ a → wpAny E.P .any ops Q (left hf) ⟨hf⟩ a w) :
    ∀ (fuel : Nat) (listed : Array Bool) (ρ : Nat → Nat) (a : Act) (w v' : World), listed.size = ops.size → fuel = left listed.toList → (∀ i, Sl listed i → HF hf i) → Clean E ops hf sts (Sl listed) → Pad (sts 0).v v' →
      Rel v0 w0 n ρ ⟨mask ops hf sts (Sl listed), maskL E ops hf sts (Sl listed), v'⟩ a w → FrM M ρ0 a0 ρ a → wpAny E.P .any ops Q fuel listed a w := by
  intro fuel
  induction fuel with
  | zero =>
    intro listed ρ a w v' hsz hfu hsub hC hp h hf0
    have hall : ∀ i, HF hf i → Sl listed i := fun i hi => by
      refine Classical.byContradiction fun hn => ?_
      have hlt : i < listed.size := by rw [hsz]; exact D.lt hi
      have : listed[i] = false := by unfold Sl at hn; simpa [hlt] using hn
      have := left_set (l := listed.toList) (j := i) (by simp [hlt, this])
      omega
    exact DOk.phase_done D tail hsz hfu hsub hall hp h hf0
  | succ fuel ih =>
    intro listed ρ a w v' hsz hfu hsub hC hp h hf0
    by_cases hall : ∀ i, HF hf i → Sl listed i
    · exact DOk.phase_done D tail hsz hfu hsub hall hp h hf0
    · obtain ⟨i0, hi0⟩ := Classical.not_forall.1 hall
      obtain ⟨hi1, hi2⟩ := Classical.not_imp.1 hi0
      -- the first that is not done
      have first : ∃ p, HF hf p ∧ ¬ Sl listed p ∧ ∀ i, i < p → HF hf i → Sl listed i := by
        clear hi0
        induction i0 using Nat.strongRecOn with
        | ind i ihh =>
          by_cases hx : ∃ k, k < i ∧ HF hf k ∧ ¬ Sl listed k
          · obtain ⟨k, hk, h1, h2⟩ := hx
            exact ihh k hk h1 h2
          · exact ⟨i, hi1, hi2, fun k hk h1 => Classical.byContradiction fun h2 => hx ⟨k, hk, h1, h2⟩⟩
      obtain ⟨p, hp1, hp2, hp3⟩ := first
      obtain ⟨op, hop⟩ := DOk.op (D.lt hp1)
      have hplt : p < listed.size := by rw [hsz]; exact D.lt hp1
      have hpf : listed[p] = false := by unfold Sl at hp2; simpa [hplt] using hp2
      have hpr : p ∈ Region.ready .any ops listed := mem_ready.2 ⟨by simp [hplt, hpf], op, hop, fun e he hb => by
        obtain ⟨h1, h2⟩ := D.edge p op hop hp1 e he hb
        exact hp3 _ h1 h2⟩
      have step : ∀ j, j ∈ Region.ready .any ops listed → HF hf j → (listed.setIfInBounds j true).size = ops.size ∧ fuel = left (listed.setIfInBounds j true).toList ∧ (∀ i, Sl (listed.setIfInBounds j true) i → HF hf i) ∧
          Clean E ops hf sts (Sl (listed.setIfInBounds j true)) ∧ Sl (listed.setIfInBounds j true) = plus (Sl listed) j := fun j hj hH => by
        obtain ⟨r1, r2, r3, r4⟩ := ready_facts hsz hj
        obtain ⟨o, ho⟩ := DOk.op (D.lt hH)
        have e := Sl_set r1
        refine ⟨by simp [hsz], ?_, ?_, ?_, e⟩
        · have := left_set r2
          rw [Array.toList_setIfInBounds]
          omega
        · rw [e]; exact fun i hi => hi.elim (hsub i) fun e => by rw [e]; exact hH
        · rw [e]; exact D.clean_step hC ho hH r3 r4
      by_cases hpend : ∀ i oi, ops[i]? = some oi → HF hf i → ¬ Sl listed i → isPk oi.op = true
      · obtain ⟨r1, r2, r3, r4⟩ := ready_facts hsz hpr
        obtain ⟨s1, s2, s3, s4, s5⟩ := step p hpr hp1
        obtain ⟨u, hy, hr⟩ := D.pure hC hp h hop hp1 r3 r4 (fun x hx => (hM p op hop x hx).1) (hpend p op hop hp1 hp2)
        refine wpAny_take hop D.nosel ?_ (by simpa using hpr) (fun c a w hh => (hQ _ _ _ hh).elim) hy (ih _ ρ _ w v' s1 s2 s3 s4 hp (by rw [s5]; exact hr) ?_)
        · unfold Region.free
          simp only [hop, List.all_eq_true, List.mem_range]
          intro k hk
          obtain ⟨ok, hok⟩ := DOk.op hk
          have hkl : k < listed.size := by omega
          rcases hfree p op k ok hop hp1 (hpend p op hop hp1 hp2) hok with e | hx | hx | hx
          · simp [e]
          · obtain ⟨o', ho', e, he, hb, hon⟩ := waits_iff.1 hx
            rw [hok] at ho'; cases ho'
            simp only [hok, Bool.or_eq_true]
            exact .inr (.inl (Array.any_eq_true'.2 ⟨e, he, by simp [hb, hon]⟩))
          · have := r4 k hx
            unfold Sl at this
            have h2 : listed[k] = true := by simpa [hkl] using this
            simp [hkl, h2]
          · simp [hok, hx]
        · exact hf0.trans ((Fr.put h (fun x hx => (hM p op hop x hx).1) u).toM fun x hx => (hM p op hop x hx).2)
      · refine ⟨fun e => by (rw [e] at hpr; cases hpr), fun j hj => ?_⟩
        obtain ⟨r1, r2, r3, r4⟩ := ready_facts hsz hj
        obtain ⟨o, ho⟩ := DOk.op (show j < ops.size by omega)
        by_cases hH : HF hf j
        · obtain ⟨s1, s2, s3, s4, s5⟩ := step j hj hH
          refine D.exec hC hp h ho hH r3 r4 (fun x hx => (hM j o ho x hx).1) fun a' w' ρ' v2 hp2 hr2 hf2 => ih _ ρ' a' w' v2 s1 s2 s3 s4 hp2 (by rw [s5]; exact hr2) ?_
          exact hf0.trans (hf2.toM fun x hx => (hM j o ho x hx).2)
        · exfalso
          rcases D.rest j o ho hH with ⟨e, he, hb, hne, _⟩ | hrest
          · exact hne (hsub _ (r4 e.on (waits_iff.2 ⟨o, ho, e, he, hb, rfl⟩)))
          · refine hpend fun i oi hi h1 h2 => ?_
            rcases hrest i oi hi h1 with hh | hh
            · exact hh
            · exact (h2 (r4 i hh)).elim
where
  DOk.phase_done (D : DOk E ops hf sts) {M : Nat → Prop} {ρ0 : Nat → Nat} {a0 : Act} {Q : Exit → Act → World → Prop}
    (tail : ∀ ρ a w v', Pad (sts 0).v v' → Rel v0 w0 n ρ ⟨(sts ops.size).φ, (sts ops.size).L, v'⟩ a w → FrM M ρ0 a0 ρ a → wpAny E.P .any ops Q (left hf) ⟨hf⟩ a w) {fuel : Nat} {listed : Array Bool} {ρ : Nat → Nat} {a : Act} {w v' : World}
    (hsz : listed.size = ops.size) (hfu : fuel = left listed.toList) (hsub : ∀ i, Sl listed i → HF hf i) (hall : ∀ i, HF hf i → Sl listed i) (hp : Pad (sts 0).v v')
    (h : Rel v0 w0 n ρ ⟨mask ops hf sts (Sl listed), maskL E ops hf sts (Sl listed), v'⟩ a w) (hf0 : FrM M ρ0 a0 ρ a) : wpAny E.P .any ops Q fuel listed a w := by
    have e : listed = ⟨hf⟩ := by
      apply Array.ext
      · simp [hsz, D.len]
      · intro i h1 h2
        have h2' : i < hf.length := h2
        have hi : listed[i] = true ↔ hf[i] = true := ⟨fun h => by have := hsub i (by unfold Sl; simpa [h1] using h); unfold HF at this; simpa [h2'] using this, fun h => by have := hall i (by unfold HF; simpa [h2'] using h); unfold Sl at this; simpa [h1] using this⟩
        exact Bool.eq_iff_iff.2 hi
    have e1 : mask ops hf sts (Sl listed) = (sts ops.size).φ := by
      funext t
      unfold mask
      rw [if_neg (fun ⟨i, o', h1, h2, h3, h4⟩ => h3 (hall i h2))]
    have e2 : maskL E ops hf sts (Sl listed) = (sts ops.size).L := by
      funext t
      unfold maskL
      rw [if_neg (fun ⟨i, o', h1, h2, h3, h4⟩ => h3 (hall i h2))]
    rw [e1, e2] at h
    rw [hfu, e]
    exact tail ρ a w v' hp h hf0

/-! ### what is left, in every order -/
theorem allJ_mem : ∀ {js : List Nat} {F : Nat → Prop}, allJ js F → ∀ j ∈ js, F j
  | [], _, _, j, hj => by simp at hj
  | [k], F, h, j, hj => by obtain rfl : j = k := by simpa using hj
                           exact h
  | k :: k' :: js, F, h, j, hj => by
    rcases List.mem_cons.1 hj with rfl | hj
    · exact h.1
    · exact allJ_mem (js := k' :: js) h.2 j hj
theorem tail_sound {M : Nat → Prop} {K : St → Prop} {Q : Exit → Act → World → Prop} (hM : ∀ (i : Nat) (o : Oper), ops[i]? = some o → ∀ x, o.dst = some x → x < n ∧ M x) : ∀ (m : Nat) (listed : Array Bool) (st : St) (ρ : Nat → Nat) (a : Act) (w : World),
    Rel v0 w0 n ρ st a w → vcTail E ops m listed st K → (∀ a' w' st' ρ', K st' → Rel v0 w0 n ρ' st' a' w' → FrM M ρ a ρ' a' → Q .normal a' w') → wpAny E.P .any ops Q m listed a w := by
  intro m
  induction m with
  | zero =>
    intro listed st ρ a w h hv hQ
    unfold vcTail at hv
    split at hv
    · rename_i hr
      exact ⟨hr, hQ a w st ρ hv h (FrM.refl M ρ a)⟩
    · exact hv.elim
  | succ m ih =>
    intro listed st ρ a w h hv hQ
    unfold vcTail at hv
    split at hv
    · rename_i hr
      exact ⟨fun _ => hQ a w st ρ hv h (FrM.refl M ρ a), fun i hi => by (rw [hr] at hi; cases hi)⟩
    · rename_i hne
      refine ⟨fun e => (hne e).elim, fun j hj => ?_⟩
      have hj1 := allJ_mem hv j hj
      split at hj1
      · rename_i o ho
        have hd : ∀ x, o.dst = some x → x < n := fun x hx => (hM j o ho x hx).1
        have next : ∀ a' w', Next' v0 w0 n o.dst ρ a (fun s => vcTail E ops m (listed.setIfInBounds j true) s K) a' w' → wpAny E.P .any ops Q m (listed.setIfInBounds j true) a' w' := fun a' w' ⟨st', ρ', hv', h', hf⟩ =>
          ih _ st' ρ' a' w' h' hv' fun a2 w2 st2 ρ2 hK2 h2 hf2 => hQ a2 w2 st2 ρ2 hK2 h2 ((hf.toM fun x hx => (hM j o ho x hx).2).trans hf2)
        unfold wpOp
        simp only [ho]
        unfold stepG at hj1
        split at hj1
        · rename_i hg
          rw [if_pos (by simp [Region.wanted, hg])]
          exact .inl (Oper.wp_mono next (op_sound h hd hj1))
        · rename_i g want hg
          split at hj1
          · exact hj1.elim
          · rename_i t ht
            have hs := guard_sound (Q := Q) hd hg ht 4 st h hj1
            cases hw : Region.wanted o (yielded ops a.tmps) with
            | true => rw [if_pos rfl]; exact .inl (Oper.wp_mono next (hs.1 hw))
            | false => rw [if_neg (by simp)]; exact next _ _ (hs.2 hw)
      · exact hj1.elim
end
end Vc
end Go.Proofs.Ytnlekdpnjphmfaa
