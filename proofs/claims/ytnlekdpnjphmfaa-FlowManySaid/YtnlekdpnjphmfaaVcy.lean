/- The conditions of Vc are sound for the model's code: a region that draws its order, from its condition. -/
import Derived.Test.YtnlekdpnjphmfaaVcw
namespace Go.Proofs.Ytnlekdpnjphmfaa
namespace Vc
section
variable {E : Env} {v0 w0 : World} {n : Nat} {ops : Array Oper} {hf : List Bool} {st : St} {ρ : Nat → Nat} {a : Act} {w : World}
theorem all_range {m : Nat} {p : Nat → Bool} (h : (List.range m).all p = true) (i : Nat) (hi : i < m) : p i = true := List.all_eq_true.1 h i (List.mem_range.2 hi)
theorem hasN_mem {l : List Nat} {k : Nat} (h : k ∈ l) : hasN l k = true := List.any_eq_true.2 ⟨k, h, by simp⟩
theorem keys_mem : ∀ (l : List Oper) (bs : List Bool) (k : Nat) (o : Oper) (d : Nat), l[k]? = some o → bs.getD k false = true → isLA E o = true → o.dst = some d → d ∈ keysLA E l bs
  | [], _, k, o, d, h, _, _, _ => by simp at h
  | x :: l, [], k, o, d, _, h, _, _ => by simp at h
  | x :: l, q :: bs, 0, o, d, h, hq, hl, hd => by
    simp only [List.getElem?_cons_zero, Option.some.injEq] at h
    subst h
    simp only [List.getD_cons_zero] at hq
    unfold keysLA
    simp only [hq, hl, hd, Bool.and_self]
    simp
  | x :: l, q :: bs, k + 1, o, d, h, hq, hl, hd => by
    have := keys_mem l bs k o d (by simpa using h) (by simpa using hq) hl hd
    unfold keysLA
    split
    · exact List.mem_cons_of_mem _ this
    · exact this
theorem dOf_some {i : Nat} {o : Oper} {d : Nat} (ho : ops[i]? = some o) (hd : o.dst = some d) : dOf ops i = some d := by
  unfold dOf; rw [ho]; exact hd
theorem looksB_iff {j t : Nat} {o : Oper} (ho : ops[j]? = some o) : looksB ops j t = true ↔ t ∈ o.looksAt ops := by
  unfold looksB hasN
  rw [ho]
  simp only [List.any_eq_true]
  constructor
  · rintro ⟨x, hx, e⟩; rw [Nat.eq_of_beq_eq_true e]; exact hx
  · intro h; exact ⟨t, h, by simp⟩
theorem ok_row {j : Nat} (h : okDraw ops hf = true) (hj : j < ops.size) : (match hf.getD j false with
    | true => okGuard ops hf j && okSelf ops j && (List.range ops.size).all fun i => match hf.getD i false && !(Nat.beq i j) with
      | false => true
      | true => okPair ops j i
    | false => okRest ops hf j) = true := by
  unfold okDraw at h
  rw [Bool.and_eq_true] at h
  exact all_range h.2 j hj
theorem ok_true {j : Nat} (h : okDraw ops hf = true) (hj : j < ops.size) (hH : HF hf j) : okGuard ops hf j = true ∧ okSelf ops j = true ∧ ∀ i, i < ops.size → HF hf i → i ≠ j → okPair ops j i = true := by
  have := ok_row h hj
  unfold HF at hH
  rw [hH] at this
  simp only [Bool.and_eq_true] at this
  refine ⟨this.1.1, this.1.2, fun i hi hHi hne => ?_⟩
  have h2 := all_range this.2 i hi
  unfold HF at hHi
  rw [hHi, show Nat.beq i j = false from Bool.eq_false_iff.2 fun e => hne (Nat.eq_of_beq_eq_true e)] at h2
  exact h2
theorem sized {j : Nat} {o : Oper} (ho : ops[j]? = some o) : j < ops.size := (Array.getElem?_eq_some_iff.1 ho).1
theorem draw_ok {q : Oper → Bool} (hqq : ∀ o, q o = true → quietO E o = true) (h : okDraw ops hf = true) (hfl : hf = flagsH q ops.toList []) {sts : Nat → St} {ks : List Nat} (hks : ks = keysLA E ops.toList hf) (e0 : sts 0 = ⟨fun i => sanS ks (st.φ i), sanL ks st.L, st.v⟩)
    (hs : ∀ k o, ops.toList[k]? = some o → (hf.getD k false = false → sts (k + 1) = sts k) ∧ (hf.getD k false = true → StepD E ops o (sts k) (sts (k + 1)))) : DOk E ops hf sts := by
  obtain ⟨t, f1, f2, f3⟩ := flags_spec (q := q) ops.toList []
  have et : hf = t := by rw [hfl, f1]; rfl
  have lst : ∀ {k : Nat} {o : Oper}, ops[k]? = some o → ops.toList[k]? = some o := fun {k o} h => by simpa using h
  have key : ∀ i o k, ops[i]? = some o → HF hf i → isLA E o = true → o.dst = some k → hasN ks k = true := fun i o k h1 h2 h3 h4 => by
    rw [hks]; exact hasN_mem (keys_mem ops.toList hf i o k (lst h1) h2 h3 h4)
  refine ⟨by rw [et, f2]; simp, ?_, ?_, ?_, ?_, ?_, ?_, ?_, ?_, ?_, ?_, ?_, ?_⟩
  · unfold okDraw at h; rw [Bool.and_eq_true] at h; exact h.1
  · intro j o ho hH e he hb
    have := (f3 j o (lst ho) (by rw [← et]; exact hH)).2 e he hb
    exact ⟨by have := this.1; simpa using this, by rw [et]; exact this.2⟩
  · intro j o ho hH
    exact hqq o (f3 j o (lst ho) (by rw [← et]; exact hH)).1
  · intro j o g want ho hH hg
    have := (ok_true h (sized ho) hH).1
    unfold okGuard at this
    rw [ho] at this
    simp only [Option.bind_some, hg, Bool.and_eq_true] at this
    exact this
  · intro j o d ho hH hd hl
    have := (ok_true h (sized ho) hH).2.1
    unfold okSelf at this
    rw [dOf_some ho hd] at this
    simp only [(looksB_iff ho).2 hl] at this
    cases this
  · intro i j oi oj d hi hj Hi Hj hne di
    have := (ok_true h (sized hj) Hj).2.2 i (sized hi) Hi hne
    unfold okPair at this
    rw [dOf_some hi di] at this
    simp only [Bool.and_eq_true, Bool.or_eq_true] at this
    refine ⟨fun dj => ?_, fun hl => ?_⟩
    · have h1 := this.1
      rw [dOf_some hj dj] at h1
      simp at h1
    · have h2 := this.2
      rw [(looksB_iff hj).2 hl] at h2
      simp only [Bool.not_true, Bool.false_eq_true, false_or] at h2
      constructor
      · intro hlt
        rw [show Nat.blt i j = true by simp [Nat.blt_eq, hlt]] at h2
        exact h2
      · intro hlt
        rw [show Nat.blt i j = false from Bool.eq_false_iff.2 fun e => hlt (by simpa [Nat.blt_eq] using e)] at h2
        exact h2
  · intro j o ho hH
    have := ok_row h (sized ho)
    have hfa : hf.getD j false = false := by unfold HF at hH; simpa using hH
    rw [hfa] at this
    simp only at this
    unfold okRest at this
    rw [ho, Bool.or_eq_true] at this
    rcases this with h1 | h1
    · obtain ⟨e, he, hb⟩ := List.any_eq_true.1 h1
      simp only [Bool.and_eq_true, Bool.not_eq_true'] at hb
      exact .inl ⟨e, by simpa using he, hb.1.1, fun hh => by (unfold HF at hh; rw [hb.1.2] at hh; cases hh), by simpa [Nat.blt_eq] using hb.2⟩
    · refine .inr fun i oi hi hHi => ?_
      have h2 := all_range h1 i (sized hi)
      unfold HF at hHi
      rw [hHi, hi] at h2
      simpa [Bool.or_eq_true] using h2
  · intro k o ho hH
    exact (hs k o (lst ho)).1 (by unfold HF at hH; simpa using hH)
  · intro k o ho hH
    exact (hs k o (lst ho)).2 hH
  · intro t j w s he
    rw [e0] at he
    change sanS ks (st.φ t) = _ at he
    unfold sanS at he
    split at he
    · cases he
    · split at he <;> cases he
    · rename_i hne _; exact hne _ _ _ he
  · intro t k f he i o ho hH hla hd
    have hk := key i o k ho hH hla hd
    rw [e0] at he
    change sanS ks (st.φ t) = _ at he
    unfold sanS at he
    split at he
    · cases he
    · rename_i k' o' _
      cases hb : hasN ks k' with
      | true => rw [hb] at he; cases he
      | false => rw [hb] at he; cases he; rw [hk] at hb; cases hb
    · rename_i hne; exact hne _ _ he
  · intro i o k ho hH hla hd
    have hk := key i o k ho hH hla hd
    rw [e0]
    show sanL ks st.L k = none
    unfold sanL
    rw [hk]
theorem san_rel {ks : List Nat} (h : Rel v0 w0 n ρ st a w) : Rel v0 w0 n ρ ⟨fun i => sanS ks (st.φ i), sanL ks st.L, st.v⟩ a w := by
  have hL : ∀ k cs, sanL ks st.L k = some cs → st.L k = some cs := fun k cs hc => by
    unfold sanL at hc
    cases hb : hasN ks k with
    | true => rw [hb] at hc; cases hc
    | false => rw [hb] at hc; exact hc
  refine ⟨h.size, h.defers, fun i => ?_, h.vis, h.keep, fun k cs hc => h.locals k cs (hL k cs hc), fun k k' cs cs' h1 h2 => h.inj k k' cs cs' (hL k cs h1) (hL k' cs' h2)⟩
  have := h.slots i
  show RelS ρ (tm a) (tm a i) (sanS ks (st.φ i))
  cases hφ : st.φ i with
  | val x => rw [hφ] at this; exact this
  | dead => trivial
  | spec _ _ _ => trivial
  | loc k o =>
    rw [hφ] at this
    show RelS ρ (tm a) (tm a i) (match hasN ks k with | true => .dead | false => .loc k o)
    cases hasN ks k with
    | true => trivial
    | false => exact this
theorem drawn_rel (h : Rel v0 w0 n ρ st a w) : Rel v0 w0 n ρ st a { w with drawn := w.drawn + 1 } :=
  ⟨h.size, h.defers, h.slots, ⟨h.vis.size, h.vis.os, h.vis.tape, h.vis.output, h.vis.block⟩, ⟨h.keep.size, h.keep.os, h.keep.tape, h.keep.output, h.keep.hole⟩, h.locals, h.inj⟩
theorem left_all {m : Nat} : left (Array.replicate m false).toList = m := by simp [left]
theorem draw_sound {M : Nat → Prop} {K : St → Prop} {Q : Exit → Act → World → Prop} {id : Nat} (hM : ∀ (i : Nat) (o : Oper), ops[i]? = some o → ∀ x, o.dst = some x → x < n ∧ M x) (hpan : ∀ c a w, ¬ Q (.panic c) a w) (h : Rel v0 w0 n ρ st a w)
    (hv : vcDraw E ops st K) (hQ : ∀ a' w' st' ρ', K st' → Rel v0 w0 n ρ' st' a' w' → FrM M ρ a ρ' a' → Q .normal a' w') : (Code.region id ops true).wp E.P Q a w := by
  unfold vcDraw at hv
  dsimp only at hv
  obtain ⟨q, hfq, hqq⟩ : ∃ q : Oper → Bool, flagsD E ops = flagsH q ops.toList [] ∧ ∀ o, q o = true → quietO E o = true := by
    unfold flagsD
    split
    · exact ⟨_, rfl, fun o h => h⟩
    · exact ⟨_, rfl, fun o h => by unfold quietO; rw [h]; rfl⟩
  generalize flagsD E ops = hf at hv hfq
  split at hv
  · exact hv.elim
  rename_i hb
  simp only [Bool.and_eq_true] at hb
  obtain ⟨⟨hmix, hok⟩, hfr⟩ := hb
  obtain ⟨t, f1, f2, f3⟩ := flags_spec (q := q) ops.toList []
  have hlen : hf.length = ops.toList.length := by rw [hfq, f1, List.nil_append]; exact f2
  obtain ⟨sts, e0, hs, hK⟩ := drun_chain ops.toList _ _ hlen hv
  have D := draw_ok (st := st) hqq hok hfq rfl e0 hs
  refine wp_region_any hmix ?_
  have hnl : ∀ i, ¬ Sl (Array.replicate ops.size false) i := fun i hi => by
    unfold Sl at hi
    rw [Array.getD_eq_getD_getElem?, Array.getElem?_replicate] at hi
    split at hi <;> cases hi
  have hm0 : mask ops hf sts (Sl (Array.replicate ops.size false)) = (sts 0).φ := by
    funext t
    unfold mask
    by_cases hp : pend ops hf (Sl (Array.replicate ops.size false)) t
    · rw [if_pos hp]
    · rw [if_neg hp]
      exact D.φstay (by omega) (Nat.le_refl _) fun i o _ _ h1 h2 h3 => hp ⟨i, o, h1, h2, hnl i, h3⟩
  have hL0 : maskL E ops hf sts (Sl (Array.replicate ops.size false)) = (sts 0).L := by
    funext c
    unfold maskL
    by_cases hp : pendA E ops hf (Sl (Array.replicate ops.size false)) c
    · rw [if_pos hp]
      obtain ⟨i, o, h1, h2, _, h3, h4⟩ := hp
      exact (D.noL0 i o c h1 h2 h3 h4).symm
    · rw [if_neg hp]
      exact D.Lstay (by omega) (Nat.le_refl _) fun i o _ _ h1 h2 h3 h4 => hp ⟨i, o, h1, h2, hnl i, h3, h4⟩
  have hr0 := san_rel (ks := keysLA E ops.toList hf) (drawn_rel h)
  refine D.phase (v0 := v0) (w0 := w0) (M := M) (ρ0 := ρ) (a0 := a) hM hpan (fun i oi j oj hi hH hpk hj => ?_) (fun ρ1 a1 w1 v1 hp1 hr1 hf1 => ?_) ops.size _ ρ a _ st.v (by simp) left_all.symm (fun i hi => (hnl i hi).elim) ⟨fun i j hi => (hnl i hi).elim, fun t k hm hp => ?_, fun t k hm _ => ?_⟩ ?_ ?_ (FrM.refl M ρ a)
  · have h1 : (List.range ops.size).all (fun i => match hf.getD i false, ops[i]? with
      | true, some o => !(isPk o.op) || (List.range ops.size).all fun j => Nat.beq i j || waits ops j i || waits ops i j || (match ops[j]? with | some o' => o.apart ops o' | none => true)
      | _, _ => true) = true := hfr
    have h2 := all_range h1 i (sized hi)
    unfold HF at hH
    rw [hH, hi] at h2
    simp only [hpk, Bool.not_true, Bool.false_or] at h2
    have h3 := all_range h2 j (sized hj)
    rw [hj] at h3
    simp only [Bool.or_eq_true] at h3
    rcases h3 with ((h3 | h3) | h3) | h3
    · exact .inl (Nat.eq_of_beq_eq_true h3)
    · exact .inr (.inl h3)
    · exact .inr (.inr (.inl h3))
    · exact .inr (.inr (.inr h3))
  · have hK' := hK v1 (by
      have : (sts 0).v = st.v := by rw [e0]
      rw [← this]; exact hp1)
    refine tail_sound hM _ _ ⟨(sts ops.size).φ, (sts ops.size).L, v1⟩ ρ1 a1 w1 hr1 (by unfold left; simpa using hK') fun a' w' st' ρ' hk' hr' hf' => hQ a' w' st' ρ' hk' hr' (hf1.trans hf')
  · rw [hm0] at hm
    obtain ⟨i, o, h1, h2, _, h3, h4⟩ := hp
    cases hφ : (sts 0).φ t with
    | val x => rw [hφ] at hm; exact hm
    | dead => rw [hφ] at hm; exact hm
    | spec j w s => exact D.nospec0 t j w s hφ
    | loc k' f =>
      rw [hφ] at hm
      have : k' = k := hm
      subst this
      exact D.noloc0 t k' f hφ i o h1 h2 h3 h4
  · rw [hm0] at hm
    cases hφ : (sts 0).φ t with
    | val x => rw [hφ] at hm; exact hm
    | dead => rw [hφ] at hm; exact hm
    | spec j w s => exact D.nospec0 t j w s hφ
    | loc k' f => rw [hφ] at hm; exact hm
  · rw [e0]; exact .refl
  · rw [hm0, hL0, e0]; exact hr0
end
end Vc
end Go.Proofs.Ytnlekdpnjphmfaa
