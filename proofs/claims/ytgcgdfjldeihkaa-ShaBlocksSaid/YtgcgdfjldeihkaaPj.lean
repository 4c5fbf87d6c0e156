/- Pure evaluation of the model's code: what a call leaves. -/
import Derived.Test.YtgcgdfjldeihkaaPk
namespace Go.Proofs.Ytgcgdfjldeihkaa
namespace Pv
set_option linter.unusedVariables false
section
variable {P : Program} {E : Env} {F : Fr} {g g' : Gh} {st : PSt} {a : Act} {w w' : World} {σ : Tok → Tok → Prop} {o : Oper} {R : Type} {C : Upd → Option R} {r : R}
theorem Frame.gw {F : Fr} {C : Com} (h : Frame F C w) (hx : ∀ b o, F.X b o → ¬ F.C0 b o) : Gw F.w0 F.C0 w C := fun ad u hc hC => by
  refine ⟨?_, h.mono _ _ hC⟩
  have hlt := cell_lt hc
  unfold World.cell? at hc ⊢
  split at hc
  · rename_i cs T fr hb
    obtain ⟨cs', fr', h1, h2, h3⟩ := h.shape _ cs T fr hlt hb
    rw [h1]
    simp only
    by_cases hs : ad.spot.isSome = true
    · rw [if_pos hs] at hc; cases hc
    · rw [if_neg hs] at hc ⊢
      rw [h3 _ fun hX => hx _ _ hX hC]
      exact hc
  · cases hc
/-- A block that a call had no leave to touch. -/
theorem Frame.kp {F : Fr} {C : Com} (h : Frame F C w) {b : Nat} (hlt : b < F.w0.heap.size) (hx : ∀ o, ¬ F.X b o) : w.heap[b]? = F.w0.heap[b]? ∧ ∀ o, C b o ↔ F.C0 b o := ⟨h.old b hlt hx, fun o => h.com b o hlt (hx o)⟩
theorem callX_wr (h : MRel F g st (tm a) w) {ks : List Tok} {ms : List (Nat × Nat)} {ls : List Leaf} {ts : List LT} {ds : List Dat} (hleaf : ∀ l ∈ ls, ∃ cs, RepL F g w st.O l cs) (htake : takeAll st.O ts ls = some (ks, ds)) {b o : Nat} (hx : callX g st ks ms b o) : Wr F b o := by
  rcases hx with ⟨k, σ, l, _, hL, rfl, h1, h2⟩ | ⟨k, hk, hO, hb, hc⟩
  · obtain ⟨cur, T, _, _, _, hw, _⟩ := h.locals k σ l hL
    exact (hw o h1 h2).2
  · obtain ⟨i, hi⟩ := List.mem_iff_getElem?.1 hk
    rcases take_own htake i k hi with rfl | ⟨E, e, l, q1, q2, q3⟩
    · rw [h.blk0] at hb; cases hb
    · obtain ⟨cs, hr⟩ := hleaf _ (List.mem_of_getElem? q2)
      obtain ⟨v, _, hown⟩ := hr.2 hO
      rcases hown with ⟨_, _, _, hn⟩ | ⟨b', cap, cur, _, hb', _, _, _, _, _, hcom, hw⟩
      · rw [hn] at hb; cases hb
      · rw [hb] at hb'
        cases hb'
        refine hw o ?_
        rcases Nat.lt_or_ge o (l.length * e.size) with hlt | hge
        · exact (hc ((hcom o).2 hlt)).elim
        · exact hge
theorem relT_res {F' : Fr} {O O' : Tok → Bool} (T : Turn F' g O F g' O' σ) (tmf : Nat → Value) : ∀ {rs : List (Bool × List LT)} {us : List Value} {ls ls' : List Leaf}, SameLs σ ls ls' → us.length = rs.length → (∀ i, i < rs.length → RelP F' g w O tmf (us.getD i undef) (resAt rs ls i)) →
    RelT F g' w O' us ((rs.map (·.1)).zip (cutN (rs.map (·.2.length)) ls'))
  | [], [], ls, ls', _, _, _ => trivial
  | [], _ :: _, _, _, _, h, _ => by simp at h
  | _ :: _, [], _, _, _, h, _ => by simp at h
  | (ag, ts) :: rs, u :: us, ls, ls', hs, hl, h => by
    refine ⟨?_, relT_res T tmf (hs.drop ts.length) (by simpa using hl) fun i hi => ?_⟩
    · have h0 : RelV F' g w O u ag (ls.take ts.length) := h 0 (by simp)
      exact h0.turn T (hs.take ts.length)
    · exact h (i + 1) (by simp; omega)
def mLens (ps : List Par) : List Nat := ps.filterMap fun | .m ts => some ts.length | .v _ _ => none
theorem inout_locs : ∀ {ps : List Par} {ms : List (Nat × Nat)} {os : List Leaf} {k : Nat} {l : List Leaf}, ms.map (·.2) = mLens ps → (k, l) ∈ locsOut ms os → ∃ i, keyAt ps ms i = some k ∧ inoutAt ps os i = some l
  | [], [], os, k, l, _, h => by cases h
  | [], _ :: _, os, k, l, hm, h => by simp [mLens] at hm
  | .v ag ts :: ps, ms, os, k, l, hm, h => by
    obtain ⟨i, h1, h2⟩ := inout_locs (ps := ps) (ms := ms) hm h
    exact ⟨i + 1, h1, h2⟩
  | .m ts :: ps, [], os, k, l, hm, h => by cases h
  | .m ts :: ps, (k0, n) :: ms, os, k, l, hm, h => by
    have hm' : n :: ms.map (·.2) = ts.length :: mLens ps := hm
    injection hm' with e1 e2
    rcases List.mem_cons.1 h with h | h
    · cases h
      exact ⟨0, rfl, by rw [e1]; rfl⟩
    · rw [e1] at h
      obtain ⟨i, h1, h2⟩ := inout_locs (ps := ps) (ms := ms) e2 h
      exact ⟨i + 1, h1, h2⟩
theorem argsP_lens : ∀ {ps : List Par} {xs : List Operand} {ts : List TypeId} {ls : List Leaf} {ms : List (Nat × Nat)} {ev : Operand → PV}, argsP P st ev ps xs ts = some (ls, ms) → ms.map (·.2) = mLens ps
  | [], [], ts, ls, ms, ev, hp => by
    simp only [argsP, Option.some.injEq, Prod.mk.injEq] at hp
    obtain ⟨rfl, rfl⟩ := hp
    rfl
  | [], _ :: _, _, _, _, _, hp => by cases hp
  | _ :: _, [], _, _, _, _, hp => by cases hp
  | p :: ps, x :: xs, ts, ls, ms, ev, hp => by
    unfold argsP at hp
    split at hp
    · rename_i la ma lb mb ha hb
      simp only [Option.some.injEq, Prod.mk.injEq] at hp
      obtain ⟨rfl, rfl⟩ := hp
      have ih := argsP_lens hb
      generalize argN P ts (ev x) = q at ha
      unfold argP at ha
      split at ha
      · split at ha
        · simp only [Option.some.injEq, Prod.mk.injEq] at ha
          obtain ⟨rfl, rfl⟩ := ha
          exact ih
        · cases ha
      · split at ha
        · split at ha
          · rename_i hb2
            simp only [Bool.and_eq_true] at hb2
            have hlen := Nat.eq_of_beq_eq_true hb2.2
            simp only [Option.some.injEq, Prod.mk.injEq] at ha
            obtain ⟨rfl, rfl⟩ := ha
            show _ :: mb.map (·.2) = _ :: mLens ps
            rw [ih, hlen]
          · cases ha
        · cases ha
      · cases ha
    · cases hp
theorem locsOut_keys : ∀ {ms : List (Nat × Nat)} {os : List Leaf}, (locsOut ms os).map (·.1) = ms.map (·.1)
  | [], _ => rfl
  | (k, n) :: ms, os => by
    show k :: (locsOut ms (os.drop n)).map (·.1) = _
    rw [locsOut_keys]; rfl
theorem inoutAt_same {ls ls' : List Leaf} : ∀ {ps : List Par} {i : Nat} {l' : List Leaf}, SameLs σ ls ls' → inoutAt ps ls' i = some l' → ∃ l, inoutAt ps ls i = some l ∧ SameLs σ l l' := by
  intro ps
  induction ps generalizing ls ls' with
  | nil => intro i l' _ h; cases h
  | cons p ps ih =>
    intro i l' hs h
    cases p with
    | v ag ts => cases i with
      | zero => cases h
      | succ i => exact ih hs h
    | m ts => cases i with
      | zero =>
        have h' : some (ls'.take ts.length) = some l' := h
        injection h' with e
        subst e
        exact ⟨_, rfl, hs.take _⟩
      | succ i => exact ih (hs.drop _) h
theorem inoutAt_isM : ∀ {ps : List Par} {ls : List Leaf} {i : Nat} {l : List Leaf}, inoutAt ps ls i = some l → isM ps i = true
  | [], _, _, _, h => by cases h
  | .v _ _ :: ps, ls, 0, _, h => by cases h
  | .m ts :: ps, ls, 0, _, h => rfl
  | .v _ _ :: ps, ls, i + 1, l, h => inoutAt_isM (ps := ps) h
  | .m _ :: ps, ls, i + 1, l, h => inoutAt_isM (ps := ps) h
theorem isM_inoutAt : ∀ {ps : List Par} {ls : List Leaf} {i : Nat}, isM ps i = true → ∃ l, inoutAt ps ls i = some l
  | [], _, _, h => by cases h
  | .v _ _ :: ps, ls, 0, h => by cases h
  | .m ts :: ps, ls, 0, h => ⟨_, rfl⟩
  | .v _ _ :: ps, ls, i + 1, h => isM_inoutAt (ps := ps) h
  | .m _ :: ps, ls, i + 1, h => isM_inoutAt (ps := ps) h
/-- The caller's ghosts behind a call. -/
def backG (g g' : Gh) (d : Nat) : Gh := ⟨g'.C, fun t => match t with | .op d' j => (match Nat.beq d' d with | true => g'.blk (.hd 0 j) | false => g.blk t) | _ => g.blk t, g.ρ, g.H⟩
theorem backG_new {d j : Nat} : (backG g g' d).blk (.op d j) = g'.blk (.hd 0 j) := by
  show (match Nat.beq d d with | true => g'.blk (.hd 0 j) | false => _) = _
  rw [show Nat.beq d d = true by simp]
theorem backG_old {d : Nat} {t : Tok} (h : ∀ j, t ≠ .op d j) : (backG g g' d).blk t = g.blk t := by
  cases t with
  | op d' j =>
    show (match Nat.beq d' d with | true => _ | false => g.blk (.op d' j)) = _
    have : Nat.beq d' d = false := Bool.eq_false_iff.2 fun e => h j (by rw [Nat.eq_of_beq_eq_true e])
    rw [this]
  | zero => rfl
  | hd _ _ => rfl
theorem go_back {n0 : Nat} (h : MRel F g st (tm a) w) {s : Sig} {xs : List Operand} {ts : List TypeId} {ls : List Leaf} {ms : List (Nat × Nat)} {ks : List Tok} {ds : List Dat} {d : Nat} {y : s.out.D} {stX : PSt} {us : List Value} {os : List Leaf}
    (hargs : argsP P st (evK st.kn st.φ) s.ps xs ts = some (ls, ms)) (htake : takeAll st.O (parsT s.ps) ls = some (ks, ds)) (hdt : distinctT ks = true) (hdk : distinctK ms = true)
    (hX : MRel ⟨n0, w, g.C, callX g st ks ms⟩ g' stX (fun i => us.getD i undef) w') (hexit : exitSt s y = some stX) (hlen : us.length = s.rs.length) (hρ : ∀ k, isM s.ps k = true → g'.ρ k = (callG g s ks ms).ρ k)
    (hos : mkLs (tokD (some d)) s.outs 0 (unpackD (s.outs.map LT.ty) y) = some os) (hfr : ∀ j, st.O (.op d j) = false) :
    OutR F g st w ⟨resP s.rs os, locsOut ms (os.drop s.nres), labs (tokD (some d)) s.outs 0, ks.flatMap gone1⟩ (retV us) (backG g g' d) w' := by
  obtain ⟨_, hleaf, hkeys, hper⟩ := argsP_facts h hargs
  have hwr := fun {b o : Nat} (hx : callX g st ks ms b o) => callX_wr h hleaf htake hx
  have hfree := fun {b o : Nat} (hx : callX g st ks ms b o) => callX_free h hx
  have hF := hX.fr
  unfold exitSt at hexit
  split at hexit
  · cases hexit
  rename_i osX hmk
  injection hexit with hexit
  have hsame := mk_mk hmk hos
  have inGone : ∀ k, k ∈ ks → k ≠ .zero → k ∈ ks.flatMap gone1 := fun k hk hz => List.mem_flatMap.2 ⟨k, hk, gone_mem hz⟩
  have notX : ∀ b, (∀ k, k ∈ ms.map (·.1) → ∀ x, st.L k = some x → (g.ρ k).1 ≠ b) → (∀ k, k ∈ ks → st.O k = true → g.blk k ≠ some b) → ∀ o, ¬ callX g st ks ms b o := fun b h1 h2 o hx => by
    rcases hx with ⟨k, σ, l, hk, hL, e, _⟩ | ⟨k, hk, hO, hb, _⟩
    · exact h1 k hk _ hL e.symm
    · exact h2 k hk hO hb
  have hC : ∀ (b : Nat), b < w.heap.size → (∀ o, ¬ callX g st ks ms b o) → Kp g w (backG g g' d) w' b := fun b hb hx => ⟨(hF.kp hb hx).1, (hF.kp hb hx).2⟩
  have ltL : ∀ k x, st.L k = some x → (g.ρ k).1 < w.heap.size := fun k x hL => by
    obtain ⟨cur, T, hc, _⟩ := h.locals k x.1 x.2 hL
    rcases Nat.lt_or_ge (g.ρ k).1 w.heap.size with hlt | hge
    · exact hlt
    · rw [Array.getElem?_eq_none hge] at hc; cases hc
  have labX : ∀ k, k ∈ labs (tokD (some d)) s.outs 0 → ∃ i E e, k = .op d i ∧ s.outs[i]? = some (.own E e) ∧ stX.O (.hd 0 i) = true := fun k hk => by
    obtain ⟨i, E, e, h1, rfl⟩ := labs_mem.1 hk
    refine ⟨i, E, e, by rw [Nat.zero_add]; rfl, h1, ?_⟩
    rw [← hexit]
    exact hasT_iff.2 (List.mem_cons_of_mem _ (labs_mem.2 ⟨i, E, e, h1, by rw [Nat.zero_add]⟩))
  have T : Turn ⟨n0, w, g.C, callX g st ks ms⟩ g' stX.O F (backG g g' d) (putO st.O (labs (tokD (some d)) s.outs 0) (ks.flatMap gone1)) (fun k k' => ∃ i E e, s.outs[i]? = some (.own E e) ∧ k = Tok.hd 0 (0 + i) ∧ k' = tokD (some d) (0 + i)) := by
    refine ⟨rfl, fun k k' ⟨i, E, e, h1, h2, h3⟩ _ => ?_, fun k k' b o ⟨i, E, e, h1, h2, h3⟩ _ hb hc hw => ?_⟩
    · subst h2; subst h3
      refine ⟨?_, backG_new⟩
      rw [← hexit]
      exact hasT_iff.2 (List.mem_cons_of_mem _ (labs_mem.2 ⟨i, E, e, h1, rfl⟩))
    · rcases hw with hw | hw
      · exact .inl (Nat.le_trans h.fr.size hw)
      · exact hwr hw
  have fr : Frame F g'.C w' := by
    refine ⟨Nat.le_trans h.fr.size hF.size, hF.os.trans h.fr.os, hF.tape.trans h.fr.tape, hF.output.trans h.fr.output, fun b hb hx => ?_, fun b cs T0 f hb hcs => ?_, fun b o hb hx => ?_, fun b o hc => hF.mono b o (h.fr.mono b o hc), hF.lim⟩
    · have hnx : ∀ o, ¬ callX g st ks ms b o := fun o hX => by
        rcases hwr hX with hw | hw
        · omega
        · exact hx o hw
      exact (hF.old b (Nat.lt_of_lt_of_le hb h.fr.size) hnx).trans (h.fr.old b hb hx)
    · obtain ⟨cs1, f1, q1, q2, q3⟩ := h.fr.shape b cs T0 f hb hcs
      obtain ⟨cs2, f2, q4, q5, q6⟩ := hF.shape b cs1 T0 f1 (Nat.lt_of_lt_of_le hb h.fr.size) q1
      refine ⟨cs2, f2, q4, q5.trans q2, fun o ho => ?_⟩
      rw [q6 o fun hX => ?_, q3 o ho]
      rcases hwr hX with hw | hw
      · omega
      · exact ho hw
    · rw [← h.fr.com b o hb hx]
      exact hF.com b o (Nat.lt_of_lt_of_le hb h.fr.size) fun hX => by
        rcases hwr hX with hw | hw
        · omega
        · exact hx hw
  refine ⟨fr, hF.gw fun b o hX => hfree hX, fun k hk ho => ?_, fun _ _ _ => rfl, fun _ => .inl rfl, rfl, fun tmf => ?_, fun t want ag l e => ?_, fun k l hm => ?_, fun k x hL hnm => ?_, ?_, fun k b hk hb => ?_, fun k k' b hk hk' hb hb' => ?_, fun k l hm hn => ?_⟩
  · rcases putO_true.1 ho with hb | ⟨hg, hO⟩
    · exact (hk hb).elim
    · refine ⟨hO, backG_old fun j e => ?_, fun b hb => hC b (h.blkS k b hO hb) (notX b (fun k1 _ x hL => h.blkL k b k1 x hO hb hL) fun k1 hk1 hO1 hb1 => ?_)⟩
      · rw [e, hfr j] at hO; cases hO
      · have := h.blkI k1 k b hO1 hO hb1 hb
        subst this
        exact hg (inGone k1 hk1 fun e => by rw [e, h.blk0] at hb; cases hb)
  · have hslot : ∀ i, RelP ⟨n0, w, g.C, callX g st ks ms⟩ g' w' stX.O (fun i => us.getD i undef) (us.getD i undef) (resAt s.rs osX i) := fun i => by
      have := hX.slots i
      rw [← hexit] at this ⊢
      exact this
    show RelP F (backG g g' d) w' (putO st.O (labs (tokD (some d)) s.outs 0) (ks.flatMap gone1)) tmf (retV us) (resP s.rs os)
    clear hexit
    generalize s.rs = rs at hslot hlen ⊢
    match rs, us, hlen, hslot with
    | [(ag, tys)], [v], _, hslot =>
      have h0' : RelV ⟨n0, w, g.C, callX g st ks ms⟩ g' w' stX.O v ag (osX.take tys.length) := hslot 0
      exact h0'.turn T (hsame.take _)
    | [], [], _, _ => exact ⟨[], rfl, trivial⟩
    | p :: q :: rest, u1 :: u2 :: us', hl, hslot =>
      refine ⟨u1 :: u2 :: us', rfl, ?_⟩
      exact relT_res T (fun i => (u1 :: u2 :: us').getD i undef) hsame hl fun i _ => hslot i
  · have hne : ∀ (rs : List (Bool × List LT)) (q : List Leaf), resP rs q ≠ .spec t want ag l := by
      intro rs q e
      match rs with
      | [] => cases e
      | [_] => cases e
      | _ :: _ :: _ => cases e
    exact hne _ _ e
  · obtain ⟨i, q1, q2⟩ := inout_locs (argsP_lens hargs) hm
    obtain ⟨l', q3, q4⟩ := inoutAt_same (hsame.drop s.nres) q2
    have hL : stX.L i = some (0, l') := by
      rw [← hexit]
      show (match inoutAt s.ps (osX.drop s.nres) i with | some l => some (0, l) | none => none) = _
      rw [q3]
    obtain ⟨cur, T0, c1, c2, c3, c4, c5⟩ := hX.locals i 0 l' hL
    have eρ : g'.ρ i = g.ρ k := by rw [hρ i (inoutAt_isM q3)]; unfold callG; simp only [q1]
    rw [eρ] at c1 c2 c3 c4 c5
    refine ⟨cur, T0, c1, by rw [q4.sizes]; exact c2, by rw [q4.sizes]; exact c3.turn T q4, fun o h1 h2 => ?_, fun o ho => c5 o (by rw [q4.sizes] at ho; exact ho)⟩
    rw [q4.sizes] at h2
    obtain ⟨d1, d2⟩ := c4 o h1 h2
    refine ⟨d1, ?_⟩
    rcases d2 with hw | hw
    · exact .inl (Nat.le_trans h.fr.size hw)
    · exact hwr hw
  · have hnk : ∀ k1, k1 ∈ ms.map (·.1) → ∀ x1, st.L k1 = some x1 → (g.ρ k1).1 ≠ (g.ρ k).1 := fun k1 hk1 x1 hL1 e => by
      have := h.ρI k1 k x1 x hL1 hL e
      subst this
      rw [locsOut_keys] at hnm
      exact hnm hk1
    exact hC _ (ltL k x hL) (notX _ hnk fun k1 _ hO1 hb1 => h.blkL k1 _ k x hO1 hb1 hL rfl)
  · exact backG_old (fun j e => by cases e) |>.trans h.blk0
  · obtain ⟨i, E1, e1, rfl, q1, q2⟩ := labX k hk
    rw [backG_new] at hb
    refine ⟨?_, hX.blkS _ b q2 hb⟩
    rcases hX.blkW _ b q2 hb with hge | ⟨o, hx⟩
    · exact .inl hge
    · rcases hx with ⟨k1, σ1, l1, hk1, hL1, e, _⟩ | ⟨k1, hk1, hO1, hb1, _⟩
      · exfalso
        obtain ⟨i1, hi1⟩ := hkeys k1 hk1
        have hmi : isM s.ps i1 = true := by
          have hgen : ∀ (ps : List Par) (ms : List (Nat × Nat)) (i k : Nat), keyAt ps ms i = some k → isM ps i = true := by
            intro ps
            induction ps with
            | nil => intro ms i k e; cases e
            | cons p ps ih =>
              intro ms i k e
              cases p with
              | v _ _ => cases i with
                | zero => cases e
                | succ i => exact ih ms i k e
              | m _ => cases i with
                | zero => rfl
                | succ i => cases ms with
                  | nil => cases e
                  | cons q ms => exact ih ms i k e
          exact hgen _ _ _ _ hi1
        obtain ⟨l', q3⟩ := isM_inoutAt (ls := osX.drop s.nres) hmi
        have hL : stX.L i1 = some (0, l') := by
          rw [← hexit]
          show (match inoutAt s.ps (osX.drop s.nres) i1 with | some l => some (0, l) | none => none) = _
          rw [q3]
        have eρ : g'.ρ i1 = g.ρ k1 := by rw [hρ i1 hmi]; unfold callG; simp only [hi1]
        have := hX.blkL _ b i1 _ q2 hb hL
        rw [eρ] at this
        exact this e.symm
      · exact .inr ⟨k1, inGone k1 hk1 (fun e => by rw [e, h.blk0] at hb1; cases hb1), hO1, hb1⟩
  · obtain ⟨i, E1, e1, rfl, q1, q2⟩ := labX k hk
    obtain ⟨i', E2, e2, rfl, q3, q4⟩ := labX k' hk'
    rw [backG_new] at hb hb'
    have := hX.blkI _ _ b q2 q4 hb hb'
    injection this with _ e
    rw [e]
  · obtain ⟨i, q1, q2⟩ := inout_locs (argsP_lens hargs) hm
    obtain ⟨tys, hi⟩ := isM_iff.1 (inoutAt_isM q2)
    obtain ⟨x, _, k2, σ2, l2, _, r2, _, _, r5⟩ := hper i _ hi
    rw [q1] at r5
    cases r5
    rw [hn] at r2; cases r2
end
end Pv
end Go.Proofs.Ytgcgdfjldeihkaa
