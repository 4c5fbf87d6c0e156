/- Texts of this claim, one behind the other. -/
import Derived.Test.YtifbhefbhlbofaaGreatDoorTaleBlocksM2
import Derived.Laws.Externs
import Derived.MapKept
import Derived.Carry
set_option maxRecDepth 100000
namespace Go.Proofs.YtifbhefbhlbofaaGreatDoor
namespace Pv
set_option linter.unusedVariables false
section
variable {P : Program} {E : Env} {F : Fr} {g g' : Gh} {st : PSt} {a : Act} {w w' : World} {o : Oper} {R : Type} {C : Upd → Option R} {r : R} {v : Value}
theorem OwnF.loose {k j s : Nat} {E : TypeId} {e : Ty} {l : List e.D} {v : Value} (h : OwnF g w k j s E e l v) (G : Gw w g.C w' g'.C)
    (hk : ∀ b cur T fr, g.ow b = some (k, j, some s) → w.heap[b]? = some (.cells cur T fr) → g'.ow b = some (k, j, some s) ∧ (∀ o, g'.C b o ↔ g.C b o) ∧ ∃ cur', w'.heap[b]? = some (.cells cur' T fr) ∧ cur'.size = cur.size ∧ ∀ o, g.C b o → cur'[o]? = cur[o]?) : OwnF g' w' k j s E e l v := by
  rcases h with h | ⟨b, off, cap, cur, h1, h2, h3, h4, h5, h6, h7, h8⟩
  · exact .inl h
  · obtain ⟨k1, k2, cur', k3, k4, k5⟩ := hk b cur E _ h2 h3
    refine .inr ⟨b, off, cap, cur', h1, k1, k3, h4, h5, k4.trans h6, fun i x hx => ?_, fun o ho => (k2 o).trans (h8 o ho)⟩
    have hil := (List.getElem?_eq_some_iff.1 hx).1
    have hr := (h7 i x hx).gw G
    have hle : i * e.size + e.size ≤ l.length * e.size := by
      have := Nat.mul_le_mul_right e.size (show i + 1 ≤ l.length by omega)
      rw [Nat.add_mul] at this; omega
    have key : (cur'.toList.drop (off + i * e.size)).take e.size = (cur.toList.drop (off + i * e.size)).take e.size := by
      apply List.ext_getElem?
      intro q
      rw [List.getElem?_take, List.getElem?_take, List.getElem?_drop, List.getElem?_drop]
      by_cases hq : q < e.size
      · rw [if_pos hq, if_pos hq, Array.getElem?_toList, Array.getElem?_toList]
        exact k5 _ ((h8 _ (by omega)).2 (by omega))
      · rw [if_neg hq, if_neg hq]
    rw [key]; exact hr
theorem out_fa (h : MRel F g st (tm a) w) {k v0 : Nat} (hpk : isPool k = true) {pe : Ty} {pl : List pe.D} (hp : poolL st.L k = some (true, v0, ⟨pe, pl⟩)) {n s d : Nat} {E0 : TypeId} {e : Ty} {l : List e.D} {m : Nat} {v : Value} {B : Option Nat}
    (hF : Frame F g.C w') (hG : Gw w g.C w' g.C) (hsz : w.heap.size ≤ w'.heap.size) (hold : ∀ b, b < w.heap.size → g.ow b ≠ some (k, n, some s) → w'.heap[b]? = w.heap[b]?)
    (hrow : ∀ b cur T fr, g.ow b = some (k, n, some s) → w.heap[b]? = some (.cells cur T fr) → ∃ cur', w'.heap[b]? = some (.cells cur' T fr) ∧ cur'.size = cur.size ∧ ∀ o, g.C b o → cur'[o]? = cur[o]?)
    (hB : ∀ b, B = some b → w.heap.size ≤ b ∧ b < w'.heap.size)
    (hfa : FaOk F ⟨g.C, blkT g.blk (.op d 0) B, g.ρ, g.H, g.ow, bump g.ver k (v0 + 1)⟩ w' k n s E0 e l m (.op d 0) v) :
    OutR F g st w ⟨.fa k (n : Int) s E0 e l m (v0 + 1) (.op d 0), [(k, [.d (.arr (v0 + 1) pe) pl])], [.op d 0], []⟩ v ⟨g.C, blkT g.blk (.op d 0) B, g.ρ, g.H, g.ow, bump g.ver k (v0 + 1)⟩ w' := by
  obtain ⟨hv1, hv2, hitems⟩ := pool_at h hp hpk
  obtain ⟨hver, hPT⟩ := hv1 rfl
  have hkp : ∀ b, b < w.heap.size → g.ow b ≠ some (k, n, some s) → Kp g w ⟨g.C, blkT g.blk (.op d 0) B, g.ρ, g.H, g.ow, bump g.ver k (v0 + 1)⟩ w' b := fun b hb hn => ⟨hold b hb hn, fun _ => Iff.rfl⟩
  have ltL : ∀ j x, st.L j = some x → isPool j = false → (g.ρ j).1 < w.heap.size := fun j x hL np => loc_lt h hL np
  have hblk : ∀ t b, t ∈ [Tok.op d 0] → blkT g.blk (.op d 0) B t = some b → B = some b := fun t b ht hb => by
    rw [List.mem_singleton.1 ht, blkT_at] at hb
    exact hb
  refine ⟨hF, hG, fun t ht hO => ?_, fun _ _ _ => rfl, fun _ => .inl rfl, rfl, fun _ => ⟨hpk, by show v0 + 1 ≤ bump g.ver k (v0 + 1) k; rw [bump_at]; exact Nat.le_refl _, fun _ _ => ⟨n, rfl, hfa⟩⟩, fun _ _ _ _ e => by (cases e), fun k' l2 hm hnp => ?_, fun j y hj np _ => hkp _ (ltL j y hj np) fun e => by (rw [h.ows.loc j y hj np] at e; cases e), (blkT_ne (f := g.blk) (t := .op d 0) (k := .zero) (b := B) (fun e => by cases e)).trans h.blk0,
    fun t b ht hb => ?_, fun t t' b ht ht' _ _ => by rw [List.mem_singleton.1 ht, List.mem_singleton.1 ht'], fun k' l2 hm hn => ?_,
    ⟨fun k' l2 hm _ => ?_, fun b k' j s' hbo hnm => ?_, fun k' hnm => bump_ne fun e1 => hnm (by rw [e1]; exact List.mem_singleton.2 rfl), fun b q hq => hq, fun b q hq => ⟨Nat.lt_of_lt_of_le (h.ows.lim b q hq) hsz, .inl hq⟩, fun t b ht hb => ?_, fun k' l2 hm hn hnp => ?_, fun k' _ j => rfl, fun k' hm _ => ?_, fun b k' j s' hbo hpt => .inr fun o hn => h.ows.wr b k' j s' hbo hpt o hn⟩⟩
  · obtain ⟨_, hO⟩ : t ∉ [] ∧ st.O t = true := (putO_true.1 hO).resolve_left ht
    have e1 : blkT g.blk (.op d 0) B t = g.blk t := blkT_ne (fun e => ht (List.mem_singleton.2 e))
    exact ⟨hO, e1, fun b hbl => hkp b (h.blkS t b hO hbl) fun e => by rw [h.ows.tok t b hO hbl] at e; cases e⟩
  · have e1 := (Prod.mk.inj (List.mem_singleton.1 hm)).1
    rw [e1, hpk] at hnp; cases hnp
  · have := hB b (hblk t b ht hb)
    exact ⟨.inl this.1, this.2⟩
  · have e1 := (Prod.mk.inj (List.mem_singleton.1 hm)).1
    obtain ⟨σ, hh⟩ := poolL_some hp
    rw [e1] at hn
    rcases hh with ⟨_, hh⟩ | ⟨hh, _⟩
    · rw [hn] at hh; cases hh
    · cases hh
  · obtain ⟨rfl, rfl⟩ := Prod.mk.inj (List.mem_singleton.1 hm)
    refine ⟨⟨pe, pl, .inl ⟨v0 + 1, rfl, bump_at, hPT⟩, hv2, fun j y hy => ?_⟩, by show g.ver k' < bump g.ver k' (v0 + 1) k'; rw [bump_at, hver]; omega⟩
    have hit := hitems j y hy
    have keep : ∀ b s', g.ow b = some (k', j, s') → (k', j, s') ≠ (k', n, some s) → Kp g w ⟨g.C, blkT g.blk (.op d 0) B, g.ρ, g.H, g.ow, bump g.ver k' (v0 + 1)⟩ w' b ∧ g.ow b = some (k', j, s') := fun b s' hb hne => ⟨hkp b (h.ows.lim b _ hb) fun e => hne (Option.some.inj (hb.symm.trans e)), hb⟩
    by_cases hjn : j = n
    · subst hjn
      unfold ItemOk at hit ⊢
      split at hit
      · obtain ⟨b, cur, T, fr, q1, q2, q3, q4, q5, q6, q7⟩ := hit
        obtain ⟨⟨k1, _⟩, _⟩ := keep b none q2 (fun e => by injection e with _ e; injection e with _ e; cases e)
        refine ⟨b, cur, T, fr, q1, q2, k1.trans q3, q4.gw hG, q5, q6, fun q hq => ?_⟩
        obtain ⟨vq, r1, r2⟩ := q7 q hq
        refine ⟨vq, r1, r2.loose hG fun b cur T fr hb hc => ⟨hb, fun _ => Iff.rfl, ?_⟩⟩
        by_cases hs : q.1 = s
        · rw [hs] at hb
          exact hrow b cur T fr hb hc
        · have := (keep b (some q.1) hb (fun e => hs (by injection e with _ e; injection e with _ e; injection e))).1.1
          exact ⟨cur, this.trans hc, rfl, fun _ _ => rfl⟩
      · unfold MapOk at hit ⊢
        split at hit
        · obtain ⟨b, es, clock, q1, q2, q3, q4, q5⟩ := hit
          obtain ⟨⟨k1, _⟩, _⟩ := keep b none q2 (fun e => by injection e with _ e; injection e with _ e; cases e)
          exact ⟨b, es, clock, q1, q2, k1.trans q3, q4, q5.gw hG⟩
        · exact hit.elim
    · exact hit.gw hG fun b s' hb => keep b s' hb fun e => hjn (by injection e with _ e; injection e)
  · have hk' : k' ≠ k := fun e1 => hnm (by rw [e1]; exact List.mem_singleton.2 rfl)
    exact hkp b (h.ows.lim b _ hbo) fun e => hk' (by rw [hbo] at e; injection e with e; injection e)
  · have := hB b (hblk t b ht hb)
    show g.ow b = none
    cases ho : g.ow b with
    | none => rfl
    | some q => have := h.ows.lim b q ho; omega
  · have e1 := (Prod.mk.inj (List.mem_singleton.1 hm)).1
    rw [e1, hpk] at hnp; cases hnp
  · have e1 : k' = k := List.mem_singleton.1 hm
    rw [e1]; exact hPT
theorem drop_cells {cur : Array Value} {off i s : Nat} : (cur.toList.drop (off + i * s)).take s = ((cur.toList.drop off).drop (i * s)).take s := by rw [List.drop_drop]
theorem append_field (h : MRel F g st (tm a) w) {k v0 n s d : Nat} (hpk : isPool k = true) {pe : Ty} {pl : List pe.D} (hp : poolL st.L k = some (true, v0, ⟨pe, pl⟩)) {t ty e0 : TypeId} {i : TypeInfo} {z : Value} {e : Ty} {l m : List e.D} {v x : Value} (ht : P.underlying t = some (.slice e0)) (hi : P.info? e0 = some i) (hz : i.zero = some z)
    (hsize : i.size = e.size) (hpos : 0 < i.size) (hzs : z.cells.size = i.size) (ho : OwnF g w k n s e0 e l v) (hx : RepD w g.C (.sl e) m [x]) (hbytes : (l.length + m.length) * i.bytes ≤ 140737488355328) (h63 : l.length + m.length ≤ maxLen) :
    ∃ r w' g', (Builtin.append_ #[t, t] ty #[v, x]).run P w = .ok r w' ∧ OutR F g st w ⟨.fa k (n : Int) s e0 e (l ++ m) l.length (v0 + 1) (.op d 0), [(k, [.d (.arr (v0 + 1) pe) pl])], [.op d 0], []⟩ r g' w' := by
  obtain ⟨hv1, _, _⟩ := pool_at h hp hpk
  obtain ⟨hver, hPT⟩ := hv1 rfl
  have hx0 := hx
  obtain ⟨xa, xn, xc, x1, x2, x3, x4, x5⟩ := hx0
  have ex : x = .slice xa xn xc := by simpa using x1
  have hmn : m.length = xn := x2
  subst ex
  by_cases hm0 : m.length = 0
  · have hmnil : m = [] := List.eq_nil_of_length_eq_zero hm0
    subst hmnil
    have hxn : xn = 0 := by rw [← hmn]; rfl
    subst hxn
    obtain ⟨va, vc, rfl, hvc⟩ : ∃ va vc, v = .slice va l.length vc ∧ l.length ≤ vc := by
      rcases ho with ⟨va, rfl, rfl⟩ | ⟨b, off, cap, cur, rfl, _, _, h4, _⟩
      · exact ⟨va, 0, rfl, Nat.le_refl _⟩
      · exact ⟨_, cap, rfl, h4⟩
    have hrun : (Builtin.append_ #[t, t] ty #[.slice va l.length vc, .slice xa 0 xc]).run P w = .ok (.slice va l.length vc) w := by
      cases xa with
      | none =>
        cases va with
        | none => simp [Builtin.append_, run_underlying ht, sizeOf, typeInfo, hi, Builtin.lenOf, Builtin.firstCells, hvc]
        | some ad => simp [Builtin.append_, run_underlying ht, sizeOf, typeInfo, hi, Builtin.lenOf, Builtin.firstCells, hvc, storeCells]
      | some ad => exact run_append_zero' ht hi va vc ad xc _ hvc
    refine ⟨_, w, _, hrun, out_fa (B := none) h hpk hp h.fr (Gw.refl _ _) (Nat.le_refl _) (fun _ _ _ => rfl) (fun b cur T fr _ hc => ⟨cur, hc, rfl, fun _ _ => rfl⟩) (fun b e => by cases e) ?_⟩
    rw [List.append_nil]
    rcases ho with ⟨va', q1, q2⟩ | ⟨b, off, cap, cur, h1, h2, h3, h4, h5, h6, h7, h8⟩
    · exact .inl ⟨va', q1, q2⟩
    · exact .inr ⟨b, off, cap, cur, h1, h3, Nat.le_refl _, h4, h5, h6, h7, .inl ⟨h2, h8⟩⟩
  · have hxa : ∃ ad, xa = some ad := by
      have hlt : 0 < m.length := by omega
      obtain ⟨ad, us, e1, _⟩ := x5 0 _ (List.getElem?_eq_getElem hlt)
      exact ⟨ad, e1⟩
    obtain ⟨ad, rfl⟩ := hxa
    obtain ⟨news, n1, n2, n3, n4⟩ := slice_cells (e := e) (by omega) hx
    have n1' : news.length = xn * e.size := by rw [n1, hmn]
    have newrow : ∀ {xs : List Value} {v' : Value} {w' : World}, xs.length = l.length * e.size → (∀ (i : Nat) (x : e.D), l[i]? = some x → RepD w g.C e x ((xs.drop (i * e.size)).take e.size)) →
        w'.ownsRow w.heap.size e0 e.size v' (l.length + xn) (xs ++ news) → w.grownBy w' none → ∃ g', OutR F g st w ⟨.fa k (n : Int) s e0 e (l ++ m) l.length (v0 + 1) (.op d 0), [(k, [.d (.arr (v0 + 1) pe) pl])], [.op d 0], []⟩ v' g' w' := fun {xs v' w'} hxl hxr how hgr => by
      rcases how.2 with ⟨_, hz0⟩ | ⟨B, cap, cur, rfl, hB, hb, hlc, hmax, hcs, htake⟩
      · omega
      · have hBlt : B < w'.heap.size := lt_of_cells hb
        have hll : (l ++ m).length = l.length + xn := by rw [List.length_append, hmn]
        have hold : ∀ b, b < w.heap.size → w'.heap[b]? = w.heap[b]? := fun b hb => hgr.block b hb (by simp)
        have G : Grew w g.C w' g.C := ⟨hgr.size, hold, hgr.os, hgr.tape, hgr.output, fun _ _ _ => Iff.rfl, fun b o hc => Nat.lt_of_lt_of_le (h.fr.lim b o hc) hgr.size, fun _ _ _ q => q⟩
        refine ⟨_, out_fa (B := some B) h hpk hp (h.fr.grew G) G.gw hgr.size (fun b hb _ => hold b hb) (fun b cur T fr hbo hc => ⟨cur, (hold b (h.ows.lim b _ hbo)).trans hc, rfl, fun _ _ => rfl⟩) (fun b e => by cases e; exact ⟨hB, hBlt⟩) ?_⟩
        refine .inr ⟨B, 0, cap, cur, by rw [hll], hb, by rw [hll]; omega, by rw [hll]; exact hlc, hmax, by rw [Nat.zero_add]; exact hcs, fun i y hy => ?_, .inr ⟨blkT_at, rfl, fun o hc => ?_, fun o => .inl (Nat.le_trans h.fr.size hB)⟩⟩
        · rw [Nat.zero_add]
          exact (rows_app hxl n1 (by rw [hmn]; exact htake) hxr n4 i y hy).gw G.gw
        · have := h.fr.lim _ _ hc
          omega
    rcases ho with ⟨p, rfl, rfl⟩ | ⟨b, off, cap, cur, rfl, hbo, hb, hlc, hmax, hcs, hrow, hcom⟩
    · have hgr := run_append_arg_grows (P := P) w t ty e0 i z e.size i.bytes ht hi hz hsize rfl (by rw [hzs, hsize]) (by omega) (p.getD ⟨0, 0, none⟩) 0 0 [] (by simp) (fun j u hj => by simp at hj) ad xn xc news n1' n2 (by omega) (by simpa [hmn] using h63) (by simpa [hmn] using hbytes)
      cases p with
      | some p =>
        obtain ⟨v', w', hr, how, hg⟩ := hgr
        obtain ⟨g', hU⟩ := newrow (xs := []) (by simp) (fun i x hx => by simp at hx) (by simpa using how) hg
        exact ⟨v', w', g', hr, hU⟩
      | none =>
        obtain ⟨v', w', hr, how, hg, _⟩ := run_append_own (P := P) w w.heap.size t ty e0 i z e.size i.bytes ht hi hz hsize rfl (by rw [hzs, hsize]) (by omega) (.slice none 0 0) 0 [] (World.ownsRow_nil w _ e0 e.size) ad xn xc news n1' n2 n3 (by simpa [hmn] using h63) (by simpa [hmn] using hbytes) (Nat.le_refl _)
        obtain ⟨g', hU⟩ := newrow (xs := []) (by simp) (fun i x hx => by simp at hx) (by simpa using how) hg
        exact ⟨v', w', g', hr, hU⟩
    · have hlenr : l.length * e.size ≤ cap * e.size := Nat.mul_le_mul_right _ hlc
      have hxl : ((cur.toList.drop off).take (l.length * e.size)).length = l.length * e.size := by
        have hd : cur.toList.length - off = cap * e.size := by rw [show cur.toList.length = cur.size by simp, hcs, Nat.add_sub_cancel_left]
        rw [List.length_take, List.length_drop, hd, Nat.min_eq_left hlenr]
      have hxr : ∀ (i : Nat) (x : e.D), l[i]? = some x → RepD w g.C e x ((((cur.toList.drop off).take (l.length * e.size)).drop (i * e.size)).take e.size) := fun i x hx => by
        rw [take_row (List.getElem?_eq_some_iff.1 hx).1, ← drop_cells]; exact hrow i x hx
      by_cases hroom : l.length + xn ≤ cap
      · have hone : news.all one = true := List.all_eq_true.2 fun u hu => by rw [one_eq]; exact n3 u hu
        have hfit : off + l.length * e.size + xn * e.size ≤ cur.size := by
          rw [hcs, Nat.add_assoc, ← Nat.add_mul]
          have := Nat.mul_le_mul_right e.size hroom
          omega
        obtain ⟨w', cur', s1, s2, s3, s4, s5, s6, s7, s8, s9⟩ := run_storeCells_row (P := P) news w b (off + l.length * e.size) 0 cur e0 hb (by omega) (fun o _ => .inr (Nat.zero_le o)) hone
        have hload : (loadCells ad (xn * e.size)).run P w = .ok news.toArray w := by rw [← n1']; exact run_loadCells_list (P := P) w ad news n2
        have hr : (Builtin.append_ #[t, t] ty #[.slice (some ⟨b, off, none⟩) l.length cap, .slice (some ad) xn xc]).run P w = .ok (.slice (some ⟨b, off, none⟩) (l.length + xn) cap) w' := by
          simp [Builtin.append_, run_underlying ht, sizeOf, typeInfo, hi, Builtin.lenOf, Builtin.firstCells, hroom, hsize, hload, add_at, s1]
        have hnC : ∀ o, off + l.length * e.size ≤ o → ¬ g.C b o := fun o ho hc => by
          have := (hcom o (by omega)).1 hc
          omega
        obtain ⟨hF, hG⟩ := write_block h.fr hb s2 s3 s5 s6 s7 s8 s9 fun o => by
          rw [s4 o]
          by_cases hin : off + l.length * e.size + 0 ≤ o ∧ o < off + l.length * e.size + 0 + news.length
          · exact .inr ⟨hnC o (by omega), h.ows.wr b k n _ hbo hPT o (hnC o (by omega))⟩
          · rw [if_neg hin]; exact .inl rfl
        have htake : (cur'.toList.drop off).take ((l.length + xn) * e.size) = (cur.toList.drop off).take (l.length * e.size) ++ news := by
          apply List.ext_getElem?
          intro q
          rw [List.getElem?_take, List.getElem?_drop, Array.getElem?_toList, Nat.add_mul, s4]
          by_cases h1 : q < l.length * e.size
          · rw [if_pos (by omega), if_neg (by omega), List.getElem?_append_left (by omega), List.getElem?_take, if_pos h1, List.getElem?_drop, Array.getElem?_toList]
          · rw [List.getElem?_append_right (by omega), hxl]
            by_cases h2 : q < l.length * e.size + xn * e.size
            · rw [if_pos h2, if_pos (by omega)]
              congr 1; omega
            · rw [if_neg h2, List.getElem?_eq_none (by omega)]
        have hll : (l ++ m).length = l.length + xn := by rw [List.length_append, hmn]
        refine ⟨_, w', _, hr, out_fa (B := none) h hpk hp hF hG (by rw [s6]; exact Nat.le_refl _) (fun b' hb' hne => s5 b' fun e1 => hne (by rw [e1]; exact hbo)) (fun b' cur1 T fr hbo' hc => ?_) (fun b e => by cases e) ?_⟩
        · by_cases e1 : b' = b
          · subst e1
            rw [hb] at hc
            cases hc
            refine ⟨cur', s2, s3, fun o hc => ?_⟩
            rw [s4, if_neg]
            intro hin
            exact hnC o (by omega) hc
          · exact ⟨cur1, (s5 b' e1).trans hc, rfl, fun _ _ => rfl⟩
        · refine .inr ⟨b, off, cap, cur', by rw [hll], s2, by rw [hll]; omega, by rw [hll]; exact hroom, hmax, s3.trans hcs, fun i y hy => ?_, .inl ⟨hbo, hcom⟩⟩
          rw [drop_cells]
          exact (rows_app hxl n1 (by rw [hmn]; exact htake) hxr n4 i y hy).gw hG
      · obtain ⟨v', w', hr, how, hg⟩ := run_append_arg_grows (P := P) w t ty e0 i z e.size i.bytes ht hi hz hsize rfl (by rw [hzs, hsize]) (by omega) ⟨b, off, none⟩ l.length cap _ hxl (fun j u hj => by
          rw [add_at, cell_at hb]
          rw [List.getElem?_take] at hj
          split at hj
          · rw [← Array.getElem?_toList, ← List.getElem?_drop]; exact hj
          · cases hj) ad xn xc news n1' n2 (by omega) (by rw [← hmn]; exact h63) (by rw [← hmn]; exact hbytes)
        obtain ⟨g', hU⟩ := newrow hxl hxr how hg
        exact ⟨v', w', g', hr, hU⟩
theorem go_appV (h : MRel F g st (tm a) w) {x y : Operand} {t u : TypeId} (hop : o.op = .call { callee := .builtin .append, args := #[x, y], argTypes := #[t, u] }) (hv : appV E.P o t u st (evK st.kn st.φ x) (evK st.kn st.φ y) C = some r) : Goes E F g st a w o C r := by
  have hx := ev_rel h x
  have hy := ev_rel h y
  unfold appV at hv
  split at hv
  case h_2 => cases hv
  rename_i e d k j s E0 ty l v hu hd he
  rw [he] at hx
  split at hv
  case h_2 => cases hv
  rename_i i v' pe pl hi hp
  split at hv
  case h_2 => cases hv
  rename_i z m hb hz hm
  rw [Bool.and_eq_true] at hb
  have hE := Nat.eq_of_beq_eq_true hb.1
  have hvv := Nat.eq_of_beq_eq_true hb.2
  subst hE; subst hvv
  split at hm
  case h_2 => cases hm
  rename_i hst
  rw [Bool.and_eq_true] at hst
  have hut := Nat.eq_of_beq_eq_true hst.1
  subst hut
  split at hv
  case h_2 => cases hv
  rename_i hsz
  simp only [Bool.and_eq_true] at hsz
  obtain ⟨hc, hv⟩ := chk_some hv
  simp only [Bool.and_eq_true, decide_eq_true_eq] at hc
  have hsize : i.size = ty.size := Nat.eq_of_beq_eq_true hsz.1.1
  have hpos : 0 < i.size := by have := hsz.1.2; rw [Nat.blt_eq] at this; exact this
  have hzs : z.cells.size = i.size := Nat.eq_of_beq_eq_true hsz.2
  obtain ⟨hpk, _, hown⟩ := hx
  obtain ⟨n, rfl, hown2⟩ := hown ((pool_at h hp hpk).1 rfl).1
  have hyr : RepD w g.C (.sl ty) m [a.eval y] := by
    rcases tailP_rel hm hy with ⟨s, hs, rfl, hl, _⟩ | hr
    · exfalso
      have hnot := hst.2
      unfold tailP at hm
      have : ∃ q', strP (evK st.kn st.φ y) = some q' := by
        cases hq : strP (evK st.kn st.φ y) with
        | some q' => exact ⟨q', rfl⟩
        | none =>
          rw [hq] at hm
          simp only at hm
          split at hm
          · rename_i e' l' hsl'
            obtain ⟨_, _, _, e1, _⟩ := slP_rep hsl' hy
            rw [hs] at e1; simp at e1
          · split at hm
            · rename_i hq2
              rw [hq2] at hy
              have hy' : a.eval y = .slice none 0 0 := hy
              rw [hs] at hy'; cases hy'
            · cases hm
      obtain ⟨q', hq⟩ := this
      unfold strP at hq
      split at hq
      · rename_i hq3
        rw [hq3] at hnot
        cases hnot
      · cases hq
    · exact hr
  obtain ⟨r', w', g', hr, hU⟩ := append_field (P := E.P) (ty := o.type) (d := d) h hpk hp hu hi hz hsize hpos hzs hown2 hyr hc.1 hc.2
  obtain ⟨cb, hrb⟩ := run_builtin (P := E.P) (w := w) (f := a.eval) hop
  have hres : (execOp a.eval o).run E.P w = .ok (.value r') w' := by
    rw [hrb]
    simp [builtin, hr]
  exact goes_val hres hU hv
end
section
variable {P : Program} {E : Env} {F : Fr} {g g' : Gh} {st : PSt} {a : Act} {w w' : World} {o : Oper} {R : Type} {C : Upd → Option R} {r : R} {v : Value}
theorem flat_rep {w w' : World} {C C' : Com} (hi : ∀ T j b, C.i T j = some b → C'.i T j = some b) : ∀ {t : Ty} {x : t.D} {cs : List Value}, flatT t = true → RepD w C t x cs → RepD w' C' t x cs
  | .int _, _, _, _, h => h
  | .bool, _, _, _, h => h
  | .str, _, _, _, h => h
  | .flo _, _, _, _, h => h
  | .cpx _, _, _, _, h => h
  | .err, _, _, _, h => h
  | .un, _, _, _, h => h
  | .ptr _, _, _, _, ⟨p, h1, h2⟩ => ⟨p, h1.imp id fun ⟨j, b, q1, q2, q3⟩ => ⟨j, b, q1, hi _ _ _ q2, q3⟩, h2⟩
  | .mp _, _, _, _, ⟨p, h1, h2⟩ => ⟨p, h1.imp id fun ⟨j, b, q1, q2, q3⟩ => ⟨j, b, q1, hi _ _ _ q2, q3⟩, h2⟩
  | .wi, _, _, _, h => h
  | .sl e, _, _, hf, _ => by cases hf
  | .os _ e, _, _, hf, _ => by cases hf
  | .arr n e, l, cs, hf, h => ⟨h.1, h.2.1, fun i x hx => flat_rep hi (t := e) hf (h.2.2 i x hx)⟩
  | .pr a b, x, cs, hf, h => by
    have hf : (flatT a && flatT b) = true := hf
    rw [Bool.and_eq_true] at hf
    obtain ⟨c1, c2, h1, h2, h3⟩ := h
    exact ⟨c1, c2, h1, flat_rep hi hf.1 h2, flat_rep hi hf.2 h3⟩
def lendR (g : Gh) (st : PSt) (K : List Nat) : Nat → Nat → Prop := fun b o => ∃ k σ ls, hasN K k = true ∧ isPool k = false ∧ st.L k = some (σ, ls) ∧ b = (g.ρ k).1 ∧ (g.ρ k).2 ≤ o ∧ o < (g.ρ k).2 + sizeLs ls
def lendG (g : Gh) (st : PSt) (K : List Nat) : Gh := ⟨⟨fun b o => g.C b o ∨ lendR g st K b o, g.C.i⟩, g.blk, g.ρ, g.H, g.ow, g.ver⟩
def lendB (g : Gh) (st : PSt) (K : List Nat) (g' : Gh) : Gh := ⟨⟨fun b o => g'.C b o ∧ ¬ lendR g st K b o, g'.C.i⟩, g'.blk, g'.ρ, g'.H, g'.ow, g'.ver⟩
theorem lend_fact (h : MRel F g st (tm a) w) {K : List Nat} {b o : Nat} (hR : lendR g st K b o) : ¬ g.C b o ∧ Wr F b o ∧ b < w.heap.size := by
  obtain ⟨k, σ, ls, _, np, hL, rfl, h1, h2⟩ := hR
  obtain ⟨cur, T, hc, _, _, hw, _⟩ := h.locals k σ ls hL np
  exact ⟨(hw o h1 h2).1, (hw o h1 h2).2, lt_of_cells hc⟩
theorem lend_tok (h : MRel F g st (tm a) w) {K : List Nat} {b o : Nat} {k : Tok} (hO : st.O k = true) (hb : g.blk k = some b) : ¬ lendR g st K b o := fun ⟨j, σ, ls, _, np, hL, e, _⟩ => h.blkL k b j _ hO hb hL np e.symm
theorem lend_loc (h : MRel F g st (tm a) w) {K : List Nat} {j o : Nat} {x : Nat × List Leaf} (hL : st.L j = some x) (npj : isPool j = false) (hj : hasN K j = false) : ¬ lendR g st K (g.ρ j).1 o := fun ⟨k, σ, ls, hk, np, hL', e, _⟩ => by
  rw [h.ρI j k _ _ hL hL' npj np e, hk] at hj
  cases hj
theorem lend_own (h : MRel F g st (tm a) w) {K : List Nat} {b o : Nat} {q : Nat × Nat × Option Nat} (hb : g.ow b = some q) : ¬ lendR g st K b o := fun ⟨k, σ, ls, _, np, hL, e, _⟩ => by
  rw [e, h.ows.loc k _ hL np] at hb
  cases hb
theorem lend_kp (h : MRel F g st (tm a) w) {K : List Nat} {b : Nat} (hb : ∀ o, ¬ lendR g st K b o) : Kp g w (lendG g st K) w b := ⟨rfl, fun o => ⟨fun hc => hc.elim id fun hR => (hb o hR).elim, .inl⟩⟩
theorem lend_rel (K ts : List Nat) (hK : ∀ k, hasN K k = true → isPool k = false) (h : MRel F g st (tm a) w) (hok : ∀ i, hasN ts i = true → rowOk st.L (st.φ i) = true) : MRel F (lendG g st K) (lendSt K ts st) (tm a) w := by
  have G : Gw w g.C w (lendG g st K).C := ⟨fun ad u hc hC => ⟨hc, .inl hC⟩, fun _ _ _ q => q⟩
  have hLv : ∀ k, Lives g w st.O (lendG g st K) w st.O k := fun k hO => ⟨hO, rfl, fun b hb => lend_kp h fun o => lend_tok h hO hb⟩
  have hLs : ∀ k x, (lendSt K ts st).L k = some x → (hasN K k = false ∧ st.L k = some x) ∨ (x = (0, []) ∧ ∃ y, st.L k = some y) := fun k x hL => by
    have hL : (match hasN K k with | true => (match st.L k with | some _ => some (0, []) | none => none) | false => st.L k) = some x := hL
    split at hL
    · split at hL
      · injection hL with hL
        exact .inr ⟨hL.symm, _, by assumption⟩
      · cases hL
    · exact .inl ⟨by assumption, hL⟩
  have hLy : ∀ k x, (lendSt K ts st).L k = some x → ∃ y, st.L k = some y := fun k x hL => (hLs k x hL).elim (fun h1 => ⟨_, h1.2⟩) fun h1 => h1.2
  refine {
    fr := {
      size := h.fr.size
      os := h.fr.os
      tape := h.fr.tape
      output := h.fr.output
      old := h.fr.old
      shape := h.fr.shape
      com := fun b o hlt hx => ⟨fun hc => hc.elim (h.fr.com b o hlt hx).1 fun hR => ?_, fun hc => .inl ((h.fr.com b o hlt hx).2 hc)⟩
      imono := h.fr.imono
      mono := fun b o hc => .inl (h.fr.mono b o hc)
      lim := fun b o hc => hc.elim (h.fr.lim b o) fun hR => (lend_fact h hR).2.2 }
    slots := fun i => ?_
    locals := fun k σ ls hL np => ?_
    pools := fun k σ ls hL np => ?_
    hist := fun k σ ls hL hσ => (hLs k _ hL).elim (fun h1 => h.hist k σ ls h1.2 hσ) fun h1 => absurd (congrArg Prod.fst h1.1) hσ
    kn := h.kn
    sp := fun i t want ag ls hi => h.sp i t want ag ls ?_
    fresh := fun d hd => ?_
    locL := fun i k hk => ?_
    blk0 := h.blk0
    blkI := h.blkI
    blkL := fun k b j x hO hb hL np => (hLy j _ hL).elim fun y hy => h.blkL k b j y hO hb hy np
    blkS := h.blkS
    blkW := h.blkW
    ρI := fun j j' x x' hL hL' np np' => (hLy j _ hL).elim fun y hy => (hLy j' _ hL').elim fun y' hy' => h.ρI j j' y y' hy hy' np np'
    ows := ⟨h.ows.tok, fun k x hL np => (hLy k _ hL).elim fun y hy => h.ows.loc k y hy np, h.ows.lim, h.ows.fr, h.ows.mono, h.ows.i, fun b k j s hb hk o hn => h.ows.wr b k j s hb hk o fun hc => hn (.inl hc)⟩ }
  · rcases (lend_fact h hR).2.1 with h1 | h1
    · omega
    · exact (hx h1).elim
  · have hs := h.slots i
    show RelP F (lendG g st K) w st.O (tm a) (tm a i) (lendPV (hasN ts i) K st.L (st.φ i))
    have gen : RelP F (lendG g st K) w st.O (tm a) (tm a i) (st.φ i) := hs.gw G (fun k _ => hLv k) (fun _ _ => rfl) (fun _ _ _ _ _ => rfl) fun _ _ _ => .inl ⟨rfl, fun b j s hb => ⟨lend_kp h fun o => lend_own h hb, hb⟩⟩
    rcases lendPV_cases (hasN ts i) K st.L (st.φ i) with e | ⟨e, _⟩ | ⟨k, n, tt, σ, m, q, l, hp, hk, hL, hn, e⟩
    · rw [e]; trivial
    · rw [e]; exact gen
    rw [e]
    rw [hp] at hs
    have hn := hok i hn
    rw [hp] at hn
    have hn : n ≤ l.length := by simpa [rowOk, hL] using hn
    obtain ⟨np, cap, hv, hcap, hmax, _⟩ := hs
    obtain ⟨cur, T, hc, hsz, hrep, hw, _⟩ := h.locals k σ _ hL np
    obtain ⟨r1, r2, r3⟩ := repLs_single.1 hrep
    have hsl : sizeLs [Leaf.d (.arr m (.int q)) l] = m := by
      show m * 1 + 0 = _
      omega
    rw [hsl] at hsz hw
    refine ⟨[.slice (some ⟨(g.ρ k).1, (g.ρ k).2, none⟩) n cap], repLs_single.2 ⟨_, n, cap, rfl, ?_, hcap, hmax, fun j x hx => ?_⟩, by rw [hv]⟩
    · show (List.take (α := Int) n l).length = n
      rw [List.length_take]; omega
    · have hx : (List.take (α := Int) n l)[j]? = some x := hx
      rw [List.getElem?_take] at hx
      split at hx
      case isFalse => cases hx
      rename_i hjn
      have r4 : (((cur.toList.drop (g.ρ k).2).take (sizeLs [Leaf.d (.arr m (.int q)) l])).drop (j * 1)).take 1 = [Value.int q x] ∧ (Lit.int q x).wf = true := r3 j x hx
      have hjm : j < m := by
        have r1 : List.length (α := Int) l = m := r1
        omega
      have r5 : cur.toList[(g.ρ k).2 + j]? = some (.int q x) := by
        have h2 := congrArg (fun z => z[0]?) r4.1
        simp only [List.getElem?_take, List.getElem?_drop, hsl] at h2
        rw [if_pos (by omega), Nat.mul_one, Nat.add_zero, if_pos hjm] at h2
        exact h2
      refine ⟨_, [.int q x], rfl, rfl, fun j' u' hu' => ?_, rfl, r4.2⟩
      have hj0 : j' = 0 := by
        have := (List.getElem?_eq_some_iff.1 hu').1
        simpa using this
      subst hj0
      have hu' : some (Value.int q x) = some u' := hu'
      injection hu' with hu'
      subst hu'
      refine ⟨?_, .inr ⟨k, σ, _, hk, np, hL, rfl, ?_, ?_⟩⟩
      · show w.cell? (Addr.add ⟨(g.ρ k).1, (g.ρ k).2, none⟩ (j * 1 + 0)) = _
        have : Addr.add ⟨(g.ρ k).1, (g.ρ k).2, none⟩ (j * 1 + 0) = ⟨(g.ρ k).1, (g.ρ k).2 + j, none⟩ := by
          unfold Addr.add
          split <;> simp_all
        rw [this, cell_at hc]
        simpa using r5
      · show (g.ρ k).2 ≤ (g.ρ k).2 + (j * 1 + 0)
        omega
      · show (g.ρ k).2 + (j * 1 + 0) < (g.ρ k).2 + sizeLs [Leaf.d (.arr m (.int q)) l]
        rw [hsl]
        omega
  · rcases hLs k _ hL with ⟨h1, h2⟩ | ⟨h1, y, h2⟩
    · exact (h.locals k σ ls h2 np).gw (O' := st.O) G (fun k' E e x _ => hLv k') (lend_kp h fun o => lend_loc h h2 np h1)
    · have e : ls = [] := congrArg Prod.snd h1
      subst e
      obtain ⟨cur, T, q1, q2, _⟩ := h.locals k y.1 y.2 h2 np
      refine ⟨cur, T, q1, ?_, ?_, fun o h3 h4 => ?_, fun o h4 => ?_⟩
      · show (g.ρ k).2 + 0 ≤ cur.size
        omega
      · show ((cur.toList.drop (g.ρ k).2).take 0) = []
        rfl
      · have h4 : o < (g.ρ k).2 + 0 := h4
        have h3 : (g.ρ k).2 ≤ o := h3
        omega
      · obtain ⟨cur2, T2, q3, _, _, _, q4⟩ := h.locals k y.1 y.2 h2 np
        rw [q1] at q3
        injection q3 with q3
        have h4 : o < (g.ρ k).2 + 0 := h4
        have eT : T.2 = T2.2 := by
          injection q3
        show Thaw T.2 o
        rw [eT]
        exact q4 o (by omega)
  · have hL2 : (match hasN K k with | true => (match st.L k with | some _ => some (0, []) | none => none) | false => st.L k) = some (σ, ls) := hL
    split at hL2
    · rename_i hk
      rw [hK k hk] at np; cases np
    · exact (h.pools k σ ls hL2 np).gw G rfl (fun _ => rfl) fun b j s hb => ⟨lend_kp h fun o => lend_own h hb, hb⟩
  · have hi : lendPV (hasN ts i) K st.L (st.φ i) = _ := hi
    rcases lendPV_cases (hasN ts i) K st.L (st.φ i) with e | ⟨e, _⟩ | ⟨k, n, tt, σ, m, q, l, hp, hk, hL, hn, e⟩
    · rw [e] at hi; cases hi
    · rw [e] at hi; exact hi
    · rw [e] at hi; cases hi
  · obtain ⟨f1, f2, f3, f4, f5⟩ := h.fresh d hd
    refine ⟨fun i => ?_, fun k σ ls hL => (hLs k _ hL).elim (fun h1 => f2 k σ ls h1.2) fun h1 => (by rw [show ls = [] from congrArg Prod.snd h1.1]; rfl), f3, ?_, f5⟩
    · have := f1 i
      show mentP d (lendPV (hasN ts i) K st.L (st.φ i)) = false
      rcases lendPV_cases (hasN ts i) K st.L (st.φ i) with e | ⟨e, _⟩ | ⟨k, n, tt, σ, m, q, l, hp, hk, hL, hn, e⟩
      · rw [e]; rfl
      · rw [e]; exact this
      · rw [e]; rfl
    · show (match hasN K d with | true => (match st.L d with | some _ => some (0, []) | none => none) | false => st.L d) = none
      rw [f4]
      split <;> rfl
  · have hk : k ∈ keyP (lendPV (hasN ts i) K st.L (st.φ i)) := hk
    obtain ⟨k1, k2⟩ : k ∈ keyP (st.φ i) ∧ hasN K k = false := by
      rcases lendPV_cases (hasN ts i) K st.L (st.φ i) with e | ⟨e, e2⟩ | ⟨k', n, tt, σ, m, q, l, hp, hk', hL, hn, e⟩
      · rw [e] at hk; cases hk
      · rw [e] at hk; exact ⟨hk, e2 k hk⟩
      · rw [e] at hk; cases hk
    show (match hasN K k with | true => (match st.L k with | some _ => some (0, []) | none => none) | false => st.L k).isSome = true
    rw [k2]
    exact h.locL i k k1
theorem knB_cases (kn : List (Nat × Bool)) (x : Operand) (p : PV) : knB kn x p = p ∨ ∃ b, knB kn x p = pbool b ∧ ∃ b', p = pbool b' := by
  unfold knB
  split
  · split
    · split
      · exact .inr ⟨_, rfl, _, rfl⟩
      · exact .inl rfl
    · exact .inl rfl
  · exact .inl rfl
theorem knB_fix {kn : List (Nat × Bool)} {x : Operand} {p : PV} (h : ∀ b, p ≠ pbool b) : knB kn x p = p := by
  rcases knB_cases kn x p with e | ⟨b, _, b', e⟩
  · exact e
  · exact (h b' e).elim
theorem lend_ev {kn : List (Nat × Bool)} {φ : Nat → PV} {K ts : List Nat} {L : Nat → Option (Nat × List Leaf)} (x : Operand) : evK kn (fun i => lendPV (hasN ts i) K L (φ i)) x = lendX K ts L x (evK kn φ x) := by
  have knw : ∀ b ag ls, lendPV b K L (knB kn x (.w ag ls)) = knB kn x (.w ag ls) := fun b0 ag ls => by
    rcases knB_cases kn x (.w ag ls) with e | ⟨b, e, _⟩
    · rw [e]; rfl
    · rw [e]; rfl
  cases x with
  | tmp t =>
    show (match lendPV (hasN ts t) K L (φ t) with | .spec j want ag ls => (match knows kn j with | some b => (match bEq b want with | true => knB kn (.tmp t) (.w ag ls) | false => .raw undef) | none => .dead) | p => knB kn (.tmp t) p) = lendPV (hasN ts t) K L (match φ t with | .spec j want ag ls => (match knows kn j with | some b => (match bEq b want with | true => knB kn (.tmp t) (.w ag ls) | false => .raw undef) | none => .dead) | p => knB kn (.tmp t) p)
    cases hp : φ t with
    | spec j want ag ls =>
      show (match knows kn j with | some b => (match bEq b want with | true => knB kn (.tmp t) (.w ag ls) | false => .raw undef) | none => .dead) = lendPV (hasN ts t) K L (match knows kn j with | some b => (match bEq b want with | true => knB kn (.tmp t) (.w ag ls) | false => .raw undef) | none => .dead)
      split
      · split
        · exact (knw _ ag ls).symm
        · rfl
      · rfl
    | w ag ls => exact (knw _ ag ls).symm
    | row k n tt =>
      show _ = lendPV (hasN ts t) K L (knB kn (.tmp t) (.row k n tt))
      rw [knB_fix (fun b e => by cases e)]
      rcases lendPV_cases (hasN ts t) K L (.row k n tt) with e | ⟨e, _⟩ | ⟨k', n', _, σ, m, q, l, _, _, _, _, e⟩
      · rw [e]; rfl
      · rw [e]; rfl
      · rw [e]; rfl
    | loc k f =>
      show _ = lendPV (hasN ts t) K L (knB kn (.tmp t) (.loc k f))
      rw [knB_fix (fun b e => by cases e)]
      rcases lendPV_cases (hasN ts t) K L (.loc k f) with e | ⟨e, _⟩ | ⟨k', n', _, σ, m, q, l, h, _⟩
      · rw [e]; rfl
      · rw [e]; rfl
      · cases h
    | locE k f e j s =>
      show _ = lendPV (hasN ts t) K L (knB kn (.tmp t) (.locE k f e j s))
      rw [knB_fix (fun b e => by cases e)]
      rcases lendPV_cases (hasN ts t) K L (.locE k f e j s) with e | ⟨e, _⟩ | ⟨k', n', _, σ, m, q, l, h, _⟩
      · rw [e]; rfl
      · rw [e]; rfl
      · cases h
    | tup _ => rfl
    | elem _ => rfl
    | raw _ => rfl
    | fp _ _ _ => rfl
    | fv _ _ _ _ _ _ _ => rfl
    | fa _ _ _ _ _ _ _ _ _ => rfl
    | dead => rfl
  | const v => rfl
  | global _ => rfl
  | func _ => rfl
theorem flat_leaf {F : Fr} {g1 g2 : Gh} {w : World} {O' : Tok → Bool} {born : List Tok} {l : Leaf} {cs : List Value} (hf : flatL born l = true) (hlive : ∀ k ∈ born, O' k = true) (hb : g2.blk = g1.blk) (hi : ∀ T j b, g1.C.i T j = some b → g2.C.i T j = some b) (hC : ∀ k ∈ born, ∀ b, g1.blk k = some b → ∀ o, g1.C b o ↔ g2.C b o) (h : RepL F g1 w O' l cs) : RepL F g2 w O' l cs := by
  cases l with
  | d t x => exact flat_rep hi hf h
  | own k E0 e l =>
    have hf : (flatT e && hasT born k) = true := hf
    rw [Bool.and_eq_true] at hf
    have hk := hasT_iff.1 hf.2
    obtain ⟨hrd, hown⟩ := h
    obtain ⟨v, rfl, hO⟩ := hown (hlive k hk)
    have hO' : OwnR F g2 w k E0 e l v := by
      rcases hO with ⟨a0, h1, h2, h3⟩ | ⟨b, cap, cur, h1, h2, h3, h4, h5, h6, h7, h8, h9⟩
      · exact .inl ⟨a0, h1, h2, by rw [hb]; exact h3⟩
      · exact .inr ⟨b, cap, cur, h1, by rw [hb]; exact h2, h3, h4, h5, h6, fun i x hx => flat_rep hi hf.1 (h7 i x hx), fun o => ((hC k hk b h2 o).symm).trans (h8 o), h9⟩
    refine ⟨?_, fun _ => ⟨v, rfl, hO'⟩⟩
    obtain ⟨a1, n, c, e1, e2, e3, e4, e5⟩ := hrd
    refine ⟨a1, n, c, e1, e2, e3, e4, fun i x hx => ?_⟩
    obtain ⟨ad, us, f1, f2, f3, f4⟩ := e5 i x hx
    refine ⟨ad, us, f1, f2, fun j u hu => ⟨(f3 j u hu).1, ?_⟩, flat_rep hi hf.1 f4⟩
    rcases hO with ⟨a0, h1, h2, h3⟩ | ⟨b, cap, cur, h1, h2, _⟩
    · rw [h2] at hx; cases hx
    · have e : Value.slice (some ⟨b, 0, none⟩) (List.length l) cap = .slice a1 n c := by
        have e1 : [v] = [Value.slice a1 n c] := e1
        injection e1 with e1
        rw [← h1, e1]
      injection e with e _ _
      rw [f1] at e
      injection e with e
      subst e
      exact (hC k hk b h2 _).1 (f3 j u hu).2
theorem flat_leaves {F : Fr} {g1 g2 : Gh} {w : World} {O' : Tok → Bool} {born : List Tok} (hlive : ∀ k ∈ born, O' k = true) (hb : g2.blk = g1.blk) (hi : ∀ T j b, g1.C.i T j = some b → g2.C.i T j = some b) (hC : ∀ k ∈ born, ∀ b, g1.blk k = some b → ∀ o, g1.C b o ↔ g2.C b o) : ∀ {ls : List Leaf} {cs : List Value}, ls.all (flatL born) = true → RepLs F g1 w O' ls cs → RepLs F g2 w O' ls cs
  | [], _, _, h => h
  | l :: ls, cs, hf, h => by
    rw [List.all_cons, Bool.and_eq_true] at hf
    obtain ⟨c1, c2, rfl, h1, h2⟩ := h
    exact ⟨c1, c2, rfl, flat_leaf hf.1 hlive hb hi hC h1, flat_leaves hlive hb hi hC hf.2 h2⟩
theorem flat_tup {F : Fr} {g1 g2 : Gh} {w : World} {O' : Tok → Bool} {born : List Tok} (hlive : ∀ k ∈ born, O' k = true) (hb : g2.blk = g1.blk) (hi : ∀ T j b, g1.C.i T j = some b → g2.C.i T j = some b) (hC : ∀ k ∈ born, ∀ b, g1.blk k = some b → ∀ o, g1.C b o ↔ g2.C b o) : ∀ {us : List Value} {xs : List (Bool × List Leaf)}, xs.all (fun x => x.2.all (flatL born)) = true → RelT F g1 w O' us xs → RelT F g2 w O' us xs
  | [], [], _, _ => trivial
  | u :: us, x :: xs, hf, h => by
    rw [List.all_cons, Bool.and_eq_true] at hf
    obtain ⟨⟨cs, h1, h2⟩, h3⟩ := h
    exact ⟨⟨cs, flat_leaves hlive hb hi hC hf.1 h1, h2⟩, flat_tup hlive hb hi hC hf.2 h3⟩
  | [], _ :: _, _, h => h.elim
  | _ :: _, [], _, h => h.elim
theorem lend_back (K ts : List Nat) (h : MRel F g st (tm a) w) {u : Upd} (hU : OutR F (lendG g st K) (lendSt K ts st) w u v g' w') (hC : lendC C u = some r) :
    C u = some r ∧ OutR F g st w u v (lendB g st K g') w' := by
  obtain ⟨hc, hloc, hflat⟩ : C u = some r ∧ u.loc = [] ∧ (match u.val with | .w _ ls => ls.all (flatL u.born) | .tup xs => xs.all (fun x => x.2.all (flatL u.born)) | _ => false) = true := by
    unfold lendC at hC
    split at hC
    · split at hC
      · exact ⟨hC, by assumption, by simp [*]⟩
      · cases hC
    · split at hC
      · exact ⟨hC, by assumption, by simp [*]⟩
      · cases hC
    · cases hC
  refine ⟨hc, ?_⟩
  have hnb : ∀ k ∈ u.born, ∀ b, g'.blk k = some b → ∀ o, ¬ lendR g st K b o := fun k hk b hb o hR => by
    rcases (hU.born k b hk hb).1 with h1 | ⟨k0, _, h2, h3⟩
    · have := (lend_fact h hR).2.2
      omega
    · exact lend_tok h h2 h3 hR
  have hKp : ∀ b, Kp (lendG g st K) w g' w' b → Kp g w (lendB g st K g') w' b := fun b hk => ⟨hk.1, fun o => ⟨fun hx => ((hk.2 o).1 hx.1).elim id fun hR => (hx.2 hR).elim, fun hx => ⟨(hk.2 o).2 (.inl hx), fun hR => (lend_fact h hR).1 hx⟩⟩⟩
  have hρ : ∀ k, g'.ρ k = g.ρ k := fun k => by
    rcases hU.ρn k with h1 | ⟨_, ls, h2⟩
    · exact h1
    · rw [hloc] at h2; cases h2
  exact {
    fr := {
      size := hU.fr.size
      os := hU.fr.os
      tape := hU.fr.tape
      output := hU.fr.output
      old := hU.fr.old
      shape := hU.fr.shape
      com := fun b o hlt hx => ⟨fun hc => (hU.fr.com b o hlt hx).1 hc.1, fun hc => ⟨(hU.fr.com b o hlt hx).2 hc, fun hR => (lend_fact h hR).1 (h.fr.mono b o hc)⟩⟩
      imono := hU.fr.imono
      mono := fun b o hc => ⟨hU.fr.mono b o hc, fun hR => (lend_fact h hR).1 (h.fr.mono b o hc)⟩
      lim := fun b o hc => hU.fr.lim b o hc.1 }
    gw := ⟨fun ad u hc hC => ⟨(hU.gw.cell ad u hc (.inl hC)).1, (hU.gw.cell ad u hc (.inl hC)).2, fun hR => (lend_fact h hR).1 hC⟩, hU.gw.i⟩
    live := fun k hk hO => by
      obtain ⟨h1, h2, h3⟩ := hU.live k hk hO
      exact ⟨h1, h2, fun b hb => hKp b (h3 b hb)⟩
    ρ := fun k x _ => hρ k
    ρn := fun k => .inl (hρ k)
    H := hU.H
    val := fun tmf => by
      have hv := hU.val tmf
      have hlive : ∀ k ∈ u.born, putO st.O u.born u.gone k = true := fun k hk => putO_true.2 (.inl hk)
      have hCC : ∀ k ∈ u.born, ∀ b, g'.blk k = some b → ∀ o, g'.C b o ↔ (lendB g st K g').C b o := fun k hk b hb o => ⟨fun hx => ⟨hx, hnb k hk b hb o⟩, fun hx => hx.1⟩
      cases hu : u.val with
      | w ag ls =>
        rw [hu] at hv hflat
        obtain ⟨cs, h1, h2⟩ := hv
        exact ⟨cs, flat_leaves (g1 := g') (g2 := lendB g st K g') hlive rfl (fun _ _ _ q => q) hCC hflat h1, h2⟩
      | tup xs =>
        rw [hu] at hv hflat
        obtain ⟨us, h1, h2⟩ := hv
        exact ⟨us, h1, flat_tup (g1 := g') (g2 := lendB g st K g') hlive rfl (fun _ _ _ q => q) hCC hflat h2⟩
      | _ => rw [hu] at hflat; cases hflat
    nospec := hU.nospec
    locs := fun k ls hk _ => by rw [hloc] at hk; cases hk
    rest := fun k x hL np hk => by
      cases hj : hasN K k with
      | false => exact hKp _ (hU.rest k x (by show (match hasN K k with | true => (match st.L k with | some _ => some (0, []) | none => none) | false => st.L k) = some x; rw [hj]; exact hL) np hk)
      | true => exact hKp _ (hU.rest k (0, []) (by show (match hasN K k with | true => (match st.L k with | some _ => some (0, []) | none => none) | false => st.L k) = some (0, []); rw [hj, hL]) np hk)
    blk0 := hU.blk0
    born := hU.born
    bornI := hU.bornI
    new := fun k ls hk => by rw [hloc] at hk; cases hk
    pl := ⟨fun k ls hk => by (rw [hloc] at hk; cases hk), fun b k j s hb hk => hKp b (hU.pl.kp b k j s hb hk), hU.pl.ver, hU.pl.mono, hU.pl.own, hU.pl.born, fun k ls hk => by (rw [hloc] at hk; cases hk), hU.pl.i, hU.pl.pt, fun b k j s hb hk => by
      rcases hU.pl.wr b k j s hb hk with h1 | h1
      · exact .inl h1
      · refine .inr fun o hn => ?_
        by_cases hc : g'.C b o
        · by_cases hR : lendR g st K b o
          · exact (lend_fact h hR).2.1
          · exact (hn ⟨hc, hR⟩).elim
        · exact h1 o hc⟩ }
theorem tmp_ok {x : Operand} {i : Nat} (hx : (match x with | .tmp t => some t | _ => none) = some i) (h : rowOk st.L (evK st.kn st.φ x) = true) : rowOk st.L (st.φ i) = true := by
  cases x with
  | tmp t =>
    have e : t = i := by
      have hx : some t = some i := hx
      injection hx
    subst e
    cases hp : st.φ t with
    | row k n tt =>
      have h2 : evK st.kn st.φ (.tmp t) = .row k n tt := by
        show (match st.φ t with | .spec j want ag ls => (match knows st.kn j with | some b => (match bEq b want with | true => knB st.kn (.tmp t) (.w ag ls) | false => .raw undef) | none => .dead) | p => knB st.kn (.tmp t) p) = _
        rw [hp]
        exact knB_fix fun b e => by cases e
      rw [h2] at h
      exact h
    | _ => rfl
  | _ => cases hx
theorem go_appT (h : MRel F g st (tm a) w) {x y : Operand} {t u : TypeId} (hop : o.op = .call { callee := .builtin .append, args := #[x, y], argTypes := #[t, u] }) {p q : PV} (hx : RelP F g w st.O (tm a) (a.eval x) p) (hy : RelP F g w st.O (tm a) (a.eval y) q)
    (htight : ∃ ad n, a.eval x = .slice (some ad) n n) (hv : appT E.P o t u p q C = some r) : Goes E F g st a w o C r := by
  unfold appT at hv
  split at hv
  case h_2 => cases hv
  rename_i e d hu hd
  split at hv
  case h_2 => cases hv
  rename_i ty l i hsl hi
  split at hv
  case h_2 => cases hv
  rename_i z m hz hm
  split at hm
  case h_2 => cases hm
  rename_i hst
  simp only [Bool.and_eq_true, Bool.not_eq_true'] at hst
  have hut : t = u := by simpa using hst.1
  subst hut
  split at hv
  case h_2 => cases hv
  rename_i hsz
  simp only [Bool.and_eq_true] at hsz
  obtain ⟨hc, hv⟩ := chk_some hv
  simp only [Bool.and_eq_true, decide_eq_true_eq, Nat.blt_eq] at hc
  obtain ⟨⟨hmpos, hbytes⟩, h63⟩ := hc
  have hsize : i.size = ty.size := by simpa using hsz.1.1
  have hpos : 0 < i.size := by have := hsz.1.2; rw [Nat.blt_eq] at this; exact this
  have hzs : z.cells.size = i.size := by simpa using hsz.2
  have hxr := slP_rep hsl hx
  have hyr : RepD w g.C (.sl ty) m [a.eval y] := by
    rcases tailP_rel hm hy with ⟨s, hs, rfl, hl, _⟩ | hr
    · exfalso
      have hnot := hst.2
      unfold tailP at hm
      have : ∃ q', strP q = some q' := by
        cases hq : strP q with
        | some q' => exact ⟨q', rfl⟩
        | none =>
          rw [hq] at hm
          simp only at hm
          split at hm
          · rename_i e' l' hsl'
            obtain ⟨_, _, _, e1, _⟩ := slP_rep hsl' hy
            rw [hs] at e1; simp at e1
          · split at hm
            · have hy' : a.eval y = .slice none 0 0 := hy
              rw [hs] at hy'; cases hy'
            · cases hm
      obtain ⟨q', hq⟩ := this
      unfold strP at hq
      split at hq
      · cases hnot
      · cases hq
    · exact hr
  obtain ⟨ad, n, hxe⟩ := htight
  rw [hxe] at hxr
  have hxr0 := hxr
  obtain ⟨_, _, _, x1, x2, _⟩ := hxr0
  have hn : l.length = n := by
    simp only [List.cons.injEq, Value.slice.injEq, and_true] at x1
    rw [x1.2.1]; exact x2
  have hyr0 := hyr
  obtain ⟨ya, yn, yc, y1, y2, _, _, y5⟩ := hyr0
  have hye : a.eval y = .slice ya yn yc := by simpa using y1
  have hmn : m.length = yn := y2
  obtain ⟨yad, rfl⟩ : ∃ yad, ya = some yad := by
    obtain ⟨ad', us, e1, _⟩ := y5 0 _ (List.getElem?_eq_getElem hmpos)
    exact ⟨ad', e1⟩
  rw [hye] at hyr
  obtain ⟨olds, o1, o2, o3, o4⟩ := slice_cells (e := ty) (by omega) hxr
  obtain ⟨news, n1, n2, n3, n4⟩ := slice_cells (e := ty) (by omega) hyr
  obtain ⟨v', w', hr, how, hgr⟩ := run_append_arg_grows (P := E.P) w t o.type e i z ty.size i.bytes hu hi hz hsize rfl (by rw [hzs, hsize]) (by omega) ad n n olds (by rw [o1, hn]) o2 yad yn yc news (by rw [n1, hmn]) n2 (by omega) (by omega) (by rw [← hn, ← hmn]; exact hbytes)
  obtain ⟨cb, hrb⟩ := run_builtin (P := E.P) (w := w) (f := a.eval) hop
  have hres : (execOp a.eval o).run E.P w = .ok (.value v') w' := by
    rw [hrb]
    simp [builtin, hxe, hye, hr]
  rcases how.2 with ⟨_, hz0⟩ | ⟨B, cap, cur, rfl, hB, hb, hlc, hmax, hcs, htake⟩
  · omega
  · have hBlt : B < w'.heap.size := lt_of_cells hb
    have hll : (l ++ m).length = n + yn := by rw [List.length_append, hn, hmn]
    have hU := out_newRow (F := F) (d := d) (B := B) (cap := cap) (E0 := e) (l := l ++ m) (cur := cur) (gs := []) (w' := w') h hB hBlt hgr.size (fun b hb => hgr.block b hb (by simp)) hgr.os hgr.tape hgr.output hb (by rw [hll]; exact hlc) hmax hcs
      (rows_app o1 n1 (by rw [hn, hmn]; exact htake) o4 n4)
    rw [hll] at hU
    exact goes_val hres hU hv
theorem go_append (h : MRel F g st (tm a) w) {args : Array Operand} {ts : Array TypeId} (hop : o.op = .call { callee := .builtin .append, args := args, argTypes := ts }) (hv : pvU E o st (evK st.kn st.φ) C = some r) : Goes E F g st a w o C r := by
  simp only [pvU, hop] at hv
  unfold bltP at hv
  split at hv
  · cases hv
  case h_3 => cases hv
  rename_i x y t u hargs hts
  obtain rfl : args = #[x, y] := by cases args; simp_all
  obtain rfl : ts = #[t, u] := by cases ts; simp_all
  simp only at hv
  unfold appL at hv
  split at hv
  · split at hv
    · exact go_appV h hop hv
    · exact go_appP h hop hv
  · rename_i k K hkeys
    have hKnp : ∀ j, hasN (k :: K) j = true → isPool j = false := fun j hj => by
      rw [← hkeys] at hj
      obtain ⟨z, _, hz2⟩ := List.mem_flatMap.1 (hasN_iff.1 hj)
      have hz3 := ev_rel h z
      split at hz2
      · rename_i hrow
        rw [hrow] at hz3
        rw [List.mem_singleton.1 hz2]
        exact hz3.1
      · cases hz2
    obtain ⟨hall, hv⟩ := chk_some hv
    rw [Bool.and_eq_true] at hall
    have hok : ∀ i, hasN (tmpsOf [x, y]) i = true → rowOk st.L (st.φ i) = true := fun i hi => by
      obtain ⟨z, hz, hzi⟩ := List.mem_filterMap.1 (hasN_iff.1 hi)
      have hz1 : rowOk st.L (evK st.kn st.φ z) = true := by
        simp only [List.mem_cons, List.not_mem_nil, or_false] at hz
        rcases hz with rfl | rfl
        · exact hall.1
        · exact hall.2
      exact tmp_ok hzi hz1
    have hrel := lend_rel (k :: K) (tmpsOf [x, y]) hKnp h hok
    have ex : lendX (k :: K) (tmpsOf [x, y]) st.L x (evK st.kn st.φ x) = evK (lendSt (k :: K) (tmpsOf [x, y]) st).kn (lendSt (k :: K) (tmpsOf [x, y]) st).φ x := (lend_ev x).symm
    have ey : lendX (k :: K) (tmpsOf [x, y]) st.L y (evK st.kn st.φ y) = evK (lendSt (k :: K) (tmpsOf [x, y]) st).kn (lendSt (k :: K) (tmpsOf [x, y]) st).φ y := (lend_ev y).symm
    rw [ex, ey] at hv
    have back : ∀ {N : Act → World → Prop} {Q : Exit → Act → World → Prop}, Goes E F (lendG g st (k :: K)) (lendSt (k :: K) (tmpsOf [x, y]) st) a w o (lendC C) r → (∀ v w' g' u, C u = some r → OutR F g st w u v g' w' → N (a.put o.dst v) w') → o.wp E.P a w N Q := fun {N Q} hg hN => hg N Q fun v w' g' u hC hU => by
      obtain ⟨h1, h2⟩ := lend_back (k :: K) _ h hU hC
      exact hN v w' _ u h1 h2
    split at hv
    · rename_i hrow
      split at hv
      · rename_i htt
        intro N Q hN
        refine back ?_ hN
        refine go_appT hrel hop (ev_rel hrel x) (ev_rel hrel y) ?_ hv
        have hx := ev_rel h x
        cases hp : evK st.kn st.φ x with
        | row k' n tt =>
          rw [hp] at hx htt
          obtain ⟨_, cap, q1, _, _, q4⟩ := hx
          have htt : tt = true := htt
          exact ⟨_, n, by rw [q1, q4 htt]⟩
        | _ => rw [hp] at hrow; cases hrow
      · cases hv
    · intro N Q hN
      exact back (go_appP hrel hop hv) hN
theorem go_add (h : MRel F g st (tm a) w) {f : FuncId} {fn : Func} {args : Array Operand} {ts : Array TypeId} (hop : o.op = .call { callee := .value (.func f), args := args, argTypes := ts }) (hfn : E.P.funcs[f]? = some fn) (hadd : isAdd fn = true) (x y z : Int)
    (hargs : args.toList.map (evK st.kn st.φ) = [PV.w false [.d (.int .u64) x], .w false [.d (.int .u64) y], .w false [.d (.int .u64) z]]) (hv : addP x y z C = some r) : Goes E F g st a w o C r := by
  unfold addP at hv
  obtain ⟨hz, hv⟩ := chk_some hv
  have hz : z = 0 := beq_iff_eq.1 hz
  subst hz
  unfold isAdd at hadd
  simp only [Bool.and_eq_true, beq_iff_eq] at hadd
  obtain ⟨⟨hname, horig⟩, hbody⟩ := hadd
  obtain ⟨al⟩ := args
  have hargs : al.map (evK st.kn st.φ) = [PV.w false [.d (.int .u64) x], .w false [.d (.int .u64) y], .w false [.d (.int .u64) (0 : Int)]] := hargs
  rcases al with _ | ⟨x1, _ | ⟨x2, _ | ⟨x3, _ | ⟨x4, al⟩⟩⟩⟩ <;> try (simp at hargs; done)
  injection hargs with q1 hargs
  injection hargs with q2 hargs
  injection hargs with q3 _
  have r1 := ev_rel h x1
  have r2 := ev_rel h x2
  have r3 := ev_rel h x3
  rw [q1] at r1
  rw [q2] at r2
  rw [q3] at r3
  obtain ⟨e1, f1⟩ := rel_int r1
  obtain ⟨e2, f2⟩ := rel_int r2
  obtain ⟨e3, f3⟩ := rel_int r3
  have b1 : 0 ≤ x ∧ x < 18446744073709551616 := by
    simp [Lit.wf, IntKind.min, IntKind.max, IntKind.signed, IntKind.bits] at f1
    omega
  have b2 : 0 ≤ y ∧ y < 18446744073709551616 := by
    simp [Lit.wf, IntKind.min, IntKind.max, IntKind.signed, IntKind.bits] at f2
    omega
  have ef : a.eval (.func f) = .func (.func f) #[] #[] := rfl
  have hex : execOp a.eval o = callFunc f #[.int .u64 x, .int .u64 y, .int .u64 0] := by
    unfold execOp
    simp [hop, resolve, Deferred.ofValue, invoke, ef, e1, e2, e3]
  have hfind : Extern.find fn = some add64Entry := by
    unfold Extern.find
    rw [hname, horig]
    kernel_rfl
  have hnext : Extern.findNext fn = none := by
    unfold Extern.findNext
    rw [hname, horig]
    kernel_rfl
  refine goes_same h (v := .tuple #[.int .u64 ((x + y) % 18446744073709551616), .int .u64 ((x + y) / 18446744073709551616)]) ?_ ?_ (fun _ _ _ _ e => by cases e) hv
  · rw [hex, run_callFunc_extern hfn (by rw [hname]; decide) hbody hnext hfind, run_add64 x y 0 b1.1 b2.1 (by omega) (by omega)]
    simp only [Result.andThen, Int.add_zero]
  · refine ⟨_, rfl, ⟨[_], repLs_single.2 ⟨rfl, ?_⟩, rfl⟩, ⟨[_], repLs_single.2 ⟨rfl, ?_⟩, rfl⟩, trivial⟩
    · simp [Lit.wf, IntKind.min, IntKind.max, IntKind.signed, IntKind.bits]
      omega
    · simp [Lit.wf, IntKind.min, IntKind.max, IntKind.signed, IntKind.bits]
      omega
theorem go_extP (h : MRel F g st (tm a) w) {f : FuncId} {fn : Func} {args : Array Operand} {ts : Array TypeId} (hop : o.op = .call { callee := .value (.func f), args := args, argTypes := ts }) (hfn : E.P.funcs[f]? = some fn) (hv : extP fn (args.toList.map (evK st.kn st.φ)) C = some r) : Goes E F g st a w o C r := by
  unfold extP at hv
  split at hv
  · exact go_add h hop hfn (by assumption) _ _ _ (by assumption) hv
  · cases hv
end
end Pv
end Go.Proofs.YtifbhefbhlbofaaGreatDoor
namespace Go.Proofs.YtifbhefbhlbofaaGreatDoor
open Go.MapKept
namespace Pv
set_option linter.unusedVariables false
theorem eqI_iff {x y : Int} : eqI x y = true ↔ x = y := by unfold eqI; exact beq_iff_eq
theorem nodup_at {α : Type} {l : List α} (h : l.Nodup) {i j : Nat} (hi : i < l.length) (hj : j < l.length) (e : l[i] = l[j]) : i = j := by
  have hp := List.pairwise_iff_getElem.1 h
  rcases Nat.lt_trichotomy i j with hlt | he | hlt
  · exact (hp i j hi hj hlt e).elim
  · exact he
  · exact (hp j i hj hi hlt e.symm).elim
theorem mapGet_spec {α : Type} (n : Int) : ∀ (l : List (Int × α)), (mapGet l n = none ∧ (∀ p ∈ l, p.1 ≠ n) ∧ ∀ v, mapSet l n v = l ++ [(n, v)]) ∨ ∃ (i : Nat) (x : α), l[i]? = some (n, x) ∧ mapGet l n = some x ∧ ∀ v, mapSet l n v = l.set i (n, v)
  | [] => .inl ⟨rfl, fun p hp => by (cases hp), fun v => rfl⟩
  | (k, x) :: r => by
    by_cases h : k = n
    · refine .inr ⟨0, x, by rw [← h]; rfl, ?_, fun v => ?_⟩
      · show cond (eqI k n) (some x) (mapGet r n) = _
        rw [eqI_iff.2 h]; rfl
      · show cond (eqI k n) ((n, v) :: r) ((k, x) :: mapSet r n v) = _
        rw [eqI_iff.2 h]; rfl
    · have hf : eqI k n = false := by
        cases hq : eqI k n with
        | false => rfl
        | true => exact (h (eqI_iff.1 hq)).elim
      have e1 : mapGet ((k, x) :: r) n = mapGet r n := by
        show cond (eqI k n) (some x) (mapGet r n) = _
        rw [hf]; rfl
      have e2 : ∀ v, mapSet ((k, x) :: r) n v = (k, x) :: mapSet r n v := fun v => by
        show cond (eqI k n) ((n, v) :: r) ((k, x) :: mapSet r n v) = _
        rw [hf]; rfl
      rcases mapGet_spec n r with ⟨h1, h2, h3⟩ | ⟨i, y, h1, h2, h3⟩
      · refine .inl ⟨e1.trans h1, fun p hp => ?_, fun v => by rw [e2, h3]; rfl⟩
        rcases List.mem_cons.1 hp with hp | hp
        · rw [hp]; exact h
        · exact h2 p hp
      · exact .inr ⟨i + 1, y, by simpa using h1, e1.trans h2, fun v => by rw [e2, h3]; rfl⟩
section
variable {E : Env} {F : Fr} {g g' : Gh} {st : PSt} {a : Act} {w w' : World} {o : Oper} {R : Type} {C : Upd → Option R} {r : R} {tmf : Nat → Value} {O : Tok → Bool} {P : Program} {u : Upd} {v : Value}
theorem EntOk.at {D : Com} {k : IntKind} {vt : Ty} {l : List (Int × vt.D)} {es : List MapEntry} {clock : Nat} (h : EntOk w D (.int k) vt l es clock) {i : Nat} {m : MapEntry} (hm : es[i]? = some m) :
    ∃ x : Int × vt.D, l[i]? = some x ∧ m.key = .int k x.1 ∧ (Lit.int k x.1).wf = true ∧ RepD w D vt x.2 [m.val] ∧ m.born < clock := by
  have hl : es.length = List.length (α := Int × vt.D) l := h.1
  have hi : i < List.length (α := Int × vt.D) l := by rw [← hl]; exact (List.getElem?_eq_some_iff.1 hm).1
  obtain ⟨⟨h1, h2⟩, h3, h4⟩ := h.2.1 i l[i] m (List.getElem?_eq_getElem hi) hm
  injection h1 with h1
  exact ⟨l[i], List.getElem?_eq_getElem hi, h1, h2, h3, h4⟩
theorem EntOk.keys {D : Com} {k : IntKind} {vt : Ty} {l : List (Int × vt.D)} {es : List MapEntry} {clock : Nat} (h : EntOk w D (.int k) vt l es clock) : ∀ x ∈ es, IsKey (.int k) x.key := fun m hm => by
  obtain ⟨i, hi⟩ := List.mem_iff_getElem?.1 hm
  obtain ⟨x, _, h2, _⟩ := h.at hi
  rw [h2]
  exact rfl
theorem EntOk.find {D : Com} {k : IntKind} {vt : Ty} {l : List (Int × vt.D)} {es : List MapEntry} {clock : Nat} (h : EntOk w D (.int k) vt l es clock) (n : Int) :
    (Instr.findNow (.int k) (.int k n) es 0 = some none ∧ mapGet l n = none ∧ (∀ x ∈ es, x.key ≠ .int k n) ∧ (∀ p ∈ l, p.1 ≠ n) ∧ ∀ v, mapSet l n v = l ++ [(n, v)]) ∨
    ∃ (i : Nat) (m : MapEntry) (x : vt.D), Instr.findNow (.int k) (.int k n) es 0 = some (some (i, m.val)) ∧ es[i]? = some m ∧ m.key = .int k n ∧ l[i]? = some (n, x) ∧ mapGet l n = some x ∧ RepD w D vt x [m.val] ∧ ∀ v, mapSet l n v = l.set i (n, v) := by
  rcases findNow_spec (d := .int k) (k := .int k n) rfl es 0 h.keys with ⟨h1, h2⟩ | ⟨i, m, h1, h2, h3⟩
  · refine .inl ?_
    rcases mapGet_spec n l with ⟨g1, g2, g3⟩ | ⟨i, x, g1, g2, g3⟩
    · exact ⟨h1, g1, h2, g2, g3⟩
    · exfalso
      have hl : es.length = List.length (α := Int × vt.D) l := h.1
      have hi : i < es.length := by rw [hl]; exact (List.getElem?_eq_some_iff.1 g1).1
      obtain ⟨y, q1, q2, _⟩ := h.at (List.getElem?_eq_getElem hi)
      rw [g1] at q1
      cases q1
      exact h2 _ (List.getElem_mem hi) q2
  · refine .inr ?_
    rw [Nat.zero_add] at h1
    obtain ⟨y, q1, q2, q3, q4, q5⟩ := h.at h2
    rw [q2] at h3
    injection h3 with _ h3
    rcases mapGet_spec n l with ⟨g1, g2, g3⟩ | ⟨j, x, g1, g2, g3⟩
    · exact (g2 y (List.mem_of_getElem? q1) h3).elim
    · have hnd := h.2.2.2
      have hij : i = j := by
        have e1 : (l.map (·.1))[i]? = some n := by rw [List.getElem?_map, q1]; simp [h3]
        have e2 : (l.map (·.1))[j]? = some n := by rw [List.getElem?_map, g1]; rfl
        have hi := (List.getElem?_eq_some_iff.1 e1)
        have hj := (List.getElem?_eq_some_iff.1 e2)
        obtain ⟨hi1, hi2⟩ := hi
        obtain ⟨hj1, hj2⟩ := hj
        exact nodup_at hnd hi1 hj1 (hi2.trans hj2.symm)
      subst hij
      rw [q1] at g1
      cases g1
      exact ⟨i, m, x, h1, h2, q2, q1, g2, q4, g3⟩
theorem map_at (h : MRel F g st tmf w) {M v : Nat} {b : Bool} {k : IntKind} {vt : Ty} {l : List (Ty.sl (.pr (.int k) vt)).D} (hp : poolL st.L (mk M) = some (b, v, ⟨.sl (.pr (.int k) vt), l⟩)) {m : Int} {es : List (Int × vt.D)} (hx : getI (α := List (Int × vt.D)) l m = some es) {u : Value}
    (hu : RelP F g w O tmf u (.w false [.d (.mp M) m])) : ∃ (n blk : Nat) (ens : Array MapEntry) (clock : Nat), m = (n : Int) ∧ l[n]? = some es ∧ u = .map (some blk) ∧ g.C.i (mk M) n = some blk ∧ g.ow blk = some (mk M, n, none) ∧ w.heap[blk]? = some (.map ens clock) ∧ (∀ o, ¬ g.C blk o) ∧
      EntOk w g.C (.int k) vt es ens.toList clock := by
  obtain ⟨p, hp1, hp2⟩ := rel_leaf.1 hu
  obtain ⟨h0, hget, _⟩ := getI_some hx
  rcases hp1 with ⟨e1, _⟩ | ⟨n, blk, rfl, hi, rfl⟩
  · exfalso; have e1 : m = -1 := e1; omega
  have hget' : l[n]? = some es := hget
  obtain ⟨_, _, h3⟩ := pool_at h hp (isPool_mk M)
  have h4 := h3 n es hget'
  unfold ItemOk at h4
  rw [isMapK_mk] at h4
  obtain ⟨b', ens, clock, q1, q2, q3, q4, q5⟩ := h4
  rw [hi] at q1
  cases q1
  injection hp2 with hp2
  exact ⟨n, blk, ens, clock, rfl, hget', hp2, hi, q2, q3, q4, q5⟩
theorem intT_some {t : TypeId} {k : IntKind} (h : intT P t k = true) : P.underlying t = some (.int k) := by
  unfold intT at h
  split at h
  · rename_i k' hk
    rw [hk, ikEq_eq h]
  · cases h
theorem go_lookup (h : MRel F g st (tm a) w) {t : TypeId} {x i : Operand} {c : Bool} (hop : o.op = .lookup t x i c) (hv : pvU E o st (evK st.kn st.φ) C = some r) : Goes E F g st a w o C r := by
  simp only [pvU, hop] at hv
  have hx := ev_rel h x
  have hi := ev_rel h i
  split at hv
  case h_2 => cases hv
  rename_i kt et M m kk n ht hx' hi'
  rw [hx'] at hx
  rw [hi'] at hi
  split at hv
  case h_2 => cases hv
  rename_i hb
  rw [Bool.and_eq_true] at hb
  have hM := Nat.eq_of_beq_eq_true hb.1
  subst hM
  have hkt := intT_some hb.2
  obtain ⟨hie, _⟩ := rel_int hi
  unfold lookP at hv
  split at hv
  case h_2 => cases hv
  rename_i b v k vt l inf hp hinf
  split at hv
  case h_2 => cases hv
  rename_i z hk hz
  rw [Bool.and_eq_true] at hk
  have hk1 := ikEq_eq hk.1
  subst hk1
  split at hv
  case h_2 => cases hv
  rename_i hzc
  obtain ⟨es, hes, hv2⟩ := Option.bind_eq_some_iff.1 hv
  clear hv
  obtain ⟨nn, blk, ens, clock, rfl, hget, hxu, hCi, how, hheap, hC0, hent⟩ := map_at h hp hes hx
  have hzr : RepD w g.C vt (zeroD vt) [z] := RepD.zero hzc
  have hzv : (zeroValue et).run E.P w = .ok z w := by simp [zeroValue, typeInfo, hinf, hz]
  rcases hent.find n with ⟨h1, h2, _⟩ | ⟨j, me, y, h1, h2, h3, h4, h5, h6, _⟩
  · rw [h2] at hv2
    have hrun : (Instr.lookup M (a.eval x) (a.eval i) c).run E.P w = .ok (if c then .tuple #[z, .bool false] else z) w := by
      rw [hxu, hie]
      simp [Instr.lookup, run_underlying ht, Go.MapKept.run_getObj_map hheap, run_checkKey (k := .int k n) hkt rfl, run_findKey hkt h1, hzv, Result.andThen]
    have hex : (execOp a.eval o).run E.P w = .ok (.value (if c then .tuple #[z, .bool false] else z)) w := by
      simp [execOp, hop, hrun, Result.andThen]
    cases c with
    | false => exact goes_same h hex (rel_leaf.2 hzr) (fun _ _ _ _ e => by cases e) hv2
    | true =>
      have hq : RelP F g w st.O (tm a) (.tuple #[z, .bool false]) (.tup [(false, [.d vt (zeroD vt)]), (false, [.d .bool false])]) := ⟨[z, .bool false], rfl, ⟨[z], repLs_single.2 hzr, rfl⟩, ⟨[.bool false], repLs_single.2 rfl, rfl⟩, trivial⟩
      exact goes_same h hex hq (fun _ _ _ _ e => by cases e) hv2
  · rw [h5] at hv2
    have hrun : (Instr.lookup M (a.eval x) (a.eval i) c).run E.P w = .ok (if c then .tuple #[me.val, .bool true] else me.val) w := by
      rw [hxu, hie]
      simp [Instr.lookup, run_underlying ht, Go.MapKept.run_getObj_map hheap, run_checkKey (k := .int k n) hkt rfl, run_findKey hkt h1, hzv, Result.andThen]
    have hex : (execOp a.eval o).run E.P w = .ok (.value (if c then .tuple #[me.val, .bool true] else me.val)) w := by
      simp [execOp, hop, hrun, Result.andThen]
    cases c with
    | false => exact goes_same h hex (rel_leaf.2 h6) (fun _ _ _ _ e => by cases e) hv2
    | true =>
      have hq : RelP F g w st.O (tm a) (.tuple #[me.val, .bool true]) (.tup [(false, [.d vt y]), (false, [.d .bool true])]) := ⟨[me.val, .bool true], rfl, ⟨[me.val], repLs_single.2 h6, rfl⟩, ⟨[.bool true], repLs_single.2 rfl, rfl⟩, trivial⟩
      exact goes_same h hex hq (fun _ _ _ _ e => by cases e) hv2
theorem out_map (h : MRel F g st (tm a) w) {M v : Nat} {k : IntKind} {vt : Ty} {l : List (Ty.sl (.pr (.int k) vt)).D} (hp : poolL st.L (mk M) = some (true, v, ⟨.sl (.pr (.int k) vt), l⟩)) {n blk : Nat} {es es' : (Ty.sl (.pr (.int k) vt)).D} {ens ens' : Array MapEntry} {clock clock' : Nat} (hget : l[n]? = some es)
    (hi : g.C.i (mk M) n = some blk) (how : g.ow blk = some (mk M, n, none)) (hb : w.heap[blk]? = some (.map ens clock)) (hC0 : ∀ o, ¬ g.C blk o) (hent : EntOk w g.C (.int k) vt es' ens'.toList clock') :
    OutR F g st w (setP (mk M) v (.sl (.pr (.int k) vt)) l (n : Int) es' []) undef ⟨g.C, g.blk, g.ρ, g.H, g.ow, bump g.ver (mk M) (v + 1)⟩ { w with heap := w.heap.setIfInBounds blk (.map ens' clock') } := by
  obtain ⟨hv1, hv2, hitems⟩ := pool_at h hp (isPool_mk M)
  obtain ⟨hver, hPT⟩ := hv1 rfl
  have hnl : n < l.length := (List.getElem?_eq_some_iff.1 hget).1
  obtain ⟨hs1, hs2⟩ := heap_set (o' := .map ens' clock') hb
  have hW : ∀ o, Wr F blk o := fun o => h.ows.wr blk _ _ _ how hPT o (hC0 o)
  have hcellne : ∀ ad u, w.cell? ad = some u → ad.block ≠ blk := fun ad u hc e1 => by
    unfold World.cell? at hc
    rw [e1, hb] at hc
    cases hc
  have hcell : ∀ (ad : Addr), ad.block ≠ blk → World.cell? { w with heap := w.heap.setIfInBounds blk (.map ens' clock') } ad = w.cell? ad := fun ad hne => by
    unfold World.cell?
    dsimp only
    rw [hs2 _ hne]
  have G : Gw w g.C { w with heap := w.heap.setIfInBounds blk (.map ens' clock') } g.C := ⟨fun ad u hc hC => ⟨(hcell ad (hcellne ad u hc)).trans hc, hC⟩, fun _ _ _ q => q⟩
  have hsz : ({ w with heap := w.heap.setIfInBounds blk (.map ens' clock') } : World).heap.size = w.heap.size := by simp
  have hF := h.fr
  have F1 : Frame F g.C { w with heap := w.heap.setIfInBounds blk (.map ens' clock') } := by
    refine ⟨by rw [hsz]; exact hF.size, hF.os, hF.tape, hF.output, fun b hlt hx => ?_, fun b cs T f hlt hc => ?_, hF.com, hF.mono, hF.imono, fun b o hc => by rw [hsz]; exact hF.lim b o hc⟩
    · by_cases e1 : b = blk
      · exfalso
        rcases hW 0 with q | q
        · omega
        · rw [e1] at hx; exact hx 0 q
      · exact (hs2 b e1).trans (hF.old b hlt hx)
    · obtain ⟨cs', f', q1, q2, q3⟩ := hF.shape b cs T f hlt hc
      by_cases e1 : b = blk
      · rw [e1, hb] at q1; cases q1
      · exact ⟨cs', f', (hs2 b e1).trans q1, q2, q3⟩
  have hkp : ∀ b, b ≠ blk → Kp g w ⟨g.C, g.blk, g.ρ, g.H, g.ow, bump g.ver (mk M) (v + 1)⟩ { w with heap := w.heap.setIfInBounds blk (.map ens' clock') } b := fun b hne => ⟨hs2 b hne, fun _ => Iff.rfl⟩
  have hneN : ∀ b, g.ow b = none → b ≠ blk := fun b hq e1 => by rw [e1, how] at hq; cases hq
  have hneq : ∀ b q, g.ow b = some q → q ≠ (mk M, n, none) → b ≠ blk := fun b q hq hne e1 => by
    rw [e1, how] at hq
    exact hne (Option.some.inj hq).symm
  refine ⟨F1, G, fun t _ hO => ?_, fun _ _ _ => rfl, fun _ => .inl rfl, rfl, fun _ => rfl, fun _ _ _ _ e => by (cases e), fun k' l2 hm hnp => ?_, fun j y hj np _ => hkp _ (hneN _ (h.ows.loc j y hj np)), h.blk0, fun _ _ hm => by (cases hm), fun _ _ _ hm => by (cases hm), fun k' l2 hm hn => ?_,
    ⟨fun k' l2 hm _ => ?_, fun b k' j s' hbo hnm => ?_, fun k' hnm => bump_ne fun e1 => hnm (by rw [e1]; exact List.mem_singleton.2 rfl), fun b q hq => hq, fun b q hq => ⟨by rw [hsz]; exact h.ows.lim b q hq, .inl hq⟩, fun _ _ hm => by (cases hm), fun k' l2 hm _ hnp => ?_, fun k' _ j => rfl, fun k' hm _ => ?_, fun b k' j s' hbo hpt => .inr fun o hn => h.ows.wr b k' j s' hbo hpt o hn⟩⟩
  · obtain ⟨hng, hO⟩ : t ∉ ([] : List Tok) ∧ st.O t = true := (putO_true.1 hO).resolve_left (by intro hm; cases hm)
    exact ⟨hO, rfl, fun b hbl => hkp b (hneN b (h.ows.tok t b hO hbl))⟩
  · have e1 := (Prod.mk.inj (List.mem_singleton.1 hm)).1
    rw [e1, isPool_mk] at hnp; cases hnp
  · have e1 := (Prod.mk.inj (List.mem_singleton.1 hm)).1
    obtain ⟨σ, hh⟩ := poolL_some hp
    rw [e1] at hn
    rcases hh with ⟨_, hh⟩ | ⟨hh, _⟩
    · rw [hn] at hh; cases hh
    · cases hh
  · obtain ⟨rfl, rfl⟩ := Prod.mk.inj (List.mem_singleton.1 hm)
    refine ⟨⟨.sl (.pr (.int k) vt), l.set n es', .inl ⟨v + 1, rfl, bump_at, hPT⟩, fun j b hjb => ?_, fun j y hy => ?_⟩, ?_⟩
    · exact Nat.lt_of_lt_of_eq (hv2 j b hjb) (List.length_set (as := l)).symm
    · have hy2 : (List.set l n es')[j]? = some y := hy
      clear hy
      rw [set_get hnl] at hy2
      by_cases hj : n = j
      · rw [if_pos hj] at hy2
        subst hj
        cases hy2
        unfold ItemOk
        rw [isMapK_mk]
        exact ⟨blk, ens', clock', hi, how, hs1, hC0, hent.1, fun i x m hx hm => by
          obtain ⟨q1, q2, q3⟩ := hent.2.1 i x m hx hm
          exact ⟨q1.gw G, q2.gw G, q3⟩, hent.2.2⟩
      · rw [if_neg hj] at hy2
        exact (hitems j y hy2).gw G fun b s' hbo => ⟨hkp b (hneq b _ hbo fun e1 => hj (by injection e1 with _ e1; injection e1 with e1 _; exact e1.symm)), hbo⟩
    · show g.ver (mk M) < bump g.ver (mk M) (v + 1) (mk M)
      rw [bump_at, hver]; omega
  · have hk' : k' ≠ mk M := fun e1 => hnm (by rw [e1]; exact List.mem_singleton.2 rfl)
    exact hkp b (hneq b _ hbo fun e1 => hk' (by injection e1))
  · have e1 := (Prod.mk.inj (List.mem_singleton.1 hm)).1
    rw [e1, isPool_mk] at hnp; cases hnp
  · have e1 : k' = mk M := List.mem_singleton.1 hm
    rw [e1]; exact hPT
theorem EntOk.push {D : Com} {k : IntKind} {vt : Ty} {l : List (Int × vt.D)} {es : Array MapEntry} {clock : Nat} (h : EntOk w D (.int k) vt l es.toList clock) {n : Int} {x : vt.D} {u : Value} (hwf : (Lit.int k n).wf = true) (hu : RepD w D vt x [u]) (hn : ∀ p ∈ l, p.1 ≠ n) :
    EntOk w D (.int k) vt (l ++ [(n, x)]) (es.push { key := .int k n, val := u, born := clock }).toList (clock + 1) := by
  have hl : es.toList.length = List.length (α := Int × vt.D) l := h.1
  rw [Array.toList_push]
  refine ⟨?_, fun i y m hy hm => ?_, ?_, ?_⟩
  · show (es.toList ++ [_]).length = List.length (α := Int × vt.D) (l ++ [(n, x)])
    rw [List.length_append, List.length_append, hl]; rfl
  · have hy : (l ++ [(n, x)])[i]? = some y := hy
    by_cases hi : i < es.toList.length
    · rw [List.getElem?_append_left hi] at hm
      rw [List.getElem?_append_left (by omega)] at hy
      obtain ⟨q1, q2, q3⟩ := h.2.1 i y m hy hm
      exact ⟨q1, q2, by omega⟩
    · rw [List.getElem?_append_right (by omega)] at hm hy
      rw [hl] at hm
      cases hd : i - List.length (α := Int × vt.D) l with
      | zero =>
        rw [hd] at hm hy
        have hm : some _ = some m := hm
        have hy : some _ = some y := hy
        cases hm
        cases hy
        exact ⟨⟨rfl, hwf⟩, hu, by show clock < clock + 1; omega⟩
      | succ j => rw [hd] at hm; simp at hm
  · rw [List.map_append, List.nodup_append]
    refine ⟨h.2.2.1, by simp, fun b hb c hc => ?_⟩
    simp at hc
    obtain ⟨m, hm, rfl⟩ := List.mem_map.1 hb
    obtain ⟨i, hi⟩ := List.mem_iff_getElem?.1 hm
    obtain ⟨_, _, _, _, _, q⟩ := h.at hi
    omega
  · show ((l ++ [(n, x)]).map (·.1)).Nodup
    rw [List.map_append, List.nodup_append]
    refine ⟨h.2.2.2, by simp, fun b hb c hc => ?_⟩
    simp at hc
    obtain ⟨p, hp, rfl⟩ := List.mem_map.1 hb
    rw [hc]
    exact hn p hp
theorem EntOk.put {D : Com} {k : IntKind} {vt : Ty} {l : List (Int × vt.D)} {es : Array MapEntry} {clock : Nat} (h : EntOk w D (.int k) vt l es.toList clock) {i : Nat} {m : MapEntry} {n : Int} {x y : vt.D} {u : Value} (hm : es.toList[i]? = some m) (hk : m.key = .int k n) (hy : l[i]? = some (n, y)) (hu : RepD w D vt x [u]) :
    EntOk w D (.int k) vt (l.set i (n, x)) (es.modify i fun e => { e with key := .int k n, val := u }).toList clock := by
  have hl : es.toList.length = List.length (α := Int × vt.D) l := h.1
  have hil : i < List.length (α := Int × vt.D) l := (List.getElem?_eq_some_iff.1 hy).1
  have hget : ∀ j m', (es.modify i fun e => { e with key := .int k n, val := u }).toList[j]? = some m' → (j = i ∧ m' = { m with key := .int k n, val := u }) ∨ (j ≠ i ∧ es.toList[j]? = some m') := fun j m' hj => by
    rw [Array.getElem?_toList, Array.getElem?_modify] at hj
    by_cases e1 : i = j
    · subst e1
      rw [if_pos rfl] at hj
      rw [Array.getElem?_toList] at hm
      rw [hm] at hj
      exact .inl ⟨rfl, (Option.some.inj hj).symm⟩
    · rw [if_neg e1] at hj
      exact .inr ⟨fun e2 => e1 e2.symm, by rw [Array.getElem?_toList]; exact hj⟩
  have hborn : (es.modify i fun e => { e with key := .int k n, val := u }).toList.map (·.born) = es.toList.map (·.born) := by
    apply List.ext_getElem?
    intro j
    rw [List.getElem?_map, List.getElem?_map, Array.getElem?_toList, Array.getElem?_modify, Array.getElem?_toList]
    by_cases e1 : i = j
    · rw [if_pos e1]
      cases es[j]? <;> rfl
    · rw [if_neg e1]
  have hkeys : (l.set i (n, x)).map (·.1) = l.map (·.1) := by
    apply List.ext_getElem?
    intro j
    rw [List.getElem?_map, List.getElem?_map, List.getElem?_set]
    by_cases e1 : i = j
    · subst e1
      rw [if_pos rfl, if_pos hil, hy]; rfl
    · rw [if_neg e1]
  refine ⟨?_, fun j z m' hz hm' => ?_, by rw [hborn]; exact h.2.2.1, ?_⟩
  · show _ = List.length (α := Int × vt.D) (l.set i (n, x))
    rw [List.length_set, ← hl]; simp
  · have hz : (l.set i (n, x))[j]? = some z := hz
    rcases hget j m' hm' with ⟨rfl, rfl⟩ | ⟨hne, hm2⟩
    · rw [set_get hil, if_pos rfl] at hz
      cases hz
      obtain ⟨q1, q2, q3⟩ := h.2.1 j (n, y) m hy hm
      refine ⟨?_, hu, q3⟩
      rw [hk] at q1; exact q1
    · rw [set_get hil, if_neg (Ne.symm hne)] at hz
      exact h.2.1 j z m' hz hm2
  · show ((l.set i (n, x)).map (·.1)).Nodup
    rw [hkeys]; exact h.2.2.2
theorem go_mapUpdate (h : MRel F g st (tm a) w) {t : TypeId} {x i y : Operand} (hop : o.op = .mapUpdate t x i y) (hv : pvU E o st (evK st.kn st.φ) C = some r) : Goes E F g st a w o C r := by
  simp only [pvU, hop] at hv
  have hx := ev_rel h x
  have hi := ev_rel h i
  split at hv
  case h_2 => cases hv
  rename_i kt et M m kk n ht hx' hi'
  have hy := norm_rel (P := E.P) (ty := et) h.blk0 (ev_rel h y)
  rw [hx'] at hx
  rw [hi'] at hi
  split at hv
  case h_2 => cases hv
  rename_i vs hb hvs
  rw [hvs] at hy
  rw [Bool.and_eq_true] at hb
  have hM := Nat.eq_of_beq_eq_true hb.1
  subst hM
  have hkt := intT_some hb.2
  obtain ⟨hie, hwf⟩ := rel_int hi
  unfold updP at hv
  split at hv
  case h_2 => cases hv
  rename_i v k vt l hp
  split at hv
  case h_2 => cases hv
  rename_i z hk hz
  rw [Bool.and_eq_true] at hk
  have hk1 := ikEq_eq hk.1
  subst hk1
  obtain ⟨es, hes, hv2⟩ := Option.bind_eq_some_iff.1 hv
  clear hv
  obtain ⟨nn, blk, ens, clock, rfl, hget, hxu, hCi, how, hheap, hC0, hent⟩ := map_at h hp hes hx
  have hzr : RepD w g.C vt z [a.eval y] := by
    obtain ⟨cs, h1, h2⟩ := hy
    have h2 : cs = [a.eval y] := h2
    subst h2
    exact unflatAll_rep hz h1
  rcases hent.find n with ⟨h1, h2, h3, h4, h5⟩ | ⟨j, me, y', h1, h2, h3, h4, h5, h6, h7⟩
  · have hrun : (Instr.mapUpdate M (a.eval x) (a.eval i) (a.eval y)).run E.P w = .ok () { w with heap := w.heap.setIfInBounds blk (.map (ens.push { key := .int k n, val := a.eval y, born := clock }) (clock + 1)) } := by
      rw [hxu, hie]
      simp [Instr.mapUpdate, run_underlying ht, Go.MapKept.run_getObj_map hheap, run_checkKey (k := .int k n) hkt rfl, run_findKey hkt h1, run_setObj_map _ hheap, Result.andThen]
    have hent2 : EntOk w g.C (.int k) vt (mapSet (α := vt.D) es n z) (ens.push { key := .int k n, val := a.eval y, born := clock }).toList (clock + 1) := by rw [h5 z]; exact hent.push hwf hzr h4
    have hU := out_map (es' := mapSet (α := vt.D) es n z) h hp hget hCi how hheap hC0 hent2
    exact goes_skip (by simp [execOp, hop, hrun, Result.andThen]) hU hv2
  · have h2' : ens[j]? = some me := by rw [← Array.getElem?_toList]; exact h2
    have hrun : (Instr.mapUpdate M (a.eval x) (a.eval i) (a.eval y)).run E.P w = .ok () { w with heap := w.heap.setIfInBounds blk (.map (ens.modify j fun e => { e with key := .int k n, val := a.eval y }) clock) } := by
      rw [hxu, hie]
      simp [Instr.mapUpdate, run_underlying ht, Go.MapKept.run_getObj_map hheap, run_checkKey (k := .int k n) hkt rfl, run_findKey hkt h1, run_setObj_map _ hheap, h2', h3, run_keyThatStays (d := .int k) (k := .int k n) rfl, Result.andThen]
    have hent2 : EntOk w g.C (.int k) vt (mapSet (α := vt.D) es n z) (ens.modify j fun e => { e with key := .int k n, val := a.eval y }).toList clock := by rw [h7 z]; exact hent.put h2 h3 h4 hzr
    have hU := out_map (es' := mapSet (α := vt.D) es n z) h hp hget hCi how hheap hC0 hent2
    exact goes_skip (by simp [execOp, hop, hrun, Result.andThen]) hU hv2
def nilM (kt vt : Ty) : (Ty.sl (.pr kt vt)).D := List.nil
theorem go_makeMap (h : MRel F g st (tm a) w) {t : TypeId} (hop : o.op = .makeMap t none) (hv : pvU E o st (evK st.kn st.φ) C = some r) : Goes E F g st a w o C r := by
  simp only [pvU, hop] at hv
  unfold newM at hv
  split at hv
  case h_2 => cases hv
  rename_i v kt vt l hp
  obtain ⟨hv1, hv2, hitems⟩ := pool_at h hp (isPool_mk t)
  obtain ⟨hver, hPT⟩ := hv1 rfl
  have hB : F.w0.heap.size ≤ w.heap.size := h.fr.size
  have hin : g.C.i (mk t) l.length = none := by
    cases hh : g.C.i (mk t) l.length with
    | none => rfl
    | some b => have := hv2 _ _ hh; omega
  have G : Grew w g.C (w.alloc (.map #[] 0)) (iN g.C (mk t) l.length w.heap.size) := by
    have G0 := Grew.alloc h.fr.lim (.map #[] 0)
    refine ⟨G0.size, G0.old, G0.os, G0.tape, G0.output, G0.com, G0.lim, fun k j b hb => ?_⟩
    show (if k = mk t ∧ j = l.length then some w.heap.size else g.C.i k j) = some b
    rw [if_neg fun e1 => by rw [e1.1, e1.2, hin] at hb; cases hb]
    exact hb
  have howE : ∀ b q, g.ow b = some q → owN g w.heap.size (mk t) l.length [] b = some q := fun b q hb => by
    have hlt := h.ows.lim b q hb
    unfold owN
    rw [if_neg (by omega)]
    exact hb
  have howC : ∀ b q, owN g w.heap.size (mk t) l.length [] b = some q → (b = w.heap.size ∧ q = (mk t, l.length, none)) ∨ g.ow b = some q := fun b q hb => by
    unfold owN at hb
    split at hb
    · rename_i e1
      exact .inl ⟨e1, (Option.some.inj hb).symm⟩
    · exact .inr hb
  have hval : ∀ tmf, RelP F ⟨iN g.C (mk t) l.length w.heap.size, g.blk, g.ρ, g.H, owN g w.heap.size (mk t) l.length [], bump g.ver (mk t) (v + 1)⟩ (w.alloc (.map #[] 0)) (putO st.O [] []) tmf (.map (some w.heap.size)) (.w false [.d (.mp t) (l.length : Int)]) := fun tmf =>
    rel_leaf.2 ⟨some w.heap.size, .inr ⟨l.length, w.heap.size, rfl, if_pos ⟨rfl, rfl⟩, rfl⟩, rfl⟩
  have hU : OutR F g st w ⟨.w false [.d (.mp t) (l.length : Int)], [(mk t, [.d (.arr (v + 1) (.sl (.pr kt vt))) (l ++ [nilM kt vt])])], [], []⟩ (.map (some w.heap.size)) ⟨iN g.C (mk t) l.length w.heap.size, g.blk, g.ρ, g.H, owN g w.heap.size (mk t) l.length [], bump g.ver (mk t) (v + 1)⟩ (w.alloc (.map #[] 0)) := by
    refine OutR.grew0 h G (fun _ _ _ => rfl) (fun _ => .inl rfl) rfl (fun tmf => hval tmf) (fun _ _ _ _ e => by cases e) (fun k l2 hm hnp => ?_) h.blk0 (fun _ _ hm => by cases hm) (fun _ _ _ hm => by cases hm) (fun k l2 hm hn => ?_)
      ⟨fun k' l2 hm _ => ?_, fun b k' j s' hbo hnm => ?_, fun k' hnm => bump_ne fun e1 => hnm (by rw [e1]; exact List.mem_singleton.2 rfl), howE, fun b q hq => ?_, fun _ _ hm => by (cases hm), fun k' l2 hm _ hnp => ?_, fun k' hk j => ?_, fun k' hm _ => ?_, fun b k' j s' hbo hpt => .inr fun o hn => ?_⟩
    · have e1 := (Prod.mk.inj (List.mem_singleton.1 hm)).1
      rw [e1, isPool_mk] at hnp; cases hnp
    · have e1 := (Prod.mk.inj (List.mem_singleton.1 hm)).1
      obtain ⟨σ, hh⟩ := poolL_some hp
      rw [e1] at hn
      rcases hh with ⟨_, hh⟩ | ⟨hh, _⟩
      · rw [hn] at hh; cases hh
      · cases hh
    · obtain ⟨rfl, rfl⟩ := Prod.mk.inj (List.mem_singleton.1 hm)
      refine ⟨⟨.sl (.pr kt vt), l ++ [nilM kt vt], .inl ⟨v + 1, rfl, bump_at, hPT⟩, fun j b hjb => ?_, fun j y hy => ?_⟩, ?_⟩
      · have hjb' : (if mk t = mk t ∧ j = l.length then some w.heap.size else g.C.i (mk t) j) = some b := hjb
        rw [List.length_append, List.length_singleton]
        split at hjb'
        · rename_i e1; omega
        · have := hv2 j b hjb'; omega
      · by_cases hj : j < l.length
        · rw [List.getElem?_append_left hj] at hy
          refine (hitems j y hy).gw G.gw fun b s' hbo => ?_
          have hlt := h.ows.lim b _ hbo
          exact ⟨⟨G.old b hlt, fun o => G.com b o hlt⟩, howE b _ hbo⟩
        · have hjl : j = l.length := by
            have := (List.getElem?_eq_some_iff.1 hy).1
            simp at this; omega
          subst hjl
          have hy' : nilM kt vt = y := by simpa using hy
          subst hy'
          unfold ItemOk
          rw [isMapK_mk]
          exact ⟨w.heap.size, #[], 0, if_pos ⟨rfl, rfl⟩, if_pos rfl, heap_alloc_new _ _, fun o hc => by have := h.fr.lim _ _ hc; omega, rfl, fun i x m hx => by (have hx : ([] : List (kt.D × vt.D))[i]? = some x := hx); simp at hx, List.nodup_nil, List.nodup_nil⟩
      · show g.ver (mk t) < bump g.ver (mk t) (v + 1) (mk t)
        rw [bump_at, hver]; omega
    · have hlt := h.ows.lim b _ hbo
      exact ⟨G.old b hlt, fun o => G.com b o hlt⟩
    · rcases howC b q hq with ⟨e1, _⟩ | hq'
      · exact ⟨by rw [e1, World.size_alloc]; omega, .inr (.inl (by omega))⟩
      · exact ⟨Nat.lt_of_lt_of_le (h.ows.lim b q hq') G.size, .inl hq'⟩
    · have e1 := (Prod.mk.inj (List.mem_singleton.1 hm)).1
      rw [e1, isPool_mk] at hnp; cases hnp
    · have hk' : k' ≠ mk t := fun e1 => by
        rcases hk with hk | hk
        · exact hk (by rw [e1]; exact List.mem_singleton.2 rfl)
        · rw [e1, isPool_mk] at hk; cases hk
      exact if_neg fun e1 => hk' e1.1
    · have e1 : k' = mk t := List.mem_singleton.1 hm
      rw [e1]; exact hPT
    · rcases howC b _ hbo with ⟨e1, _⟩ | hq'
      · rw [e1]; exact .inl hB
      · exact h.ows.wr b k' j s' hq' hpt o fun hc => hn hc
  exact goes_val (by simp [execOp, hop, Go.RowKit.run_makeMap, Result.andThen]) hU hv
end
end Pv
end Go.Proofs.YtifbhefbhlbofaaGreatDoor
namespace Go.Proofs.YtifbhefbhlbofaaGreatDoor
namespace Pv
set_option linter.unusedVariables false
section
variable {P : Program} {E : Env} {F : Fr} {g g' : Gh} {st : PSt} {a : Act} {w w' : World} {o : Oper} {R : Type} {C : Upd → Option R} {r : R}
def Env.ok (E : Env) (T : Tab) : Prop := ∀ p ∈ E.fns, SoundFn E.P T p.1 p.2.1 p.2.2
def Env.okF (E : Env) (F : Fr) : Prop := ∃ T, E.ok T ∧ TabF T F
theorem findF_mem : ∀ {l : List (FuncId × (s : Sig) × s.Fn)} {f : FuncId} {x : (s : Sig) × s.Fn}, findF l f = some x → (f, x) ∈ l
  | [], _, _, h => by cases h
  | (g, y) :: l, f, x, h => by
    unfold findF at h
    split at h
    · rename_i hb
      have e : g = f := Nat.eq_of_beq_eq_true hb
      injection h with h
      subst e; subst h
      exact List.mem_cons_self
    · exact List.mem_cons_of_mem _ (findF_mem h)
theorem run_callFunc {f : FuncId} {fn : Func} (hf : P.funcs[f]? = some fn) (h : (fn.body.isSome && !(fn.name == "runtime.NumGoroutine")) = true) (args : Array Value) (w : World) :
    (callFunc f args).run P w = .ok (.enter f args) w := by
  simp only [Bool.and_eq_true, Bool.not_eq_true'] at h
  have h1 : fn.body ≠ none := by intro e; rw [e] at h; simp at h
  have h2 : fn.name ≠ "runtime.NumGoroutine" := by simpa using h.2
  simp [callFunc, hf, h2, h1]
def Kept (g : Gh) (st : PSt) (w : World) (u : Upd) (g' : Gh) (w' : World) : Prop := (∀ t ∈ u.born, st.O t = false) ∧ (u.loc = [] → ∀ b, b < w.heap.size → (∀ k, st.O k = true → g.blk k ≠ some b) → Kp g w g' w' b)
theorem mkPools_some : ∀ {L : Nat → Option (Nat × List Leaf)} {pls : Pls} {ds : List Dat}, takePools L pls = some ds → ∃ pl, mkPools pls ds = some pl
  | L, [], ds, h => by
    cases h
    exact ⟨[], rfl⟩
  | L, (k, e, wr) :: r, ds, h => by
    unfold takePools at h
    split at h
    · rename_i b v e' l xs hp hr
      split at h
      · rename_i z hb hz
        cases h
        obtain ⟨pl, hpl⟩ := mkPools_some hr
        refine ⟨(k, [poolLeaf wr 0 e z]) :: pl, ?_⟩
        unfold mkPools
        rw [castD_self, hpl]
      · cases h
    · cases h
theorem go_callP (hE : E.okF F) (h : MRel F g st (tm a) w) {f : FuncId} {args : Array Operand} {ts : Array TypeId} (hop : o.op = .call { callee := .value (.func f), args := args, argTypes := ts }) {s : Sig} {fn : s.Fn} {fd : Func} (hfind : findF E.fns f = some ⟨s, fn⟩) (hfd : E.P.funcs[f]? = some fd)
    (hbody : (fd.body.isSome && !(fd.name == "runtime.NumGoroutine")) = true) (hv : callP E s fn o.dst args.toList ts.toList st (evK st.kn st.φ) C = some r)
    (N : Act → World → Prop) (Q : Exit → Act → World → Prop) (hN : ∀ v w' g' u, C u = some r → OutR F g st w u v g' w' → Kept g st w u g' w' → N (a.put o.dst v) w') : o.wp E.P a w N Q := by
  unfold callP at hv
  split at hv
  case h_2 => cases hv
  rename_i ls ms hargs
  split at hv
  case h_2 => cases hv
  rename_i ks xs ps htake htp
  split at hv
  case h_2 => cases hv
  rename_i hb
  simp only [Bool.and_eq_true] at hb
  obtain ⟨⟨⟨⟨hdt, hdk⟩, hdst⟩, hnps⟩, hpls⟩ := hb
  obtain ⟨y, hy, hv⟩ := Option.bind_eq_some_iff.1 hv
  split at hv
  case h_2 => cases hv
  rename_i os pos hos hpos
  cases hd : o.dst with
  | none => rw [hd] at hdst; cases hdst
  | some d =>
    rw [hd] at hdst hos hv
    have hfr : hasN st.fr d = true := hdst
    have hfresh := (h.fresh d hfr).2.2.1
    obtain ⟨lsE, hlsE⟩ := mk_some (lab := Tok.hd 0) (j := 0) htake
    obtain ⟨plE, hplE⟩ := mkPools_some htp
    have hent : ∃ stE, entrySt s (xs ++ ps) = some stE := by
      unfold entrySt
      rw [List.take_left' (takeAll_len htake), List.drop_left' (takeAll_len htake), hlsE, hplE]
      exact ⟨_, rfl⟩
    obtain ⟨stE, hstE⟩ := hent
    have hrelE := entry_rel (n0 := fd.ntmps) h hargs htake hdt hdk hnps hpls htp hstE
    have hlen := (argsP_facts h hargs).1
    obtain ⟨T, hE, hT⟩ := hE
    have hsound := hE _ (findF_mem hfind)
    have hcalls := hsound _ _ stE (xs ++ ps) y _ w (args.map a.eval) (tab_call hT h) hstE hy hrelE rfl (fun _ => Iff.rfl) (fun fd' h' => by rw [hfd] at h'; cases h'; rfl) (by simpa using hlen) (fun i => by
      rw [Array.getD_eq_getD_getElem?, List.getD_eq_getElem?_getD]
      simp)
    have hex : execOp a.eval o = callFunc f (args.map a.eval) := by
      have ef : a.eval (.func f) = .func (.func f) #[] #[] := rfl
      unfold execOp
      simp [hop, resolve, Deferred.ofValue, invoke, ef]
    unfold Oper.wp
    rw [hex, run_callFunc hfd hbody, Oper.upon_enter]
    refine hcalls.mono fun e w' ⟨us, g', st', he, hul, hst', hrel', hρ⟩ => ?_
    subst he
    refine hN _ w' _ _ hv (go_back h hnps hargs htake hdt hdk hpls htp hrel' hst' hul hρ hos hpos hfresh) ⟨fun t ht => ?_, fun hloc b hb hno => ?_⟩
    · obtain ⟨i, E', e', _, h2⟩ := labs_mem.1 ht
      rw [h2]
      exact hfresh _
    · have hms : ms = [] := by
        cases ms with
        | nil => rfl
        | cons m ms => exact absurd hloc (by simp [locsOut])
      have hps : pos = [] := by
        cases pos with
        | nil => rfl
        | cons m pos => exact absurd hloc (by simp)
      obtain ⟨plW, hplW⟩ : ∃ plW, mkPools (wPls s.pls) ((unpackD s.outTs y).drop s.outs.length) = some plW := by
        unfold exitSt at hst'
        split at hst'
        · cases hst'
        · cases hst'
        · exact ⟨_, by assumption⟩
      have hkeys := (back_pools hplW hpos).1
      rw [hps] at hkeys
      refine ⟨(hrel'.fr.kp hb fun o hx => ?_).1, (hrel'.fr.kp hb fun o hx => ?_).2⟩
      all_goals
        rcases hx with ⟨k, σ, l, hk, _⟩ | ⟨k, hk, hO, hbk, _⟩ | ⟨k, e, j, s', hk, _⟩
        · rw [hms] at hk; cases hk
        · exact hno k hO hbk
        · have hm : k ∈ (wPls s.pls).map (·.1) := List.mem_map.2 ⟨_, wPls_mem.2 ⟨rfl, hk⟩, rfl⟩
          rw [← hkeys] at hm
          cases hm
theorem go_callL (hE : E.okF F) (h : MRel F g st (tm a) w) {f : FuncId} {args : Array Operand} {ts : Array TypeId} (hop : o.op = .call { callee := .value (.func f), args := args, argTypes := ts }) {s : Sig} {fn : s.Fn} {fd : Func} (hfind : findF E.fns f = some ⟨s, fn⟩) (hfd : E.P.funcs[f]? = some fd)
    (hbody : (fd.body.isSome && !(fd.name == "runtime.NumGoroutine")) = true) (hv : callL E s fn o.dst args.toList ts.toList st (evK st.kn st.φ) C = some r) : Goes E F g st a w o C r := by
  intro N Q hN
  have fin : ∀ {u : Upd} {v : Value} {g' : Gh} {w' : World}, OutR F g st w u v g' w' → (∀ t ∈ u.born, st.O t = false) → (∀ d, o.dst = some d → hasN st.fr d = true) → rowC E o.dst st.fr C u = some r → N (a.put o.dst v) w' := fun {u v g' w'} hU hborn hfr hC => by
    cases hd : o.dst with
    | none =>
      rw [hd] at hC
      rw [← hd]
      exact hN v w' g' u hC hU
    | some d =>
      rw [hd] at hC
      rw [← hd]
      obtain ⟨u', g'', h1, h2⟩ := row_out h (fun _ => hborn) hU hC
      exact hN v w' g'' u' h1 h2
  have hdst : ∀ {st0 : PSt} {ev : Operand → PV} {C0 : Upd → Option R}, callP E s fn o.dst args.toList ts.toList st0 ev C0 = some r → st0.fr = st.fr → ∀ d, o.dst = some d → hasN st.fr d = true := fun {st0 ev C0} hv he d hd => by
    unfold callP at hv
    repeat' split at hv
    all_goals first
      | (cases hv; done)
      | skip
    rename_i hb
    simp only [Bool.and_eq_true] at hb
    have := hb.1.1.2
    rw [hd, he] at this
    exact this
  unfold callL at hv
  split at hv
  · exact go_callP hE h hop hfind hfd hbody hv N Q fun v w' g' u hC hU hK => fin hU hK.1 (hdst hv rfl) hC
  · rename_i k K hkeys
    have hKnp : ∀ j, hasN (k :: K) j = true → isPool j = false := fun j hj => by
      rw [← hkeys] at hj
      obtain ⟨z, _, hz2⟩ := List.mem_flatMap.1 (hasN_iff.1 hj)
      have hz3 := ev_rel h z
      split at hz2
      · rename_i hrow
        rw [hrow] at hz3
        rw [List.mem_singleton.1 hz2]
        exact hz3.1
      · cases hz2
    obtain ⟨hall, hv⟩ := chk_some hv
    have he : (fun x => lendX (k :: K) (tmpsOf args.toList) st.L x (evK st.kn st.φ x)) = evK (lendSt (k :: K) (tmpsOf args.toList) st).kn (lendSt (k :: K) (tmpsOf args.toList) st).φ := funext fun x => (lend_ev x).symm
    rw [he] at hv
    have hok : ∀ i, hasN (tmpsOf args.toList) i = true → rowOk st.L (st.φ i) = true := fun i hi => by
      obtain ⟨x, hx, hxi⟩ := List.mem_filterMap.1 (hasN_iff.1 hi)
      cases x with
      | tmp t =>
        have e : t = i := by
          have hxi : some t = some i := hxi
          injection hxi
        subst e
        have h1 := List.all_eq_true.1 hall _ hx
        cases hp : st.φ t with
        | row k n tt =>
          have h2 : evK st.kn st.φ (.tmp t) = .row k n tt := by
            show (match st.φ t with | .spec j want ag ls => (match knows st.kn j with | some b => (match bEq b want with | true => knB st.kn (.tmp t) (.w ag ls) | false => .raw undef) | none => .dead) | p => knB st.kn (.tmp t) p) = _
            rw [hp]
            exact knB_fix fun b e => by cases e
          rw [h2] at h1
          exact h1
        | _ => rfl
      | _ => cases hxi
    refine go_callP hE (lend_rel (k :: K) _ hKnp h hok) hop hfind hfd hbody hv N Q fun v w' g' u hC hU hK => ?_
    obtain ⟨h1, h2⟩ := lend_back (k :: K) _ h hU hC
    exact fin h2 hK.1 (hdst hv rfl) h1
theorem go_call (hE : E.okF F) (h : MRel F g st (tm a) w) {f : FuncId} {args : Array Operand} {ts : Array TypeId} (hop : o.op = .call { callee := .value (.func f), args := args, argTypes := ts }) (hv : pvU E o st (evK st.kn st.φ) C = some r) : Goes E F g st a w o C r := by
  simp only [pvU, hop] at hv
  split at hv
  · split at hv
    · exact go_callL hE h hop (by assumption) (by assumption) (by assumption) hv
    · cases hv
  · exact go_extP h hop (by assumption) hv
  · cases hv
theorem pvU_sound (hE : E.okF F) (h : MRel F g st (tm a) w) (hv : pvU E o st (evK st.kn st.φ) C = some r) : Goes E F g st a w o C r := by
  have hv0 := hv
  cases hop : o.op with
  | move x => exact go_move h (.inl hop) hv
  | assign x => exact go_move h (.inr hop) hv
  | nilCheck x => exact go_nilCheck h hop hv
  | alloc t => exact go_alloc h hop hv
  | box t x => exact go_box h hop hv
  | load t x => exact go_load h hop hv
  | store t x y => exact go_store h hop hv
  | fieldAddr s x f => exact go_fieldAddr h hop hv
  | indexAddr t x i => exact go_indexAddr h hop hv
  | index t x i =>
    by_cases hus : E.P.underlying t = some .string
    · exact go_indexS h hop hus hv
    · exact go_indexA h hop hus hv
  | slice t x lo hi mx => exact go_slice h hop hv
  | field s x f => exact go_field h hop hv
  | extract x i => exact go_extract h hop hv
  | build t parts => exact go_build h hop hv
  | buildSlice t len parts => exact go_buildSlice h hop hv
  | makeSlice t n c => exact go_makeSlice h hop hv
  | binOp op t x y uy => exact go_binOp h hop hv
  | unOp op t x => exact go_unOp h hop hv
  | convert src dst x => exact go_convert h hop hv
  | lookup t x i c => exact go_lookup h hop hv
  | mapUpdate t x i y => exact go_mapUpdate h hop hv
  | makeMap t rv =>
    cases rv with
    | none => exact go_makeMap h hop hv
    | some _ => simp [pvU, hop] at hv0
  | call c =>
    obtain ⟨callee, args, ts⟩ := c
    cases callee with
    | value x =>
      cases x with
      | func f => exact go_call hE h hop hv
      | tmp _ => simp [pvU, hop] at hv0
      | const _ => simp [pvU, hop] at hv0
      | global _ => simp [pvU, hop] at hv0
    | invoke _ _ => simp [pvU, hop] at hv0
    | builtin b =>
      by_cases h1 : b = .len
      · subst h1; exact go_len h hop hv
      by_cases h2 : b = .min
      · subst h2; exact go_mm h (.inl rfl) hop hv
      by_cases h3 : b = .max
      · subst h3; exact go_mm h (.inr rfl) hop hv
      by_cases h4 : b = .append
      · subst h4; exact go_append h hop hv
      by_cases h5 : b = .real
      · subst h5; exact go_ri h (.inl rfl) hop hv
      by_cases h6 : b = .imag
      · subst h6; exact go_ri h (.inr rfl) hop hv
      by_cases h7 : b = .complex
      · subst h7; exact go_cx h hop hv
      simp only [pvU, hop] at hv0
      unfold bltP at hv0
      split at hv0
      · cases b <;> first | contradiction | cases hv0
      · cases b <;> first | contradiction | cases hv0
      · cases hv0
  | _ => simp [pvU, hop] at hv0
end
section
variable {P : Program} {E : Env} {F : Fr} {g g' : Gh} {st st' : PSt} {a a' : Act} {w w' : World} {o : Oper} {ops : Array Oper} {R : Type} {r : R}
structure AR (F : Fr) (g : Gh) (st : PSt) (a : Act) (w : World) : Prop where
  size : a.tmps.size = F.n
  defers : a.defers = []
  rel : MRel F g st (tm a) w
structure Lft (M : Nat → Prop) (I : Nat → Prop) (g : Gh) (a : Act) (w : World) (g' : Gh) (a' : Act) (w' : World) : Prop where
  tmp : ∀ i, ¬ M i → tm a' i = tm a i
  ρ : ∀ k, ¬ M k → g'.ρ k = g.ρ k
  gw : Gw w g.C w' g'.C
  H : ∀ k σ, ¬ I σ → σ ≠ 0 → g'.H k σ = g.H k σ
theorem Lft.refl (M I : Nat → Prop) : Lft M I g a w g a w := ⟨fun _ _ => rfl, fun _ _ => rfl, Gw.refl _ _, fun _ _ _ _ => rfl⟩
theorem Lft.trans {M I : Nat → Prop} {g2 : Gh} {a2 : Act} {w2 : World} (h : Lft M I g a w g' a' w') (k : Lft M I g' a' w' g2 a2 w2) : Lft M I g a w g2 a2 w2 :=
  ⟨fun i hi => (k.tmp i hi).trans (h.tmp i hi), fun i hi => (k.ρ i hi).trans (h.ρ i hi), h.gw.trans k.gw, fun x σ h1 h2 => (k.H x σ h1 h2).trans (h.H x σ h1 h2)⟩
theorem Lft.mono {M I M' I' : Nat → Prop} (h : Lft M I g a w g' a' w') (hm : ∀ i, M i → M' i) (hi : ∀ i, I i → I' i) : Lft M' I' g a w g' a' w' :=
  ⟨fun i hn => h.tmp i fun e => hn (hm i e), fun i hn => h.ρ i fun e => hn (hm i e), h.gw, fun x σ h1 h2 => h.H x σ (fun e => h1 (hi σ e)) h2⟩
theorem MRel.knMore {tmf : Nat → Value} (h : MRel F g st tmf w) {kn : List (Nat × Bool)} (hk : ∀ t b, knows kn t = some b → tmf t = .bool b) : MRel F g ⟨st.φ, st.L, st.O, kn, st.sp, st.fr⟩ tmf w :=
  ⟨h.fr, h.slots, h.locals, h.pools, h.hist, hk, h.sp, h.fresh, h.locL, h.blk0, h.blkI, h.blkL, h.blkS, h.blkW, h.ρI, h.ows⟩
theorem MRel.spMore {tmf : Nat → Value} (h : MRel F g st tmf w) (t : Nat) : MRel F g ⟨st.φ, st.L, st.O, st.kn, t :: st.sp, st.fr⟩ tmf w :=
  ⟨h.fr, h.slots, h.locals, h.pools, h.hist, h.kn, fun i t' want ag ls hs => hasN_iff.2 (List.mem_cons_of_mem _ (hasN_iff.1 (h.sp i t' want ag ls hs))), h.fresh, h.locL, h.blk0, h.blkI, h.blkL, h.blkS, h.blkW, h.ρI, h.ows⟩
theorem MRel.putV {d : Option Nat} {p : PV} {u : Value} (h : MRel F g st (tm a) w) (ha : a.tmps.size = F.n) (hd : ∀ x, d = some x → x < F.n) (hv : ∀ tmf, (∀ t want ag ls, p = .spec t want ag ls → tmf t = tm a t) → RelP F g w st.O tmf u p)
    (hfree : freeD st d = true) (hsp : ∀ t want ag ls, p = .spec t want ag ls → hasN st.sp t = true) (hm : ∀ x, x ∈ outN d st.fr → mentP x p = false) (hk : ∀ k, k ∈ keyP p → (st.L k).isSome = true) :
    MRel F g ⟨putP st.φ d p, st.L, st.O, st.kn, st.sp, outN d st.fr⟩ (tm (a.put d u)) w := by
  have hput : ∀ i, tm (a.put d u) i = if d = some i then u else tm a i := fun i => tm_put a d u i fun x hx => by rw [ha]; exact hd x hx
  have hdne : ∀ t, hasN st.sp t = true ∨ (∃ b, knows st.kn t = some b) → d ≠ some t := fun t ht e => by
    subst e
    simp only [freeD, Bool.and_eq_true, Bool.not_eq_true'] at hfree
    rcases ht with hs | ⟨b, hb⟩
    · rw [hs] at hfree; cases hfree.1
    · rw [hb] at hfree; cases hfree.2
  refine ⟨h.fr, fun i => ?_, h.locals, h.pools, h.hist, fun t b hb => ?_, fun i t want ag ls hs => ?_, fun x hx => ?_, fun i k hk' => ?_, h.blk0, h.blkI, h.blkL, h.blkS, h.blkW, h.ρI, h.ows⟩
  · show RelP F g w st.O _ _ (putP st.φ d p i)
    rw [hput]
    by_cases hi : d = some i
    · rw [if_pos hi, hi, putP_at]
      exact hv _ fun t want ag ls e => by rw [← hi, hput, if_neg (hdne t (.inl (hsp t want ag ls e)))]
    · rw [if_neg hi, putP_ne hi]
      exact (h.slots i).gw (Gw.refl _ _) (fun k _ => Lives.refl k) (fun _ _ => rfl) (fun t want ag ls hs => by rw [hput, if_neg (hdne t (.inl (h.sp i t want ag ls hs)))]) fun k _ _ => Same.refl k
  · rw [hput, if_neg (hdne t (.inr ⟨b, hb⟩))]; exact h.kn t b hb
  · have hs' : putP st.φ d p i = .spec t want ag ls := hs
    by_cases hi : d = some i
    · rw [hi, putP_at] at hs'; exact hsp t want ag ls hs'
    · rw [putP_ne hi] at hs'; exact h.sp i t want ag ls hs'
  · have hx' : x ∈ outN d st.fr := hasN_iff.1 hx
    obtain ⟨f1, f2, f3, f4⟩ := h.fresh x (hasN_iff.2 (outN_mem.1 hx').1)
    refine ⟨fun i => ?_, f2, f3, f4⟩
    show mentP x (putP st.φ d p i) = false
    by_cases hi : d = some i
    · rw [hi, putP_at]; exact hm x hx'
    · rw [putP_ne hi]; exact f1 i
  · have hk2 : k ∈ keyP (putP st.φ d p i) := hk'
    by_cases hi : d = some i
    · rw [hi, putP_at] at hk2; exact hk k hk2
    · rw [putP_ne hi] at hk2; exact h.locL i k hk2
def Fr1 (d : Option Nat) (g : Gh) (a : Act) (w : World) (g' : Gh) (a' : Act) (w' : World) : Prop := Lft (fun i => d = some i) (fun _ => False) g a w g' a' w'
theorem put_lft (ha : a.tmps.size = F.n) {d : Option Nat} (hd : ∀ x, d = some x → x < F.n) (v : Value) : Fr1 d g a w g (a.put d v) w :=
  ⟨fun i hi => by rw [tm_put a d v i fun x hx => by rw [ha]; exact hd x hx, if_neg hi], fun _ _ => rfl, Gw.refl _ _, fun _ _ _ _ => rfl⟩
theorem okUpd_loc {d : Option Nat} {u : Upd} (hok : okUpd st d u = true) {k : Nat} {ls : List Leaf} (hm : (k, ls) ∈ u.loc) (hn : st.L k = none) : d = some k := by
  simp only [okUpd, Bool.and_eq_true, List.all_eq_true] at hok
  have := hok.2 (k, ls) hm
  simp only [hn] at this
  cases d with
  | none => cases this
  | some x =>
    simp only [Bool.and_eq_true] at this
    rw [Nat.eq_of_beq_eq_true this.1]
theorem knows_cons {kn : List (Nat × Bool)} {t : Nat} {b : Bool} {tmf : Nat → Value} (ht : tmf t = .bool b) (h : ∀ t b, knows kn t = some b → tmf t = .bool b) : ∀ t' b', knows ((t, b) :: kn) t' = some b' → tmf t' = .bool b' := fun t' b' hk => by
  unfold knows at hk
  split at hk
  · rename_i hb
    have e : t = t' := Nat.eq_of_beq_eq_true hb
    injection hk with hk
    subst e; subst hk; exact ht
  · exact h t' b' hk
theorem pick_run {c x y : Operand} {b : Bool} (hop : o.op = .pick c x y) (hc : a.eval c = .bool b) : (execOp a.eval o).run P w = .ok (.value (if b then a.eval x else a.eval y)) w := by
  simp only [execOp, hop, Sem.run_bind, Sem.run_pure, hc, asBool, Result.andThen_ok]
theorem pick_sound {kn : List (Nat × Bool)} (h : MRel F g ⟨st.φ, st.L, st.O, kn, st.sp, st.fr⟩ (tm a) w) {c x y : Operand} {p : PV} (hop : o.op = .pick c x y) (hp : pickP kn st.φ c x y = some p) : ∃ b, p = pbool b ∧ (execOp a.eval o).run P w = .ok (.value (.bool b)) w := by
  unfold pickP at hp
  split at hp
  case h_2 => cases hp
  rename_i t
  split at hp
  case h_2 => cases hp
  rename_i b hb
  have hx := ev_rel h (.tmp t)
  have hx' : RelP F g w st.O (tm a) (a.eval (.tmp t)) (evK kn st.φ (.tmp t)) := hx
  rw [hb] at hx'
  have htm : tm a t = .bool b := rel_bool hx'
  have hc : a.eval (.tmp t) = .bool b := htm
  have hex := pick_run (P := P) (w := w) hop hc
  have side : ∀ (want : Bool) (z : Operand) (q : Bool), b = want → evK ((t, want) :: kn) st.φ z = .w false [.d .bool q] → a.eval z = .bool q := fun want z q e hz => by
    subst e
    have h2 := h.knMore (kn := (t, b) :: kn) (knows_cons htm h.kn)
    have h3 := ev_rel h2 z
    have h3' : RelP F g w st.O (tm a) (a.eval z) (evK ((t, b) :: kn) st.φ z) := h3
    rw [hz] at h3'
    exact rel_bool h3'
  split at hp
  · split at hp
    · rename_i q hq
      injection hp with hp
      refine ⟨b && q, hp.symm, ?_⟩
      rw [hex]
      cases b with
      | true => rw [if_pos rfl, side true x q rfl hq]; rfl
      | false => rfl
    · cases b with
      | true => cases hp
      | false =>
        injection hp with hp
        exact ⟨false, hp.symm, by rw [hex]; rfl⟩
  · split at hp
    · split at hp
      · rename_i q hq
        injection hp with hp
        refine ⟨b || q, hp.symm, ?_⟩
        rw [hex]
        cases b with
        | true => rfl
        | false => rw [if_neg Bool.false_ne_true, side false y q rfl hq]; rfl
      · cases b with
        | false => cases hp
        | true =>
          injection hp with hp
          exact ⟨true, hp.symm, by rw [hex]; rfl⟩
    · cases hp
theorem stepU_sound (hE : E.okF F) {kn : List (Nat × Bool)} (h : AR F g ⟨st.φ, st.L, st.O, kn, st.sp, st.fr⟩ a w) (hd : ∀ x, o.dst = some x → x < F.n) {C : Rec → PSt → Option R} (hv : stepU E o kn st C = some r) {N : Act → World → Prop} {Q : Exit → Act → World → Prop}
    (hN : ∀ a' w' g' rc st', C rc st' = some r → AR F g' st' a' w' → Fr1 o.dst g a w g' a' w' → N a' w') : o.wp E.P a w N Q := by
  unfold stepU at hv
  split at hv
  case h_2 => cases hv
  rename_i hfree
  split at hv
  · rename_i c x y hop
    split at hv
    · rename_i p hp
      obtain ⟨b, rfl, hr⟩ := pick_sound (P := E.P) h.rel hop hp
      unfold Oper.wp
      rw [hr]
      refine hN _ _ g _ _ hv ⟨(put_size a o.dst _).trans h.size, (put_defers a o.dst _).trans h.defers, ?_⟩ (put_lft h.size hd _)
      exact h.rel.putV h.size hd (fun _ _ => mk_bool) hfree (fun _ _ _ _ e => by cases e) (fun _ _ => rfl) (fun _ e => by cases e)
    · cases hv
  · rename_i hnp
    have hg := pvU_sound (o := o) hE h.rel hv
    refine hg N Q fun v w' g' u hC hU => ?_
    simp only at hC
    split at hC
    · rename_i hok
      refine hN _ _ g' _ _ hC ⟨(put_size a o.dst v).trans h.size, (put_defers a o.dst v).trans h.defers, hU.put h.rel h.size hd hok hfree⟩ ⟨fun i hi => ?_, fun k hk => ?_, hU.gw, fun k σ _ _ => by rw [hU.H]⟩
      · rw [tm_put a o.dst v i fun x hx => by rw [h.size]; exact hd x hx, if_neg hi]
      · rcases hU.ρn k with e | ⟨e, ls, hm⟩
        · exact e
        · exact (hk (okUpd_loc hok hm e)).elim
    · cases hC
theorem skipU_sound {kn : List (Nat × Bool)} (h : AR F g ⟨st.φ, st.L, st.O, kn, st.sp, st.fr⟩ a w) (hd : ∀ x, o.dst = some x → x < F.n) {C : Rec → PSt → Option R} (hv : skipU o kn st C = some r) {N : Act → World → Prop}
    (hN : ∀ a' w' g' rc st', C rc st' = some r → AR F g' st' a' w' → Fr1 o.dst g a w g' a' w' → N a' w') : N (a.put o.dst undef) w := by
  unfold skipU at hv
  split at hv
  · rename_i hfree
    refine hN _ _ g _ _ hv ⟨(put_size a o.dst _).trans h.size, (put_defers a o.dst _).trans h.defers, ?_⟩ (put_lft h.size hd _)
    exact h.rel.putV h.size hd (fun _ _ => rfl) hfree (fun _ _ _ _ e => by cases e) (fun _ _ => rfl) (fun _ e => by cases e)
  · cases hv
def Way (E : Env) (ops : Array Oper) (o : Oper) (a : Act) (w : World) (N : Act → World → Prop) (Q : Exit → Act → World → Prop) : Prop :=
  if Region.wanted o (yielded ops a.tmps) then o.wp E.P a w N Q else N (a.put o.dst undef) w
def isWant (want : Bool) : Value → Bool
  | .bool b => b == want
  | _ => false
theorem isWant_ne {b want : Bool} (h : b ≠ want) : ¬ isWant want (.bool b) = true := by simpa [isWant] using h
theorem isWant_eq {b want : Bool} (h : b = want) : isWant want (.bool b) = true := by simp [isWant, h]
theorem wanted_eq {j t : Nat} {want : Bool} (hg : o.guard = some (j, want)) (ht : (ops[j]?).bind (·.dst) = some t) : Region.wanted o (yielded ops a.tmps) = isWant want (tm a t) := by
  unfold Region.wanted yielded
  simp only [hg, ht, Option.bind_some]
  unfold tm
  by_cases hlt : t < a.tmps.size
  · have e : a.tmps[t]? = some (a.tmps.getD t undef) := by simp [hlt]
    rw [e]
    generalize a.tmps.getD t undef = x
    cases x <;> simp [isWant]
  · have e : a.tmps[t]? = none := by simp; omega
    have e2 : a.tmps.getD t undef = undef := by simp [e]
    rw [e, e2]
    rfl
theorem MRel.toSpec {tmf : Nat → Value} {d : Nat} {ag : Bool} {ls : List Leaf} {t : Nat} {want : Bool} {kn kn' : List (Nat × Bool)} {φ : Nat → PV} {sp fr : List Nat} (h : MRel F g ⟨putP φ (some d) (.w ag ls), st.L, st.O, kn', sp, fr⟩ tmf w) (ht : tmf t = .bool want)
    (hk : ∀ t b, knows kn t = some b → tmf t = .bool b) : MRel F g ⟨putP φ (some d) (.spec t want ag ls), st.L, st.O, kn, t :: sp, fr⟩ tmf w := by
  refine ⟨h.fr, fun i => ?_, h.locals, h.pools, h.hist, hk, fun i t' want' ag' ls' hs => ?_, fun x hx => ?_, fun i k hk' => ?_, h.blk0, h.blkI, h.blkL, h.blkS, h.blkW, h.ρI, h.ows⟩
  · have h1 := h.slots i
    show RelP F g w st.O tmf (tmf i) (putP φ (some d) (.spec t want ag ls) i)
    by_cases hi : d = i
    · subst hi
      rw [putP_at]
      have h1' : RelP F g w st.O tmf (tmf d) (putP φ (some d) (.w ag ls) d) := h1
      rw [putP_at] at h1'
      exact ⟨want, ht, fun _ => h1', fun e => (e rfl).elim⟩
    · rw [putP_ne (by simpa using hi)]
      have h1' : RelP F g w st.O tmf (tmf i) (putP φ (some d) (.w ag ls) i) := h1
      rw [putP_ne (by simpa using hi)] at h1'
      exact h1'
  · have hs' : putP φ (some d) (.spec t want ag ls) i = .spec t' want' ag' ls' := hs
    by_cases hi : d = i
    · subst hi
      rw [putP_at] at hs'
      injection hs' with e
      subst e
      exact hasN_iff.2 (by simp)
    · rw [putP_ne (by simpa using hi)] at hs'
      have := h.sp i t' want' ag' ls' (by show putP φ (some d) (.w ag ls) i = _; rw [putP_ne (by simpa using hi)]; exact hs')
      exact hasN_iff.2 (List.mem_cons_of_mem _ (hasN_iff.1 this))
  · obtain ⟨f1, f2, f3, f4⟩ := h.fresh x hx
    refine ⟨fun i => ?_, f2, f3, f4⟩
    have h1 := f1 i
    show mentP x (putP φ (some d) (.spec t want ag ls) i) = false
    by_cases hi : d = i
    · subst hi
      rw [putP_at]
      have h1' : mentP x (putP φ (some d) (.w ag ls) d) = false := h1
      rw [putP_at] at h1'
      exact h1'
    · rw [putP_ne (by simpa using hi)]
      have h1' : mentP x (putP φ (some d) (.w ag ls) i) = false := h1
      rw [putP_ne (by simpa using hi)] at h1'
      exact h1'
  · have hk2 : k ∈ keyP (putP φ (some d) (.spec t want ag ls) i) := hk'
    by_cases hi : d = i
    · subst hi
      rw [putP_at] at hk2
      cases hk2
    · rw [putP_ne (by simpa using hi)] at hk2
      exact h.locL i k (by show k ∈ keyP (putP φ (some d) (.w ag ls) i); rw [putP_ne (by simpa using hi)]; exact hk2)
theorem wayU_sound (hE : E.okF F) {kn : List (Nat × Bool)} {j t : Nat} {want b : Bool} (hg : o.guard = some (j, want)) (ht : (ops[j]?).bind (·.dst) = some t) (h : AR F g ⟨st.φ, st.L, st.O, kn, st.sp, st.fr⟩ a w) (hb : tm a t = .bool b) (hd : ∀ x, o.dst = some x → x < F.n)
    {C : Rec → PSt → Option R} (hv : wayU E o want b kn st C = some r) {N : Act → World → Prop} {Q : Exit → Act → World → Prop} (hN : ∀ a' w' g' rc st', C rc st' = some r → AR F g' st' a' w' → Fr1 o.dst g a w g' a' w' → N a' w') : Way E ops o a w N Q := by
  unfold Way
  rw [wanted_eq hg ht, hb]
  unfold wayU at hv
  split at hv
  · rename_i he
    have := bEq_iff.1 he
    subst this
    rw [if_pos (by simp [isWant])]
    exact stepU_sound hE h hd hv hN
  · rename_i he
    have hne : b ≠ want := fun e => by rw [bEq_iff.2 e] at he; cases he
    rw [if_neg (by simpa [isWant] using hne)]
    exact skipU_sound h hd hv hN
theorem guardU_sound (hE : E.okF F) {j t : Nat} {want : Bool} (hg : o.guard = some (j, want)) (ht : (ops[j]?).bind (·.dst) = some t) (hd : ∀ x, o.dst = some x → x < F.n) {C : Rec → PSt → Option R} {N : Act → World → Prop} {Q : Exit → Act → World → Prop}
    (hN : ∀ a' w' g' rc st', C rc st' = some r → AR F g' st' a' w' → Fr1 o.dst g a w g' a' w' → N a' w') : ∀ (n : Nat) (kn : List (Nat × Bool)), AR F g ⟨st.φ, st.L, st.O, kn, st.sp, st.fr⟩ a w → guardU E o t want n kn st C = some r → Way E ops o a w N Q
  | 0, _, _, hv => by cases hv
  | n + 1, kn, h, hv => by
    unfold guardU at hv
    have hx := ev_rel h.rel (.tmp t)
    have hx' : RelP F g w st.O (tm a) (a.eval (.tmp t)) (evK kn st.φ (.tmp t)) := hx
    split at hv
    · rename_i b hb
      rw [hb] at hx'
      have htm : tm a t = .bool b := rel_bool hx'
      split at hv
      · rename_i b' hk
        have hb' : tm a t = .bool b' := h.rel.kn t b' hk
        exact wayU_sound hE hg ht h hb' hd hv hN
      · rename_i hk
        split at hv
        · rename_i ag ls hs
          split at hv
          · rename_i hfk
            simp only [Bool.and_eq_true] at hfk
            have hft := hfk.1
            have hdt : o.dst ≠ some t := fun e => by
              rw [e] at hft
              simp only [freeD, Bool.and_eq_true, Bool.not_eq_true'] at hft
              have := hft.1
              rw [hasN_iff.2 (by simp)] at this
              cases this
            have hfree : ∀ kn2, (∀ x, o.dst = some x → knows kn2 x = none) → freeD ⟨st.φ, st.L, st.O, kn2, st.sp, st.fr⟩ o.dst = true := fun kn2 hkn => by
              cases hdd : o.dst with
              | none => rfl
              | some x =>
                rw [hdd] at hft
                simp only [freeD, Bool.and_eq_true, Bool.not_eq_true'] at hft ⊢
                refine ⟨Bool.eq_false_iff.2 fun e => ?_, by rw [hkn x hdd]⟩
                have := hft.1
                rw [hasN_iff.2 (List.mem_cons_of_mem _ (hasN_iff.1 e))] at this
                cases this
            have hknd : ∀ x, o.dst = some x → knows kn x = none := fun x hdd => by
              rw [hdd] at hft
              simp only [freeD, Bool.and_eq_true] at hft
              have h2 := hft.2
              cases hkx : knows kn x with
              | none => rfl
              | some q =>
                have : (match knows kn x with | some _ => false | none => true) = true := h2
                rw [hkx] at this
                cases this
            unfold Way
            rw [wanted_eq hg ht, htm]
            by_cases hbw : b = want
            · rw [if_pos (isWant_eq hbw)]
              unfold specU at hs
              split at hs
              case h_2 => cases hs
              have htw : tm a t = .bool want := by rw [htm, hbw]
              have h2 := h.rel.knMore (kn := (t, want) :: kn) (knows_cons htw h.rel.kn)
              have hgo := pvU_sound (o := o) hE h2 hs
              refine hgo N Q fun v w' g' u hC hU => ?_
              simp only at hC
              split at hC
              · rename_i ag' ls' e1 e2 e3 e4
                simp only [Option.some.injEq, Prod.mk.injEq] at hC
                obtain ⟨rfl, rfl⟩ := hC
                have eu : u = Upd.v (.w ag' ls') := by
                  obtain ⟨u1, u2, u3, u4⟩ := u
                  simp only at e1 e2 e3 e4
                  subst e1; subst e2; subst e3; subst e4
                  rfl
                subst eu
                have hok : okUpd ⟨st.φ, st.L, st.O, (t, want) :: kn, st.sp, st.fr⟩ o.dst (Upd.v (.w ag' ls')) = true := hfk.2
                have hput := hU.put h2 h.size hd hok (hfree _ fun x hdd => by
                  have h3 := hknd x hdd
                  unfold knows
                  have hne : t ≠ x := fun e => hdt (by rw [hdd, e])
                  rw [show Nat.beq t x = false from Bool.eq_false_iff.2 fun e => hne (Nat.eq_of_beq_eq_true e)]
                  exact h3)
                have hρk : ∀ k, g'.ρ k = g.ρ k := fun k => by
                  rcases hU.ρn k with e | ⟨e, l, hm⟩
                  · exact e
                  · cases hm
                have hlft : Fr1 o.dst g a w g' (a.put o.dst v) w' := ⟨fun i hi => by rw [tm_put a o.dst v i fun x hx => by rw [h.size]; exact hd x hx, if_neg hi], fun k _ => hρk k, hU.gw, fun k σ _ _ => by rw [hU.H]⟩
                have htm2 : tm (a.put o.dst v) t = .bool want := by rw [tm_put a o.dst v t fun x hx => by rw [h.size]; exact hd x hx, if_neg hdt]; exact htw
                have hkn2 : ∀ t' b', knows kn t' = some b' → tm (a.put o.dst v) t' = .bool b' := fun t' b' hk' => by
                  rw [tm_put a o.dst v t' fun x hx => by rw [h.size]; exact hd x hx, if_neg fun e => ?_]
                  · exact h.rel.kn t' b' hk'
                  · rw [hknd t' e] at hk'; cases hk'
                refine hN _ _ g' _ _ hv ⟨(put_size a o.dst v).trans h.size, (put_defers a o.dst v).trans h.defers, ?_⟩ hlft
                cases hdd : o.dst with
                | none =>
                  rw [hdd] at hput hkn2 htm2
                  have := (hput.knMore hkn2).spMore t
                  exact this
                | some d =>
                  rw [hdd] at hput hkn2 htm2
                  have hput' : MRel F g' ⟨putP st.φ (some d) (.w ag' ls'), st.L, putO st.O [] [], (t, want) :: kn, st.sp, outN (some d) st.fr⟩ (tm (a.put (some d) v)) w' := hput
                  rw [putO_nil] at hput'
                  exact MRel.toSpec (st := st) hput' htm2 hkn2
              · cases hC
            · rw [if_neg (isWant_ne hbw)]
              refine hN _ _ g _ _ hv ⟨(put_size a o.dst _).trans h.size, (put_defers a o.dst _).trans h.defers, ?_⟩ (put_lft h.size hd _)
              have hkeep : okUpd ⟨st.φ, st.L, st.O, kn, st.sp, st.fr⟩ o.dst (Upd.v (.w ag ls)) = true := hfk.2
              simp only [okUpd, Bool.and_eq_true, List.all_eq_true] at hkeep
              have := (h.rel.spMore t).putV (d := o.dst) (p := .spec t want ag ls) (u := undef) h.size hd (fun tmf htmf => ⟨b, (htmf t want ag ls rfl).trans htm, fun e => (hbw e).elim, fun _ => rfl⟩) hft
                (fun t' want' ag' ls' e => by injection e with e; subst e; exact hasN_iff.2 (by simp)) (fun x hx => by
                  have h3 := (hkeep.1.1.1.1 x hx).1
                  simp only [Bool.not_eq_true'] at h3
                  exact h3) (fun k hk => by cases hk)
              exact this
          · cases hv
        · have key : ∀ q : Bool, b = q → wayU E o want q ((t, q) :: kn) st C = some r → Way E ops o a w N Q := fun q e hv => by
            subst e
            exact wayU_sound hE hg ht ⟨h.size, h.defers, h.rel.knMore (knows_cons htm h.rel.kn)⟩ htm hd hv hN
          cases b with
          | true => exact key true rfl hv
          | false => exact key false rfl hv
    · rename_i vs hb
      rw [hb] at hx'
      have htm : tm a t = .tuple vs := hx'
      unfold Way
      rw [wanted_eq hg ht, htm, if_neg (by simp [isWant])]
      exact skipU_sound h hd hv hN
    · split at hv
      · rename_i t1 w1 ag1 ls1 hs1
        split at hv
        · rename_i b1 hb1 hk1
          have hx1 := ev_rel h.rel (.tmp t1)
          have hx1' : RelP F g w st.O (tm a) (a.eval (.tmp t1)) (evK kn st.φ (.tmp t1)) := hx1
          rw [hb1] at hx1'
          have htm1 : tm a t1 = .bool b1 := rel_bool hx1'
          have key : ∀ q : Bool, b1 = q → guardU E o t want n ((t1, q) :: kn) st C = some r → Way E ops o a w N Q := fun q e hv => by
            subst e
            exact guardU_sound hE hg ht hd hN n _ ⟨h.size, h.defers, h.rel.knMore (knows_cons htm1 h.rel.kn)⟩ hv
          cases b1 with
          | true => exact key true rfl hv
          | false => exact key false rfl hv
        · cases hv
      · cases hv
    · cases hv
theorem pvStep_sound (hE : E.okF F) (h : AR F g st a w) (hd : ∀ x, o.dst = some x → x < F.n) {C : Rec → PSt → Option R} (hv : pvStep E ops o st C = some r) {N : Act → World → Prop} {Q : Exit → Act → World → Prop}
    (hN : ∀ a' w' g' rc st', C rc st' = some r → AR F g' st' a' w' → Fr1 o.dst g a w g' a' w' → N a' w') : Way E ops o a w N Q := by
  unfold pvStep at hv
  split at hv
  · rename_i hg
    unfold Way
    rw [if_pos (by simp [Region.wanted, hg])]
    exact stepU_sound hE h hd hv hN
  · rename_i j want hg
    split at hv
    · cases hv
    · rename_i t ht
      exact guardU_sound hE hg ht hd hN 4 _ h hv
theorem pvOps_sound (hE : E.okF F) {M : Nat → Prop} {Q : Exit → Act → World → Prop} : ∀ (l : List Oper) (tr : List Rec) (g : Gh) (st : PSt) (a : Act) (w : World) (C : List Rec → PSt → Option R), (∀ o ∈ l, ∀ x, o.dst = some x → x < F.n ∧ M x) → AR F g st a w → pvOps E ops l tr st C = some r →
    (∀ a' w' g' tr' st', C tr' st' = some r → AR F g' st' a' w' → Lft M (fun _ => False) g a w g' a' w' → Q .normal a' w') → wpList E.P ops Q l a w
  | [], tr, g, st, a, w, C, _, h, hv, hQ => hQ a w g tr st hv h (Lft.refl _ _)
  | o :: l, tr, g, st, a, w, C, hd, h, hv, hQ => by
    refine wpList_step fun K hK => ?_
    unfold pvOps at hv
    refine pvStep_sound (Q := Q) hE h (fun x hx => (hd o (by simp) x hx).1) hv fun a' w' g' rc st' hC h' hl => hK _ _ ?_
    refine pvOps_sound hE l _ g' st' a' w' C (fun o ho => hd o (by simp [ho])) h' hC fun a2 w2 g2 tr2 st2 hC2 h2 hl2 => hQ a2 w2 g2 tr2 st2 hC2 h2 ?_
    exact (hl.mono (fun i hi => (hd o (by simp) i hi).2) (fun _ hi => hi)).trans hl2
end
section
variable {P : Program} {E : Env} {F : Fr} {g g' g0 : Gh} {st st' s : PSt} {a a' a0 : Act} {w w' w0 : World} {o : Oper} {ops : Array Oper} {R : Type} {r : R} {O O' : Tok → Bool}
def Less (O O' : Tok → Bool) (l l' : Leaf) : Prop := l' = unown l ∨ (l' = l ∧ ∀ k E e x, l = .own k E e x → O' k = true → O k = true)
theorem RepL.less {l l' : Leaf} {cs : List Value} (h : RepL F g w O l cs) (hl : Less O O' l l') : RepL F g w O' l' cs := by
  rcases hl with rfl | ⟨rfl, hk⟩
  · cases l with
    | d t x => exact h
    | own k E e l => exact h.1
  · cases l' with
    | d t x => exact h
    | own k E e l => exact ⟨h.1, fun ho => h.2 (hk k E e l rfl ho)⟩
theorem RepLs.less {f : Leaf → Leaf} (hf : ∀ l, Less O O' l (f l)) : ∀ {ls : List Leaf} {cs : List Value}, RepLs F g w O ls cs → RepLs F g w O' (ls.map f) cs
  | [], cs, h => h
  | l :: ls, cs, h => by
    obtain ⟨c1, c2, rfl, h1, h2⟩ := h
    exact ⟨c1, c2, rfl, h1.less (hf l), RepLs.less hf h2⟩
theorem less_size {l l' : Leaf} (h : Less O O' l l') : l'.size = l.size := by
  rcases h with rfl | ⟨rfl, _⟩
  · cases l <;> rfl
  · rfl
theorem sizeLs_map {f : Leaf → Leaf} (hf : ∀ l, (f l).size = l.size) : ∀ {ls : List Leaf}, sizeLs (ls.map f) = sizeLs ls
  | [] => rfl
  | l :: ls => by simp [sizeLs, hf l, sizeLs_map hf]
theorem RelV.less {f : Leaf → Leaf} (hf : ∀ l, Less O O' l (f l)) {u : Value} {ag : Bool} {ls : List Leaf} (h : RelV F g w O u ag ls) : RelV F g w O' u ag (ls.map f) :=
  let ⟨cs, h1, h2⟩ := h
  ⟨cs, h1.less hf, h2⟩
theorem RelT.less {f : Leaf → Leaf} (hf : ∀ l, Less O O' l (f l)) : ∀ {us : List Value} {xs : List (Bool × List Leaf)}, RelT F g w O us xs → RelT F g w O' us (xs.map fun x => (x.1, x.2.map f))
  | [], [], _ => trivial
  | u :: us, x :: xs, h => ⟨h.1.less hf, RelT.less hf h.2⟩
  | [], _ :: _, h => h.elim
  | _ :: _, [], h => h.elim
theorem LocOk.less {f : Leaf → Leaf} (hf : ∀ l, Less O O' l (f l)) {ls : List Leaf} {p : Nat × Nat} (h : LocOk F g w O ls p) : LocOk F g w O' (ls.map f) p := by
  obtain ⟨cur, T, h1, h2, h3, h4, h5⟩ := h
  have hs : sizeLs (ls.map f) = sizeLs ls := sizeLs_map fun l => less_size (hf l)
  exact ⟨cur, T, h1, by rw [hs]; exact h2, by rw [hs]; exact h3.less hf, fun o a b => h4 o a (by rw [hs] at b; exact b), fun o b => h5 o (by rw [hs] at b; exact b)⟩
theorem elem_less {O'' : Tok → Bool} {tmf : Nat → Value} {u : Value} {ls : List Leaf} (h : RelP F g w O tmf u (.elem ls)) : RelP F g w O'' tmf u (.elem ls) := by
  obtain ⟨ad, cs, h1, h2, h4, h3⟩ := h
  refine ⟨ad, cs, h1, h2.gw (Gw.refl _ _) fun k E e x hx => ?_, h4, h3⟩
  have := h4 _ hx
  cases this
theorem dropLeaf_less {ds : List Nat} (l : Leaf) : Less O (fun t => !(dropTok ds t) && O t) l (dropLeaf ds l) := by
  cases l with
  | d t x => exact .inl rfl
  | own k E e l =>
    unfold dropLeaf
    simp only
    cases hd : dropTok ds k with
    | true => exact .inl rfl
    | false => exact .inr ⟨rfl, fun k' E' e' x h ho => by simp only [Bool.and_eq_true] at ho; exact ho.2⟩
theorem dropLeaf_D {ds : List Nat} {l : Leaf} (h : isD l = true) : dropLeaf ds l = l := by cases l <;> first | rfl | cases h
theorem map_D {f : Leaf → Leaf} (hf : ∀ l, isD l = true → f l = l) : ∀ {ls : List Leaf}, (∀ l ∈ ls, isD l = true) → ls.map f = ls
  | [], _ => rfl
  | l :: ls, h => by rw [List.map_cons, hf l (h l (by simp)), map_D hf fun l hl => h l (by simp [hl])]
theorem dropLeaf_ment {ds : List Nat} {d : Nat} (hd : hasN ds d = true) (l : Leaf) : mentL d (dropLeaf ds l) = false := by
  cases l with
  | d t x => rfl
  | own k E e l =>
    unfold dropLeaf
    simp only
    cases hk : dropTok ds k with
    | true => rfl
    | false =>
      cases k with
      | zero => rfl
      | hd _ _ => rfl
      | op d' j =>
        have hk' : hasN ds d' = false := hk
        show Nat.beq d' d = false
        exact Bool.eq_false_iff.2 fun e => by rw [Nat.eq_of_beq_eq_true e, hd] at hk'; cases hk'
theorem dropLeaf_ments {ds : List Nat} {d : Nat} (hd : hasN ds d = true) : ∀ (ls : List Leaf), mentLs d (ls.map (dropLeaf ds)) = false
  | [] => rfl
  | l :: ls => by
    show (mentL d (dropLeaf ds l) || mentLs d (ls.map (dropLeaf ds))) = false
    rw [dropLeaf_ment hd, dropLeaf_ments hd ls]; rfl
theorem san_rel {tmf : Nat → Value} (ds : List Nat) (hds : ∀ d, hasN ds d = true → isPool d = false) (h : MRel F g st tmf w) : MRel F g (sanSt ds st) tmf w := by
  have Lc : ∀ k σ ls, (sanSt ds st).L k = some (σ, ls) → hasN ds k = false ∧ ∃ l0, st.L k = some (σ, l0) ∧ ls = l0.map (dropLeaf ds) := fun k σ ls hL => by
    have hL' : (match hasN ds k with | true => none | false => match st.L k with | some (σ, ls) => some (σ, ls.map (dropLeaf ds)) | none => none) = some (σ, ls) := hL
    split at hL'
    · cases hL'
    · rename_i hk
      split at hL'
      · rename_i σ' l0 h0
        simp only [Option.some.injEq, Prod.mk.injEq] at hL'
        obtain ⟨rfl, rfl⟩ := hL'
        exact ⟨hk, l0, h0, rfl⟩
      · cases hL'
  have Ls : ∀ k, hasN ds k = false → (st.L k).isSome = true → ((sanSt ds st).L k).isSome = true := fun k hk h0 => by
    obtain ⟨⟨σ, l0⟩, h0⟩ := Option.isSome_iff_exists.1 h0
    show (match hasN ds k with | true => none | false => match st.L k with | some (σ, ls) => some (σ, ls.map (dropLeaf ds)) | none => none).isSome = true
    rw [hk, h0]; rfl
  have Od : ∀ k, (sanSt ds st).O k = true → st.O k = true := fun k hk => by
    have hk' : (!(dropTok ds k) && st.O k) = true := hk
    simp only [Bool.and_eq_true] at hk'
    exact hk'.2
  refine ⟨h.fr, fun i => ?_, fun k σ ls hL np => ?_, fun k σ ls hL np => ?_, fun k σ ls hL hσ => ?_, fun t b hb => by (cases hb), fun i t want ag ls hs => ?_, fun d hd => ⟨fun i => ?_, fun k σ ls hL => ?_, fun j => ?_, ?_, hds d hd⟩, fun i k hk => ?_, h.blk0, fun k k' b hk hk' => h.blkI k k' b (Od k hk) (Od k' hk'),
    fun k b j x hk hb hL np => ?_, fun k b hk => h.blkS k b (Od k hk), fun k b hk => h.blkW k b (Od k hk), fun j j' x x' hj hj' np np' => ?_,
    ⟨fun t b ht hb => h.ows.tok t b (Od t ht) hb, fun k x hL np => by
      obtain ⟨_, l0, h0, _⟩ := Lc k x.1 x.2 hL
      exact h.ows.loc k _ h0 np, h.ows.lim, h.ows.fr, h.ows.mono, h.ows.i, h.ows.wr⟩⟩
  · have h1 := h.slots i
    show RelP F g w _ tmf (tmf i) (sanP ds (st.φ i))
    cases hp : st.φ i with
    | w ag ls => rw [hp] at h1; exact RelV.less dropLeaf_less h1
    | tup xs =>
      rw [hp] at h1
      obtain ⟨us, e, ht⟩ := h1
      exact ⟨us, e, ht.less dropLeaf_less⟩
    | loc k f =>
      rw [hp] at h1
      show RelP F g w _ tmf (tmf i) (match hasN ds k with | true => .dead | false => .loc k f)
      cases hasN ds k with
      | true => trivial
      | false => exact h1
    | locE k f e j q =>
      rw [hp] at h1
      show RelP F g w _ tmf (tmf i) (match hasN ds k with | true => .dead | false => .locE k f e j q)
      cases hasN ds k with
      | true => trivial
      | false => exact h1
    | row k m t =>
      rw [hp] at h1
      show RelP F g w _ tmf (tmf i) (match hasN ds k with | true => .dead | false => .row k m t)
      cases hasN ds k with
      | true => trivial
      | false => exact h1
    | elem ls => rw [hp] at h1; exact elem_less h1
    | raw v => rw [hp] at h1; exact h1
    | spec _ _ _ _ => trivial
    | fp T j f => rw [hp] at h1; exact h1
    | fv k j q E0 e l v => rw [hp] at h1; exact h1
    | fa k j q E0 e l n v t =>
      rw [hp] at h1
      show RelP F g w _ tmf (tmf i) (match dropTok ds t with | true => .dead | false => .fa k j q E0 e l n v t)
      cases dropTok ds t with
      | true => trivial
      | false => exact ⟨h1.1, h1.2.1, fun ho hv => h1.2.2 (Od t ho) hv⟩
    | dead => trivial
  · obtain ⟨hk, l0, h0, rfl⟩ := Lc k σ ls hL
    exact (h.locals k σ l0 h0 np).less dropLeaf_less
  · obtain ⟨hk, l0, h0, rfl⟩ := Lc k σ ls hL
    have hp := h.pools k σ l0 h0 np
    have hD : ∀ l ∈ l0, isD l = true := by
      obtain ⟨e, l, h1, _⟩ := hp
      rcases h1 with ⟨v, h1, _⟩ | h1 <;> (rw [h1]; intro l hl; rw [List.mem_singleton.1 hl]; rfl)
    rw [map_D (fun l hl => dropLeaf_D hl) hD]
    exact hp
  · obtain ⟨hk, l0, h0, rfl⟩ := Lc k σ ls hL
    obtain ⟨q1, q2⟩ := h.hist k σ l0 h0 hσ
    rw [map_D (fun l hl => dropLeaf_D hl) q2]
    exact ⟨q1, q2⟩
  · exfalso
    have hs' : sanP ds (st.φ i) = .spec t want ag ls := hs
    cases hp : st.φ i <;> rw [hp] at hs' <;> simp only [sanP] at hs' <;> first | (cases hs'; done) | (split at hs' <;> cases hs')
  · show mentP d (sanP ds (st.φ i)) = false
    have hd' : hasN ds d = true := hd
    cases hp : st.φ i with
    | w ag ls => exact dropLeaf_ments hd' ls
    | tup xs =>
      show ((xs.map fun x => (x.1, x.2.map (dropLeaf ds))).any fun x => mentLs d x.2) = false
      rw [List.any_map]
      apply Bool.eq_false_iff.2
      intro hany
      obtain ⟨x, _, hx⟩ := List.any_eq_true.1 hany
      have : mentLs d (x.2.map (dropLeaf ds)) = true := hx
      rw [dropLeaf_ments hd'] at this
      cases this
    | loc k f =>
      show mentP d (match hasN ds k with | true => .dead | false => .loc k f) = false
      cases hk : hasN ds k with
      | true => rfl
      | false => exact Bool.eq_false_iff.2 fun e => by rw [Nat.eq_of_beq_eq_true e, hd'] at hk; cases hk
    | locE k f e j q =>
      show mentP d (match hasN ds k with | true => .dead | false => .locE k f e j q) = false
      cases hk : hasN ds k with
      | true => rfl
      | false => exact Bool.eq_false_iff.2 fun e => by rw [Nat.eq_of_beq_eq_true e, hd'] at hk; cases hk
    | row k m t =>
      show mentP d (match hasN ds k with | true => .dead | false => .row k m t) = false
      cases hk : hasN ds k with
      | true => rfl
      | false => exact Bool.eq_false_iff.2 fun e => by rw [Nat.eq_of_beq_eq_true e, hd'] at hk; cases hk
    | elem ls => rfl
    | raw v => rfl
    | spec _ _ _ _ => rfl
    | fp _ _ _ => rfl
    | fv _ _ _ _ _ _ _ => rfl
    | fa k j q E0 e l n v t =>
      show mentP d (match dropTok ds t with | true => .dead | false => .fa k j q E0 e l n v t) = false
      cases hk : dropTok ds t with
      | true => rfl
      | false =>
        cases t with
        | op d' j' =>
          refine Bool.eq_false_iff.2 fun e => ?_
          have e2 : d' = d := Nat.eq_of_beq_eq_true e
          have hk2 : hasN ds d' = false := hk
          rw [e2, hd'] at hk2; cases hk2
        | zero => rfl
        | hd _ _ => rfl
    | dead => rfl
  · obtain ⟨_, l0, _, rfl⟩ := Lc k σ ls hL
    exact dropLeaf_ments hd l0
  · show (!(hasN ds d) && st.O (.op d j)) = false
    rw [show hasN ds d = true from hd]; rfl
  · show (match hasN ds d with | true => none | false => match st.L d with | some (σ, ls) => some (σ, ls.map (dropLeaf ds)) | none => none) = none
    rw [show hasN ds d = true from hd]
  · have hk' : k ∈ keyP (sanP ds (st.φ i)) := hk
    have key : k ∈ keyP (st.φ i) ∧ hasN ds k = false := by
      cases hp : st.φ i <;> rw [hp] at hk' <;> simp only [sanP] at hk'
      case loc k0 f =>
        cases hh : hasN ds k0 with
        | true => rw [hh] at hk'; cases hk'
        | false =>
          rw [hh] at hk'
          have e : k = k0 := by simpa [keyP] using hk'
          rw [e]; exact ⟨by simp [keyP], hh⟩
      case row k0 m t =>
        cases hh : hasN ds k0 with
        | true => rw [hh] at hk'; cases hk'
        | false =>
          rw [hh] at hk'
          have e : k = k0 := by simpa [keyP] using hk'
          rw [e]; exact ⟨by simp [keyP], hh⟩
      case locE k0 f e j q =>
        cases hh : hasN ds k0 with
        | true => rw [hh] at hk'; cases hk'
        | false =>
          rw [hh] at hk'
          have e : k = k0 := by simpa [keyP] using hk'
          rw [e]; exact ⟨by simp [keyP], hh⟩
      case fa k0 j q E0 e l n v t => split at hk' <;> cases hk'
      all_goals cases hk'
    exact Ls k key.2 (h.locL i k key.1)
  · obtain ⟨x1, x2⟩ := x
    obtain ⟨_, l0, h0, _⟩ := Lc j x1 x2 hL
    exact h.blkL k b j _ (Od k hk) hb h0 np
  · obtain ⟨x1, x2⟩ := x
    obtain ⟨y1, y2⟩ := x'
    obtain ⟨_, l0, h0, _⟩ := Lc j x1 x2 hj
    obtain ⟨_, l1, h1, _⟩ := Lc j' y1 y2 hj'
    exact h.ρI j j' _ _ h0 h1 np np'
theorem unown_less (l : Leaf) : Less O O' l (unown l) := .inl rfl
theorem unown_D (l : Leaf) : isD (unown l) = true := by cases l <;> rfl
theorem unown_same {l : Leaf} (h : isD l = true) : unown l = l := by cases l <;> first | rfl | cases h
end
section
variable {P : Program} {E : Env} {F : Fr} {g g' g0 : Gh} {st st' s : PSt} {a a' a0 : Act} {w w' w0 : World} {R : Type} {r : R} {O O' : Tok → Bool} {σ : Tok → Tok → Prop}
theorem slotLs_len {φ : Nat → PV} : ∀ {sl : List (Nat × Bool × List LT)} {la : List Leaf}, slotLs φ sl = some la → la.length = lenTs sl
  | [], la, h => by
    simp only [slotLs, Option.some.injEq] at h
    subst h; rfl
  | (i, ag, ts) :: r, la, h => by
    unfold slotLs at h
    split at h
    · rename_i ag' ls l hp hr
      split at h
      · rename_i hb
        simp only [Bool.and_eq_true] at hb
        simp only [Option.some.injEq] at h
        subst h
        have := slotLs_len hr
        have hl := Nat.eq_of_beq_eq_true hb.2
        unfold lenTs at this ⊢
        simp [this, hl]
      · cases h
    · cases h
theorem slot_at {φ : Nat → PV} {rest : List Leaf} {i : Nat} {p : PV} : ∀ {sl : List (Nat × Bool × List LT)} {la : List Leaf}, slotLs φ sl = some la → nthS sl (la ++ rest) i = some p → φ i = p
  | [], la, _, hn => by cases hn
  | (j, ag, ts) :: r, la, h, hn => by
    unfold slotLs at h
    split at h
    · rename_i ag' ls l hp hr
      split at h
      · rename_i hb
        simp only [Bool.and_eq_true] at hb
        simp only [Option.some.injEq] at h
        subst h
        have hl : ls.length = ts.length := Nat.eq_of_beq_eq_true hb.2
        have hag := bEq_iff.1 hb.1
        unfold nthS at hn
        rw [← hl, List.append_assoc, List.take_left, List.drop_left] at hn
        split at hn
        · rename_i hij
          have e : i = j := Nat.eq_of_beq_eq_true hij
          injection hn with hn
          rw [e, hp, ← hn, hag]
        · exact slot_at hr hn
      · cases h
    · cases h
theorem nthS_same : ∀ {sl : List (Nat × Bool × List LT)} {q q' : List Leaf} {i : Nat} {p' : PV}, SameLs σ q q' → nthS sl q' i = some p' → ∃ ag l l', p' = .w ag l' ∧ nthS sl q i = some (.w ag l) ∧ SameLs σ l l'
  | [], _, _, _, _, _, h => by cases h
  | (j, ag, ts) :: r, q, q', i, p', hs, h => by
    unfold nthS at h
    split at h
    · rename_i hij
      injection h with h
      refine ⟨ag, q.take ts.length, q'.take ts.length, h.symm, ?_, hs.take _⟩
      unfold nthS
      rw [hij]
    · rename_i hij
      obtain ⟨ag', l, l', h1, h2, h3⟩ := nthS_same (hs.drop ts.length) h
      refine ⟨ag', l, l', h1, ?_, h3⟩
      unfold nthS
      rw [hij]; exact h2
theorem local_at {L : Nat → Option (Nat × List Leaf)} {k : Nat} {l : List Leaf} : ∀ {lo : List (Nat × List LT)} {lb : List Leaf}, localLs L lo = some lb → nthL lo lb k = some l → ∃ σ, L k = some (σ, l)
  | [], la, _, hn => by cases hn
  | (j, ts) :: r, lb, h, hn => by
    unfold localLs at h
    split at h
    · rename_i σ ls q hp hr
      split at h
      · rename_i hb
        simp only [Option.some.injEq] at h
        subst h
        have hl : ls.length = ts.length := Nat.eq_of_beq_eq_true hb
        unfold nthL at hn
        rw [← hl, List.take_left, List.drop_left] at hn
        split at hn
        · rename_i hij
          have e : k = j := Nat.eq_of_beq_eq_true hij
          injection hn with hn
          exact ⟨σ, by rw [e, hp, ← hn]⟩
        · exact local_at hr hn
      · cases h
    · cases h
theorem nthL_same : ∀ {lo : List (Nat × List LT)} {q q' : List Leaf} {k : Nat} {l' : List Leaf}, SameLs σ q q' → nthL lo q' k = some l' → ∃ l, nthL lo q k = some l ∧ SameLs σ l l'
  | [], _, _, _, _, _, h => by cases h
  | (j, ts) :: r, q, q', k, l', hs, h => by
    unfold nthL at h
    split at h
    · rename_i hij
      injection h with h
      refine ⟨q.take ts.length, ?_, by rw [← h]; exact hs.take _⟩
      unfold nthL
      rw [hij]
    · rename_i hij
      obtain ⟨l, h2, h3⟩ := nthL_same (hs.drop ts.length) h
      refine ⟨l, ?_, h3⟩
      unfold nthL
      rw [hij]; exact h2
theorem nthL_has : ∀ {lo : List (Nat × List LT)} {q : List Leaf} {k : Nat}, hasN (lo.map (·.1)) k = true → ∃ l, nthL lo q k = some l
  | [], q, k, h => by cases h
  | (j, ts) :: r, q, k, h => by
    unfold nthL
    cases hb : Nat.beq k j with
    | true => exact ⟨_, rfl⟩
    | false =>
      have hm := hasN_iff.1 h
      simp only [List.map_cons, List.mem_cons] at hm
      rcases hm with e | hm
      · rw [e] at hb; simp at hb
      · exact nthL_has (hasN_iff.2 hm)
theorem LocOk.turn {F' : Fr} (T : Turn F g O F' g' O' σ) (hF : ∀ b o, Wr F b o → Wr F' b o) {ls ls' : List Leaf} (hs : SameLs σ ls ls') {p : Nat × Nat} (h : LocOk F g w O ls p) : LocOk F' g' w O' ls' p := by
  obtain ⟨cur, T0, h1, h2, h3, h4, h5⟩ := h
  refine ⟨cur, T0, h1, by rw [hs.sizes]; exact h2, by rw [hs.sizes]; exact h3.turn T hs, fun o x y => ?_, fun o ho => h5 o (by rw [hs.sizes] at ho; exact ho)⟩
  rw [hs.sizes] at y
  obtain ⟨z1, z2⟩ := h4 o x y
  exact ⟨by rw [T.C]; exact z1, hF _ _ z2⟩
def headG (g : Gh) (n : Ann) (st : PSt) (ks : List Tok) : Gh :=
  ⟨g.C, fun t => match t with | .hd i j => (match Nat.beq i n.id with | true => g.blk (ks.getD j .zero) | false => none) | _ => none, g.ρ, fun k σ => match Nat.beq σ n.id with | true => (match keptL n st k with | some (_, ls) => ls | none => []) | false => g.H k σ, g.ow, fun k => match hasN (n.pls.map (·.1)) k with | true => 0 | false => g.ver k⟩
theorem headG_H {n : Ann} {ks : List Tok} {k σ : Nat} (h : σ ≠ n.id) : (headG g n st ks).H k σ = g.H k σ := by
  show (match Nat.beq σ n.id with | true => _ | false => g.H k σ) = _
  rw [show Nat.beq σ n.id = false from Bool.eq_false_iff.2 fun e => h (Nat.eq_of_beq_eq_true e)]
theorem keptL_some {n : Ann} {k σ : Nat} {ls : List Leaf} (h : keptL n st k = some (σ, ls)) : σ = n.id ∧ k ∈ n.kept ∧ ∃ σ0 l0, st.L k = some (σ0, l0) ∧ ls = l0.map unown := by
  unfold keptL at h
  split at h
  · rename_i hk
    split at h
    · rename_i σ0 l0 h0
      simp only [Option.some.injEq, Prod.mk.injEq] at h
      exact ⟨h.1.symm, hasN_iff.1 hk, σ0, l0, h0, h.2.symm⟩
    · cases h
  · cases h
theorem unownP_rel {tmf tmf' : Nat → Value} {u : Value} {p : PV} (h : RelP F g0 w0 O tmf u p) (G : Gw w0 g0.C w g.C) (hρ : ∀ k, k ∈ keyP p → g.ρ k = g0.ρ k) : RelP F g w O' tmf' u (unownP p) := by
  have hd : ∀ (ls : List Leaf) k E e x, Leaf.own k E e x ∈ ls.map unown → False := fun ls k E e x hm => by
    obtain ⟨l, _, hl⟩ := List.mem_map.1 hm
    have := unown_D l
    rw [hl] at this; cases this
  cases p with
  | w ag ls => exact (RelV.less (O' := O') unown_less h).gw G fun k E e x hm => (hd ls k E e x hm).elim
  | tup xs =>
    obtain ⟨us, e, ht⟩ := h
    refine ⟨us, e, (RelT.less (O' := O') unown_less ht).gw G fun k E e x ⟨y, hy, hm⟩ => ?_⟩
    obtain ⟨z, _, rfl⟩ := List.mem_map.1 hy
    exact (hd z.2 k E e x hm).elim
  | loc k f =>
    refine ⟨h.1, ?_⟩
    rw [hρ k (by simp [keyP])]; exact h.2
  | locE k f e j q =>
    refine ⟨h.1, h.2.1, ?_⟩
    rw [hρ k (by simp [keyP])]; exact h.2.2
  | row k m t =>
    obtain ⟨h0, cap, h1, h2⟩ := h
    refine ⟨h0, cap, ?_, h2⟩
    rw [hρ k (by simp [keyP])]; exact h1
  | elem ls => exact RelP.gw (tmf' := tmf') (elem_less (O'' := O') h) G (fun k hk => hk.elim) (fun k hk => by cases hk) (fun _ _ _ _ e => by cases e) (fun _ hk => by cases hk)
  | raw v => exact h
  | spec _ _ _ _ => trivial
  | fp T j f =>
    obtain ⟨n, b, h1, h2, h3⟩ := h
    exact ⟨n, b, h1, G.i _ _ _ h2, h3⟩
  | fv _ _ _ _ _ _ _ => trivial
  | fa _ _ _ _ _ _ _ _ _ => trivial
  | dead => trivial
theorem slotLs_arr (h : MRel F g s (tm a) w) : ∀ {sl : List (Nat × Bool × List LT)} {la : List Leaf}, slotLs s.φ sl = some la → ∀ l ∈ la, arrOk l
  | [], la, hs, l, hl => by
    simp only [slotLs, Option.some.injEq] at hs
    subst hs
    cases hl
  | (i, ag, ts) :: r, la, hs, l, hl => by
    unfold slotLs at hs
    split at hs
    · rename_i ag' ls q hφ hq
      split at hs
      · injection hs with hs
        subst hs
        rcases List.mem_append.1 hl with hl | hl
        · have h0 := h.slots i
          rw [hφ] at h0
          obtain ⟨cs, h1, _⟩ := h0
          exact repLs_arr h1 l hl
        · exact slotLs_arr h hq l hl
      · cases hs
    · cases hs
theorem localLs_arr (h : MRel F g s (tm a) w) : ∀ {lo : List (Nat × List LT)} {lb : List Leaf}, (∀ p ∈ lo, isPool p.1 = false) → localLs s.L lo = some lb → ∀ l ∈ lb, arrOk l
  | [], lb, hn, hs, l, hl => by
    simp only [localLs, Option.some.injEq] at hs
    subst hs
    cases hl
  | (k, ts) :: r, lb, hn, hs, l, hl => by
    unfold localLs at hs
    split at hs
    · rename_i σ ls q hL hq
      split at hs
      · injection hs with hs
        subst hs
        rcases List.mem_append.1 hl with hl | hl
        · obtain ⟨cur, T, _, _, h1, _⟩ := h.locals k σ ls hL (hn (k, ts) (List.mem_cons_self ..))
          exact repLs_arr h1 l hl
        · exact localLs_arr h (fun p hp => hn p (List.mem_cons_of_mem _ hp)) hq l hl
      · cases hs
    · cases hs
theorem head_rel {n : Ann} {x : n.D} {hd : PSt} {M I : Nat → Prop} (hok : n.okK = true) (h0 : MRel F g0 st (tm a0) w0) (hl : Lft M I g0 a0 w0 g a w) (hM : ∀ i, M i → n.has i = true) (h : MRel F g s (tm a) w) (hc : collect n s = some x)
    (hk : ∀ k, k ∈ n.kept → ∀ σ0 ls0, st.L k = some (σ0, ls0) → ∃ σ ls, s.L k = some (σ, ls) ∧ ls.map unown = ls0.map unown) (hh : headSt n st x = some hd) :
    ∃ g', MRel F g' hd (tm a) w ∧ g'.C = g.C ∧ g'.ρ = g.ρ ∧ (∀ k σ, σ ≠ n.id → g'.H k σ = g.H k σ) ∧ ∀ k ls, keptL n st k = some (n.id, ls) → g'.H k n.id = ls := by
  unfold collect at hc
  split at hc
  case h_1 => cases hc
  rename_i hlc
  split at hc
  case h_2 => cases hc
  rename_i la lb hla hlb
  split at hc
  case h_2 => cases hc
  rename_i ks xs ps htake htp
  split at hc
  case h_2 => cases hc
  rename_i hdt
  have hun : unpackD n.tys x = xs ++ ps := unpack_pack _ _ _ hc
  unfold headSt at hh
  rw [hun, List.take_left' (takeAll_len htake), List.drop_left' (takeAll_len htake)] at hh
  split at hh
  · cases hh
  · cases hh
  rename_i ls' plH hmk hmp
  injection hh with hh
  simp only [Ann.okK, Bool.and_eq_true] at hok
  obtain ⟨⟨hpls, hkp⟩, hnp⟩ := hok
  have hnp' : ∀ p ∈ n.locals, isPool p.1 = false := fun p hp => by
    have := List.all_eq_true.1 hnp p hp
    simpa using this
  have plH1 : ∀ k y, findL plH k = some y → isPool k = true ∧ hasN (n.pls.map (·.1)) k = true ∧ ∃ e wr b v l, poolL s.L k = some (b, v, ⟨e, l⟩) ∧ (wr = true → b = true) ∧ y = (0, [poolLeaf wr 0 e l]) := fun k y hy => by
    obtain ⟨e, wr, b, v, l, q1, q2, q3, q4⟩ := take_mkPools htp hmp hy
    exact ⟨okPls_pool hpls q1, hasN_iff.2 (List.mem_map.2 ⟨_, q1, rfl⟩), e, wr, b, v, l, q2, q3, q4⟩
  obtain ⟨hsame, _⟩ := take_mk (fun l hl => .inl (by
    rcases List.mem_append.1 hl with hl | hl
    · exact slotLs_arr h hla l hl
    · exact localLs_arr h hnp' hlb l hl)) htake hmk
  have T : Turn F g s.O F (headG g n st ks) (fun t => hasT (.zero :: labs (Tok.hd n.id) n.ts 0) t) (fun k k' => TokAt n.ts ks (Tok.hd n.id) 0 k k' ∧ s.O k = true) := by
    refine ⟨rfl, fun k k' hσ _ => ⟨hσ.2, ?_⟩, fun k k' b o _ _ _ _ hw => hw⟩
    obtain ⟨⟨i, E, e, h1, h2, rfl⟩, _⟩ := hσ
    show (match Nat.beq n.id n.id with | true => g.blk (ks.getD (0 + i) .zero) | false => none) = _
    rw [show Nat.beq n.id n.id = true by simp, List.getD_eq_getElem?_getD, Nat.zero_add, h2]; rfl
  have liveH : ∀ k, hasT (.zero :: labs (Tok.hd n.id) n.ts 0) k = true → k = .zero ∨ ∃ i k0, k = .hd n.id i ∧ ks[i]? = some k0 ∧ s.O k0 = true ∧ (headG g n st ks).blk k = g.blk k0 := fun k hk => by
    rcases List.mem_cons.1 (hasT_iff.1 hk) with rfl | hm
    · exact .inl rfl
    · obtain ⟨i, E, e, h1, rfl⟩ := labs_mem.1 hm
      obtain ⟨k0, q1, q2⟩ := take_ks htake i E e h1
      refine .inr ⟨i, k0, by rw [Nat.zero_add], q1, q2, ?_⟩
      show (match Nat.beq n.id n.id with | true => g.blk (ks.getD (0 + i) .zero) | false => none) = _
      rw [show Nat.beq n.id n.id = true by simp, List.getD_eq_getElem?_getD, Nat.zero_add, q1]; rfl
  have hlen : la.length = lenTs n.slots := slotLs_len hla
  -- the locals of the head
  have locH : ∀ k σ l, hd.L k = some (σ, l) → (σ = 0 ∧ ((isPool k = false ∧ ∃ σ1 l1, s.L k = some (σ1, l1) ∧ SameLs (fun k k' => TokAt n.ts ks (Tok.hd n.id) 0 k k' ∧ s.O k = true) l1 l) ∨ findL plH k = some (0, l))) ∨
      (σ = n.id ∧ keptL n st k = some (n.id, l) ∧ (∀ y ∈ l, isD y = true) ∧ ∃ σ1 l1, s.L k = some (σ1, l1) ∧ l = l1.map unown) := fun k σ l hL => by
    rw [← hh] at hL
    have hL' : (match nthL n.locals (ls'.drop (lenTs n.slots)) k with | some l => some (0, l) | none => match findL plH k with | some x => some x | none => keptL n st k) = some (σ, l) := hL
    split at hL'
    · rename_i l0 hn
      simp only [Option.some.injEq, Prod.mk.injEq] at hL'
      obtain ⟨rfl, rfl⟩ := hL'
      obtain ⟨l1, h1, h2⟩ := nthL_same (hsame.drop (lenTs n.slots)) hn
      rw [← hlen, List.drop_left] at h1
      obtain ⟨σ1, h3⟩ := local_at hlb h1
      have hin : ∀ {lo : List (Nat × List LT)} {q l : List Leaf}, nthL lo q k = some l → ∃ p ∈ lo, p.1 = k := by
        intro lo
        induction lo with
        | nil => intro q l e; cases e
        | cons y lo ih =>
          intro q l e
          obtain ⟨j, ts⟩ := y
          unfold nthL at e
          split at e
          · rename_i hb
            exact ⟨_, List.mem_cons_self .., (Nat.eq_of_beq_eq_true hb).symm⟩
          · obtain ⟨p, hp, e2⟩ := ih e
            exact ⟨p, List.mem_cons_of_mem _ hp, e2⟩
      obtain ⟨p, hp, e2⟩ := hin h1
      exact .inl ⟨rfl, .inl ⟨by rw [← e2]; exact hnp' p hp, σ1, l1, h3, h2⟩⟩
    split at hL'
    · rename_i y hy
      obtain ⟨e1, _⟩ := findL_mem hy
      cases hL'
      have e1 : σ = 0 := e1
      subst e1
      exact .inl ⟨rfl, .inr hy⟩
    · obtain ⟨e1, e2, σ0, l0, e3, e4⟩ := keptL_some hL'
      obtain ⟨σ1, l1, q1, q2⟩ := hk k e2 σ0 l0 e3
      subst e1
      exact .inr ⟨rfl, hL', by rw [e4]; intro y hy; obtain ⟨z, _, rfl⟩ := List.mem_map.1 hy; exact unown_D z, σ1, l1, q1, by rw [e4, q2]⟩
  have locS : ∀ k y, hd.L k = some y → isPool k = false → ∃ z, s.L k = some z := fun k y hy np => by
    rcases locH k y.1 y.2 hy with ⟨_, ⟨_, σ1, l1, h1, _⟩ | h1⟩ | ⟨_, _, _, σ1, l1, h1, _⟩
    · exact ⟨_, h1⟩
    · rw [(plH1 k _ h1).1] at np; cases np
    · exact ⟨_, h1⟩
  have hO : ∀ k, hd.O k = hasT (.zero :: labs (Tok.hd n.id) n.ts 0) k := fun k => by rw [← hh]
  have slotH : ∀ i, (hd.φ i = .loc i 0 ∧ s.φ i = .loc i 0 ∧ (hd.L i).isSome = true) ∨ (∃ ag l l', hd.φ i = .w ag l' ∧ s.φ i = .w ag l ∧ SameLs (fun k k' => TokAt n.ts ks (Tok.hd n.id) 0 k k' ∧ s.O k = true) l l') ∨ hd.φ i = .dead ∨ (n.has i = false ∧ hd.φ i = unownP (st.φ i) ∧ ∀ k, k ∈ keyP (st.φ i) → n.has k = false ∧ n.knowsL st k = true) := fun i => by
    rw [← hh]
    show ((match nthS n.slots ls' i with | some p => p | none => _) = PV.loc i 0 ∧ _ ∧ Option.isSome (match nthL n.locals (ls'.drop (lenTs n.slots)) i with | some l => some (0, l) | none => match findL plH i with | some x => some x | none => keptL n st i) = true) ∨ (∃ ag l l', (match nthS n.slots ls' i with | some p => p | none => _) = PV.w ag l' ∧ _) ∨ (match nthS n.slots ls' i with | some p => p | none => _) = PV.dead ∨ (_ ∧ (match nthS n.slots ls' i with | some p => p | none => _) = _ ∧ _)
    cases hn : nthS n.slots ls' i with
    | some p =>
      obtain ⟨ag, l, l', h1, h2, h3⟩ := nthS_same hsame hn
      exact .inr (.inl ⟨ag, l, l', h1, slot_at hla h2, h3⟩)
    | none =>
      simp only
      cases hil : n.isLc i with
      | true =>
        left
        have hil' : (hasN n.lcs i && hasN (n.locals.map (·.1)) i) = true := hil
        rw [Bool.and_eq_true] at hil'
        refine ⟨rfl, ?_, ?_⟩
        · have h1 := List.all_eq_true.1 hlc i (hasN_iff.1 hil'.1)
          cases hp : s.φ i with
          | loc j off =>
            rw [hp] at h1
            have h1 : (Nat.beq j i && Nat.beq off 0) = true := h1
            rw [Bool.and_eq_true] at h1
            rw [Nat.eq_of_beq_eq_true h1.1, Nat.eq_of_beq_eq_true h1.2]
          | _ => rw [hp] at h1; cases h1
        · obtain ⟨l, hl'⟩ := nthL_has (q := ls'.drop (lenTs n.slots)) hil'.2
          rw [hl']; rfl
      | false =>
      right
      right
      simp only
      cases hdd : hasN n.dead i with
      | true => exact .inl rfl
      | false =>
        simp only
        have hnot : n.has i = false := by
          unfold Ann.has
          rw [hdd, Bool.false_or]
          apply Bool.eq_false_iff.2
          intro hany
          obtain ⟨p, hp, hb⟩ := List.any_eq_true.1 hany
          have hsome : ∀ (sl : List (Nat × Bool × List LT)) (q : List Leaf), p ∈ sl → nthS sl q i ≠ none := by
            intro sl
            induction sl with
            | nil => intro q hm; cases hm
            | cons y sl ih =>
              intro q hm
              obtain ⟨j, ag, ts⟩ := y
              unfold nthS
              cases hij : Nat.beq i j with
              | true => simp
              | false =>
                rcases List.mem_cons.1 hm with rfl | hm
                · rw [hij] at hb; cases hb
                · exact ih _ hm
          exact hsome _ _ hp hn
        cases hp : st.φ i with
        | w ag l => exact .inr ⟨hnot, rfl, fun k hk => by cases hk⟩
        | tup xs => exact .inr ⟨hnot, rfl, fun k hk => by cases hk⟩
        | elem l => exact .inr ⟨hnot, rfl, fun k hk => by cases hk⟩
        | raw v => exact .inr ⟨hnot, rfl, fun k hk => by cases hk⟩
        | fp _ _ _ => exact .inr ⟨hnot, rfl, fun k hk => by cases hk⟩
        | fv _ _ _ _ _ _ _ => exact .inl rfl
        | fa _ _ _ _ _ _ _ _ _ => exact .inl rfl
        | spec _ _ _ _ => exact .inl rfl
        | dead => exact .inl rfl
        | loc k f =>
          simp only [unownP]
          cases hb : (!(n.has k) && n.knowsL st k) with
          | false => exact .inl rfl
          | true =>
            simp only [Bool.and_eq_true, Bool.not_eq_true'] at hb
            exact .inr ⟨hnot, rfl, fun k' hk => by have e : k' = k := by simpa [keyP] using hk
                                                   rw [e]; exact hb⟩
        | row k m t =>
          simp only [unownP]
          cases hb : (!(n.has k) && n.knowsL st k) with
          | false => exact .inl rfl
          | true =>
            simp only [Bool.and_eq_true, Bool.not_eq_true'] at hb
            exact .inr ⟨hnot, rfl, fun k' hk => by have e : k' = k := by simpa [keyP] using hk
                                                   rw [e]; exact hb⟩
        | locE k f e j q =>
          simp only [unownP]
          cases hb : (!(n.has k) && n.knowsL st k) with
          | false => exact .inl rfl
          | true =>
            simp only [Bool.and_eq_true, Bool.not_eq_true'] at hb
            exact .inr ⟨hnot, rfl, fun k' hk => by have e : k' = k := by simpa [keyP] using hk
                                                   rw [e]; exact hb⟩
  have notM : ∀ i, n.has i = false → ¬ M i := fun i hi hm => by rw [hM i hm] at hi; cases hi
  refine ⟨headG g n st ks, ⟨h.fr, fun i => ?_, fun k σ l hL np => ?_, fun k σ l hL np => ?_, fun k σ l hL hσ => ?_, fun t b hb => ?_, fun i t want ag l hs => ?_, fun d hdd => ?_, fun i k hkk => ?_, rfl, fun k k' b hk1 hk2 hb hb' => ?_, fun k b j y hk1 hb hL np => ?_, fun k b hk1 hb => ?_, fun k b hk1 hb => ?_, fun j j' y y' hj hj' np np' he => ?_,
      ⟨fun t b ht hb => ?_, fun k y hy np => ?_, h.ows.lim, h.ows.fr, h.ows.mono, h.ows.i, h.ows.wr⟩⟩,
    rfl, rfl, fun k σ hne => headG_H hne, fun k ls hkl => ?_⟩
  · rcases slotH i with ⟨e1, e2, _⟩ | ⟨ag, l, l', e1, e2, e3⟩ | e | ⟨e1, e2, e3⟩
    · have h1 := h.slots i
      rw [e2] at h1
      rw [e1]
      exact h1
    · rw [e1]
      have h1 := h.slots i
      rw [e2] at h1
      have h2 : RelV F g w s.O (tm a i) ag l := h1
      have h3 := h2.turn T e3
      obtain ⟨cs, q1, q2⟩ := h3
      refine ⟨cs, ?_, q2⟩
      have : hd.O = fun t => hasT (.zero :: labs (Tok.hd n.id) n.ts 0) t := funext hO
      rw [this]; exact q1
    · rw [e]; trivial
    · rw [e2, hl.tmp i (notM i e1)]
      exact unownP_rel (h0.slots i) hl.gw fun k hk => hl.ρ k (notM k (e3 k hk).1)
  · have eO : hd.O = fun t => hasT (.zero :: labs (Tok.hd n.id) n.ts 0) t := funext hO
    rw [eO]
    rcases locH k σ l hL with ⟨_, ⟨_, σ1, l1, h1, h2⟩ | h1⟩ | ⟨_, _, _, σ1, l1, h1, h2⟩
    · exact (h.locals k σ1 l1 h1 np).turn T (fun _ _ hw => hw) h2
    · rw [(plH1 k _ h1).1] at np; cases np
    · rw [h2]
      have h3 := LocOk.less (O' := fun _ => false) unown_less (h.locals k σ1 l1 h1 np)
      obtain ⟨cur, T0, c1, c2, c3, c4⟩ := h3
      refine ⟨cur, T0, c1, c2, c3.gw (g' := headG g n st ks) (Gw.refl w g.C) fun k' E e x hm => ?_, c4⟩
      obtain ⟨z, _, hz⟩ := List.mem_map.1 hm
      have := unown_D z
      rw [hz] at this; cases this
  · rcases locH k σ l hL with ⟨_, ⟨np', _⟩ | h1⟩ | ⟨_, hkl, _, σ1, l1, h1, h2⟩
    · rw [np'] at np; cases np
    · obtain ⟨_, hin, e, wr, b0, v, l0, q1, q3, q2⟩ := plH1 k _ h1
      cases q2
      refine pool_lend h q1 np rfl rfl fun hw => ⟨?_, ((pool_at h q1 np).1 (q3 hw)).2⟩
      show (match hasN (n.pls.map (·.1)) k with | true => 0 | false => g.ver k) = 0
      rw [hin]
    · have hp := h.pools k σ1 l1 h1 np
      have hD : ∀ l ∈ l1, isD l = true := by
        obtain ⟨e, l, h1, _⟩ := hp
        rcases h1 with ⟨v, h1, _⟩ | h1 <;> (rw [h1]; intro l hl; rw [List.mem_singleton.1 hl]; rfl)
      have hkn : hasN (n.pls.map (·.1)) k = false := by
        have := List.all_eq_true.1 hkp k (keptL_some hkl).2.1
        simp only [Bool.and_eq_true, Bool.not_eq_true'] at this
        exact this.2
      rw [h2, map_D (fun l hl => unown_same hl) hD]
      refine hp.gw (Gw.refl _ _) ?_ (fun _ => rfl) fun b j s hb => ⟨⟨rfl, fun _ => Iff.rfl⟩, hb⟩
      show (match hasN (n.pls.map (·.1)) k with | true => 0 | false => g.ver k) = g.ver k
      rw [hkn]
  · rcases locH k σ l hL with ⟨e, _⟩ | ⟨e, hkl, hD, _⟩
    · exact (hσ e).elim
    · refine ⟨?_, hD⟩
      subst e
      show (match Nat.beq n.id n.id with | true => (match keptL n st k with | some (_, ls) => ls | none => []) | false => _) = l
      rw [show Nat.beq n.id n.id = true by simp, hkl]
  · rw [← hh] at hb; cases hb
  · rcases slotH i with ⟨e1, _, _⟩ | ⟨ag', l1, l', e1, e2, e3⟩ | e | ⟨e1, e2, e3⟩
    · rw [e1] at hs; cases hs
    · rw [e1] at hs; cases hs
    · rw [e] at hs; cases hs
    · rw [e2] at hs
      cases hp : st.φ i <;> rw [hp] at hs <;> simp only [unownP] at hs <;> cases hs
  · rw [← hh] at hdd; cases hdd
  · rcases slotH i with ⟨e1, _, e3⟩ | ⟨ag', l1, l', e1, e2, e3⟩ | e | ⟨e1, e2, e3⟩
    · rw [e1] at hkk
      have e4 : k = i := by simpa [keyP] using hkk
      rw [e4]; exact e3
    · rw [e1] at hkk; cases hkk
    · rw [e] at hkk; cases hkk
    · rw [e2] at hkk
      have hkk' : k ∈ keyP (st.φ i) := by
        cases hp : st.φ i <;> rw [hp] at hkk <;> simp only [unownP] at hkk <;> first | exact hkk | cases hkk
      have hkn := (e3 k hkk').2
      rw [← hh]
      show (match nthL n.locals (ls'.drop (lenTs n.slots)) k with | some l => some (0, l) | none => match findL plH k with | some x => some x | none => keptL n st k).isSome = true
      unfold Ann.knowsL at hkn
      simp only [Bool.or_eq_true] at hkn
      rcases hkn with hloc | hkp2
      · obtain ⟨l, hl'⟩ := nthL_has (q := ls'.drop (lenTs n.slots)) hloc
        rw [hl']; rfl
      · cases nthL n.locals (ls'.drop (lenTs n.slots)) k with
        | some l => rfl
        | none =>
          cases findL plH k with
          | some y => rfl
          | none =>
            cases hq : keptL n st k with
            | some y => rfl
            | none => rw [hq] at hkp2; cases hkp2
  · rw [hO] at hk1 hk2
    rcases liveH k hk1 with rfl | ⟨i, k0, rfl, q1, q2, q3⟩
    · cases hb
    rcases liveH k' hk2 with rfl | ⟨i', k0', rfl, q1', q2', q3'⟩
    · cases hb'
    rw [q3] at hb; rw [q3'] at hb'
    have e1 := h.blkI k0 k0' b q2 q2' hb hb'
    subst e1
    have hz : k0 ≠ .zero := fun e => by rw [e, h.blk0] at hb; cases hb
    rw [distinct_at hdt q1 q1' hz]
  · rw [hO] at hk1
    rcases liveH k hk1 with rfl | ⟨i, k0, rfl, q1, q2, q3⟩
    · cases hb
    rw [q3] at hb
    obtain ⟨z, hz⟩ := locS j y hL np
    exact h.blkL k0 b j z q2 hb hz np
  · rw [hO] at hk1
    rcases liveH k hk1 with rfl | ⟨i, k0, rfl, q1, q2, q3⟩
    · cases hb
    rw [q3] at hb
    exact h.blkS k0 b q2 hb
  · rw [hO] at hk1
    rcases liveH k hk1 with rfl | ⟨i, k0, rfl, q1, q2, q3⟩
    · cases hb
    rw [q3] at hb
    exact h.blkW k0 b q2 hb
  · obtain ⟨z, hz⟩ := locS j y hj np
    obtain ⟨z', hz'⟩ := locS j' y' hj' np'
    exact h.ρI j j' z z' hz hz' np np' he
  · rw [hO] at ht
    rcases liveH t ht with rfl | ⟨i, k0, rfl, q1, q2, q3⟩
    · cases hb
    rw [q3] at hb
    exact h.ows.tok k0 b q2 hb
  · obtain ⟨z, hz⟩ := locS k y hy np
    exact h.ows.loc k z hz np
  · show (match Nat.beq n.id n.id with | true => (match keptL n st k with | some (_, ls) => ls | none => []) | false => _) = ls
    rw [show Nat.beq n.id n.id = true by simp, hkl]
end
section
variable {E : Env} {R : Type} {r : R}
theorem bind_some2 {α : Type} {x : Option α} {f : α → Option R} (h : x.bind f = some r) : ∃ y, x = some y ∧ f y = some r := by
  cases x with
  | none => cases h
  | some y => exact ⟨y, rfl, h⟩
theorem chk_bind {α : Type} {b : Bool} {x : Option α} {f : α → Option R} : (chk b x).bind f = chk b (x.bind f) := by cases b <;> rfl
theorem binI_nat {op : BinOp} {k : IntKind} {x y : Int} {C : Upd → Option R} : binI op k x y (fun p => C (Upd.v p)) = (binI op k x y (fun p => some (Upd.v p))).bind C := by
  cases op <;> simp [binI, chk_bind]
theorem shI_nat {op : BinOp} {k : IntKind} {x y : Int} {C : Upd → Option R} : shI op k x y (fun p => C (Upd.v p)) = (shI op k x y (fun p => some (Upd.v p))).bind C := by
  cases op <;> simp [shI, chk_bind]
theorem binS_nat {op : BinOp} {x y : List Int} {C : Upd → Option R} : binS op x y (fun p => C (Upd.v p)) = (binS op x y (fun p => some (Upd.v p))).bind C := by
  cases op <;> simp [binS, chk_bind]
theorem binF_nat {op : BinOp} {k : FloatKind} {x y : Nat} {C : Upd → Option R} : binF op k x y (fun p => C (Upd.v p)) = (binF op k x y (fun p => some (Upd.v p))).bind C := by
  cases op <;> simp [binF, Option.bind_assoc]
theorem binC_nat {op : BinOp} {k : FloatKind} {x y : Nat × Nat} {C : Upd → Option R} : binC op k x y (fun p => C (Upd.v p)) = (binC op k x y (fun p => some (Upd.v p))).bind C := by
  cases op <;> simp [binC, Option.bind_assoc]
theorem binP_nat {op : BinOp} {p q : PV} {C : Upd → Option R} : binP op p q (fun p => C (Upd.v p)) = (binP op p q (fun p => some (Upd.v p))).bind C := by
  unfold binP
  split
  · split
    · exact shI_nat
    · exact shI_nat
    · split
      · exact binI_nat
      · rfl
  · exact binS_nat
  · split
    · exact binF_nat
    · rfl
  · split
    · exact binC_nat
    · rfl
  · rfl
theorem lendC_nat {C : Upd → Option R} {u : Upd} (hv : lendC C u = some r) : C u = some r ∧ ∀ {R' : Type} (C' : Upd → Option R'), lendC C' u = C' u := by
  unfold lendC at hv ⊢
  repeat' split at hv
  all_goals first
    | (cases hv; done)
    | (refine ⟨hv, fun {_} C' => ?_⟩; simp [*]; done)
theorem appP_nat {P : Program} {o : Oper} {t u : TypeId} {st : PSt} {p q : PV} {C : Upd → Option R} (hv : appP P o t u st p q C = some r) : ∃ u', C u' = some r ∧ ∀ {R' : Type} (C' : Upd → Option R'), appP P o t u st p q C' = C' u' := by
  unfold appP at hv ⊢
  repeat' split at hv
  all_goals first
    | (cases hv; done)
    | (obtain ⟨h1, h2⟩ := chk_some hv; refine ⟨_, h2, fun {_} C' => ?_⟩; simp [*, chk]; done)
theorem appT_nat {P : Program} {o : Oper} {t u : TypeId} {p q : PV} {C : Upd → Option R} (hv : appT P o t u p q C = some r) : ∃ u', C u' = some r ∧ ∀ {R' : Type} (C' : Upd → Option R'), appT P o t u p q C' = C' u' := by
  unfold appT at hv ⊢
  repeat' split at hv
  all_goals first
    | (cases hv; done)
    | (obtain ⟨h1, h2⟩ := chk_some hv; refine ⟨_, h2, fun {_} C' => ?_⟩; simp [*, chk]; done)
theorem appV_nat {P : Program} {o : Oper} {t u : TypeId} {st : PSt} {p q : PV} {C : Upd → Option R} (hv : appV P o t u st p q C = some r) : ∃ u', C u' = some r ∧ ∀ {R' : Type} (C' : Upd → Option R'), appV P o t u st p q C' = C' u' := by
  unfold appV at hv ⊢
  split at hv
  case h_2 => cases hv
  split at hv
  case h_2 => cases hv
  split at hv
  case h_2 => cases hv
  split at hv
  case h_2 => cases hv
  obtain ⟨h1, h2⟩ := chk_some hv
  refine ⟨_, h2, fun {_} C' => ?_⟩
  rw [h1]
  rfl
theorem newP_nat {st : PSt} {t : TypeId} {v : Nat} {e : Ty} {l : List e.D} {ls : List Leaf} {C : Upd → Option R} : newP st t v e l ls C = (newP st t v e l ls some).bind C := by
  unfold newP
  repeat' split
  all_goals rfl
theorem loadP_nat {o : Oper} {t : TypeId} {T : Nat} {j : Int} {off : Nat} {st : PSt} {C : Upd → Option R} : loadP E o t T j off st C = (loadP E o t T j off st some).bind C := by
  unfold loadP
  split
  · rw [Option.bind_assoc]
    congr 1
    funext x
    split
    · split <;> rfl
    · split
      · rename_i y _
        split
        · have e : ∀ z : Option Int, (z.bind fun n => C (Upd.v (pint .i64 n))) = (z.bind fun n => some (Upd.v (pint .i64 n))).bind C := fun z => by cases z <;> rfl
          exact e y
        · rfl
      · rfl
      · rfl
  · rfl
theorem lookP_nat {P : Program} {t et : TypeId} {kk : IntKind} {m n : Int} {c : Bool} {st : PSt} {C : Upd → Option R} : lookP P t et kk m n c st C = (lookP P t et kk m n c st some).bind C := by
  unfold lookP
  split
  · split
    · split
      · rw [Option.bind_assoc]
        congr 1
        funext es
        cases c <;> rfl
      · rfl
    · rfl
  · rfl
theorem updP_nat {t : TypeId} {kk : IntKind} {m n : Int} {vs : List Leaf} {st : PSt} {C : Upd → Option R} : updP t kk m n vs st C = (updP t kk m n vs st some).bind C := by
  unfold updP
  split
  · split
    · rw [Option.bind_assoc]
      rfl
    · rfl
  · rfl
theorem newM_nat {t : TypeId} {st : PSt} {C : Upd → Option R} : newM t st C = (newM t st some).bind C := by
  unfold newM
  split <;> rfl
theorem storeP_nat {t : TypeId} {T : Nat} {j : Int} {off : Nat} {p : PV} {st : PSt} {C : Upd → Option R} : storeP E t T j off p st C = (storeP E t T j off p st some).bind C := by
  unfold storeP
  split
  · rw [Option.bind_assoc]
    congr 1
    funext x
    split
    · split
      · split
        · rw [chk_bind]; rfl
        · rfl
      · rfl
    · split
      · split
        · split <;> rfl
        · rfl
      · rfl
  · rfl
theorem appL_nat {P : Program} {o : Oper} {t u : TypeId} {st : PSt} {x y : Operand} {ev : Operand → PV} {C : Upd → Option R} (hv : appL P o t u st x y ev C = some r) : ∃ u', C u' = some r ∧ ∀ {R' : Type} (C' : Upd → Option R'), appL P o t u st x y ev C' = C' u' := by
  unfold appL at hv ⊢
  cases hK : rowKeys ev [x, y] with
  | nil =>
    simp only [hK] at hv ⊢
    cases hf : isFv (ev x) with
    | true =>
      simp only [hf] at hv ⊢
      exact appV_nat hv
    | false =>
      simp only [hf] at hv ⊢
      exact appP_nat hv
  | cons k K =>
    simp only [hK] at hv ⊢
    obtain ⟨h0, hv⟩ := chk_some hv
    simp only [h0]
    cases hr : isRow (ev x) with
    | true =>
      simp only [hr] at hv ⊢
      cases ht : isTight (ev x) with
      | true =>
        simp only [ht] at hv ⊢
        obtain ⟨u', h1, h2⟩ := appT_nat hv
        obtain ⟨h3, h4⟩ := lendC_nat h1
        exact ⟨u', h3, fun {_} C' => (h2 (lendC C')).trans (h4 C')⟩
      | false => simp only [ht] at hv; cases hv
    | false =>
      simp only [hr] at hv ⊢
      obtain ⟨u', h1, h2⟩ := appP_nat hv
      obtain ⟨h3, h4⟩ := lendC_nat h1
      exact ⟨u', h3, fun {_} C' => (h2 (lendC C')).trans (h4 C')⟩
theorem bltP_nat {o : Oper} {b : Builtin} {args : List Operand} {ts : List TypeId} {st : PSt} {ev : Operand → PV} {C : Upd → Option R} (hv : bltP E o b args ts st ev C = some r) : ∃ u, C u = some r ∧ ∀ {R' : Type} (C' : Upd → Option R'), bltP E o b args ts st ev C' = C' u := by
  unfold bltP at hv ⊢
  split at hv
  · repeat' split at hv
    all_goals first
      | (cases hv; done)
      | (refine ⟨_, hv, fun {_} C' => ?_⟩; simp [*]; done)
      | (obtain ⟨h1, h2⟩ := chk_some hv; refine ⟨_, h2, fun {_} C' => ?_⟩; simp [*, chk]; done)
  · split at hv
    · repeat' split at hv
      all_goals first
        | (cases hv; done)
        | (refine ⟨_, hv, fun {_} C' => ?_⟩; simp [*]; done)
    · repeat' split at hv
      all_goals first
        | (cases hv; done)
        | (refine ⟨_, hv, fun {_} C' => ?_⟩; simp [*]; done)
    · obtain ⟨u, h1, h2⟩ := appL_nat hv
      exact ⟨u, h1, fun {_} C' => h2 C'⟩
    · repeat' split at hv
      all_goals first
        | (cases hv; done)
        | (refine ⟨_, hv, fun {_} C' => ?_⟩; simp [*]; done)
    · cases hv
  · cases hv
theorem callP_nat {s : Sig} {f : s.Fn} {dst : Option Nat} {args : List Operand} {ats : List TypeId} {st : PSt} {ev : Operand → PV} {C : Upd → Option R} (hv : callP E s f dst args ats st ev C = some r) : ∃ u, C u = some r ∧ ∀ {R' : Type} (C' : Upd → Option R'), callP E s f dst args ats st ev C' = C' u := by
  unfold callP at hv ⊢
  split at hv
  · split at hv
    · split at hv
      · obtain ⟨y, h1, h2⟩ := bind_some2 hv
        split at h2
        · exact ⟨_, h2, fun {_} C' => by simp [*]⟩
        · cases h2
      · cases hv
    · cases hv
  · cases hv
theorem rowC_nat {dst : Option Nat} {fr : List Nat} {C : Upd → Option R} {u : Upd} (hv : rowC E dst fr C u = some r) : ∃ u', C u' = some r ∧ ∀ {R' : Type} (C' : Upd → Option R'), rowC E dst fr C' u = C' u' := by
  unfold rowC at hv ⊢
  repeat' split at hv
  all_goals first
    | (cases hv; done)
    | (refine ⟨_, hv, fun {_} C' => ?_⟩; simp [*]; done)
    | (obtain ⟨h1, h2⟩ := chk_some hv; refine ⟨_, h2, fun {_} C' => ?_⟩; simp [*, chk]; done)
theorem rowM_nat {dst : Option Nat} {fr : List Nat} {tt : Bool} {C : Upd → Option R} {u : Upd} (hv : rowM E dst fr tt C u = some r) : ∃ u', C u' = some r ∧ ∀ {R' : Type} (C' : Upd → Option R'), rowM E dst fr tt C' u = C' u' := by
  unfold rowM at hv ⊢
  repeat' split at hv
  all_goals first
    | (cases hv; done)
    | (refine ⟨_, hv, fun {_} C' => ?_⟩; simp [*]; done)
    | (obtain ⟨h1, h2⟩ := chk_some hv; refine ⟨_, h2, fun {_} C' => ?_⟩; simp [*, chk]; done)
theorem callL_nat {s : Sig} {f : s.Fn} {dst : Option Nat} {args : List Operand} {ats : List TypeId} {st : PSt} {ev : Operand → PV} {C : Upd → Option R} (hv : callL E s f dst args ats st ev C = some r) : ∃ u, C u = some r ∧ ∀ {R' : Type} (C' : Upd → Option R'), callL E s f dst args ats st ev C' = C' u := by
  unfold callL at hv ⊢
  split at hv
  · obtain ⟨u, h1, h2⟩ := callP_nat hv
    obtain ⟨u', h3, h4⟩ := rowC_nat h1
    exact ⟨u', h3, fun {_} C' => by simp only [*]⟩
  · obtain ⟨h0, hv⟩ := chk_some hv
    obtain ⟨u, h1, h2⟩ := callP_nat hv
    obtain ⟨h3, h4⟩ := lendC_nat h1
    obtain ⟨u', h5, h6⟩ := rowC_nat h3
    exact ⟨u', h5, fun {_} C' => by rw [h0, h2, h4, h6]; rfl⟩
theorem extP_nat {fn : Func} {ps : List PV} {C : Upd → Option R} (hv : extP fn ps C = some r) : ∃ u, C u = some r ∧ ∀ {R' : Type} (C' : Upd → Option R'), extP fn ps C' = C' u := by
  unfold extP at hv ⊢
  split at hv
  · unfold addP at hv ⊢
    obtain ⟨h1, h2⟩ := chk_some hv
    exact ⟨_, h2, fun {_} C' => by simp only [h1]; rfl⟩
  · cases hv
theorem pvU_nat {o : Oper} {st : PSt} {ev : Operand → PV} {C : Upd → Option R} (hv : pvU E o st ev C = some r) : ∃ u, C u = some r ∧ ∀ {R' : Type} (C' : Upd → Option R'), pvU E o st ev C' = C' u := by
  obtain ⟨dst, op, type, pos, after, guard⟩ := o
  cases op with
  | move x =>
    simp only [pvU] at hv ⊢
    repeat' split at hv
    all_goals first
      | (cases hv; done)
      | (refine ⟨_, hv, fun {_} C' => ?_⟩; simp [*]; done)
      | (obtain ⟨h1, h2⟩ := chk_some hv; refine ⟨_, h2, fun {_} C' => ?_⟩; simp [*, chk]; done)
      | (obtain ⟨y, h1, h2⟩ := bind_some2 hv; repeat' split at h2
         all_goals first
          | (cases h2; done)
          | (refine ⟨_, h2, fun {_} C' => ?_⟩; simp [*]; done))
  | assign x =>
    simp only [pvU] at hv ⊢
    repeat' split at hv
    all_goals first
      | (cases hv; done)
      | (refine ⟨_, hv, fun {_} C' => ?_⟩; simp [*]; done)
      | (obtain ⟨h1, h2⟩ := chk_some hv; refine ⟨_, h2, fun {_} C' => ?_⟩; simp [*, chk]; done)
      | (obtain ⟨y, h1, h2⟩ := bind_some2 hv; repeat' split at h2
         all_goals first
          | (cases h2; done)
          | (refine ⟨_, h2, fun {_} C' => ?_⟩; simp [*]; done))
  | nilCheck x =>
    simp only [pvU] at hv ⊢
    repeat' split at hv
    all_goals first
      | (cases hv; done)
      | (refine ⟨_, hv, fun {_} C' => ?_⟩; simp [*]; done)
      | (obtain ⟨h1, h2⟩ := chk_some hv; refine ⟨_, h2, fun {_} C' => ?_⟩; simp [*, chk]; done)
      | (obtain ⟨y, h1, h2⟩ := bind_some2 hv; repeat' split at h2
         all_goals first
          | (cases h2; done)
          | (refine ⟨_, h2, fun {_} C' => ?_⟩; simp [*]; done))
  | alloc t =>
    simp only [pvU] at hv ⊢
    repeat' split at hv
    all_goals first
      | (cases hv; done)
      | (rw [newP_nat] at hv; obtain ⟨u, h1, h2⟩ := bind_some2 hv; exact ⟨u, h2, fun {_} C' => by rw [newP_nat, h1]; rfl⟩)
      | (refine ⟨_, hv, fun {_} C' => ?_⟩; simp [*]; done)
      | (obtain ⟨h1, h2⟩ := chk_some hv; refine ⟨_, h2, fun {_} C' => ?_⟩; simp [*, chk]; done)
      | (obtain ⟨y, h1, h2⟩ := bind_some2 hv; repeat' split at h2
         all_goals first
          | (cases h2; done)
          | (refine ⟨_, h2, fun {_} C' => ?_⟩; simp [*]; done))
  | box t x =>
    simp only [pvU] at hv ⊢
    repeat' split at hv
    all_goals first
      | (cases hv; done)
      | (rw [newP_nat] at hv; obtain ⟨u, h1, h2⟩ := bind_some2 hv; exact ⟨u, h2, fun {_} C' => by rw [newP_nat, h1]; rfl⟩)
      | (refine ⟨_, hv, fun {_} C' => ?_⟩; simp [*]; done)
      | (obtain ⟨h1, h2⟩ := chk_some hv; refine ⟨_, h2, fun {_} C' => ?_⟩; simp [*, chk]; done)
      | (obtain ⟨y, h1, h2⟩ := bind_some2 hv; repeat' split at h2
         all_goals first
          | (cases h2; done)
          | (refine ⟨_, h2, fun {_} C' => ?_⟩; simp [*]; done))
  | lookup t x i c =>
    simp only [pvU] at hv ⊢
    repeat' split at hv
    all_goals first
      | (cases hv; done)
      | (obtain ⟨u, h1, h2⟩ := bind_some2 (lookP_nat.symm.trans hv); exact ⟨u, h2, fun {_} C' => by exact lookP_nat.trans (by rw [h1]; rfl)⟩)
  | mapUpdate t x i y =>
    simp only [pvU] at hv ⊢
    repeat' split at hv
    all_goals first
      | (cases hv; done)
      | (obtain ⟨u, h1, h2⟩ := bind_some2 (updP_nat.symm.trans hv); exact ⟨u, h2, fun {_} C' => by exact updP_nat.trans (by rw [h1]; rfl)⟩)
  | makeMap t rv =>
    cases rv with
    | none =>
      simp only [pvU] at hv ⊢
      rw [newM_nat] at hv
      obtain ⟨u, h1, h2⟩ := bind_some2 hv
      exact ⟨u, h2, fun {_} C' => by rw [newM_nat, h1]; rfl⟩
    | some _ => cases hv
  | load t x =>
    simp only [pvU] at hv ⊢
    repeat' split at hv
    all_goals first
      | (cases hv; done)
      | (rw [loadP_nat] at hv; obtain ⟨u, h1, h2⟩ := bind_some2 hv; refine ⟨u, h2, fun {_} C' => ?_⟩; simp [*]; rw [loadP_nat, h1]; rfl)
      | (refine ⟨_, hv, fun {_} C' => ?_⟩; simp [*]; done)
      | (obtain ⟨h1, h2⟩ := chk_some hv; refine ⟨_, h2, fun {_} C' => ?_⟩; simp [*, chk]; done)
      | (obtain ⟨y, h1, h2⟩ := bind_some2 hv; repeat' split at h2
         all_goals first
          | (cases h2; done)
          | (refine ⟨_, h2, fun {_} C' => ?_⟩; simp [*]; done))
  | store t x y =>
    simp only [pvU] at hv ⊢
    repeat' split at hv
    all_goals first
      | (cases hv; done)
      | (rw [storeP_nat] at hv; obtain ⟨u, h1, h2⟩ := bind_some2 hv; exact ⟨u, h2, fun {_} C' => by rw [storeP_nat, h1]; rfl⟩)
      | (refine ⟨_, hv, fun {_} C' => ?_⟩; simp [*]; done)
      | (obtain ⟨h1, h2⟩ := chk_some hv; refine ⟨_, h2, fun {_} C' => ?_⟩; simp [*, chk]; done)
      | (obtain ⟨y, h1, h2⟩ := bind_some2 hv; repeat' split at h2
         all_goals first
          | (cases h2; done)
          | (refine ⟨_, h2, fun {_} C' => ?_⟩; simp [*]; done))
  | fieldAddr s x f =>
    simp only [pvU] at hv ⊢
    repeat' split at hv
    all_goals first
      | (cases hv; done)
      | (refine ⟨_, hv, fun {_} C' => ?_⟩; simp [*]; done)
      | (obtain ⟨h1, h2⟩ := chk_some hv; refine ⟨_, h2, fun {_} C' => ?_⟩; simp [*, chk]; done)
      | (obtain ⟨y, h1, h2⟩ := bind_some2 hv; repeat' split at h2
         all_goals first
          | (cases h2; done)
          | (refine ⟨_, h2, fun {_} C' => ?_⟩; simp [*]; done))
  | indexAddr t x i =>
    simp only [pvU] at hv ⊢
    repeat' split at hv
    all_goals first
      | (cases hv; done)
      | (obtain ⟨k', q1, q2, q3, q4⟩ := splitIx_some hv; refine ⟨_, q4, fun {_} C' => ?_⟩; subst q3; simp [*, splitIx_eq q1 q2]; done)
      | (refine ⟨_, hv, fun {_} C' => ?_⟩; simp [*]; done)
      | (obtain ⟨h1, h2⟩ := chk_some hv; refine ⟨_, h2, fun {_} C' => ?_⟩; simp [*, chk]; done)
      | (obtain ⟨y, h1, h2⟩ := bind_some2 hv; repeat' split at h2
         all_goals first
          | (cases h2; done)
          | (refine ⟨_, h2, fun {_} C' => ?_⟩; simp [*]; done))
  | index t x i =>
    simp only [pvU] at hv ⊢
    repeat' split at hv
    all_goals first
      | (cases hv; done)
      | (refine ⟨_, hv, fun {_} C' => ?_⟩; simp [*]; done)
      | (obtain ⟨h1, h2⟩ := chk_some hv; refine ⟨_, h2, fun {_} C' => ?_⟩; simp [*, chk]; done)
      | (obtain ⟨y, h1, h2⟩ := bind_some2 hv; repeat' split at h2
         all_goals first
          | (cases h2; done)
          | (refine ⟨_, h2, fun {_} C' => ?_⟩; simp [*]; done))
  | slice t x lo hi mx =>
    simp only [pvU] at hv ⊢
    repeat' split at hv
    all_goals first
      | (cases hv; done)
      | (refine ⟨_, hv, fun {_} C' => ?_⟩; simp [*]; done)
      | (obtain ⟨h1, h2⟩ := chk_some hv; refine ⟨_, h2, fun {_} C' => ?_⟩; simp [*, chk]; done)
      | (obtain ⟨y, h1, h2⟩ := bind_some2 hv; repeat' split at h2
         all_goals first
          | (cases h2; done)
          | (refine ⟨_, h2, fun {_} C' => ?_⟩; simp [*]; done))
  | field s x f =>
    simp only [pvU] at hv ⊢
    repeat' split at hv
    all_goals first
      | (cases hv; done)
      | (refine ⟨_, hv, fun {_} C' => ?_⟩; simp [*]; done)
      | (obtain ⟨h1, h2⟩ := chk_some hv; refine ⟨_, h2, fun {_} C' => ?_⟩; simp [*, chk]; done)
      | (obtain ⟨y, h1, h2⟩ := bind_some2 hv; repeat' split at h2
         all_goals first
          | (cases h2; done)
          | (refine ⟨_, h2, fun {_} C' => ?_⟩; simp [*]; done))
  | extract x i =>
    simp only [pvU] at hv ⊢
    repeat' split at hv
    all_goals first
      | (cases hv; done)
      | (refine ⟨_, hv, fun {_} C' => ?_⟩; simp [*]; done)
      | (obtain ⟨h1, h2⟩ := chk_some hv; refine ⟨_, h2, fun {_} C' => ?_⟩; simp [*, chk]; done)
      | (obtain ⟨y, h1, h2⟩ := bind_some2 hv; repeat' split at h2
         all_goals first
          | (cases h2; done)
          | (refine ⟨_, h2, fun {_} C' => ?_⟩; simp [*]; done))
  | build t parts =>
    simp only [pvU] at hv ⊢
    repeat' split at hv
    all_goals first
      | (cases hv; done)
      | (refine ⟨_, hv, fun {_} C' => ?_⟩; simp [*]; done)
      | (obtain ⟨h1, h2⟩ := chk_some hv; refine ⟨_, h2, fun {_} C' => ?_⟩; simp [*, chk]; done)
      | (obtain ⟨y, h1, h2⟩ := bind_some2 hv; repeat' split at h2
         all_goals first
          | (cases h2; done)
          | (refine ⟨_, h2, fun {_} C' => ?_⟩; simp [*]; done))
  | buildSlice t len parts =>
    simp only [pvU] at hv ⊢
    repeat' split at hv
    all_goals first
      | (cases hv; done)
      | (refine ⟨_, hv, fun {_} C' => ?_⟩; simp [*]; done)
      | (obtain ⟨h1, h2⟩ := chk_some hv; refine ⟨_, h2, fun {_} C' => ?_⟩; simp [*, chk]; done)
      | (obtain ⟨y, h1, h2⟩ := bind_some2 hv; repeat' split at h2
         all_goals first
          | (cases h2; done)
          | (refine ⟨_, h2, fun {_} C' => ?_⟩; simp [*]; done))
  | makeSlice t n c =>
    simp only [pvU] at hv ⊢
    repeat' split at hv
    all_goals first
      | (cases hv; done)
      | (obtain ⟨h1, h2⟩ := chk_some hv
         obtain ⟨u', h3, h4⟩ := rowM_nat h2
         exact ⟨u', h3, fun {_} C' => by simp [*, chk]⟩)
  | unOp op ty x =>
    simp only [pvU] at hv ⊢
    repeat' split at hv
    all_goals first
      | (cases hv; done)
      | (refine ⟨_, hv, fun {_} C' => ?_⟩; simp [*]; done)
      | (obtain ⟨h1, h2⟩ := chk_some hv; refine ⟨_, h2, fun {_} C' => ?_⟩; simp [*, chk]; done)
      | (obtain ⟨y, h1, h2⟩ := bind_some2 hv; repeat' split at h2
         all_goals first
          | (cases h2; done)
          | (refine ⟨_, h2, fun {_} C' => ?_⟩; simp [*]; done))
  | convert src dst x =>
    simp only [pvU] at hv ⊢
    repeat' split at hv
    all_goals first
      | (cases hv; done)
      | (refine ⟨_, hv, fun {_} C' => ?_⟩; simp [*]; done)
      | (obtain ⟨h1, h2⟩ := chk_some hv; refine ⟨_, h2, fun {_} C' => ?_⟩; simp [*, chk]; done)
      | (obtain ⟨y, h1, h2⟩ := bind_some2 hv; repeat' split at h2
         all_goals first
          | (cases h2; done)
          | (refine ⟨_, h2, fun {_} C' => ?_⟩; simp [*]; done))
  | binOp op ty x y uy =>
    simp only [pvU] at hv ⊢
    split at hv
    · repeat' split at hv
      all_goals first
        | (cases hv; done)
        | (refine ⟨_, hv, fun {_} C' => ?_⟩; simp [*]; done)
        | (obtain ⟨h1, h2⟩ := chk_some hv; refine ⟨_, h2, fun {_} C' => ?_⟩; simp [*, chk]; done)
    · repeat' split at hv
      all_goals first
        | (cases hv; done)
        | (refine ⟨_, hv, fun {_} C' => ?_⟩; simp [*]; done)
        | (obtain ⟨h1, h2⟩ := chk_some hv; refine ⟨_, h2, fun {_} C' => ?_⟩; simp [*, chk]; done)
    · repeat' split at hv
      all_goals first
        | (cases hv; done)
        | (refine ⟨_, hv, fun {_} C' => ?_⟩; simp [*]; done)
        | (obtain ⟨h1, h2⟩ := chk_some hv; refine ⟨_, h2, fun {_} C' => ?_⟩; simp [*, chk]; done)
    · repeat' split at hv
      all_goals first
        | (cases hv; done)
        | (refine ⟨_, hv, fun {_} C' => ?_⟩; simp [*]; done)
    · repeat' split at hv
      all_goals first
        | (cases hv; done)
        | (refine ⟨_, hv, fun {_} C' => ?_⟩; simp [*]; done)
    · rename_i a b h1 h2 h3 h6 h7
      rw [binP_nat] at hv
      obtain ⟨u, h4, h5⟩ := bind_some2 hv
      exact ⟨u, h5, fun {_} C' => by rw [binP_nat, h4]; rfl⟩
  | call c =>
    obtain ⟨callee, args, argTypes⟩ := c
    cases callee with
    | builtin b =>
      simp only [pvU] at hv ⊢
      exact bltP_nat hv
    | value f =>
      cases f with
      | func f =>
        simp only [pvU] at hv ⊢
        split at hv
        · split at hv
          · obtain ⟨u, h1, h2⟩ := callL_nat hv
            exact ⟨u, h1, fun {_} C' => by simp [*]⟩
          · cases hv
        · obtain ⟨u, h1, h2⟩ := extP_nat hv
          exact ⟨u, h1, fun {_} C' => by simp [*]⟩
        · cases hv
      | _ => cases hv
    | _ => cases hv
  | _ => cases hv
structure Sees (o : Oper) (st X : PSt) (ev ev' : Operand → PV) : Prop where
  ops : ∀ x ∈ o.op.operands, ev' x = ev x
  loc : ∀ x ∈ o.op.operands, ∀ k ∈ keyP (ev x), X.L k = st.L k
  fr : ∀ d, o.dst = some d → hasN X.fr d = hasN st.fr d
  tok : readsO o.op = true → ∀ x ∈ o.op.operands, ∀ t, t ∈ toksP (ev x) ∨ t ∈ lentToks st.L (ev x) → X.O t = st.O t
  zero : X.O .zero = st.O .zero
  locR : readsP o.op = true → isLd o.op = false → ∀ x ∈ o.op.operands, ∀ k ∈ keyR (ev x), X.L k = st.L k
  new : ∀ k ∈ newK o.op, X.L k = st.L k
  any : callsO o.op = true → ∀ k, isPool k = true → X.L k = st.L k
  tokP : poolOp o.op st.L ev = true → ∀ x ∈ o.op.operands, ∀ t ∈ toksP (ev x), X.O t = st.O t
  locL : ∀ t x T j off, o.op = .load t x → ev x = .fp T j off → X.L (pk T) = st.L (pk T) ∨ (poolD X.L (pk T) = poolD st.L (pk T) ∧ ∀ b v e l y, poolL st.L (pk T) = some (b, v, ⟨e, l⟩) → getI l j = some y → fvAt E o.dst b (osFind (osF e y 0) off) = none)
theorem buildLs_congr {P : Program} {t : TypeId} {ev ev' : Operand → PV} : ∀ (ps : List (Nat × Operand)) (ls : List Leaf), (∀ x ∈ ps.map (·.2), ev' x = ev x) → buildLs P t ev' ps ls = buildLs P t ev ps ls
  | [], _, _ => rfl
  | (i, x) :: r, ls, h => by
    unfold buildLs
    rw [h x (by simp)]
    have ih := fun ls => buildLs_congr (P := P) (t := t) r ls fun y hy => h y (by simp at hy ⊢; exact .inr hy)
    simp only [ih]
theorem partsD_congr {P : Program} {e : TypeId} {t : Ty} {ev ev' : Operand → PV} : ∀ (ps : List (Nat × Operand)) (n : Nat), (∀ x ∈ ps.map (·.2), ev' x = ev x) → partsD P e t ev' ps n = partsD P e t ev ps n
  | [], _, _ => rfl
  | (i, x) :: r, n, h => by
    unfold partsD
    rw [h x (by simp)]
    have ih := fun n => partsD_congr (P := P) (e := e) (t := t) r n fun y hy => h y (by simp at hy ⊢; exact .inr hy)
    simp only [ih]
theorem boundP_congr {ev ev' : Operand → PV} {x : Option Operand} {d : Int} (h : ∀ y ∈ x.toList, ev' y = ev y) : boundP ev' x d = boundP ev x d := by
  cases x with
  | none => rfl
  | some y => simp [boundP, h y (by simp)]
theorem toksLs_mem {l : Leaf} {ls : List Leaf} (h : l ∈ ls) (hz : l.tok ≠ .zero) : l.tok ∈ toksLs ls := by
  induction ls with
  | nil => cases h
  | cons x r ih =>
    unfold toksLs
    rcases List.mem_cons.1 h with rfl | h
    · refine List.mem_append.2 (.inl ?_)
      unfold gone1
      split
      · rename_i e; exact (hz e).elim
      · simp
    · exact List.mem_append.2 (.inr (ih h))
theorem toks_agree {O O' : Tok → Bool} (h0 : O' .zero = O .zero) {ls : List Leaf} (h : ∀ t ∈ toksLs ls, O' t = O t) : ∀ l ∈ ls, O' l.tok = O l.tok := fun l hl => by
  by_cases hz : l.tok = .zero
  · rw [hz, h0]
  · exact h _ (toksLs_mem hl hz)
theorem takeAll_congr {O O' : Tok → Bool} : ∀ (ts : List LT) (ls : List Leaf), (∀ l ∈ ls, O' l.tok = O l.tok) → takeAll O' ts ls = takeAll O ts ls
  | [], [], _ => rfl
  | [], _ :: _, _ => rfl
  | _ :: _, [], _ => rfl
  | t :: ts, l :: ls, h => by
    have e1 : takeLeaf O' t l = takeLeaf O t l := by
      have := h l (by simp)
      cases t with
      | d t => rfl
      | row e =>
        cases l with
        | own _ _ _ _ => rfl
        | d t x => cases t <;> rfl
      | own E e =>
        cases l with
        | d t x => rfl
        | own k E' e' x =>
          have h' : O' k = O k := this
          simp only [takeLeaf, h']
    unfold takeAll
    rw [e1, takeAll_congr ts ls fun l hl => h l (by simp [hl])]
theorem norm_or (P : Program) (t : TypeId) (p : PV) : norm P t p = p ∨ ∃ ag ls, norm P t p = .w ag ls := by
  unfold norm
  split
  · split
    · exact .inr ⟨_, _, rfl⟩
    · exact .inl rfl
  · split
    · exact .inr ⟨_, _, rfl⟩
    · exact .inl rfl
  · split
    · exact .inr ⟨_, _, rfl⟩
    · exact .inl rfl
  · split
    · exact .inr ⟨_, _, rfl⟩
    · exact .inl rfl
  · exact .inr ⟨_, _, rfl⟩
  · exact .inl rfl
theorem normP_toks {O O' : Tok → Bool} (h0 : O' .zero = O .zero) {P : Program} {ty : TypeId} {p : PV} (h : ∀ t ∈ toksP p, O' t = O t) : ∀ {ag : Bool} {ls : List Leaf}, norm P ty p = .w ag ls → ∀ l ∈ ls, O' l.tok = O l.tok := fun {ag ls} hn l hl => by
  unfold norm at hn
  split at hn
  · split at hn
    · cases hn
      obtain rfl := List.mem_singleton.1 hl
      exact h0
    · cases hn
  · split at hn
    · cases hn
      obtain rfl := List.mem_singleton.1 hl
      exact h0
    · cases hn
  · split at hn
    · cases hn
      obtain rfl := List.mem_singleton.1 hl
      exact h0
    · cases hn
  · split at hn
    · cases hn
      obtain rfl := List.mem_singleton.1 hl
      exact h0
    · cases hn
  · cases hn
    obtain rfl := List.mem_singleton.1 hl
    exact h0
  · subst hn
    exact toks_agree h0 h l hl
theorem rowKeys_congr {ev ev' : Operand → PV} : ∀ {args : List Operand}, (∀ y ∈ args, ev' y = ev y) → rowKeys ev' args = rowKeys ev args
  | [], _ => rfl
  | x :: xs, h => by
    have e := rowKeys_congr (args := xs) fun y hy => h y (List.mem_cons_of_mem _ hy)
    unfold rowKeys at e ⊢
    rw [List.flatMap_cons, List.flatMap_cons, h x (by simp), e]
theorem lendPV_congr {b : Bool} {K : List Nat} {L L' : Nat → Option (Nat × List Leaf)} {p : PV} (h : ∀ k ∈ keyP p, L' k = L k) : lendPV b K L' p = lendPV b K L p := by
  cases p with
  | row k n t =>
    show lendRow b K L' k n t = lendRow b K L k n t
    unfold lendRow
    rw [h k (by simp [keyP])]
  | _ => rfl
theorem rowOk_congr {L L' : Nat → Option (Nat × List Leaf)} {p : PV} (h : ∀ k ∈ keyP p, L' k = L k) : rowOk L' p = rowOk L p := by
  cases p with
  | row k n t =>
    have e := h k (by simp [keyP])
    simp only [rowOk, e]
  | _ => rfl
theorem lendX_cases (K ts : List Nat) (L : Nat → Option (Nat × List Leaf)) (x : Operand) (p : PV) : lendX K ts L x p = p ∨ ∃ b, lendX K ts L x p = lendPV b K L p := by
  cases x with
  | tmp t => exact .inr ⟨_, rfl⟩
  | _ => exact .inl rfl
theorem lendX_congr {K ts : List Nat} {L L' : Nat → Option (Nat × List Leaf)} {x : Operand} {p : PV} (h : ∀ k ∈ keyP p, L' k = L k) : lendX K ts L' x p = lendX K ts L x p := by
  cases x with
  | tmp t => exact lendPV_congr h
  | _ => rfl
theorem toks_lendPV {b : Bool} {K : List Nat} {L : Nat → Option (Nat × List Leaf)} {p : PV} {t : Tok} (h : t ∈ toksP (lendPV b K L p)) : t ∈ toksP p := by
  rcases lendPV_cases b K L p with e | ⟨e, _⟩ | ⟨k, n, _, σ, m, q, l, _, _, _, _, e⟩
  · rw [e] at h; cases h
  · rw [e] at h; exact h
  · rw [e] at h
    have h : t ∈ ([] : List Tok) := h
    cases h
theorem keys_lendPV {b : Bool} {K : List Nat} {L : Nat → Option (Nat × List Leaf)} {p : PV} {k : Nat} (h : k ∈ keyP (lendPV b K L p)) : k ∈ keyP p ∧ hasN K k = false := by
  rcases lendPV_cases b K L p with e | ⟨e, e2⟩ | ⟨k', n, _, σ, m, q, l, _, _, _, _, e⟩
  · rw [e] at h; cases h
  · rw [e] at h; exact ⟨h, e2 k h⟩
  · rw [e] at h; cases h
theorem appP_congr {P : Program} {o : Oper} {t u : TypeId} {st X : PSt} {p q : PV} (h4 : ∀ t ∈ toksP p, X.O t = st.O t) (h0 : X.O .zero = st.O .zero) {R' : Type} (C : Upd → Option R') : appP P o t u X p q C = appP P o t u st p q C := by
  unfold appP
  split
  · split
    · rename_i k E' ty l i hn _
      have := normP_toks h0 h4 hn (.own k E' ty l) (by simp)
      have e : X.O k = st.O k := this
      rw [e]
    · rfl
  · rfl
theorem appV_congr {P : Program} {o : Oper} {t u : TypeId} {st X : PSt} {p q : PV} (h : ∀ k ∈ keyR p, X.L k = st.L k) {R' : Type} (C : Upd → Option R') : appV P o t u X p q C = appV P o t u st p q C := by
  unfold appV
  split
  · rename_i e d k j s E0 ty l v _ _
    have e1 : poolL X.L k = poolL st.L k := by unfold poolL; rw [h k (by simp [keyR])]
    rw [e1]
  · rfl
theorem poolL_congr {L L' : Nat → Option (Nat × List Leaf)} {k : Nat} (h : L' k = L k) : poolL L' k = poolL L k := by unfold poolL; rw [h]
theorem takePools_congr {L L' : Nat → Option (Nat × List Leaf)} (h : ∀ k, isPool k = true → L' k = L k) : ∀ {pls : Pls}, okPls pls = true → takePools L' pls = takePools L pls
  | [], _ => rfl
  | (k, e, wr) :: r, hok => by
    simp only [okPls, Bool.and_eq_true] at hok
    unfold takePools
    rw [poolL_congr (h k hok.1.1), takePools_congr h hok.2]
theorem backPools_congr {L L' : Nat → Option (Nat × List Leaf)} (h : ∀ k, isPool k = true → L' k = L k) : ∀ {pls : Pls} (ds : List Dat), okPls pls = true → backPools L' pls ds = backPools L pls ds
  | [], [], _ => rfl
  | [], _ :: _, _ => rfl
  | (k, e, wr) :: r, [], hok => rfl
  | (k, e, wr) :: r, x :: xs, hok => by
    simp only [okPls, Bool.and_eq_true] at hok
    unfold backPools
    rw [poolL_congr (h k hok.1.1), backPools_congr h xs hok.2]
theorem appL_congr {P : Program} {o : Oper} {t u : TypeId} {st X : PSt} {x y : Operand} {ev ev' : Operand → PV} (h6 : ∀ z ∈ [x, y], ∀ k ∈ keyR (ev z), X.L k = st.L k) (h1 : ∀ z ∈ [x, y], ev' z = ev z) (h2 : ∀ z ∈ [x, y], ∀ k ∈ keyP (ev z), X.L k = st.L k) (h4 : ∀ t ∈ toksP (ev x), X.O t = st.O t) (h0 : X.O .zero = st.O .zero) (C : Upd → Option R) : appL P o t u X x y ev' C = appL P o t u st x y ev C := by
  have ex := h1 x (by simp)
  have ey := h1 y (by simp)
  unfold appL
  rw [rowKeys_congr h1]
  cases rowKeys ev [x, y] with
  | nil =>
    simp only [ex, ey]
    split
    · exact appV_congr (h6 x (by simp)) C
    · exact appP_congr h4 h0 C
  | cons k K =>
    have l1 := lendX_congr (K := k :: K) (ts := tmpsOf [x, y]) (x := x) (h2 x (by simp))
    have l2 := lendX_congr (K := k :: K) (ts := tmpsOf [x, y]) (x := y) (h2 y (by simp))
    simp only [ex, ey, rowOk_congr (h2 x (by simp)), rowOk_congr (h2 y (by simp)), l1, l2]
    congr 1
    split
    · rfl
    · refine appP_congr (fun t ht => h4 t ?_) h0 _
      rcases lendX_cases (k :: K) (tmpsOf [x, y]) st.L x (ev x) with e | ⟨b, e⟩
      · rw [e] at ht; exact ht
      · rw [e] at ht; exact toks_lendPV ht
theorem bltP_congr {o : Oper} {b : Builtin} {args : List Operand} {ts : List TypeId} {st X : PSt} {ev ev' : Operand → PV} (h6 : b = .append → ∀ y ∈ args, ∀ k ∈ keyR (ev y), X.L k = st.L k) (h1 : ∀ y ∈ args, ev' y = ev y) (h2 : ∀ y ∈ args, ∀ k ∈ keyP (ev y), X.L k = st.L k) (h4 : b = .append → ∀ y ∈ args, ∀ t, t ∈ toksP (ev y) ∨ t ∈ lentToks st.L (ev y) → X.O t = st.O t) (h0 : X.O .zero = st.O .zero) (C : Upd → Option R) :
    bltP E o b args ts X ev' C = bltP E o b args ts st ev C := by
  unfold bltP
  split
  · rw [h1 _ (by simp)]
  · rename_i x y t u
    split
    · rw [h1 x (by simp), h1 y (by simp)]
    · rw [h1 x (by simp), h1 y (by simp)]
    · exact appL_congr (h6 rfl) h1 h2 (fun t ht => h4 rfl x (by simp) t (.inl ht)) h0 C
    · rw [h1 x (by simp), h1 y (by simp)]
    · rfl
  · rfl
theorem argsP_congr {P : Program} {st X : PSt} {ev ev' : Operand → PV} : ∀ (ps : List Par) (xs : List Operand) (ts : List TypeId), (∀ y ∈ xs, ev' y = ev y) → (∀ y ∈ xs, ∀ k ∈ keyP (ev y), X.L k = st.L k) → argsP P X ev' ps xs ts = argsP P st ev ps xs ts
  | [], [], _, _, _ => rfl
  | [], _ :: _, _, _, _ => rfl
  | _ :: _, [], _, _, _ => rfl
  | p :: ps, x :: xs, ts, h1, h2 => by
    have e : argP X p (argN P ts (ev x)) = argP st p (argN P ts (ev x)) := by
      cases p with
      | v ag l => cases argN P ts (ev x) <;> rfl
      | m l =>
        have key : ∀ q, (∀ k ∈ keyP q, X.L k = st.L k) → argP X (.m l) q = argP st (.m l) q := fun q hq => by
          cases q with
          | loc k off => simp only [argP, hq k (by simp [keyP])]
          | _ => rfl
        refine key _ fun k hk => h2 x (by simp) k ?_
        cases ts with
        | nil => exact hk
        | cons t ts =>
          have hk' : k ∈ keyP (norm P t (ev x)) := hk
          rcases norm_or P t (ev x) with e | ⟨ag, l, e⟩
          · rw [e] at hk'; exact hk'
          · rw [e] at hk'; cases hk'
    unfold argsP
    rw [h1 x (by simp), e, argsP_congr ps xs ts.tail (fun y hy => h1 y (by simp [hy])) (fun y hy => h2 y (by simp [hy]))]
theorem argsP_toks {P : Program} {st X : PSt} {ev : Operand → PV} (h0 : X.O .zero = st.O .zero) : ∀ (ps : List Par) (xs : List Operand) (ts : List TypeId) (r : List Leaf × List (Nat × Nat)), (∀ y ∈ xs, ∀ t, t ∈ toksP (ev y) ∨ t ∈ lentToks st.L (ev y) → X.O t = st.O t) → argsP P st ev ps xs ts = some r → ∀ l ∈ r.1, X.O l.tok = st.O l.tok
  | [], [], _, _, _, h => by
    intro l hl
    have : ([], []) = _ := Option.some.inj h
    subst this
    cases hl
  | [], _ :: _, _, _, _, h => by cases h
  | _ :: _, [], _, _, _, h => by cases h
  | p :: ps, x :: xs, ts, r, h4, h => by
    unfold argsP at h
    split at h
    · rename_i a m b n ha hb
      injection h with h
      subst h
      intro l hl
      rcases List.mem_append.1 hl with hl | hl
      · cases p with
        | v ag lt =>
          have ha' : argP st (.v ag lt) (argN P ts (ev x)) = some (a, m) := ha
          have key : ∀ q, argP st (.v ag lt) q = some (a, m) → ∃ ag', q = .w ag' a := fun q hq => by
            cases q with
            | w ag' ls =>
              have hq' : (match bEq ag ag' && Nat.beq ls.length lt.length with | true => some (ls, []) | false => none) = some (a, m) := hq
              split at hq'
              · cases hq'; exact ⟨ag', rfl⟩
              · cases hq'
            | _ => cases hq
          obtain ⟨ag', e⟩ := key _ ha'
          cases ts with
          | nil =>
            have e' : ev x = .w ag' a := e
            exact toks_agree h0 (fun t ht => h4 x (by simp) t (.inl (by rw [e']; exact ht))) l hl
          | cons t ts => exact normP_toks h0 (fun t ht => h4 x (by simp) t (.inl ht)) e l hl
        | m lt =>
          have key : ∀ q, argP st (.m lt) q = some (a, m) → ∃ k off σ, q = .loc k off ∧ st.L k = some (σ, a) := fun q hq => by
            cases q with
            | loc k off =>
              have hq' : (match st.L k with | some (_, ls) => (match Nat.beq off 0 && Nat.beq ls.length lt.length with | true => some (ls, [(k, ls.length)]) | false => none) | none => none) = some (a, m) := hq
              split at hq'
              · split at hq'
                · cases hq'; exact ⟨k, off, _, rfl, ‹_›⟩
                · cases hq'
              · cases hq'
            | _ => cases hq
          obtain ⟨k, off, σ, e, hL⟩ := key _ ha
          have e' : ev x = .loc k off := by
            cases ts with
            | nil => exact e
            | cons t ts =>
              have e2 : norm P t (ev x) = .loc k off := e
              rcases norm_or P t (ev x) with e3 | ⟨ag, l, e3⟩
              · rw [e3] at e2; exact e2
              · rw [e3] at e2; cases e2
          refine toks_agree h0 (fun t ht => h4 x (by simp) t (.inr ?_)) l hl
          rw [e']
          show t ∈ (match st.L k with | some (_, ls) => toksLs ls | none => [])
          rw [hL]
          exact ht
      · exact argsP_toks h0 ps xs ts.tail _ (fun y hy => h4 y (by simp [hy])) hb l hl
    · cases h
theorem callP_congr {s : Sig} {f : s.Fn} {dst : Option Nat} {args : List Operand} {ats : List TypeId} {st X : PSt} {ev ev' : Operand → PV} (h6 : ∀ k, isPool k = true → X.L k = st.L k) (h1 : ∀ y ∈ args, ev' y = ev y) (h2 : ∀ y ∈ args, ∀ k ∈ keyP (ev y), X.L k = st.L k) (h4 : ∀ y ∈ args, ∀ t, t ∈ toksP (ev y) ∨ t ∈ lentToks st.L (ev y) → X.O t = st.O t)
    (h3 : ∀ d, dst = some d → hasN X.fr d = hasN st.fr d) (h0 : X.O .zero = st.O .zero) (C : Upd → Option R) : callP E s f dst args ats X ev' C = callP E s f dst args ats st ev C := by
  have e3 : newDst dst X.fr = newDst dst st.fr := by
    cases dst with
    | none => rfl
    | some d => exact h3 d rfl
  unfold callP
  rw [argsP_congr _ _ _ h1 h2, e3]
  split
  · rename_i ls ms ha
    rw [takeAll_congr _ _ (argsP_toks h0 _ _ _ _ h4 ha)]
    cases hok : okPls s.pls with
    | true => rw [takePools_congr h6 hok]; simp only [backPools_congr h6 _ (okPls_w hok)]
    | false =>
      simp only [Bool.and_false]
      split <;> split <;> first | rfl | skip
      all_goals (rename_i h7 h8; first | rfl | (split <;> rfl) | skip)
  · rfl
theorem rowC_congr {dst : Option Nat} {fr fr' : List Nat} (h3 : ∀ d, dst = some d → hasN fr' d = hasN fr d) (C : Upd → Option R) : rowC E dst fr' C = rowC E dst fr C := by
  funext u
  unfold rowC
  cases dst with
  | none => rfl
  | some d => simp only [h3 d rfl]
theorem rowM_congr {dst : Option Nat} {fr fr' : List Nat} {tt : Bool} (h3 : ∀ d, dst = some d → hasN fr' d = hasN fr d) (C : Upd → Option R) : rowM E dst fr' tt C = rowM E dst fr tt C := by
  funext u
  unfold rowM
  cases dst with
  | none => rfl
  | some d => simp only [h3 d rfl]
theorem callL_congr {s : Sig} {f : s.Fn} {dst : Option Nat} {args : List Operand} {ats : List TypeId} {st X : PSt} {ev ev' : Operand → PV} (h6 : ∀ k, isPool k = true → X.L k = st.L k) (h1 : ∀ y ∈ args, ev' y = ev y) (h2 : ∀ y ∈ args, ∀ k ∈ keyP (ev y), X.L k = st.L k) (h4 : ∀ y ∈ args, ∀ t, t ∈ toksP (ev y) ∨ t ∈ lentToks st.L (ev y) → X.O t = st.O t)
    (h3 : ∀ d, dst = some d → hasN X.fr d = hasN st.fr d) (h0 : X.O .zero = st.O .zero) (C : Upd → Option R) : callL E s f dst args ats X ev' C = callL E s f dst args ats st ev C := by
  unfold callL
  rw [rowKeys_congr h1, rowC_congr h3]
  split
  · exact callP_congr h6 h1 h2 h4 h3 h0 _
  · rename_i k K _
    have e0 : (args.all fun x => rowOk X.L (ev' x)) = args.all fun x => rowOk st.L (ev x) := by
      rw [Bool.eq_iff_iff, List.all_eq_true, List.all_eq_true]
      exact ⟨fun h y hy => by have := h y hy; rw [h1 y hy, rowOk_congr (h2 y hy)] at this; exact this, fun h y hy => by rw [h1 y hy, rowOk_congr (h2 y hy)]; exact h y hy⟩
    rw [e0]
    congr 1
    refine callP_congr (X := lendSt (k :: K) (tmpsOf args) X) (st := lendSt (k :: K) (tmpsOf args) st) (fun j hj => by show (match hasN (k :: K) j with | true => (match X.L j with | some _ => some (0, []) | none => none) | false => X.L j) = match hasN (k :: K) j with | true => (match st.L j with | some _ => some (0, []) | none => none) | false => st.L j; rw [h6 j hj]) (fun y hy => ?_) (fun y hy j hj => ?_) (fun y hy t ht => ?_) h3 h0 _
    · show lendX (k :: K) (tmpsOf args) X.L y (ev' y) = lendX (k :: K) (tmpsOf args) st.L y (ev y)
      rw [h1 y hy]
      exact lendX_congr (h2 y hy)
    · show (match hasN (k :: K) j with | true => (match X.L j with | some _ => some (0, []) | none => none) | false => X.L j) = match hasN (k :: K) j with | true => (match st.L j with | some _ => some (0, []) | none => none) | false => st.L j
      have hj : j ∈ keyP (lendX (k :: K) (tmpsOf args) st.L y (ev y)) := hj
      have j1 : j ∈ keyP (ev y) := by
        rcases lendX_cases (k :: K) (tmpsOf args) st.L y (ev y) with e | ⟨b, e⟩
        · rw [e] at hj; exact hj
        · rw [e] at hj; exact (keys_lendPV hj).1
      rw [h2 y hy j j1]
    · refine h4 y hy t ?_
      have ht : t ∈ toksP (lendX (k :: K) (tmpsOf args) st.L y (ev y)) ∨ t ∈ lentToks (lendSt (k :: K) (tmpsOf args) st).L (lendX (k :: K) (tmpsOf args) st.L y (ev y)) := ht
      have key : ∀ p : PV, t ∈ lentToks (lendSt (k :: K) (tmpsOf args) st).L p → t ∈ lentToks st.L p := fun p ht => by
        cases p with
        | loc j f =>
          have ht : t ∈ (match (match hasN (k :: K) j with | true => (match st.L j with | some _ => some ((0 : Nat), ([] : List Leaf)) | none => none) | false => st.L j) with | some (_, ls) => toksLs ls | none => []) := ht
          cases hj : hasN (k :: K) j with
          | true =>
            rw [hj] at ht
            cases hs : st.L j with
            | none => rw [hs] at ht; cases ht
            | some q => rw [hs] at ht; cases ht
          | false => rw [hj] at ht; exact ht
        | _ => cases ht
      rcases lendX_cases (k :: K) (tmpsOf args) st.L y (ev y) with e | ⟨b, e⟩
      · rw [e] at ht
        rcases ht with ht | ht
        · exact .inl ht
        · exact .inr (key _ ht)
      · rw [e] at ht
        rcases ht with ht | ht
        · exact .inl (toks_lendPV ht)
        · right
          rcases lendPV_cases b (k :: K) st.L (ev y) with e | ⟨e, e2⟩ | ⟨k', n, _, σ, m, q, l, _, _, _, _, e⟩
          · rw [e] at ht; cases ht
          · rw [e] at ht; exact key _ ht
          · rw [e] at ht; cases ht
theorem extP_congr {fn : Func} {args : List Operand} {ev ev' : Operand → PV} (h1 : ∀ y ∈ args, ev' y = ev y) (C : Upd → Option R) : extP fn (args.map ev') C = extP fn (args.map ev) C := by
  rw [List.map_congr_left h1]
theorem ownNow_congr {O O' : Tok → Bool} (h0 : O' .zero = O .zero) {p : PV} (h : ∀ t ∈ toksP p, O' t = O t) : ownNow O' p = ownNow O p := by
  unfold ownNow
  split
  · rename_i k E e l
    have : O' k = O k := toks_agree h0 (ls := [.own k E e l]) h (.own k E e l) (by simp)
    rw [this]
  · rfl
theorem newP_congr {st X : PSt} {t : TypeId} {v : Nat} {e : Ty} {l : List e.D} {ls : List Leaf} (h : ∀ l ∈ ls, X.O l.tok = st.O l.tok) {R' : Type} (C : Upd → Option R') : newP X t v e l ls C = newP st t v e l ls C := by
  have key : ∀ (t : Ty) (ls : List Leaf), (∀ l ∈ ls, X.O l.tok = st.O l.tok) → boxO X.O t ls = boxO st.O t ls ∧ ∀ x ks r, boxO st.O t ls = some (x, ks, r) → ∀ l ∈ r, l ∈ ls := by
    intro t
    induction t with
    | pr a b iha ihb =>
      intro ls h
      obtain ⟨i1, i2⟩ := iha ls h
      unfold boxO
      rw [i1]
      cases ha : boxO st.O a ls with
      | none => exact ⟨rfl, fun x ks r e => by cases e⟩
      | some p =>
        obtain ⟨x, ks, r⟩ := p
        have hsub := i2 x ks r ha
        obtain ⟨j1, j2⟩ := ihb r fun l hl => h l (hsub l hl)
        refine ⟨by simp only [j1], fun x' ks' r' e => ?_⟩
        dsimp only at e
        cases hb : boxO st.O b r with
        | none => rw [hb] at e; cases e
        | some q =>
          obtain ⟨y, k2, r2⟩ := q
          rw [hb] at e
          cases e
          exact fun l hl => hsub l (j2 y k2 _ hb l hl)
    | un => intro ls h; exact ⟨rfl, fun x ks r e => by cases e; exact fun l hl => hl⟩
    | os E e ih =>
      intro ls h
      cases ls with
      | nil => exact ⟨rfl, fun x ks r e => by cases e⟩
      | cons lf ls => cases lf with
        | d t y => exact ⟨rfl, fun x ks r e => by cases e⟩
        | own k E' e' y =>
          have hk : X.O k = st.O k := h (.own k E' e' y) (by simp)
          have d1 : ∀ O : Tok → Bool, boxO O (.os E e) (.own k E' e' y :: ls) = (match Nat.beq E E' && O k with
            | true => (match castD (t := .sl e') (.sl e) y with | some x => some (x, [k], ls) | none => none)
            | false => none) := fun O => rfl
          rw [d1, d1, hk]
          refine ⟨rfl, fun x ks r e => ?_⟩
          split at e
          · split at e
            · cases e; exact fun l hl => List.mem_cons_of_mem _ hl
            · cases e
          · cases e
    | _ =>
      intro ls h
      cases ls with
      | nil => exact ⟨rfl, fun x ks r e => by cases e⟩
      | cons lf ls =>
        refine ⟨rfl, fun x ks r e => ?_⟩
        simp only [boxO] at e
        split at e
        · cases e; exact fun l hl => List.mem_cons_of_mem _ hl
        · cases e
  unfold newP
  rw [(key e ls h).1]
theorem pvU_congr {o : Oper} {st X : PSt} {ev ev' : Operand → PV} (h : Sees (E := E) o st X ev ev') (C : Upd → Option R) : pvU E o X ev' C = pvU E o st ev C := by
  obtain ⟨dst', op, type, pos, after, guard⟩ := o
  obtain ⟨h1, h2, h3, h4, h5, h6, h7, h8, h9, h10⟩ := h
  cases op with
  | move x | assign x | nilCheck x | fieldAddr s x f | field s x f | extract x i | unOp op ty x =>
    have e1 := h1 x (by simp [Op.operands])
    simp only [pvU, e1]
  | convert src dstT x =>
    have e1 := h1 x (by simp [Op.operands])
    have e2 := ownNow_congr h5 (p := ev x) fun t ht => h4 rfl x (by simp [Op.operands]) t (.inl ht)
    have e3 := h2 x (by simp [Op.operands])
    have e4 : ∀ d, dst' = some d → hasN X.fr d = hasN st.fr d := h3
    simp only [pvU, e1]
    generalize ev x = p at e2 e3 ⊢
    split
    · rfl
    · rfl
    · split
      · rw [e4 _ rfl]
      · rfl
    · simp only [e2]
    · rw [e3 _ (by simp [keyP])]
    · rfl
    · rfl
    · rfl
    · rfl
  | index t x i | binOp op ty x i uy =>
    have e1 := h1 x (by simp [Op.operands])
    have e2 := h1 i (by simp [Op.operands])
    simp only [pvU, e1, e2]
  | makeSlice t x i =>
    have e1 := h1 x (by simp [Op.operands])
    have e2 := h1 i (by simp [Op.operands])
    simp only [rowM_congr h3, pvU, e1, e2]
  | alloc t =>
    have e7 := poolL_congr (h7 (pk t) (by simp [newK]))
    simp only [pvU, e7]
    split
    · rename_i ts i d hts _ _
      split
      · split
        · split
          · refine newP_congr (fun l hl => ?_) C
            have hz : ∀ {ts : List LT} {l : Leaf}, l ∈ zeroLs ts → l.tok = .zero := by
              intro ts
              induction ts with
              | nil => intro l hl; cases hl
              | cons t ts ih =>
                intro l hl
                cases t with
                | d t => rcases List.mem_cons.1 hl with rfl | hl <;> first | rfl | exact ih hl
                | own E e => rcases List.mem_cons.1 hl with rfl | hl <;> first | rfl | exact ih hl
                | row e => rcases List.mem_cons.1 hl with rfl | hl <;> first | rfl | exact ih hl
            rw [hz hl]; exact h5
          · rfl
          · rw [h3 _ rfl]
        · rfl
      · rfl
    · rfl
  | box t x =>
    have e1 := h1 x (by simp [Op.operands])
    have e7 := poolL_congr (h7 (pk t) (by simp [newK]))
    simp only [pvU, e1, e7]
    split
    · rename_i ag ls d hn
      split
      · rename_i v e l hp
        refine newP_congr (normP_toks h5 (fun t' ht => h9 ?_ x (by simp [Op.operands]) t' ht) hn) C
        show (match poolL st.L (pk t) with | some _ => true | none => false) = true
        rw [hp]
      · rfl
      · rw [h3 _ rfl]
    · rfl
  | lookup t x i c =>
    have e1 := h1 x (by simp [Op.operands])
    have e2 := h1 i (by simp [Op.operands])
    have e7 := poolL_congr (h7 (mk t) (by simp [newK]))
    simp only [pvU, e1, e2]
    split
    · split
      · unfold lookP
        rw [e7]
      · rfl
    · rfl
  | mapUpdate t x i y =>
    have e1 := h1 x (by simp [Op.operands])
    have e2 := h1 i (by simp [Op.operands])
    have e3 := h1 y (by simp [Op.operands])
    have e7 := poolL_congr (h7 (mk t) (by simp [newK]))
    simp only [pvU, e1, e2, e3]
    split
    · split
      · unfold updP
        rw [e7]
      · rfl
    · rfl
  | makeMap t rv =>
    have e7 := poolL_congr (h7 (mk t) (by simp [newK]))
    cases rv with
    | none =>
      simp only [pvU]
      unfold newM
      rw [e7]
    | some _ => rfl
  | load t x =>
    have e1 := h1 x (by simp [Op.operands])
    have e2 := h2 x (by simp [Op.operands])
    simp only [pvU, e1]
    split
    · split
      · rename_i k off he
        rw [e2 k (by rw [he]; simp [keyP])]
      · rename_i k off e j s he
        rw [e2 k (by rw [he]; simp [keyP])]
      · rfl
      · rename_i T j off he
        rcases h10 t x T j off rfl he with e6 | ⟨e6, e7⟩
        · unfold loadP
          rw [poolL_congr e6]
        · unfold loadP
          unfold poolD at e6
          cases hq : poolL st.L (pk T) with
          | none =>
            rw [hq] at e6
            cases hq2 : poolL X.L (pk T) with
            | none => rfl
            | some z => rw [hq2] at e6; cases e6
          | some z =>
            obtain ⟨b, v, e, l⟩ := z
            rw [hq] at e6
            cases hq2 : poolL X.L (pk T) with
            | none => rw [hq2] at e6; cases e6
            | some z2 =>
              obtain ⟨b2, v2, r2⟩ := z2
              rw [hq2] at e6
              cases e6
              dsimp only
              cases hg : getI l j with
              | none => rfl
              | some y =>
                simp only [Option.bind_some]
                rw [e7 b v e l y hq hg]
      · rfl
    · rfl
  | store t x y =>
    have e1 := h1 x (by simp [Op.operands])
    have e3 := h1 y (by simp [Op.operands])
    have e2 := h2 x (by simp [Op.operands])
    simp only [pvU, e1, e3]
    split
    · rename_i T j off he
      have e6 := h6 rfl rfl x (by simp [Op.operands])
      have e9 := h9 (by show isFp (ev x) = true; rw [he]; rfl) y (by simp [Op.operands])
      rw [he] at e6
      unfold storeP
      rw [poolL_congr (e6 (pk T) (by simp [keyR]))]
      have er : ∀ {O O' : Tok → Bool} {p : PV} {v : Nat}, (∀ t ∈ toksP p, O' t = O t) → O' .zero = O .zero → rowV O' T off v j p = rowV O T off v j p := fun {O O' p v} h h0 => by
        unfold rowV
        split
        · rfl
        · rename_i k j' s' E' e' l' n v' tk
          have : O' tk = O tk := by
            by_cases hz : tk = .zero
            · rw [hz, h0]
            · exact h tk (gone1_mem hz)
          rw [this]
        · rename_i k E' e' l'
          have : O' k = O k := toks_agree h0 (ls := [.own k E' e' l']) h (.own k E' e' l') (by simp)
          rw [this]
        · rfl
      have en : ∀ {v : Nat}, rowV X.O T off v j (norm E.P t (ev y)) = rowV st.O T off v j (norm E.P t (ev y)) := fun {v} => by
        refine er ?_ h5
        rcases norm_or E.P t (ev y) with e | ⟨ag, l, e⟩
        · rw [e]; exact e9
        · intro t' ht
          rw [e] at ht
          have hh := normP_toks h5 e9 e
          obtain ⟨lf, hl, hlt⟩ : ∃ lf ∈ l, lf.tok = t' := by
            have : ∀ {ls : List Leaf}, t' ∈ toksLs ls → ∃ lf ∈ ls, lf.tok = t' := by
              intro ls
              induction ls with
              | nil => intro h; cases h
              | cons z ls ih =>
                intro h
                rcases List.mem_append.1 h with h | h
                · refine ⟨z, by simp, ?_⟩
                  unfold gone1 at h
                  split at h
                  · cases h
                  · exact (List.mem_singleton.1 h).symm
                · obtain ⟨lf, h1, h2⟩ := ih h
                  exact ⟨lf, by simp [h1], h2⟩
            exact this ht
          rw [← hlt]
          exact hh lf hl
      simp only [en]
    split
    · rename_i k off _ _ _ he _ _
      rw [e2 k (by rw [he]; simp [keyP])]
    · rename_i k off e j s _ _ _ he _ _
      rw [e2 k (by rw [he]; simp [keyP])]
    · rfl
  | indexAddr t x i =>
    have e1 := h1 x (by simp [Op.operands])
    have e3 := h1 i (by simp [Op.operands])
    have e2 := h2 x (by simp [Op.operands])
    simp only [pvU, e1, e3]
    split
    · rename_i e k n tt j _ he _
      rw [e2 k (by rw [he]; simp [keyP])]
    · rfl
    · rename_i n e k off j _ he _
      rw [e2 k (by rw [he]; simp [keyP])]
    · rfl
    · rfl
  | slice t x lo hi mx =>
    have e1 := h1 x (by simp [Op.operands])
    have e2 : ∀ y ∈ lo.toList, ev' y = ev y := fun y hy => h1 y (by simp [Op.operands] at hy ⊢; simp [hy])
    have e3 : ∀ y ∈ hi.toList, ev' y = ev y := fun y hy => h1 y (by simp [Op.operands] at hy ⊢; simp [hy])
    have e4 : ∀ y ∈ mx.toList, ev' y = ev y := fun y hy => h1 y (by simp [Op.operands] at hy ⊢; simp [hy])
    have e5 : hi.bind (fun y => intP (ev' y)) = hi.bind (fun y => intP (ev y)) := by
      cases hi with
      | none => rfl
      | some y => simp only [Option.bind_some, e3 y (by simp)]
    have e6 := h6 rfl rfl x (by simp [Op.operands])
    simp only [pvU, e1, boundP_congr e2, boundP_congr e3, e5]
    split
    · rfl
    · split
      · rename_i k j s E' ty l v he
        rw [he] at e6
        rw [poolL_congr (e6 k (by simp [keyR]))]
      · rfl
    · rw [e4 _ (by simp)]
    · rfl
  | build t parts =>
    have e1 : ∀ y ∈ parts.toList.map (·.2), ev' y = ev y := fun y hy => h1 y (by simpa [Op.operands] using hy)
    simp only [pvU, buildLs_congr _ _ e1, partsD_congr _ _ e1]
  | buildSlice t len parts =>
    have e1 : ∀ y ∈ parts.toList.map (·.2), ev' y = ev y := fun y hy => h1 y (by simpa [Op.operands] using hy)
    simp only [pvU, partsD_congr _ _ e1]
  | call c =>
    obtain ⟨callee, args, argTypes⟩ := c
    have e1 : ∀ y ∈ args.toList, ev' y = ev y := fun y hy => h1 y (by cases callee <;> simp_all [Op.operands, Call.operands])
    have e2 : ∀ y ∈ args.toList, ∀ k ∈ keyP (ev y), X.L k = st.L k := fun y hy => h2 y (by cases callee <;> simp_all [Op.operands, Call.operands])
    cases callee with
    | builtin b =>
      simp only [pvU]
      exact bltP_congr (fun hb y hy => h6 (by subst hb; rfl) (by subst hb; rfl) y (by simp_all [Op.operands, Call.operands])) e1 e2 (fun hb y hy => h4 (by subst hb; rfl) y (by simp_all [Op.operands, Call.operands])) h5 C
    | value f =>
      cases f with
      | func f =>
        simp only [pvU]
        split
        · split
          · exact callL_congr (h8 rfl) e1 e2 (fun y hy => h4 rfl y (by simp_all [Op.operands, Call.operands])) h3 h5 C
          · rfl
        · exact extP_congr e1 C
        · rfl
      | _ => rfl
    | _ => rfl
  | _ => rfl
end
section
variable {E : Env} {R : Type} {r : R} {ops : Array Oper} {o : Oper}
theorem stepU_nat {kn : List (Nat × Bool)} {st : PSt} {C : Rec → PSt → Option R} (hv : stepU E o kn st C = some r) : ∃ rc s, C rc s = some r ∧ ∀ {R' : Type} (C' : Rec → PSt → Option R'), stepU E o kn st C' = C' rc s := by
  unfold stepU at hv ⊢
  split at hv
  case h_2 => cases hv
  split at hv
  · split at hv
    · exact ⟨_, _, hv, fun {_} C' => rfl⟩
    · cases hv
  · obtain ⟨u, h1, h2⟩ := pvU_nat hv
    split at h1
    · rename_i hok
      refine ⟨_, _, h1, fun {_} C' => ?_⟩
      rw [h2, hok]
    · cases h1
theorem skipU_nat {kn : List (Nat × Bool)} {st : PSt} {C : Rec → PSt → Option R} (hv : skipU o kn st C = some r) : ∃ rc s, C rc s = some r ∧ ∀ {R' : Type} (C' : Rec → PSt → Option R'), skipU o kn st C' = C' rc s := by
  unfold skipU at hv ⊢
  split at hv
  · exact ⟨_, _, hv, fun {_} C' => rfl⟩
  · cases hv
theorem wayU_nat {want b : Bool} {kn : List (Nat × Bool)} {st : PSt} {C : Rec → PSt → Option R} (hv : wayU E o want b kn st C = some r) : ∃ rc s, C rc s = some r ∧ ∀ {R' : Type} (C' : Rec → PSt → Option R'), wayU E o want b kn st C' = C' rc s := by
  unfold wayU at hv ⊢
  split at hv
  · exact stepU_nat hv
  · exact skipU_nat hv
theorem guardU_nat {t : Nat} {want : Bool} : ∀ {n : Nat} {kn : List (Nat × Bool)} {st : PSt} {C : Rec → PSt → Option R}, guardU E o t want n kn st C = some r → ∃ rc s, C rc s = some r ∧ ∀ {R' : Type} (C' : Rec → PSt → Option R'), guardU E o t want n kn st C' = C' rc s
  | 0, _, _, _, hv => by cases hv
  | n + 1, kn, st, C, hv => by
    unfold guardU at hv ⊢
    split at hv
    · rename_i b hb
      split at hv
      · exact wayU_nat hv
      · split at hv
        · split at hv
          · exact ⟨_, _, hv, fun {_} C' => rfl⟩
          · cases hv
        · cases b with
          | true => exact wayU_nat hv
          | false => exact wayU_nat hv
    · exact skipU_nat hv
    · split at hv
      · split at hv
        · rename_i b1 _ _
          cases b1 with
          | true => exact guardU_nat (n := n) hv
          | false => exact guardU_nat (n := n) hv
        · cases hv
      · cases hv
    · cases hv
theorem pvStep_nat {st : PSt} {C : Rec → PSt → Option R} (hv : pvStep E ops o st C = some r) : ∃ rc s, C rc s = some r ∧ ∀ {R' : Type} (C' : Rec → PSt → Option R'), pvStep E ops o st C' = C' rc s := by
  unfold pvStep at hv ⊢
  split at hv
  · exact stepU_nat hv
  · split at hv
    · cases hv
    · exact guardU_nat hv
def appR (d : Option Nat) (rc : Rec) (X : PSt) : PSt := ⟨putP X.φ d rc.val, putL X.L rc.loc, putO X.O rc.born rc.gone, X.kn, X.sp, outN d X.fr⟩
def Like (a b : PSt) : Prop := a.φ = b.φ ∧ a.L = b.L ∧ a.O = b.O ∧ ∀ x, hasN a.fr x = hasN b.fr x
inductive KnOK (φ : Nat → PV) : List (Nat × Bool) → Prop
  | nil : KnOK φ []
  | cons {t b kn} : KnOK φ kn → (φ t = .w false [.d .bool b] ∨ ∃ t' w', φ t = .spec t' w' false [.d .bool b] ∧ knows kn t' = some w') → KnOK φ ((t, b) :: kn)
theorem knows_ne {kn : List (Nat × Bool)} {t x : Nat} {b : Bool} (h : knows ((t, b) :: kn) x = none) : t ≠ x ∧ knows kn x = none := by
  unfold knows at h
  split at h
  · cases h
  · rename_i he
    exact ⟨fun e => by subst e; simp at he, h⟩
theorem KnOK.put {φ : Nat → PV} {kn : List (Nat × Bool)} {d : Option Nat} {p : PV} (h : KnOK φ kn) (hd : ∀ x, d = some x → knows kn x = none) : KnOK (putP φ d p) kn := by
  induction h with
  | nil => exact .nil
  | @cons t b kn h0 hj ih =>
    have hne : d ≠ some t := fun e => (knows_ne (hd t e)).1 rfl
    refine .cons (ih fun x hx => (knows_ne (hd x hx)).2) ?_
    rw [putP_ne hne]
    exact hj
structure RecOK (d : Option Nat) (g : Option Nat) (kn : List (Nat × Bool)) (st : PSt) (rc : Rec) (s : PSt) : Prop where
  like : Like s (appR d rc st)
  free : ∀ x, d = some x → hasN st.sp x = false ∧ knows kn x = none
  kn : KnOK st.φ kn → KnOK s.φ s.kn
  sp : ∀ t, hasN st.sp t = true → hasN s.sp t = true
  spec : ∀ t want ag ls, rc.val = .spec t want ag ls → g = some t ∧ hasN s.sp t = true
  born : ∀ t ∈ rc.born, ∃ x j, t = .op x j ∧ d = some x ∧ hasN st.fr x = true
  gone : ∀ t ∈ rc.gone, t ≠ .zero
  ment : ∀ x ∈ outN d st.fr, mentP x rc.val = false ∧ ∀ p ∈ rc.loc, mentLs x p.2 = false
  bump : ∀ k ∈ rc.bump, ∀ L, poolD (putL L rc.loc) k = poolD st.L k
theorem freeD_free {φ : Nat → PV} {L : Nat → Option (Nat × List Leaf)} {O : Tok → Bool} {kn : List (Nat × Bool)} {sp fr : List Nat} {d : Option Nat} (h : freeD ⟨φ, L, O, kn, sp, fr⟩ d = true) : ∀ x, d = some x → hasN sp x = false ∧ knows kn x = none := fun x hx => by
  subst hx
  simp only [freeD, Bool.and_eq_true, Bool.not_eq_true'] at h
  refine ⟨h.1, ?_⟩
  have h2 := h.2
  split at h2
  · cases h2
  · assumption
theorem recOK_v {d g : Option Nat} {kn : List (Nat × Bool)} {st : PSt} {p : PV} (hf : ∀ x, d = some x → hasN st.sp x = false ∧ knows kn x = none) (hp : ∀ x, mentP x p = false) (hs : ∀ t want ag ls, p ≠ .spec t want ag ls) : RecOK d g kn st (Rec.v p) ⟨putP st.φ d p, st.L, st.O, kn, st.sp, outN d st.fr⟩ :=
  ⟨⟨rfl, rfl, putO_nil.symm, fun _ => rfl⟩, hf, fun h => h.put fun x hx => (hf x hx).2, fun t h => h, fun t want ag ls e => (hs _ _ _ _ e).elim, fun t h => (by cases h), fun t h => (by cases h), fun x _ => ⟨hp x, fun p h => (by cases h)⟩, fun k h => (by cases h)⟩
theorem okUpd_parts {st : PSt} {d : Option Nat} {u : Upd} (h : okUpd st d u = true) : (∀ t ∈ u.born, ∃ x j, t = .op x j ∧ d = some x ∧ hasN st.fr x = true) ∧ (∀ t ∈ u.gone, t ≠ .zero) ∧ (∀ x ∈ outN d st.fr, mentP x u.val = false ∧ ∀ p ∈ u.loc, mentLs x p.2 = false) := by
  simp only [okUpd, Bool.and_eq_true, List.all_eq_true, Bool.not_eq_true'] at h
  obtain ⟨⟨⟨⟨h1, h2⟩, h3⟩, h4⟩, h5⟩ := h
  refine ⟨fun t ht => ?_, fun t ht e => ?_, h1⟩
  · have := h2 t ht
    split at this
    · rename_i d' j x
      simp only [Bool.and_eq_true] at this
      exact ⟨d', j, rfl, by rw [Nat.eq_of_beq_eq_true this.1], by rw [Nat.eq_of_beq_eq_true this.1]; exact this.2⟩
    · cases this
  · subst e
    have := h3 .zero ht
    cases this
theorem pickP_bool {kn : List (Nat × Bool)} {φ : Nat → PV} {c a b : Operand} {p : PV} (h : pickP kn φ c a b = some p) : ∃ q, p = pbool q := by
  unfold pickP at h
  repeat' split at h
  all_goals first
    | (cases h; done)
    | (injection h with h; exact ⟨_, h.symm⟩)
theorem binI_ns {op : BinOp} {k : IntKind} {x y : Int} {u : Upd} (h : binI op k x y (fun p => some (Upd.v p)) = some u) : ∀ t want ag ls, u.val ≠ .spec t want ag ls := by
  unfold binI at h
  repeat' split at h
  all_goals first
    | (cases h; done)
    | (cases h; intro _ _ _ _ e; cases e; done)
    | (obtain ⟨h1, h2⟩ := chk_some h; cases h2; intro _ _ _ _ e; cases e; done)
    | (obtain ⟨y, h1, h2⟩ := bind_some2 h; repeat' split at h2
       all_goals first
        | (cases h2; done)
        | (cases h2; intro _ _ _ _ e; cases e; done))
theorem shI_ns {op : BinOp} {k : IntKind} {x y : Int} {u : Upd} (h : shI op k x y (fun p => some (Upd.v p)) = some u) : ∀ t want ag ls, u.val ≠ .spec t want ag ls := by
  unfold shI at h
  repeat' split at h
  all_goals first
    | (cases h; done)
    | (cases h; intro _ _ _ _ e; cases e; done)
    | (obtain ⟨h1, h2⟩ := chk_some h; cases h2; intro _ _ _ _ e; cases e; done)
    | (obtain ⟨y, h1, h2⟩ := bind_some2 h; repeat' split at h2
       all_goals first
        | (cases h2; done)
        | (cases h2; intro _ _ _ _ e; cases e; done))
theorem binS_ns {op : BinOp} {x y : List Int} {u : Upd} (h : binS op x y (fun p => some (Upd.v p)) = some u) : ∀ t want ag ls, u.val ≠ .spec t want ag ls := by
  unfold binS at h
  repeat' split at h
  all_goals first
    | (cases h; done)
    | (cases h; intro _ _ _ _ e; cases e; done)
    | (obtain ⟨h1, h2⟩ := chk_some h; cases h2; intro _ _ _ _ e; cases e; done)
    | (obtain ⟨y, h1, h2⟩ := bind_some2 h; repeat' split at h2
       all_goals first
        | (cases h2; done)
        | (cases h2; intro _ _ _ _ e; cases e; done))
theorem unP_ns {op : UnOp} {p q : PV} (h : unP op p = some q) : ∀ t want ag ls, q ≠ .spec t want ag ls := by
  unfold unP at h
  repeat' split at h
  all_goals first
    | (cases h; done)
    | (cases h; intro _ _ _ _ e; cases e; done)
    | (obtain ⟨h1, h2⟩ := chk_some h; cases h2; intro _ _ _ _ e; cases e; done)
    | (obtain ⟨y, h1, h2⟩ := bind_some2 h; repeat' split at h2
       all_goals first
        | (cases h2; done)
        | (cases h2; intro _ _ _ _ e; cases e; done))
theorem lenP_ns {P : Program} {t : TypeId} {p q : PV} (h : lenP P t p = some q) : ∀ t want ag ls, q ≠ .spec t want ag ls := by
  unfold lenP at h
  repeat' split at h
  all_goals first
    | (cases h; done)
    | (cases h; intro _ _ _ _ e; cases e; done)
    | (obtain ⟨h1, h2⟩ := chk_some h; cases h2; intro _ _ _ _ e; cases e; done)
    | (obtain ⟨y, h1, h2⟩ := bind_some2 h; repeat' split at h2
       all_goals first
        | (cases h2; done)
        | (cases h2; intro _ _ _ _ e; cases e; done))
theorem binF_ns {op : BinOp} {k : FloatKind} {x y : Nat} {u : Upd} (h : binF op k x y (fun p => some (Upd.v p)) = some u) : ∀ t want ag ls, u.val ≠ .spec t want ag ls := by
  unfold binF at h
  repeat' split at h
  all_goals first
    | (cases h; done)
    | (cases h; intro _ _ _ _ e; cases e; done)
    | (obtain ⟨y, h1, h2⟩ := bind_some2 h; cases h2; intro _ _ _ _ e; cases e; done)
theorem binC_ns {op : BinOp} {k : FloatKind} {x y : Nat × Nat} {u : Upd} (h : binC op k x y (fun p => some (Upd.v p)) = some u) : ∀ t want ag ls, u.val ≠ .spec t want ag ls := by
  unfold binC at h
  repeat' split at h
  all_goals first
    | (cases h; done)
    | (cases h; intro _ _ _ _ e; cases e; done)
    | (obtain ⟨y, h1, h2⟩ := bind_some2 h; obtain ⟨y', h3, h4⟩ := bind_some2 h2; cases h4; intro _ _ _ _ e; cases e; done)
theorem mmP_ns {f : Int → Int → Int} {p p' q : PV} (h : mmP f p p' = some q) : ∀ t want ag ls, q ≠ .spec t want ag ls := by
  unfold mmP at h
  repeat' split at h
  all_goals first
    | (cases h; done)
    | (cases h; intro _ _ _ _ e; cases e; done)
    | (obtain ⟨h1, h2⟩ := chk_some h; cases h2; intro _ _ _ _ e; cases e; done)
    | (obtain ⟨y, h1, h2⟩ := bind_some2 h; repeat' split at h2
       all_goals first
        | (cases h2; done)
        | (cases h2; intro _ _ _ _ e; cases e; done))
theorem resP_ns {rs : List (Bool × List LT)} {ls : List Leaf} : ∀ t want ag l, resP rs ls ≠ .spec t want ag l := by
  intro t want ag l e
  unfold resP at e
  split at e <;> cases e
theorem appP_ns {P : Program} {o : Oper} {t u : TypeId} {st : PSt} {p q : PV} {R' : Type} {C : Upd → Option R'} {r' : R'} (hv : appP P o t u st p q C = some r') : ∃ u', C u' = some r' ∧ ∀ t want ag ls, u'.val ≠ .spec t want ag ls := by
  unfold appP at hv
  repeat' split at hv
  all_goals first
    | (cases hv; done)
    | (obtain ⟨h1, h2⟩ := chk_some hv; exact ⟨_, h2, fun _ _ _ _ e => by cases e⟩)
theorem appT_ns {P : Program} {o : Oper} {t u : TypeId} {p q : PV} {R' : Type} {C : Upd → Option R'} {r' : R'} (hv : appT P o t u p q C = some r') : ∃ u', C u' = some r' ∧ ∀ t want ag ls, u'.val ≠ .spec t want ag ls := by
  unfold appT at hv
  repeat' split at hv
  all_goals first
    | (cases hv; done)
    | (obtain ⟨h1, h2⟩ := chk_some hv; exact ⟨_, h2, fun _ _ _ _ e => by cases e⟩)
theorem appV_ns {P : Program} {o : Oper} {t u : TypeId} {st : PSt} {p q : PV} {R' : Type} {C : Upd → Option R'} {r' : R'} (hv : appV P o t u st p q C = some r') : ∃ u', C u' = some r' ∧ ∀ t want ag ls, u'.val ≠ .spec t want ag ls := by
  unfold appV at hv
  split at hv
  case h_2 => cases hv
  split at hv
  case h_2 => cases hv
  split at hv
  case h_2 => cases hv
  split at hv
  case h_2 => cases hv
  obtain ⟨h1, h2⟩ := chk_some hv
  exact ⟨_, h2, fun _ _ _ _ e => by cases e⟩
theorem newP_ns {st : PSt} {t : TypeId} {v : Nat} {e : Ty} {l : List e.D} {ls : List Leaf} {u : Upd} (hv : newP st t v e l ls some = some u) : ∀ t want ag ls, u.val ≠ .spec t want ag ls := by
  unfold newP at hv
  repeat' split at hv
  all_goals first
    | (cases hv; done)
    | (cases hv; intro _ _ _ _ e; cases e; done)
theorem loadP_ns {o : Oper} {t : TypeId} {T : Nat} {j : Int} {off : Nat} {st : PSt} {u : Upd} (hv : loadP E o t T j off st some = some u) : ∀ t want ag ls, u.val ≠ .spec t want ag ls := by
  unfold loadP at hv
  split at hv
  · obtain ⟨x, _, hv⟩ := bind_some2 hv
    split at hv
    · split at hv
      · cases hv; intro _ _ _ _ e; cases e
      · cases hv
    · split at hv
      · split at hv
        · obtain ⟨n, _, hv⟩ := bind_some2 hv
          cases hv; intro _ _ _ _ e; cases e
        · cases hv
      · cases hv; intro _ _ _ _ e; cases e
      · cases hv
  · cases hv
theorem lookP_ns {P : Program} {t et : TypeId} {kk : IntKind} {m n : Int} {c : Bool} {st : PSt} {u : Upd} (hv : lookP P t et kk m n c st some = some u) : ∀ t want ag ls, u.val ≠ .spec t want ag ls := by
  unfold lookP at hv
  split at hv
  case h_2 => cases hv
  split at hv
  case h_2 => cases hv
  split at hv
  case h_2 => cases hv
  obtain ⟨x, _, hv⟩ := bind_some2 hv
  cases c
  · cases hv; intro _ _ _ _ e; cases e
  · cases hv; intro _ _ _ _ e; cases e
theorem updP_ns {t : TypeId} {kk : IntKind} {m n : Int} {vs : List Leaf} {st : PSt} {u : Upd} (hv : updP t kk m n vs st some = some u) : ∀ t want ag ls, u.val ≠ .spec t want ag ls := by
  unfold updP at hv
  split at hv
  case h_2 => cases hv
  split at hv
  case h_2 => cases hv
  obtain ⟨x, _, hv⟩ := bind_some2 hv
  cases hv; intro _ _ _ _ e; cases e
theorem newM_ns {t : TypeId} {st : PSt} {u : Upd} (hv : newM t st some = some u) : ∀ t want ag ls, u.val ≠ .spec t want ag ls := by
  unfold newM at hv
  split at hv
  case h_2 => cases hv
  cases hv; intro _ _ _ _ e; cases e
theorem storeP_ns {t : TypeId} {T : Nat} {j : Int} {off : Nat} {p : PV} {st : PSt} {u : Upd} (hv : storeP E t T j off p st some = some u) : ∀ t want ag ls, u.val ≠ .spec t want ag ls := by
  unfold storeP at hv
  split at hv
  · obtain ⟨x, _, hv⟩ := bind_some2 hv
    split at hv
    · split at hv
      · split at hv
        · obtain ⟨_, hv⟩ := chk_some hv
          cases hv; intro _ _ _ _ e; cases e
        · cases hv
      · cases hv
    · split at hv
      · split at hv
        · split at hv
          · cases hv; intro _ _ _ _ e; cases e
          · cases hv
        · cases hv
      · cases hv
  · cases hv
theorem lendC_ns {u0 u : Upd} (h : ∀ t want ag ls, u0.val ≠ .spec t want ag ls) (hv : lendC some u0 = some u) : ∀ t want ag ls, u.val ≠ .spec t want ag ls := by
  unfold lendC at hv
  repeat' split at hv
  all_goals first
    | (cases hv; done)
    | (cases hv; exact h)
theorem appL_ns {P : Program} {o : Oper} {t u : TypeId} {st : PSt} {x y : Operand} {ev : Operand → PV} {u' : Upd} (hv : appL P o t u st x y ev some = some u') : ∀ t want ag ls, u'.val ≠ .spec t want ag ls := by
  unfold appL at hv
  split at hv
  · split at hv
    · obtain ⟨u0, h1, h2⟩ := appV_ns hv
      cases h1
      exact h2
    · obtain ⟨u0, h1, h2⟩ := appP_ns hv
      cases h1
      exact h2
  · obtain ⟨_, hv⟩ := chk_some hv
    split at hv
    · split at hv
      · obtain ⟨u0, h1, h2⟩ := appT_ns hv
        exact lendC_ns h2 h1
      · cases hv
    · obtain ⟨u0, h1, h2⟩ := appP_ns hv
      exact lendC_ns h2 h1
theorem callP_ns {s : Sig} {f : s.Fn} {dst : Option Nat} {args : List Operand} {ats : List TypeId} {st : PSt} {ev : Operand → PV} {R' : Type} {C : Upd → Option R'} {r' : R'} (hv : callP E s f dst args ats st ev C = some r') : ∃ u, C u = some r' ∧ ∀ t want ag ls, u.val ≠ .spec t want ag ls := by
  unfold callP at hv
  repeat' split at hv
  all_goals first
    | (cases hv; done)
    | (obtain ⟨y, h1, h2⟩ := bind_some2 hv
       split at h2
       · exact ⟨_, h2, resP_ns⟩
       · cases h2)
theorem rowC_ns {dst : Option Nat} {fr : List Nat} {u0 u : Upd} (h : ∀ t want ag ls, u0.val ≠ .spec t want ag ls) (hv : rowC E dst fr some u0 = some u) : ∀ t want ag ls, u.val ≠ .spec t want ag ls := by
  unfold rowC at hv
  repeat' split at hv
  all_goals first
    | (cases hv; done)
    | (cases hv; intro _ _ _ _ e; cases e; done)
    | (cases hv; exact h)
    | (obtain ⟨_, h2⟩ := chk_some hv; cases h2; intro _ _ _ _ e; cases e; done)
theorem rowM_ns {dst : Option Nat} {fr : List Nat} {tt : Bool} {u0 u : Upd} (h : ∀ t want ag ls, u0.val ≠ .spec t want ag ls) (hv : rowM E dst fr tt some u0 = some u) : ∀ t want ag ls, u.val ≠ .spec t want ag ls := by
  unfold rowM at hv
  repeat' split at hv
  all_goals first
    | (cases hv; done)
    | (cases hv; intro _ _ _ _ e; cases e; done)
    | (cases hv; exact h)
    | (obtain ⟨_, h2⟩ := chk_some hv; cases h2; intro _ _ _ _ e; cases e; done)
theorem callL_ns {s : Sig} {f : s.Fn} {dst : Option Nat} {args : List Operand} {ats : List TypeId} {st : PSt} {ev : Operand → PV} {u : Upd} (hv : callL E s f dst args ats st ev some = some u) : ∀ t want ag ls, u.val ≠ .spec t want ag ls := by
  unfold callL at hv
  split at hv
  · obtain ⟨u0, h1, h2⟩ := callP_ns hv
    exact rowC_ns h2 h1
  · obtain ⟨_, hv⟩ := chk_some hv
    obtain ⟨u0, h1, h2⟩ := callP_ns hv
    unfold lendC at h1
    repeat' split at h1
    all_goals first
      | (cases h1; done)
      | exact rowC_ns h2 h1
theorem pvU_ns {st : PSt} {ev : Operand → PV} {u : Upd} (hv : pvU E o st ev some = some u) : ∀ t want ag ls, u.val ≠ .spec t want ag ls := by
  obtain ⟨dst, op, type, pos, after, guard⟩ := o
  cases op with
  | move x | assign x =>
    simp only [pvU] at hv
    split at hv
    · cases hv
    · cases hv
    · rename_i h1 h2
      injection hv with hv
      subst hv
      intro t want ag ls e
      exact h2 t want ag ls e
  | unOp op ty x =>
    simp only [pvU] at hv
    split at hv
    · rename_i p hp
      injection hv with hv
      subst hv
      exact unP_ns hp
    · cases hv
  | binOp op ty x y uy =>
    simp only [pvU] at hv
    split at hv
    · repeat' split at hv
      all_goals first
        | (cases hv; done)
        | (cases hv; intro _ _ _ _ e; cases e; done)
        | (obtain ⟨h1, h2⟩ := chk_some hv; cases h2; intro _ _ _ _ e; cases e; done)
        | (obtain ⟨y, h1, h2⟩ := bind_some2 hv; repeat' split at h2
           all_goals first
            | (cases h2; done)
            | (cases h2; intro _ _ _ _ e; cases e; done))
    · repeat' split at hv
      all_goals first
        | (cases hv; done)
        | (cases hv; intro _ _ _ _ e; cases e; done)
        | (obtain ⟨h1, h2⟩ := chk_some hv; cases h2; intro _ _ _ _ e; cases e; done)
        | (obtain ⟨y, h1, h2⟩ := bind_some2 hv; repeat' split at h2
           all_goals first
            | (cases h2; done)
            | (cases h2; intro _ _ _ _ e; cases e; done))
    · repeat' split at hv
      all_goals first
        | (cases hv; done)
        | (cases hv; intro _ _ _ _ e; cases e; done)
        | (obtain ⟨h1, h2⟩ := chk_some hv; cases h2; intro _ _ _ _ e; cases e; done)
        | (obtain ⟨y, h1, h2⟩ := bind_some2 hv; repeat' split at h2
           all_goals first
            | (cases h2; done)
            | (cases h2; intro _ _ _ _ e; cases e; done))
    · repeat' split at hv
      all_goals first
        | (cases hv; done)
        | (cases hv; intro _ _ _ _ e; cases e; done)
    · repeat' split at hv
      all_goals first
        | (cases hv; done)
        | (cases hv; intro _ _ _ _ e; cases e; done)
    · unfold binP at hv
      split at hv
      · split at hv
        · exact shI_ns hv
        · exact shI_ns hv
        · split at hv
          · exact binI_ns hv
          · cases hv
      · exact binS_ns hv
      · split at hv
        · exact binF_ns hv
        · cases hv
      · split at hv
        · exact binC_ns hv
        · cases hv
      · cases hv
  | call c =>
    obtain ⟨callee, args, argTypes⟩ := c
    cases callee with
    | builtin b =>
      simp only [pvU] at hv
      unfold bltP at hv
      split at hv
      · repeat' split at hv
        all_goals first
          | (cases hv; done)
          | (cases hv; exact lenP_ns ‹_›)
          | (cases hv; intro _ _ _ _ e; cases e; done)
      · split at hv
        · repeat' split at hv
          all_goals first
            | (cases hv; done)
            | (cases hv; exact mmP_ns ‹_›)
        · repeat' split at hv
          all_goals first
            | (cases hv; done)
            | (cases hv; exact mmP_ns ‹_›)
        · exact appL_ns hv
        · repeat' split at hv
          all_goals first
            | (cases hv; done)
            | (cases hv; intro _ _ _ _ e; cases e; done)
        · cases hv
      · cases hv
    | value f =>
      cases f with
      | func f =>
        simp only [pvU] at hv
        split at hv
        · split at hv
          · exact callL_ns hv
          · cases hv
        · unfold extP at hv
          split at hv
          · unfold addP at hv
            obtain ⟨h1, h2⟩ := chk_some hv
            cases h2
            intro _ _ _ _ e; cases e
          · cases hv
        · cases hv
      | _ => cases hv
    | _ => cases hv
  | makeMap t rv =>
    cases rv with
    | none =>
      simp only [pvU] at hv
      exact newM_ns hv
    | some _ => cases hv
  | lookup t x i c =>
    simp only [pvU] at hv
    repeat' split at hv
    all_goals first
      | (cases hv; done)
      | exact lookP_ns hv
  | mapUpdate t x i y =>
    simp only [pvU] at hv
    repeat' split at hv
    all_goals first
      | (cases hv; done)
      | exact updP_ns hv
  | makeSlice t n c =>
    simp only [pvU] at hv
    repeat' split at hv
    all_goals first
      | (cases hv; done)
      | (obtain ⟨_, h2⟩ := chk_some hv
         exact rowM_ns (fun _ _ _ _ e => by cases e) h2)
  | _ =>
    simp only [pvU] at hv
    repeat' split at hv
    all_goals first
      | (cases hv; done)
      | exact newP_ns hv
      | exact loadP_ns hv
      | exact storeP_ns hv
      | (cases hv; intro _ _ _ _ e; cases e; done)
      | (obtain ⟨h1, h2⟩ := chk_some hv; cases h2; intro _ _ _ _ e; cases e; done)
      | (obtain ⟨k', q1, q2, q3, q4⟩ := splitIx_some hv; cases q4; intro _ _ _ _ e; cases e; done)
      | (obtain ⟨y, h1, h2⟩ := bind_some2 hv; repeat' split at h2
         all_goals first
          | (cases h2; done)
          | (cases h2; intro _ _ _ _ e; cases e; done))
theorem pvU_bump {st : PSt} {ev : Operand → PV} {u : Upd} (hv : pvU E o st ev some = some u) : ∀ k ∈ bumpK o.op ev, ∀ L, poolD (putL L u.loc) k = poolD st.L k := by
  intro k hk L
  obtain ⟨dst, op, type, pos, after, guard⟩ := o
  unfold bumpK at hk
  dsimp only at hk
  split at hk
  case h_2 => cases hk
  rename_i args ats
  split at hk
  case h_2 => cases hk
  rename_i x r hargs
  have hfv : ∃ j s E0 e l v, ev x = .fv k j s E0 e l v := by
    generalize ev x = p at hk
    cases p <;> simp [fvKs] at hk
    subst hk
    exact ⟨_, _, _, _, _, _, rfl⟩
  obtain ⟨j, s, E0, e, l, v, hx⟩ := hfv
  simp only [pvU] at hv
  unfold bltP at hv
  rw [hargs] at hv
  split at hv
  · cases hv
  · rename_i x' y t u' e1 e2
    cases e1
    dsimp only at hv
    unfold appL at hv
    have happV : ∀ {q : PV} {u : Upd}, appV E.P ⟨dst, .call { callee := .builtin .append, args := args, argTypes := ats }, type, pos, after, guard⟩ t u' st (ev x) q some = some u → poolD (putL L u.loc) k = poolD st.L k := fun {q u} hv => by
      unfold appV at hv
      rw [hx] at hv
      split at hv
      case h_2 => cases hv
      rename_i e' d k' j' s' E' ty l' v' h1 h2 h3
      cases h3
      split at hv
      case h_2 => cases hv
      rename_i i v'' pe pl h4 h5
      split at hv
      case h_2 => cases hv
      split at hv
      case h_2 => cases hv
      obtain ⟨_, hv⟩ := chk_some hv
      cases hv
      unfold poolD
      rw [h5]
      have : poolL (putL L [(k, [.d (.arr (v + 1) pe) pl])]) k = some (true, v + 1, ⟨pe, pl⟩) := by
        unfold poolL putL
        simp
      rw [this]
    have happP : ∀ {st' : PSt} {q : PV} {R' : Type} {C : Upd → Option R'} {r' : R'}, appP E.P ⟨dst, .call { callee := .builtin .append, args := args, argTypes := ats }, type, pos, after, guard⟩ t u' st' (ev x) q C = some r' → False := fun {st' q R' C r'} hv => by
      unfold appP at hv
      have hn : norm E.P t (ev x) = ev x := by rw [hx]; rfl
      rw [hn, hx] at hv
      split at hv
      · split at hv
        · contradiction
        · cases hv
      · cases hv
    split at hv
    · rw [hx] at hv
      have hf : isFv (.fv k j s E0 e l v) = true := rfl
      rw [hf] at hv
      rw [← hx] at hv
      exact happV hv
    · obtain ⟨_, hv⟩ := chk_some hv
      rw [hx] at hv
      have hf : isRow (.fv k j s E0 e l v) = false := rfl
      rw [hf] at hv
      dsimp only at hv
      have hl : ∀ K ts, lendX K ts st.L x (ev x) = ev x := fun K ts => by
        unfold lendX
        split
        · rw [hx]; rfl
        · rfl
      rw [← hx, hl] at hv
      exact (happP hv).elim
  · cases hv
theorem bump_total {ev : Operand → PV} (h : totalO ev o.op = true) (ev' : Operand → PV) : bumpK o.op ev' = [] := by
  obtain ⟨dst, op, type, pos, after, guard⟩ := o
  cases op with
  | call c =>
    obtain ⟨callee, args, argTypes⟩ := c
    cases callee with
    | builtin b =>
      cases b with
      | append => cases h
      | _ => rfl
    | _ => rfl
  | _ => rfl
theorem stepU_ok {g : Option Nat} {kn : List (Nat × Bool)} {st : PSt} {rc : Rec} {s : PSt} (hv : stepU E o kn st (fun rc s => some (rc, s)) = some (rc, s)) : RecOK o.dst g kn st rc s := by
  unfold stepU at hv
  split at hv
  case h_2 => cases hv
  rename_i hf
  have hfr := freeD_free hf
  split at hv
  · split at hv
    · rename_i p hp
      injection hv with hv
      obtain ⟨rfl, rfl⟩ := Prod.mk.inj hv
      obtain ⟨q, rfl⟩ := pickP_bool hp
      exact recOK_v hfr (fun _ => rfl) (fun _ _ _ _ e => by cases e)
    · cases hv
  · obtain ⟨u, h1, h2⟩ := pvU_nat hv
    split at h1
    · rename_i hok
      injection h1 with h1
      obtain ⟨rfl, rfl⟩ := Prod.mk.inj h1
      obtain ⟨o1, o2, o3⟩ := okUpd_parts hok
      exact ⟨⟨rfl, rfl, rfl, fun _ => rfl⟩, hfr, fun h => h.put fun x hx => (hfr x hx).2, fun t h => h, fun t want ag ls e => (pvU_ns (h2 some) t want ag ls e).elim, o1, o2, o3, fun k hk L => pvU_bump (h2 some) k hk L⟩
    · cases h1
theorem skipU_ok {g : Option Nat} {kn : List (Nat × Bool)} {st : PSt} {rc : Rec} {s : PSt} (hv : skipU o kn st (fun rc s => some (rc, s)) = some (rc, s)) : RecOK o.dst g kn st rc s := by
  unfold skipU at hv
  split at hv
  case h_2 => cases hv
  rename_i hf
  injection hv with hv
  obtain ⟨rfl, rfl⟩ := Prod.mk.inj hv
  exact recOK_v (freeD_free hf) (fun _ => rfl) (fun _ _ _ _ e => by cases e)
theorem wayU_ok {g : Option Nat} {want b : Bool} {kn : List (Nat × Bool)} {st : PSt} {rc : Rec} {s : PSt} (hv : wayU E o want b kn st (fun rc s => some (rc, s)) = some (rc, s)) : RecOK o.dst g kn st rc s := by
  unfold wayU at hv
  split at hv
  · exact stepU_ok hv
  · exact skipU_ok hv
theorem RecOK.less {d g : Option Nat} {t : Nat} {b : Bool} {kn : List (Nat × Bool)} {st : PSt} {rc : Rec} {s : PSt} (h : RecOK d g ((t, b) :: kn) st rc s) (hj : st.φ t = .w false [.d .bool b] ∨ ∃ t' w', st.φ t = .spec t' w' false [.d .bool b] ∧ knows kn t' = some w') : RecOK d g kn st rc s :=
  ⟨h.like, fun x hx => ⟨(h.free x hx).1, (knows_ne (h.free x hx).2).2⟩, fun hk => h.kn (.cons hk hj), h.sp, h.spec, h.born, h.gone, h.ment, h.bump⟩
theorem evK_bool {kn : List (Nat × Bool)} {φ : Nat → PV} {t : Nat} {b : Bool} (h : evK kn φ (.tmp t) = .w false [.d .bool b]) (hk : knows kn t = none) : φ t = .w false [.d .bool b] ∨ ∃ t' w', φ t = .spec t' w' false [.d .bool b] ∧ knows kn t' = some w' := by
  unfold evK at h
  have hev : evS φ (.tmp t) = φ t := rfl
  rw [hev] at h
  split at h
  · rename_i j want ag ls hs
    split at h
    · rename_i b' hb
      split at h
      · rename_i he
        have h := knB_none h hk
        cases h
        exact .inr ⟨j, want, hs, by rw [hb, bEq_iff.1 he]⟩
      · cases h
    · cases h
  · exact .inl (knB_none h hk)
theorem guardU_ok {t : Nat} {want : Bool} : ∀ {n : Nat} {kn : List (Nat × Bool)} {st : PSt} {rc : Rec} {s : PSt}, guardU E o t want n kn st (fun rc s => some (rc, s)) = some (rc, s) → RecOK o.dst (some t) kn st rc s
  | 0, _, _, _, _, hv => by cases hv
  | n + 1, kn, st, rc, s, hv => by
    unfold guardU at hv
    split at hv
    · rename_i b hb
      split at hv
      · exact wayU_ok hv
      · rename_i hk
        split at hv
        · rename_i ag ls hs
          split at hv
          · rename_i hfk
            simp only [Bool.and_eq_true] at hfk
            obtain ⟨o1, o2, o3⟩ := okUpd_parts hfk.2
            have hfr := freeD_free hfk.1
            injection hv with hv
            obtain ⟨rfl, rfl⟩ := Prod.mk.inj hv
            refine ⟨⟨rfl, rfl, putO_nil.symm, fun _ => rfl⟩, fun x hx => ⟨Bool.eq_false_iff.2 fun e => ?_, (hfr x hx).2⟩, fun h => h.put fun x hx => (hfr x hx).2, fun t h => hasN_iff.2 (List.mem_cons_of_mem _ (hasN_iff.1 h)), fun t' want' ag' ls' e => ?_, fun t h => (by cases h), fun t h => (by cases h), fun x hx => ⟨(o3 x hx).1, fun p h => (by cases h)⟩, fun k h => (by
              have hb : k ∈ bumpK o.op (evK ((t, want) :: kn) st.φ) := h
              unfold specU at hs
              split at hs
              · rename_i ht
                rw [bump_total ht] at hb
                cases hb
              · cases hs)⟩
            · have := (hfr x hx).1
              rw [hasN_iff.2 (List.mem_cons_of_mem _ (hasN_iff.1 e))] at this
              cases this
            · have e' : PV.spec t want ag ls = .spec t' want' ag' ls' := e
              cases e'
              exact ⟨rfl, hasN_iff.2 (by simp)⟩
          · cases hv
        · cases b with
          | true => exact (wayU_ok (g := some t) (kn := (t, true) :: kn) hv).less (evK_bool hb hk)
          | false => exact (wayU_ok (g := some t) (kn := (t, false) :: kn) hv).less (evK_bool hb hk)
    · exact skipU_ok hv
    · split at hv
      · rename_i t1 _ _ _ _
        split at hv
        · rename_i b1 hb1 hk1
          cases b1 with
          | true => exact (guardU_ok (n := n) (kn := (t1, true) :: kn) hv).less (evK_bool hb1 hk1)
          | false => exact (guardU_ok (n := n) (kn := (t1, false) :: kn) hv).less (evK_bool hb1 hk1)
        · cases hv
      · cases hv
    · cases hv
def gslot (ops : Array Oper) (o : Oper) : Option Nat := match o.guard with
  | none => none
  | some (j, _) => (ops[j]?).bind (·.dst)
theorem pvStep_ok {st : PSt} {rc : Rec} {s : PSt} (hv : pvStep E ops o st (fun rc s => some (rc, s)) = some (rc, s)) : RecOK o.dst (gslot ops o) st.kn st rc s := by
  unfold pvStep at hv
  unfold gslot
  split at hv
  · exact stepU_ok hv
  · rename_i j want hg
    split at hv
    · cases hv
    · rename_i t ht
      simp only [hg, ht]
      exact guardU_ok hv
end
section
variable {E : Env} {R : Type} {r : R} {ops : Array Oper} {o : Oper} {A : Nat → Prop}
structure Foot (d : Option Nat) (rc : Rec) (st X : PSt) : Prop where
  L : ∀ k, k ∈ rc.keysR ∨ k ∈ rc.keysW ∨ (rc.anyP = true ∧ isPool k = true) → X.L k = st.L k
  D : ∀ k ∈ rc.keysD, poolD X.L k = poolD st.L k
  O : ∀ t ∈ rc.toksR, X.O t = st.O t
  zero : X.O .zero = st.O .zero
  fr : ∀ x, d = some x → hasN X.fr x = hasN st.fr x
  free : ∀ x, d = some x → hasN X.sp x = false
  ment : ∀ x ∈ outN d X.fr, mentP x rc.val = false ∧ ∀ p ∈ rc.loc, mentLs x p.2 = false
structure Alike (A : Nat → Prop) (st X : PSt) (kn kn' : List (Nat × Bool)) : Prop where
  φ : ∀ t, A t → X.φ t = st.φ t
  kn : ∀ t, A t → knows kn' t = knows kn t
  cl : ∀ t, A t → ∀ j w ag ls, st.φ t = .spec j w ag ls → A j
theorem Alike.cons {st X : PSt} {kn kn' : List (Nat × Bool)} (h : Alike A st X kn kn') (t : Nat) (b : Bool) : Alike A st X ((t, b) :: kn) ((t, b) :: kn') :=
  ⟨h.φ, fun x hx => by
    unfold knows
    split
    · rfl
    · exact h.kn x hx, h.cl⟩
theorem Alike.ev {st X : PSt} {kn kn' : List (Nat × Bool)} (h : Alike A st X kn kn') {x : Operand} (hx : ∀ t, x = .tmp t → A t) : evK kn' X.φ x = evK kn st.φ x := by
  unfold evK
  have e : evS X.φ x = evS st.φ x := by
    cases x with
    | tmp t => exact h.φ t (hx t rfl)
    | _ => rfl
  rw [e]
  have hb : ∀ p, knB kn' x p = knB kn x p := fun p => knB_congr fun t e => h.kn t (hx t e)
  split
  · rename_i j want ag ls hs
    have hj : A j := by
      cases x with
      | tmp t => exact h.cl t (hx t rfl) j want ag ls hs
      | const c =>
        exfalso
        have hs' : constPV c = .spec j want ag ls := hs
        unfold constPV at hs'
        repeat' split at hs'
        all_goals cases hs'
      | _ => cases hs
    rw [h.kn j hj, hb]
  · exact hb _
theorem putL_congr {L L' : Nat → Option (Nat × List Leaf)} {k : Nat} (h : L' k = L k) : ∀ (l : List (Nat × List Leaf)), putL L' l k = putL L l k
  | [] => h
  | (j, ls) :: r => by
    unfold putL
    split
    · rfl
    · exact putL_congr h r
theorem okUpd_at {st X : PSt} {d : Option Nat} {u : Upd} (h : okUpd st d u = true) (h1 : ∀ k ∈ keyP u.val, X.L k = st.L k) (h2 : ∀ p ∈ u.loc, X.L p.1 = st.L p.1) (h3 : ∀ x, d = some x → hasN X.fr x = hasN st.fr x) (h4 : ∀ x ∈ outN d X.fr, mentP x u.val = false ∧ ∀ p ∈ u.loc, mentLs x p.2 = false) : okUpd X d u = true := by
  simp only [okUpd, Bool.and_eq_true, List.all_eq_true, Bool.not_eq_true'] at h ⊢
  obtain ⟨⟨⟨⟨_, g2⟩, g3⟩, g4⟩, g5⟩ := h
  refine ⟨⟨⟨⟨h4, fun t ht => ?_⟩, g3⟩, fun k hk => ?_⟩, fun p hp => ?_⟩
  · have := g2 t ht
    split
    · rename_i d' j x
      dsimp only at this
      rw [h3 _ rfl]; exact this
    · rename_i hn
      split at this
      · exact (hn _ _ _ rfl rfl).elim
      · cases this
  · have := g4 k hk
    rw [putL_congr (h1 k hk)]; exact this
  · have := g5 p hp
    rw [h2 p hp]
    split
    · rfl
    · rename_i hn
      rw [hn] at this
      dsimp only at this
      cases d with
      | none => cases this
      | some x => dsimp only at this ⊢; rw [h3 x rfl]; exact this
theorem freeD_at {φ : Nat → PV} {L : Nat → Option (Nat × List Leaf)} {O : Tok → Bool} {kn : List (Nat × Bool)} {sp fr : List Nat} {d : Option Nat} (h : ∀ x, d = some x → hasN sp x = false ∧ knows kn x = none) : freeD ⟨φ, L, O, kn, sp, fr⟩ d = true := by
  cases d with
  | none => rfl
  | some x => simp [freeD, (h x rfl).1, (h x rfl).2]
theorem flatMap_same {α β : Type} {f g : α → List β} : ∀ (l : List α), (∀ x ∈ l, f x = g x) → l.flatMap f = l.flatMap g
  | [], _ => rfl
  | x :: r, h => by rw [List.flatMap_cons, List.flatMap_cons, h x (by simp), flatMap_same r fun y hy => h y (by simp [hy])]
theorem recU_at {st X : PSt} {kn kn' : List (Nat × Bool)} {u : Upd} (he : ∀ x ∈ o.op.operands, evK kn' X.φ x = evK kn st.φ x) (hl : ∀ x ∈ o.op.operands, ∀ k ∈ keyP (evK kn st.φ x), X.L k = st.L k) (hn : ∀ k ∈ newK o.op, X.L k = st.L k) : recU o X kn' u = recU o st kn u := by
  have e1 : o.op.operands.toList.map (evK kn' X.φ) = o.op.operands.toList.map (evK kn st.φ) := List.map_congr_left fun x hx => he x (by simpa using hx)
  have e2 : (o.op.operands.toList.map (evK kn st.φ)).flatMap (lentToks X.L) = (o.op.operands.toList.map (evK kn st.φ)).flatMap (lentToks st.L) := by
    rw [List.flatMap_map, List.flatMap_map]
    refine flatMap_same _ fun x hx => ?_
    have hk := hl x (by simpa using hx)
    generalize evK kn st.φ x = p at hk
    cases p with
    | loc k off => simp only [lentToks, hk k (by simp [keyP])]
    | _ => rfl
  have e3 : poolOp o.op X.L (evK kn' X.φ) = poolOp o.op st.L (evK kn st.φ) := by
    unfold poolOp
    split
    · rename_i hop
      rw [he _ (by rw [hop]; simp [Op.operands])]
    · rename_i t x hop
      rw [poolL_congr (hn (pk t) (by rw [hop]; simp [newK]))]
    · rfl
  have e4 : bumpK o.op (evK kn' X.φ) = bumpK o.op (evK kn st.φ) := by
    unfold bumpK
    split
    · rename_i args ats hop
      split
      · rename_i x r hx
        rw [he x (by rw [hop]; simp [Op.operands, Call.operands]; rw [← Array.mem_toList_iff, hx]; simp)]
      · rfl
    · rfl
  unfold recU
  dsimp only
  rw [e1, e2, e3, e4]
theorem keyP_R {p : PV} {k : Nat} (h : k ∈ keyP p) : k ∈ keyR p := by cases p <;> first | exact h | cases h
theorem keysR_key {st : PSt} {kn : List (Nat × Bool)} {u : Upd} {x : Operand} {k : Nat} (hx : x ∈ o.op.operands) (hk : k ∈ keyP (evK kn st.φ x)) : k ∈ (recU o st kn u).keysR := by
  refine List.mem_append.2 (.inl (List.mem_append.2 (.inl ?_)))
  split
  · exact List.mem_flatMap.2 ⟨_, List.mem_map.2 ⟨x, by simpa using hx, rfl⟩, keyP_R hk⟩
  · exact List.mem_flatMap.2 ⟨_, List.mem_map.2 ⟨x, by simpa using hx, rfl⟩, hk⟩
theorem keysD_keyR {st : PSt} {kn : List (Nat × Bool)} {u : Upd} {x : Operand} {k : Nat} (hp : plainLd o.op u.val = true) (hx : x ∈ o.op.operands) (hk : k ∈ keyR (evK kn st.φ x)) : k ∈ (recU o st kn u).keysD := by
  show k ∈ (match plainLd o.op u.val with | true => (o.op.operands.toList.map (evK kn st.φ)).flatMap keyR | false => [])
  rw [hp]
  exact List.mem_flatMap.2 ⟨_, List.mem_map.2 ⟨x, by simpa using hx, rfl⟩, hk⟩
theorem keysR_keyR {st : PSt} {kn : List (Nat × Bool)} {u : Upd} {x : Operand} {k : Nat} (hr : readsP o.op = true) (hp : plainLd o.op u.val = false) (hx : x ∈ o.op.operands) (hk : k ∈ keyR (evK kn st.φ x)) : k ∈ (recU o st kn u).keysR := by
  refine List.mem_append.2 (.inl (List.mem_append.2 (.inl ?_)))
  rw [hr, hp]
  exact List.mem_flatMap.2 ⟨_, List.mem_map.2 ⟨x, by simpa using hx, rfl⟩, hk⟩
theorem plain_fv {st : PSt} {ev : Operand → PV} {u : Upd} {t : TypeId} {x : Operand} {T : Nat} {j : Int} {off : Nat} (hop : o.op = .load t x) (hx : ev x = .fp T j off) (hv : pvU E o st ev some = some u) (hp : isFvP u.val = false) :
    ∀ b v e l y, poolL st.L (pk T) = some (b, v, ⟨e, l⟩) → getI l j = some y → fvAt E o.dst b (osFind (osF e y 0) off) = none := by
  intro b v e l y h1 h2
  simp only [pvU, hop, hx] at hv
  split at hv
  · unfold loadP at hv
    rw [h1] at hv
    dsimp only at hv
    rw [h2, Option.bind_some] at hv
    split at hv
    · rename_i E' e' r hf
      split at hv
      · cases hv; cases hp
      · cases hv
    · rename_i hf; exact hf
  · cases hv
def SpIn (X : PSt) (g : Option Nat) (s : PSt) : Prop := ∀ t, hasN s.sp t = true → hasN X.sp t = true ∨ g = some t
theorem stepU_at {g : Option Nat} {st X : PSt} {kn kn' : List (Nat × Bool)} {rc : Rec} {s : PSt} (hA : Alike A st X kn kn') (hops : ∀ t, .tmp t ∈ o.op.operands → A t) (hk : ∀ x, o.dst = some x → knows kn' x = none) (hF : Foot o.dst rc st X) (hv : stepU E o kn st (fun rc s => some (rc, s)) = some (rc, s)) :
    ∃ s', stepU E o kn' X (fun rc s => some (rc, s)) = some (rc, s') ∧ Like s' (appR o.dst rc X) ∧ SpIn X g s' := by
  have hev : ∀ x ∈ o.op.operands, evK kn' X.φ x = evK kn st.φ x := fun x hx => hA.ev fun t e => hops t (e ▸ hx)
  have hfd := freeD_at (φ := X.φ) (L := X.L) (O := X.O) (fr := X.fr) fun x hx => ⟨hF.free x hx, hk x hx⟩
  unfold stepU at hv ⊢
  rw [hfd]
  split at hv
  case h_2 => cases hv
  dsimp only
  split at hv
  · rename_i c a b hop
    split at hv
    · rename_i p hp
      injection hv with hv
      obtain ⟨rfl, rfl⟩ := Prod.mk.inj hv
      have e : pickP kn' X.φ c a b = pickP kn st.φ c a b := by
        have hc := hev c (by simp [hop, Op.operands])
        unfold pickP
        split
        · rename_i t
          rw [hc]
          have e1 := (hA.cons t true).ev (x := a) fun t e => hops t (by simp [hop, Op.operands, e])
          have e2 := (hA.cons t false).ev (x := b) fun t e => hops t (by simp [hop, Op.operands, e])
          rw [e1, e2]
        · rfl
      rw [e, hp]
      exact ⟨_, rfl, ⟨rfl, rfl, putO_nil.symm, fun _ => rfl⟩, fun t h => .inl h⟩
    · cases hv
  · obtain ⟨u, h1, h2⟩ := pvU_nat hv
    split at h1
    · rename_i hok
      injection h1 with h1
      obtain ⟨rfl, rfl⟩ := Prod.mk.inj h1
      have hlk : ∀ x ∈ o.op.operands, ∀ k ∈ keyP (evK kn st.φ x), X.L k = st.L k := fun x hx k hk => hF.L k (.inl (keysR_key hx hk))
      have hnk : ∀ k ∈ newK o.op, X.L k = st.L k := fun k hk => hF.L k (.inl (List.mem_append.2 (.inr hk)))
      have hld : isLd o.op = false → plainLd o.op u.val = false := fun e => by unfold plainLd; rw [e]; rfl
      have hs : Sees (E := E) o ⟨st.φ, st.L, st.O, kn, st.sp, st.fr⟩ ⟨X.φ, X.L, X.O, kn', X.sp, X.fr⟩ (evK kn st.φ) (evK kn' X.φ) := by
        refine ⟨hev, hlk, hF.fr, fun hr x hx t ht => hF.O t ?_, hF.zero, fun hr hl x hx k hk => hF.L k (.inl (keysR_keyR hr (hld hl) hx hk)), hnk, fun hc k hk => hF.L k (.inr (.inr ⟨hc, hk⟩)), fun hp x hx t ht => hF.O t (by
          show t ∈ (recU o st kn u).toksR
          unfold recU
          dsimp only
          have hp' : poolOp o.op st.L (evK kn st.φ) = true := hp
          rw [hp', Bool.or_true]
          exact List.mem_append.2 (.inl (List.mem_flatMap.2 ⟨_, List.mem_map.2 ⟨x, by simpa using hx, rfl⟩, ht⟩))), fun t x T j off hop hx => ?_⟩
        rotate_left
        · have hxm : x ∈ o.op.operands := by rw [hop]; simp [Op.operands]
          have hkr : pk T ∈ keyR (evK kn st.φ x) := by rw [hx]; simp [keyR]
          cases hp : plainLd o.op u.val with
          | false => exact .inl (hF.L _ (.inl (keysR_keyR (by rw [hop]; rfl) hp hxm hkr)))
          | true =>
            refine .inr ⟨hF.D _ (keysD_keyR hp hxm hkr), plain_fv hop hx (h2 some) ?_⟩
            unfold plainLd at hp
            rw [hop] at hp
            simpa [isLd] using hp
        show t ∈ (recU o st kn u).toksR
        unfold recU
        rw [hr, Bool.true_or]
        have hm : evK kn st.φ x ∈ o.op.operands.toList.map (evK kn st.φ) := List.mem_map.2 ⟨x, by simpa using hx, rfl⟩
        rcases ht with ht | ht
        · exact List.mem_append.2 (.inl (List.mem_flatMap.2 ⟨_, hm, ht⟩))
        · exact List.mem_append.2 (.inr (List.mem_flatMap.2 ⟨_, hm, ht⟩))
      have hok' : okUpd ⟨X.φ, X.L, X.O, kn', X.sp, X.fr⟩ o.dst u = true := okUpd_at (X := ⟨X.φ, X.L, X.O, kn', X.sp, X.fr⟩) hok (fun k hk => hF.L k (.inl (List.mem_append.2 (.inl (List.mem_append.2 (.inr hk)))))) (fun p hp => hF.L p.1 (.inr (.inl (List.mem_map.2 ⟨p, hp, rfl⟩)))) hF.fr hF.ment
      rw [pvU_congr hs, h2, hok', recU_at hev hlk hnk]
      exact ⟨_, rfl, ⟨rfl, rfl, rfl, fun _ => rfl⟩, fun t h => .inl h⟩
    · cases h1
theorem skipU_at {g : Option Nat} {st X : PSt} {kn kn' : List (Nat × Bool)} {rc : Rec} {s : PSt} (hk : ∀ x, o.dst = some x → knows kn' x = none) (hF : ∀ x, o.dst = some x → hasN X.sp x = false) (hv : skipU o kn st (fun rc s => some (rc, s)) = some (rc, s)) :
    ∃ s', skipU o kn' X (fun rc s => some (rc, s)) = some (rc, s') ∧ Like s' (appR o.dst rc X) ∧ SpIn X g s' := by
  have hfd := freeD_at (φ := X.φ) (L := X.L) (O := X.O) (fr := X.fr) fun x hx => ⟨hF x hx, hk x hx⟩
  unfold skipU at hv ⊢
  rw [hfd]
  split at hv
  case h_2 => cases hv
  injection hv with hv
  obtain ⟨rfl, rfl⟩ := Prod.mk.inj hv
  exact ⟨_, rfl, ⟨rfl, rfl, putO_nil.symm, fun _ => rfl⟩, fun t h => .inl h⟩
theorem wayU_at {g : Option Nat} {want b : Bool} {st X : PSt} {kn kn' : List (Nat × Bool)} {rc : Rec} {s : PSt} (hA : Alike A st X kn kn') (hops : ∀ t, .tmp t ∈ o.op.operands → A t) (hk : ∀ x, o.dst = some x → knows kn' x = none) (hF : Foot o.dst rc st X) (hv : wayU E o want b kn st (fun rc s => some (rc, s)) = some (rc, s)) :
    ∃ s', wayU E o want b kn' X (fun rc s => some (rc, s)) = some (rc, s') ∧ Like s' (appR o.dst rc X) ∧ SpIn X g s' := by
  unfold wayU at hv ⊢
  split at hv
  · exact stepU_at hA hops hk hF hv
  · exact skipU_at hk hF.free hv
theorem totalO_at {ev ev' : Operand → PV} (h : ∀ x ∈ o.op.operands, ev' x = ev x) : totalO ev' o.op = totalO ev o.op := by
  obtain ⟨dst, op, type, pos, after, guard⟩ := o
  cases op with
  | binOp op ty x y uy =>
    have e := h x (by simp [Op.operands])
    simp only [totalO, e]
  | call c =>
    obtain ⟨callee, args, argTypes⟩ := c
    cases callee with
    | builtin b => cases b <;> rfl
    | _ => rfl
  | _ => rfl
theorem pvU_total {st X : PSt} {ev ev' : Operand → PV} (h : ∀ x ∈ o.op.operands, ev' x = ev x) (ht : totalO ev o.op = true) (C : Upd → Option R) : pvU E o X ev' C = pvU E o st ev C := by
  obtain ⟨dst, op, type, pos, after, guard⟩ := o
  cases op with
  | move x | assign x | field s x f | extract x i | unOp op ty x =>
    have e1 := h x (by simp [Op.operands])
    simp only [pvU, e1]
  | binOp op ty x i uy =>
    have e1 := h x (by simp [Op.operands])
    have e2 := h i (by simp [Op.operands])
    simp only [pvU, e1, e2]
  | call c =>
    obtain ⟨callee, args, argTypes⟩ := c
    cases callee with
    | builtin b =>
      cases b with
      | len =>
        simp only [pvU]
        unfold bltP
        split
        · rename_i x t ha _
          have hm : x ∈ args.toList := by rw [ha]; simp
          rw [h x (by simpa [Op.operands, Call.operands] using hm)]
        · rfl
        · rfl
      | _ => cases ht
    | _ => cases ht
  | _ => cases ht
theorem specU_at {st X : PSt} {kn kn' : List (Nat × Bool)} (hA : Alike A st X kn kn') (hops : ∀ t, .tmp t ∈ o.op.operands → A t) : specU E o kn' X = specU E o kn st := by
  have hev : ∀ x ∈ o.op.operands, evK kn' X.φ x = evK kn st.φ x := fun x hx => hA.ev fun t e => hops t (e ▸ hx)
  unfold specU
  rw [totalO_at hev]
  split
  · rename_i ht
    exact pvU_total hev ht _
  · rfl
theorem guardU_at {t : Nat} {want : Bool} {X : PSt} (hops : ∀ t, .tmp t ∈ o.op.operands → A t) (ht : A t) : ∀ {n : Nat} {kn kn' : List (Nat × Bool)} {st : PSt} {rc : Rec} {s : PSt}, Alike A st X kn kn' → (∀ x, o.dst = some x → knows kn' x = none ∧ ¬ A x) → Foot o.dst rc st X → guardU E o t want n kn st (fun rc s => some (rc, s)) = some (rc, s) →
    ∃ s', guardU E o t want n kn' X (fun rc s => some (rc, s)) = some (rc, s') ∧ Like s' (appR o.dst rc X) ∧ SpIn X (some t) s'
  | 0, _, _, _, _, _, _, _, _, hv => by cases hv
  | n + 1, kn, kn', st, rc, s, hA, hk, hF, hv => by
    have hx : ∀ x, o.dst = some x → knows kn' x = none := fun x hx => (hk x hx).1
    have hkc : ∀ (t' : Nat) (b' : Bool), A t' → ∀ x, o.dst = some x → knows ((t', b') :: kn') x = none ∧ ¬ A x := fun t' b' ht' x hx => by
      refine ⟨?_, (hk x hx).2⟩
      unfold knows
      split
      · rename_i e
        exact ((hk x hx).2 (Nat.eq_of_beq_eq_true e ▸ ht')).elim
      · exact (hk x hx).1
    have hev := hA.ev (x := .tmp t) fun t' e => by cases e; exact ht
    unfold guardU at hv ⊢
    rw [hev, hA.kn t ht, hA.φ t ht]
    split at hv
    · rename_i b hb
      split at hv
      · exact wayU_at hA hops hx hF hv
      · rename_i hkt
        dsimp only
        rw [specU_at (hA.cons t want) hops]
        split at hv
        · rename_i ag ls hs
          split at hv
          · rename_i hfk
            simp only [Bool.and_eq_true] at hfk
            injection hv with hv
            obtain ⟨rfl, rfl⟩ := Prod.mk.inj hv
            have hfr := freeD_free hfk.1
            have hne : ∀ x, o.dst = some x → hasN (t :: X.sp) x = false := fun x hx => by
              refine Bool.eq_false_iff.2 fun e => ?_
              rcases List.mem_cons.1 (hasN_iff.1 e) with rfl | e
              · exact (hk _ hx).2 ht
              · have := hF.free x hx
                rw [hasN_iff.2 e] at this
                cases this
            have hfd := freeD_at (φ := X.φ) (L := X.L) (O := X.O) (fr := X.fr) (kn := kn') (sp := t :: X.sp) fun x hx' => ⟨hne x hx', hx x hx'⟩
            have hkeep : keepUpd X o.dst (.w ag ls) = true := okUpd_at (st := st) hfk.2 (fun k hk => by cases hk) (fun p hp => by cases hp) hF.fr fun x hx => ⟨(hF.ment x hx).1, fun p hp => by cases hp⟩
            have hev2 : ∀ x ∈ o.op.operands, evK ((t, want) :: kn') X.φ x = evK ((t, want) :: kn) st.φ x := fun x hx => (hA.cons t want).ev fun t e => hops t (e ▸ hx)
            have hlk : ∀ x ∈ o.op.operands, ∀ k ∈ keyP (evK ((t, want) :: kn) st.φ x), X.L k = st.L k := fun x hx k hk => hF.L k (.inl (keysR_key hx hk))
            rw [hfd, hkeep]
            rw [recU_at hev2 hlk (fun k hk => hF.L k (.inl (List.mem_append.2 (.inr hk))))]
            refine ⟨_, rfl, ⟨rfl, rfl, putO_nil.symm, fun _ => rfl⟩, fun t' h => ?_⟩
            rcases List.mem_cons.1 (hasN_iff.1 h) with rfl | e
            · exact .inr rfl
            · exact .inl (hasN_iff.2 e)
          · cases hv
        · cases b with
          | true => exact wayU_at (hA.cons t true) hops (fun x hx => (hkc t true ht x hx).1) hF hv
          | false => exact wayU_at (hA.cons t false) hops (fun x hx => (hkc t false ht x hx).1) hF hv
    · exact skipU_at hx hF.free hv
    · split at hv
      · rename_i t1 w1 ag1 ls1 hs1
        have ht1 : A t1 := hA.cl t ht _ _ _ _ hs1
        have hev1 := hA.ev (x := .tmp t1) fun t' e => by cases e; exact ht1
        rw [hev1, hA.kn t1 ht1]
        split at hv
        · rename_i b1 hb1 hk1
          cases b1 with
          | true => exact guardU_at hops ht (hA.cons t1 true) (hkc t1 true ht1) hF hv
          | false => exact guardU_at hops ht (hA.cons t1 false) (hkc t1 false ht1) hF hv
        · cases hv
      · cases hv
    · cases hv
theorem pvStep_at {st X : PSt} {rc : Rec} {s : PSt} (hA : Alike A st X st.kn X.kn) (hl : ∀ t, t ∈ o.looksAt ops → A t) (hk : ∀ x, o.dst = some x → knows X.kn x = none ∧ ¬ A x) (hF : Foot o.dst rc st X) (hv : pvStep E ops o st (fun rc s => some (rc, s)) = some (rc, s)) :
    ∃ s', pvStep E ops o X (fun rc s => some (rc, s)) = some (rc, s') ∧ Like s' (appR o.dst rc X) ∧ SpIn X (gslot ops o) s' := by
  have hops : ∀ t, .tmp t ∈ o.op.operands → A t := fun t ht => hl t (List.mem_append.2 (.inl (List.mem_filterMap.2 ⟨.tmp t, by simpa using ht, rfl⟩)))
  unfold pvStep at hv ⊢
  unfold gslot
  split at hv
  · exact stepU_at hA hops (fun x hx => (hk x hx).1) hF hv
  · rename_i j want hg
    split at hv
    · cases hv
    · rename_i t ht
      simp only [hg, ht]
      refine guardU_at hops (hl t (List.mem_append.2 (.inr ?_))) hA hk hF hv
      rw [hg]
      simp [ht]
end
end Pv
end Go.Proofs.YtifbhefbhlbofaaGreatDoor
