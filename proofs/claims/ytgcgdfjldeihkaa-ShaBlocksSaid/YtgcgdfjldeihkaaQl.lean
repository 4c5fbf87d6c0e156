/- What a function of the library (or one walked by hand) computes, laid into a contract of the pure evaluation. -/
import Derived.Test.YtgcgdfjldeihkaaQc
namespace Go.Proofs.Ytgcgdfjldeihkaa
open Go.RowKit
namespace Pv
set_option linter.unusedVariables false
theorem appF_bot {α : Type} : ∀ (ts : List Ty) (xs : List Dat), appF ts (botF (α := α) ts) xs = none
  | [], [] => rfl
  | [], _ :: _ => rfl
  | _ :: _, [] => rfl
  | t :: ts, x :: xs => by
    show (match castD t x.2 with | some a => appF ts (botF ts) xs | none => none) = none
    cases castD t x.2 with
    | none => rfl
    | some a => exact appF_bot ts xs
def Par.isv : Par → Bool
  | .v _ _ => true
  | .m _ => false
def exitO (s : Sig) : Tok → Bool := fun t => hasT (.zero :: labs (Tok.hd 0) s.outs 0) t
theorem isM_v : ∀ {ps : List Par} (i : Nat), ps.all Par.isv = true → isM ps i = false
  | [], _, _ => rfl
  | .v _ _ :: _, 0, _ => rfl
  | .v _ _ :: ps, i + 1, h => isM_v (ps := ps) i (by simpa [Par.isv] using h)
  | .m _ :: _, _, h => by simp [Par.isv] at h
theorem inoutAt_v : ∀ {ps : List Par} {ls : List Leaf} (i : Nat), ps.all Par.isv = true → inoutAt ps ls i = none
  | [], _, _, _ => rfl
  | .v _ _ :: _, _, 0, _ => rfl
  | .v _ _ :: ps, ls, i + 1, h => inoutAt_v (ps := ps) i (by simpa [Par.isv] using h)
  | .m _ :: _, _, _, h => by simp [Par.isv] at h
theorem resAt_w : ∀ {rs : List (Bool × List LT)} {ls : List Leaf} (i : Nat), (∃ ag os, resAt rs ls i = .w ag os) ∨ resAt rs ls i = .dead
  | [], _, _ => .inr rfl
  | (_, _) :: _, _, 0 => .inl ⟨_, _, rfl⟩
  | (_, _) :: rs, ls, i + 1 => resAt_w (rs := rs) i
theorem sound_of {P : Program} {T : Tab} {f : FuncId} {s : Sig} {fn : s.Fn} (hp : s.ps.all Par.isv = true)
    (H : ∀ (F : Fr) (g : Gh) (O : Tok → Bool) (xs : List Dat) (ls : List Leaf) (y : s.out.D) (tmf : Nat → Value) (w : World) (args : Array Value), (∀ p ∈ T, ∃ ty fr, w.heap[p.1]? = some (.cells p.2 ty fr)) → F.w0 = w → (∀ b o, g.C b o → b < w.heap.size) → mkLs (Tok.hd 0) (parsT s.ps) 0 xs = some ls → appF ((parsT s.ps).map LT.ty) fn.f xs = some y → args.size = s.ps.length →
      (∀ i, RelP F g w O tmf (args.getD i undef) (parP s.ps ls i)) → Calls P f args w fun e w' => ∃ us os C' blk', e = .returned (retV us) ∧ us.length = s.rs.length ∧ mkLs (Tok.hd 0) s.outs 0 (unpackD (s.outs.map LT.ty) y) = some os ∧ Below w.heap.size w w' ∧
        (∀ b o, b < w.heap.size → (C' b o ↔ g.C b o)) ∧ (∀ b o, C' b o → b < w'.heap.size) ∧ blk' .zero = none ∧ (∀ k b, blk' k = some b → w.heap.size ≤ b ∧ b < w'.heap.size) ∧ (∀ k k' b, blk' k = some b → blk' k' = some b → k = k') ∧
        ∀ i, i < s.rs.length → RelP F ⟨C', blk', g.ρ, fun _ _ => []⟩ w' (exitO s) tmf (us.getD i undef) (resAt s.rs os i)) : SoundFn P T f s fn := by
  intro F g st xs y tmf w args hT hent happ hrel hw hn hsz htm
  unfold entrySt at hent
  split at hent
  case h_1 => cases hent
  rename_i ls hls
  injection hent with hent
  have hφ : ∀ i, st.φ i = parP s.ps ls i := fun i => by
    rw [← hent]
    show (match isM s.ps i with | true => PV.loc i 0 | false => parP s.ps ls i) = _
    rw [isM_v i hp]
  refine (H F g st.O xs ls y tmf w args (fun p hp => (tab_now hT hrel.fr p hp).1) hw hrel.fr.lim hls happ hsz fun i => ?_).mono ?_
  · have := hrel.slots i
    rw [hφ, htm] at this
    exact this
  · rintro e w' ⟨us, os, C', blk', he, hus, hos, hbel, hC, hlim, hb0, hbk, hbi, hres⟩
    refine ⟨us, ⟨C', blk', g.ρ, fun _ _ => []⟩, ⟨resAt s.rs os, fun _ => none, exitO s, [], [], []⟩, he, hus, ?_, ?_, fun k hk => absurd ((isM_v k hp).symm.trans hk) (by decide)⟩
    · unfold exitSt
      rw [hos]
      show some (PSt.mk (resAt s.rs os) (fun k => match inoutAt s.ps (os.drop s.nres) k with | some l => some ((0 : Nat), l) | none => none) (exitO s) [] [] []) = some (PSt.mk (resAt s.rs os) (fun _ => none) (exitO s) [] [] [])
      congr 2
      funext k
      rw [inoutAt_v k hp]
    · have hfr := hrel.fr
      have h00 : F.w0.heap.size ≤ w.heap.size := hfr.size
      refine ⟨?_, fun i => ?_, fun k σ ls hl => (by cases hl), fun k σ ls hl => (by cases hl), fun t b hk => (by cases hk), fun i t want ag ls hs => ?_, fun d hd => (by cases hd), fun i k hk => ?_, hb0, fun k k' b _ _ h1 h2 => hbi k k' b h1 h2, fun k b j x _ _ hj => (nomatch hj), fun k b _ h => (hbk k b h).2, fun k b _ h => .inl (Nat.le_trans h00 (hbk k b h).1), fun j j' x x' hj => (nomatch hj)⟩
      · have hf2 := hfr.below hbel
        refine ⟨hf2.size, hf2.os, hf2.tape, hf2.output, hf2.old, hf2.shape, fun b o hb hx => ?_, fun b o h => ?_, hlim⟩
        · exact (hC b o (Nat.lt_of_lt_of_le hb h00)).trans (hfr.com b o hb hx)
        · have hgc := hfr.mono b o h
          exact (hC b o (hfr.lim b o hgc)).2 hgc
      · show RelP F ⟨C', blk', g.ρ, fun _ _ => []⟩ w' (exitO s) (fun i => us.getD i undef) (us.getD i undef) (resAt s.rs os i)
        rcases Nat.lt_or_ge i s.rs.length with hi | hi
        · have h := hres i hi
          rcases resAt_w (rs := s.rs) (ls := os) i with ⟨ag, os', e⟩ | e
          · rw [e] at h ⊢; exact h
          · rw [e]; trivial
        · rw [resAt_out hi]; trivial
      · have hs : resAt s.rs os i = .spec t want ag ls := hs
        rcases resAt_w (rs := s.rs) (ls := os) i with ⟨ag, os', e⟩ | e
        · rw [e] at hs; cases hs
        · rw [e] at hs; cases hs
      · have hk : k ∈ keyP (resAt s.rs os i) := hk
        rcases resAt_w (rs := s.rs) (ls := os) i with ⟨ag, os', e⟩ | e
        · rw [e] at hk; cases hk
        · rw [e] at hk; cases hk
/-- Leaves without rows of one's own do not hang on the frame. -/
theorem repLs_to {F F' : Fr} {g g' : Gh} {w : World} {O O' : Tok → Bool} (hC : g'.C = g.C) : ∀ {ls : List Leaf} {cs : List Value}, ls.all isD = true → RepLs F g w O ls cs → RepLs F' g' w O' ls cs
  | [], _, _, h => h
  | .d t x :: ls, cs, hd, h => by
    obtain ⟨c1, c2, e, h1, h2⟩ := h
    refine ⟨c1, c2, e, ?_, repLs_to hC (by simpa [isD] using hd) h2⟩
    show RepD w g'.C t x c1
    rw [hC]
    exact h1
  | .own _ _ _ _ :: _, _, hd, _ => by simp [isD] at hd
theorem mkLs_d {lab : Nat → Tok} : ∀ {ts : List LT} {j : Nat} {xs : List Dat} {ls : List Leaf}, ts.all (fun t => match t with | .d _ => true | _ => false) = true → mkLs lab ts j xs = some ls → ls.all isD = true
  | [], _, [], ls, _, h => by injection h with h; subst h; rfl
  | [], _, _ :: _, _, _, h => by cases h
  | .d t :: ts, j, [], ls, _, h => by cases h
  | .d t :: ts, j, x :: xs, ls, hd, h => by
    unfold mkLs at h
    split at h
    case h_2 => cases h
    rename_i a r h1 h2
    injection h with h
    subst h
    have := mkLs_d (ts := ts) (by simpa using hd) h2
    simpa [isD] using this
  | .own _ _ :: _, _, _, _, hd, _ => by simp at hd
/-- Results of plain data alone, in which no new cells are. -/
theorem sound_d {P : Program} {T : Tab} {f : FuncId} {s : Sig} {fn : s.Fn} (hp : s.ps.all Par.isv = true)
    (H : ∀ (F : Fr) (g : Gh) (O : Tok → Bool) (xs : List Dat) (ls : List Leaf) (y : s.out.D) (tmf : Nat → Value) (w : World) (args : Array Value), (∀ p ∈ T, ∃ ty fr, w.heap[p.1]? = some (.cells p.2 ty fr)) → mkLs (Tok.hd 0) (parsT s.ps) 0 xs = some ls → appF ((parsT s.ps).map LT.ty) fn.f xs = some y → args.size = s.ps.length →
      (∀ i, RelP F g w O tmf (args.getD i undef) (parP s.ps ls i)) → Calls P f args w fun e w' => ∃ us os, e = .returned (retV us) ∧ us.length = s.rs.length ∧ mkLs (Tok.hd 0) s.outs 0 (unpackD (s.outs.map LT.ty) y) = some os ∧ Below w.heap.size w w' ∧
        ∀ i, i < s.rs.length → RelP F ⟨g.C, fun _ => none, g.ρ, fun _ _ => []⟩ w' (exitO s) tmf (us.getD i undef) (resAt s.rs os i)) : SoundFn P T f s fn := by
  refine sound_of hp fun F g O xs ls y tmf w args hT hw hlim hls happ hsz hr => (H F g O xs ls y tmf w args hT hls happ hsz hr).mono ?_
  rintro e w' ⟨us, os, he, hus, hos, hbel, hres⟩
  exact ⟨us, os, g.C, fun _ => none, he, hus, hos, hbel, fun _ _ _ => Iff.rfl, fun b o h => Nat.lt_of_lt_of_le (hlim b o h) hbel.size, rfl, fun k b h => (by cases h), fun k k' b h => (by cases h), hres⟩
/-- A result that is a new row of one's own. -/
theorem own_out {F : Fr} {g : Gh} {w w' : World} {s : Sig} {tmf : Nat → Value} {E : TypeId} {e : Ty} {l : List e.D} {b cap : Nat} {cur : Array Value} {y : s.out.D} (hw : F.w0 = w) (hlim : ∀ b o, g.C b o → b < w.heap.size) (hbel : Below w.heap.size w w') (hb : w.heap.size ≤ b)
    (hcell : w'.heap[b]? = some (.cells cur E (0, 0))) (hl : l.length ≤ cap) (hc : cap ≤ maxLen) (hsz : cur.size = cap * e.size) (hel : ∀ (i : Nat) (x : e.D), l[i]? = some x → RepD w' (fun b' o => g.C b' o ∨ (b' = b ∧ o < l.length * e.size)) e x ((cur.toList.drop (i * e.size)).take e.size))
    (hrs : s.rs = [(false, [.own E e])]) (hmk : mkLs (Tok.hd 0) s.outs 0 (unpackD (s.outs.map LT.ty) y) = some [.own (.hd 0 0) E e l]) :
    ∃ us os C' blk', Ending.returned (.slice (some ⟨b, 0, none⟩) l.length cap) = .returned (retV us) ∧ us.length = s.rs.length ∧ mkLs (Tok.hd 0) s.outs 0 (unpackD (s.outs.map LT.ty) y) = some os ∧ Below w.heap.size w w' ∧
      (∀ b o, b < w.heap.size → (C' b o ↔ g.C b o)) ∧ (∀ b o, C' b o → b < w'.heap.size) ∧ blk' .zero = none ∧ (∀ k b, blk' k = some b → w.heap.size ≤ b ∧ b < w'.heap.size) ∧ (∀ k k' b, blk' k = some b → blk' k' = some b → k = k') ∧
      ∀ i, i < s.rs.length → RelP F ⟨C', blk', g.ρ, fun _ _ => []⟩ w' (exitO s) tmf (us.getD i undef) (resAt s.rs os i) := by
  have hblt : b < w'.heap.size := (Array.getElem?_eq_some_iff.1 hcell).1
  have hk0 : ∀ k b', (match tokEq k (.hd 0 0) with | true => some b | false => none) = some b' → k = .hd 0 0 ∧ b' = b := fun k b' hk => by
    cases hq : tokEq k (.hd 0 0) with
    | false => rw [hq] at hk; cases hk
    | true =>
      rw [hq] at hk
      injection hk with hk
      refine ⟨?_, hk.symm⟩
      cases k with
      | hd d j =>
        have : (Nat.beq d 0 && Nat.beq j 0) = true := hq
        simp only [Bool.and_eq_true] at this
        rw [Nat.eq_of_beq_eq_true this.1, Nat.eq_of_beq_eq_true this.2]
      | zero => cases hq
      | op _ _ => cases hq
  refine ⟨[.slice (some ⟨b, 0, none⟩) l.length cap], [.own (.hd 0 0) E e l], fun b' o => g.C b' o ∨ (b' = b ∧ o < l.length * e.size), fun k => match tokEq k (.hd 0 0) with | true => some b | false => none, rfl, by rw [hrs]; rfl, hmk, hbel, fun b' o hb' => ⟨fun h => h.elim id fun h => absurd h.1 (by omega), .inl⟩, fun b' o h => ?_, rfl, fun k b' hk => ?_, fun k k' b' hk hk' => ?_, fun i hi => ?_⟩
  · rcases h with h | h
    · exact Nat.lt_of_lt_of_le (hlim b' o h) hbel.size
    · rw [h.1]; exact hblt
  · obtain ⟨_, rfl⟩ := hk0 k b' hk
    exact ⟨hb, hblt⟩
  · rw [(hk0 k b' hk).1, (hk0 k' b' hk').1]
  · rw [hrs] at hi ⊢
    match i, hi with
    | 0, _ =>
      have hrepd : RepD w' (fun b' o => g.C b' o ∨ (b' = b ∧ o < l.length * e.size)) (.sl e) l [.slice (some ⟨b, 0, none⟩) l.length cap] := by
        refine ⟨_, _, _, rfl, rfl, hl, hc, fun i x hx => ?_⟩
        have hx : l[i]? = some x := hx
        have hi : i < l.length := (List.getElem?_eq_some_iff.1 hx).1
        have hr := hel i x hx
        refine ⟨_, _, rfl, RepD.len hr, fun j u hj => ?_, hr⟩
        have hjl : j < e.size := by
          have h1 := (List.getElem?_eq_some_iff.1 hj).1
          have h2 := RepD.len hr
          omega
        rw [List.getElem?_take, if_pos hjl, List.getElem?_drop] at hj
        rw [add_at]
        refine ⟨?_, .inr ⟨rfl, ?_⟩⟩
        · rw [cell_at hcell, ← Array.getElem?_toList, Nat.zero_add]; exact hj
        · show 0 + (i * e.size + j) < _
          have h1 : (i + 1) * e.size ≤ l.length * e.size := Nat.mul_le_mul_right _ hi
          rw [Nat.add_mul, Nat.one_mul] at h1
          omega
      refine ⟨[.slice (some ⟨b, 0, none⟩) l.length cap], ⟨_, [], rfl, ⟨hrepd, fun _ => ⟨_, rfl, .inr ⟨b, cap, cur, rfl, rfl, hcell, hl, hc, hsz, hel, ?_, ?_⟩⟩⟩, rfl⟩, rfl⟩
      · intro o
        show (g.C b o ∨ (b = b ∧ o < l.length * e.size)) ↔ o < l.length * e.size
        constructor
        · rintro (h | h)
          · have := hlim _ _ h; omega
          · exact h.2
        · intro h; exact .inr ⟨rfl, h⟩
      · intro o _
        exact .inl (by rw [hw]; exact hb)
/-- A result that is an empty row, without a block. -/
theorem own_nil {F : Fr} {g : Gh} {w w' : World} {s : Sig} {tmf : Nat → Value} {E : TypeId} {e : Ty} {a : Option Addr} {y : s.out.D} (hlim : ∀ b o, g.C b o → b < w.heap.size) (hbel : Below w.heap.size w w')
    (hrs : s.rs = [(false, [.own E e])]) (hmk : mkLs (Tok.hd 0) s.outs 0 (unpackD (s.outs.map LT.ty) y) = some [.own (.hd 0 0) E e ([] : List e.D)]) :
    ∃ us os C' blk', Ending.returned (.slice a 0 0) = .returned (retV us) ∧ us.length = s.rs.length ∧ mkLs (Tok.hd 0) s.outs 0 (unpackD (s.outs.map LT.ty) y) = some os ∧ Below w.heap.size w w' ∧
      (∀ b o, b < w.heap.size → (C' b o ↔ g.C b o)) ∧ (∀ b o, C' b o → b < w'.heap.size) ∧ blk' .zero = none ∧ (∀ k b, blk' k = some b → w.heap.size ≤ b ∧ b < w'.heap.size) ∧ (∀ k k' b, blk' k = some b → blk' k' = some b → k = k') ∧
      ∀ i, i < s.rs.length → RelP F ⟨C', blk', g.ρ, fun _ _ => []⟩ w' (exitO s) tmf (us.getD i undef) (resAt s.rs os i) := by
  refine ⟨[.slice a 0 0], [.own (.hd 0 0) E e ([] : List e.D)], g.C, fun _ => none, rfl, by rw [hrs]; rfl, hmk, hbel, fun _ _ _ => Iff.rfl, fun b o h => Nat.lt_of_lt_of_le (hlim b o h) hbel.size, rfl, fun k b h => (by cases h), fun k k' b h => (by cases h), fun i hi => ?_⟩
  rw [hrs] at hi ⊢
  match i, hi with
  | 0, _ =>
    refine ⟨[.slice a 0 0], ⟨_, [], rfl, ⟨⟨a, 0, 0, rfl, rfl, Nat.le_refl _, by unfold maxLen; omega, fun i x hx => by simp [gt] at hx⟩, fun _ => ⟨_, rfl, .inl ⟨a, rfl, rfl, rfl⟩⟩⟩, rfl⟩, rfl⟩
/-- A string's numbers are bytes. -/
theorem str_of {W : World} {C : Com} {y : Ty.str.D} {cs : List Value} (h : RepD W C .str y cs) : ∀ x ∈ (show List Int from y), 0 ≤ x ∧ x < 256 := fun x hx => by
  obtain ⟨s, _, hs, _⟩ := h
  have hx : x ∈ bytesL s := by rw [hs]; exact hx
  obtain ⟨b, _, rfl⟩ := List.mem_map.1 hx
  unfold byteI
  have := b.toNat_lt
  omega
end Pv
end Go.Proofs.Ytgcgdfjldeihkaa
