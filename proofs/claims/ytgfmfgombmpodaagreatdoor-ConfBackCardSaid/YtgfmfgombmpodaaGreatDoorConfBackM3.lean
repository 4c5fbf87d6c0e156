/- Texts of this claim, one behind the other. -/
import Derived.Test.YtgfmfgombmpodaaGreatDoorConfBackM2
import Derived.Deep.LoopGhost
import Derived.Below
import Derived.WideShapes
import Derived.ChangeShapes
import Derived.ChangeAt
import Derived.RowKit
import Derived.Deep.Slices
import Derived.WalkKit
import Derived.ProofKit
import Derived.ShutString
import Derived.Lib.LaidTab
import Derived.LaidSub
import Derived.MakeChecks
import Derived.Sort.Grow
import Derived.Deep.Draws
import Derived.OwnWalk
import Derived.KernelRfl
import Derived.Test.YtgfmfgombmpodaaGreatDoorProg
import Derived.Shelf.Strings.Builder1
import Derived.Shelf.Strings.Builder2
import Derived.Shelf.Strings.OnBuilder
import Derived.Shelf.Small.Wraps
import Derived.Shelf.Strings.BuilderF
import Derived.Shelf.Strings.BuilderK
import Derived.Shelf.Strings.Builder2Cap
import Derived.Shelf.Strconv.Atoi
import Derived.Shelf.Strconv.Itoa0
import Derived.Shelf.Strconv.Itoa1
import Derived.Shelf.LaysM
import Derived.Shelf.Strconv.Itoa2
import Derived.Shelf.Strconv.Itoa3
import Derived.Shelf.Strconv.AtoiErrFast
import Derived.Shelf.Strconv.ParseIntEmpty
import Derived.Shelf.Strconv.AtoiFail
import Derived.Shelf.Strconv.Clone
import Derived.Shelf.Strconv.SyntaxError
import Derived.Shelf.LaysC
import Derived.Shelf.Strconv.ToError
import Derived.Shelf.Strconv.Lower
import Derived.Shelf.Strconv.ParseUint10
import Derived.Shelf.Strconv.ParseUint10Empty
import Derived.Shelf.Strconv.ParseUint10Any
import Derived.Shelf.Strconv.ParseInt10
import Derived.Shelf.Strconv.AtoiLong
import Derived.Shelf.Strconv.AtoiInnerAll
import Derived.Shelf.Strconv.RangeError
import Derived.Shelf.Strconv.ToErrorRange
import Derived.Shelf.Strconv.AtoiAll
import Derived.Shelf.Strings.Search1
import Derived.Shelf.Strings.Search2
import Derived.Shelf.Strings.Search3
import Derived.Shelf.Strings.Cut
import Derived.Shelf.Strings.Count
import Derived.Shelf.Strings.Shaped
import Derived.Shelf.GgClosure.StringsIndexFunc
import Derived.Shelf.GgClosure.StringsIndexFuncTop
import Derived.Shelf.Strings.Prefix
import Derived.Shelf.Strings.Split
import Derived.Shelf.Strings.SplitShaped
import Derived.Shelf.Bits.Mul64
import Derived.Shelf.Unicode.DecodeSlow
import Derived.Shelf.Unicode.DecodeAny
import Derived.Shelf.Strings.FuncGrows
import Derived.Shelf.Strings.BuilderCap
import Derived.Shelf.Bytes.SlSearch0
import Derived.Shelf.Bytes.SlClone
import Derived.Shelf.Bytes.SlEqualAll
import Derived.Shelf.Bytes.Small
import Derived.Lib.SplitLaws
import Derived.Lib.AtoiAllCases
import Derived.HandedShaped
import Derived.LaidLaws
import Derived.Shelf.Vars
import Derived.Handed
import Derived.LoopTactic
import Derived.Handy
import Derived.RegionTactic
import Derived.Carry
import Derived.MapKept
import Derived.Maps.AppendAt
import Derived.Lib.ItoaLen
set_option maxRecDepth 100000
namespace Go.Proofs.YtgfmfgombmpodaaGreatDoor
namespace Pv
set_option linter.unusedVariables false
section
variable {E : Env} {R : Type} {r : R} {ops : Array Oper} {o : Oper} {A : Nat -> Prop}
structure Foot (d : Option Nat) (rc : Rec) (st X : PSt) : Prop where
 L : ∀ k, k ∈ rc.keysR \/ k ∈ rc.keysW -> X.L k = st.L k
 O : ∀ t ∈ rc.toksR, X.O t = st.O t
 zero : X.O .zero = st.O .zero
 fr : ∀ x, d = some x -> hasN X.fr x = hasN st.fr x
 free : ∀ x, d = some x -> hasN X.sp x = false
 ment : ∀ x ∈ outN d X.fr, mentP x rc.val = false /\ ∀ p ∈ rc.loc, mentLs x p.2 = false
structure Alike (A : Nat -> Prop) (st X : PSt) (kn kn' : List (Nat × Bool)) : Prop where
 φ : ∀ t, A t -> X.φ t = st.φ t
 kn : ∀ t, A t -> knows kn' t = knows kn t
 cl : ∀ t, A t -> ∀ j w ag ls, st.φ t = .spec j w ag ls -> A j
theorem Alike.cons {st X : PSt} {kn kn' : List (Nat × Bool)} (h : Alike A st X kn kn') (t : Nat) (b : Bool) : Alike A st X ((t, b) :: kn) ((t, b) :: kn') :=
 ⟨h.φ, fun x hx => by
  unfold knows
  split
  ·rfl
  ·exact h.kn x hx, h.cl⟩
theorem Alike.ev {st X : PSt} {kn kn' : List (Nat × Bool)} (h : Alike A st X kn kn') {x : Operand} (hx : ∀ t, x = .tmp t -> A t) : evK kn' X.φ x = evK kn st.φ x := by
 unfold evK
 have e : evS X.φ x = evS st.φ x := by
  cases x with
  | tmp t => exact h.φ t (hx t rfl)
  | _ => rfl
 rw [e]
 have hb : ∀ p, knB kn' x p = knB kn x p := fun p => knB_congr fun t e => h.kn t (hx t e)
 split
 ·rename_i j want ag ls hs
  have hj : A j := by
   cases x with
   | tmp t => exact h.cl t (hx t rfl) j want ag ls hs
   | const c =>
    exfalso
    have hs' : constPV c = .spec j want ag ls := hs
    unfold constPV at hs'
    repeat' split at hs'
    all_goals cases hs'
   | _ => cases hs
  rw [h.kn j hj, hb]
 ·exact hb _
theorem putL_congr {L L' : Nat -> Option (Nat × List Leaf)} {k : Nat} (h : L' k = L k) : ∀ (l : List (Nat × List Leaf)), putL L' l k = putL L l k
 | [] => h
 | (j, ls) :: r => by
  unfold putL
  split
  ·rfl
  ·exact putL_congr h r
theorem okUpd_at {st X : PSt} {d : Option Nat} {u : Upd} (h : okUpd st d u = true) (h1 : ∀ k ∈ keyP u.val, X.L k = st.L k) (h2 : ∀ p ∈ u.loc, X.L p.1 = st.L p.1) (h3 : ∀ x, d = some x -> hasN X.fr x = hasN st.fr x) (h4 : ∀ x ∈ outN d X.fr, mentP x u.val = false /\ ∀ p ∈ u.loc, mentLs x p.2 = false) : okUpd X d u = true := by
 simp only [okUpd, Bool.and_eq_true, List.all_eq_true, Bool.not_eq_true'] at h ⊢
 obtain ⟨⟨⟨⟨_, g2⟩, g3⟩, g4⟩, g5⟩ := h
 refine ⟨⟨⟨⟨h4, fun t ht => ?_⟩, g3⟩, fun k hk => ?_⟩, fun p hp => ?_⟩
 ·have := g2 t ht
  split
  ·rename_i d' j x
   dsimp only at this
   rw [h3 _ rfl]; exact this
  ·rename_i hn
   split at this
   ·exact (hn _ _ _ rfl rfl).elim
   ·cases this
 ·have := g4 k hk
  rw [putL_congr (h1 k hk)]; exact this
 ·have := g5 p hp
  rw [h2 p hp]
  split
  ·rfl
  ·rename_i hn
   rw [hn] at this
   dsimp only at this
   cases d with
   | none => cases this
   | some x => dsimp only at this ⊢; rw [h3 x rfl]; exact this
theorem freeD_at {φ : Nat -> PV} {L : Nat -> Option (Nat × List Leaf)} {O : Tok -> Bool} {kn : List (Nat × Bool)} {sp fr : List Nat} {d : Option Nat} (h : ∀ x, d = some x -> hasN sp x = false /\ knows kn x = none) : freeD ⟨φ, L, O, kn, sp, fr⟩ d = true := by
 cases d with
 | none => rfl
 | some x => simp [freeD, (h x rfl).1, (h x rfl).2]
theorem flatMap_same {α β : Type} {f g : α -> List β} : ∀ (l : List α), (∀ x ∈ l, f x = g x) -> l.flatMap f = l.flatMap g
 | [], _ => rfl
 | x :: r, h => by rw [List.flatMap_cons, List.flatMap_cons, h x (by simp), flatMap_same r fun y hy => h y (by simp [hy])]
theorem recU_at {st X : PSt} {kn kn' : List (Nat × Bool)} {u : Upd} (he : ∀ x ∈ o.op.operands, evK kn' X.φ x = evK kn st.φ x) (hl : ∀ x ∈ o.op.operands, ∀ k ∈ keyP (evK kn st.φ x), X.L k = st.L k) : recU o X kn' u = recU o st kn u := by
 have e1 : o.op.operands.toList.map (evK kn' X.φ) = o.op.operands.toList.map (evK kn st.φ) := List.map_congr_left fun x hx => he x (by simpa using hx)
 have e2 : (o.op.operands.toList.map (evK kn st.φ)).flatMap (lentToks X.L) = (o.op.operands.toList.map (evK kn st.φ)).flatMap (lentToks st.L) := by
  rw [List.flatMap_map, List.flatMap_map]
  refine flatMap_same _ fun x hx => ?_
  have hk := hl x (by simpa using hx)
  generalize evK kn st.φ x = p at hk
  cases p with
  | loc k off => simp only [lentToks, hk k (by simp [keyP])]
  | _ => rfl
 unfold recU
 dsimp only
 rw [e1, e2]
def SpIn (X : PSt) (g : Option Nat) (s : PSt) : Prop := ∀ t, hasN s.sp t = true -> hasN X.sp t = true \/ g = some t
theorem stepU_at {g : Option Nat} {st X : PSt} {kn kn' : List (Nat × Bool)} {rc : Rec} {s : PSt} (hA : Alike A st X kn kn') (hops : ∀ t, .tmp t ∈ o.op.operands -> A t) (hk : ∀ x, o.dst = some x -> knows kn' x = none) (hF : Foot o.dst rc st X) (hv : stepU E o kn st (fun rc s => some (rc, s)) = some (rc, s)) :
  ∃ s', stepU E o kn' X (fun rc s => some (rc, s)) = some (rc, s') /\ Like s' (appR o.dst rc X) /\ SpIn X g s' := by
 have hev : ∀ x ∈ o.op.operands, evK kn' X.φ x = evK kn st.φ x := fun x hx => hA.ev fun t e => hops t (e ▸ hx)
 have hfd := freeD_at (φ := X.φ) (L := X.L) (O := X.O) (fr := X.fr) fun x hx => ⟨hF.free x hx, hk x hx⟩
 unfold stepU at hv ⊢
 rw [hfd]
 split at hv
 case h_2 => cases hv
 dsimp only
 split at hv
 ·rename_i c a b hop
  split at hv
  ·rename_i p hp
   injection hv with hv
   obtain ⟨rfl, rfl⟩ := Prod.mk.inj hv
   have e : pickP kn' X.φ c a b = pickP kn st.φ c a b := by
    have hc := hev c (by simp [hop, Op.operands])
    unfold pickP
    split
    ·rename_i t
     rw [hc]
     have e1 := (hA.cons t true).ev (x := a) fun t e => hops t (by simp [hop, Op.operands, e])
     have e2 := (hA.cons t false).ev (x := b) fun t e => hops t (by simp [hop, Op.operands, e])
     rw [e1, e2]
    ·rfl
   rw [e, hp]
   exact ⟨_, rfl, ⟨rfl, rfl, putO_nil.symm, fun _ => rfl⟩, fun t h => .inl h⟩
  ·cases hv
 ·obtain ⟨u, h1, h2⟩ := pvU_nat hv
  split at h1
  ·rename_i hok
   injection h1 with h1
   obtain ⟨rfl, rfl⟩ := Prod.mk.inj h1
   have hlk : ∀ x ∈ o.op.operands, ∀ k ∈ keyP (evK kn st.φ x), X.L k = st.L k := fun x hx k hk => hF.L k (.inl (List.mem_append.2 (.inl (List.mem_flatMap.2 ⟨_, List.mem_map.2 ⟨x, by simpa using hx, rfl⟩, hk⟩))))
   have hs : Sees o ⟨st.φ, st.L, st.O, kn, st.sp, st.fr⟩ ⟨X.φ, X.L, X.O, kn', X.sp, X.fr⟩ (evK kn st.φ) (evK kn' X.φ) := by
    refine ⟨hev, hlk, hF.fr, fun hr x hx t ht => hF.O t ?_, hF.zero⟩
    show t ∈ (recU o st kn u).toksR
    unfold recU
    rw [hr]
    have hm : evK kn st.φ x ∈ o.op.operands.toList.map (evK kn st.φ) := List.mem_map.2 ⟨x, by simpa using hx, rfl⟩
    rcases ht with ht | ht
    ·exact List.mem_append.2 (.inl (List.mem_flatMap.2 ⟨_, hm, ht⟩))
    ·exact List.mem_append.2 (.inr (List.mem_flatMap.2 ⟨_, hm, ht⟩))
   have hok' : okUpd ⟨X.φ, X.L, X.O, kn', X.sp, X.fr⟩ o.dst u = true := okUpd_at (X := ⟨X.φ, X.L, X.O, kn', X.sp, X.fr⟩) hok (fun k hk => hF.L k (.inl (List.mem_append.2 (.inr hk)))) (fun p hp => hF.L p.1 (.inr (List.mem_map.2 ⟨p, hp, rfl⟩))) hF.fr hF.ment
   rw [pvU_congr hs, h2, hok', recU_at hev hlk]
   exact ⟨_, rfl, ⟨rfl, rfl, rfl, fun _ => rfl⟩, fun t h => .inl h⟩
  ·cases h1
theorem skipU_at {g : Option Nat} {st X : PSt} {kn kn' : List (Nat × Bool)} {rc : Rec} {s : PSt} (hk : ∀ x, o.dst = some x -> knows kn' x = none) (hF : ∀ x, o.dst = some x -> hasN X.sp x = false) (hv : skipU o kn st (fun rc s => some (rc, s)) = some (rc, s)) :
  ∃ s', skipU o kn' X (fun rc s => some (rc, s)) = some (rc, s') /\ Like s' (appR o.dst rc X) /\ SpIn X g s' := by
 have hfd := freeD_at (φ := X.φ) (L := X.L) (O := X.O) (fr := X.fr) fun x hx => ⟨hF x hx, hk x hx⟩
 unfold skipU at hv ⊢
 rw [hfd]
 split at hv
 case h_2 => cases hv
 injection hv with hv
 obtain ⟨rfl, rfl⟩ := Prod.mk.inj hv
 exact ⟨_, rfl, ⟨rfl, rfl, putO_nil.symm, fun _ => rfl⟩, fun t h => .inl h⟩
theorem wayU_at {g : Option Nat} {want b : Bool} {st X : PSt} {kn kn' : List (Nat × Bool)} {rc : Rec} {s : PSt} (hA : Alike A st X kn kn') (hops : ∀ t, .tmp t ∈ o.op.operands -> A t) (hk : ∀ x, o.dst = some x -> knows kn' x = none) (hF : Foot o.dst rc st X) (hv : wayU E o want b kn st (fun rc s => some (rc, s)) = some (rc, s)) :
  ∃ s', wayU E o want b kn' X (fun rc s => some (rc, s)) = some (rc, s') /\ Like s' (appR o.dst rc X) /\ SpIn X g s' := by
 unfold wayU at hv ⊢
 split at hv
 ·exact stepU_at hA hops hk hF hv
 ·exact skipU_at hk hF.free hv
theorem totalO_at {ev ev' : Operand -> PV} (h : ∀ x ∈ o.op.operands, ev' x = ev x) : totalO ev' o.op = totalO ev o.op := by
 obtain ⟨dst, op, type, pos, after, guard⟩ := o
 cases op with
 | binOp op ty x y uy =>
  have e := h x (by simp [Op.operands])
  simp only [totalO, e]
 | call c =>
  obtain ⟨callee, args, argTypes⟩ := c
  cases callee with
  | builtin b => cases b <;> rfl
  | _ => rfl
 | _ => rfl
theorem pvU_total {st X : PSt} {ev ev' : Operand -> PV} (h : ∀ x ∈ o.op.operands, ev' x = ev x) (ht : totalO ev o.op = true) (C : Upd -> Option R) : pvU E o X ev' C = pvU E o st ev C := by
 obtain ⟨dst, op, type, pos, after, guard⟩ := o
 cases op with
 | move x | assign x | field s x f | extract x i | unOp op ty x =>
  have e1 := h x (by simp [Op.operands])
  simp only [pvU, e1]
 | binOp op ty x i uy =>
  have e1 := h x (by simp [Op.operands])
  have e2 := h i (by simp [Op.operands])
  simp only [pvU, e1, e2]
 | call c =>
  obtain ⟨callee, args, argTypes⟩ := c
  cases callee with
  | builtin b =>
   cases b with
   | len =>
    simp only [pvU]
    unfold bltP
    split
    ·rename_i x t ha _
     have hm : x ∈ args.toList := by rw [ha]; simp
     rw [h x (by simpa [Op.operands, Call.operands] using hm)]
    ·rfl
    ·rfl
   | _ => cases ht
  | _ => cases ht
 | _ => cases ht
theorem specU_at {st X : PSt} {kn kn' : List (Nat × Bool)} (hA : Alike A st X kn kn') (hops : ∀ t, .tmp t ∈ o.op.operands -> A t) : specU E o kn' X = specU E o kn st := by
 have hev : ∀ x ∈ o.op.operands, evK kn' X.φ x = evK kn st.φ x := fun x hx => hA.ev fun t e => hops t (e ▸ hx)
 unfold specU
 rw [totalO_at hev]
 split
 ·rename_i ht
  exact pvU_total hev ht _
 ·rfl
theorem guardU_at {t : Nat} {want : Bool} {X : PSt} (hops : ∀ t, .tmp t ∈ o.op.operands -> A t) (ht : A t) : ∀ {n : Nat} {kn kn' : List (Nat × Bool)} {st : PSt} {rc : Rec} {s : PSt}, Alike A st X kn kn' -> (∀ x, o.dst = some x -> knows kn' x = none /\ ¬ A x) -> Foot o.dst rc st X -> guardU E o t want n kn st (fun rc s => some (rc, s)) = some (rc, s) ->
  ∃ s', guardU E o t want n kn' X (fun rc s => some (rc, s)) = some (rc, s') /\ Like s' (appR o.dst rc X) /\ SpIn X (some t) s'
 | 0, _, _, _, _, _, _, _, _, hv => by cases hv
 | n + 1, kn, kn', st, rc, s, hA, hk, hF, hv => by
  have hx : ∀ x, o.dst = some x -> knows kn' x = none := fun x hx => (hk x hx).1
  have hkc : ∀ (t' : Nat) (b' : Bool), A t' -> ∀ x, o.dst = some x -> knows ((t', b') :: kn') x = none /\ ¬ A x := fun t' b' ht' x hx => by
   refine ⟨?_, (hk x hx).2⟩
   unfold knows
   split
   ·rename_i e
    exact ((hk x hx).2 (Nat.eq_of_beq_eq_true e ▸ ht')).elim
   ·exact (hk x hx).1
  have hev := hA.ev (x := .tmp t) fun t' e => by cases e; exact ht
  unfold guardU at hv ⊢
  rw [hev, hA.kn t ht, hA.φ t ht]
  split at hv
  ·rename_i b hb
   split at hv
   ·exact wayU_at hA hops hx hF hv
   ·rename_i hkt
    dsimp only
    rw [specU_at (hA.cons t want) hops]
    split at hv
    ·rename_i ag ls hs
     split at hv
     ·rename_i hfk
      simp only [Bool.and_eq_true] at hfk
      injection hv with hv
      obtain ⟨rfl, rfl⟩ := Prod.mk.inj hv
      have hfr := freeD_free hfk.1
      have hne : ∀ x, o.dst = some x -> hasN (t :: X.sp) x = false := fun x hx => by
       refine Bool.eq_false_iff.2 fun e => ?_
       rcases List.mem_cons.1 (hasN_iff.1 e) with rfl | e
       ·exact (hk _ hx).2 ht
       ·have := hF.free x hx
        rw [hasN_iff.2 e] at this
        cases this
      have hfd := freeD_at (φ := X.φ) (L := X.L) (O := X.O) (fr := X.fr) (kn := kn') (sp := t :: X.sp) fun x hx' => ⟨hne x hx', hx x hx'⟩
      have hkeep : keepUpd X o.dst (.w ag ls) = true := okUpd_at (st := st) hfk.2 (fun k hk => by cases hk) (fun p hp => by cases hp) hF.fr fun x hx => ⟨(hF.ment x hx).1, fun p hp => by cases hp⟩
      have hev2 : ∀ x ∈ o.op.operands, evK ((t, want) :: kn') X.φ x = evK ((t, want) :: kn) st.φ x := fun x hx => (hA.cons t want).ev fun t e => hops t (e ▸ hx)
      have hlk : ∀ x ∈ o.op.operands, ∀ k ∈ keyP (evK ((t, want) :: kn) st.φ x), X.L k = st.L k := fun x hx k hk => hF.L k (.inl (List.mem_append.2 (.inl (List.mem_flatMap.2 ⟨_, List.mem_map.2 ⟨x, by simpa using hx, rfl⟩, hk⟩))))
      rw [hfd, hkeep]
      rw [recU_at hev2 hlk]
      refine ⟨_, rfl, ⟨rfl, rfl, putO_nil.symm, fun _ => rfl⟩, fun t' h => ?_⟩
      rcases List.mem_cons.1 (hasN_iff.1 h) with rfl | e
      ·exact .inr rfl
      ·exact .inl (hasN_iff.2 e)
     ·cases hv
    ·cases b with
     | true => exact wayU_at (hA.cons t true) hops (fun x hx => (hkc t true ht x hx).1) hF hv
     | false => exact wayU_at (hA.cons t false) hops (fun x hx => (hkc t false ht x hx).1) hF hv
  ·exact skipU_at hx hF.free hv
  ·split at hv
   ·rename_i t1 w1 ag1 ls1 hs1
    have ht1 : A t1 := hA.cl t ht _ _ _ _ hs1
    have hev1 := hA.ev (x := .tmp t1) fun t' e => by cases e; exact ht1
    rw [hev1, hA.kn t1 ht1]
    split at hv
    ·rename_i b1 hb1 hk1
     cases b1 with
     | true => exact guardU_at hops ht (hA.cons t1 true) (hkc t1 true ht1) hF hv
     | false => exact guardU_at hops ht (hA.cons t1 false) (hkc t1 false ht1) hF hv
    ·cases hv
   ·cases hv
  ·cases hv
theorem pvStep_at {st X : PSt} {rc : Rec} {s : PSt} (hA : Alike A st X st.kn X.kn) (hl : ∀ t, t ∈ o.looksAt ops -> A t) (hk : ∀ x, o.dst = some x -> knows X.kn x = none /\ ¬ A x) (hF : Foot o.dst rc st X) (hv : pvStep E ops o st (fun rc s => some (rc, s)) = some (rc, s)) :
  ∃ s', pvStep E ops o X (fun rc s => some (rc, s)) = some (rc, s') /\ Like s' (appR o.dst rc X) /\ SpIn X (gslot ops o) s' := by
 have hops : ∀ t, .tmp t ∈ o.op.operands -> A t := fun t ht => hl t (List.mem_append.2 (.inl (List.mem_filterMap.2 ⟨.tmp t, by simpa using ht, rfl⟩)))
 unfold pvStep at hv ⊢
 unfold gslot
 split at hv
 ·exact stepU_at hA hops (fun x hx => (hk x hx).1) hF hv
 ·rename_i j want hg
  split at hv
  ·cases hv
  ·rename_i t ht
   simp only [hg, ht]
   refine guardU_at hops (hl t (List.mem_append.2 (.inr ?_))) hA hk hF hv
   rw [hg]
   simp [ht]
end
section
variable {E : Env} {R : Type} {r : R} {ops : Array Oper} {o : Oper}
inductive Run (E : Env) (ops : Array Oper) : List Oper -> PSt -> List Rec -> PSt -> Prop
 | nil {st} : Run E ops [] st [] st
 | cons {o l st rc s1 rs s2} : pvStep E ops o st (fun rc s => some (rc, s)) = some (rc, s1) -> Run E ops l s1 rs s2 -> Run E ops (o :: l) st (rc :: rs) s2
theorem pvOps_run : ∀ (l : List Oper) (tr : List Rec) (st : PSt) (C : List Rec -> PSt -> Option R), pvOps E ops l tr st C = some r -> ∃ rs s, C (tr ++ rs) s = some r /\ Run E ops l st rs s
 | [], tr, st, C, h => ⟨[], st, by rw [List.append_nil]; exact h, .nil⟩
 | o :: l, tr, st, C, h => by
  unfold pvOps at h
  obtain ⟨rc, s, h1, h2⟩ := pvStep_nat h
  obtain ⟨rs, s2, h3, h4⟩ := pvOps_run l _ _ _ h1
  exact ⟨rc :: rs, s2, by rw [List.append_assoc] at h3; exact h3, .cons (h2 _) h4⟩
theorem Run.len {l : List Oper} {st s : PSt} {rs : List Rec} (h : Run E ops l st rs s) : rs.length = l.length := by
 induction h with
 | nil => rfl
 | cons _ _ ih => simp [ih]
def fold (S : Nat -> Bool) : List Oper -> List Rec -> Nat -> PSt -> PSt
 | o :: l, rc :: rs, k, X => fold S l rs (k + 1) (cond (S k) (appR o.dst rc X) X)
 | _, _, _, X => X
structure View {β : Type} (f : PSt -> β) (T : Option Nat -> Rec -> Prop) : Prop where
 cong : ∀ d rc X X', f X = f X' -> f (appR d rc X) = f (appR d rc X')
 keep : ∀ d rc X, ¬ T d rc -> f (appR d rc X) = f X
section
variable {β : Type} {f : PSt -> β} {T : Option Nat -> Rec -> Prop}
theorem fold_agree (hf : View f T) {S S' : Nat -> Bool} : ∀ (l : List Oper) (rs : List Rec) (k : Nat) (X X' : PSt), f X = f X' -> (∀ i o rc, l[i]? = some o -> rs[i]? = some rc -> S (k + i) = S' (k + i) \/ ¬ T o.dst rc) -> f (fold S l rs k X) = f (fold S' l rs k X')
 | [], _, _, _, _, h, _ => h
 | _ :: _, [], _, _, _, h, _ => h
 | o :: l, rc :: rs, k, X, X', h, hS => by
  unfold fold
  refine fold_agree hf l rs (k + 1) _ _ ?_ fun i o' rc' h1 h2 => by
   have := hS (i + 1) o' rc' h1 h2
   rw [show k + 1 + i = k + (i + 1) by omega]; exact this
  have h0 : S k = S' k \/ ¬ T o.dst rc := hS 0 o rc rfl rfl
  rcases h0 with e | hn
  ·rw [e]
   cases S' k with
   | true => exact hf.cong _ _ _ _ h
   | false => exact h
  ·cases S k <;> cases S' k <;> simp only [cond_true, cond_false, hf.keep _ _ _ hn, h]
theorem fold_keep (hf : View f T) {S : Nat -> Bool} : ∀ (l : List Oper) (rs : List Rec) (k : Nat) (X : PSt), (∀ i o rc, l[i]? = some o -> rs[i]? = some rc -> S (k + i) = true -> ¬ T o.dst rc) -> f (fold S l rs k X) = f X
 | [], _, _, _, _ => rfl
 | _ :: _, [], _, _, _ => rfl
 | o :: l, rc :: rs, k, X, hS => by
  unfold fold
  rw [fold_keep hf l rs (k + 1) _ fun i o' rc' h1 h2 h3 => hS (i + 1) o' rc' h1 h2 (by rw [show k + (i + 1) = k + 1 + i by omega]; exact h3)]
  cases hk : S k with
  | true => exact hf.keep _ _ _ (hS 0 o rc rfl rfl hk)
  | false => rfl
theorem fold_add (hf : View f T) {S S' : Nat -> Bool} {j : Nat} {oj : Oper} {rj : Rec} (hj : S j = false) (hj' : S' j = true) (hS' : ∀ i, i ≠ j -> S' i = S i) : ∀ (l : List Oper) (rs : List Rec) (k n : Nat) (X : PSt), j = k + n -> l[n]? = some oj -> rs[n]? = some rj ->
  (T oj.dst rj -> ∀ i o rc, n < i -> l[i]? = some o -> rs[i]? = some rc -> S (k + i) = true -> ¬ T o.dst rc) -> f (fold S' l rs k X) = f (appR oj.dst rj (fold S l rs k X))
 | [], _, _, _, _, _, h, _, _ => by simp at h
 | _ :: _, [], _, _, _, _, _, h, _ => by simp at h
 | o :: l, rc :: rs, k, 0, X, hk, h1, h2, hT => by
  have hk : j = k := hk
  subst hk
  cases h1; cases h2
  unfold fold
  rw [hj, hj']
  show f (fold S' l rs (j + 1) (appR oj.dst rj X)) = f (appR oj.dst rj (fold S l rs (j + 1) X))
  have e1 : ∀ Y, f (fold S' l rs (j + 1) Y) = f (fold S l rs (j + 1) Y) := fun Y => fold_agree hf l rs (j + 1) _ _ rfl fun i o' rc' _ _ => .inl (hS' _ (by omega))
  rw [e1]
  by_cases ht : T oj.dst rj
  ·have hq := hT ht
   have hk2 : ∀ Y, f (fold S l rs (j + 1) Y) = f Y := fun Y => fold_keep hf l rs (j + 1) Y fun i o' rc' g1 g2 g3 => hq (i + 1) o' rc' (by omega) g1 g2 (by rw [show j + (i + 1) = j + 1 + i by omega]; exact g3)
   rw [hk2, hf.cong _ _ _ _ (hk2 X)]
  ·rw [hf.keep _ _ _ ht]
   exact fold_agree hf l rs (j + 1) _ _ (hf.keep _ _ _ ht) fun i o' rc' _ _ => .inl rfl
 | o :: l, rc :: rs, k, n + 1, X, hk, h1, h2, hT => by
  unfold fold
  rw [hS' k (by omega)]
  exact fold_add hf hj hj' hS' l rs (k + 1) n _ (by omega) h1 h2 fun ht i o' rc' hi g1 g2 g3 => hT ht (i + 1) o' rc' (by omega) g1 g2 (by rw [show k + (i + 1) = k + 1 + i by omega]; exact g3)
end
theorem view_φ (t : Nat) : View (fun X => X.φ t) (fun d _ => d = some t) :=
 ⟨fun d rc X X' h => by
  show putP X.φ d rc.val t = putP X'.φ d rc.val t
  by_cases e : d = some t
  ·rw [e, putP_at, putP_at]
  ·rw [putP_ne e, putP_ne e]; exact h, fun d rc X h => putP_ne h⟩
theorem view_L (k : Nat) : View (fun X => X.L k) (fun _ rc => k ∈ rc.keysW) :=
 ⟨fun d rc X X' h => (putL_congr (L := X'.L) (L' := X.L) h rc.loc), fun d rc X h => by
  show putL X.L rc.loc k = X.L k
  have : ∀ l : List (Nat × List Leaf), k ∉ l.map (·.1) -> putL X.L l k = X.L k := fun l => by
   induction l with
   | nil => intro _; rfl
   | cons p r ih =>
    intro hn
    obtain ⟨k', ls⟩ := p
    unfold putL
    split
    ·rename_i e
     exact (hn (by rw [Nat.eq_of_beq_eq_true e]; simp)).elim
    ·exact ih fun e => hn (by simp at e ⊢; exact .inr e)
  exact this _ h⟩
theorem view_O (t : Tok) : View (fun X => X.O t) (fun _ rc => t ∈ rc.born \/ t ∈ rc.gone) :=
 ⟨fun d rc X X' h => by
  show putO X.O rc.born rc.gone t = putO X'.O rc.born rc.gone t
  have h' : X.O t = X'.O t := h
  unfold putO
  rw [h'], fun d rc X h => by
  show putO X.O rc.born rc.gone t = X.O t
  unfold putO
  split
  ·rename_i e; exact (h (.inl (hasT_iff.1 e))).elim
  ·split
   ·rename_i e; exact (h (.inr (hasT_iff.1 e))).elim
   ·rfl⟩
theorem hasN_out {d : Option Nat} {l : List Nat} {x : Nat} : hasN (outN d l) x = true ↔ hasN l x = true /\ d ≠ some x := by
 rw [hasN_iff, hasN_iff]
 exact outN_mem
theorem view_fr (x : Nat) : View (fun X => hasN X.fr x) (fun d _ => d = some x) :=
 ⟨fun d rc X X' h => by
  have h' : hasN X.fr x = hasN X'.fr x := h
  show hasN (outN d X.fr) x = hasN (outN d X'.fr) x
  rw [Bool.eq_iff_iff, hasN_out, hasN_out, h'], fun d rc X h => by
  show hasN (outN d X.fr) x = hasN X.fr x
  rw [Bool.eq_iff_iff, hasN_out]
  exact ⟨fun e => e.1, fun e => ⟨e, h⟩⟩⟩
end
section
variable {E : Env} {F : Fr} {R : Type} {r : R} {ops : Array Oper} {g : Gh} {w : World} {tmf : Nat -> Value}
theorem MRel.drew {st : PSt} (h : MRel F g st tmf w) : MRel F g st tmf { w with drawn := w.drawn + 1 } := by
 have G : Gw w g.C { w with drawn := w.drawn + 1 } g.C := fun a u hc hC => ⟨hc, hC⟩
 have K : ∀ b, Kp g w g { w with drawn := w.drawn + 1 } b := fun b => ⟨rfl, fun _ => Iff.rfl⟩
 have Lv : ∀ k, Lives g w st.O g { w with drawn := w.drawn + 1 } st.O k := fun k hk => ⟨hk, rfl, fun b _ => K b⟩
 exact ⟨⟨h.fr.size, h.fr.os, h.fr.tape, h.fr.output, h.fr.old, h.fr.shape, h.fr.com, h.fr.mono, h.fr.lim⟩, fun i => (h.slots i).gw G (fun k _ => Lv k) (fun _ _ => rfl) (fun _ _ _ _ _ => rfl), fun k σ ls hL => (h.locals k σ ls hL).gw (st := st) G (fun k _ _ _ _ => Lv k) (K _),
  h.hist, h.kn, h.sp, h.fresh, h.locL, h.blk0, h.blkI, h.blkL, h.blkS, h.blkW, h.ρI⟩
theorem MRel.relike {s X : PSt} (h : MRel F g s tmf w) (hφ : s.φ = X.φ) (hL : s.L = X.L) (hO : s.O = X.O) (hf : ∀ x, hasN X.fr x = true -> hasN s.fr x = true) (hs : ∀ i t want ag ls, X.φ i = .spec t want ag ls -> hasN X.sp t = true) (hk : ∀ t b, knows X.kn t = some b -> tmf t = .bool b) : MRel F g X tmf w := by
 obtain ⟨φ, L, O, kn, sp, fr⟩ := X
 cases hφ; cases hL; cases hO
 exact ⟨h.fr, h.slots, h.locals, h.hist, hk, hs, fun d hd => h.fresh d (hf d hd), h.locL, h.blk0, h.blkI, h.blkL, h.blkS, h.blkW, h.ρI⟩
theorem facts {A : Nat -> Prop} {X : PSt} {φ : Nat -> PV} {kn : List (Nat × Bool)} (hM : ∀ i, RelP F g w X.O tmf (tmf i) (X.φ i)) (hφ : ∀ t, A t -> X.φ t = φ t) (hcl : ∀ t, A t -> ∀ j w ag ls, φ t = .spec j w ag ls -> A j) (hk : KnOK φ kn) : ∀ t b, A t -> knows kn t = some b -> tmf t = .bool b := by
 induction hk with
 | nil => intro t b _ h; cases h
 | @cons t0 b0 kn h0 hj ih =>
  intro t b ht h
  unfold knows at h
  split at h
  ·rename_i e
   have e := Nat.eq_of_beq_eq_true e
   subst e
   injection h with h
   subst h
   have h1 := hM t0
   rw [hφ t0 ht] at h1
   rcases hj with hj | ⟨t', w', hj, hk'⟩
   ·rw [hj] at h1
    exact rel_bool h1
   ·have h2 := ih t' w' (hcl t0 ht _ _ _ _ hj) hk'
    rw [hj] at h1
    obtain ⟨b', g1, g2, g3⟩ := h1
    rw [h2] at g1
    have e : b' = w' := by injection g1 with g1; exact g1.symm
    exact rel_bool (tmf := tmf) (g2 e)
  ·exact ih t b ht h
theorem like_refl (a : PSt) : Like a a := ⟨rfl, rfl, rfl, fun _ => rfl⟩
theorem Like.trans {a b c : PSt} (h : Like a b) (k : Like b c) : Like a c := ⟨h.1.trans k.1, h.2.1.trans k.2.1, h.2.2.1.trans k.2.2.1, fun x => (h.2.2.2 x).trans (k.2.2.2 x)⟩
theorem fold_like {S S' : Nat -> Bool} {l : List Oper} {rs : List Rec} {k : Nat} {X X' : PSt} (h : Like X X') (hS : ∀ i, i < l.length -> S (k + i) = S' (k + i)) : Like (fold S l rs k X) (fold S' l rs k X') := by
 have hS' : ∀ i (o : Oper) (rc : Rec), l[i]? = some o -> rs[i]? = some rc -> ∀ T : Prop, S (k + i) = S' (k + i) \/ ¬ T := fun i o rc h1 _ _ => .inl (hS i (List.getElem?_eq_some_iff.1 h1).1)
 exact ⟨funext fun t => fold_agree (view_φ t) l rs k X X' (by rw [h.1]) fun i o rc h1 h2 => hS' i o rc h1 h2 _, funext fun t => fold_agree (view_L t) l rs k X X' (by rw [h.2.1]) fun i o rc h1 h2 => hS' i o rc h1 h2 _,
  funext fun t => fold_agree (view_O t) l rs k X X' (by rw [h.2.2.1]) fun i o rc h1 h2 => hS' i o rc h1 h2 _, fun x => fold_agree (view_fr x) l rs k X X' (h.2.2.2 x) fun i o rc h1 h2 => hS' i o rc h1 h2 _⟩
theorem fold_none {S : Nat -> Bool} : ∀ (l : List Oper) (rs : List Rec) (k : Nat) (X : PSt), (∀ i, k <= i -> S i = false) -> fold S l rs k X = X
 | [], _, _, _, _ => rfl
 | _ :: _, [], _, _, _ => rfl
 | o :: l, rc :: rs, k, X, h => by
  unfold fold
  rw [h k (Nat.le_refl k)]
  exact fold_none l rs (k + 1) X fun i hi => h i (by omega)
theorem Run.at {l : List Oper} {st s : PSt} {rs : List Rec} (h : Run E ops l st rs s) : ∀ (k j : Nat) (o : Oper), l[j]? = some o -> ∃ rc sj sj', rs[j]? = some rc /\ pvStep E ops o sj (fun rc s => some (rc, s)) = some (rc, sj') /\ Like sj (fold (fun i => decide (i < k + j)) l rs k st) /\ (KnOK st.φ st.kn -> KnOK sj.φ sj.kn) := by
 induction h with
 | nil => intro k j o h; simp at h
 | @cons o l st rc s1 rs s2 h1 h2 ih =>
  intro k j o' hj
  cases j with
  | zero =>
   cases hj
   refine ⟨rc, st, s1, rfl, h1, ?_, fun h => h⟩
   rw [fold_none _ _ _ _ fun i hi => by simp; omega]
   exact like_refl st
  | succ j =>
   obtain ⟨rc', sj, sj', g1, g2, g3, g4⟩ := ih (k + 1) j o' hj
   have hok := pvStep_ok h1
   refine ⟨rc', sj, sj', g1, g2, g3.trans ?_, fun h => g4 (hok.kn h)⟩
   have e : fold (fun i => decide (i < k + (j + 1))) (o :: l) (rc :: rs) k st = fold (fun i => decide (i < k + (j + 1))) l rs (k + 1) (appR o.dst rc st) := by
    show fold _ l rs (k + 1) (cond (decide (k < k + (j + 1))) (appR o.dst rc st) st) = _
    rw [decide_eq_true (by omega)]; rfl
   rw [e]
   exact fold_like hok.like fun i _ => by congr 1; simp; omega
theorem Run.last {l : List Oper} {st s : PSt} {rs : List Rec} (h : Run E ops l st rs s) : ∀ k : Nat, Like s (fold (fun _ => true) l rs k st) /\ (KnOK st.φ st.kn -> KnOK s.φ s.kn) /\ ((∀ i t want ag ls, st.φ i = .spec t want ag ls -> hasN st.sp t = true) -> ∀ i t want ag ls, s.φ i = .spec t want ag ls -> hasN s.sp t = true) := by
 induction h with
 | nil => exact fun k => ⟨like_refl _, fun h => h, fun h => h⟩
 | @cons o l st rc s1 rs s2 h1 h2 ih =>
  intro k
  obtain ⟨g1, g2, g3⟩ := ih (k + 1)
  have hok := pvStep_ok h1
  refine ⟨g1.trans (fold_like hok.like fun _ _ => rfl), fun h => g2 (hok.kn h), fun h => g3 fun i t want ag ls hs => ?_⟩
  rw [hok.like.1] at hs
  have hs' : putP st.φ o.dst rc.val i = .spec t want ag ls := hs
  by_cases hi : o.dst = some i
  ·rw [hi, putP_at] at hs'
   exact (hok.spec t want ag ls hs').2
  ·rw [putP_ne hi] at hs'
   exact hok.sp t (h i t want ag ls hs')
theorem insN_mem {n i : Nat} {l : List Nat} (h : i ∈ insN n l) : i = n \/ i ∈ l := by
 unfold insN at h
 split at h
 ·exact .inr h
 ·exact List.mem_cons.1 h
theorem unionN_mem {i : Nat} : ∀ {l l' : List Nat}, i ∈ unionN l l' -> i ∈ l \/ i ∈ l'
 | [], _, h => .inr h
 | x :: r, l', h => by
  have h' : i ∈ insN x (unionN r l') := h
  rcases insN_mem h' with e | h'
  ·exact .inl (by simp [e])
  ·rcases unionN_mem h' with h' | h'
   ·exact .inl (by simp [h'])
   ·exact .inr h'
theorem ancs_fold {acc : List (List Nat)} {i : Nat} : ∀ {es : List Edge}, i ∈ es.foldr (fun e l => insN e.on (unionN (acc.getD e.on []) l)) [] -> ∃ e ∈ es, i = e.on \/ i ∈ acc.getD e.on []
 | [], h => by cases h
 | e :: es, h => by
  rw [List.foldr_cons] at h
  rcases insN_mem h with h | h
  ·exact ⟨e, by simp, .inl h⟩
  ·rcases unionN_mem h with h | h
   ·exact ⟨e, by simp, .inr h⟩
   ·obtain ⟨e', h1, h2⟩ := ancs_fold h
    exact ⟨e', by simp [h1], h2⟩
theorem ancs_old : ∀ (l : List Oper) (acc : List (List Nat)) (j : Nat), j < acc.length -> (ancs l acc).getD j [] = acc.getD j []
 | [], _, _, _ => rfl
 | o :: l, acc, j, h => by
  unfold ancs
  rw [ancs_old l _ j (by simp; omega)]
  simp [List.getD_eq_getElem?_getD, List.getElem?_append_left h]
theorem ancs_get : ∀ (l : List Oper) (acc : List (List Nat)) (n : Nat) (o : Oper), l[n]? = some o -> ∀ i, i ∈ (ancs l acc).getD (acc.length + n) [] -> ∃ e ∈ o.after.toList, Region.binds .any e = true /\ (i = e.on \/ (e.on < acc.length + n /\ i ∈ (ancs l acc).getD e.on []))
  | [], _, _, _, h, _, _ => by simp at h
  | o :: l, acc, 0, o', h, i, hi => by
    cases h
    unfold ancs at hi ⊢
    rw [ancs_old l _ _ (by simp)] at hi
    have hi' : i ∈ (o.after.toList.filter (Region.binds .any)).foldr (fun e l => insN e.on (unionN (acc.getD e.on []) l)) [] := by simpa [List.getD_eq_getElem?_getD] using hi
    obtain ⟨e, h1, h2⟩ := ancs_fold hi'
    obtain ⟨h1, h3⟩ := List.mem_filter.1 h1
    refine ⟨e, h1, h3, ?_⟩
    rcases h2 with h2 | h2
    · exact .inl h2
    · have hlt : e.on < acc.length := by
        by_cases hlt : e.on < acc.length
        · exact hlt
        · simp [List.getD_eq_getElem?_getD, List.getElem?_eq_none (show acc.length <= e.on by omega)] at h2
      refine .inr ⟨hlt, ?_⟩
      rw [ancs_old l _ _ (by simp; omega)]
      simpa [List.getD_eq_getElem?_getD, List.getElem?_append_left hlt] using h2
  | o :: l, acc, n + 1, o', h, i, hi => by
    unfold ancs at hi ⊢
    have := ancs_get l (acc ++ [(o.after.toList.filter (Region.binds .any)).foldr (fun e l => insN e.on (unionN (acc.getD e.on []) l)) []]) n o' h i (by rw [List.length_append, List.length_singleton, Nat.add_assoc, Nat.add_comm 1 n]; exact hi)
    rw [List.length_append, List.length_singleton, Nat.add_assoc, Nat.add_comm 1 n] at this
    exact this
theorem waits_in {S : Nat -> Bool} (hc : ∀ j o, ops[j]? = some o -> S j = true -> ∀ e ∈ o.after.toList, Region.binds .any e = true -> S e.on = true) : ∀ (n j : Nat), j < n -> ∀ o, ops[j]? = some o -> (∀ e ∈ o.after.toList, Region.binds .any e = true -> S e.on = true) -> ∀ i, waitsN (ancs ops.toList []) j i = true -> S i = true
 | 0, j, hn, _, _, _, _, _ => by omega
 | n + 1, j, hn, o, ho, hr, i, hw => by
  have hi : i ∈ (ancs ops.toList []).getD (([] : List (List Nat)).length + j) [] := by
   rw [List.length_nil, Nat.zero_add]; exact hasN_iff.1 hw
  obtain ⟨e, h1, h2, h3⟩ := ancs_get ops.toList [] j o (by simpa using ho) i hi
  rcases h3 with rfl | ⟨h3, h4⟩
  ·exact hr e h1 h2
  ·simp at h3
   have hlt : e.on < ops.size := by
    have := (Array.getElem?_eq_some_iff.1 ho).1
    omega
   exact waits_in hc n e.on (by omega) ops[e.on] (by simp [hlt]) (hc e.on ops[e.on] (by simp [hlt]) (hr e h1 h2)) i (hasN_iff.2 h4)
structure Apart (ops : Array Oper) (oi oj : Oper) (ri rj : Rec) : Prop where
 looks : ∀ d, oi.dst = some d -> d ∉ oj.looksAt ops /\ mentP d rj.val = false /\ ∀ p ∈ rj.loc, mentLs d p.2 = false
 back : ∀ d, oj.dst = some d -> d ∉ oi.looksAt ops
 keys : ∀ k ∈ ri.keysW, k ∉ rj.keysW /\ k ∉ rj.keysR
 keysB : ∀ k ∈ rj.keysW, k ∉ ri.keysR
 toks : ∀ t ∈ ri.toks, t ∉ rj.toks
structure Chk (ops : Array Oper) (rs : List Rec) : Prop where
 self : ∀ (j : Nat) (o : Oper), ops[j]? = some o -> ∀ d, o.dst = some d -> d ∉ o.looksAt ops
 on : ∀ (j : Nat) (o : Oper), ops[j]? = some o -> ∀ e ∈ o.after.toList, Region.binds .any e = true -> e.on < j
 grd : ∀ (j : Nat) (o : Oper), ops[j]? = some o -> ∀ i b, o.guard = some (i, b) -> waitsN (ancs ops.toList []) j i = true
 dist : ∀ (i j : Nat) (oi oj : Oper), ops[i]? = some oi -> ops[j]? = some oj -> i ≠ j -> ∀ d, oi.dst = some d -> oj.dst ≠ some d
 apart : ∀ (i j : Nat) (oi oj : Oper) (ri rj : Rec), i < j -> ops[i]? = some oi -> ops[j]? = some oj -> rs[i]? = some ri -> rs[j]? = some rj -> waitsN (ancs ops.toList []) j i = false -> Apart ops oi oj ri rj
theorem hasN_not {l : List Nat} {x : Nat} (h : hasN l x = false) : x ∉ l := fun e => by rw [hasN_iff.2 e] at h; cases h
theorem hasT_not {l : List Tok} {x : Tok} (h : hasT l x = false) : x ∉ l := fun e => by rw [hasT_iff.2 e] at h; cases h
theorem okDraw_chk {rs : List Rec} (hl : rs.length = ops.size) (h : okDraw ops rs = true) : Chk ops rs := by
 simp only [okDraw, Bool.and_eq_true, List.all_eq_true, List.mem_range] at h
 have one : ∀ (j : Nat) (o : Oper), ops[j]? = some o -> (match o.dst with | some d => !(hasN (o.looksAt ops) d) | none => true) = true /\ (∀ e ∈ o.after.toList, (!Region.binds .any e || Nat.blt e.on j) = true) /\ (match o.guard with | some (g, _) => waitsN (ancs ops.toList []) j g | none => true) = true := fun j o ho => by
  have := (h.2 j (Array.getElem?_eq_some_iff.1 ho).1).1
  unfold okOne at this
  simp only [ho, Bool.and_eq_true, List.all_eq_true] at this
  exact ⟨this.1.1, this.1.2, this.2⟩
 have two : ∀ (i j : Nat) (oi oj : Oper) (ri rj : Rec), i < j -> ops[i]? = some oi -> ops[j]? = some oj -> rs[i]? = some ri -> rs[j]? = some rj -> (match oi.dst, oj.dst with | some d, some d' => !(Nat.beq d d') | _, _ => true) = true /\ (waitsN (ancs ops.toList []) j i = true \/ Apart ops oi oj ri rj) := fun i j oi oj ri rj hij hi hj hri hrj => by
  have := (h.2 j (Array.getElem?_eq_some_iff.1 hj).1).2 i hij
  unfold okTwo at this
  simp only [hi, hj, hri, hrj, Bool.and_eq_true, Bool.or_eq_true, List.all_eq_true, Bool.not_eq_true'] at this
  refine ⟨this.1, this.2.imp (fun h => h) fun h => ?_⟩
  obtain ⟨⟨⟨⟨h1, h2⟩, h3⟩, h4⟩, h5⟩ := h
  refine ⟨fun d hd => ?_, fun d hd => ?_, fun k hk => ⟨hasN_not (h3 k hk).1, hasN_not (h3 k hk).2⟩, fun k hk => hasN_not (h4 k hk), fun t ht => hasT_not (h5 t ht)⟩
  ·rw [hd] at h1
   simp only [Bool.and_eq_true, Bool.not_eq_true', List.all_eq_true] at h1
   exact ⟨hasN_not h1.1.1, h1.1.2, h1.2⟩
  ·rw [hd] at h2
   simp only [Bool.not_eq_true'] at h2
   exact hasN_not h2
 have rget : ∀ (j : Nat) (o : Oper), ops[j]? = some o -> ∃ rc, rs[j]? = some rc := fun j o ho => ⟨rs[j]'(by rw [hl]; exact (Array.getElem?_eq_some_iff.1 ho).1), by simp⟩
 refine ⟨fun j o ho d hd => ?_, fun j o ho e he hb => ?_, fun j o ho i b hg => ?_, fun i j oi oj hi hj hij d hd hd' => ?_, fun i j oi oj ri rj hij hi hj hri hrj hw => ?_⟩
 ·have := (one j o ho).1
  rw [hd] at this
  simp only [Bool.not_eq_true'] at this
  exact hasN_not this
 ·have := (one j o ho).2.1 e he
  rw [hb] at this
  simpa [Nat.blt_eq] using this
 ·have := (one j o ho).2.2
  rw [hg] at this
  exact this
 ·obtain ⟨ri, hri⟩ := rget i oi hi
  obtain ⟨rj, hrj⟩ := rget j oj hj
  have key : ∀ (i j : Nat) (oi oj : Oper) (ri rj : Rec), i < j -> ops[i]? = some oi -> ops[j]? = some oj -> rs[i]? = some ri -> rs[j]? = some rj -> oi.dst = some d -> oj.dst = some d -> False := fun i j oi oj ri rj hij hi hj hri hrj hd hd' => by
   have := (two i j oi oj ri rj hij hi hj hri hrj).1
   rw [hd, hd'] at this
   simp at this
  rcases Nat.lt_or_gt_of_ne hij with hlt | hlt
  ·exact key i j oi oj ri rj hlt hi hj hri hrj hd hd'
  ·exact key j i oj oi rj ri hlt hj hi hrj hri hd' hd
 ·rcases (two i j oi oj ri rj hij hi hj hri hrj).2 with h | h
  ·rw [h] at hw; cases hw
  ·exact h
def spOf (ops : Array Oper) (S : Nat -> Bool) : List Nat := (List.range ops.size).filterMap fun i => match S i with | true => (ops[i]?).bind (·.dst) | false => none
theorem mem_spOf {S : Nat -> Bool} {t : Nat} : hasN (spOf ops S) t = true ↔ ∃ i o, ops[i]? = some o /\ S i = true /\ o.dst = some t := by
 rw [hasN_iff]
 unfold spOf
 rw [List.mem_filterMap]
 constructor
 ·rintro ⟨i, h1, h2⟩
  split at h2
  ·rename_i hS
   cases ho : ops[i]? with
   | none => rw [ho] at h2; cases h2
   | some o => rw [ho] at h2; exact ⟨i, o, ho, hS, h2⟩
  ·cases h2
 ·rintro ⟨i, o, h1, h2, h3⟩
  refine ⟨i, List.mem_range.2 (Array.getElem?_eq_some_iff.1 h1).1, ?_⟩
  rw [h2, h1]
  exact h3
theorem gslot_some {o : Oper} {t : Nat} (h : gslot ops o = some t) : ∃ i b og, o.guard = some (i, b) /\ ops[i]? = some og /\ og.dst = some t := by
 unfold gslot at h
 split at h
 ·cases h
 ·rename_i i b hg
  cases ho : ops[i]? with
  | none => rw [ho] at h; cases h
  | some og => rw [ho] at h; exact ⟨i, b, og, hg, ho, h⟩
theorem fold_fr {S : Nat -> Bool} {x : Nat} : ∀ (l : List Oper) (rs : List Rec) (k : Nat) (X : PSt), hasN (fold S l rs k X).fr x = true -> hasN X.fr x = true
 | [], _, _, _, h => h
 | _ :: _, [], _, _, h => h
 | o :: l, rc :: rs, k, X, h => by
  unfold fold at h
  have := fold_fr l rs (k + 1) _ h
  cases hk : S k with
  | true => rw [hk] at this; exact (hasN_out.1 this).1
  | false => rw [hk] at this; exact this
theorem fold_out {S : Nat -> Bool} {x : Nat} : ∀ (l : List Oper) (rs : List Rec) (k n : Nat) (o : Oper) (rc : Rec) (X : PSt), l[n]? = some o -> rs[n]? = some rc -> S (k + n) = true -> o.dst = some x -> hasN (fold S l rs k X).fr x = false
 | [], _, _, _, _, _, _, h, _, _, _ => by simp at h
 | _ :: _, [], _, _, _, _, _, _, h, _, _ => by simp at h
 | o :: l, rc :: rs, k, 0, o', rc', X, h1, h2, h3, h4 => by
  cases h1
  refine Bool.eq_false_iff.2 fun h => ?_
  unfold fold at h
  have h3 : S k = true := h3
  have := fold_fr l rs (k + 1) _ h
  rw [h3] at this
  exact (hasN_out.1 this).2 h4
 | o :: l, rc :: rs, k, n + 1, o', rc', X, h1, h2, h3, h4 => by
  unfold fold
  exact fold_out l rs (k + 1) n o' rc' _ h1 h2 (by rw [<- h3]; congr 1; omega) h4
def mkSt (ops : Array Oper) (S : Nat -> Bool) (rs : List Rec) (st0 : PSt) : PSt := ⟨(fold S ops.toList rs 0 st0).φ, (fold S ops.toList rs 0 st0).L, (fold S ops.toList rs 0 st0).O, [], spOf ops S, (fold S ops.toList rs 0 st0).fr⟩
theorem knows_filter {A : Nat -> Bool} {kn : List (Nat × Bool)} {t : Nat} : knows (kn.filter fun p => A p.1) t = match A t with | true => knows kn t | false => none := by
 induction kn with
 | nil => cases A t <;> rfl
 | cons p r ih =>
  obtain ⟨j, b⟩ := p
  by_cases hj : j = t
  ·subst hj
   cases hA : A j with
   | true => rw [List.filter_cons_of_pos (by simpa using hA)]; simp [knows]
   | false => rw [List.filter_cons_of_neg (by simp [hA]), ih, hA]
  ·have hb : Nat.beq j t = false := Bool.eq_false_iff.2 fun e => hj (Nat.eq_of_beq_eq_true e)
   cases hA : A j with
   | true =>
    rw [List.filter_cons_of_pos (by simpa using hA)]
    simp only [knows, hb]
    exact ih
   | false =>
    rw [List.filter_cons_of_neg (by simp [hA]), ih]
    simp only [knows, hb]
open Classical in
theorem draw_step (hE : E.okF F) {rs : List Rec} {st0 s : PSt} (hrun : Run E ops ops.toList st0 rs s) (hc : Chk ops rs) (hst0 : ∀ i t want ag ls, st0.φ i ≠ .spec t want ag ls) (hkn0 : st0.kn = []) {S S' : Nat -> Bool} {j : Nat} {oj : Oper} {a : Act} (hj : S j = false) (hS' : ∀ i, S' i = true ↔ S i = true \/ i = j)
    (hcl : ∀ j o, ops[j]? = some o -> S j = true -> ∀ e ∈ o.after.toList, Region.binds .any e = true -> S e.on = true) (hoj : ops[j]? = some oj) (hready : ∀ e ∈ oj.after.toList, Region.binds .any e = true -> S e.on = true) (hd : ∀ x, oj.dst = some x -> x < F.n)
    (h : AR F g (mkSt ops S rs st0) a w) {N : Act -> World -> Prop} {Q : Exit -> Act -> World -> Prop} (hN : ∀ a' w' g', AR F g' (mkSt ops S' rs st0) a' w' -> Fr1 oj.dst g a w g' a' w' -> N a' w') : Way E ops oj a w N Q := by
  obtain ⟨rc, sj, sj', hrc, hstep, hlike, hknok⟩ := hrun.at 0 j oj (by simpa using hoj)
  simp only [Nat.zero_add] at hlike
  have hok := pvStep_ok hstep
  have hdone : ∀ i, waitsN (ancs ops.toList []) j i = true -> S i = true := waits_in hcl (j + 1) j (by omega) oj hoj hready
  have hnot : ∀ i o, ops[i]? = some o -> S i = true -> waitsN (ancs ops.toList []) i j = false := fun i o ho hi => Bool.eq_false_iff.2 fun e => by
    have := waits_in hcl (i + 1) i (by omega) o ho (hcl i o ho hi) j e
    rw [hj] at this; cases this
  have hcmp : ∀ i oi ri, ops[i]? = some oi -> rs[i]? = some ri -> S i ≠ decide (i < j) -> (i < j /\ S i = false /\ Apart ops oi oj ri rc) \/ (j < i /\ S i = true /\ Apart ops oj oi rc ri) := fun i oi ri hoi hri hne => by
    rcases Nat.lt_trichotomy i j with hlt | heq | hgt
    · rw [decide_eq_true hlt] at hne
      have hSi : S i = false := by simpa using hne
      exact .inl ⟨hlt, hSi, hc.apart i j oi oj ri rc hlt hoi hoj hri hrc (Bool.eq_false_iff.2 fun e => hne (hdone i e))⟩
    · subst heq
      rw [hj] at hne; simp at hne
    · rw [decide_eq_false (by omega)] at hne
      have hSi : S i = true := by simpa using hne
      exact .inr ⟨hgt, hSi, hc.apart j i oj oi rc ri hgt hoj hoi hrc hri (hnot i oi hoi hSi)⟩
  have hφS : ∀ t, (∀ i oi, ops[i]? = some oi -> oi.dst = some t -> S i = decide (i < j)) -> (fold S ops.toList rs 0 st0).φ t = sj.φ t := fun t ht => by
    rw [hlike.1]
    refine fold_agree (view_φ t) ops.toList rs 0 _ _ rfl fun i o ri h1 h2 => ?_
    rw [Nat.zero_add]
    by_cases e : o.dst = some t
    · exact .inl (ht i o (by simpa using h1) e)
    · exact .inr e
  have hLS : ∀ k, k ∈ rc.keysR \/ k ∈ rc.keysW -> (fold S ops.toList rs 0 st0).L k = sj.L k := fun k hk => by
    rw [hlike.2.1]
    refine fold_agree (view_L k) ops.toList rs 0 _ _ rfl fun i o ri h1 h2 => ?_
    rw [Nat.zero_add]
    by_cases e : S i = decide (i < j)
    · exact .inl e
    · refine .inr fun hkw => ?_
      rcases hcmp i o ri (by simpa using h1) h2 e with ⟨_, _, ha⟩ | ⟨_, _, ha⟩
      · have := ha.keys k hkw
        rcases hk with hk | hk
        · exact this.2 hk
        · exact this.1 hk
      · rcases hk with hk | hk
        · exact ha.keysB k hkw hk
        · exact (ha.keys k hk).1 hkw
  have hrec : ∀ (i : Nat) (o : Oper) (ri : Rec), ops[i]? = some o -> rs[i]? = some ri -> Tok.zero ∉ ri.born /\ Tok.zero ∉ ri.gone := fun i o ri h1 h2 => by
    obtain ⟨ri', si, si', g1, g2, _, _⟩ := hrun.at 0 i o (by simpa using h1)
    rw [h2] at g1; cases g1
    have := pvStep_ok g2
    exact ⟨fun e => (by obtain ⟨x, j, e', _⟩ := this.born _ e; cases e'), fun e => this.gone _ e rfl⟩
  have hOS : ∀ t, t = .zero \/ t ∈ rc.toks -> (fold S ops.toList rs 0 st0).O t = sj.O t := fun t ht => by
    rw [hlike.2.2.1]
    refine fold_agree (view_O t) ops.toList rs 0 _ _ rfl fun i o ri h1 h2 => ?_
    rw [Nat.zero_add]
    by_cases e : S i = decide (i < j)
    · exact .inl e
    · refine .inr fun hbg => ?_
      rcases ht with rfl | ht
      · have := hrec i o ri (by simpa using h1) h2
        rcases hbg with hbg | hbg
        · exact this.1 hbg
        · exact this.2 hbg
      · have hm : t ∈ ri.toks := by
          unfold Rec.toks
          rcases hbg with hbg | hbg <;> simp [hbg]
        rcases hcmp i o ri (by simpa using h1) h2 e with ⟨_, _, ha⟩ | ⟨_, _, ha⟩
        · exact ha.toks t hm ht
        · exact ha.toks t ht hm
  have hfrS : ∀ x, (∀ i oi, ops[i]? = some oi -> oi.dst = some x -> S i = decide (i < j)) -> hasN (fold S ops.toList rs 0 st0).fr x = hasN sj.fr x := fun x hx => by
    rw [hlike.2.2.2]
    refine fold_agree (view_fr x) ops.toList rs 0 _ _ rfl fun i o ri h1 h2 => ?_
    rw [Nat.zero_add]
    by_cases e : o.dst = some x
    · exact .inl (hx i o (by simpa using h1) e)
    · exact .inr e
  have hself : ∀ x, oj.dst = some x -> ∀ i oi, ops[i]? = some oi -> oi.dst = some x -> S i = decide (i < j) := fun x hx i oi hoi hdi => by
    have e : i = j := by
      by_cases e : i = j
      · exact e
      · exact (hc.dist i j oi oj hoi hoj e x hdi hx).elim
    subst e
    rw [hj]; simp
  let A : Nat -> Prop := fun t => (∀ i oi, ops[i]? = some oi -> oi.dst = some t -> S i = decide (i < j)) /\ oj.dst ≠ some t
  have hAcl : ∀ t, A t -> ∀ j' w ag ls, sj.φ t = .spec j' w ag ls -> A j' := fun t ht j' want ag ls hs => by
    rw [hlike.1] at hs
    by_cases hex : ∃ i oi, ops[i]? = some oi /\ oi.dst = some t /\ i < j
    · obtain ⟨i, oi, hoi, hdi, hij⟩ := hex
      obtain ⟨ri, si, si', g1, g2, g3, _⟩ := hrun.at 0 i oi (by simpa using hoi)
      have hoki := pvStep_ok g2
      have e : (fold (fun i => decide (i < j)) ops.toList rs 0 st0).φ t = ri.val := by
        have := fold_add (view_φ t) (S := fun k => decide (k < j) && decide (k ≠ i)) (S' := fun k => decide (k < j)) (j := i) (oj := oi) (rj := ri) (by simp) (by simpa using hij) (fun k hk => by simp [hk]) ops.toList rs 0 i st0 (by omega) (by simpa using hoi) g1 (fun _ k ok rk hk h1 h2 h3 h4 => hc.dist i k oi ok hoi (by simpa using h1) (by omega) t hdi h4)
        rw [this]
        show putP _ oi.dst ri.val t = _
        rw [hdi, putP_at]
      rw [e] at hs
      obtain ⟨hgs, _⟩ := hoki.spec j' want ag ls hs
      obtain ⟨i0, b0, og, q1, q2, q3⟩ := gslot_some hgs
      have hSi : S i = true := by rw [ht.1 i oi hoi hdi]; simpa using hij
      have hw0 := hc.grd i oi hoi i0 b0 q1
      have hS0 : S i0 = true := waits_in hcl (i + 1) i (by omega) oi hoi (hcl i oi hoi hSi) i0 hw0
      have hi0 : i0 < i := by
        refine waits_in (S := fun k => decide (k < i)) (fun k ok hk1 hk2 e he1 he2 => ?_) (i + 1) i (by omega) oi hoi (fun e he1 he2 => ?_) i0 hw0 |> fun h => by simpa using h
        · have := hc.on k ok hk1 e he1 he2
          simp at hk2 ⊢; omega
        · have := hc.on i oi hoi e he1 he2
          simpa using this
      refine ⟨fun k ok hok hdk => ?_, fun e => ?_⟩
      · have : k = i0 := by
          by_cases e : k = i0
          · exact e
          · exact (hc.dist k i0 ok og hok q2 e j' hdk q3).elim
        subst this
        rw [hS0, decide_eq_true (by omega)]
      · exact hc.dist i0 j og oj q2 hoj (by omega) j' q3 e
    · exfalso
      have e : (fold (fun i => decide (i < j)) ops.toList rs 0 st0).φ t = st0.φ t := fold_keep (view_φ t) ops.toList rs 0 st0 fun i o ri h1 h2 h3 h4 => hex ⟨i, o, by simpa using h1, h4, by simpa using h3⟩
      rw [e] at hs
      exact hst0 t j' want ag ls hs
  have hlooks : ∀ t, t ∈ oj.looksAt ops -> A t := fun t ht => by
    refine ⟨fun i oi hoi hdi => ?_, fun e => hc.self j oj hoj t e ht⟩
    by_cases e : S i = decide (i < j)
    · exact e
    · exfalso
      obtain ⟨ri, si, si', g1, g2, g3, _⟩ := hrun.at 0 i oi (by simpa using hoi)
      rcases hcmp i oi ri hoi g1 e with ⟨_, _, ha⟩ | ⟨_, _, ha⟩
      · exact (ha.looks t hdi).1 ht
      · exact ha.back t hdi ht
  have hmem : ∀ t, hasN (spOf ops S) t = true -> oj.dst ≠ some t := fun t ht e => by
    obtain ⟨i, o, h1, h2, h3⟩ := mem_spOf.1 ht
    have := hself t e i o h1 h3
    rw [h2] at this
    have hij : i < j := by simpa using this.symm
    exact hc.dist i j o oj h1 hoj (by omega) t h3 e
  have hM : MRel F g ⟨(fold S ops.toList rs 0 st0).φ, (fold S ops.toList rs 0 st0).L, (fold S ops.toList rs 0 st0).O, sj.kn.filter (fun p => decide (A p.1)), spOf ops S, (fold S ops.toList rs 0 st0).fr⟩ (tm a) w := by
    refine h.rel.knMore (st := mkSt ops S rs st0) fun t b hk => ?_
    rw [knows_filter (A := fun t => decide (A t))] at hk
    split at hk
    · rename_i hA
      exact facts (A := A) (X := mkSt ops S rs st0) (φ := sj.φ) h.rel.slots (fun t ht => hφS t ht.1) hAcl (hknok (by rw [hkn0]; exact .nil)) t b (of_decide_eq_true hA) hk
    · cases hk
  have hF : Foot oj.dst rc sj ⟨(fold S ops.toList rs 0 st0).φ, (fold S ops.toList rs 0 st0).L, (fold S ops.toList rs 0 st0).O, sj.kn.filter (fun p => decide (A p.1)), spOf ops S, (fold S ops.toList rs 0 st0).fr⟩ := by
    refine ⟨hLS, fun t ht => hOS t (.inr ?_), hOS _ (.inl rfl), fun x hx => hfrS x (hself x hx), fun x hx => Bool.eq_false_iff.2 fun e => hmem x e hx, fun x hx => ?_⟩
    · unfold Rec.toks
      simp [ht]
    · obtain ⟨hx1, hx2⟩ := hasN_out.1 (hasN_iff.2 hx)
      by_cases hex : ∃ i oi, ops[i]? = some oi /\ oi.dst = some x /\ i < j /\ S i = false
      · obtain ⟨i, oi, hoi, hdi, hij, hSi⟩ := hex
        obtain ⟨ri, si, si', g1, g2, g3, _⟩ := hrun.at 0 i oi (by simpa using hoi)
        rcases hcmp i oi ri hoi g1 (by rw [hSi, decide_eq_true hij]; simp) with ⟨_, _, ha⟩ | ⟨h1, _, ha⟩
        · exact (ha.looks x hdi).2
        · omega
      · refine hok.ment x (hasN_iff.1 (hasN_out.2 ⟨?_, hx2⟩))
        rw [<- hfrS x fun i oi hoi hdi => ?_]
        · exact hx1
        · rcases Nat.lt_trichotomy i j with hlt | heq | hgt
          · rw [decide_eq_true hlt]
            cases hSi : S i with
            | true => rfl
            | false => exact (hex ⟨i, oi, hoi, hdi, hlt, hSi⟩).elim
          · subst heq
            rw [hj]; simp
          · rw [decide_eq_false (by omega)]
            cases hSi : S i with
            | false => rfl
            | true =>
              obtain ⟨ri, si, si', g1, g2, g3, _⟩ := hrun.at 0 i oi (by simpa using hoi)
              have := fold_out (S := S) ops.toList rs 0 i oi ri st0 (by simpa using hoi) g1 (by rw [Nat.zero_add]; exact hSi) hdi
              rw [show hasN (fold S ops.toList rs 0 st0).fr x = true from hx1] at this
              cases this
  obtain ⟨s', g1, g2, g3⟩ := pvStep_at (A := A) (X := ⟨(fold S ops.toList rs 0 st0).φ, (fold S ops.toList rs 0 st0).L, (fold S ops.toList rs 0 st0).O, sj.kn.filter (fun p => decide (A p.1)), spOf ops S, (fold S ops.toList rs 0 st0).fr⟩) ⟨fun t ht => hφS t ht.1, fun t ht => by rw [knows_filter (A := fun t => decide (A t)), decide_eq_true ht], hAcl⟩ hlooks (fun x hx => ⟨by rw [knows_filter (A := fun t => decide (A t)), decide_eq_false fun h => h.2 hx], fun h => h.2 hx⟩) hF hstep
  refine pvStep_sound (Q := Q) hE ⟨h.size, h.defers, hM⟩ hd g1 fun a' w' g' rc' st' hC hAR hl => ?_
  injection hC with hC
  obtain ⟨e1, e2⟩ := Prod.mk.inj hC
  have e1 := e1.symm
  have e2 := e2.symm
  subst e1; subst e2
  refine hN a' w' g' ⟨hAR.size, hAR.defers, ?_⟩ hl
  have hj' : S' j = true := (hS' j).2 (.inr rfl)
  have hSS : ∀ i, i ≠ j -> S' i = S i := fun i hi => by
    rw [Bool.eq_iff_iff, hS']
    exact ⟨fun h => h.resolve_right hi, .inl⟩
  have hadd : ∀ {β : Type} {f : PSt -> β} {T : Option Nat -> Rec -> Prop}, View f T -> (T oj.dst rc -> ∀ i o ri, j < i -> ops[i]? = some o -> rs[i]? = some ri -> S i = true -> ¬ T o.dst ri) -> f (fold S' ops.toList rs 0 st0) = f (appR oj.dst rc (fold S ops.toList rs 0 st0)) := fun hf hT =>
    fold_add hf hj hj' hSS ops.toList rs 0 j st0 (by omega) (by simpa using hoj) hrc fun ht i o ri h1 h2 h3 h4 => hT ht i o ri h1 (by simpa using h2) h3 (by rw [Nat.zero_add] at h4; exact h4)
  have hap : ∀ i o ri, j < i -> ops[i]? = some o -> rs[i]? = some ri -> S i = true -> Apart ops oj o rc ri := fun i o ri h1 h2 h3 h4 => hc.apart j i oj o rc ri h1 hoj h2 hrc h3 (hnot i o h2 h4)
  have f1 : ∀ t, (fold S' ops.toList rs 0 st0).φ t = putP (fold S ops.toList rs 0 st0).φ oj.dst rc.val t := fun t => hadd (view_φ t) fun ht i o ri h1 h2 h3 h4 h5 => hc.dist j i oj o hoj h2 (by omega) t ht h5
  have f2 : ∀ k, (fold S' ops.toList rs 0 st0).L k = putL (fold S ops.toList rs 0 st0).L rc.loc k := fun k => hadd (view_L k) fun ht i o ri h1 h2 h3 h4 h5 => ((hap i o ri h1 h2 h3 h4).keys k ht).1 h5
  have f3 : ∀ t, (fold S' ops.toList rs 0 st0).O t = putO (fold S ops.toList rs 0 st0).O rc.born rc.gone t := fun t => hadd (view_O t) fun ht i o ri h1 h2 h3 h4 h5 => (hap i o ri h1 h2 h3 h4).toks t (by unfold Rec.toks; rcases ht with ht | ht <;> simp [ht]) (by unfold Rec.toks; rcases h5 with h5 | h5 <;> simp [h5])
  have f4 : ∀ x, hasN (fold S' ops.toList rs 0 st0).fr x = hasN (outN oj.dst (fold S ops.toList rs 0 st0).fr) x := fun x => hadd (view_fr x) fun ht i o ri h1 h2 h3 h4 h5 => hc.dist j i oj o hoj h2 (by omega) x ht h5
  refine hAR.rel.relike (g2.1.trans (funext fun t => (f1 t).symm)) (g2.2.1.trans (funext fun t => (f2 t).symm)) (g2.2.2.1.trans (funext fun t => (f3 t).symm)) (fun x hx => ?_) (fun i t want ag ls hs => ?_) fun t b hk => by cases hk
  · rw [g2.2.2.2 x]
    have hx' : hasN (fold S' ops.toList rs 0 st0).fr x = true := hx
    rw [f4 x] at hx'
    exact hx'
  · have hs' : (fold S' ops.toList rs 0 st0).φ i = .spec t want ag ls := hs
    rw [f1 i] at hs'
    have hst : s'.φ i = .spec t want ag ls := by rw [g2.1]; exact hs'
    have hsp := hAR.rel.sp i t want ag ls hst
    show hasN (spOf ops S') t = true
    rcases g3 t hsp with h1 | h1
    · obtain ⟨i, o, q1, q2, q3⟩ := mem_spOf.1 (show hasN (spOf ops S) t = true from h1)
      exact mem_spOf.2 ⟨i, o, q1, (hS' i).2 (.inl q2), q3⟩
    · obtain ⟨i0, b0, og, q1, q2, q3⟩ := gslot_some h1
      exact mem_spOf.2 ⟨i0, og, q2, (hS' i0).2 (.inl (hdone i0 (hc.grd j oj hoj i0 b0 q1))), q3⟩
end
section
variable {E : Env} {F : Fr} {R : Type} {r : R}
section
variable {ops : Array Oper} {listed : Array Bool}
theorem getD_tf (i : Nat) (hi : i < listed.size) : listed.getD i true = listed.getD i false := by
 rw [Array.getD_eq_getD_getElem?, Array.getD_eq_getD_getElem?]
 simp [hi]
theorem ready_mem {i : Nat} : i ∈ Region.ready .any ops listed ↔ i < ops.size /\ listed.getD i true = false /\ ∃ o, ops[i]? = some o /\ ∀ e ∈ o.after.toList, Region.binds .any e = true -> listed.getD e.on false = true := by
 unfold Region.ready
 rw [List.mem_filter, List.mem_range]
 refine and_congr_right fun hi => ?_
 rw [Bool.and_eq_true, Bool.not_eq_true']
 refine and_congr_right fun _ => ?_
 have ho : ops[i]? = some ops[i] := by simp [hi]
 rw [ho]
 rw [Option.map_some, Option.getD_some, <- Array.all_toList, List.all_eq_true]
 constructor
 ·intro h
  refine ⟨_, rfl, fun e he hb => ?_⟩
  have := h e he
  rw [hb] at this
  simpa using this
 ·rintro ⟨o, h1, h2⟩ e he
  injection h1 with h1
  subst h1
  cases hb : Region.binds .any e with
  | false => rfl
  | true => simpa using h2 e he hb
theorem ready_nil {rs : List Rec} (hc : Chk ops rs) (hs : listed.size = ops.size) (h : Region.ready .any ops listed = []) : ∀ (n j : Nat), j < n -> j < ops.size -> listed.getD j false = true
 | 0, _, hn, _ => by omega
 | n + 1, j, hn, hj => by
  cases hl : listed.getD j false with
  | true => rfl
  | false =>
   exfalso
   have ho : ops[j]? = some ops[j] := by simp [hj]
   have : j ∈ Region.ready .any ops listed := ready_mem.2 ⟨hj, by rw [getD_tf j (by omega)]; exact hl, _, ho, fun e he hb => by
    have hlt := hc.on j _ ho e he hb
    exact ready_nil hc hs h n e.on (by omega) (by omega)⟩
   rw [h] at this
   cases this
theorem setB_get {i k : Nat} (hi : i < listed.size) : (listed.setIfInBounds i true).getD k false = true ↔ listed.getD k false = true \/ k = i := by
 rw [Array.getD_eq_getD_getElem?, Array.getD_eq_getD_getElem?, Array.getElem?_setIfInBounds]
 by_cases e : i = k
 ·subst e
  simp [hi]
 ·rw [if_neg e]
  exact ⟨.inl, fun h => h.resolve_right fun e' => e e'.symm⟩
end
theorem draw_walk (hE : E.okF F) {ops : Array Oper} {M : Nat -> Prop} {g0 : Gh} {a0 : Act} {w0 : World} {Q : Exit -> Act -> World -> Prop} (hd : ∀ o ∈ ops.toList, ∀ x, o.dst = some x -> x < F.n /\ M x) {rs : List Rec} {st0 s : PSt} (hrun : Run E ops ops.toList st0 rs s) (hc : Chk ops rs) (hst0 : ∀ i t want ag ls, st0.φ i ≠ .spec t want ag ls) (hkn0 : st0.kn = [])
    (hQ : ∀ S a' w' g', (∀ i, i < ops.size -> S i = true) -> AR F g' (mkSt ops S rs st0) a' w' -> Lft M (fun _ => False) g0 a0 w0 g' a' w' -> Q .normal a' w') : ∀ (fuel : Nat) (U : List Nat) (listed : Array Bool) (g : Gh) (a : Act) (w : World), U.length <= fuel -> listed.size = ops.size -> (∀ i, i < ops.size -> listed.getD i false = false -> i ∈ U) ->
    (∀ j o, ops[j]? = some o -> listed.getD j false = true -> ∀ e ∈ o.after.toList, Region.binds .any e = true -> listed.getD e.on false = true) -> AR F g (mkSt ops (fun i => listed.getD i false) rs st0) a w -> Lft M (fun _ => False) g0 a0 w0 g a w -> wpAny E.P .any ops Q fuel listed a w
  | 0, U, listed, g, a, w, hU, hs, hm, hcl, h, hl => by
    have hall : ∀ i, i < ops.size -> listed.getD i false = true := fun i hi => by
      cases e : listed.getD i false with
      | true => rfl
      | false =>
        have := hm i hi e
        have hU : U = [] := List.eq_nil_of_length_eq_zero (by omega)
        rw [hU] at this
        cases this
    refine wpAny_done ?_ (hQ _ a w g hall h hl) 0
    refine List.eq_nil_iff_forall_not_mem.2 fun i hi => ?_
    obtain ⟨h1, h2, _⟩ := ready_mem.1 hi
    rw [getD_tf i (by omega), hall i h1] at h2
    cases h2
  | fuel + 1, U, listed, g, a, w, hU, hs, hm, hcl, h, hl => by
    refine ⟨fun hr => hQ _ a w g (fun i hi => ready_nil hc hs hr (i + 1) i (by omega) hi) h hl, fun i hi => ?_⟩
    obtain ⟨h1, h2, o, ho, h3⟩ := ready_mem.1 hi
    have hS : listed.getD i false = false := by rw [<- getD_tf i (by omega)]; exact h2
    have hmem : o ∈ ops.toList := List.mem_of_getElem? (i := i) (by simpa using ho)
    have hw : Way E ops o a w (wpAny E.P .any ops Q fuel (listed.setIfInBounds i true)) Q :=
      draw_step hE hrun hc hst0 hkn0 (S := fun i => listed.getD i false) (S' := fun k => (listed.setIfInBounds i true).getD k false) (j := i) hS (fun k => setB_get (by omega)) hcl ho h3 (fun x hx => (hd o hmem x hx).1) h fun a' w' g' h' hl' => by
        refine draw_walk hE hd hrun hc hst0 hkn0 hQ fuel (U.erase i) (listed.setIfInBounds i true) g' a' w' ?_ (by simpa using hs) (fun k hk hk' => ?_) (fun k ok hk hk' e he hb => ?_) h' (hl.trans (hl'.mono (fun x hx => (hd o hmem x hx).2) fun _ h => h))
        · have := List.length_erase_of_mem (hm i h1 hS)
          omega
        · have hne : k ≠ i := fun e => by
            have := (setB_get (listed := listed) (i := i) (k := k) (by omega)).2 (.inr e)
            rw [this] at hk'
            cases hk'
          refine (List.mem_erase_of_ne hne).2 (hm k hk (Bool.eq_false_iff.2 fun e => ?_))
          have := (setB_get (listed := listed) (i := i) (k := k) (by omega)).2 (.inl e)
          rw [this] at hk'
          cases hk'
        · refine (setB_get (by omega)).2 (.inl ?_)
          rcases (setB_get (by omega)).1 hk' with h4 | h4
          · exact hcl k ok hk h4 e he hb
          · subst h4
            rw [ho] at hk
            cases hk
            exact h3 e he hb
    unfold wpOp
    rw [ho]
    show if Region.wanted o (yielded ops a.tmps) then _ else _
    unfold Way at hw
    split
    · rename_i hy
      rw [if_pos hy] at hw
      exact .inl hw
    · rename_i hy
      rw [if_neg hy] at hw
      exact hw
theorem draw_sound (hE : E.okF F) {id : Nat} {ops : Array Oper} {M : Nat -> Prop} {g : Gh} {st : PSt} {a : Act} {w : World} {K : PSt -> Option R} {Q : Exit -> Act -> World -> Prop} (hd : ∀ o ∈ ops.toList, ∀ x, o.dst = some x -> x < F.n /\ M x)
    (h : AR F g (sanSt (madeBy ops.toList) st) a w) (hv : pvOps E ops ops.toList [] (sanSt (madeBy ops.toList) st) (fun tr s => match E.P.follows .mixedOrders && okDraw ops tr with | true => K s | false => none) = some r)
    (hQ : ∀ a' w' g' st', K st' = some r -> AR F g' st' a' w' -> Lft M (fun _ => False) g a w g' a' w' -> Q .normal a' w') : (Code.region id ops true).wp E.P Q a w := by
  obtain ⟨rs, s, hC, hrun⟩ := pvOps_run _ _ _ _ hv
  rw [List.nil_append] at hC
  split at hC
  · rename_i hb
    rw [Bool.and_eq_true] at hb
    have hc := okDraw_chk (by rw [hrun.len]; simp) hb.2
    have hst0 : ∀ i t want ag ls, (sanSt (madeBy ops.toList) st).φ i ≠ .spec t want ag ls := fun i t want ag ls e => by
      have e : sanP (madeBy ops.toList) (st.φ i) = .spec t want ag ls := e
      unfold sanP at e
      split at e
      · cases e
      · cases e
      · split at e <;> cases e
      · split at e <;> cases e
      · split at e <;> cases e
      · cases e
      · cases e
      · cases e
      · cases e
    refine wp_region_any hb.1 (draw_walk hE (g0 := g) (a0 := a) (w0 := w) hd hrun hc hst0 rfl (fun S a' w' g' hall hAR hl => ?_) ops.size (List.range ops.size) (Array.replicate ops.size false) g a _ (by simp) (by simp) (fun i hi _ => List.mem_range.2 hi) (fun j o ho hj => ?_) ?_ ?_)
    · obtain ⟨g1, g2, g3⟩ := hrun.last 0
      have hlk : Like s (fold S ops.toList rs 0 (sanSt (madeBy ops.toList) st)) := g1.trans (fold_like (like_refl _) fun i hi => by rw [Nat.zero_add, hall i (by simpa using hi)])
      refine hQ a' w' g' s hC ⟨hAR.size, hAR.defers, ?_⟩ hl
      refine hAR.rel.relike (X := s) hlk.1.symm hlk.2.1.symm hlk.2.2.1.symm (fun x hx => ?_) (g3 fun i t want ag ls hs => (hst0 i t want ag ls hs).elim) fun t b hk => ?_
      · show hasN (fold S ops.toList rs 0 (sanSt (madeBy ops.toList) st)).fr x = true
        rw [<- hlk.2.2.2 x]; exact hx
      · exact facts (A := fun _ => True) (X := mkSt ops S rs (sanSt (madeBy ops.toList) st)) (φ := s.φ) hAR.rel.slots (fun t _ => by rw [hlk.1]; rfl) (fun _ _ _ _ _ _ _ => trivial) (g2 .nil) t b trivial hk
    · exfalso
      rw [Array.getD_eq_getD_getElem?] at hj
      by_cases hlt : j < ops.size <;> simp [hlt] at hj
    · have e : fold (fun i => (Array.replicate ops.size false).getD i false) ops.toList rs 0 (sanSt (madeBy ops.toList) st) = sanSt (madeBy ops.toList) st := fold_none _ _ _ _ fun i _ => by
        rw [Array.getD_eq_getD_getElem?]
        by_cases hlt : i < ops.size <;> simp [hlt]
      refine ⟨h.size, h.defers, h.rel.drew.relike (by unfold mkSt; rw [e]) (by unfold mkSt; rw [e]) (by unfold mkSt; rw [e]) (fun x hx => ?_) (fun i t want ag ls hs => ?_) fun t b hk => by cases hk⟩
      · unfold mkSt at hx
        rw [e] at hx
        exact hx
      · unfold mkSt at hs
        rw [e] at hs
        exact (hst0 i t want ag ls hs).elim
    · exact ⟨fun _ _ => rfl, fun _ _ => rfl, fun a u hc hC => ⟨hc, hC⟩, fun _ _ _ _ => rfl⟩
  · cases hC
end
section
variable {E : Env} {F : Fr} {g g' g1 : Gh} {st st' s : PSt} {a a' : Act} {w w' : World}
def Xt.out : Xt -> Exit
 | .normal => .normal
 | .exit id => .exit id
 | .ret => .ret
 | .goto l => .goto l
theorem stamp_rel {tmf : Nat -> Value} (n : Ann) (h : MRel F g st tmf w) : ∃ g', MRel F g' (stampSt n st) tmf w /\ g'.C = g.C /\ g'.ρ = g.ρ /\ (∀ k σ, σ ≠ n.id -> g'.H k σ = g.H k σ) /\ ∀ k ls, keptL n st k = some (n.id, ls) -> g'.H k n.id = ls := by
  let g' : Gh := ⟨g.C, g.blk, g.ρ, fun k σ => match Nat.beq σ n.id with | true => (match keptL n st k with | some (_, ls) => ls | none => g.H k σ) | false => g.H k σ⟩
  have hH : ∀ k ls, keptL n st k = some (n.id, ls) -> g'.H k n.id = ls := fun k ls hk => by
    show (match Nat.beq n.id n.id with | true => (match keptL n st k with | some (_, ls) => ls | none => g.H k n.id) | false => g.H k n.id) = ls
    rw [show Nat.beq n.id n.id = true by simp, hk]
  have Lc : ∀ k σ ls, (stampSt n st).L k = some (σ, ls) -> (keptL n st k = some (σ, ls) /\ σ = n.id /\ ∃ σ0 l0, st.L k = some (σ0, l0) /\ ls = l0.map unown) \/ (keptL n st k = none /\ st.L k = some (σ, ls)) := fun k σ ls hL => by
    have hL' : (match keptL n st k with | some x => some x | none => st.L k) = some (σ, ls) := hL
    split at hL'
    · rename_i x hx
      rw [hL'] at hx
      obtain ⟨e1, _, σ0, l0, e3, e4⟩ := keptL_some hx
      exact .inl ⟨hx, e1, σ0, l0, e3, e4⟩
    · rename_i hx
      exact .inr ⟨hx, hL'⟩
  have Ls : ∀ k y, (stampSt n st).L k = some y -> ∃ z, st.L k = some z := fun k y hy => by
    rcases Lc k y.1 y.2 hy with ⟨_, _, σ0, l0, h0, _⟩ | ⟨_, h0⟩ <;> exact ⟨_, h0⟩
  refine ⟨g', ⟨h.fr, fun i => ?_, fun k σ ls hL => ?_, fun k σ ls hL hσ => ?_, h.kn, h.sp, fun d hd => ?_, fun i k hk => ?_, h.blk0, h.blkI, fun k b j x hk hb hL => ?_, h.blkS, h.blkW, fun j j' x x' hj hj' he => ?_⟩, rfl, rfl, fun k σ hne => ?_, hH⟩
  · exact (h.slots i).gw (g' := g') (Gw.refl w g.C) (fun k _ ho => ⟨ho, rfl, fun b _ => ⟨rfl, fun _ => Iff.rfl⟩⟩) (fun _ _ => rfl) (fun _ _ _ _ _ => rfl)
  · have gwl : ∀ ls, LocOk F g w st.O ls (g.ρ k) -> LocOk F g' w st.O ls (g'.ρ k) := fun ls hl => by
      obtain ⟨cur, T, c1, c2, c3, c4⟩ := hl
      exact ⟨cur, T, c1, c2, c3.gw (g' := g') (Gw.refl w g.C) fun k E e x _ ho => ⟨ho, rfl, fun b _ => ⟨rfl, fun _ => Iff.rfl⟩⟩, c4⟩
    rcases Lc k σ ls hL with ⟨_, _, σ0, l0, h0, rfl⟩ | ⟨_, h0⟩
    · exact gwl _ (LocOk.less unown_less (h.locals k σ0 l0 h0))
    · exact gwl _ (h.locals k σ ls h0)
  · rcases Lc k σ ls hL with ⟨hk, e, σ0, l0, h0, rfl⟩ | ⟨hk, h0⟩
    · subst e
      exact ⟨hH k _ hk, fun l hl => by obtain ⟨z, _, rfl⟩ := List.mem_map.1 hl; exact unown_D z⟩
    · obtain ⟨q1, q2⟩ := h.hist k σ ls h0 hσ
      refine ⟨?_, q2⟩
      show (match Nat.beq σ n.id with | true => (match keptL n st k with | some (_, ls) => ls | none => g.H k σ) | false => g.H k σ) = ls
      rw [hk]
      cases Nat.beq σ n.id <;> exact q1
  · obtain ⟨f1, f2, f3, f4⟩ := h.fresh d hd
    refine ⟨f1, fun k σ ls hL => ?_, f3, ?_⟩
    · rcases Lc k σ ls hL with ⟨_, _, σ0, l0, h0, rfl⟩ | ⟨_, h0⟩
      · have hgen : ∀ q : List Leaf, mentLs d (q.map unown) = false := by
          intro q
          induction q with
          | nil => rfl
          | cons y q ih =>
            show (mentL d (unown y) || mentLs d (q.map unown)) = false
            rw [ih]
            cases y <;> rfl
        exact hgen l0
      · exact f2 k σ ls h0
    · show (match keptL n st d with | some x => some x | none => st.L d) = none
      have : keptL n st d = none := by
        unfold keptL
        rw [f4]
        cases hasN n.kept d <;> rfl
      rw [this]; exact f4
  · have := h.locL i k hk
    show (match keptL n st k with | some x => some x | none => st.L k).isSome = true
    cases keptL n st k with
    | some x => rfl
    | none => exact this
  · obtain ⟨z, hz⟩ := Ls j x hL
    exact h.blkL k b j z hk hb hz
  · obtain ⟨z, hz⟩ := Ls j x hj
    obtain ⟨z', hz'⟩ := Ls j' x' hj'
    exact h.ρI j j' z z' hz hz' he
  · show (match Nat.beq σ n.id with | true => _ | false => g.H k σ) = _
    rw [show Nat.beq σ n.id = false from Bool.eq_false_iff.2 fun e => hne (Nat.eq_of_beq_eq_true e)]
theorem kept_same {n : Ann} {I : Nat -> Prop} {M : Nat -> Prop} (hid : n.id ≠ 0) (hI : ¬ I n.id) (hl : Lft M I g1 a w g' a' w') (h1 : ∀ k ls, keptL n st k = some (n.id, ls) -> g1.H k n.id = ls) (h : MRel F g' s (tm a') w') (hk : keptOk n s = true) :
  ∀ k, k ∈ n.kept -> ∀ σ0 ls0, st.L k = some (σ0, ls0) -> ∃ σ ls, s.L k = some (σ, ls) /\ ls.map unown = ls0.map unown := fun k hkm σ0 ls0 h0 => by
 unfold keptOk at hk
 have h2 := List.all_eq_true.1 hk k hkm
 split at h2
 ·rename_i σ ls hL
  have e : σ = n.id := Nat.eq_of_beq_eq_true h2
  subst e
  obtain ⟨q1, q2⟩ := h.hist k _ ls hL hid
  have hkl : keptL n st k = some (n.id, ls0.map unown) := by
   unfold keptL
   rw [hasN_iff.2 hkm, h0]
  have q3 := h1 k _ hkl
  have q4 := hl.H k n.id hI hid
  refine ⟨_, ls, hL, ?_⟩
  rw [map_D (fun l hl => unown_same hl) q2, <- q1, q4, q3]
 ·cases h2
theorem iter_of_loop {S R : Type} {body : S -> Option (R ⊕ S)} {x : S} {r : R} (h : loopC body x = some r) : ∃ n, iterC body n x = some r := by
 unfold loopC at h
 split at h
 ·rename_i hex
  injection h with h
  obtain ⟨n, hn⟩ := hex.choose_spec
  exact ⟨n, by rw [hn, h]⟩
 ·cases h
theorem iter_succ {S R : Type} {body : S -> Option (R ⊕ S)} {k : Nat} {x : S} {r : R} (h : iterC body (k + 1) x = some r) : body x = some (.inl r) \/ ∃ x2, body x = some (.inr x2) /\ iterC body k x2 = some r := by
 unfold iterC at h
 split at h
 ·cases h
 ·rename_i r' hb
  injection h with h
  exact .inl (by rw [hb, h])
 ·rename_i x2 hb
  exact .inr ⟨x2, hb, h⟩
theorem join_some {S R : Type} {A : Option (R ⊕ S)} {B : S -> Option R} {r : R} (h : joinC A B = some r) : A = some (.inl r) \/ ∃ x, A = some (.inr x) /\ B x = some r := by
 unfold joinC at h
 split at h
 ·cases h
 ·injection h with h; exact .inl (by rw [h])
 ·rename_i x; exact .inr ⟨x, rfl, h⟩
structure LftX (x : Xt) (M I : Nat -> Prop) (g : Gh) (a : Act) (w : World) (g' : Gh) (a' : Act) (w' : World) : Prop where
 ρ : ∀ k, ¬ M k -> g'.ρ k = g.ρ k
 lft : x ≠ .ret -> Lft M I g a w g' a' w'
theorem Lft.x {M I : Nat -> Prop} {x : Xt} (h : Lft M I g a w g' a' w') : LftX x M I g a w g' a' w' := ⟨h.ρ, fun _ => h⟩
theorem LftX.mono {M I M' I' : Nat -> Prop} {x : Xt} (h : LftX x M I g a w g' a' w') (hm : ∀ i, M i -> M' i) (hi : ∀ i, I i -> I' i) : LftX x M' I' g a w g' a' w' :=
 ⟨fun i hn => h.ρ i fun e => hn (hm i e), fun e => (h.lft e).mono hm hi⟩
theorem Lft.transX {M I : Nat -> Prop} {x : Xt} {g2 : Gh} {a2 : Act} {w2 : World} (h : Lft M I g a w g' a' w') (k : LftX x M I g' a' w' g2 a2 w2) : LftX x M I g a w g2 a2 w2 :=
 ⟨fun i hi => (k.ρ i hi).trans (h.ρ i hi), fun e => h.trans (k.lft e)⟩
def HandS (P : Program) (F : Fr) (c : Code) (h : PSt -> Option (Bool × PSt)) : Prop :=
 ∀ (g : Gh) (st st' : PSt) (a : Act) (w : World), AR F g st a w -> h st = some (true, st') -> c.wp P (fun e a' w' => e = .ret /\ ∃ g', AR F g' st' a' w' /\ g'.ρ = g.ρ) a w
def PostC {R : Type} (F : Fr) (M I : Nat -> Prop) (g : Gh) (a : Act) (w : World) (Q : Xt -> PSt -> Option R) (r : R) : Exit -> Act -> World -> Prop := fun e a' w' => ∃ x st' g', e = x.out /\ Q x st' = some r /\ AR F g' st' a' w' /\ LftX x M I g a w g' a' w'
theorem PostC.mono {R R' : Type} {M I M' I' : Nat -> Prop} {Q : Xt -> PSt -> Option R} {r : R} {Q' : Xt -> PSt -> Option R'} {r' : R'} {g0 : Gh} {a0 : Act} {w0 : World} {e : Exit} (h : PostC F M I g a w Q r e a' w') (hm : ∀ i, M i -> M' i) (hi : ∀ i, I i -> I' i) (hf : Lft M' I' g0 a0 w0 g a w)
  (hq : ∀ x s, Q x s = some r -> Q' x s = some r') : PostC F M' I' g0 a0 w0 Q' r' e a' w' := by
 obtain ⟨x, st', g', he, hQ, hR, hl⟩ := h
 exact ⟨x, st', g', he, hq _ _ hQ, hR, hf.transX (hl.mono hm hi)⟩
theorem wp_scope_ghost {P : Program} {Q : Exit -> Act -> World -> Prop} {a : Act} {w : World} {c : Code} (I : Nat -> Nat -> Act -> World -> Prop)
  (first : c.wp P (fun e a' w' => match e with | .goto l => (∃ n, I l n a' w' /\ (findLabel c l).isSome = true) \/ (findLabel c l = none /\ Q (.goto l) a' w') | e => Q e a' w') a w)
  (pass : ∀ l n a w rest, findLabel c l = some rest -> I l n a w -> rest.wp P (fun e a' w' => match e with | .goto l' => (∃ n', n' < n /\ I l' n' a' w' /\ (findLabel c l').isSome = true) \/ (findLabel c l' = none /\ Q (.goto l') a' w') | e => Q e a' w') a w) : (Code.scope c).wp P Q a w := by
 intro b k cs
 have key : ∀ n l rest a w, findLabel c l = some rest -> I l n a w -> ∃ e a' w', Q e a' w' /\ Arrives P (lone (b.at a (.code rest :: .inScope c :: k)) cs w) b k cs e a' w' := by
  intro n
  induction n using Nat.strongRecOn with
  | _ n ih =>
   intro l rest a w hf hI
   obtain ⟨e, a₁, w₁, hq, harr⟩ := pass l n a w rest hf hI b (.inScope c :: k) cs
   cases e with
   | normal => exact ⟨.normal, a₁, w₁, hq, Steps.trans harr (.one step_inScope)⟩
   | exit id => exact ⟨.exit id, a₁, w₁, hq, fun k' hk => harr k' (by simp [exitTo, hk])⟩
   | goto l' =>
    rcases hq with ⟨n', hlt, hI', hs⟩ | ⟨hn, hq⟩
    ·obtain ⟨rest', hr'⟩ := Option.isSome_iff_exists.1 hs
     obtain ⟨e₂, a₂, w₂, hq₂, harr₂⟩ := ih n' hlt l' rest' a₁ w₁ hr' hI'
     exact ⟨e₂, a₂, w₂, hq₂, .of_steps (harr _ (by simp [gotoIn, hr'])) harr₂⟩
    ·exact ⟨.goto l', a₁, w₁, hq, fun k' hk => harr k' (by simp [gotoIn, hn, hk])⟩
   | ret => exact ⟨_, a₁, w₁, hq, harr⟩
   | panic ch => exact ⟨_, a₁, w₁, hq, harr⟩
   | outgrown => exact ⟨_, a₁, w₁, hq, harr⟩
 obtain ⟨e, a₁, w₁, hq, harr⟩ := first b (.inScope c :: k) cs
 cases e with
 | normal => exact ⟨.normal, a₁, w₁, hq, .head step_scope (Steps.trans harr (.one step_inScope))⟩
 | exit id => exact ⟨.exit id, a₁, w₁, hq, fun k' hk => .head step_scope (harr k' (by simp [exitTo, hk]))⟩
 | goto l' =>
  rcases hq with ⟨n', hI', hs⟩ | ⟨hn, hq⟩
  ·obtain ⟨rest', hr'⟩ := Option.isSome_iff_exists.1 hs
   obtain ⟨e₂, a₂, w₂, hq₂, harr₂⟩ := key n' l' rest' a₁ w₁ hr' hI'
   exact ⟨e₂, a₂, w₂, hq₂, .of_steps (.head step_scope (harr _ (by simp [gotoIn, hr']))) harr₂⟩
  ·exact ⟨.goto l', a₁, w₁, hq, fun k' hk => .head step_scope (harr k' (by simp [gotoIn, hn, hk]))⟩
 | ret => exact ⟨_, a₁, w₁, hq, .of_steps (.one step_scope) harr⟩
 | panic ch => exact ⟨_, a₁, w₁, hq, .of_steps (.one step_scope) harr⟩
 | outgrown => exact ⟨_, a₁, w₁, hq, .of_steps (.one step_scope) harr⟩
theorem codeLabs_none : ∀ {c : Code} {l : Nat}, hasN (codeLabs c) l = false -> findLabel c l = none := by
 intro c
 induction c with
 | seq a b iha ihb =>
  intro l h
  have h' : ¬ l ∈ codeLabs a ++ codeLabs b := fun hm => by rw [show hasN (codeLabs (.seq a b)) l = true from hasN_iff.2 hm] at h; cases h
  unfold findLabel
  rw [iha (Bool.eq_false_iff.2 fun e => h' (List.mem_append_left _ (hasN_iff.1 e)))]
  exact ihb (Bool.eq_false_iff.2 fun e => h' (List.mem_append_right _ (hasN_iff.1 e)))
 | label l' =>
  intro l h
  unfold findLabel
  rw [if_neg]
  intro e
  have : l' = l := by simpa using e
  rw [this, show hasN (codeLabs (.label l)) l = true from hasN_iff.2 List.mem_cons_self] at h
  cases h
 | _ => intro l h; rfl
theorem codeLabs_some : ∀ {c : Code} {l : Nat}, hasN (codeLabs c) l = true -> ∃ rest, findLabel c l = some rest := by
 intro c
 induction c with
 | seq a b iha ihb =>
  intro l h
  unfold findLabel
  cases hf : findLabel a l with
  | some rest => exact ⟨_, rfl⟩
  | none =>
   rcases List.mem_append.1 (hasN_iff.1 h) with h | h
   ·obtain ⟨rest, hr⟩ := iha (hasN_iff.2 h)
    rw [hr] at hf; cases hf
   ·exact ihb (hasN_iff.2 h)
 | label l' =>
  intro l h
  have : l = l' := by simpa [codeLabs] using hasN_iff.1 h
  subst this
  unfold findLabel
  rw [if_pos (by simp)]
  exact ⟨_, rfl⟩
 | _ => intro l h; cases h
theorem labs_none : ∀ {c : AC} {l : Nat}, hasN c.labs l = false -> findLabel c.erase l = none
 | .seq a b, l, h => by
  have h' : ¬ l ∈ a.labs ++ b.labs := fun hm => by rw [show hasN (AC.seq a b).labs l = true from hasN_iff.2 hm] at h; cases h
  have ha := labs_none (c := a) (l := l) (Bool.eq_false_iff.2 fun e => h' (List.mem_append_left _ (hasN_iff.1 e)))
  have hb := labs_none (c := b) (l := l) (Bool.eq_false_iff.2 fun e => h' (List.mem_append_right _ (hasN_iff.1 e)))
  show findLabel (.seq a.erase b.erase) l = none
  unfold findLabel
  rw [ha]; exact hb
 | .join n a b, l, h => by
  have h' : ¬ l ∈ a.labs ++ b.labs := fun hm => by rw [show hasN (AC.join n a b).labs l = true from hasN_iff.2 hm] at h; cases h
  have ha := labs_none (c := a) (l := l) (Bool.eq_false_iff.2 fun e => h' (List.mem_append_left _ (hasN_iff.1 e)))
  have hb := labs_none (c := b) (l := l) (Bool.eq_false_iff.2 fun e => h' (List.mem_append_right _ (hasN_iff.1 e)))
  show findLabel (.seq a.erase b.erase) l = none
  unfold findLabel
  rw [ha]; exact hb
 | .label l', l, h => by
  show findLabel (.label l') l = none
  unfold findLabel
  rw [if_neg]
  intro e
  have : l' = l := by simpa using e
  rw [this, show hasN (AC.label l).labs l = true from hasN_iff.2 List.mem_cons_self] at h
  cases h
 | .skip, _, _ => rfl
 | .region _ _ _, _, _ => rfl
 | .cond _ _ _, _, _ => rfl
 | .block _ _, _, _ => rfl
 | .loop _ _, _, _ => rfl
 | .exit _, _, _ => rfl
 | .ret, _, _ => rfl
 | .goto _, _, _ => rfl
 | .scope _ _, _, _ => rfl
 | .hand _ _, _, h => codeLabs_none h
theorem labs_some : ∀ {c : AC} {l : Nat}, hasN c.labs l = true -> ∃ rest, findLabel c.erase l = some rest
 | .seq a b, l, h => by
  show ∃ rest, findLabel (.seq a.erase b.erase) l = some rest
  unfold findLabel
  cases hf : findLabel a.erase l with
  | some rest => exact ⟨_, rfl⟩
  | none =>
   rcases List.mem_append.1 (hasN_iff.1 h) with h | h
   ·obtain ⟨rest, hr⟩ := labs_some (c := a) (hasN_iff.2 h)
    rw [hr] at hf; cases hf
   ·exact labs_some (c := b) (hasN_iff.2 h)
 | .join n a b, l, h => by
  show ∃ rest, findLabel (.seq a.erase b.erase) l = some rest
  unfold findLabel
  cases hf : findLabel a.erase l with
  | some rest => exact ⟨_, rfl⟩
  | none =>
   rcases List.mem_append.1 (hasN_iff.1 h) with h | h
   ·obtain ⟨rest, hr⟩ := labs_some (c := a) (hasN_iff.2 h)
    rw [hr] at hf; cases hf
   ·exact labs_some (c := b) (hasN_iff.2 h)
 | .label l', l, h => by
  have : l = l' := by simpa [AC.labs] using hasN_iff.1 h
  subst this
  show ∃ rest, findLabel (.label l) l = some rest
  unfold findLabel
  rw [if_pos (by simp)]
  exact ⟨_, rfl⟩
 | .skip, _, h => by cases h
 | .region _ _ _, _, h => by cases h
 | .cond _ _ _, _, h => by cases h
 | .block _ _, _, h => by cases h
 | .loop _ _, _, h => by cases h
 | .exit _, _, h => by cases h
 | .ret, _, h => by cases h
 | .goto _, _, h => by cases h
 | .scope _ _, _, h => by cases h
 | .hand _ _, _, h => codeLabs_some h
def PVS (E : Env) (F : Fr) (c : AC) : Prop := ∀ {R : Type} (Q : Xt -> PSt -> Option R) (st : PSt) (r : R) (g : Gh) (a : Act) (w : World), c.good = true -> (∀ d ∈ c.dsts, d < F.n) -> AR F g st a w -> pv E c Q st = some r ->
  c.erase.wp E.P (PostC F (· ∈ c.dsts) (· ∈ c.ids) g a w Q r) a w
def FRS (E : Env) (F : Fr) (c : AC) : Prop := ∀ {R : Type} (l : Nat) (rest : Code) (Q : Xt -> PSt -> Option R) (st : PSt) (r : R) (g : Gh) (a : Act) (w : World), findLabel c.erase l = some rest -> c.labOk = true -> c.good = true -> (∀ d ∈ c.dsts, d < F.n) -> AR F g st a w -> pvFrom E c l Q st = some r ->
  rest.wp E.P (PostC F (· ∈ c.dsts) (· ∈ c.ids) g a w Q r) a w
theorem frs_none {c : AC} (h : ∀ l, findLabel c.erase l = none) : FRS E F c := fun l rest Q st r g a w hf => by rw [h l] at hf; cases hf
theorem pv_both (hE : E.okF F) : ∀ c : AC, (∀ p ∈ c.hands, HandS E.P F p.1 p.2) -> PVS E F c /\ FRS E F c := by
  intro c
  induction c with
  | hand c h =>
    intro hh
    refine ⟨?_, ?_⟩
    · intro R Q st r g a w _ _ hA hv
      unfold pv at hv
      split at hv
      · rename_i b s hs
        obtain ⟨rfl, hv⟩ := chk_some hv
        refine Code.wp_mono (fun e a' w' hp => ?_) (hh (c, h) List.mem_cons_self g st s a w hA hs)
        obtain ⟨rfl, g', h1, h2⟩ := hp
        exact ⟨.ret, s, g', rfl, hv, h1, fun k _ => by rw [h2], fun e => (e rfl).elim⟩
      · cases hv
    · intro R l rest Q st r g a w hf hlo hg hd h hv
      unfold pvFrom at hv
      cases hv
  | skip =>
    intro _
    refine ⟨?_, frs_none fun _ => rfl⟩
    intro R Q st r g a w _ _ h hv; exact wp_skip ⟨.normal, st, g, rfl, hv, h, (Lft.refl _ _).x⟩
  | exit id =>
    intro _
    refine ⟨?_, frs_none fun _ => rfl⟩
    intro R Q st r g a w _ _ h hv; exact wp_exit ⟨.exit id, st, g, rfl, hv, h, (Lft.refl _ _).x⟩
  | ret =>
    intro _
    refine ⟨?_, frs_none fun _ => rfl⟩
    intro R Q st r g a w _ _ h hv; exact wp_ret ⟨.ret, st, g, rfl, hv, h, (Lft.refl _ _).x⟩
  | region id ops d =>
    intro _
    refine ⟨?_, frs_none fun _ => rfl⟩
    intro R Q st r g a w _ hd h hv
    have hmem : ∀ o ∈ ops.toList, ∀ x, o.dst = some x -> x < F.n /\ x ∈ (AC.region id ops d).dsts := fun o ho x hx => by
      have hm : x ∈ (AC.region id ops d).dsts := List.mem_filterMap.2 ⟨o, ho, hx⟩
      exact ⟨hd x hm, hm⟩
    have h' : AR F g (sanSt (madeBy ops.toList) st) a w := ⟨h.size, h.defers, san_rel _ h.rel⟩
    cases d with
    | true =>
      refine draw_sound (M := (· ∈ (AC.region id ops true).dsts)) hE hmem h' hv fun a' w' g' st' hK h2 hl => ⟨.normal, st', g', rfl, hK, h2, (hl.mono (fun _ h => h) (fun _ h => h.elim)).x⟩
    | false =>
      refine wp_region_list (pvOps_sound (M := (· ∈ (AC.region id ops false).dsts)) hE ops.toList [] g _ a w _ hmem h' hv fun a' w' g' tr' st' hK h2 hl => ⟨.normal, st', g', rfl, hK, h2, (hl.mono (fun _ h => h) (fun _ h => h.elim)).x⟩)
  | seq x y ihx ihy =>
    intro hh
    obtain ⟨ihx, fx⟩ := ihx fun p hp => hh p (List.mem_append_left _ hp)
    obtain ⟨ihy, fy⟩ := ihy fun p hp => hh p (List.mem_append_right _ hp)
    refine ⟨?_, ?_⟩
    case refine_2 =>
      intro R l rest Q st r g a w hf hlo hg hd h hv
      simp only [AC.good, Bool.and_eq_true] at hg
      simp only [AC.labOk, Bool.and_eq_true] at hlo
      have hdx : ∀ d ∈ x.dsts, d < F.n := fun d hm => hd d (List.mem_append_left _ hm)
      have hdy : ∀ d ∈ y.dsts, d < F.n := fun d hm => hd d (List.mem_append_right _ hm)
      have hf : (match findLabel x.erase l with | some rest => some (.seq rest y.erase) | none => findLabel y.erase l) = some rest := hf
      unfold pvFrom at hv
      cases hx : hasN x.labs l with
      | false =>
        rw [hx] at hv
        rw [labs_none hx] at hf
        exact Code.wp_mono (fun e a2 w2 hp => hp.mono (fun i hi => List.mem_append_right _ hi) (fun i hi => List.mem_append_right _ hi) (Lft.refl _ _) fun _ _ q => q) (fy l rest Q st r g a w hf hlo.2 hg.2 hdy h hv)
      | true =>
        rw [hx] at hv
        obtain ⟨r1, hr1⟩ := labs_some hx
        rw [hr1] at hf
        injection hf with hf
        subst hf
        refine wp_seq (Code.wp_mono (fun e a' w' hp => ?_) (fx l r1 _ st r g a w hr1 hlo.1 hg.1 hdx h hv))
        obtain ⟨xt, st', g', rfl, hQ, hR, hl⟩ := hp
        have hl' : LftX xt (· ∈ (AC.seq x y).dsts) (· ∈ (AC.seq x y).ids) g a w g' a' w' := hl.mono (fun i hi => List.mem_append_left _ hi) (fun i hi => List.mem_append_left _ hi)
        cases xt with
        | exit i => exact ⟨.exit i, st', g', rfl, hQ, hR, hl'⟩
        | goto i => exact ⟨.goto i, st', g', rfl, hQ, hR, hl'⟩
        | ret => exact ⟨.ret, st', g', rfl, hQ, hR, hl'⟩
        | normal =>
          refine Code.wp_mono (fun e a2 w2 hp => ?_) (ihy Q st' r g' a' w' hg.2 hdy hR hQ)
          exact hp.mono (fun i hi => List.mem_append_right _ hi) (fun i hi => List.mem_append_right _ hi) (hl'.lft (by intro e; cases e)) fun _ _ q => q
    intro R Q st r g a w hg hd h hv
    simp only [AC.good, Bool.and_eq_true] at hg
    have hdx : ∀ d ∈ x.dsts, d < F.n := fun d hm => hd d (List.mem_append_left _ hm)
    have hdy : ∀ d ∈ y.dsts, d < F.n := fun d hm => hd d (List.mem_append_right _ hm)
    refine wp_seq (Code.wp_mono (fun e a' w' hp => ?_) (ihx _ st r g a w hg.1 hdx h hv))
    obtain ⟨xt, st', g', rfl, hQ, hR, hl⟩ := hp
    have hl' : LftX xt (· ∈ (AC.seq x y).dsts) (· ∈ (AC.seq x y).ids) g a w g' a' w' := hl.mono (fun i hi => List.mem_append_left _ hi) (fun i hi => List.mem_append_left _ hi)
    cases xt with
    | exit i => exact ⟨.exit i, st', g', rfl, hQ, hR, hl'⟩
    | goto i => exact ⟨.goto i, st', g', rfl, hQ, hR, hl'⟩
    | ret => exact ⟨.ret, st', g', rfl, hQ, hR, hl'⟩
    | normal =>
      refine Code.wp_mono (fun e a2 w2 hp => ?_) (ihy Q st' r g' a' w' hg.2 hdy hR hQ)
      exact hp.mono (fun i hi => List.mem_append_right _ hi) (fun i hi => List.mem_append_right _ hi) (hl'.lft (by intro e; cases e)) fun _ _ q => q
  | join n x y ihx ihy =>
    intro hh
    obtain ⟨ihx, fx⟩ := ihx fun p hp => hh p (List.mem_append_left _ hp)
    obtain ⟨ihy, fy⟩ := ihy fun p hp => hh p (List.mem_append_right _ hp)
    refine ⟨?_, ?_⟩
    case refine_2 =>
      intro R l rest Q st r g a w hf hlo hg hd h hv
      unfold pvFrom at hv
      cases hv
    intro R Q st r g a w hg hd h hv
    simp only [AC.good, Bool.and_eq_true] at hg
    obtain ⟨⟨⟨⟨hg1, hg2⟩, hg3⟩, hg4⟩, hg5⟩ := hg
    have hdx : ∀ d ∈ x.dsts, d < F.n := fun d hm => hd d (List.mem_append_left _ hm)
    have hdy : ∀ d ∈ y.dsts, d < F.n := fun d hm => hd d (List.mem_append_right _ hm)
    have hM : ∀ d, d ∈ x.dsts -> n.has d = true := fun d hm => List.all_eq_true.1 hg3 d hm
    simp only [okIds, Bool.and_eq_true, Bool.not_eq_true'] at hg4
    have hid : n.id ≠ 0 := fun e => by have h4 := hg4.1; rw [e] at h4; cases h4
    have hnot : ¬ n.id ∈ x.ids := fun hm => by have h4 := hg4.2; rw [hasN_iff.2 hm] at h4; cases h4
    obtain ⟨g1, hrel1, hC1, hρ1, hH1, hK1⟩ := stamp_rel n h.rel
    have h1 : AR F g1 (stampSt n st) a w := ⟨h.size, h.defers, hrel1⟩
    have tolx : ∀ {g' a' w'}, Lft (· ∈ x.dsts) (· ∈ x.ids) g1 a w g' a' w' -> Lft (· ∈ x.dsts) (· ∈ (AC.join n x y).ids) g a w g' a' w' := fun {g' a' w'} hl =>
      ⟨fun i hi => hl.tmp i hi, fun k hk => (hl.ρ k hk).trans (by rw [hρ1]), by have := hl.gw; rw [hC1] at this; exact this,
        fun k σ hσ h0 => (hl.H k σ (fun hm => hσ (List.mem_cons_of_mem _ (List.mem_append_left _ hm))) h0).trans (hH1 k σ fun e => hσ (by rw [e]; exact List.mem_cons_self))⟩
    have tol : ∀ {g' a' w'}, Lft (· ∈ x.dsts) (· ∈ x.ids) g1 a w g' a' w' -> Lft (· ∈ (AC.join n x y).dsts) (· ∈ (AC.join n x y).ids) g a w g' a' w' := fun {g' a' w'} hl => (tolx hl).mono (fun i hi => List.mem_append_left _ hi) (fun _ hi => hi)
    have tolX : ∀ {x' g' a' w'}, LftX x' (· ∈ x.dsts) (· ∈ x.ids) g1 a w g' a' w' -> LftX x' (· ∈ (AC.join n x y).dsts) (· ∈ (AC.join n x y).ids) g a w g' a' w' := fun {x' g' a' w'} hl => ⟨fun k hk => (hl.ρ k fun hm => hk (List.mem_append_left _ hm)).trans (by rw [hρ1]), fun e => tol (hl.lft e)⟩
    rcases join_some hv with hv | ⟨xd, hv, hb⟩
    · refine wp_seq (Code.wp_mono (fun e a' w' hp => ?_) (ihx _ _ _ g1 a w hg1 hdx h1 hv))
      obtain ⟨xt, st', g', rfl, hQ, hR, hl⟩ := hp
      cases xt with
      | exit i =>
        obtain ⟨q, hq, he⟩ := Option.map_eq_some_iff.1 hQ
        injection he with he
        subst he
        exact ⟨.exit i, st', g', rfl, hq, hR, tolX hl⟩
      | goto i =>
        obtain ⟨q, hq, he⟩ := Option.map_eq_some_iff.1 hQ
        injection he with he
        subst he
        exact ⟨.goto i, st', g', rfl, hq, hR, tolX hl⟩
      | ret =>
        obtain ⟨q, hq, he⟩ := Option.map_eq_some_iff.1 hQ
        injection he with he
        subst he
        exact ⟨.ret, st', g', rfl, hq, hR, tolX hl⟩
      | normal =>
        exfalso
        simp only at hQ
        split at hQ
        · obtain ⟨q, hq, he⟩ := Option.map_eq_some_iff.1 hQ
          cases he
        · cases hQ
    · refine wp_seq (Code.wp_mono (fun e a' w' hp => ?_) (ihx _ _ _ g1 a w hg1 hdx h1 hv))
      obtain ⟨xt, st', g', rfl, hQ, hR, hl⟩ := hp
      cases xt with
      | exit i => obtain ⟨q, hq, he⟩ := Option.map_eq_some_iff.1 hQ; cases he
      | goto i => obtain ⟨q, hq, he⟩ := Option.map_eq_some_iff.1 hQ; cases he
      | ret => obtain ⟨q, hq, he⟩ := Option.map_eq_some_iff.1 hQ; cases he
      | normal =>
        simp only at hQ
        split at hQ
        · rename_i hko
          obtain ⟨q, hq, he⟩ := Option.map_eq_some_iff.1 hQ
          injection he with he
          subst he
          split at hb
          · rename_i hd' hhd
            have hl := hl.lft (by intro e; cases e)
            have hks := kept_same hid hnot hl hK1 hR.rel hko
            obtain ⟨g2, hrel2, e1, e2, e3, e4⟩ := head_rel (M := (· ∈ x.dsts)) (n := n) h.rel (tolx hl) hM hR.rel hq hks hhd
            refine Code.wp_mono (fun e a2 w2 hp => ?_) (ihy Q hd' r g2 a' w' hg2 hdy ⟨hR.size, hR.defers, hrel2⟩ hb)
            refine hp.mono (fun i hi => List.mem_append_right _ hi) (fun i hi => List.mem_cons_of_mem _ (List.mem_append_right _ hi)) ?_ fun _ _ q => q
            exact (tol hl).trans ⟨fun _ _ => rfl, fun k _ => by rw [e2], by rw [e1]; exact Gw.refl _ _, fun k σ hσ _ => e3 k σ fun e => hσ (by rw [e]; exact List.mem_cons_self)⟩
          · cases hb
        · cases hQ
  | label l' =>
    intro _
    refine ⟨?_, ?_⟩
    · intro R Q st r g a w _ _ h hv; exact wp_label ⟨.normal, st, g, rfl, hv, h, (Lft.refl _ _).x⟩
    · intro R l rest Q st r g a w hf _ _ _ h hv
      have hf : (if l' == l then some Code.skip else none) = some rest := hf
      split at hf
      · injection hf with hf
        subst hf
        exact wp_skip ⟨.normal, st, g, rfl, hv, h, (Lft.refl _ _).x⟩
      · cases hf
  | goto l =>
    intro _
    refine ⟨?_, frs_none fun _ => rfl⟩
    intro R Q st r g a w _ _ h hv; exact wp_goto ⟨.goto l, st, g, rfl, hv, h, (Lft.refl _ _).x⟩
  | scope n b ih =>
    intro hh
    obtain ⟨ih, fb⟩ := ih hh
    refine ⟨?_, frs_none fun _ => rfl⟩
    intro R Q st r g a w hg hd h hv
    simp only [AC.good, Bool.and_eq_true] at hg
    obtain ⟨⟨⟨⟨hg1, hg3⟩, hg4⟩, hg5⟩, hg6⟩ := hg
    have hM : ∀ d, d ∈ b.dsts -> n.has d = true := fun d hm => List.all_eq_true.1 hg3 d hm
    simp only [okIds, Bool.and_eq_true, Bool.not_eq_true'] at hg4
    have hid : n.id ≠ 0 := fun e => by have h4 := hg4.1; rw [e] at h4; cases h4
    have hnot : ¬ n.id ∈ b.ids := fun hm => by have h4 := hg4.2; rw [hasN_iff.2 hm] at h4; cases h4
    obtain ⟨g1, hrel1, hC1, hρ1, hH1, hK1⟩ := stamp_rel n h.rel
    have h1 : AR F g1 (stampSt n st) a w := ⟨h.size, h.defers, hrel1⟩
    have tol : ∀ {g' a' w'}, Lft (· ∈ b.dsts) (· ∈ b.ids) g1 a w g' a' w' -> Lft (· ∈ b.dsts) (· ∈ (AC.scope n b).ids) g a w g' a' w' := fun {g' a' w'} hl =>
      ⟨fun i hi => hl.tmp i hi, fun k hk => (hl.ρ k hk).trans (by rw [hρ1]), by have := hl.gw; rw [hC1] at this; exact this,
        fun k σ hσ h0 => (hl.H k σ (fun hm => hσ (List.mem_cons_of_mem _ hm)) h0).trans (hH1 k σ fun e => hσ (by rw [e]; exact List.mem_cons_self))⟩
    have tolX : ∀ {x' g' a' w'}, LftX x' (· ∈ b.dsts) (· ∈ b.ids) g1 a w g' a' w' -> LftX x' (· ∈ b.dsts) (· ∈ (AC.scope n b).ids) g a w g' a' w' := fun {x' g' a' w'} hl => ⟨fun k hk => (hl.ρ k hk).trans (by rw [hρ1]), fun e => tol (hl.lft e)⟩
    rcases join_some hv with hv | ⟨⟨l0, x0⟩, hv, hb⟩
    · refine wp_scope_ghost (fun _ _ _ _ => False) (Code.wp_mono (fun e a' w' hp => ?_) (ih _ _ _ g1 a w hg1 hd h1 hv)) (fun _ _ _ _ _ _ hF => hF.elim)
      obtain ⟨xt, st', g', rfl, hQ, hR, hl⟩ := hp
      cases xt with
      | exit i =>
        obtain ⟨q, hq, he⟩ := Option.map_eq_some_iff.1 hQ
        injection he with he
        subst he
        exact ⟨.exit i, st', g', rfl, hq, hR, tolX hl⟩
      | normal =>
        obtain ⟨q, hq, he⟩ := Option.map_eq_some_iff.1 hQ
        injection he with he
        subst he
        exact ⟨.normal, st', g', rfl, hq, hR, tolX hl⟩
      | ret =>
        obtain ⟨q, hq, he⟩ := Option.map_eq_some_iff.1 hQ
        injection he with he
        subst he
        exact ⟨.ret, st', g', rfl, hq, hR, tolX hl⟩
      | goto i =>
        simp only at hQ
        cases hi : hasN b.labs i with
        | true =>
          rw [hi] at hQ
          simp only at hQ
          split at hQ
          · obtain ⟨q, hq, he⟩ := Option.map_eq_some_iff.1 hQ
            cases he
          · cases hQ
        | false =>
          rw [hi] at hQ
          obtain ⟨q, hq, he⟩ := Option.map_eq_some_iff.1 hQ
          injection he with he
          subst he
          exact .inr ⟨labs_none hi, .goto i, st', g', rfl, hq, hR, tolX hl⟩
    · obtain ⟨k0, hk0⟩ := iter_of_loop hb
      obtain ⟨B, hk0, hB⟩ : ∃ B : Nat × n.D -> Option (R ⊕ (Nat × n.D)), iterC B k0 (l0, x0) = some r /\ ∀ p, B p = (match headSt n st p.2 with
        | some h => pvFrom E b p.1 (fun x s => match x with
          | .goto l => match hasN b.labs l with
            | true => match keptOk n s with | true => (collect n s).map fun y => .inr (l, y) | false => none
            | false => (Q (.goto l) s).map .inl
          | x => (Q x s).map .inl) h
        | none => none) := ⟨_, hk0, fun _ => rfl⟩
      have mk : ∀ {g' a' w' s x hd'}, AR F g' s a' w' -> Lft (· ∈ b.dsts) (· ∈ (AC.scope n b).ids) g a w g' a' w' -> collect n s = some x -> (∀ k, k ∈ n.kept -> ∀ σ0 ls0, st.L k = some (σ0, ls0) -> ∃ σ ls, s.L k = some (σ, ls) /\ ls.map unown = ls0.map unown) -> headSt n st x = some hd' ->
          ∃ g2, AR F g2 hd' a' w' /\ Lft (· ∈ b.dsts) (· ∈ (AC.scope n b).ids) g a w g2 a' w' /\ ∀ k ls, keptL n st k = some (n.id, ls) -> g2.H k n.id = ls := fun {g' a' w' s x hd'} hs hl hc hks hhd => by
        obtain ⟨g2, hrel2, e1, e2, e3, e4⟩ := head_rel (M := (· ∈ b.dsts)) (n := n) h.rel hl hM hs.rel hc hks hhd
        exact ⟨g2, ⟨hs.size, hs.defers, hrel2⟩, hl.trans ⟨fun _ _ => rfl, fun k _ => by rw [e2], by rw [e1]; exact Gw.refl _ _, fun k σ hσ _ => e3 k σ fun e => hσ (by rw [e]; exact List.mem_cons_self)⟩, e4⟩
      refine wp_scope_ghost (fun l k a' w' => ∃ x s g', iterC B k (l, x) = some r /\ AR F g' s a' w' /\ Lft (· ∈ b.dsts) (· ∈ (AC.scope n b).ids) g a w g' a' w' /\ collect n s = some x /\ (∀ k, k ∈ n.kept -> ∀ σ0 ls0, st.L k = some (σ0, ls0) -> ∃ σ ls, s.L k = some (σ, ls) /\ ls.map unown = ls0.map unown))
        (Code.wp_mono (fun e a' w' hp => ?_) (ih _ _ _ g1 a w hg1 hd h1 hv)) ?_
      · obtain ⟨xt, st', g', rfl, hQ, hR, hl⟩ := hp
        cases xt with
        | exit i => obtain ⟨q, hq, he⟩ := Option.map_eq_some_iff.1 hQ; cases he
        | normal => obtain ⟨q, hq, he⟩ := Option.map_eq_some_iff.1 hQ; cases he
        | ret => obtain ⟨q, hq, he⟩ := Option.map_eq_some_iff.1 hQ; cases he
        | goto i =>
          simp only at hQ
          cases hi : hasN b.labs i with
          | false =>
            rw [hi] at hQ
            obtain ⟨q, hq, he⟩ := Option.map_eq_some_iff.1 hQ
            cases he
          | true =>
            rw [hi] at hQ
            simp only at hQ
            split at hQ
            · rename_i hko
              obtain ⟨q, hq, he⟩ := Option.map_eq_some_iff.1 hQ
              injection he with he
              injection he with he1 he2
              subst he1; subst he2
              obtain ⟨r1, hr1⟩ := labs_some hi
              exact .inl ⟨k0, ⟨q, st', g', hk0, hR, tol (hl.lft (by intro e; cases e)), hq, kept_same hid hnot (hl.lft (by intro e; cases e)) hK1 hR.rel hko⟩, by rw [hr1]; rfl⟩
            · cases hQ
      · rintro l k a' w' rest hf ⟨x, s, g', hit, hs, hl, hc, hks⟩
        cases k with
        | zero => cases hit
        | succ k =>
          rcases iter_succ hit with hbody | ⟨⟨l2, x2⟩, hbody, hit'⟩ <;> rw [hB] at hbody
          · cases hhd : headSt n st x with
            | none => rw [hhd] at hbody; cases hbody
            | some hd' =>
              rw [hhd] at hbody
              simp only at hbody
              obtain ⟨g2, h2, hl2, hK2⟩ := mk hs hl hc hks hhd
              refine Code.wp_mono (fun e a2 w2 hp => ?_) (fb l rest _ hd' _ g2 a' w' hf hg6 hg1 hd h2 hbody)
              obtain ⟨xt, st2, g3, rfl, hQ, hR, hl3⟩ := hp
              have hl4 := hl2.transX (hl3.mono (fun _ hi => hi) (fun _ hi => List.mem_cons_of_mem _ hi))
              cases xt with
              | exit i =>
                obtain ⟨q, hq, he⟩ := Option.map_eq_some_iff.1 hQ
                injection he with he
                subst he
                exact ⟨.exit i, st2, g3, rfl, hq, hR, hl4⟩
              | normal =>
                obtain ⟨q, hq, he⟩ := Option.map_eq_some_iff.1 hQ
                injection he with he
                subst he
                exact ⟨.normal, st2, g3, rfl, hq, hR, hl4⟩
              | ret =>
                obtain ⟨q, hq, he⟩ := Option.map_eq_some_iff.1 hQ
                injection he with he
                subst he
                exact ⟨.ret, st2, g3, rfl, hq, hR, hl4⟩
              | goto i =>
                simp only at hQ
                cases hi : hasN b.labs i with
                | true =>
                  rw [hi] at hQ
                  simp only at hQ
                  split at hQ
                  · obtain ⟨q, hq, he⟩ := Option.map_eq_some_iff.1 hQ
                    cases he
                  · cases hQ
                | false =>
                  rw [hi] at hQ
                  obtain ⟨q, hq, he⟩ := Option.map_eq_some_iff.1 hQ
                  injection he with he
                  subst he
                  exact .inr ⟨labs_none hi, .goto i, st2, g3, rfl, hq, hR, hl4⟩
          · cases hhd : headSt n st x with
            | none => rw [hhd] at hbody; cases hbody
            | some hd' =>
              rw [hhd] at hbody
              simp only at hbody
              obtain ⟨g2, h2, hl2, hK2⟩ := mk hs hl hc hks hhd
              refine Code.wp_mono (fun e a2 w2 hp => ?_) (fb l rest _ hd' _ g2 a' w' hf hg6 hg1 hd h2 hbody)
              obtain ⟨xt, st2, g3, rfl, hQ, hR, hl3⟩ := hp
              have hl4 := hl2.transX (hl3.mono (fun _ hi => hi) (fun _ hi => List.mem_cons_of_mem _ hi))
              cases xt with
              | exit i => obtain ⟨q, hq, he⟩ := Option.map_eq_some_iff.1 hQ; cases he
              | normal => obtain ⟨q, hq, he⟩ := Option.map_eq_some_iff.1 hQ; cases he
              | ret => obtain ⟨q, hq, he⟩ := Option.map_eq_some_iff.1 hQ; cases he
              | goto i =>
                simp only at hQ
                cases hi : hasN b.labs i with
                | false =>
                  rw [hi] at hQ
                  obtain ⟨q, hq, he⟩ := Option.map_eq_some_iff.1 hQ
                  cases he
                | true =>
                  rw [hi] at hQ
                  simp only at hQ
                  split at hQ
                  · rename_i hko
                    obtain ⟨q, hq, he⟩ := Option.map_eq_some_iff.1 hQ
                    injection he with he
                    injection he with he1 he2
                    subst he1; subst he2
                    obtain ⟨r1, hr1⟩ := labs_some hi
                    exact .inl ⟨k, Nat.lt_succ_self k, ⟨q, st2, g3, hit', hR, hl4.lft (by intro e; cases e), hq, kept_same hid hnot (hl3.lft (by intro e; cases e)) hK2 hR.rel hko⟩, by rw [hr1]; rfl⟩
                  · cases hQ
  | cond c x y ihx ihy =>
    intro hh
    obtain ⟨ihx, fx⟩ := ihx fun p hp => hh p (List.mem_append_left _ hp)
    obtain ⟨ihy, fy⟩ := ihy fun p hp => hh p (List.mem_append_right _ hp)
    refine ⟨?_, frs_none fun _ => rfl⟩
    intro R Q st r g a w hg hd h hv
    simp only [AC.good, Bool.and_eq_true] at hg
    have hdx : ∀ d ∈ x.dsts, d < F.n := fun d hm => hd d (List.mem_append_left _ hm)
    have hdy : ∀ d ∈ y.dsts, d < F.n := fun d hm => hd d (List.mem_append_right _ hm)
    unfold pv at hv
    split at hv
    · rename_i b hb
      have hc := evS_rel h.rel c
      rw [hb] at hc
      have hc' : a.eval c = .bool b := rel_bool hc
      have key : ∀ q : Bool, b = q -> (cond q (pv E x Q st) (pv E y Q st)) = some r -> (Code.cond c x.erase y.erase).wp E.P (PostC F (· ∈ (AC.cond c x y).dsts) (· ∈ (AC.cond c x y).ids) g a w Q r) a w := fun q e hv => by
        subst e
        cases b with
        | true => exact wp_cond_true hc' (Code.wp_mono (fun e a' w' hp => hp.mono (fun i hi => List.mem_append_left _ hi) (fun i hi => List.mem_append_left _ hi) (Lft.refl _ _) (fun _ _ q => q)) (ihx Q st r g a w hg.1 hdx h hv))
        | false => exact wp_cond_false hc' (Code.wp_mono (fun e a' w' hp => hp.mono (fun i hi => List.mem_append_right _ hi) (fun i hi => List.mem_append_right _ hi) (Lft.refl _ _) (fun _ _ q => q)) (ihy Q st r g a w hg.2 hdy h hv))
      exact key b rfl hv
    · cases hv
  | block id b ih =>
    intro hh
    obtain ⟨ih, fb⟩ := ih hh
    refine ⟨?_, frs_none fun _ => rfl⟩
    intro R Q st r g a w hg hd h hv
    refine wp_block (Code.wp_mono (fun e a' w' hp => ?_) (ih _ st r g a w hg hd h hv))
    obtain ⟨x, st', g', rfl, hQ, hr, hF⟩ := hp
    cases x with
    | normal => exact ⟨.normal, st', g', rfl, hQ, hr, hF⟩
    | ret => exact ⟨.ret, st', g', rfl, hQ, hr, hF⟩
    | goto i => exact ⟨.goto i, st', g', rfl, hQ, hr, hF⟩
    | exit i =>
      have hF' := hF.lft (by intro e; cases e)
      show (if i = id then _ else _)
      cases hb : Nat.beq i id with
      | true =>
        rw [if_pos (Nat.eq_of_beq_eq_true hb)]
        simp only [hb] at hQ
        exact ⟨.normal, st', g', rfl, hQ, hr, hF'.x⟩
      | false =>
        rw [if_neg (fun e => by rw [e] at hb; simp at hb)]
        simp only [hb] at hQ
        exact ⟨.exit i, st', g', rfl, hQ, hr, hF⟩
  | loop n b ih =>
    intro hh
    obtain ⟨ih, fb⟩ := ih hh
    refine ⟨?_, frs_none fun _ => rfl⟩
    intro R Q st r g a w hg hd h hv
    simp only [AC.good, Bool.and_eq_true] at hg
    obtain ⟨⟨⟨hg1, hg3⟩, hg4⟩, hg5⟩ := hg
    have hM : ∀ d, d ∈ b.dsts -> n.has d = true := fun d hm => List.all_eq_true.1 hg3 d hm
    simp only [okIds, Bool.and_eq_true, Bool.not_eq_true'] at hg4
    have hid : n.id ≠ 0 := fun e => by have h4 := hg4.1; rw [e] at h4; cases h4
    have hnot : ¬ n.id ∈ b.ids := fun hm => by have h4 := hg4.2; rw [hasN_iff.2 hm] at h4; cases h4
    unfold pv at hv
    split at hv
    case h_2 => cases hv
    rename_i x0 hx0
    obtain ⟨k0, hk0⟩ := iter_of_loop hv
    -- the head, from a state whose data are these
    have mk : ∀ {g' a' w' s x hd'}, AR F g' s a' w' -> Lft (· ∈ b.dsts) (· ∈ (AC.loop n b).ids) g a w g' a' w' -> collect n s = some x -> (∀ k, k ∈ n.kept -> ∀ σ0 ls0, st.L k = some (σ0, ls0) -> ∃ σ ls, s.L k = some (σ, ls) /\ ls.map unown = ls0.map unown) -> headSt n st x = some hd' ->
        ∃ g2, AR F g2 hd' a' w' /\ Lft (· ∈ b.dsts) (· ∈ (AC.loop n b).ids) g a w g2 a' w' /\ ∀ k ls, keptL n st k = some (n.id, ls) -> g2.H k n.id = ls := fun {g' a' w' s x hd'} hs hl hc hks hhd => by
      obtain ⟨g2, hrel2, e1, e2, e3, e4⟩ := head_rel (M := (· ∈ b.dsts)) (n := n) h.rel hl hM hs.rel hc hks hhd
      exact ⟨g2, ⟨hs.size, hs.defers, hrel2⟩, hl.trans ⟨fun _ _ => rfl, fun k _ => by rw [e2], by rw [e1]; exact Gw.refl _ _, fun k σ hσ _ => e3 k σ fun e => hσ (by rw [e]; exact List.mem_cons_self)⟩, e4⟩
    refine wp_loop_ghost (fun k a' w' => ∃ x s g', iterC _ k x = some r /\ AR F g' s a' w' /\ Lft (· ∈ b.dsts) (· ∈ (AC.loop n b).ids) g a w g' a' w' /\ collect n s = some x /\ (∀ k, k ∈ n.kept -> ∀ σ0 ls0, st.L k = some (σ0, ls0) -> ∃ σ ls, s.L k = some (σ, ls) /\ ls.map unown = ls0.map unown)) k0
      ⟨x0, st, g, hk0, h, Lft.refl _ _, hx0, fun k _ σ0 ls0 h0 => ⟨σ0, ls0, h0, rfl⟩⟩ ?_
    rintro k a' w' ⟨x, s, g', hit, hs, hl, hc, hks⟩
    cases k with
    | zero => cases hit
    | succ k =>
      rcases iter_succ hit with hbody | ⟨x2, hbody, hit'⟩
      · cases hhd : headSt n st x with
        | none => rw [hhd] at hbody; cases hbody
        | some hd' =>
          rw [hhd] at hbody
          simp only at hbody
          obtain ⟨g2, h2, hl2, hK2⟩ := mk hs hl hc hks hhd
          refine Code.wp_mono (fun e a2 w2 hp => ?_) (ih _ hd' _ g2 a' w' hg1 hd h2 hbody)
          obtain ⟨xt, st2, g3, rfl, hQ, hR, hl3⟩ := hp
          have hl4 := hl2.transX (hl3.mono (fun _ hi => hi) (fun _ hi => List.mem_cons_of_mem _ hi))
          cases xt with
          | exit i =>
            obtain ⟨q, hq, he⟩ := Option.map_eq_some_iff.1 hQ
            injection he with he
            subst he
            exact ⟨.exit i, st2, g3, rfl, hq, hR, hl4⟩
          | goto i =>
            obtain ⟨q, hq, he⟩ := Option.map_eq_some_iff.1 hQ
            injection he with he
            subst he
            exact ⟨.goto i, st2, g3, rfl, hq, hR, hl4⟩
          | ret =>
            obtain ⟨q, hq, he⟩ := Option.map_eq_some_iff.1 hQ
            injection he with he
            subst he
            exact ⟨.ret, st2, g3, rfl, hq, hR, hl4⟩
          | normal =>
            exfalso
            simp only at hQ
            split at hQ
            · obtain ⟨q, hq, he⟩ := Option.map_eq_some_iff.1 hQ
              cases he
            · cases hQ
      · cases hhd : headSt n st x with
        | none => rw [hhd] at hbody; cases hbody
        | some hd' =>
          rw [hhd] at hbody
          simp only at hbody
          obtain ⟨g2, h2, hl2, hK2⟩ := mk hs hl hc hks hhd
          refine Code.wp_mono (fun e a2 w2 hp => ?_) (ih _ hd' _ g2 a' w' hg1 hd h2 hbody)
          obtain ⟨xt, st2, g3, rfl, hQ, hR, hl3⟩ := hp
          have hl4 := hl2.transX (hl3.mono (fun _ hi => hi) (fun _ hi => List.mem_cons_of_mem _ hi))
          cases xt with
          | exit i => obtain ⟨q, hq, he⟩ := Option.map_eq_some_iff.1 hQ; cases he
          | goto i => obtain ⟨q, hq, he⟩ := Option.map_eq_some_iff.1 hQ; cases he
          | ret => obtain ⟨q, hq, he⟩ := Option.map_eq_some_iff.1 hQ; cases he
          | normal =>
            simp only at hQ
            split at hQ
            · rename_i hko
              obtain ⟨q, hq, he⟩ := Option.map_eq_some_iff.1 hQ
              injection he with he
              subst he
              exact ⟨k, Nat.lt_succ_self k, _, st2, g3, hit', hR, hl4.lft (by intro e; cases e), hq, kept_same hid hnot (hl3.lft (by intro e; cases e)) hK2 hR.rel hko⟩
            · cases hQ

theorem pv_sound (hE : E.okF F) (c : AC) (hh : ∀ p ∈ c.hands, HandS E.P F p.1 p.2) {R : Type} (Q : Xt -> PSt -> Option R) (st : PSt) (r : R) (g : Gh) (a : Act) (w : World) (hg : c.good = true) (hd : ∀ d ∈ c.dsts, d < F.n) (h : AR F g st a w) (hv : pv E c Q st = some r) :
  c.erase.wp E.P (PostC F (· ∈ c.dsts) (· ∈ c.ids) g a w Q r) a w := (pv_both hE c hh).1 Q st r g a w hg hd h hv

theorem run_mapM {P : Program} {α β : Type} {f : α -> Sem β} : ∀ (l : List α) (r : List β), (∀ (i : Nat) (x : α), l[i]? = some x -> ∃ y, r[i]? = some y /\ (f x).run P w = .ok y w) -> r.length = l.length -> (l.mapM f).run P w = .ok r w
 | [], r, _, hl => by
  have : r = [] := List.eq_nil_of_length_eq_zero (by simpa using hl)
  subst this; rfl
 | x :: l, [], _, hl => by simp at hl
 | x :: l, y :: r, h, hl => by
  obtain ⟨y', hy, hr⟩ := h 0 x rfl
  obtain rfl : y = y' := by simpa using hy
  rw [List.mapM_cons, Sem.run_bind, hr, Result.andThen_ok, Sem.run_bind, run_mapM l r (fun i z hz => h (i + 1) z hz) (by simpa using hl)]
  rfl
theorem resLs_rel {P : Program} (h : AR F g st a w) {rv : ResultVar} {ag : Bool} {ts : List LT} {ls : List Leaf} (hr : resLs P st rv (ag, ts) = some ls) :
  ls.length = ts.length /\ ∃ v, (match rv with | .tmp t => (pure (a.tmps.getD t undef) : Sem Value) | .cell x t => (do loadVar t (<- asAddr (a.tmps.getD x undef)))).run P w = .ok v w /\ RelV F g w st.O v ag ls := by
 cases rv with
 | tmp t =>
  have hr' : (match st.φ t with | .w ag' ls => (match bEq ag ag' && Nat.beq ls.length ts.length with | true => some ls | false => none) | _ => none) = some ls := hr
  split at hr'
  ·rename_i ag' l hp
   split at hr'
   ·rename_i hb
    simp only [Bool.and_eq_true] at hb
    injection hr' with e
    subst e
    have h1 := h.rel.slots t
    rw [hp] at h1
    rw [bEq_iff.1 hb.1]
    exact ⟨Nat.eq_of_beq_eq_true hb.2, _, rfl, h1⟩
   ·cases hr'
  ·cases hr'
 | cell x t =>
  have hr' : (match st.φ x with
   | .loc k off => match st.L k with
    | some (_, ls) => match atLs P t ls off, bEq ag (isAg P t) && (P.underlying t).isSome with | some vs, true => (match Nat.beq vs.length ts.length with | true => some vs | false => none) | _, _ => none
    | none => none
   | _ => none) = some ls := hr
  split at hr'
  case h_2 => cases hr'
  rename_i k off hp
  split at hr'
  case h_2 => cases hr'
  rename_i σ l hL
  split at hr'
  case h_2 => cases hr'
  rename_i vs hvs hb
  simp only [Bool.and_eq_true] at hb
  split at hr'
  case h_2 => cases hr'
  rename_i hlen
  injection hr' with e
  subst e
  have h1 := h.rel.slots x
  rw [hp] at h1
  have hx : a.tmps.getD x undef = .pointer (some ⟨(g.ρ k).1, (g.ρ k).2 + off, none⟩) := h1
  obtain ⟨cs, hr1, hc⟩ := loc_cells h.rel hL
  obtain ⟨p, q, rfl, hsz, hh⟩ := atLs_some hvs
  obtain ⟨c1, c2, rfl, hr2, hr3⟩ := repLs_split hr1
  have hl : c1.length = off := (repLs_len hr2).trans hsz
  obtain ⟨v, hrun, hrel⟩ := load_at (P := P) (ad := ⟨(g.ρ k).1, (g.ρ k).2 + off, none⟩) hb.2 (fun j x hj => by
   rw [add_at, Nat.add_assoc]
   exact hc _ x (by rw [List.getElem?_append_right (by omega), hl, Nat.add_sub_cancel_left]; exact hj)) hr3 hh
  refine ⟨Nat.eq_of_beq_eq_true hlen, v, ?_, by rw [bEq_iff.1 hb.1]; exact hrel⟩
  simp [hx, asAddr, hrun]
def resVal (a : Act) : ResultVar -> Sem Value
 | .tmp t => pure (a.tmps.getD t undef)
 | .cell x t => do loadVar t (<- asAddr (a.tmps.getD x undef))
theorem resAll_rel {P : Program} (h : AR F g st a w) : ∀ {rvs : List ResultVar} {rs : List (Bool × List LT)} {la : List Leaf}, resAll P st rvs rs = some la ->
  la.length = (rs.flatMap (·.2)).length /\ ∃ us : List Value, us.length = rs.length /\ us.length = rvs.length /\ (∀ (i : Nat) (x : ResultVar), rvs[i]? = some x -> ∃ y, us[i]? = some y /\ (resVal a x).run P w = .ok y w) /\
   ∀ (rest : List Leaf) (i : Nat), i < rs.length -> ∃ ag l, resAt rs (la ++ rest) i = .w ag l /\ RelV F g w st.O (us.getD i undef) ag l
 | [], [], la, hr => by
  have : la = [] := (Option.some.inj (show some [] = some la from hr)).symm
  subst this
  exact ⟨rfl, [], rfl, rfl, fun i x hx => by simp at hx, fun rest i hi => by simp at hi⟩
 | [], _ :: _, _, hr => by cases hr
 | _ :: _, [], _, hr => by cases hr
 | rv :: rvs, (ag, ts) :: rs, la, hr => by
  unfold resAll at hr
  split at hr
  ·rename_i l1 l2 h1 h2
   injection hr with hr
   subst hr
   obtain ⟨q1, v, q2, q3⟩ := resLs_rel h h1
   obtain ⟨i1, us, i2, i3, i4, i5⟩ := resAll_rel h h2
   refine ⟨by simp [q1, i1], v :: us, by simp [i2], by simp [i3], fun i x hx => ?_, fun rest i hi => ?_⟩
   ·cases i with
    | zero =>
     simp only [List.getElem?_cons_zero, Option.some.injEq] at hx
     subst hx
     refine ⟨v, rfl, ?_⟩
     cases rv <;> exact q2
    | succ i => exact i4 i x (by simpa using hx)
   ·cases i with
    | zero =>
     refine ⟨ag, l1, ?_, q3⟩
     show PV.w ag ((l1 ++ l2 ++ rest).take ts.length) = _
     rw [<- q1, List.append_assoc, List.take_left]
    | succ i =>
     obtain ⟨ag', l, e1, e2⟩ := i5 rest i (by simpa using hi)
     refine ⟨ag', l, ?_, e2⟩
     show resAt rs ((l1 ++ l2 ++ rest).drop ts.length) i = _
     rw [<- q1, List.append_assoc, List.drop_left]; exact e1
  ·cases hr
theorem inoutLs_at : ∀ {ps : List Par} {j : Nat} {lb : List Leaf}, inoutLs st ps j = some lb -> ∀ (rest : List Leaf) (k : Nat) (l : List Leaf), inoutAt ps (lb ++ rest) k = some l -> ∃ σ, st.L (j + k) = some (σ, l)
 | [], j, lb, h, rest, k, l, hk => by cases hk
 | .v ag ts :: r, j, lb, h, rest, k, l, hk => by
  cases k with
  | zero => cases hk
  | succ k =>
   obtain ⟨σ, hs⟩ := inoutLs_at (ps := r) (j := j + 1) h rest k l hk
   exact ⟨σ, by rw [<- hs]; congr 1; omega⟩
 | .m ts :: r, j, lb, h, rest, k, l, hk => by
  unfold inoutLs at h
  split at h
  ·rename_i σ ls q hL hr
   split at h
   ·rename_i hb
    have hl : ls.length = ts.length := Nat.eq_of_beq_eq_true hb
    injection h with h
    subst h
    cases k with
    | zero =>
     have hk' : some ((ls ++ q ++ rest).take ts.length) = some l := hk
     rw [<- hl, List.append_assoc, List.take_left] at hk'
     injection hk' with e
     subst e
     exact ⟨σ, hL⟩
    | succ k =>
     have hk' : inoutAt r ((ls ++ q ++ rest).drop ts.length) k = some l := hk
     rw [<- hl, List.append_assoc, List.drop_left] at hk'
     obtain ⟨σ, hs⟩ := inoutLs_at (ps := r) (j := j + 1) hr rest k l hk'
     exact ⟨σ, by rw [<- hs]; congr 1; omega⟩
   ·cases h
  ·cases h
theorem resAt_same {σ : Tok -> Tok -> Prop} : ∀ {rs : List (Bool × List LT)} {q q' : List Leaf} {i : Nat} {ag : Bool} {l : List Leaf}, SameLs σ q q' -> resAt rs q i = .w ag l -> ∃ l', resAt rs q' i = .w ag l' /\ SameLs σ l l'
 | [], _, _, _, _, _, _, h => by cases h
 | (ag0, ts) :: r, q, q', 0, ag, l, hs, h => by
  have h' : PV.w ag0 (q.take ts.length) = .w ag l := h
  injection h' with e1 e2
  subst e1; subst e2
  exact ⟨_, rfl, hs.take _⟩
 | (ag0, ts) :: r, q, q', i + 1, ag, l, hs, h => resAt_same (rs := r) (hs.drop _) h
theorem resAt_out : ∀ {rs : List (Bool × List LT)} {q : List Leaf} {i : Nat}, rs.length <= i -> resAt rs q i = .dead
 | [], _, _, _ => rfl
 | _ :: _, _, 0, h => by simp at h
 | (_, ts) :: r, q, i + 1, h => resAt_out (rs := r) (by simpa using h)
def exitG (g : Gh) (ks : List Tok) : Gh := ⟨g.C, fun t => match t with | .hd 0 j => g.blk (ks.getD j .zero) | _ => none, g.ρ, fun _ _ => []⟩
theorem exit_rel {P : Program} {s : Sig} {rvs : List ResultVar} {y : s.out.D} (h : AR F g st a w) (hr : retP P rvs s st = some y) :
  ∃ (us : List Value) (g' : Gh) (stX : PSt), us.length = s.rs.length /\ us.length = rvs.length /\ (∀ (i : Nat) (x : ResultVar), rvs[i]? = some x -> ∃ y, us[i]? = some y /\ (resVal a x).run P w = .ok y w) /\ exitSt s y = some stX /\ MRel F g' stX (fun i => us.getD i undef) w /\ g'.ρ = g.ρ := by
 unfold retP at hr
 split at hr
 case h_2 => cases hr
 rename_i la lb hla hlb
 split at hr
 case h_2 => cases hr
 rename_i ks xs htake0
 obtain ⟨htake, hno⟩ := takeAllN_some htake0
 split at hr
 case h_2 => cases hr
 rename_i hdt
 have hun : unpackD (s.outs.map LT.ty) y = xs := unpack_pack _ _ _ hr
 obtain ⟨q1, us, q2, q3, q4, q5⟩ := resAll_rel h hla
 obtain ⟨osX, hmk⟩ := mk_some (lab := Tok.hd 0) (j := 0) htake
 obtain ⟨hsame, _⟩ := take_mk (fun l _ => .inr hno) htake hmk
 have hex : exitSt s y = some ⟨resAt s.rs osX, fun k => match inoutAt s.ps (osX.drop s.nres) k with | some l => some (0, l) | none => none, fun t => hasT (.zero :: labs (Tok.hd 0) s.outs 0) t, [], [], []⟩ := by
  unfold exitSt
  rw [hun, hmk]
  rfl
 have T : Turn F g st.O F (exitG g ks) (fun t => hasT (.zero :: labs (Tok.hd 0) s.outs 0) t) (fun k k' => TokAt s.outs ks (Tok.hd 0) 0 k k' /\ st.O k = true) := by
  refine ⟨rfl, fun k k' hσ _ => ⟨hσ.2, ?_⟩, fun k k' b o _ _ _ _ hw => hw⟩
  obtain ⟨⟨i, E, e, h1, h2, rfl⟩, _⟩ := hσ
  show g.blk (ks.getD (0 + i) .zero) = _
  rw [List.getD_eq_getElem?_getD, Nat.zero_add, h2]; rfl
 have liveH : ∀ k, hasT (.zero :: labs (Tok.hd 0) s.outs 0) k = true -> k = .zero \/ ∃ i k0, k = .hd 0 i /\ ks[i]? = some k0 /\ st.O k0 = true /\ (exitG g ks).blk k = g.blk k0 := fun k hk => by
  rcases List.mem_cons.1 (hasT_iff.1 hk) with rfl | hm
  ·exact .inl rfl
  ·obtain ⟨i, E, e, h1, rfl⟩ := labs_mem.1 hm
   obtain ⟨k0, r1, r2⟩ := take_ks htake i E e h1
   refine .inr ⟨i, k0, by rw [Nat.zero_add], r1, r2, ?_⟩
   show g.blk (ks.getD (0 + i) .zero) = _
   rw [List.getD_eq_getElem?_getD, Nat.zero_add, r1]; rfl
 have locH : ∀ k y, (match inoutAt s.ps (osX.drop s.nres) k with | some l => some ((0 : Nat), l) | none => none) = some y -> y.1 = 0 /\ ∃ σ l, st.L k = some (σ, l) /\ SameLs (fun k k' => TokAt s.outs ks (Tok.hd 0) 0 k k' /\ st.O k = true) l y.2 := fun k y hy => by
  split at hy
  ·rename_i l' hl'
   injection hy with hy
   subst hy
   obtain ⟨l, h1, h2⟩ := inoutAt_same (hsame.drop s.nres) hl'
   have hnr : s.nres = la.length := by unfold Sig.nres; rw [q1]
   rw [hnr, List.drop_left] at h1
   obtain ⟨σ, h3⟩ := inoutLs_at hlb [] k l (by rw [List.append_nil]; exact h1)
   rw [Nat.zero_add] at h3
   exact ⟨rfl, σ, l, h3, h2⟩
  ·cases hy
 refine ⟨us, exitG g ks, _, q2, q3, q4, hex, ⟨h.rel.fr, fun i => ?_, fun k σ l hL => ?_, fun k σ l hL hσ => ?_, fun t b hb => by (cases hb), fun i t want ag l hs => ?_, fun d hd => by (cases hd), fun i k hk => ?_, rfl, fun k k' b hk1 hk2 hb hb' => ?_, fun k b j y hk1 hb hL => ?_, fun k b hk1 hb => ?_, fun k b hk1 hb => ?_, fun j j' y y' hj hj' he => ?_⟩, rfl⟩
 ·by_cases hi : i < s.rs.length
  ·obtain ⟨ag, l, e1, e2⟩ := q5 lb i hi
   obtain ⟨l', e3, e4⟩ := resAt_same hsame e1
   show RelP F _ w _ _ _ (resAt s.rs osX i)
   rw [e3]
   exact e2.turn T e4
  ·show RelP F _ w _ _ _ (resAt s.rs osX i)
   rw [resAt_out (by omega)]; trivial
 ·obtain ⟨e, σ1, l1, h1, h2⟩ := locH k (σ, l) hL
  exact (h.rel.locals k σ1 l1 h1).turn T (fun _ _ hw => hw) h2
 ·exact (hσ (locH k (σ, l) hL).1).elim
 ·by_cases hi : i < s.rs.length
  ·obtain ⟨ag', l', e1, e2⟩ := q5 lb i hi
   obtain ⟨l2, e3, e4⟩ := resAt_same hsame e1
   have hs' : resAt s.rs osX i = .spec t want ag l := hs
   rw [e3] at hs'; cases hs'
  ·have hs' : resAt s.rs osX i = .spec t want ag l := hs
   rw [resAt_out (by omega)] at hs'; cases hs'
 ·by_cases hi : i < s.rs.length
  ·obtain ⟨ag', l', e1, e2⟩ := q5 lb i hi
   obtain ⟨l2, e3, e4⟩ := resAt_same hsame e1
   have hk' : k ∈ keyP (resAt s.rs osX i) := hk
   rw [e3] at hk'; cases hk'
  ·have hk' : k ∈ keyP (resAt s.rs osX i) := hk
   rw [resAt_out (by omega)] at hk'; cases hk'
 ·rcases liveH k hk1 with rfl | ⟨i, k0, rfl, r1, r2, r3⟩
  ·cases hb
  rcases liveH k' hk2 with rfl | ⟨i', k0', rfl, r1', r2', r3'⟩
  ·cases hb'
  rw [r3] at hb; rw [r3'] at hb'
  have e1 := h.rel.blkI k0 k0' b r2 r2' hb hb'
  subst e1
  have hz : k0 ≠ .zero := fun e => by rw [e, h.rel.blk0] at hb; cases hb
  rw [distinct_at hdt r1 r1' hz]
 ·rcases liveH k hk1 with rfl | ⟨i, k0, rfl, r1, r2, r3⟩
  ·cases hb
  rw [r3] at hb
  obtain ⟨_, σ1, l1, h1, _⟩ := locH j y hL
  exact h.rel.blkL k0 b j _ r2 hb h1
 ·rcases liveH k hk1 with rfl | ⟨i, k0, rfl, r1, r2, r3⟩
  ·cases hb
  rw [r3] at hb
  exact h.rel.blkS k0 b r2 hb
 ·rcases liveH k hk1 with rfl | ⟨i, k0, rfl, r1, r2, r3⟩
  ·cases hb
  rw [r3] at hb
  exact h.rel.blkW k0 b r2 hb
 ·obtain ⟨_, σ1, l1, h1, _⟩ := locH j y hj
  obtain ⟨_, σ2, l2, h2, _⟩ := locH j' y' hj'
  exact h.rel.ρI j j' _ _ h1 h2 he
theorem exit_relF {P : Program} {s : Sig} {rvs : List ResultVar} {y : s.out.D} (h : AR F g st a w) (hr : retF P rvs s st = some y) :
  ∃ (us : List Value) (g' : Gh) (stX : PSt), us.length = s.rs.length /\ us.length = rvs.length /\ (∀ (i : Nat) (x : ResultVar), rvs[i]? = some x -> ∃ y, us[i]? = some y /\ (resVal a x).run P w = .ok y w) /\ exitSt s y = some stX /\ MRel F g' stX (fun i => us.getD i undef) w /\ g'.ρ = g.ρ := by
 unfold retF at hr
 split at hr
 ·exact exit_rel h hr
 ·rename_i k K _
  obtain ⟨hall, hr⟩ := chk_some hr
  have hA : AR F (lendG g st (k :: K)) (lendSt (k :: K) (resTmps rvs) st) a w := ⟨h.size, h.defers, lend_rel (k :: K) _ h.rel fun i hi => List.all_eq_true.1 hall i (hasN_iff.1 hi)⟩
  have h2 := exit_rel hA hr
  exact h2
theorem annot_erase {A : List (Nat × Ann)} : ∀ (c : Code) (k : Nat) (ac : AC) (k' : Nat), annot A c k = some (ac, k') -> ac.erase = c := by
 intro c
 induction c with
 | skip => intro k ac k' h; simp only [annot, Option.some.injEq, Prod.mk.injEq] at h; rw [<- h.1]; rfl
 | region id ops d => intro k ac k' h; simp only [annot, Option.some.injEq, Prod.mk.injEq] at h; rw [<- h.1]; rfl
 | exit id => intro k ac k' h; simp only [annot, Option.some.injEq, Prod.mk.injEq] at h; rw [<- h.1]; rfl
 | ret => intro k ac k' h; simp only [annot, Option.some.injEq, Prod.mk.injEq] at h; rw [<- h.1]; rfl
 | label l => intro k ac k' h; simp only [annot, Option.some.injEq, Prod.mk.injEq] at h; rw [<- h.1]; rfl
 | goto l => intro k ac k' h; simp only [annot, Option.some.injEq, Prod.mk.injEq] at h; rw [<- h.1]; rfl
 | scope b ih =>
  intro k ac k' h
  unfold annot at h
  split at h
  ·rename_i m b' k1 h0 h1
   simp only [Option.some.injEq, Prod.mk.injEq] at h
   rw [<- h.1]
   simp only [AC.erase, ih _ _ _ h1]
  ·cases h
 | seq x y ihx ihy =>
  intro k ac k' h
  unfold annot at h
  split at h
  ·rename_i a' k1 h1
   split at h
   ·rename_i b' k2 h2
    split at h <;>
    ·simp only [Option.some.injEq, Prod.mk.injEq] at h
     rw [<- h.1]
     simp only [AC.erase, ihx _ _ _ h1, ihy _ _ _ h2]
   ·cases h
  ·cases h
 | cond c x y ihx ihy =>
  intro k ac k' h
  unfold annot at h
  split at h
  ·rename_i a' k1 h1
   split at h
   ·rename_i b' k2 h2
    simp only [Option.some.injEq, Prod.mk.injEq] at h
    rw [<- h.1]
    simp only [AC.erase, ihx _ _ _ h1, ihy _ _ _ h2]
   ·cases h
  ·cases h
 | block id b ih =>
  intro k ac k' h
  unfold annot at h
  split at h
  ·rename_i b' k1 h1
   simp only [Option.some.injEq, Prod.mk.injEq] at h
   rw [<- h.1]
   simp only [AC.erase, ih _ _ _ h1]
  ·cases h
 | loop b ih =>
  intro k ac k' h
  unfold annot at h
  split at h
  ·rename_i m b' k1 h0 h1
   simp only [Option.some.injEq, Prod.mk.injEq] at h
   rw [<- h.1]
   simp only [AC.erase, ih _ _ _ h1]
  ·cases h
 | _ => intro k ac k' h; cases h
theorem annot_hands {A : List (Nat × Ann)} : ∀ (c : Code) (k : Nat) (ac : AC) (k' : Nat), annot A c k = some (ac, k') -> ac.hands = [] := by
 intro c
 induction c with
 | skip => intro k ac k' h; simp only [annot, Option.some.injEq, Prod.mk.injEq] at h; rw [<- h.1]; rfl
 | region id ops d => intro k ac k' h; simp only [annot, Option.some.injEq, Prod.mk.injEq] at h; rw [<- h.1]; rfl
 | exit id => intro k ac k' h; simp only [annot, Option.some.injEq, Prod.mk.injEq] at h; rw [<- h.1]; rfl
 | ret => intro k ac k' h; simp only [annot, Option.some.injEq, Prod.mk.injEq] at h; rw [<- h.1]; rfl
 | label l => intro k ac k' h; simp only [annot, Option.some.injEq, Prod.mk.injEq] at h; rw [<- h.1]; rfl
 | goto l => intro k ac k' h; simp only [annot, Option.some.injEq, Prod.mk.injEq] at h; rw [<- h.1]; rfl
 | scope b ih =>
  intro k ac k' h
  unfold annot at h
  split at h
  ·rename_i m b' k1 h0 h1
   simp only [Option.some.injEq, Prod.mk.injEq] at h
   rw [<- h.1]
   simp only [AC.hands, ih _ _ _ h1]
  ·cases h
 | seq x y ihx ihy =>
  intro k ac k' h
  unfold annot at h
  split at h
  ·rename_i a' k1 h1
   split at h
   ·rename_i b' k2 h2
    split at h <;>
    ·simp only [Option.some.injEq, Prod.mk.injEq] at h
     rw [<- h.1]
     simp only [AC.hands, ihx _ _ _ h1, ihy _ _ _ h2, List.append_nil]
   ·cases h
  ·cases h
 | cond c x y ihx ihy =>
  intro k ac k' h
  unfold annot at h
  split at h
  ·rename_i a' k1 h1
   split at h
   ·rename_i b' k2 h2
    simp only [Option.some.injEq, Prod.mk.injEq] at h
    rw [<- h.1]
    simp only [AC.hands, ihx _ _ _ h1, ihy _ _ _ h2, List.append_nil]
   ·cases h
  ·cases h
 | block id b ih =>
  intro k ac k' h
  unfold annot at h
  split at h
  ·rename_i b' k1 h1
   simp only [Option.some.injEq, Prod.mk.injEq] at h
   rw [<- h.1]
   simp only [AC.hands, ih _ _ _ h1]
  ·cases h
 | loop b ih =>
  intro k ac k' h
  unfold annot at h
  split at h
  ·rename_i m b' k1 h0 h1
   simp only [Option.some.injEq, Prod.mk.injEq] at h
   rw [<- h.1]
   simp only [AC.hands, ih _ _ _ h1]
  ·cases h
 | _ => intro k ac k' h; cases h
theorem erase_hand (r : Nat) (h : PSt -> Option (Bool × PSt)) : ∀ ac : AC, (ac.withHand r h).erase = ac.erase := by
 intro ac
 induction ac with
 | seq a b iha ihb =>
  cases a with
  | region id ops d =>
   unfold AC.withHand
   split
   ·rfl
   ·show Code.seq _ (AC.withHand r h b).erase = _
    rw [ihb]; rfl
  | _ => exact (congrArg (fun z => Code.seq z (AC.erase (AC.withHand r h b))) iha).trans (congrArg (Code.seq _) ihb)
 | join n a b iha ihb => exact (congrArg (fun z => Code.seq z (AC.erase (AC.withHand r h b))) iha).trans (congrArg (Code.seq _) ihb)
 | cond c a b iha ihb => exact (congrArg (fun z => Code.cond c z (AC.erase (AC.withHand r h b))) iha).trans (congrArg (Code.cond c _) ihb)
 | block id b ih => exact congrArg (Code.block id) ih
 | loop n b ih => exact congrArg Code.loop ih
 | scope n b ih => exact congrArg Code.scope ih
 | _ => rfl
theorem results_run {P : Program} {fn : Func} {us : List Value} (hl : us.length = fn.results.toList.length) (h : ∀ (i : Nat) (x : ResultVar), fn.results.toList[i]? = some x -> ∃ y, us[i]? = some y /\ (resVal a x).run P w = .ok y w) : (results fn a.tmps).run P w = .ok (retV us) w := by
 have key : (results fn a.tmps).run P w = .ok (if h : (⟨us⟩ : Array Value).size = 1 then (⟨us⟩ : Array Value)[0] else .tuple ⟨us⟩) w := by
  unfold results
  rw [Array.mapM_eq_mapM_toList, Sem.run_bind, Sem.run_map, run_mapM fn.results.toList us (fun i x hx => ?_) hl]
  ·rfl
  obtain ⟨y, hy, hr⟩ := h i x hx
  exact ⟨y, hy, by cases x <;> exact hr⟩
 rw [key]
 match us with
 | [] => rfl
 | [_] => rfl
 | _ :: _ :: _ => rfl
theorem fn_sound {T : Tab} (hE : E.ok T) {A : List (Nat × Ann)} {f : FuncId} {fn : Func} {s : Sig} (hf : E.P.funcs[f]? = some fn) : SoundFn E.P T f s ⟨pvFn E A fn s⟩ := by
  intro F g st xs y tmf w args hT hent happ hrel hw hn hsz htm
  have hv := appF_curry _ _ _ _ happ
  unfold pvFnL at hv
  rw [hent] at hv
  split at hv
  case h_2 => cases hv
  rename_i c st0 hb he
  injection he with he
  subst he
  split at hv
  case h_2 => cases hv
  rename_i ac k hac
  split at hv
  case h_2 => cases hv
  rename_i hgd
  simp only [Bool.and_eq_true] at hgd
  obtain ⟨⟨⟨⟨hg1, hg2⟩, hg3⟩, hg4⟩, hg5⟩ := hgd
  have hFn := hn fn hf
  have hle : args.size <= fn.ntmps := by rw [hsz]; rw [Nat.ble_eq] at hg3; exact hg3
  have hdst : ∀ d ∈ ac.dsts, d < F.n := fun d hd => by
    have := List.all_eq_true.1 hg2 d hd
    rw [Nat.blt_eq] at this
    omega
  have htm' : tm { tmps := args ++ Array.replicate (fn.ntmps - args.size) undef, defers := [] } = tmf := by
    funext i
    rw [htm i]
    unfold tm
    simp only [Array.getD_eq_getD_getElem?, Array.getElem?_append]
    by_cases hlt : i < args.size
    · simp [hlt]
    · rw [if_neg hlt, Array.getElem?_eq_none (show args.size <= i by omega)]
      simp only [Array.getElem?_replicate, Option.getD_none]
      split <;> rfl
  have hAR : AR F g st { tmps := args ++ Array.replicate (fn.ntmps - args.size) undef, defers := [] } w := ⟨by simp; omega, rfl, by rw [htm']; exact hrel⟩
  have he := annot_erase c 0 ac k hac
  refine calls_of_wp hf hb ?_
  have hs := pv_sound ⟨T, hE, hT⟩ ac (by rw [annot_hands c 0 ac k hac]; intro p hp; cases hp) _ st y g _ w hg1 hdst hAR hv
  rw [he] at hs
  have fin : ∀ {x a' w' g' st'}, retF E.P fn.results.toList s st' = some y -> AR F g' st' a' w' -> LftX x (· ∈ ac.dsts) (· ∈ ac.ids) g { tmps := args ++ Array.replicate (fn.ntmps - args.size) undef, defers := [] } w g' a' w' ->
      a'.defers = [] /\ ∃ v, (results fn a'.tmps).run E.P w' = .ok v w' /\ ∃ us g' st', Ending.returned v = .returned (retV us) /\ us.length = s.rs.length /\ exitSt s y = some st' /\ MRel F g' st' (fun i => us.getD i undef) w' /\ ∀ k, isM s.ps k = true -> g'.ρ k = g.ρ k := fun {x a' w' g' st'} hr hA hl => by
    obtain ⟨us, g2, stX, r1, r2, r3, r4, r5, r6⟩ := exit_relF hA hr
    refine ⟨hA.defers, retV us, results_run r2 r3, us, g2, stX, rfl, r1, r4, r5, fun k hk => ?_⟩
    rw [r6]
    refine hl.ρ k fun hm => ?_
    have hlt : k < s.ps.length := by
      obtain ⟨ts, hts⟩ := isM_iff.1 hk
      exact (List.getElem?_eq_some_iff.1 hts).1
    have := List.all_eq_true.1 hg5 k (List.mem_range.2 hlt)
    rw [hk, hasN_iff.2 hm] at this
    cases this
  refine Code.wp_mono (fun e a' w' hp => ?_) hs
  obtain ⟨x, st', g', rfl, hQ, hr, hl⟩ := hp
  cases x with
  | exit i => cases hQ
  | normal => exact fin hQ hr hl
  | ret => exact fin hQ hr hl
  | goto i => cases hQ
end
end Pv
end Go.Proofs.YtgfmfgombmpodaaGreatDoor
namespace Go.Proofs.YtgfmfgombmpodaaGreatDoor
open Go.ChangeShapes Go.WideShapes Go.ChangeAt Go.RowKit Go.Deep
open Go.ChangeMaps (open_string shut_string)
namespace Pv
set_option linter.unusedVariables false
def layS (f : TypeId -> Option Ty) : List Field -> Nat -> Option (List Ty)
 | [], _ => some []
 | x :: r, o => match Nat.beq x.offset o, f x.type with
  | true, some t => match layS f r (o + t.size) with | some l => some (t :: l) | none => none
  | _, _ => none
def lay1 (P : Program) (f : TypeId -> Option Ty) (t : TypeId) : Option Ty := match P.underlying t with
 | some .bool => some .bool
 | some (.int k) => some (.int k)
 | some .string => some .str
 | some (.slice e) => (f e).map .sl
 | some (.array m e) => (f e).map (.arr m)
 | some (.struct fs) => (layS f fs.toList 0).map prs
 | _ => none
def lay (P : Program) : Nat -> TypeId -> Option Ty
 | 0, _ => none
 | n + 1, t => match lay1 P (lay P n) t with
  | some τ => match Nat.beq (P.cellsOf t) τ.size with | true => some τ | false => none
  | none => none
theorem choose_l {α : Type} {p : Nat -> α -> Prop} : ∀ (n : Nat), (∀ i, i < n -> ∃ y, p i y) -> ∃ l : List α, l.length = n /\ ∀ i y, l[i]? = some y -> p i y
 | 0, _ => ⟨[], rfl, fun i y h => by simp at h⟩
 | n + 1, h => by
  obtain ⟨l, h1, h2⟩ := choose_l n fun i hi => h i (by omega)
  obtain ⟨y, hy⟩ := h n (by omega)
  refine ⟨l ++ [y], by simp [h1], fun i z hz => ?_⟩
  rcases Nat.lt_or_ge i l.length with hlt | hge
  ·rw [List.getElem?_append_left hlt] at hz; exact h2 i z hz
  ·rw [List.getElem?_append_right hge] at hz
   cases hi : i - l.length with
   | zero =>
    rw [hi] at hz
    simp at hz
    subst hz
    rw [show i = n by omega]; exact hy
   | succ k => rw [hi] at hz; simp at hz
section
variable {H : Type} {enc : TypeId × Value -> H} {P : Program} {w : World} {C : Com} {spare : Nat -> Bool} {held : Bool}
def Opens (enc : TypeId × Value -> H) (P : Program) (w : World) (C : Com) (spare : Nat -> Bool) (held : Bool) (t : TypeId) (τ : Ty) : Prop :=
 P.cellsOf t = τ.size /\ ∀ fuel cs x, DataW.trod enc P w 0 spare held fuel t cs = some x -> ∃ y : τ.D, RepD w C τ y cs
theorem opens_fields {f : TypeId -> Option Ty} (hf : ∀ t τ, f t = some τ -> Opens enc P w C spare held t τ) : ∀ (fs : List Field) (o : Nat) (τs : List Ty) (cs : List Value), layS f fs o = some τs ->
  (∀ x ∈ fs, ∃ n z, DataW.trod enc P w 0 spare held n x.type ((cs.drop x.offset).take (P.cellsOf x.type)) = some z) -> ∃ y : (prs τs).D, RepD w C (prs τs) y ((cs.drop o).take (prs τs).size)
 | [], o, τs, cs, h, _ => by
  injection h with h
  subst h
  exact ⟨(), by rw [show (prs []).size = 0 from rfl, List.take_zero]; rfl⟩
 | x :: r, o, τs, cs, h, hx => by
  unfold layS at h
  split at h
  case h_2 => cases h
  rename_i t ho ht
  split at h
  case h_2 => cases h
  rename_i l hl
  injection h with h
  subst h
  have ho := Nat.eq_of_beq_eq_true ho
  obtain ⟨y2, h2⟩ := opens_fields hf r (o + t.size) l cs hl fun z hz => hx z (by simp [hz])
  obtain ⟨hc, hop⟩ := hf _ _ ht
  obtain ⟨n, z, hz⟩ := hx x (by simp)
  obtain ⟨y1, h1⟩ := hop _ _ _ hz
  rw [ho, hc] at h1
  cases l with
  | nil => exact ⟨y1, h1⟩
  | cons u us =>
   refine ⟨(y1, y2), _, _, ?_, h1, h2⟩
   rw [show (prs (t :: u :: us)).size = t.size + (prs (u :: us)).size from rfl, List.take_add, List.drop_drop]
theorem lay_open (hC : ∀ a u, w.cell? a = some u -> C a.block a.off) : ∀ (n : Nat) (t : TypeId) (τ : Ty), lay P n t = some τ -> Opens enc P w C spare held t τ
 | 0, _, _, h => by cases h
 | n + 1, t, τ, h => by
  unfold lay at h
  split at h
  case h_2 => cases h
  rename_i τ' h1
  split at h
  case h_2 => cases h
  rename_i hb
  injection h with h
  subst h
  have hsz := Nat.eq_of_beq_eq_true hb
  refine ⟨hsz, fun fuel cs x hx => ?_⟩
  unfold lay1 at h1
  split at h1
  ·rename_i ht
   injection h1 with h1
   subst h1
   obtain ⟨b, rfl, _⟩ := DataW.trod_bool ht hx
   exact ⟨b, rfl⟩
  ·rename_i k ht
   injection h1 with h1
   subst h1
   obtain ⟨q, rfl, _, hq⟩ := DataW.trod_int ht hx
   exact ⟨q, rfl, hq⟩
  ·rename_i ht
   injection h1 with h1
   subst h1
   obtain ⟨s, rfl, _, hs⟩ := DataW.trod_string ht hx
   exact ⟨bytesL s, s, rfl, rfl, hs⟩
  ·rename_i e ht
   obtain ⟨τe, he, rfl⟩ := Option.map_eq_some_iff.1 h1
   obtain ⟨hce, hop⟩ := lay_open hC n e τe he
   rcases open_slice ht hx with ⟨rfl, _⟩ | ⟨a, len, cap, m, n', D, Pl, rfl, _, hl, hm, hmm, _, hall⟩
   ·exact ⟨([] : List τe.D), none, 0, 0, rfl, rfl, Nat.le_refl _, by unfold maxLen; omega, fun i x hi => by simp [gt] at hi⟩
   ·have hlm : len <= m := by rw [hmm]; split <;> omega
    obtain ⟨l, hl1, hl2⟩ := choose_l (p := fun i (y : τe.D) => ∃ us, us.length = τe.size /\ (∀ j u, us[j]? = some u -> w.cell? (a.add (i * τe.size + j)) = some u /\ C a.block (a.off + (i * τe.size + j))) /\ RepD w C τe y us) len fun i hi => by
     obtain ⟨cs', g1, g2⟩ := hall i (by omega)
     obtain ⟨y, hy⟩ := hop _ _ _ g2
     refine ⟨y, cs', hy.len, fun j u hj => ?_, hy⟩
     have hj' : j < P.cellsOf e := by
      have := (List.getElem?_eq_some_iff.1 hj).1
      rw [hy.len] at this
      omega
     have hcell := ((World.cells?_some g1).2.2 j hj').trans hj
     rw [add_add, hce] at hcell
     refine ⟨hcell, ?_⟩
     have := hC _ _ hcell
     rwa [add_block, add_off] at this
    refine ⟨l, some a, len, cap, rfl, hl1, hl, hm, fun i y hi => ?_⟩
    obtain ⟨us, g1, g2, g3⟩ := hl2 i y hi
    exact ⟨a, us, rfl, g1, g2, g3⟩
  ·rename_i m e ht
   obtain ⟨τe, he, rfl⟩ := Option.map_eq_some_iff.1 h1
   obtain ⟨hce, hop⟩ := lay_open hC n e τe he
   obtain ⟨xs, m', _, _, hcs, hxl, hall⟩ := DataW.trod_array ht hx
   obtain ⟨l, hl1, hl2⟩ := choose_l (p := fun i (y : τe.D) => RepD w C τe y ((cs.drop (i * τe.size)).take τe.size)) m fun i hi => by
    have := hall i hi
    rw [List.getElem?_eq_getElem (by omega), hce] at this
    exact hop _ _ _ this
   exact ⟨l, hl1, by rw [hcs, hsz]; rfl, fun i y hi => hl2 i y hi⟩
  ·rename_i fs ht
   obtain ⟨τs, hs, rfl⟩ := Option.map_eq_some_iff.1 h1
   obtain ⟨xs, m', _, _, hcs, hxl, hall⟩ := DataW.trod_struct ht hx
   obtain ⟨y, hy⟩ := opens_fields (fun t τ h => lay_open hC n t τ h) fs.toList 0 τs cs hs fun f hf => by
    obtain ⟨i, hi, rfl⟩ := List.mem_iff_getElem.1 hf
    have hi' : i < fs.size := by simpa using hi
    have := hall i fs[i] (by simp [hi'])
    rw [List.getElem?_eq_getElem (by omega)] at this
    exact ⟨m', _, by simpa using this⟩
   rw [List.drop_zero, List.take_of_length_le (by omega)] at hy
   exact ⟨y, hy⟩
  ·cases h1
theorem okWide_array {m : Nat} {e t : TypeId} {v : Value} {r : Reach} {b0 : Nat} (ht : P.underlying t = some (.array m e)) (h : Value.okWide P w r b0 t v) : ∃ cs, v = .agg cs /\ cs.size = P.cellsOf t := by
 simp only [Value.okWide, ht] at h
 obtain ⟨cs, h1, h2, _⟩ := h
 exact ⟨cs, h1, h2⟩
theorem arg_open (hC : ∀ a u, w.cell? a = some u -> C a.block a.off) {n : Nat} {t : TypeId} {τ : Ty} {v : Value} {d : DataW H} {ps : List MemPlace} {r : Reach} {b0 : Nat} (hl : lay P n t = some τ) (hval : Value.okWide P w r b0 t v) (hd : DataW.Trod enc P w 0 spare held t v d ps) :
  ∃ (y : τ.D) (cs : List Value), RepD w C τ y cs /\ match isAg P t with | true => v = .agg ⟨cs⟩ | false => cs = [v] := by
 obtain ⟨fuel, hf⟩ := hd
 obtain ⟨y, hy⟩ := (lay_open (enc := enc) (spare := spare) (held := held) hC n t τ hl).2 _ _ _ hf
 refine ⟨y, _, hy, ?_⟩
 cases n with
 | zero => cases hl
 | succ n =>
  unfold lay at hl
  split at hl
  case h_2 => cases hl
  rename_i τ' h1
  unfold lay1 at h1
  unfold isAg
  split at h1
  ·rename_i ht
   obtain ⟨b, rfl⟩ := okWide_bool ht hval
   simp [ht, Value.cells]
  ·rename_i k ht
   obtain ⟨b, rfl⟩ := okWide_int ht hval
   simp [ht, Value.cells]
  ·rename_i ht
   obtain ⟨b, rfl⟩ := okWide_string ht hval
   simp [ht, Value.cells]
  ·rename_i e ht
   obtain ⟨a, n, c, rfl⟩ := okWide_slice ht hval
   simp [ht, Value.cells]
  ·rename_i m e ht
   obtain ⟨cs, rfl, _⟩ := okWide_array ht hval
   simp [ht, Value.cells]
  ·rename_i fs ht
   obtain ⟨cs, rfl, _⟩ := okWide_struct ht hval
   simp [ht, Value.cells]
  ·cases h1
end
def ltOf : Leaf -> LT
 | .d t _ => .d t
 | .own _ E e _ => .own E e
def datOf : Leaf -> Dat
 | .d t x => ⟨t, x⟩
 | .own _ _ e l => ⟨.sl e, l⟩
theorem appF_c {α : Type} {t : Ty} {ts : List Ty} {f : insT (t :: ts) (Option α)} {x : t.D} {xs : List Dat} {r : Option α} (h : appF ts (f x) xs = r) : appF (t :: ts) f (⟨t, x⟩ :: xs) = r := by
 show (match castD t x with | some a => appF ts (f a) xs | none => none) = _
 rw [castD_self]; exact h
theorem appF_n {α : Type} {f r : Option α} (h : f = r) : appF [] f [] = r := h
structure Arg where
 ag : Bool
 ls : List Leaf
 v : Value
def Arg.par (a : Arg) : Par := .v a.ag (a.ls.map ltOf)
def isDs (ls : List Leaf) : Bool := ls.all isD
theorem mk_ds {lab : Nat -> Tok} : ∀ {ls : List Leaf} (j : Nat), isDs ls = true -> mkLs lab (ls.map ltOf) j (ls.map datOf) = some ls
 | [], _, _ => rfl
 | .d t x :: ls, j, h => by
  have h' : isDs ls = true := by simp [isDs] at h ⊢; exact h.2
  show (match castD t x, mkLs lab (ls.map ltOf) (j + 1) (ls.map datOf) with | some a, some r => some (Leaf.d t a :: r) | _, _ => none) = _
  rw [castD_self, mk_ds (j + 1) h']
 | .own _ _ _ _ :: ls, j, h => by simp [isDs, isD] at h
theorem isM_args : ∀ (al : List Arg) (i : Nat), isM (al.map Arg.par) i = false
 | [], 0 => rfl
 | [], _ + 1 => rfl
 | a :: al, 0 => rfl
 | a :: al, i + 1 => isM_args al i
theorem parK_args : ∀ (al : List Arg) (ls : List Leaf) (i : Nat), parK (al.map Arg.par) ls i = none
 | [], _, 0 => rfl
 | [], _, _ + 1 => rfl
 | a :: al, _, 0 => rfl
 | a :: al, ls, i + 1 => parK_args al _ i
theorem parP_args : ∀ (al : List Arg) (rest : List Leaf) (i : Nat), (∀ a, al[i]? = some a -> parP (al.map Arg.par) (al.flatMap Arg.ls ++ rest) i = .w a.ag a.ls) /\ (al[i]? = none -> parP (al.map Arg.par) (al.flatMap Arg.ls ++ rest) i = .raw undef)
 | [], _, 0 => ⟨fun a h => by simp at h, fun _ => rfl⟩
 | [], _, _ + 1 => ⟨fun a h => by simp at h, fun _ => rfl⟩
 | a :: al, rest, 0 => by
  refine ⟨fun b h => ?_, fun h => by simp at h⟩
  simp at h
  subst h
  show PV.w a.ag ((a.ls ++ al.flatMap Arg.ls ++ rest).take (a.ls.map ltOf).length) = _
  rw [List.length_map, List.append_assoc, List.take_left]
 | a :: al, rest, i + 1 => by
  have := parP_args al rest i
  have e : parP ((a :: al).map Arg.par) ((a :: al).flatMap (·.ls) ++ rest) (i + 1) = parP (al.map Arg.par) (al.flatMap Arg.ls ++ rest) i := by
   show parP (al.map Arg.par) ((a.ls ++ al.flatMap Arg.ls ++ rest).drop (a.ls.map ltOf).length) i = _
   rw [List.length_map, List.append_assoc, List.drop_left]
  rw [e]
  simpa using this
section
variable {P : Program} {W : World}
def C00 (W : World) : Com := fun b _ => b < W.heap.size
theorem c00_cell (W : World) (a : Addr) (u : Value) (h : W.cell? a = some u) : C00 W a.block a.off := cell_lt h
def F00 (W : World) (n : Nat) : Fr := ⟨n, W, C00 W, fun _ _ => False⟩
def G00 (W : World) : Gh := ⟨C00 W, fun _ => none, fun _ => (0, 0), fun _ _ => []⟩
def Arg.ok (W : World) (a : Arg) : Prop := isDs a.ls = true /\ ∀ (F : Fr) (g : Gh) (O : Tok -> Bool), g.C = C00 W -> RelV F g W O a.v a.ag a.ls
theorem Arg.mk_ok {τ : Ty} {y : τ.D} {cs : List Value} {ag : Bool} {v : Value} (h : RepD W (C00 W) τ y cs) (hv : match ag with | true => v = .agg ⟨cs⟩ | false => cs = [v]) : (Arg.mk ag (flat τ y) v).ok W := by
 refine ⟨List.all_eq_true.2 (flat_isD τ y), fun F g O hg => ⟨cs, repLs_flat (by rw [hg]; exact h), ?_⟩⟩
 cases ag <;> exact hv
theorem args_rel {al : List Arg} {rs : List (Bool × List LT)} (h : ∀ a ∈ al, a.ok W) (n : Nat) : ∃ st, entrySt ⟨al.map Arg.par, rs⟩ (al.flatMap fun a => a.ls.map datOf) = some st /\ MRel (F00 W n) (G00 W) st (fun i => (al.map Arg.v).getD i undef) W := by
  have hds : isDs (al.flatMap Arg.ls) = true := by
    refine List.all_eq_true.2 fun l hl => ?_
    obtain ⟨a, ha, hl⟩ := List.mem_flatMap.1 hl
    exact List.all_eq_true.1 (h a ha).1 l hl
  have e1 : parsT (al.map Arg.par) = (al.flatMap Arg.ls).map ltOf := by
    unfold parsT
    rw [List.flatMap_map, List.map_flatMap]
    rfl
  have e2 : (al.flatMap fun a => a.ls.map datOf) = (al.flatMap Arg.ls).map datOf := by rw [List.map_flatMap]
  refine ⟨_, by unfold entrySt; simp only [e1, e2, mk_ds 0 hds]; rfl, ?_⟩
  refine ⟨⟨Nat.le_refl _, rfl, rfl, rfl, fun _ _ _ => rfl, fun b cs T fr _ hb => ⟨cs, fr, hb, rfl, fun _ _ => rfl⟩, fun _ _ _ _ => Iff.rfl, fun _ _ h => h, fun _ _ h => h⟩, fun i => ?_, fun k σ ls hL => ?_, fun k σ ls hL => ?_, fun t b hb => (by cases hb), fun i t want ag l hs => ?_, fun d hd => (by cases hd), fun i k hk => ?_, rfl, fun k k' b _ _ hb => (by cases hb), fun k b j x _ hb => (by cases hb), fun k b _ hb => (by cases hb), fun k b _ hb => (by cases hb), fun j j' x x' hj => ?_⟩
  · show RelP _ _ W _ _ _ (match isM (al.map Arg.par) i with | true => PV.loc i 0 | false => parP (al.map Arg.par) (al.flatMap Arg.ls) i)
    rw [isM_args]
    have := parP_args al [] i
    rw [List.append_nil] at this
    cases ha : al[i]? with
    | none =>
      show RelP _ _ W _ _ _ (parP (al.map Arg.par) (al.flatMap Arg.ls) i)
      rw [this.2 ha]
      show (al.map Arg.v).getD i undef = undef
      simp [List.getD_eq_getElem?_getD, ha]
    | some a =>
      show RelP _ _ W _ _ _ (parP (al.map Arg.par) (al.flatMap Arg.ls) i)
      rw [this.1 a ha]
      have e : (al.map Arg.v).getD i undef = a.v := by simp [List.getD_eq_getElem?_getD, ha]
      show RelV _ _ W _ ((al.map Arg.v).getD i undef) a.ag a.ls
      rw [e]
      exact (h a (List.mem_of_getElem? ha)).2 _ _ _ rfl
  all_goals first
    | (have hL' : (match parK (al.map Arg.par) (al.flatMap Arg.ls) k with | some l => some ((0 : Nat), l) | none => none) = some (σ, ls) := hL
       rw [parK_args] at hL'
       cases hL')
    | (have hL' : (match parK (al.map Arg.par) (al.flatMap Arg.ls) j with | some l => some ((0 : Nat), l) | none => none) = some x := hj
       rw [parK_args] at hL'
       cases hL')
    | skip
  · have hs' : (match isM (al.map Arg.par) i with | true => PV.loc i 0 | false => parP (al.map Arg.par) (al.flatMap Arg.ls) i) = .spec t want ag l := hs
    rw [isM_args] at hs'
    have := parP_args al [] i
    rw [List.append_nil] at this
    have hs2 : parP (al.map Arg.par) (al.flatMap Arg.ls) i = .spec t want ag l := hs'
    cases ha : al[i]? with
    | none => rw [this.2 ha] at hs2; cases hs2
    | some a => rw [this.1 a ha] at hs2; cases hs2
  · have hs' : k ∈ keyP (match isM (al.map Arg.par) i with | true => PV.loc i 0 | false => parP (al.map Arg.par) (al.flatMap Arg.ls) i) := hk
    rw [isM_args] at hs'
    have := parP_args al [] i
    rw [List.append_nil] at this
    have hs2 : k ∈ keyP (parP (al.map Arg.par) (al.flatMap Arg.ls) i) := hs'
    cases ha : al[i]? with
    | none => rw [this.2 ha] at hs2; cases hs2
    | some a => rw [this.1 a ha] at hs2; cases hs2
theorem tab_start {T : Tab} {n : Nat} (hT : ∀ p ∈ T, ∃ ty fr, W.heap[p.1]? = some (.cells p.2 ty fr)) : TabF T (F00 W n) := fun p hp => by
 obtain ⟨ty, fr, h⟩ := hT p hp
 refine ⟨⟨ty, fr, h⟩, fun i hi => ⟨?_, fun hx => hx⟩⟩
 have : W.cell? ⟨p.1, i, none⟩ = some p.2[i] := by rw [cell_at h, Array.getElem?_eq_getElem hi]
 exact c00_cell W ⟨p.1, i, none⟩ _ this
theorem law_calls {T : Tab} (hT : ∀ p ∈ T, ∃ ty fr, W.heap[p.1]? = some (.cells p.2 ty fr)) {f : FuncId} {fd : Func} {s : Sig} {fn : s.Fn} {al : List Arg} {y : s.out.D} (hS : SoundFn P T f s fn) (hps : s.ps = al.map Arg.par) (hrs : s.rs.length = 1) (hf : P.funcs[f]? = some fd) (hok : ∀ a ∈ al, a.ok W)
  (happ : appF ((parsT s.ps).map LT.ty) fn.f (al.flatMap fun a => a.ls.map datOf) = some y) (hex : ∀ st', exitSt s y = some st' -> st'.φ 0 = .w false [.d .bool true]) : Calls P f ⟨al.map Arg.v⟩ W fun e W' => e = .returned (.bool true) /\ Below W.heap.size W W' := by
 obtain ⟨ps, rs⟩ := s
 have hps : ps = al.map Arg.par := hps
 subst hps
 obtain ⟨st, h1, h2⟩ := args_rel (rs := rs) hok fd.ntmps
 refine (hS (F00 W fd.ntmps) (G00 W) st _ y _ W ⟨al.map Arg.v⟩ (tab_start hT) h1 happ h2 rfl (fun fd' h => by rw [hf] at h; cases h; rfl) (by simp) (fun i => by simp [Array.getD_eq_getD_getElem?, List.getD_eq_getElem?_getD])).mono fun e W' ⟨us, g', st', q1, q2, q3, q4, _⟩ => ?_
 have hlen : us.length = 1 := q2.trans hrs
 obtain ⟨u, rfl⟩ : ∃ u, us = [u] := by
  match us, hlen with
  | [u], _ => exact ⟨u, rfl⟩
 have h0 := q4.slots 0
 rw [hex st' q3] at h0
 obtain ⟨cs, g1, g2⟩ := h0
 obtain ⟨c1, c2, rfl, g3, g4⟩ := g1
 have g3 : c1 = [.bool true] := g3
 have g4 : c2 = [] := g4
 subst g3; subst g4
 have g2 : [Value.bool true] ++ [] = [u] := g2
 injection g2 with g2
 have hu : u = .bool true := g2.symm
 subst hu
 refine ⟨q1, q4.fr.os, q4.fr.tape, q4.fr.output, q4.fr.size, fun k hk => q4.fr.old k hk fun _ h => h⟩
end
section
variable {H : Type} {enc : TypeId × Value -> H} {P : Program}
theorem post_of_below {f : Func} {s : ChangeSpec} {apart fresh handsOn again : Bool} {W W' : World} {args : Array Value} {v : Value} {ds gs : List (DataW H)} {before pa pv : List MemPlace}
  (hW : DataW.Whole enc P f.params.toList s.vars apart W args.toList ds gs before)
  (hres : ∀ (b : Nat) (sp : Nat -> Bool) (hd : Bool), DataW.TrodAll enc P W' b sp hd f.resultTypes.toList (v.resultList f.resultTypes.size) (s.fn H (ds ++ gs)).results [])
  (hargs : ∀ sp : Nat -> Bool, (∀ p ∈ before, sp p.block = true) -> DataW.TrodAll enc P W' 0 sp true f.params.toList args.toList (s.fn H (ds ++ gs)).args pa)
  (hvars : ∀ sp : Nat -> Bool, (∀ p ∈ before, sp p.block = true) -> DataW.TrodVars enc P W' sp s.vars (s.fn H (ds ++ gs)).vars pv)
  (hps : before = pa ++ pv) (hb : Below W.heap.size W W')
  (hok : ∀ (j : Nat) (t : TypeId) (r : Value), f.resultTypes[j]? = some t -> (v.resultList f.resultTypes.size)[j]? = some r -> Value.okWide P W' .any 0 t r) :
  s.post enc P f apart fresh handsOn again W args v W' := by
 have hlt : ∀ p ∈ before, p.block < W.heap.size := fun p hp => hW.lt p hp
 have hold : ∀ p ∈ before, (fun b => decide (b < W.heap.size)) p.block = true := fun p hp => by simpa using hlt p hp
 refine ⟨ds, gs, before, [], pa, pv, hW, hres _ _ _, hargs _ hold, hvars _ hold, World.keptBut_mono (fun p hp => ⟨hp, ?_⟩) (hb.frame (· ∈ before)), fun _ => ?_⟩
 ·rw [hps, List.mem_append] at hp
  exact Or.inr hp
 ·obtain ⟨_, _, _, _, _, hz, hn⟩ := hW
  refine ⟨hok, _, _, ([] ++ pa) ++ pv, ⟨[] ++ pa, pv, trodAll_append (hargs _ (fun _ _ => rfl)) (hres _ _ _), hvars _ (fun _ _ => rfl), rfl, ?_, ?_⟩, ?_⟩
  ·intro b off hp
   have hin : MemPlace.cell b off ∈ before := by rw [hps]; simpa using hp
   rw [hb.frozen (hlt _ hin)]
   exact hz b off hin
  ·intro ha
   have := hn ha
   rw [hps] at this
   simpa using this
  ·intro p hp _
   rw [hps]
   simpa using hp
theorem trodAll_stays (hl : laidOutB P = true) {W W' : World} (hb : Below W.heap.size W W') {sp : Nat -> Bool} : ∀ {ts : List TypeId} {vs : List Value} {ds : List (DataW H)} {ps : List MemPlace},
  (ts.all fun t => P.readableRec t && decide (t < P.types.size)) = true -> DataW.TrodAll enc P W 0 (fun _ => true) true ts vs ds ps -> (∀ p ∈ ps, p.block < W.heap.size) -> (∀ p ∈ ps, sp p.block = true) ->
  DataW.TrodAll enc P W' 0 sp true ts vs ds ps
 | [], vs, ds, ps, _, h, _, _ => by
  obtain ⟨rfl, rfl, rfl⟩ := trodAll_nil h
  exact h
 | t :: ts, vs, ds, ps, ht, h, hlt, hsp => by
  obtain ⟨v, vs', d, ds', p, q, rfl, rfl, rfl, h1, h2⟩ := trodAll_cons h
  simp only [List.all_cons, Bool.and_eq_true, decide_eq_true_eq] at ht
  exact ⟨p, q, WideElems.Trod_stays hl ht.1.1 ht.1.2 h1 (fun x hx => hb.same (hlt x (by simp [hx]))) (fun x hx => hsp x (by simp [hx])),
   trodAll_stays hl hb ht.2 h2 (fun x hx => hlt x (by simp [hx])) (fun x hx => hsp x (by simp [hx])), rfl⟩
theorem law_post {tb : TypeId} {f : Func} {s : ChangeSpec} {fresh handsOn again : Bool} {W W' : World} {args : Array Value} {ds : List (DataW H)} {before : List MemPlace}
  (hv : s.vars = []) (hrt : f.resultTypes = #[tb]) (hb : P.underlying tb = some .bool) (hl : laidOutB P = true) (hp : (f.params.toList.all fun t => P.readableRec t && decide (t < P.types.size)) = true)
  (hW : DataW.Whole enc P f.params.toList s.vars false W args.toList ds [] before) (hfn : (s.fn H (ds ++ [])).results = [.lit (.bool true)]) (hfa : (s.fn H (ds ++ [])).args = ds) (hfv : (s.fn H (ds ++ [])).vars = [])
  (hbel : Below W.heap.size W W') : s.post enc P f false fresh handsOn again W args (.bool true) W' := by
 have hlt : ∀ p ∈ before, p.block < W.heap.size := fun p hp => hW.lt p hp
 have hW2 := hW
 obtain ⟨p, q, hA, hV, hpq, _, _⟩ := hW2
 rw [hv] at hV
 obtain ⟨_, rfl⟩ := trodVars_none hV
 have hpq' : before = p := by simpa using hpq
 subst hpq'
 refine post_of_below (pa := before) (pv := []) hW ?_ (fun sp hsp => ?_) (fun sp _ => ?_) (by simp) hbel ?_
 ·intro b sp hd
  rw [hfn, hrt]
  exact trodAll_cons_mk (shut_bool hb _) trodAll_mk0
 ·rw [hfa]; exact trodAll_stays hl hbel hp hA hlt hsp
 ·rw [hfv, hv]; rfl
 ·exact ok_one hrt rfl (okWide_bool_mk hb _)
end
end Pv
end Go.Proofs.YtgfmfgombmpodaaGreatDoor
namespace Go.Proofs.YtgfmfgombmpodaaGreatDoor
open Go.RowKit
namespace Pv
set_option linter.unusedVariables false
section
variable {F : Fr} {g : Gh} {st st' : PSt} {tmf : Nat -> Value} {w w' : World}
theorem appF_inv_c {α : Type} {t : Ty} {ts : List Ty} {f : insT (t :: ts) (Option α)} {xs : List Dat} {y : α} (h : appF (t :: ts) f xs = some y) : ∃ x xs', xs = ⟨t, x⟩ :: xs' /\ appF ts (f x) xs' = some y := by
 cases xs with
 | nil => cases h
 | cons x xs' =>
  have h' : (match castD t x.2 with | some a => appF ts (f a) xs' | none => none) = some y := h
  split at h'
  ·rename_i a ha
   exact ⟨a, xs', by rw [<- castD_sig ha], h'⟩
  ·cases h'
theorem appF_inv_n {α : Type} {f : Option α} {xs : List Dat} {y : α} (h : appF [] f xs = some y) : xs = [] /\ f = some y := by
 cases xs with
 | nil => exact ⟨rfl, h⟩
 | cons x xs' => cases h
theorem Frame.below {C : Com} (h : Frame F C w) (hb : Below w.heap.size w w') : Frame F C w' :=
 ⟨Nat.le_trans h.size hb.size, hb.os.trans h.os, hb.tape.trans h.tape, hb.output.trans h.output, fun b hlt hx => (hb.block b (Nat.lt_of_lt_of_le hlt h.size)).trans (h.old b hlt hx),
  fun b cs T fr hlt hc => by
   obtain ⟨cs', fr', h1, h2, h3⟩ := h.shape b cs T fr hlt hc
   exact ⟨cs', fr', (hb.block b (Nat.lt_of_lt_of_le hlt h.size)).trans h1, h2, h3⟩, h.com, h.mono, fun b o hc => Nat.lt_of_lt_of_le (h.lim b o hc) hb.size⟩
theorem mrel_out (h : MRel F g st tmf w) (hb : Below w.heap.size w w') {t : Ty} {x : t.D} {u : Value} (hu : RepD w' g.C t x [u]) (h0 : st'.φ 0 = .w false [.d t x]) (h1 : ∀ i, st'.φ (i + 1) = .dead) (hL : ∀ k, st'.L k = none) (hO : ∀ k, st'.O k = true -> k = .zero) (hkn : st'.kn = []) (hfr : st'.fr = []) :
  MRel F ⟨g.C, fun _ => none, g.ρ, fun _ _ => []⟩ st' (fun i => [u].getD i undef) w' := by
 refine ⟨h.fr.below hb, fun i => ?_, fun k σ ls hl => ?_, fun k σ ls hl => ?_, fun t b hk => ?_, fun i t want ag ls hs => ?_, fun d hd => ?_, fun i k hk => ?_, rfl, fun k k' b _ _ hb => (by cases hb), fun k b j x _ hb => (by cases hb), fun k b _ hb => (by cases hb), fun k b _ hb => (by cases hb), fun j j' x x' hj => ?_⟩
 ·cases i with
  | zero => rw [h0]; exact ⟨[u], ⟨[u], [], rfl, hu, rfl⟩, rfl⟩
  | succ i => rw [h1]; trivial
 ·rw [hL] at hl; cases hl
 ·rw [hL] at hl; cases hl
 ·rw [hkn] at hk; cases hk
 ·cases i with
  | zero => rw [h0] at hs; cases hs
  | succ i => rw [h1] at hs; cases hs
 ·rw [hfr] at hd; cases hd
 ·cases i with
  | zero => rw [h0] at hk; cases hk
  | succ i => rw [h1] at hk; cases hk
 ·rw [hL] at hj; cases hj
theorem rel_bytes {O : Tok -> Bool} {u : Value} {l : List Int} (h : RelP F g w O tmf u (.w false [.d (.sl (.int .u8)) l])) : ∃ a n c, u = .slice a n c /\ l.length = n /\ n <= c /\ c <= maxLen /\ (∀ x ∈ l, 0 <= x /\ x < 256) /\ ∀ (i : Nat) (x : Int), l[i]? = some x -> ∃ ad, a = some ad /\ w.cell? (ad.add i) = some (.int .u8 x) := by
 obtain ⟨cs, ⟨c1, c2, rfl, h1, h2⟩, h3⟩ := h
 have h2 : c2 = [] := h2
 subst h2
 obtain ⟨a, n, c, e, h4, h5, h6, h7⟩ := h1
 have h3 : c1 ++ [] = [u] := h3
 rw [List.append_nil, e] at h3
 injection h3 with h3
 refine ⟨a, n, c, h3.symm, h4, h5, h6, fun x hx => ?_, fun i x hi => ?_⟩
 ·obtain ⟨i, hi, rfl⟩ := List.mem_iff_getElem.1 hx
  obtain ⟨ad, us, e1, e2, e3, e4⟩ := h7 i l[i] (List.getElem?_eq_getElem hi)
  have hw : (Lit.int .u8 l[i]).wf = true := e4.2
  simp [Lit.wf, IntKind.min, IntKind.max, IntKind.signed, IntKind.bits] at hw
  omega
 ·obtain ⟨ad, us, e1, e2, e3, e4⟩ := h7 i x hi
  have e5 : us = [.int .u8 x] := e4.1
  have := (e3 0 (.int .u8 x) (by rw [e5]; rfl)).1
  rw [show i * (Ty.int .u8).size + 0 = i by show i * 1 + 0 = i; omega] at this
  exact ⟨ad, e1, this⟩
end
def Par.isv : Par -> Bool
 | .v _ _ => true
 | .m _ => false
def exitO (s : Sig) : Tok -> Bool := fun t => hasT (.zero :: labs (Tok.hd 0) s.outs 0) t
theorem isM_v : ∀ {ps : List Par} (i : Nat), ps.all Par.isv = true -> isM ps i = false
 | [], _, _ => rfl
 | .v _ _ :: _, 0, _ => rfl
 | .v _ _ :: ps, i + 1, h => isM_v (ps := ps) i (by simpa [Par.isv] using h)
 | .m _ :: _, _, h => by simp [Par.isv] at h
theorem inoutAt_v : ∀ {ps : List Par} {ls : List Leaf} (i : Nat), ps.all Par.isv = true -> inoutAt ps ls i = none
 | [], _, _, _ => rfl
 | .v _ _ :: _, _, 0, _ => rfl
 | .v _ _ :: ps, ls, i + 1, h => inoutAt_v (ps := ps) i (by simpa [Par.isv] using h)
 | .m _ :: _, _, _, h => by simp [Par.isv] at h
theorem resAt_w : ∀ {rs : List (Bool × List LT)} {ls : List Leaf} (i : Nat), (∃ ag os, resAt rs ls i = .w ag os) \/ resAt rs ls i = .dead
 | [], _, _ => .inr rfl
 | (_, _) :: _, _, 0 => .inl ⟨_, _, rfl⟩
 | (_, _) :: rs, ls, i + 1 => resAt_w (rs := rs) i
theorem sound_of {P : Program} {T : Tab} {f : FuncId} {s : Sig} {fn : s.Fn} (hp : s.ps.all Par.isv = true)
  (H : ∀ (F : Fr) (g : Gh) (O : Tok -> Bool) (xs : List Dat) (ls : List Leaf) (y : s.out.D) (tmf : Nat -> Value) (w : World) (args : Array Value), (∀ p ∈ T, ∃ ty fr, w.heap[p.1]? = some (.cells p.2 ty fr)) -> F.w0 = w -> (∀ b o, g.C b o -> b < w.heap.size) -> mkLs (Tok.hd 0) (parsT s.ps) 0 xs = some ls -> appF ((parsT s.ps).map LT.ty) fn.f xs = some y -> args.size = s.ps.length ->
   (∀ i, RelP F g w O tmf (args.getD i undef) (parP s.ps ls i)) -> Calls P f args w fun e w' => ∃ us os C' blk', e = .returned (retV us) /\ us.length = s.rs.length /\ mkLs (Tok.hd 0) s.outs 0 (unpackD (s.outs.map LT.ty) y) = some os /\ Below w.heap.size w w' /\
    (∀ b o, b < w.heap.size -> (C' b o ↔ g.C b o)) /\ (∀ b o, C' b o -> b < w'.heap.size) /\ blk' .zero = none /\ (∀ k b, blk' k = some b -> w.heap.size <= b /\ b < w'.heap.size) /\ (∀ k k' b, blk' k = some b -> blk' k' = some b -> k = k') /\
    ∀ i, i < s.rs.length -> RelP F ⟨C', blk', g.ρ, fun _ _ => []⟩ w' (exitO s) tmf (us.getD i undef) (resAt s.rs os i)) : SoundFn P T f s fn := by
 intro F g st xs y tmf w args hT hent happ hrel hw hn hsz htm
 unfold entrySt at hent
 split at hent
 case h_1 => cases hent
 rename_i ls hls
 injection hent with hent
 have hφ : ∀ i, st.φ i = parP s.ps ls i := fun i => by
  rw [<- hent]
  show (match isM s.ps i with | true => PV.loc i 0 | false => parP s.ps ls i) = _
  rw [isM_v i hp]
 refine (H F g st.O xs ls y tmf w args (fun p hp => (tab_now hT hrel.fr p hp).1) hw hrel.fr.lim hls happ hsz fun i => ?_).mono ?_
 ·have := hrel.slots i
  rw [hφ, htm] at this
  exact this
 ·rintro e w' ⟨us, os, C', blk', he, hus, hos, hbel, hC, hlim, hb0, hbk, hbi, hres⟩
  refine ⟨us, ⟨C', blk', g.ρ, fun _ _ => []⟩, ⟨resAt s.rs os, fun _ => none, exitO s, [], [], []⟩, he, hus, ?_, ?_, fun k hk => absurd ((isM_v k hp).symm.trans hk) (by decide)⟩
  ·unfold exitSt
   rw [hos]
   show some (PSt.mk (resAt s.rs os) (fun k => match inoutAt s.ps (os.drop s.nres) k with | some l => some ((0 : Nat), l) | none => none) (exitO s) [] [] []) = some (PSt.mk (resAt s.rs os) (fun _ => none) (exitO s) [] [] [])
   congr 2
   funext k
   rw [inoutAt_v k hp]
  ·have hfr := hrel.fr
   have h00 : F.w0.heap.size <= w.heap.size := hfr.size
   refine ⟨?_, fun i => ?_, fun k σ ls hl => (by cases hl), fun k σ ls hl => (by cases hl), fun t b hk => (by cases hk), fun i t want ag ls hs => ?_, fun d hd => (by cases hd), fun i k hk => ?_, hb0, fun k k' b _ _ h1 h2 => hbi k k' b h1 h2, fun k b j x _ _ hj => (nomatch hj), fun k b _ h => (hbk k b h).2, fun k b _ h => .inl (Nat.le_trans h00 (hbk k b h).1), fun j j' x x' hj => (nomatch hj)⟩
   ·have hf2 := hfr.below hbel
    refine ⟨hf2.size, hf2.os, hf2.tape, hf2.output, hf2.old, hf2.shape, fun b o hb hx => ?_, fun b o h => ?_, hlim⟩
    ·exact (hC b o (Nat.lt_of_lt_of_le hb h00)).trans (hfr.com b o hb hx)
    ·have hgc := hfr.mono b o h
     exact (hC b o (hfr.lim b o hgc)).2 hgc
   ·show RelP F ⟨C', blk', g.ρ, fun _ _ => []⟩ w' (exitO s) (fun i => us.getD i undef) (us.getD i undef) (resAt s.rs os i)
    rcases Nat.lt_or_ge i s.rs.length with hi | hi
    ·have h := hres i hi
     rcases resAt_w (rs := s.rs) (ls := os) i with ⟨ag, os', e⟩ | e
     ·rw [e] at h ⊢; exact h
     ·rw [e]; trivial
    ·rw [resAt_out hi]; trivial
   ·have hs : resAt s.rs os i = .spec t want ag ls := hs
    rcases resAt_w (rs := s.rs) (ls := os) i with ⟨ag, os', e⟩ | e
    ·rw [e] at hs; cases hs
    ·rw [e] at hs; cases hs
   ·have hk : k ∈ keyP (resAt s.rs os i) := hk
    rcases resAt_w (rs := s.rs) (ls := os) i with ⟨ag, os', e⟩ | e
    ·rw [e] at hk; cases hk
    ·rw [e] at hk; cases hk
theorem repLs_to {F F' : Fr} {g g' : Gh} {w : World} {O O' : Tok -> Bool} (hC : g'.C = g.C) : ∀ {ls : List Leaf} {cs : List Value}, ls.all isD = true -> RepLs F g w O ls cs -> RepLs F' g' w O' ls cs
 | [], _, _, h => h
 | .d t x :: ls, cs, hd, h => by
  obtain ⟨c1, c2, e, h1, h2⟩ := h
  refine ⟨c1, c2, e, ?_, repLs_to hC (by simpa [isD] using hd) h2⟩
  show RepD w g'.C t x c1
  rw [hC]
  exact h1
 | .own _ _ _ _ :: _, _, hd, _ => by simp [isD] at hd
theorem mkLs_d {lab : Nat -> Tok} : ∀ {ts : List LT} {j : Nat} {xs : List Dat} {ls : List Leaf}, ts.all (fun t => match t with | .d _ => true | _ => false) = true -> mkLs lab ts j xs = some ls -> ls.all isD = true
 | [], _, [], ls, _, h => by injection h with h; subst h; rfl
 | [], _, _ :: _, _, _, h => by cases h
 | .d t :: ts, j, [], ls, _, h => by cases h
 | .d t :: ts, j, x :: xs, ls, hd, h => by
  unfold mkLs at h
  split at h
  case h_2 => cases h
  rename_i a r h1 h2
  injection h with h
  subst h
  have := mkLs_d (ts := ts) (by simpa using hd) h2
  simpa [isD] using this
 | .own _ _ :: _, _, _, _, hd, _ => by simp at hd
theorem sound_d {P : Program} {T : Tab} {f : FuncId} {s : Sig} {fn : s.Fn} (hp : s.ps.all Par.isv = true)
  (H : ∀ (F : Fr) (g : Gh) (O : Tok -> Bool) (xs : List Dat) (ls : List Leaf) (y : s.out.D) (tmf : Nat -> Value) (w : World) (args : Array Value), (∀ p ∈ T, ∃ ty fr, w.heap[p.1]? = some (.cells p.2 ty fr)) -> mkLs (Tok.hd 0) (parsT s.ps) 0 xs = some ls -> appF ((parsT s.ps).map LT.ty) fn.f xs = some y -> args.size = s.ps.length ->
   (∀ i, RelP F g w O tmf (args.getD i undef) (parP s.ps ls i)) -> Calls P f args w fun e w' => ∃ us os, e = .returned (retV us) /\ us.length = s.rs.length /\ mkLs (Tok.hd 0) s.outs 0 (unpackD (s.outs.map LT.ty) y) = some os /\ Below w.heap.size w w' /\
    ∀ i, i < s.rs.length -> RelP F ⟨g.C, fun _ => none, g.ρ, fun _ _ => []⟩ w' (exitO s) tmf (us.getD i undef) (resAt s.rs os i)) : SoundFn P T f s fn := by
 refine sound_of hp fun F g O xs ls y tmf w args hT hw hlim hls happ hsz hr => (H F g O xs ls y tmf w args hT hls happ hsz hr).mono ?_
 rintro e w' ⟨us, os, he, hus, hos, hbel, hres⟩
 exact ⟨us, os, g.C, fun _ => none, he, hus, hos, hbel, fun _ _ _ => Iff.rfl, fun b o h => Nat.lt_of_lt_of_le (hlim b o h) hbel.size, rfl, fun k b h => (by cases h), fun k k' b h => (by cases h), hres⟩
theorem own_out {F : Fr} {g : Gh} {w w' : World} {s : Sig} {tmf : Nat -> Value} {E : TypeId} {e : Ty} {l : List e.D} {b cap : Nat} {cur : Array Value} {y : s.out.D} (hw : F.w0 = w) (hlim : ∀ b o, g.C b o -> b < w.heap.size) (hbel : Below w.heap.size w w') (hb : w.heap.size <= b)
  (hcell : w'.heap[b]? = some (.cells cur E (0, 0))) (hl : l.length <= cap) (hc : cap <= maxLen) (hsz : cur.size = cap * e.size) (hel : ∀ (i : Nat) (x : e.D), l[i]? = some x -> RepD w' (fun b' o => g.C b' o \/ (b' = b /\ o < l.length * e.size)) e x ((cur.toList.drop (i * e.size)).take e.size))
  (hrs : s.rs = [(false, [.own E e])]) (hmk : mkLs (Tok.hd 0) s.outs 0 (unpackD (s.outs.map LT.ty) y) = some [.own (.hd 0 0) E e l]) :
  ∃ us os C' blk', Ending.returned (.slice (some ⟨b, 0, none⟩) l.length cap) = .returned (retV us) /\ us.length = s.rs.length /\ mkLs (Tok.hd 0) s.outs 0 (unpackD (s.outs.map LT.ty) y) = some os /\ Below w.heap.size w w' /\
   (∀ b o, b < w.heap.size -> (C' b o ↔ g.C b o)) /\ (∀ b o, C' b o -> b < w'.heap.size) /\ blk' .zero = none /\ (∀ k b, blk' k = some b -> w.heap.size <= b /\ b < w'.heap.size) /\ (∀ k k' b, blk' k = some b -> blk' k' = some b -> k = k') /\
   ∀ i, i < s.rs.length -> RelP F ⟨C', blk', g.ρ, fun _ _ => []⟩ w' (exitO s) tmf (us.getD i undef) (resAt s.rs os i) := by
 have hblt : b < w'.heap.size := (Array.getElem?_eq_some_iff.1 hcell).1
 have hk0 : ∀ k b', (match tokEq k (.hd 0 0) with | true => some b | false => none) = some b' -> k = .hd 0 0 /\ b' = b := fun k b' hk => by
  cases hq : tokEq k (.hd 0 0) with
  | false => rw [hq] at hk; cases hk
  | true =>
   rw [hq] at hk
   injection hk with hk
   refine ⟨?_, hk.symm⟩
   cases k with
   | hd d j =>
    have : (Nat.beq d 0 && Nat.beq j 0) = true := hq
    simp only [Bool.and_eq_true] at this
    rw [Nat.eq_of_beq_eq_true this.1, Nat.eq_of_beq_eq_true this.2]
   | zero => cases hq
   | op _ _ => cases hq
 refine ⟨[.slice (some ⟨b, 0, none⟩) l.length cap], [.own (.hd 0 0) E e l], fun b' o => g.C b' o \/ (b' = b /\ o < l.length * e.size), fun k => match tokEq k (.hd 0 0) with | true => some b | false => none, rfl, by rw [hrs]; rfl, hmk, hbel, fun b' o hb' => ⟨fun h => h.elim id fun h => absurd h.1 (by omega), .inl⟩, fun b' o h => ?_, rfl, fun k b' hk => ?_, fun k k' b' hk hk' => ?_, fun i hi => ?_⟩
 ·rcases h with h | h
  ·exact Nat.lt_of_lt_of_le (hlim b' o h) hbel.size
  ·rw [h.1]; exact hblt
 ·obtain ⟨_, rfl⟩ := hk0 k b' hk
  exact ⟨hb, hblt⟩
 ·rw [(hk0 k b' hk).1, (hk0 k' b' hk').1]
 ·rw [hrs] at hi ⊢
  match i, hi with
  | 0, _ =>
   have hrepd : RepD w' (fun b' o => g.C b' o \/ (b' = b /\ o < l.length * e.size)) (.sl e) l [.slice (some ⟨b, 0, none⟩) l.length cap] := by
    refine ⟨_, _, _, rfl, rfl, hl, hc, fun i x hx => ?_⟩
    have hx : l[i]? = some x := hx
    have hi : i < l.length := (List.getElem?_eq_some_iff.1 hx).1
    have hr := hel i x hx
    refine ⟨_, _, rfl, RepD.len hr, fun j u hj => ?_, hr⟩
    have hjl : j < e.size := by
     have h1 := (List.getElem?_eq_some_iff.1 hj).1
     have h2 := RepD.len hr
     omega
    rw [List.getElem?_take, if_pos hjl, List.getElem?_drop] at hj
    rw [add_at]
    refine ⟨?_, .inr ⟨rfl, ?_⟩⟩
    ·rw [cell_at hcell, <- Array.getElem?_toList, Nat.zero_add]; exact hj
    ·show 0 + (i * e.size + j) < _
     have h1 : (i + 1) * e.size <= l.length * e.size := Nat.mul_le_mul_right _ hi
     rw [Nat.add_mul, Nat.one_mul] at h1
     omega
   refine ⟨[.slice (some ⟨b, 0, none⟩) l.length cap], ⟨_, [], rfl, ⟨hrepd, fun _ => ⟨_, rfl, .inr ⟨b, cap, cur, rfl, rfl, hcell, hl, hc, hsz, hel, ?_, ?_⟩⟩⟩, rfl⟩, rfl⟩
   ·intro o
    show (g.C b o \/ (b = b /\ o < l.length * e.size)) ↔ o < l.length * e.size
    constructor
    ·rintro (h | h)
     ·have := hlim _ _ h; omega
     ·exact h.2
    ·intro h; exact .inr ⟨rfl, h⟩
   ·intro o _
    exact .inl (by rw [hw]; exact hb)
theorem own_nil {F : Fr} {g : Gh} {w w' : World} {s : Sig} {tmf : Nat -> Value} {E : TypeId} {e : Ty} {a : Option Addr} {y : s.out.D} (hlim : ∀ b o, g.C b o -> b < w.heap.size) (hbel : Below w.heap.size w w')
  (hrs : s.rs = [(false, [.own E e])]) (hmk : mkLs (Tok.hd 0) s.outs 0 (unpackD (s.outs.map LT.ty) y) = some [.own (.hd 0 0) E e ([] : List e.D)]) :
  ∃ us os C' blk', Ending.returned (.slice a 0 0) = .returned (retV us) /\ us.length = s.rs.length /\ mkLs (Tok.hd 0) s.outs 0 (unpackD (s.outs.map LT.ty) y) = some os /\ Below w.heap.size w w' /\
   (∀ b o, b < w.heap.size -> (C' b o ↔ g.C b o)) /\ (∀ b o, C' b o -> b < w'.heap.size) /\ blk' .zero = none /\ (∀ k b, blk' k = some b -> w.heap.size <= b /\ b < w'.heap.size) /\ (∀ k k' b, blk' k = some b -> blk' k' = some b -> k = k') /\
   ∀ i, i < s.rs.length -> RelP F ⟨C', blk', g.ρ, fun _ _ => []⟩ w' (exitO s) tmf (us.getD i undef) (resAt s.rs os i) := by
 refine ⟨[.slice a 0 0], [.own (.hd 0 0) E e ([] : List e.D)], g.C, fun _ => none, rfl, by rw [hrs]; rfl, hmk, hbel, fun _ _ _ => Iff.rfl, fun b o h => Nat.lt_of_lt_of_le (hlim b o h) hbel.size, rfl, fun k b h => (by cases h), fun k k' b h => (by cases h), fun i hi => ?_⟩
 rw [hrs] at hi ⊢
 match i, hi with
 | 0, _ =>
  refine ⟨[.slice a 0 0], ⟨_, [], rfl, ⟨⟨a, 0, 0, rfl, rfl, Nat.le_refl _, by unfold maxLen; omega, fun i x hx => by simp [gt] at hx⟩, fun _ => ⟨_, rfl, .inl ⟨a, rfl, rfl, rfl⟩⟩⟩, rfl⟩, rfl⟩
def tabOf (g : Nat) (k : IntKind) (zs : List Int) : Nat × Array Value := (g, (zs.map fun z => Value.int k z).toArray)
theorem tabIs_now {P : Program} {w : World} {T : Tab} {name : String} {g : Nat} {k : IntKind} {zs : List Int} (hT : ∀ p ∈ T, ∃ ty fr, w.heap[p.1]? = some (.cells p.2 ty fr)) (hm : tabOf g k zs ∈ T) (hg : P.globalNamed name = some g) : Lib.TabIs P w name k zs := by
 obtain ⟨ty, fr, h⟩ := hT _ hm
 have h : w.heap[g]? = some (.cells (zs.map fun z => Value.int k z).toArray ty fr) := h
 unfold Lib.TabIs World.var?
 rw [hg, Option.bind_some, h]
theorem tab_laid {P : Program} {W : World} {l : List (String × DataW Unit)} {name : String} {k : IntKind} {zs : List Int} {g : Nat} {t e : TypeId} {n : Nat}
  (h : laidMetH P l W) (hl : (l.filter fun x => x.1 == name) = [(name, Lib.tabData k zs)]) (hg : P.globalNamed name = some g) (hty : (P.globals[g]?).map (·.type) = some t) (ht : P.underlying t = some (.array n e)) (he : P.underlying e = some (.int k)) (hce : P.cellsOf e = 1) (hct : P.cellsOf t = n) :
  ∃ ty fr, W.heap[(tabOf g k zs).1]? = some (.cells (tabOf g k zs).2 ty fr) := by
 have h1 := laidMetH.filter (fun x => x.1 == name) h
 rw [hl, MakeChecks.laidMetH_plain _ _ _ rfl] at h1
 have h2 := Lib.tabIs_of_head hg hty ht he hce hct h1
 unfold Lib.TabIs World.var? at h2
 rw [hg, Option.bind_some] at h2
 split at h2
 ·rename_i cs ty fr hc
  injection h2 with h2
  subst h2
  exact ⟨ty, fr, hc⟩
 ·cases h2
theorem below_grow (w : World) (k : Nat) (os : Array Obj) : Below w.heap.size w (Go.Sort.grow (w.drewN k) os) := by
 refine ⟨rfl, rfl, rfl, ?_, fun j hj => ?_⟩
 ·rw [Go.Sort.size_grow]
  exact Nat.le_add_right _ _
 ·exact Go.Sort.heap_grow_old (w.drewN k) os hj
section
variable {E : Env} {F : Fr} {g : Gh} {st : PSt} {w : World}
theorem fnH_calls {T : Tab} (hE : E.ok T) {r : Nat} {h : PSt -> Option (Bool × PSt)} {A : List (Nat × Ann)} {f : FuncId} {fn : Func} {s : Sig} (hf : E.P.funcs[f]? = some fn) (hh : ∀ c ac k, fn.body = some c -> annot A c 0 = some (ac, k) -> ∀ p ∈ (ac.withHand r h).hands, HandS E.P F p.1 p.2)
    {xs : List Dat} {y : s.out.D} {tmf : Nat -> Value} {args : Array Value} (hT : TabF T F) (hent : entrySt s xs = some st) (happ : appF ((parsT s.ps).map LT.ty) (pvFnH r h E A fn s) xs = some y) (hrel : MRel F g st tmf w) (hw : F.w0 = w) (hn : F.n = fn.ntmps)
    (hsz : args.size = s.ps.length) (htm : ∀ i, tmf i = args.getD i undef) : Calls E.P f args w fun e w' => ∃ us g' st', e = .returned (retV us) /\ us.length = s.rs.length /\ exitSt s y = some st' /\ MRel F g' st' (fun i => us.getD i undef) w' /\ ∀ k, isM s.ps k = true -> g'.ρ k = g.ρ k := by
  have hv := appF_curry _ _ _ _ happ
  unfold pvFnHL at hv
  rw [hent] at hv
  split at hv
  case h_2 => cases hv
  rename_i c st0 hb he
  injection he with he
  subst he
  split at hv
  case h_2 => cases hv
  rename_i ac0 k hac
  obtain ⟨ac, hace⟩ : ∃ ac, ac = AC.withHand r h ac0 := ⟨_, rfl⟩
  rw [<- hace] at hv
  simp only at hv
  split at hv
  case h_2 => cases hv
  rename_i hgd
  simp only [Bool.and_eq_true] at hgd
  obtain ⟨⟨⟨⟨hg1, hg2⟩, hg3⟩, hg4⟩, hg5⟩ := hgd
  have hFn := hn
  have hle : args.size <= fn.ntmps := by rw [hsz]; rw [Nat.ble_eq] at hg3; exact hg3
  have hdst : ∀ d ∈ ac.dsts, d < F.n := fun d hd => by
    have := List.all_eq_true.1 hg2 d hd
    rw [Nat.blt_eq] at this
    omega
  have htm' : tm { tmps := args ++ Array.replicate (fn.ntmps - args.size) undef, defers := [] } = tmf := by
    funext i
    rw [htm i]
    unfold tm
    simp only [Array.getD_eq_getD_getElem?, Array.getElem?_append]
    by_cases hlt : i < args.size
    · simp [hlt]
    · rw [if_neg hlt, Array.getElem?_eq_none (show args.size <= i by omega)]
      simp only [Array.getElem?_replicate, Option.getD_none]
      split <;> rfl
  have hAR : AR F g st { tmps := args ++ Array.replicate (fn.ntmps - args.size) undef, defers := [] } w := ⟨by simp; omega, rfl, by rw [htm']; exact hrel⟩
  have he : ac.erase = c := by rw [hace, erase_hand]; exact annot_erase c 0 ac0 k hac
  refine calls_of_wp hf hb ?_
  have hs := pv_sound ⟨T, hE, hT⟩ ac (by rw [hace]; exact hh c ac0 k hb hac) _ st y g _ w hg1 hdst hAR hv
  rw [he] at hs
  have fin : ∀ {x a' w' g' st'}, retF E.P fn.results.toList s st' = some y -> AR F g' st' a' w' -> LftX x (· ∈ ac.dsts) (· ∈ ac.ids) g { tmps := args ++ Array.replicate (fn.ntmps - args.size) undef, defers := [] } w g' a' w' ->
      a'.defers = [] /\ ∃ v, (results fn a'.tmps).run E.P w' = .ok v w' /\ ∃ us g' st', Ending.returned v = .returned (retV us) /\ us.length = s.rs.length /\ exitSt s y = some st' /\ MRel F g' st' (fun i => us.getD i undef) w' /\ ∀ k, isM s.ps k = true -> g'.ρ k = g.ρ k := fun {x a' w' g' st'} hr hA hl => by
    obtain ⟨us, g2, stX, r1, r2, r3, r4, r5, r6⟩ := exit_relF hA hr
    refine ⟨hA.defers, retV us, results_run r2 r3, us, g2, stX, rfl, r1, r4, r5, fun k hk => ?_⟩
    rw [r6]
    refine hl.ρ k fun hm => ?_
    have hlt : k < s.ps.length := by
      obtain ⟨ts, hts⟩ := isM_iff.1 hk
      exact (List.getElem?_eq_some_iff.1 hts).1
    have := List.all_eq_true.1 hg5 k (List.mem_range.2 hlt)
    rw [hk, hasN_iff.2 hm] at this
    cases this
  refine Code.wp_mono (fun e a' w' hp => ?_) hs
  obtain ⟨x, st', g', rfl, hQ, hr, hl⟩ := hp
  cases x with
  | exit i => cases hQ
  | normal => exact fin hQ hr hl
  | ret => exact fin hQ hr hl
  | goto i => cases hQ
end
def LT.isd : LT -> Bool
 | .d _ => true
 | _ => false
theorem resAt_d : ∀ {rs : List (Bool × List LT)} {ls : List Leaf} {i : Nat} {ag : Bool} {os : List Leaf}, ls.all isD = true -> resAt rs ls i = .w ag os -> os.all isD = true
 | [], _, _, _, _, _, h => by cases h
 | (_, ts) :: _, ls, 0, ag, os, hd, h => by
  injection h with _ h
  subst h
  exact List.all_eq_true.2 fun x hx => List.all_eq_true.1 hd x (List.mem_of_mem_take hx)
 | (_, ts) :: rs, ls, i + 1, ag, os, hd, h => resAt_d (rs := rs) (List.all_eq_true.2 fun x hx => List.all_eq_true.1 hd x (List.mem_of_mem_drop hx)) h
theorem parP_d : ∀ {ps : List Par} {ls : List Leaf} {i : Nat} {ag : Bool} {os : List Leaf}, ls.all isD = true -> parP ps ls i = .w ag os -> os.all isD = true
 | [], _, _, _, _, _, h => by cases h
 | .v _ ts :: _, ls, 0, ag, os, hd, h => by
  injection h with _ h
  subst h
  exact List.all_eq_true.2 fun x hx => List.all_eq_true.1 hd x (List.mem_of_mem_take hx)
 | .m _ :: _, ls, 0, ag, os, hd, h => by cases h
 | p :: ps, ls, i + 1, ag, os, hd, h => parP_d (ps := ps) (List.all_eq_true.2 fun x hx => List.all_eq_true.1 hd x (List.mem_of_mem_drop hx)) h
theorem parP_c : ∀ {ps : List Par} {ls : List Leaf} (i : Nat), ps.all Par.isv = true -> (∃ ag os, parP ps ls i = .w ag os) \/ parP ps ls i = .raw undef
 | [], _, _, _ => .inr rfl
 | .v _ _ :: _, ls, 0, _ => .inl ⟨_, _, rfl⟩
 | .v _ _ :: ps, ls, i + 1, h => parP_c (ps := ps) i (by simpa [Par.isv] using h)
 | .m _ :: _, _, _, h => by simp [Par.isv] at h
theorem parK_v : ∀ {ps : List Par} {ls : List Leaf} (k : Nat), ps.all Par.isv = true -> parK ps ls k = none
 | [], _, _, _ => rfl
 | .v _ _ :: _, ls, 0, _ => rfl
 | .v _ _ :: ps, ls, i + 1, h => parK_v (ps := ps) i (by simpa [Par.isv] using h)
 | .m _ :: _, _, _, h => by simp [Par.isv] at h
theorem all_isd {ts : List LT} (h : ts.all LT.isd = true) : ts.all (fun t => match t with | .d _ => true | _ => false) = true :=
 List.all_eq_true.2 fun t ht => by
  have := List.all_eq_true.1 h t ht
  cases t <;> first | rfl | cases this
def F01 (n : Nat) (w : World) (C : Com) : Fr := ⟨n, w, C, fun _ _ => False⟩
theorem fn_soundH {E : Env} {T : Tab} (hE : E.ok T) {r : Nat} {h : PSt -> Option (Bool × PSt)} {A : List (Nat × Ann)} {f : FuncId} {fn : Func} {s : Sig} (hf : E.P.funcs[f]? = some fn) (hp : s.ps.all Par.isv = true) (hq : (parsT s.ps).all LT.isd = true) (ho : s.outs.all LT.isd = true)
  (hh : ∀ w C, ∀ c ac k, fn.body = some c -> annot A c 0 = some (ac, k) -> ∀ p ∈ (ac.withHand r h).hands, HandS E.P (F01 fn.ntmps w C) p.1 p.2) : SoundFn E.P T f s ⟨pvFnH r h E A fn s⟩ := by
 intro F g st xs y tmf w args hT hent happ hrel hw hn hsz htm
 have hTw : TabF T (F01 fn.ntmps w g.C) := fun p hp => by
  obtain ⟨h1, h2⟩ := hT p hp
  rw [hw] at h1
  exact ⟨h1, fun i hi => ⟨hrel.fr.mono _ _ (h2 i hi).1, fun h => h⟩⟩
 have hent0 := hent
 unfold entrySt at hent
 split at hent
 case h_1 => cases hent
 rename_i ls hls
 injection hent with hent
 have hld : ls.all isD = true := mkLs_d (all_isd hq) hls
 have hφ : ∀ i, st.φ i = parP s.ps ls i := fun i => by
  rw [<- hent]
  show (match isM s.ps i with | true => PV.loc i 0 | false => parP s.ps ls i) = _
  rw [isM_v i hp]
 have hL : ∀ k, st.L k = none := fun k => by
  rw [<- hent]
  show (match parK s.ps ls k with | some l => some ((0 : Nat), l) | none => none) = none
  rw [parK_v k hp]
 have hrel1 : MRel (F01 fn.ntmps w g.C) ⟨g.C, fun _ => none, fun _ => (0, 0), fun _ _ => []⟩ st tmf w := by
  refine ⟨⟨Nat.le_refl _, rfl, rfl, rfl, fun _ _ _ => rfl, fun b cs T fr _ hb => ⟨cs, fr, hb, rfl, fun _ _ => rfl⟩, fun _ _ _ _ => Iff.rfl, fun _ _ h => h, hrel.fr.lim⟩, fun i => ?_, fun k σ l hl => ?_, fun k σ l hl => ?_, fun t b hk => ?_, fun i t want ag l hs => ?_, fun d hd => ?_, fun i k hk => ?_, rfl, fun k k' b _ _ h => (by cases h), fun k b j x _ h => (by cases h), fun k b _ h => (by cases h), fun k b _ h => (by cases h), fun j j' x x' hj => ?_⟩
  ·have h1 := hrel.slots i
   rw [hφ] at h1 ⊢
   rcases parP_c (ls := ls) i hp with ⟨ag, os, e⟩ | e
   ·rw [e] at h1 ⊢
    obtain ⟨cs, h2, h3⟩ := h1
    exact ⟨cs, repLs_to (F := F) (g := g) (g' := ⟨g.C, fun _ => none, fun _ => (0, 0), fun _ _ => []⟩) (O := st.O) rfl (parP_d hld e) h2, h3⟩
   ·rw [e] at h1 ⊢; exact h1
  ·rw [hL] at hl; cases hl
  ·rw [hL] at hl; cases hl
  ·rw [<- hent] at hk; cases hk
  ·rw [hφ] at hs
   rcases parP_c (ls := ls) i hp with ⟨ag', os, e⟩ | e <;> rw [e] at hs <;> cases hs
  ·rw [<- hent] at hd; cases hd
  ·rw [hφ] at hk
   rcases parP_c (ls := ls) i hp with ⟨ag', os, e⟩ | e <;> rw [e] at hk <;> cases hk
  ·rw [hL] at hj; cases hj
 refine (fnH_calls hE hf (hh w g.C) hTw hent0 happ hrel1 rfl rfl hsz htm).mono ?_
 rintro e w' ⟨us, g', st', he, hus, hex, hr', _⟩
 have hfr := hrel.fr
 have hf1 := hr'.fr
 unfold exitSt at hex
 split at hex
 case h_1 => cases hex
 rename_i os hos
 injection hex with hex
 have hod : os.all isD = true := mkLs_d (all_isd ho) hos
 have hLx : ∀ k, st'.L k = none := fun k => by
  rw [<- hex]
  show (match inoutAt s.ps (os.drop s.nres) k with | some l => some ((0 : Nat), l) | none => none) = none
  rw [inoutAt_v k hp]
 have hφx : ∀ i, st'.φ i = resAt s.rs os i := fun i => by rw [<- hex]
 refine ⟨us, ⟨g'.C, fun _ => none, g.ρ, fun _ _ => []⟩, st', he, hus, ?_, ?_, fun k hk => absurd ((isM_v k hp).symm.trans hk) (by decide)⟩
 ·unfold exitSt
  rw [hos, <- hex]
 ·refine ⟨⟨by rw [hw]; exact hf1.size, by rw [hw]; exact hf1.os, by rw [hw]; exact hf1.tape, by rw [hw]; exact hf1.output, fun b hb _ => ?_, fun b cs T fr hb hc => ?_, fun b o hb hx => ?_, fun b o hc => ?_, hf1.lim⟩, fun i => ?_, fun k σ l hl => ?_, fun k σ l hl => ?_, fun t b hk => ?_, fun i t want ag l hs => ?_, fun d hd => ?_, fun i k hk => ?_, rfl, fun k k' b _ _ h => (by cases h), fun k b j x _ h => (by cases h), fun k b _ h => (by cases h), fun k b _ h => (by cases h), fun j j' x x' hj => ?_⟩
  ·rw [hw] at hb ⊢
   exact hf1.old b hb fun _ h => h
  ·rw [hw] at hb hc
   obtain ⟨cs', fr', q1, q2, q3⟩ := hf1.shape b cs T fr hb hc
   exact ⟨cs', fr', q1, q2, fun o _ => q3 o fun h => h⟩
  ·rw [hw] at hb
   exact (hf1.com b o hb fun h => h).trans (hfr.com b o (by rw [hw]; exact hb) hx)
  ·exact hf1.mono b o (hfr.mono b o hc)
  ·have h1 := hr'.slots i
   rw [hφx] at h1 ⊢
   rcases resAt_w (rs := s.rs) (ls := os) i with ⟨ag, os', e⟩ | e
   ·rw [e] at h1 ⊢
    obtain ⟨cs, h2, h3⟩ := h1
    exact ⟨cs, repLs_to (F := F01 fn.ntmps w g.C) (g := g') (g' := ⟨g'.C, fun _ => none, g.ρ, fun _ _ => []⟩) (O := st'.O) rfl (resAt_d hod e) h2, h3⟩
   ·rw [e]; trivial
  ·rw [hLx] at hl; cases hl
  ·rw [hLx] at hl; cases hl
  ·rw [<- hex] at hk; cases hk
  ·rw [hφx] at hs
   rcases resAt_w (rs := s.rs) (ls := os) i with ⟨ag', os', e⟩ | e <;> rw [e] at hs <;> cases hs
  ·rw [<- hex] at hd; cases hd
  ·rw [hφx] at hk
   rcases resAt_w (rs := s.rs) (ls := os) i with ⟨ag', os', e⟩ | e <;> rw [e] at hk <;> cases hk
  ·rw [hLx] at hj; cases hj
end Pv
end Go.Proofs.YtgfmfgombmpodaaGreatDoor
namespace Go.Proofs.YtgfmfgombmpodaaGreatDoor
open Go.RowKit Pv
set_option linter.unusedVariables false
theorem args_1 {args : Array Value} (h : args.size = 1) : args = #[args.getD 0 undef] := by
 obtain ⟨al⟩ := args
 match al, h with
 | [v], _ => rfl
theorem args_2 {args : Array Value} (h : args.size = 2) : args = #[args.getD 0 undef, args.getD 1 undef] := by
 obtain ⟨al⟩ := args
 match al, h with
 | [v, u], _ => rfl
theorem args_3 {args : Array Value} (h : args.size = 3) : args = #[args.getD 0 undef, args.getD 1 undef, args.getD 2 undef] := by
 obtain ⟨al⟩ := args
 match al, h with
 | [v, u, t], _ => rfl
theorem infoU : (Tryz.prog.info? 5).map (fun i => (i.zero, i.size, i.bytes)) = some (some (.int .u8 0), 1, 1) := by kernel_rfl
theorem wfQ' {x : Int} (h0 : 0 <= x) (h1 : x < 18446744073709551616) : (Lit.int .u64 x).wf = true := by
 simp [Lit.wf, IntKind.min, IntKind.max, IntKind.signed, IntKind.bits]
 omega
theorem ints_of {w : World} {C : Com} {k : IntKind} {l : List Int} {cs : List Value} (h : RepD w C (.sl (.int k)) l cs) :
  ∃ a n c, cs = [.slice a n c] /\ l.length = n /\ n <= c /\ c <= maxLen /\ (∀ x ∈ l, (Lit.int k x).wf = true) /\ (∀ ad, a = some ad -> ∀ (i : Nat) x, l[i]? = some x -> w.cell? (ad.add i) = some (.int k x)) /\ (a = none -> l = []) := by
 obtain ⟨a, n, c, e0, e1, e2, e3, e4⟩ := h
 have hel : ∀ (i : Nat) x, l[i]? = some x -> ∃ ad, a = some ad /\ w.cell? (ad.add i) = some (.int k x) /\ (Lit.int k x).wf = true := fun i x hx => by
  obtain ⟨ad, us, h1, h2, h3, h4, h5⟩ := e4 i x hx
  refine ⟨ad, h1, ?_, h5⟩
  have h4 : us = [.int k x] := h4
  have := (h3 0 (.int k x) (by rw [h4]; rfl)).1
  rw [show (Ty.int k).size = 1 from rfl, Nat.mul_one, Nat.add_zero] at this
  exact this
 refine ⟨a, n, c, e0, e1, e2, e3, fun x hx => ?_, fun ad hz i x hx => ?_, fun hz => ?_⟩
 ·obtain ⟨i, hi⟩ := List.mem_iff_getElem?.1 hx
  exact (hel i x hi).choose_spec.2.2
 ·obtain ⟨ad', h1, h2, _⟩ := hel i x hx
  rw [hz] at h1
  injection h1 with h1
  rw [h1]; exact h2
 ·cases l with
  | nil => rfl
  | cons x l =>
   obtain ⟨ad', h1, _⟩ := hel 0 x rfl
   rw [hz] at h1; cases h1
theorem rel_ints {F : Fr} {g : Gh} {w : World} {O : Tok -> Bool} {tmf : Nat -> Value} {u : Value} {k : IntKind} {l : List Int} (h : RelP F g w O tmf u (.w false [.d (.sl (.int k)) l])) :
  ∃ a n c, u = .slice a n c /\ l.length = n /\ n <= c /\ c <= maxLen /\ (∀ x ∈ l, (Lit.int k x).wf = true) /\ (∀ ad, a = some ad -> ∀ (i : Nat) x, l[i]? = some x -> w.cell? (ad.add i) = some (.int k x)) /\ (a = none -> l = []) := by
 obtain ⟨a, n, c, e0, r⟩ := ints_of (rel_leaf.1 h)
 exact ⟨a, n, c, by injection e0, r⟩
theorem own_row {F : Fr} {g : Gh} {w w' : World} {s : Sig} {tmf : Nat -> Value} {E : TypeId} {k : IntKind} {l : List Int} {v : Value} {y : s.out.D} (hw : F.w0 = w) (hlim : ∀ b o, g.C b o -> b < w.heap.size) (hbel : Below w.heap.size w w')
  (hrow : w'.ownsRow w.heap.size E 1 v l.length (l.map (Value.int k))) (hwf : ∀ x ∈ l, (Lit.int k x).wf = true)
  (hrs : s.rs = [(false, [.own E (.int k)])]) (hmk : mkLs (Tok.hd 0) s.outs 0 (unpackD (s.outs.map LT.ty) y) = some [.own (.hd 0 0) E (.int k) l]) :
  ∃ us os C' blk', Ending.returned v = .returned (retV us) /\ us.length = s.rs.length /\ mkLs (Tok.hd 0) s.outs 0 (unpackD (s.outs.map LT.ty) y) = some os /\ Below w.heap.size w w' /\
   (∀ b o, b < w.heap.size -> (C' b o ↔ g.C b o)) /\ (∀ b o, C' b o -> b < w'.heap.size) /\ blk' .zero = none /\ (∀ k b, blk' k = some b -> w.heap.size <= b /\ b < w'.heap.size) /\ (∀ k k' b, blk' k = some b -> blk' k' = some b -> k = k') /\
   ∀ i, i < s.rs.length -> RelP F ⟨C', blk', g.ρ, fun _ _ => []⟩ w' (exitO s) tmf (us.getD i undef) (resAt s.rs os i) := by
 obtain ⟨h0, ⟨rfl, hn⟩ | ⟨b, cap, cur, rfl, h2, h3, h4, h5, h6, h7⟩⟩ := hrow
 ·have : l = [] := List.eq_nil_of_length_eq_zero hn
  subst this
  exact own_nil hlim hbel hrs hmk
 ·refine own_out (e := .int k) (l := l) hw hlim hbel h2 h3 h4 h5 h6 (fun i x hx => ?_) hrs hmk
  have hx : l[i]? = some x := hx
  have hin : i < l.length := (List.getElem?_eq_some_iff.1 hx).1
  have hcell : cur.toList[i]? = some (.int k x) := by
   have e : (cur.toList.take (l.length * 1))[i]? = some (.int k x) := by
    rw [h7, List.getElem?_map, hx]; rfl
   rw [List.getElem?_take] at e
   split at e
   ·exact e
   ·cases e
  refine ⟨?_, hwf x (List.mem_of_getElem? hx)⟩
  rw [show (Ty.int k).size = 1 from rfl, Nat.mul_one, List.drop_eq_getElem_cons (List.getElem?_eq_some_iff.1 hcell).1]
  simp [(List.getElem?_eq_some_iff.1 hcell).2]
end Go.Proofs.YtgfmfgombmpodaaGreatDoor
namespace Go.Proofs
open Go.Shelf Go.RowKit Go.Lib Go.Sort
def Tryz.lays156_ren : Go.Shelf.Ren := ⟨fun | 156 => 68 | 165 => 109 | 166 => 110 | 169 => 92 | 240 => 129 | 241 => 145 | 276 => 161 | 277 => 183 | n => n, fun | 31 => 47 | 9 => 9 | 3 => 3 | 4 => 4 | 0 => 0 | 20 => 20 | 72 => 155 | 76 => 178 | 70 => 153 | 37 => 32 | 75 => 157 | 127 => 197 | 164 => 226 | 5 => 5 | 80 => 159 | n => n, fun | n => n⟩
theorem Tryz.lays156 : Go.Proofs.Lays.n156 Tryz.prog Tryz.lays156_ren := {
 mixed := by kernel_rfl
 f156 := Tryz.func68.trans (congrArg some (by kernel_rfl))
 f165 := Tryz.func109.trans (congrArg some (by kernel_rfl))
 f166 := Tryz.func110.trans (congrArg some (by kernel_rfl))
 f169 := Tryz.func92.trans (congrArg some (by kernel_rfl))
 f240 := Tryz.func129.trans (congrArg some (by kernel_rfl))
 f241 := Tryz.func145.trans (congrArg some (by kernel_rfl))
 f276 := Tryz.func161.trans (congrArg some (by kernel_rfl))
 f277 := Tryz.func183.trans (congrArg some (by kernel_rfl))
 t0 := Tryz.underlying0
 a0 := Tryz.isAgg0
 z0 := Tryz.sizeOf0
 v0 := Tryz.zeroValue0
 t3 := Tryz.underlying3
 a3 := Tryz.isAgg3
 z3 := Tryz.sizeOf3
 v3 := Tryz.zeroValue3
 t4 := Tryz.underlying4
 a4 := Tryz.isAgg4
 z4 := Tryz.sizeOf4
 v4 := Tryz.zeroValue4
 t9 := Tryz.underlying9
 a9 := Tryz.isAgg9
 z9 := Tryz.sizeOf9
 v9 := Tryz.zeroValue9
 t20 := Tryz.underlying20
 a20 := Tryz.isAgg20
 z20 := Tryz.sizeOf20
 v20 := Tryz.zeroValue20
 t31 := Tryz.underlying47
 a31 := Tryz.isAgg47
 z31 := Tryz.sizeOf47
 v31 := Tryz.zeroValue47
 t37 := Tryz.underlying32
 a37 := Tryz.isAgg32
 z37 := Tryz.sizeOf32
 v37 := Tryz.zeroValue32
 t70 := Tryz.underlying153
 a70 := Tryz.isAgg153
 z70 := Tryz.sizeOf153
 v70 := Tryz.zeroValue153
 t72 := Tryz.underlying155
 a72 := Tryz.isAgg155
 z72 := Tryz.sizeOf155
 v72 := Tryz.zeroValue155
 t75 := Tryz.underlying157
 a75 := Tryz.isAgg157
 z75 := Tryz.sizeOf157
 v75 := Tryz.zeroValue157
 t76 := Tryz.underlying178
 a76 := Tryz.isAgg178
 z76 := Tryz.sizeOf178
 v76 := Tryz.zeroValue178
 t127 := Tryz.underlying197
 a127 := Tryz.isAgg197
 z127 := Tryz.sizeOf197
 v127 := Tryz.zeroValue197
 t164 := Tryz.underlying226
 a164 := Tryz.isAgg226
 z164 := Tryz.sizeOf226
 v164 := Tryz.zeroValue226 }
theorem Tryz.Builder_Extra_156 : Builder.Extra Tryz.prog Tryz.lays156_ren := {
 sizeBuilder := by kernel_rfl
 liesBuilder := by kernel_rfl
 t5 := Tryz.underlying5
 a5 := Tryz.isAgg5
 z5 := Tryz.sizeOf5
 v5 := Tryz.zeroValue5
 infoByte := by kernel_rfl
 cellsByte := by kernel_rfl
 sizeByte := by kernel_rfl
 neB5 := by decide }
theorem Tryz.strings_Join_none (a : Option Addr) (c : Nat) (sep : ByteArray) (w : World) :
  Calls Tryz.prog 68 #[.slice a 0 c, .string sep] w fun e w' => e = .returned (.string ⟨#[]⟩) /\ w' = w := Any.strings_Join_none Tryz.lays156 Tryz.Builder_Extra_156 a c sep w
theorem Tryz.strings_Join (bk o c : Nat) (xs : List ByteArray) (sep : ByteArray) (w : World) (hcells : ∀ (j : Nat) x, xs[j]? = some x -> w.cell? ⟨bk, o + j, none⟩ = some (.string x)) (hbk : bk < w.heap.size) (hN : xs.length <= 140737488355328) (hcap : xs.length <= c) (hlen : (Lib.join (xs.map (·.data.toList)) sep.data.toList).length <= 140737488355328) :
  Calls Tryz.prog 68 #[.slice (some ⟨bk, o, none⟩) xs.length c, .string sep] w fun e w' => e = .returned (.string ⟨(Lib.join (xs.map (·.data.toList)) sep.data.toList).toArray⟩) /\ Below w.heap.size w w' := Any.strings_Join Tryz.lays156 Tryz.Builder_Extra_156 bk o c xs sep w hcells hbk hN hcap hlen
def Tryz.laysC245_ren : Go.Shelf.Ren := ⟨fun | 245 => 197 | 279 => 223 | 280 => 224 | 281 => 225 | 282 => 226 | 316 => 239 | 171 => 67 | 205 => 240 | 243 => 108 | 246 => 144 | 283 => 179 | 284 => 180 | 285 => 181 | 286 => 182 | 129 => 208 | 317 => 207 | 318 => 209 | 319 => 210 | 320 => 211 | 337 => 235 | 338 => 236 | n => n, fun | 9 => 9 | 3 => 3 | 75 => 157 | 167 => 278 | 4 => 4 | 168 => 281 | 210 => 293 | 37 => 32 | 0 => 0 | 127 => 197 | 145 => 301 | 143 => 299 | 2 => 2 | 171 => 241 | 53 => 218 | 5 => 5 | 173 => 244 | 212 => 268 | 51 => 212 | 20 => 20 | 213 => 269 | 46 => 105 | 232 => 297 | 233 => 298 | 80 => 159 | n => n, fun | 15 => 4 | 16 => 5 | 17 => 0 | 18 => 6 | 19 => 7 | n => n⟩
theorem Tryz.laysC245 : Go.Proofs.LaysC.n245 Tryz.prog Tryz.laysC245_ren := {
 mixed := by kernel_rfl
 f129 := Tryz.func208.trans (congrArg some (by kernel_rfl))
 f171 := Tryz.func67.trans (congrArg some (by kernel_rfl))
 f205 := Tryz.func240.trans (congrArg some (by kernel_rfl))
 f243 := Tryz.func108.trans (congrArg some (by kernel_rfl))
 f245 := Tryz.func197.trans (congrArg some (by kernel_rfl))
 f246 := Tryz.func144.trans (congrArg some (by kernel_rfl))
 f279 := Tryz.func223.trans (congrArg some (by kernel_rfl))
 f280 := Tryz.func224.trans (congrArg some (by kernel_rfl))
 f281 := Tryz.func225.trans (congrArg some (by kernel_rfl))
 f282 := Tryz.func226.trans (congrArg some (by kernel_rfl))
 f283 := Tryz.func179.trans (congrArg some (by kernel_rfl))
 f284 := Tryz.func180.trans (congrArg some (by kernel_rfl))
 f285 := Tryz.func181.trans (congrArg some (by kernel_rfl))
 f286 := Tryz.func182.trans (congrArg some (by kernel_rfl))
 f316 := Tryz.func239.trans (congrArg some (by kernel_rfl))
 f317 := Tryz.func207.trans (congrArg some (by kernel_rfl))
 f318 := Tryz.func209.trans (congrArg some (by kernel_rfl))
 f319 := Tryz.func210.trans (congrArg some (by kernel_rfl))
 f320 := Tryz.func211.trans (congrArg some (by kernel_rfl))
 f337 := Tryz.func235.trans (congrArg some (by kernel_rfl))
 f338 := Tryz.func236.trans (congrArg some (by kernel_rfl))
 t0 := Tryz.underlying0
 a0 := Tryz.isAgg0
 z0 := Tryz.sizeOf0
 v0 := Tryz.zeroValue0
 t2 := Tryz.underlying2
 a2 := Tryz.isAgg2
 z2 := Tryz.sizeOf2
 v2 := Tryz.zeroValue2
 t3 := Tryz.underlying3
 a3 := Tryz.isAgg3
 z3 := Tryz.sizeOf3
 v3 := Tryz.zeroValue3
 t4 := Tryz.underlying4
 a4 := Tryz.isAgg4
 z4 := Tryz.sizeOf4
 v4 := Tryz.zeroValue4
 t5 := Tryz.underlying5
 a5 := Tryz.isAgg5
 z5 := Tryz.sizeOf5
 v5 := Tryz.zeroValue5
 t9 := Tryz.underlying9
 a9 := Tryz.isAgg9
 z9 := Tryz.sizeOf9
 v9 := Tryz.zeroValue9
 t20 := Tryz.underlying20
 a20 := Tryz.isAgg20
 z20 := Tryz.sizeOf20
 v20 := Tryz.zeroValue20
 t37 := Tryz.underlying32
 a37 := Tryz.isAgg32
 z37 := Tryz.sizeOf32
 v37 := Tryz.zeroValue32
 t46 := Tryz.underlying105
 a46 := Tryz.isAgg105
 z46 := Tryz.sizeOf105
 v46 := Tryz.zeroValue105
 t51 := Tryz.underlying212
 a51 := Tryz.isAgg212
 z51 := Tryz.sizeOf212
 v51 := Tryz.zeroValue212
 t53 := Tryz.underlying218
 a53 := Tryz.isAgg218
 z53 := Tryz.sizeOf218
 v53 := Tryz.zeroValue218
 t75 := Tryz.underlying157
 a75 := Tryz.isAgg157
 z75 := Tryz.sizeOf157
 v75 := Tryz.zeroValue157
 t127 := Tryz.underlying197
 a127 := Tryz.isAgg197
 z127 := Tryz.sizeOf197
 v127 := Tryz.zeroValue197
 t143 := Tryz.underlying299
 a143 := Tryz.isAgg299
 z143 := Tryz.sizeOf299
 v143 := Tryz.zeroValue299
 t145 := Tryz.underlying301
 a145 := Tryz.isAgg301
 z145 := Tryz.sizeOf301
 v145 := Tryz.zeroValue301
 t167 := Tryz.underlying278
 a167 := Tryz.isAgg278
 z167 := Tryz.sizeOf278
 v167 := Tryz.zeroValue278
 t168 := Tryz.underlying281
 a168 := Tryz.isAgg281
 z168 := Tryz.sizeOf281
 v168 := Tryz.zeroValue281
 t171 := Tryz.underlying241
 a171 := Tryz.isAgg241
 z171 := Tryz.sizeOf241
 v171 := Tryz.zeroValue241
 t173 := Tryz.underlying244
 a173 := Tryz.isAgg244
 z173 := Tryz.sizeOf244
 v173 := Tryz.zeroValue244
 t210 := Tryz.underlying293
 a210 := Tryz.isAgg293
 z210 := Tryz.sizeOf293
 v210 := Tryz.zeroValue293
 t212 := Tryz.underlying268
 a212 := Tryz.isAgg268
 z212 := Tryz.sizeOf268
 v212 := Tryz.zeroValue268
 t213 := Tryz.underlying269
 a213 := Tryz.isAgg269
 z213 := Tryz.sizeOf269
 t232 := Tryz.underlying297
 a232 := Tryz.isAgg297
 z232 := Tryz.sizeOf297
 v232 := Tryz.zeroValue297
 t233 := Tryz.underlying298
 a233 := Tryz.isAgg298
 z233 := Tryz.sizeOf298
 v233 := Tryz.zeroValue298
 g15 := by kernel_rfl
 g16 := by kernel_rfl
 g17 := by kernel_rfl
 g18 := by kernel_rfl
 g19 := by kernel_rfl
 t80 := Tryz.underlying159
 a80 := Tryz.isAgg159
 z80 := Tryz.sizeOf159
 v80 := Tryz.zeroValue159
 i0 := by kernel_rfl
 i2 := by kernel_rfl
 i3 := by kernel_rfl
 i4 := by kernel_rfl
 i5 := by kernel_rfl
 i9 := by kernel_rfl
 i20 := by kernel_rfl
 i37 := by kernel_rfl
 i46 := by kernel_rfl
 i51 := by kernel_rfl
 i53 := by kernel_rfl
 i75 := by kernel_rfl
 i80 := by kernel_rfl
 i127 := by kernel_rfl
 i143 := by kernel_rfl
 i145 := by kernel_rfl
 i167 := by kernel_rfl
 i168 := by kernel_rfl
 i171 := by kernel_rfl
 i173 := by kernel_rfl
 i210 := by kernel_rfl
 i212 := by kernel_rfl
 i232 := by kernel_rfl
 i233 := by kernel_rfl
 m15 := by kernel_rfl
 m16 := by kernel_rfl
 m17 := by kernel_rfl
 m18 := by kernel_rfl
 m19 := by kernel_rfl
 c0 := by kernel_rfl
 c2 := by kernel_rfl
 c3 := by kernel_rfl
 c4 := by kernel_rfl
 c5 := by kernel_rfl
 c9 := by kernel_rfl
 c20 := by kernel_rfl
 c37 := by kernel_rfl
 c46 := by kernel_rfl
 c51 := by kernel_rfl
 c53 := by kernel_rfl
 c75 := by kernel_rfl
 c80 := by kernel_rfl
 c127 := by kernel_rfl
 c143 := by kernel_rfl
 c145 := by kernel_rfl
 c167 := by kernel_rfl
 c168 := by kernel_rfl
 c171 := by kernel_rfl
 c173 := by kernel_rfl
 c210 := by kernel_rfl
 c212 := by kernel_rfl
 c213 := by kernel_rfl
 c232 := by kernel_rfl
 c233 := by kernel_rfl }
theorem Tryz.strconv_toError_syntax (fn s : ByteArray) (base bits : Int) (ev : Value) (w : World) (hlim : s.size <= 281474976710656) (hv : w.cell? ⟨4, 0, none⟩ = some ev) (hev : ev = .nilIface \/ ∃ te pe, ev = .iface te pe) :
  Calls Tryz.prog 197 #[.string fn, .string s, .int .i64 base, .int .i64 bits, .iface 278 (.int .i64 2)] w fun e w' => ∃ N, e = .returned (.iface 281 (.pointer (some ⟨N, 0, none⟩))) /\ w.heap.size <= N /\ w'.heap[N]? = some (.cells #[.string fn, .string s, ev] 293 (0, 0)) /\ Below w.heap.size w w' := Any.strconv_toError_syntax Tryz.laysC245 fn s base bits ev w hlim hv hev
def Tryz.laysC172_ren : Go.Shelf.Ren := ⟨fun | 172 => 165 | 244 => 196 | 245 => 197 | 247 => 222 | 279 => 223 | 280 => 224 | 281 => 225 | 282 => 226 | 287 => 199 | 316 => 239 | 171 => 67 | 205 => 240 | 321 => 228 | 322 => 229 | 243 => 108 | 246 => 144 | 283 => 179 | 284 => 180 | 285 => 181 | 286 => 182 | 129 => 208 | 317 => 207 | 318 => 209 | 319 => 210 | 320 => 211 | 337 => 235 | 338 => 236 | n => n, fun | 9 => 9 | 3 => 3 | 75 => 157 | 76 => 178 | 4 => 4 | 5 => 5 | 167 => 278 | 37 => 32 | 0 => 0 | 85 => 279 | 2 => 2 | 168 => 281 | 53 => 218 | 175 => 234 | 46 => 105 | 210 => 293 | 127 => 197 | 145 => 301 | 143 => 299 | 21 => 21 | 171 => 241 | 173 => 244 | 212 => 268 | 51 => 212 | 20 => 20 | 213 => 269 | 232 => 297 | 233 => 298 | 80 => 159 | n => n, fun | 15 => 4 | 16 => 5 | 17 => 0 | 18 => 6 | 19 => 7 | n => n⟩
theorem Tryz.laysC172 : Go.Proofs.LaysC.n172 Tryz.prog Tryz.laysC172_ren := {
 mixed := by kernel_rfl
 f129 := Tryz.func208.trans (congrArg some (by kernel_rfl))
 f171 := Tryz.func67.trans (congrArg some (by kernel_rfl))
 f172 := Tryz.func165.trans (congrArg some (by kernel_rfl))
 f205 := Tryz.func240.trans (congrArg some (by kernel_rfl))
 f243 := Tryz.func108.trans (congrArg some (by kernel_rfl))
 f244 := Tryz.func196.trans (congrArg some (by kernel_rfl))
 f245 := Tryz.func197.trans (congrArg some (by kernel_rfl))
 f246 := Tryz.func144.trans (congrArg some (by kernel_rfl))
 f247 := Tryz.func222.trans (congrArg some (by kernel_rfl))
 f279 := Tryz.func223.trans (congrArg some (by kernel_rfl))
 f280 := Tryz.func224.trans (congrArg some (by kernel_rfl))
 f281 := Tryz.func225.trans (congrArg some (by kernel_rfl))
 f282 := Tryz.func226.trans (congrArg some (by kernel_rfl))
 f283 := Tryz.func179.trans (congrArg some (by kernel_rfl))
 f284 := Tryz.func180.trans (congrArg some (by kernel_rfl))
 f285 := Tryz.func181.trans (congrArg some (by kernel_rfl))
 f286 := Tryz.func182.trans (congrArg some (by kernel_rfl))
 f287 := Tryz.func199.trans (congrArg some (by kernel_rfl))
 f316 := Tryz.func239.trans (congrArg some (by kernel_rfl))
 f317 := Tryz.func207.trans (congrArg some (by kernel_rfl))
 f318 := Tryz.func209.trans (congrArg some (by kernel_rfl))
 f319 := Tryz.func210.trans (congrArg some (by kernel_rfl))
 f320 := Tryz.func211.trans (congrArg some (by kernel_rfl))
 f321 := Tryz.func228.trans (congrArg some (by kernel_rfl))
 f322 := Tryz.func229.trans (congrArg some (by kernel_rfl))
 f337 := Tryz.func235.trans (congrArg some (by kernel_rfl))
 f338 := Tryz.func236.trans (congrArg some (by kernel_rfl))
 t0 := Tryz.underlying0
 a0 := Tryz.isAgg0
 z0 := Tryz.sizeOf0
 v0 := Tryz.zeroValue0
 t2 := Tryz.underlying2
 a2 := Tryz.isAgg2
 z2 := Tryz.sizeOf2
 v2 := Tryz.zeroValue2
 t3 := Tryz.underlying3
 a3 := Tryz.isAgg3
 z3 := Tryz.sizeOf3
 v3 := Tryz.zeroValue3
 t4 := Tryz.underlying4
 a4 := Tryz.isAgg4
 z4 := Tryz.sizeOf4
 v4 := Tryz.zeroValue4
 t5 := Tryz.underlying5
 a5 := Tryz.isAgg5
 z5 := Tryz.sizeOf5
 v5 := Tryz.zeroValue5
 t9 := Tryz.underlying9
 a9 := Tryz.isAgg9
 z9 := Tryz.sizeOf9
 v9 := Tryz.zeroValue9
 t20 := Tryz.underlying20
 a20 := Tryz.isAgg20
 z20 := Tryz.sizeOf20
 v20 := Tryz.zeroValue20
 t21 := Tryz.underlying21
 a21 := Tryz.isAgg21
 z21 := Tryz.sizeOf21
 v21 := Tryz.zeroValue21
 t37 := Tryz.underlying32
 a37 := Tryz.isAgg32
 z37 := Tryz.sizeOf32
 v37 := Tryz.zeroValue32
 t46 := Tryz.underlying105
 a46 := Tryz.isAgg105
 z46 := Tryz.sizeOf105
 v46 := Tryz.zeroValue105
 t51 := Tryz.underlying212
 a51 := Tryz.isAgg212
 z51 := Tryz.sizeOf212
 v51 := Tryz.zeroValue212
 t53 := Tryz.underlying218
 a53 := Tryz.isAgg218
 z53 := Tryz.sizeOf218
 v53 := Tryz.zeroValue218
 t75 := Tryz.underlying157
 a75 := Tryz.isAgg157
 z75 := Tryz.sizeOf157
 v75 := Tryz.zeroValue157
 t76 := Tryz.underlying178
 a76 := Tryz.isAgg178
 z76 := Tryz.sizeOf178
 v76 := Tryz.zeroValue178
 t85 := Tryz.underlying279
 a85 := Tryz.isAgg279
 z85 := Tryz.sizeOf279
 v85 := Tryz.zeroValue279
 t127 := Tryz.underlying197
 a127 := Tryz.isAgg197
 z127 := Tryz.sizeOf197
 v127 := Tryz.zeroValue197
 t143 := Tryz.underlying299
 a143 := Tryz.isAgg299
 z143 := Tryz.sizeOf299
 v143 := Tryz.zeroValue299
 t145 := Tryz.underlying301
 a145 := Tryz.isAgg301
 z145 := Tryz.sizeOf301
 v145 := Tryz.zeroValue301
 t167 := Tryz.underlying278
 a167 := Tryz.isAgg278
 z167 := Tryz.sizeOf278
 v167 := Tryz.zeroValue278
 t168 := Tryz.underlying281
 a168 := Tryz.isAgg281
 z168 := Tryz.sizeOf281
 v168 := Tryz.zeroValue281
 t171 := Tryz.underlying241
 a171 := Tryz.isAgg241
 z171 := Tryz.sizeOf241
 v171 := Tryz.zeroValue241
 t173 := Tryz.underlying244
 a173 := Tryz.isAgg244
 z173 := Tryz.sizeOf244
 v173 := Tryz.zeroValue244
 t175 := Tryz.underlying234
 a175 := Tryz.isAgg234
 z175 := Tryz.sizeOf234
 v175 := Tryz.zeroValue234
 t210 := Tryz.underlying293
 a210 := Tryz.isAgg293
 z210 := Tryz.sizeOf293
 v210 := Tryz.zeroValue293
 t212 := Tryz.underlying268
 a212 := Tryz.isAgg268
 z212 := Tryz.sizeOf268
 v212 := Tryz.zeroValue268
 t213 := Tryz.underlying269
 a213 := Tryz.isAgg269
 z213 := Tryz.sizeOf269
 t232 := Tryz.underlying297
 a232 := Tryz.isAgg297
 z232 := Tryz.sizeOf297
 v232 := Tryz.zeroValue297
 t233 := Tryz.underlying298
 a233 := Tryz.isAgg298
 z233 := Tryz.sizeOf298
 v233 := Tryz.zeroValue298
 g15 := by kernel_rfl
 g16 := by kernel_rfl
 g17 := by kernel_rfl
 g18 := by kernel_rfl
 g19 := by kernel_rfl
 t80 := Tryz.underlying159
 a80 := Tryz.isAgg159
 z80 := Tryz.sizeOf159
 v80 := Tryz.zeroValue159
 i0 := by kernel_rfl
 i2 := by kernel_rfl
 i3 := by kernel_rfl
 i4 := by kernel_rfl
 i5 := by kernel_rfl
 i9 := by kernel_rfl
 i20 := by kernel_rfl
 i21 := by kernel_rfl
 i37 := by kernel_rfl
 i46 := by kernel_rfl
 i51 := by kernel_rfl
 i53 := by kernel_rfl
 i75 := by kernel_rfl
 i76 := by kernel_rfl
 i80 := by kernel_rfl
 i85 := by kernel_rfl
 i127 := by kernel_rfl
 i143 := by kernel_rfl
 i145 := by kernel_rfl
 i167 := by kernel_rfl
 i168 := by kernel_rfl
 i171 := by kernel_rfl
 i173 := by kernel_rfl
 i175 := by kernel_rfl
 i210 := by kernel_rfl
 i212 := by kernel_rfl
 i232 := by kernel_rfl
 i233 := by kernel_rfl
 m15 := by kernel_rfl
 m16 := by kernel_rfl
 m17 := by kernel_rfl
 m18 := by kernel_rfl
 m19 := by kernel_rfl
 c0 := by kernel_rfl
 c2 := by kernel_rfl
 c3 := by kernel_rfl
 c4 := by kernel_rfl
 c5 := by kernel_rfl
 c9 := by kernel_rfl
 c20 := by kernel_rfl
 c21 := by kernel_rfl
 c37 := by kernel_rfl
 c46 := by kernel_rfl
 c51 := by kernel_rfl
 c53 := by kernel_rfl
 c75 := by kernel_rfl
 c76 := by kernel_rfl
 c80 := by kernel_rfl
 c85 := by kernel_rfl
 c127 := by kernel_rfl
 c143 := by kernel_rfl
 c145 := by kernel_rfl
 c167 := by kernel_rfl
 c168 := by kernel_rfl
 c171 := by kernel_rfl
 c173 := by kernel_rfl
 c175 := by kernel_rfl
 c210 := by kernel_rfl
 c212 := by kernel_rfl
 c213 := by kernel_rfl
 c232 := by kernel_rfl
 c233 := by kernel_rfl }
theorem Tryz.strconv_Atoi_ok (s : ByteArray) (hmax : s.size <= 9223372036854775806) (v : Int) (h : Lib.atoiAll s.data.toList = .ok v) (w : World) :
  Calls Tryz.prog 165 #[.string s] w fun e w' => e = .returned (.tuple #[.int .i64 v, .nilIface]) /\ (w' = w \/ ∃ t, w' = Lib.bytesWorld w 5 t) := Any.strconv_Atoi_ok Tryz.laysC172 s hmax v h w
theorem Tryz.strconv_Atoi_syntax (s : ByteArray) (hlim : s.size <= 281474976710656) (h : Lib.atoiAll s.data.toList = .«syntax») (ev : Value) (w : World) (hv : w.cell? ⟨4, 0, none⟩ = some ev) (hev : ev = .nilIface \/ ∃ te pe, ev = .iface te pe) :
  Calls Tryz.prog 165 #[.string s] w fun e w' => ∃ N, e = .returned (.tuple #[.int .i64 (0), .iface 281 (.pointer (some ⟨N, 0, none⟩))]) /\ w.heap.size <= N /\ w'.heap[N]? = some (.cells #[.string ⟨#[65, 116, 111, 105]⟩, .string s, ev] 293 (0, 0)) /\ Below w.heap.size w w' := Any.strconv_Atoi_syntax Tryz.laysC172 s hlim h ev w hv hev
theorem Tryz.strconv_Atoi_range (s : ByteArray) (hlim : s.size <= 281474976710656) (h : Lib.atoiAll s.data.toList = .range) (ev : Value) (w : World) (hv : w.cell? ⟨5, 0, none⟩ = some ev) (hev : ev = .nilIface \/ ∃ te pe, ev = .iface te pe) :
  Calls Tryz.prog 165 #[.string s] w fun e w' => ∃ N, e = .returned (.tuple #[.int .i64 (Lib.atoiSat s.data.toList), .iface 281 (.pointer (some ⟨N, 0, none⟩))]) /\ w.heap.size <= N /\ w'.heap[N]? = some (.cells #[.string ⟨#[65, 116, 111, 105]⟩, .string s, ev] 293 (0, 0)) /\ Below w.heap.size w w' := Any.strconv_Atoi_range Tryz.laysC172 s hlim h ev w hv hev
def Tryz.lays146_ren : Go.Shelf.Ren := ⟨fun | 146 => 94 | 221 => 130 | 268 => 162 | 138 => 163 | 143 => 164 | 195 => 192 | 197 => 193 | 218 => 194 | 219 => 195 | 260 => 217 | 217 => 218 | 225 => 219 | 224 => 220 | 267 => 221 | 266 => 237 | 314 => 238 | n => n, fun | 9 => 9 | 31 => 47 | 3 => 3 | 4 => 4 | 0 => 0 | 105 => 260 | 21 => 21 | 5 => 5 | 46 => 105 | 119 => 287 | 139 => 290 | 138 => 289 | 146 => 276 | 51 => 212 | n => n, fun | 1 => 1 | 3 => 2 | 4 => 3 | n => n⟩
theorem Tryz.lays146 : Go.Proofs.Lays.n146 Tryz.prog Tryz.lays146_ren := {
 mixed := by kernel_rfl
 f138 := Tryz.func163.trans (congrArg some (by kernel_rfl))
 f143 := Tryz.func164.trans (congrArg some (by kernel_rfl))
 f146 := Tryz.func94.trans (congrArg some (by kernel_rfl))
 f195 := Tryz.func192.trans (congrArg some (by kernel_rfl))
 f197 := Tryz.func193.trans (congrArg some (by kernel_rfl))
 f217 := Tryz.func218.trans (congrArg some (by kernel_rfl))
 f218 := Tryz.func194.trans (congrArg some (by kernel_rfl))
 f219 := Tryz.func195.trans (congrArg some (by kernel_rfl))
 f221 := Tryz.func130.trans (congrArg some (by kernel_rfl))
 f224 := Tryz.func220.trans (congrArg some (by kernel_rfl))
 f225 := Tryz.func219.trans (congrArg some (by kernel_rfl))
 f260 := Tryz.func217.trans (congrArg some (by kernel_rfl))
 f266 := Tryz.func237.trans (congrArg some (by kernel_rfl))
 f267 := Tryz.func221.trans (congrArg some (by kernel_rfl))
 f268 := Tryz.func162.trans (congrArg some (by kernel_rfl))
 f314 := Tryz.func238.trans (congrArg some (by kernel_rfl))
 t0 := Tryz.underlying0
 a0 := Tryz.isAgg0
 z0 := Tryz.sizeOf0
 v0 := Tryz.zeroValue0
 t3 := Tryz.underlying3
 a3 := Tryz.isAgg3
 z3 := Tryz.sizeOf3
 v3 := Tryz.zeroValue3
 t4 := Tryz.underlying4
 a4 := Tryz.isAgg4
 z4 := Tryz.sizeOf4
 v4 := Tryz.zeroValue4
 t5 := Tryz.underlying5
 a5 := Tryz.isAgg5
 z5 := Tryz.sizeOf5
 v5 := Tryz.zeroValue5
 t9 := Tryz.underlying9
 a9 := Tryz.isAgg9
 z9 := Tryz.sizeOf9
 v9 := Tryz.zeroValue9
 t21 := Tryz.underlying21
 a21 := Tryz.isAgg21
 z21 := Tryz.sizeOf21
 v21 := Tryz.zeroValue21
 t31 := Tryz.underlying47
 a31 := Tryz.isAgg47
 z31 := Tryz.sizeOf47
 v31 := Tryz.zeroValue47
 t46 := Tryz.underlying105
 a46 := Tryz.isAgg105
 z46 := Tryz.sizeOf105
 v46 := Tryz.zeroValue105
 t51 := Tryz.underlying212
 a51 := Tryz.isAgg212
 z51 := Tryz.sizeOf212
 v51 := Tryz.zeroValue212
 t105 := Tryz.underlying260
 a105 := Tryz.isAgg260
 z105 := Tryz.sizeOf260
 v105 := Tryz.zeroValue260
 t119 := Tryz.underlying287
 a119 := Tryz.isAgg287
 z119 := Tryz.sizeOf287
 t138 := Tryz.underlying289
 a138 := Tryz.isAgg289
 z138 := Tryz.sizeOf289
 v138 := Tryz.zeroValue289
 t139 := Tryz.underlying290
 a139 := Tryz.isAgg290
 z139 := Tryz.sizeOf290
 v139 := Tryz.zeroValue290
 t146 := Tryz.underlying276
 a146 := Tryz.isAgg276
 z146 := Tryz.sizeOf276
 v146 := Tryz.zeroValue276
 g1 := by kernel_rfl
 g3 := by kernel_rfl
 g4 := by kernel_rfl }
theorem Tryz.strings_Split (s sep : ByteArray) (m : Int) (w : World) (hs : s.size < 4294967281) (hm : w.cell? ⟨1, 0, none⟩ = some (.int .i64 m)) (h1 : 1 <= sep.size) :
  Calls Tryz.prog 94 #[.string s, .string sep] w fun e w' =>
   e = .returned (.slice (some ⟨w.heap.size, 0, none⟩) (Lib.countB s sep + 1) (Lib.countB s sep + 1)) /\ w' = w.alloc (.cells ((Lib.splitB sep 0 (Lib.countB s sep) s).map Value.string).toArray 9) := Any.strings_Split Tryz.lays146 (by kernel_rfl) s sep m w hs hm h1
end Go.Proofs
namespace Go.Proofs.YtgfmfgombmpodaaGreatDoor
open Go.RowKit Pv
set_option linter.unusedVariables false
def toB (l : List Int) : List UInt8 := l.map fun x => x.toNat.toUInt8
theorem toB_bytes (s : ByteArray) : toB (bytesL s) = s.data.toList := by
 unfold toB bytesL
 rw [List.map_map]
 conv => rhs; rw [<- List.map_id s.data.toList]
 apply List.map_congr_left
 intro b _
 show (((b.toNat : Nat) : Int).toNat).toUInt8 = b
 rw [Int.toNat_natCast, Nat.toUInt8_eq, UInt8.ofNat_toNat]
theorem bytes_size {s : ByteArray} {l : List Int} (h : bytesL s = l) : s.size = l.length := by rw [<- h, bytes_len]
def okErr (v : Value) : Prop := v = .nilIface \/ ∃ te pe, v = .iface te pe
def has_errs (T : Tab) : Prop := ∃ v1 v2, (4, #[v1]) ∈ T /\ (5, #[v2]) ∈ T /\ okErr v1 /\ okErr v2
def atoiP (l : List Int) : Int × Bool := match Lib.atoiAll (toB l) with
 | .ok v => (v, false)
 | .syntax => (0, true)
 | .range => (Lib.atoiSat (toB l), true)
def F_strconv_Atoi_sig : Sig := ⟨[.v false [.d .str]], [(false, [.d (.int .i64)]), (false, [.d .err])]⟩
def F_strconv_Atoi (l : List Int) : Option (Int × Bool) := cond (Nat.ble l.length 281474976710656) (some (atoiP l)) none
theorem below_bytes (w : World) (ty : TypeId) (t : ByteArray) : Below w.heap.size w (Lib.bytesWorld w ty t) := ⟨rfl, rfl, rfl, by rw [Lib.bytesWorld_size]; omega, fun j hj => Lib.bytesWorld_at_old _ _ _ _ hj⟩
theorem wf_of {q : Int} (h : -9223372036854775808 <= q /\ q <= 9223372036854775807) : (Lit.int .i64 q).wf = true := by
 simp [Lit.wf, IntKind.min, IntKind.max, IntKind.signed, IntKind.bits]
 omega
theorem err_cell {w : World} {T : Tab} {g : Nat} {v : Value} (hT : ∀ p ∈ T, ∃ ty fr, w.heap[p.1]? = some (.cells p.2 ty fr)) (h : (g, #[v]) ∈ T) : w.cell? ⟨g, 0, none⟩ = some v := by
 obtain ⟨ty, fr, h1⟩ := hT _ h
 rw [cell_at h1]; rfl
theorem F_strconv_Atoi_sound {T : Tab} (h_errs : has_errs T) : SoundFn Tryz.prog T 165 F_strconv_Atoi_sig ⟨F_strconv_Atoi⟩ := by
  refine sound_d rfl fun F g O xs ls y tmf w args hT hls happ hsz hr => ?_
  obtain ⟨(l : List Int), xs', rfl, h2⟩ := appF_inv_c (ts := []) happ
  obtain ⟨rfl, h3⟩ := appF_inv_n h2
  have hls' : some [Leaf.d .str l] = some ls := hls
  injection hls' with hls'
  subst hls'
  obtain ⟨s, e0, e1, e2⟩ := rel_str (hr 0)
  rw [args_1 hsz, e0]
  have h3 : cond (Nat.ble l.length 281474976710656) (some (atoiP l)) none = some y := h3
  cases hb : Nat.ble l.length 281474976710656 with
  | false => rw [hb] at h3; cases h3
  | true =>
    rw [hb] at h3
    have hy : atoiP l = y := by injection h3
    have hlen : s.size <= 281474976710656 := by rw [bytes_size e1]; exact Nat.le_of_ble_eq_true hb
    have hB : toB l = s.data.toList := by rw [<- e1]; exact toB_bytes s
    have fin : ∀ (v : Int) (er : Value) (b : Bool) (w' : World), y = (v, b) -> Below w.heap.size w w' -> -9223372036854775808 <= v /\ v <= 9223372036854775807 -> ((b = false /\ er = .nilIface) \/ (b = true /\ ∃ t q, er = .iface t q)) ->
        ∃ us os, Ending.returned (.tuple #[.int .i64 v, er]) = .returned (retV us) /\ us.length = F_strconv_Atoi_sig.rs.length /\ mkLs (Tok.hd 0) F_strconv_Atoi_sig.outs 0 (unpackD (F_strconv_Atoi_sig.outs.map LT.ty) y) = some os /\ Below w.heap.size w w' /\
          ∀ i, i < F_strconv_Atoi_sig.rs.length -> RelP F ⟨g.C, fun _ => none, g.ρ, fun _ _ => []⟩ w' (exitO F_strconv_Atoi_sig) tmf (us.getD i undef) (resAt F_strconv_Atoi_sig.rs os i) := fun v er b w' hy hbel hv her => by
      subst hy
      refine ⟨[.int .i64 v, er], [.d (.int .i64) v, .d .err b], rfl, rfl, rfl, hbel, fun i hi => ?_⟩
      match i, hi with
      | 0, _ => exact ⟨[.int .i64 v], ⟨_, [], rfl, ⟨rfl, wf_of hv⟩, rfl⟩, rfl⟩
      | 1, _ => exact ⟨[er], ⟨[er], [], rfl, ⟨er, rfl, her⟩, rfl⟩, rfl⟩
    obtain ⟨v1, v2, hm1, hm2, ok1, ok2⟩ := h_errs
    unfold atoiP at hy
    cases ha : Lib.atoiAll (toB l) with
    | ok v =>
      rw [ha] at hy
      rw [hB] at ha
      refine (Tryz.strconv_Atoi_ok s (by omega) v ha w).mono ?_
      rintro e w' ⟨rfl, hw⟩
      exact fin v .nilIface false w' hy.symm (by rcases hw with rfl | ⟨t, rfl⟩; exact Below.refl _ _; exact below_bytes _ _ _) (Lib.atoiAll_bounds ha) (.inl ⟨rfl, rfl⟩)
    | «syntax» =>
      rw [ha] at hy
      rw [hB] at ha
      refine (Tryz.strconv_Atoi_syntax s hlen ha v1 w (err_cell hT hm1) ok1).mono ?_
      rintro e w' ⟨N, rfl, _, _, hbel⟩
      exact fin 0 _ true w' hy.symm hbel (by omega) (.inr ⟨rfl, _, _, rfl⟩)
    | range =>
      rw [ha] at hy
      rw [hB] at ha hy
      refine (Tryz.strconv_Atoi_range s hlen ha v2 w (err_cell hT hm2) ok2).mono ?_
      rintro e w' ⟨N, rfl, _, _, hbel⟩
      exact fin _ _ true w' hy.symm hbel (Lib.atoiSat_bounds _) (.inr ⟨rfl, _, _, rfl⟩)
theorem cell_plain {w : World} {ad : Addr} {k : Nat} {u : Value} (h : w.cell? (ad.add k) = some u) : w.cell? ⟨ad.block, ad.off + k, none⟩ = some u := by
 have hs : (ad.add k).spot = none := by
  cases hsp : (ad.add k).spot with
  | none => rfl
  | some x =>
   unfold World.cell? at h
   split at h
   ·rw [hsp] at h; simp at h
   ·cases h
 have e : ad.add k = ⟨ad.block, ad.off + k, none⟩ := by
  have h1 := add_block ad k
  have h2 := add_off ad k
  cases ha : ad.add k with
  | mk b o sp =>
   rw [ha] at hs h1 h2
   have hs : sp = none := hs
   have h1 : b = ad.block := h1
   have h2 : o = ad.off + k := h2
   rw [hs, h1, h2]
 rw [<- e]; exact h
def joinP (l : List (List Int)) (sep : List Int) : List Int := sep.intercalate l
theorem inter_map (sep : List UInt8) (l : List (List UInt8)) : (sep.intercalate l).map byteI = (sep.map byteI).intercalate (l.map fun x => x.map byteI) := by
 unfold List.intercalate
 rw [List.map_flatten]
 congr 1
 induction l with
 | nil => rfl
 | cons x l ih =>
  cases l with
  | nil => rfl
  | cons y l =>
   show x.map byteI :: sep.map byteI :: (List.intersperse sep (y :: l)).map (List.map byteI) = x.map byteI :: sep.map byteI :: List.intersperse (sep.map byteI) ((y :: l).map fun x => x.map byteI)
   rw [ih]
def F_strings_Join_sig : Sig := ⟨[.v false [.d (.sl .str)], .v false [.d .str]], [(false, [.d .str])]⟩
def F_strings_Join (l : List (List Int)) (sep : List Int) : Option (List Int) := cond (Nat.ble l.length 140737488355328 && Nat.ble (joinP l sep).length 140737488355328) (some (joinP l sep)) none
theorem F_strings_Join_sound {T : Tab} : SoundFn Tryz.prog T 68 F_strings_Join_sig ⟨F_strings_Join⟩ := by
  refine sound_d rfl fun F g O xs ls y tmf w args hT hls happ hsz hr => ?_
  obtain ⟨(l : List (List Int)), xs', rfl, h2⟩ := appF_inv_c (ts := [.str]) happ
  obtain ⟨(sep : List Int), xs'', rfl, h2'⟩ := appF_inv_c (ts := []) h2
  obtain ⟨rfl, h3⟩ := appF_inv_n h2'
  have hls' : some [Leaf.d (.sl .str) l, Leaf.d .str sep] = some ls := hls
  injection hls' with hls'
  subst hls'
  obtain ⟨a, n, c, e0, e1, e2, e3, e4⟩ := rel_leaf.1 (hr 0)
  have e0 : args.getD 0 undef = .slice a n c := by injection e0
  obtain ⟨t, f0, f1, f2⟩ := rel_str (hr 1)
  rw [args_2 hsz, e0, f0]
  have h3 : cond (Nat.ble l.length 140737488355328 && Nat.ble (joinP l sep).length 140737488355328) (some (joinP l sep)) none = some y := h3
  cases hb : (Nat.ble l.length 140737488355328 && Nat.ble (joinP l sep).length 140737488355328) with
  | false => rw [hb] at h3; cases h3
  | true =>
    rw [hb] at h3
    have hy : joinP l sep = y := by injection h3
    simp only [Bool.and_eq_true] at hb
    have hl1 : l.length <= 140737488355328 := Nat.le_of_ble_eq_true hb.1
    have hl2 : (joinP l sep).length <= 140737488355328 := Nat.le_of_ble_eq_true hb.2
    have fin : ∀ (r : List UInt8) (w' : World), r.map byteI = y -> Below w.heap.size w w' ->
        ∃ us os, Ending.returned (.string ⟨r.toArray⟩) = .returned (retV us) /\ us.length = F_strings_Join_sig.rs.length /\ mkLs (Tok.hd 0) F_strings_Join_sig.outs 0 (unpackD (F_strings_Join_sig.outs.map LT.ty) y) = some os /\ Below w.heap.size w w' /\
          ∀ i, i < F_strings_Join_sig.rs.length -> RelP F ⟨g.C, fun _ => none, g.ρ, fun _ _ => []⟩ w' (exitO F_strings_Join_sig) tmf (us.getD i undef) (resAt F_strings_Join_sig.rs os i) := fun r w' hr hbel => by
      refine ⟨[.string ⟨r.toArray⟩], [.d .str y], rfl, rfl, rfl, hbel, fun i hi => ?_⟩
      match i, hi with
      | 0, _ =>
        refine ⟨[.string ⟨r.toArray⟩], ⟨_, [], rfl, ⟨_, rfl, ?_, ?_⟩, rfl⟩, rfl⟩
        · show r.toArray.toList.map byteI = _
          rw [List.toList_toArray]; exact hr
        · show r.toArray.size <= maxLen
          have : r.length = (joinP l sep).length := by rw [hy, <- hr, List.length_map]
          have hm : maxLen = 9223372036854775807 := rfl
          rw [List.size_toArray]; omega
    cases l with
    | nil =>
      have hn : n = 0 := by rw [<- e1]; rfl
      subst hn
      refine (Tryz.strings_Join_none a c t w).mono ?_
      rintro e w' ⟨rfl, rfl⟩
      exact fin [] w' hy (Below.refl _ _)
    | cons z l =>
      obtain ⟨ad, us0, rfl, _, hc0, _⟩ := e4 0 z rfl
      obtain ⟨ss, hs1, hs2⟩ := choose_l (p := fun i (s : ByteArray) => ∃ x, (z :: l)[i]? = some x /\ bytesL s = x /\ w.cell? (ad.add i) = some (.string s)) (z :: l).length fun i hi => by
        obtain ⟨ad', us, had, _, hc, s, rfl, hs, _⟩ := e4 i _ (List.getElem?_eq_getElem hi)
        injection had with had
        subst had
        have := (hc 0 _ rfl).1
        exact ⟨s, _, List.getElem?_eq_getElem hi, hs, by rw [show i * (Ty.str).size + 0 = i by show i * 1 + 0 = i; omega] at this; exact this⟩
      have hmap : ss.map bytesL = z :: l := by
        apply List.ext_getElem?
        intro i
        rw [List.getElem?_map]
        rcases Nat.lt_or_ge i (z :: l).length with hi | hi
        · obtain ⟨x, q1, q2, q3⟩ := hs2 i _ (List.getElem?_eq_getElem (by omega))
          rw [List.getElem?_eq_getElem (show i < ss.length by omega), q1, <- q2]; rfl
        · rw [List.getElem?_eq_none (by omega), List.getElem?_eq_none hi]; rfl
      have hj : (Lib.join (ss.map (·.data.toList)) t.data.toList).map byteI = y := by
        show (t.data.toList.intercalate (ss.map (·.data.toList))).map byteI = y
        rw [inter_map, <- hy, List.map_map]
        unfold joinP
        rw [<- hmap, <- f1]
        rfl
      have hjl : (Lib.join (ss.map (·.data.toList)) t.data.toList).length = (joinP (z :: l) sep).length := by rw [hy, <- hj, List.length_map]
      have hn : ss.length = n := by rw [hs1]; exact e1
      rw [<- hn]
      have had : ∀ (j : Nat) (x : ByteArray), ss[j]? = some x -> w.cell? ⟨ad.block, ad.off + j, none⟩ = some (.string x) := fun j x hj => by
        obtain ⟨_, _, _, q3⟩ := hs2 j x hj
        exact cell_plain q3
      have hsp : (some ad : Option Addr) = some ⟨ad.block, ad.off, none⟩ := by
        have : ad.spot = none := by
          have hx := had 0 _ (List.getElem?_eq_getElem (show 0 < ss.length by rw [hs1]; simp))
          cases hsp : ad.spot with
          | none => rfl
          | some x =>
            have hz : ad.add 0 = ad := by unfold Addr.add; rw [if_pos rfl]
            obtain ⟨_, _, _, q3⟩ := hs2 0 _ (List.getElem?_eq_getElem (show 0 < ss.length by rw [hs1]; simp))
            rw [hz] at q3
            unfold World.cell? at q3
            split at q3
            · rw [hsp] at q3; simp at q3
            · cases q3
        cases ad with
        | mk b o sp =>
          have this : sp = none := this
          rw [this]
      rw [hsp]
      refine (Tryz.strings_Join ad.block ad.off c ss t w had (cell_lt (a := ⟨ad.block, ad.off + 0, none⟩) (had 0 _ (List.getElem?_eq_getElem (show 0 < ss.length by rw [hs1]; simp)))) (by rw [hs1]; exact hl1) (by omega) (by rw [hjl]; exact hl2)).mono ?_
      rintro e w' ⟨rfl, hbel⟩
      exact fin _ w' hj hbel
def splitI : List Int -> Int -> List (List Int)
 | [], _ => [[]]
 | x :: s, c => cond (x == c) ([] :: splitI s c) (match splitI s c with | [] => [[x]] | w :: r => (x :: w) :: r)
theorem splitI_ne (s : List Int) (c : Int) : splitI s c ≠ [] := by
 cases s with
 | nil => simp [splitI]
 | cons x s =>
  unfold splitI
  cases x == c
  ·rw [cond_false]; split <;> simp
  ·simp
theorem splitI_miss : ∀ {s : List Int} {c : Int}, (∀ x ∈ s, x ≠ c) -> splitI s c = [s]
 | [], _, _ => rfl
 | x :: s, c, h => by
  have ih := splitI_miss (s := s) (c := c) fun y hy => h y (by simp [hy])
  unfold splitI
  rw [ih, beq_eq_false_iff_ne.2 (h x (by simp)), cond_false]
theorem splitI_hit : ∀ {u v : List Int} {c : Int}, (∀ x ∈ u, x ≠ c) -> splitI (u ++ c :: v) c = u :: splitI v c
 | [], v, c, _ => by
  show cond (c == c) ([] :: splitI v c) _ = _
  rw [beq_self_eq_true]; rfl
 | x :: u, v, c, h => by
  have ih := splitI_hit (u := u) (v := v) (c := c) fun y hy => h y (by simp [hy])
  show cond (x == c) _ (match splitI (u ++ c :: v) c with | [] => [[x]] | w :: r => (x :: w) :: r) = _
  rw [ih, beq_eq_false_iff_ne.2 (h x (by simp)), cond_false]
theorem splitI_sum : ∀ (s : List Int) (c : Int), ((splitI s c).map List.length).sum + (splitI s c).length = s.length + 1
 | [], c => rfl
 | x :: s, c => by
  have ih := splitI_sum s c
  unfold splitI
  cases x == c
  ·rw [cond_false]
   cases h : splitI s c with
   | nil => exact absurd h (splitI_ne s c)
   | cons w r =>
    rw [h] at ih
    simp only [List.map_cons, List.sum_cons, List.length_cons] at ih ⊢
    omega
  ·simp only [cond_true, List.map_cons, List.sum_cons, List.length_cons, List.length_nil]
   omega
theorem index_byte (c : UInt8) : ∀ l : List UInt8, Lib.index l [c] = Lib.indexByte l c
 | [] => rfl
 | b :: l => by
  have ih := index_byte c l
  unfold Lib.index Lib.indexByte
  rw [ih]
  have e : ([c].isPrefixOf (b :: l)) = (b == c) := by
   show (c == b && List.isPrefixOf [] l) = _
   rw [show List.isPrefixOf [] l = true by cases l <;> rfl, Bool.and_true]
   by_cases h : b = c
   ·subst h; simp
   ·rw [beq_eq_false_iff_ne.2 h, beq_eq_false_iff_ne.2 (Ne.symm h)]
  rw [e]
theorem byteI_ne {a b : UInt8} (h : a ≠ b) : byteI a ≠ byteI b := fun e => h (UInt8.toNat_inj.1 (by unfold byteI at e; exact Int.ofNat.inj e))
theorem indexB_byte (c : UInt8) (s : ByteArray) : Lib.indexB s ⟨#[c]⟩ = Lib.indexByte s.data.toList c := index_byte c _
theorem no_byte {s : ByteArray} {c : UInt8} (h : Lib.indexByte s.data.toList c = -1) : ∀ x ∈ bytesL s, x ≠ byteI c := fun x hx e => by
 obtain ⟨b, hb, rfl⟩ := List.mem_map.1 hx
 obtain ⟨k, hk⟩ := List.mem_iff_getElem?.1 hb
 have hbc : b = c := by
  by_cases hbc : b = c
  ·exact hbc
  ·exact absurd e (byteI_ne hbc)
 rw [hbc] at hk
 exact Lib.indexByte_none h k hk
theorem at_byte {s : ByteArray} {c : UInt8} {i : Nat} (h : Lib.indexByte s.data.toList c = i) : bytesL s = (bytesL s).take i ++ byteI c :: (bytesL s).drop (i + 1) /\ ∀ x ∈ (bytesL s).take i, x ≠ byteI c := by
 obtain ⟨h1, h2⟩ := Lib.indexByte_some h
 have hi : i < s.data.toList.length := (List.getElem?_eq_some_iff.1 h1).1
 have hg : (bytesL s)[i]? = some (byteI c) := by
  show (s.data.toList.map byteI)[i]? = _
  rw [List.getElem?_map, h1]; rfl
 refine ⟨?_, fun x hx e => ?_⟩
 ·have hlt : i < (bytesL s).length := (List.getElem?_eq_some_iff.1 hg).1
  have hge : (bytesL s)[i] = byteI c := by
   rw [List.getElem?_eq_getElem hlt] at hg
   exact Option.some.inj hg
  rw [<- hge, <- List.drop_eq_getElem_cons hlt, List.take_append_drop]
 ·obtain ⟨j, hj⟩ := List.mem_iff_getElem?.1 hx
  rw [List.getElem?_take] at hj
  split at hj
  ·rename_i hji
   have hj' : (s.data.toList.map byteI)[j]? = some x := hj
   rw [List.getElem?_map] at hj'
   obtain ⟨b, hb, rfl⟩ := Option.map_eq_some_iff.1 hj'
   have hbc : b = c := by
    by_cases hbc : b = c
    ·exact hbc
    ·exact absurd e (byteI_ne hbc)
   rw [hbc] at hb
   exact h2 j hji hb
  ·cases hj
theorem splitB_I (c : UInt8) : ∀ (k : Nat) (s : ByteArray), Lib.countB s ⟨#[c]⟩ = k -> (Lib.splitB ⟨#[c]⟩ 0 k s).map bytesL = splitI (bytesL s) (byteI c) := by
 intro k
 induction k with
 | zero =>
  intro s hk
  rcases Lib.indexB_cases s ⟨#[c]⟩ with h | ⟨i, h, hi⟩
  ·rw [Lib.splitB_zero, splitI_miss (no_byte (by rw [<- indexB_byte]; exact h))]; rfl
  ·rw [Lib.countB_hit s ⟨#[c]⟩ i (Nat.le_refl _) h] at hk
   omega
 | succ k ih =>
  intro s hk
  rcases Lib.indexB_cases s ⟨#[c]⟩ with h | ⟨i, h, hi⟩
  ·rw [Lib.countB_miss s ⟨#[c]⟩ h] at hk
   cases hk
  ·rw [Lib.countB_hit s ⟨#[c]⟩ i (Nat.le_refl _) h] at hk
   rw [Lib.splitB_hit _ _ _ _ _ h, List.map_cons, ih _ (by omega)]
   obtain ⟨h1, h2⟩ := at_byte (s := s) (c := c) (i := i) (by rw [<- indexB_byte]; exact h)
   have e1 : bytesL (s.extract 0 (i + 0)) = (bytesL s).take i := by rw [bytes_extract, List.drop_zero, Nat.add_zero]
   have e2 : bytesL (s.extract (i + (⟨#[c]⟩ : ByteArray).size) s.size) = (bytesL s).drop (i + 1) := by
    rw [bytes_extract, List.take_of_length_le (by rw [bytes_len]; omega)]
    rfl
   rw [e1, e2]
   conv => rhs; rw [h1]
   rw [splitI_hit h2]
theorem mem_sum : ∀ {l : List Nat} {n : Nat}, n ∈ l -> n <= l.sum
 | m :: l, n, h => by
  rw [List.sum_cons]
  rcases List.mem_cons.1 h with rfl | h
  ·omega
  ·have := mem_sum h; omega
def has_maxlen (T : Tab) : Prop := ∃ m : Int, (1, #[Value.int .i64 m]) ∈ T
def F_strings_Split_sig : Sig := ⟨[.v false [.d .str], .v false [.d .str]], [(false, [.own 9 .str])]⟩
def F_strings_Split (s t : List Int) : Option (List (List Int)) := match t with
 | [c] => cond (Nat.ble s.length 4000000000) (some (splitI s c)) none
 | _ => none
theorem F_strings_Split_sound {T : Tab} (h_maxlen : has_maxlen T) : SoundFn Tryz.prog T 94 F_strings_Split_sig ⟨F_strings_Split⟩ := by
 refine sound_of rfl fun F g O xs ls y tmf w args hT hw hlim hls happ hsz hr => ?_
 obtain ⟨(l : List Int), xs', rfl, h2⟩ := appF_inv_c (ts := [.str]) happ
 obtain ⟨(m : List Int), xs'', rfl, h2'⟩ := appF_inv_c (ts := []) h2
 obtain ⟨rfl, h3⟩ := appF_inv_n h2'
 have hls' : some [Leaf.d .str l, Leaf.d .str m] = some ls := hls
 injection hls' with hls'
 subst hls'
 obtain ⟨s, e0, e1, e2⟩ := rel_str (hr 0)
 obtain ⟨t, f0, f1, f2⟩ := rel_str (hr 1)
 rw [args_2 hsz, e0, f0]
 have h3 : F_strings_Split l m = some y := h3
 obtain ⟨c, rfl⟩ : ∃ c, m = [c] := by
  match m, h3 with
  | [], h3 => cases h3
  | [c], _ => exact ⟨c, rfl⟩
  | _ :: _ :: _, h3 => cases h3
 have h3 : cond (Nat.ble l.length 4000000000) (some (splitI l c)) none = some y := h3
 have htl := bytes_size f1
 obtain ⟨cb, rfl⟩ := Lib.one_byte t htl
 have hcb : byteI cb = c := by
  have : [byteI cb] = [c] := f1
  injection this
 cases hb : Nat.ble l.length 4000000000 with
 | false => rw [hb] at h3; cases h3
 | true =>
  rw [hb] at h3
  have hy : splitI l c = y := by injection h3
  have hle : l.length <= 4000000000 := Nat.le_of_ble_eq_true hb
  have hsl := bytes_size e1
  obtain ⟨mx, hmx⟩ := h_maxlen
  refine (Tryz.strings_Split s ⟨#[cb]⟩ mx w (by omega) (err_cell hT hmx) (Nat.le_refl _)).mono ?_
  rintro e w' ⟨rfl, rfl⟩
  have hmap : (Lib.splitB ⟨#[cb]⟩ 0 (Lib.countB s ⟨#[cb]⟩) s).map bytesL = y := by rw [splitB_I cb _ s rfl, e1, hcb, hy]
  have hsb := Lib.splitB_all ⟨#[cb]⟩ (Nat.le_refl _) 0 _ s rfl
  have hyl : List.length (α := List Int) y = Lib.countB s ⟨#[cb]⟩ + 1 := by
   rw [<- hmap]
   show ((Lib.splitB ⟨#[cb]⟩ 0 (Lib.countB s ⟨#[cb]⟩) s).map bytesL).length = _
   rw [List.length_map]; exact hsb
  have hcn := Lib.countB_le ⟨#[cb]⟩ (Nat.le_refl _) s.size s (Nat.le_refl _)
  have hbel : Below w.heap.size w (w.alloc (.cells ((Lib.splitB ⟨#[cb]⟩ 0 (Lib.countB s ⟨#[cb]⟩) s).map Value.string).toArray 9)) := (Below.refl _ w).alloc (Nat.le_refl _) _
  have hnew := heap_alloc_new w (.cells ((Lib.splitB ⟨#[cb]⟩ 0 (Lib.countB s ⟨#[cb]⟩) s).map Value.string).toArray 9)
  generalize hSS : Lib.splitB ⟨#[cb]⟩ 0 (Lib.countB s ⟨#[cb]⟩) s = ss at *
  have hszs : ∀ (i : Nat) (x : ByteArray), ss[i]? = some x -> bytesL x ∈ (show List (List Int) from y) := fun i x hi => by
   rw [<- hmap]
   exact List.mem_map.2 ⟨x, List.mem_of_getElem? hi, rfl⟩
  have hmem : ∀ z ∈ (show List (List Int) from y), z.length <= l.length := fun z hz => by
   have h1 := splitI_sum l c
   rw [hy] at h1
   have h2 : z.length <= ((show List (List Int) from y).map List.length).sum := mem_sum (List.mem_map.2 ⟨z, hz, rfl⟩)
   have h3 : 1 <= List.length (α := List Int) y := by omega
   have h1 : ((show List (List Int) from y).map List.length).sum + List.length (α := List Int) y = l.length + 1 := h1
   omega
  have hcell : ∀ (i : Nat) (x : List Int), (show List (List Int) from y)[i]? = some x -> ∃ s : ByteArray, ss[i]? = some s /\ bytesL s = x := fun i x hx => by
   rw [<- hmap, List.getElem?_map] at hx
   obtain ⟨q, h1, h2⟩ := Option.map_eq_some_iff.1 hx
   exact ⟨q, h1, h2⟩
  rw [<- hyl]
  refine own_out (e := .str) (l := y) hw hlim hbel (Nat.le_refl _) hnew (Nat.le_refl _) (by rw [hyl]; unfold maxLen; omega) ?_ (fun i x hx => ?_) rfl rfl
  ·show (ss.map Value.string).toArray.size = List.length (α := List Int) y * 1
   rw [hyl]
   simp [hsb]
  ·obtain ⟨q, h1, h2⟩ := hcell i x hx
   refine ⟨q, ?_, h2, by rw [bytes_size h2]; have := hmem x (List.mem_of_getElem? hx); unfold maxLen; omega⟩
   show ((ss.map Value.string).toArray.toList.drop (i * 1)).take 1 = _
   rw [List.toList_toArray, Nat.mul_one]
   have hi : i < (ss.map Value.string).length := by
    rw [List.length_map]; exact (List.getElem?_eq_some_iff.1 h1).1
   rw [List.drop_eq_getElem_cons hi, List.take_succ_cons, List.take_zero]
   have : (ss.map Value.string)[i]? = some (.string q) := by rw [List.getElem?_map, h1]; rfl
   rw [List.getElem?_eq_getElem hi] at this
   rw [Option.some.inj this]
theorem handed_of_laid_shaped {H : Type} {enc : TypeId × Value -> H} {a : Assume} {C : Checked} {os : Os} {f : FuncId} {fn : Func} {s : ChangeSpec} {conds : List PathCond} {apart fresh handsOn again : Bool} {X : World -> Array Value -> Prop}
  (hX : ∀ (w w' : World) (args : Array Value), w.heap = w'.heap -> X w args -> X w' args)
  (own : ownKnob C.prog.godebug = none) (started : os.Started) (noInit : C.prog.inits.idxOf? f = none) (hfn : C.prog.funcs[f]? = some fn)
  (witness : ∃ (w : World) (tape : Tape) (i : Input), w.os = os /\ (w.forCall tape i).Shaped C.prog /\ i.vars = [] /\ Input.okWide C.prog (w.forCall tape i) .any w.heap.size f i /\
   ((s.pre enc C.prog fn conds apart (w.forCall tape i).memory i.args /\ X (w.forCall tape i).memory i.args) /\ sizedMet enc C.prog fn (OpenSpec.ofChange s) apart (w.forCall tape i).memory i.args) /\ a.holds C.prog (lone (Frame.enter C.prog f i.args .normal) [] (w.forCall tape i)))
  (contract : ∀ (W : World) (base : Nat) (args : Array Value) (ds gs : List (DataW H)) (before : List MemPlace),
   (∀ (j : Nat) t v, fn.params[j]? = some t -> args[j]? = some v -> Value.okWide C.prog W .any base t v) ->
   DataW.Whole enc C.prog fn.params.toList s.vars apart W args.toList ds gs before -> X W args -> W.ShapedOpen C.prog ->
   Calls C.prog f args W fun e W' => ∃ v, e = .returned v /\ s.post enc C.prog fn apart fresh handsOn again W args v W') :
  ReturnsInHanded a C os f .any (fun w args => (s.pre enc C.prog fn conds apart w args /\ X w args) /\ sizedMet enc C.prog fn (OpenSpec.ofChange s) apart w args) (s.post enc C.prog fn apart fresh handsOn again) := by
 refine returnsInHanded_of_calls own started noInit witness ?_
 intro w tape i _ hsh _ hok hpre hholds
 obtain ⟨_, _, _, fn', hfn', _, _, _, _, hval⟩ := hok
 have e : fn' = fn := Option.some.inj (hfn'.symm.trans hfn)
 subst e
 obtain ⟨⟨⟨ds, gs, before, hw, hc⟩, hx⟩, hz⟩ := hpre
 have hw' := DataW.Whole.of_heap (w' := w.forCall tape i) (by rfl) hw
 refine (contract (w.forCall tape i) w.heap.size i.args ds gs before hval hw' (hX _ _ _ (by rfl) hx) hsh).mono fun e W' ⟨v, he, hp⟩ => ?_
 subst he
 exact ChangeSpec.post_blind hp
theorem err_laid {P : Program} {W : World} {l : List (String × DataW Unit)} {name n : String} {D d : DataW Unit} (hD : D = .iface n d) {g : Nat} {t : TypeId} {ms : Array (String × TypeId)}
  (h : laidMetH P l W) (hl : (l.filter fun x => x.1 == name) = [(name, D)]) (hh : D.handleName? = none) (hg : P.globalNamed name = some g) (hty : (P.globals[g]?).map (·.type) = some t) (ht : P.underlying t = some (.interface ms)) :
  ∃ v, (∃ ty fr, W.heap[g]? = some (.cells #[v] ty fr)) /\ okErr v := by
 have h1 := laidMetH.filter (fun x => x.1 == name) h
 rw [hl, MakeChecks.laidMetH_plain _ _ _ (by simp [hh])] at h1
 subst hD
 obtain ⟨ps, ⟨g', t', cs, fuel, p, q, hg', ht', hvar, hd, _, _⟩, _⟩ := h1
 obtain rfl := Option.some.inj (hg.symm.trans hg')
 obtain rfl := Option.some.inj (hty.symm.trans ht')
 obtain ⟨_, u, v, hcs, _, _⟩ := iface_of_trod ht hd
 unfold World.var? at hvar
 rw [hg, Option.bind_some] at hvar
 split at hvar
 ·rename_i cs' ty fr hc
  injection hvar with hvar
  subst hvar
  obtain rfl : cs' = #[.iface u v] := by
   cases cs'
   simp_all
  exact ⟨_, ⟨ty, fr, hc⟩, .inr ⟨u, v, rfl⟩⟩
 ·cases hvar
theorem int_shaped {P : Program} {w : World} {g : Nat} {t : TypeId} {zero : Array Value} {k : IntKind}
  (h : w.ShapedOpen P) (hg : g < P.globals.size)
  (h0 : ((begin P (fun _ _ => 0) default).world.heap[g]?).bind Obj.row? = some (zero, t)) (hz : zero.size = 1)
  (hb : P.buildable t = true) (hc : P.cellTypes P.depth t = some [t]) (hu : P.underlying t = some (.int k)) :
  ∃ m, ∃ ty fr, w.heap[g]? = some (.cells #[.int k m] ty fr) := by
 obtain ⟨m, hm⟩ := cell_of_shapedOpen_int h hg h0 hz hb hc hu
 obtain ⟨cs, hh, hs, _⟩ := h.1 g zero t hg h0
 rw [cell_at hh] at hm
 obtain ⟨al⟩ := cs
 match al, hs, hm with
 | [v], _, hm =>
  have hm : some v = some (.int k m) := hm
  injection hm with hm
  subst hm
  exact ⟨m, _, _, hh⟩
 | [], hs, _ => rw [hz] at hs; simp at hs
 | _ :: _ :: _, hs, _ => rw [hz] at hs; simp at hs
end Go.Proofs.YtgfmfgombmpodaaGreatDoor
namespace Go.Proofs.YtgfmfgombmpodaaGreatDoor
open Go.RowKit Go.Lib Pv
set_option linter.unusedVariables false
def ruleT : Ty := .pr .bool (.pr (.int .i64) (.pr .str (.pr (.pr .str (.int .i64)) (.pr (.int .i64) (.int .i64)))))
def ruleZ : Value := .agg #[.bool false, .int .i64 0, .string ⟨#[]⟩, .string ⟨#[]⟩, .int .i64 0, .int .i64 0, .int .i64 0]
theorem infoR : (Tryz.prog.info? 68).map (fun i => (i.zero, i.size, i.bytes)) = some (some ruleZ, 7, 72) := by kernel_rfl
def F_slices_Clone_conf_Rule_conf_Rule_sig : Sig := ⟨[.v false [.d (.sl (.pr .bool (.pr (.int .i64) (.pr .str (.pr (.pr .str (.int .i64)) (.pr (.int .i64) (.int .i64)))))))]], [(false, [.own 68 (.pr .bool (.pr (.int .i64) (.pr .str (.pr (.pr .str (.int .i64)) (.pr (.int .i64) (.int .i64))))))])]⟩
def F_slices_Clone_conf_Rule_conf_Rule (l : List (Bool × Int × List Int × (List Int × Int) × Int × Int)) : Option (List (Bool × Int × List Int × (List Int × Int) × Int × Int)) := cond (Nat.ble l.length 1000000) (some l) none
set_option maxHeartbeats 4000000 in
set_option maxRecDepth 1000000 in
theorem clr_at (a : Addr) (n c : Nat) (news : List Value) (w : World) (hl : news.length = n * 7) (hbig : n <= 1000000) (hc : ∀ j u, news[j]? = some u -> w.cell? (a.add j) = some u) (h1 : ∀ u ∈ news, u.oneCell' = true) :
  Calls Tryz.prog 107 #[.slice (some a) n c] w fun e w' => ∃ v', e = .returned v' /\ w'.ownsRow w.heap.size 68 7 v' n news /\ Below w.heap.size w w' := by
 obtain ⟨i0, hi, hz0, hz1, hz2⟩ := info_parts infoR
 have q22 : ∀ (w : World) (a : Option Addr) (n c n' c' : Nat), (binOp .eql 61 (.slice a n c) (.slice none n' c')).run Tryz.prog w = .ok (.bool a.isNone) w := fun w a n c n' c' => Lib.run_eql_slice_nil w _ _ a n c n' c' Tryz.underlying61
 have A : Aside (∀ j u, news[j]? = some u -> w.cell? (a.add j) = some u) := hc
 have B : Aside (∀ u ∈ news, u.oneCell' = true) := h1
 clear hc h1
 go_enter Tryz.func107, Tryz.ntmps107
 go_wp2_with (at_builtin; refine wpList_append_own _ rfl _ _ 61 rfl w.heap.size 68 i0 ruleZ 7 72 Tryz.underlying61 hi hz0 hz1 hz2 rfl (by decide) _ _ _ rfl (World.ownsRow_made w #[] 0 (Nat.le_refl _) (Nat.zero_le _) rfl) a n c news rfl ?qc1 ?qc2 ?qc3 ?qc4 ?qc5 ?qc6 ?_)
 case qc1 => exact hl
 case qc2 =>
  intro j u hj
  exact Lib.cell?_alloc_some _ (A.out j u hj)
 case qc3 => exact B.out
 case qc4 => unfold maxLen; omega
 case qc5 => omega
 case qc6 => simp
 intro v' w1 hown hgrow hnil
 go_wp2
 go_ret
 exact ⟨v', rfl, by simpa using hown, ((Below.refl _ w).alloc (Nat.le_refl _) _).grown hgrow (by simp) (by intro k hk; simp [Value.ownBlock] at hk; omega)⟩
set_option maxHeartbeats 4000000 in
theorem clr_nil (n c : Nat) (w : World) : Calls Tryz.prog 107 #[.slice none n c] w fun e w' => e = .returned (.slice none 0 0) /\ w' = w := by
 have q22 : ∀ (w : World) (a : Option Addr) (n c n' c' : Nat), (binOp .eql 61 (.slice a n c) (.slice none n' c')).run Tryz.prog w = .ok (.bool a.isNone) w := fun w a n c n' c' => Lib.run_eql_slice_nil w _ _ a n c n' c' Tryz.underlying61
 go_enter Tryz.func107, Tryz.ntmps107
 go_wp2
 go_ret
 exact ⟨rfl, rfl⟩
theorem F_slices_Clone_conf_Rule_conf_Rule_sound {T : Tab} : SoundFn Tryz.prog T 107 F_slices_Clone_conf_Rule_conf_Rule_sig ⟨F_slices_Clone_conf_Rule_conf_Rule⟩ := by
 refine sound_of rfl fun F g O xs ls y tmf w args hT hw hlim hls happ hsz hr => ?_
 obtain ⟨(l : List ruleT.D), xs', rfl, h2⟩ := appF_inv_c (ts := []) happ
 obtain ⟨rfl, h3⟩ := appF_inv_n h2
 have hls' : some [Leaf.d (.sl ruleT) l] = some ls := hls
 injection hls' with hls'
 subst hls'
 obtain ⟨a, n, c, e0, e1, e2, e3, e4⟩ := rel_leaf.1 (hr 0)
 have hrep : RepD w g.C (.sl ruleT) l [.slice a n c] := ⟨a, n, c, rfl, e1, e2, e3, e4⟩
 have e0 : args.getD 0 undef = .slice a n c := by injection e0
 rw [args_1 hsz, e0]
 have h3 : cond (Nat.ble l.length 1000000) (some l) none = some y := h3
 cases hb : Nat.ble l.length 1000000 with
 | false => rw [hb] at h3; cases h3
 | true =>
  rw [hb] at h3
  have hy : l = y := by injection h3
  have hb := Nat.le_of_ble_eq_true hb
  subst hy
  cases a with
  | none =>
   have hl : l = [] := by
    cases l with
    | nil => rfl
    | cons x r =>
     obtain ⟨ad, us, q, _⟩ := e4 0 x rfl
     cases q
   subst hl
   refine (clr_nil n c w).mono ?_
   rintro e w' ⟨rfl, rfl⟩
   exact own_nil hlim (Below.refl _ _) rfl rfl
  | some ad =>
   obtain ⟨news, n1, n2, n3, n4⟩ := slice_cells (e := ruleT) (by decide) hrep
   refine (clr_at ad n c news w (by rw [n1, e1]; rfl) (by omega) n2 n3).mono ?_
   rintro e w' ⟨v, rfl, hrow, hbel⟩
   obtain ⟨h0, ⟨rfl, hn⟩ | ⟨b, cap, cur, rfl, k2, k3, k4, k5, k6, k7⟩⟩ := hrow
   ·have hl : l = [] := List.eq_nil_of_length_eq_zero (by omega)
    subst hl
    exact own_nil hlim hbel rfl rfl
   ·subst e1
    refine own_out (e := ruleT) (l := l) hw hlim hbel k2 k3 k4 k5 k6 (fun i x hx => ?_) rfl rfl
    have hin : i < l.length := (List.getElem?_eq_some_iff.1 hx).1
    have r1 := n4 i x hx
    have r2 : RepD w' (fun b' o => g.C b' o \/ (b' = b /\ o < l.length * ruleT.size)) ruleT x ((news.drop (i * ruleT.size)).take ruleT.size) := RepD.gw (fun a u hu hC => ⟨by rw [hbel.cell (cell_lt hu)]; exact hu, .inl hC⟩) r1
    have e7 : (cur.toList.drop (i * ruleT.size)).take ruleT.size = (news.drop (i * ruleT.size)).take ruleT.size := by
     show (cur.toList.drop (i * 7)).take 7 = (news.drop (i * 7)).take 7
     rw [<- k7, List.drop_take, List.take_take]
     congr 1
     omega
    rw [e7]
    exact r2
inductive Role where
 | no | rdr | map | usr | flat
 | row (i : Nat)
def noC : Com := fun _ _ => False
abbrev RuleD := Bool × Int × List Int × (List Int × Int) × Int × Int
abbrev UserD := List Int × (List Int × List Int) × Int × (Nat × Nat) × List RuleD
def userT : Ty := .pr .str (.pr (.pr (.sl (.int .u8)) (.sl (.int .u8))) (.pr (.int .i64) (.pr (.cpx .f64) (.sl ruleT))))
structure RSt where
 c0 : Int
 c1 : Int
 c2 : Int
 c3 : Int
 c4 : Int
 c5 : Int
 c6 : Int
 told : List (List Int)
 us : List UserD
def flatT : Ty -> Bool
 | .sl _ => false
 | .arr _ e => flatT e
 | .pr a b => flatT a && flatT b
 | _ => true
theorem repD_flat {w w' : World} {C C' : Com} : ∀ {t : Ty} {x : t.D} {cs : List Value}, flatT t = true -> RepD w C t x cs -> RepD w' C' t x cs
 | .int _, _, _, _, h => h
 | .bool, _, _, _, h => h
 | .str, _, _, _, h => h
 | .flo _, _, _, _, h => h
 | .cpx _, _, _, _, h => h
 | .err, _, _, _, h => h
 | .un, _, _, _, h => h
 | .sl _, _, _, hf, _ => by cases hf
 | .arr n e, x, cs, hf, h => ⟨h.1, h.2.1, fun i y hy => repD_flat hf (h.2.2 i y hy)⟩
 | .pr a b, x, cs, hf, h => by
  obtain ⟨c1, c2, h1, h2, h3⟩ := h
  have hf : (flatT a && flatT b) = true := hf
  rw [Bool.and_eq_true] at hf
  exact ⟨c1, c2, h1, repD_flat hf.1 h2, repD_flat hf.2 h3⟩
def RowAt (lo : Nat) (w : World) (role : Nat -> Role) (ro : Role) (E : TypeId) (e : Ty) (l : List e.D) (v : Value) : Prop :=
 ∃ xs, w.ownsRow lo E e.size v (List.length l) xs /\ (∀ b, v.ownBlock = some b -> role b = ro) /\ ∀ (i : Nat) (x : e.D), l[i]? = some x -> RepD w noC e x ((xs.drop (i * e.size)).take e.size)
theorem owns_keep {lo : Nat} {w w' : World} {E : TypeId} {s n : Nat} {v : Value} {xs : List Value} (h : w.ownsRow lo E s v n xs) (hk : ∀ b, v.ownBlock = some b -> w'.heap[b]? = w.heap[b]?) : w'.ownsRow lo E s v n xs := by
 refine ⟨h.1, ?_⟩
 rcases h.2 with hn | ⟨g, cap, cur, rfl, hb, hg, rest⟩
 ·exact .inl hn
 ·exact .inr ⟨g, cap, cur, rfl, hb, (hk g rfl).trans hg, rest⟩
theorem RowAt.keep {lo : Nat} {w w' : World} {role role' : Nat -> Role} {ro : Role} {E : TypeId} {e : Ty} {l : List e.D} {v : Value} (h : RowAt lo w role ro E e l v) (he : flatT e = true) (hne : ro ≠ .no) (hk : ∀ b, role b = ro -> role' b = ro /\ w'.heap[b]? = w.heap[b]?) : RowAt lo w' role' ro E e l v := by
 obtain ⟨xs, h1, h2, h3⟩ := h
 exact ⟨xs, owns_keep h1 fun b hb => (hk b (h2 b hb)).2, fun b hb => (hk b (h2 b hb)).1, fun i x hx => repD_flat he (h3 i x hx)⟩
def UserAt (lo : Nat) (w : World) (role : Nat -> Role) (i : Nat) (u : UserD) (cs : List Value) : Prop :=
 ∃ (nm : ByteArray) (vs vd vr : Value), cs = [.string nm, vs, vd, .int .i64 u.2.2.1, .complex .f64 u.2.2.2.1.1 u.2.2.2.1.2, vr] /\ bytesL nm = u.1 /\ nm.size <= maxLen /\ (Lit.int .i64 u.2.2.1).wf = true /\
  RowAt lo w role .flat 5 (.int .u8) u.2.1.1 vs /\ RowAt lo w role .flat 5 (.int .u8) u.2.1.2 vd /\ RowAt lo w role (.row i) 68 ruleT u.2.2.2.2 vr
def UsAt (lo : Nat) (w : World) (role : Nat -> Role) (us : List UserD) (v : Value) : Prop :=
 ∃ xs, w.ownsRow lo 63 6 v us.length xs /\ (∀ b, v.ownBlock = some b -> role b = .usr) /\ ∀ i u, us[i]? = some u -> UserAt lo w role i u ((xs.drop (i * 6)).take 6)
def MapB (w : World) (m : Nat) (ks : List (List Int)) : Prop := ∃ es clock, w.heap[m]? = some (.map es clock) /\ (∀ e ∈ es.toList, e.born < clock) /\ ∃ bs : List ByteArray, bs.map bytesL = ks /\ es.toList.map (fun e => (e.key, e.val)) = bs.map fun s => (Value.string s, Value.bool true)
def RSt.ints (x : RSt) : List Int := [x.c0, x.c1, x.c2, x.c3, x.c4, x.c5, x.c6]
structure RdAt (lo : Nat) (w : World) (R M : Nat) (v : Value) (role : Nat -> Role) (x : RSt) : Prop where
 hR : w.heap[R]? = some (.cells #[.int .i64 x.c0, .int .i64 x.c1, .int .i64 x.c2, .int .i64 x.c3, .int .i64 x.c4, .int .i64 x.c5, .int .i64 x.c6, v, .map (some M)] 110 (0, 0))
 rR : role R = .rdr
 hM : MapB w M x.told
 rM : role M = .map
 hU : UsAt lo w role x.us v
 lt : ∀ b, role b ≠ .no -> lo <= b /\ b < w.heap.size
 wf : ∀ c ∈ x.ints, (Lit.int .i64 c).wf = true
theorem UserAt.keep {lo : Nat} {w w' : World} {role role' : Nat -> Role} {i : Nat} {u : UserD} {cs : List Value} (h : UserAt lo w role i u cs) (hk : ∀ b, role b = .flat \/ role b = .row i -> role' b = role b /\ w'.heap[b]? = w.heap[b]?) : UserAt lo w' role' i u cs := by
 obtain ⟨nm, vs, vd, vr, h1, h2, h3, h4, h5, h6, h7⟩ := h
 refine ⟨nm, vs, vd, vr, h1, h2, h3, h4, h5.keep rfl (by intro e; cases e) fun b hb => ?_, h6.keep rfl (by intro e; cases e) fun b hb => ?_, h7.keep rfl (by intro e; cases e) fun b hb => ?_⟩
 ·obtain ⟨q1, q2⟩ := hk b (.inl hb)
  exact ⟨q1.trans hb, q2⟩
 ·obtain ⟨q1, q2⟩ := hk b (.inl hb)
  exact ⟨q1.trans hb, q2⟩
 ·obtain ⟨q1, q2⟩ := hk b (.inr hb)
  exact ⟨q1.trans hb, q2⟩
theorem MapB.keep {w w' : World} {m : Nat} {ks : List (List Int)} (h : MapB w m ks) (hk : w'.heap[m]? = w.heap[m]?) : MapB w' m ks := by
 obtain ⟨es, clock, h1, h2⟩ := h
 exact ⟨es, clock, hk.trans h1, h2⟩
theorem RdAt.keep {lo : Nat} {w w' : World} {R M : Nat} {v : Value} {role : Nat -> Role} {x : RSt} (h : RdAt lo w R M v role x) (hk : ∀ b, role b ≠ .no -> w'.heap[b]? = w.heap[b]?) (hs : w.heap.size <= w'.heap.size) : RdAt lo w' R M v role x := by
 obtain ⟨xs, u1, u2, u3⟩ := h.hU
 refine ⟨(hk R (by rw [h.rR]; intro e; cases e)).trans h.hR, h.rR, h.hM.keep (hk M (by rw [h.rM]; intro e; cases e)), h.rM, ⟨xs, owns_keep u1 fun b hb => hk b (by rw [u2 b hb]; intro e; cases e), u2, fun i u hu => (u3 i u hu).keep fun b hb => ⟨rfl, hk b ?_⟩⟩, fun b hb => ?_, h.wf⟩
 ·rcases hb with hb | hb <;> (rw [hb]; intro e; cases e)
 ·obtain ⟨h1, h2⟩ := h.lt b hb
  exact ⟨h1, by omega⟩
theorem RdAt.below {lo : Nat} {w w' : World} {R M : Nat} {v : Value} {role : Nat -> Role} {x : RSt} (h : RdAt lo w R M v role x) (hb : Below w.heap.size w w') : RdAt lo w' R M v role x :=
 h.keep (fun b hr => hb.block b (h.lt b hr).2) hb.size
theorem cells9 {w : World} {b : Nat} {v0 v1 v2 v3 v4 v5 v6 v7 v8 : Value} {T : TypeId} (h : w.heap[b]? = some (.cells #[v0, v1, v2, v3, v4, v5, v6, v7, v8] T (0, 0))) : w.cell? ⟨b, 0, none⟩ = some v0 /\ w.cell? ⟨b, 1, none⟩ = some v1 /\ w.cell? ⟨b, 2, none⟩ = some v2 /\ w.cell? ⟨b, 3, none⟩ = some v3 /\ w.cell? ⟨b, 4, none⟩ = some v4 /\ w.cell? ⟨b, 5, none⟩ = some v5 /\ w.cell? ⟨b, 6, none⟩ = some v6 /\ w.cell? ⟨b, 7, none⟩ = some v7 /\ w.cell? ⟨b, 8, none⟩ = some v8 /\ ∀ o, w.frozen? ⟨b, o, none⟩ = false := by
 refine ⟨?_, ?_, ?_, ?_, ?_, ?_, ?_, ?_, ?_, fun o => ?_⟩ <;> first | (rw [cell_at h]; rfl) | simp [World.frozen?, h]
theorem user_cells {lo : Nat} {w : World} {us : List UserD} {U n cap : Nat} {xs : List Value} (h : w.ownsRow lo 63 6 (.slice (some ⟨U, 0, none⟩) n cap) us.length xs) {i : Nat} {c0 c1 c2 c3 c4 c5 : Value} (hc : (xs.drop (i * 6)).take 6 = [c0, c1, c2, c3, c4, c5]) :
  w.cell? ⟨U, i * 6, none⟩ = some c0 /\ w.cell? ⟨U, i * 6 + 1, none⟩ = some c1 /\ w.cell? ⟨U, i * 6 + 2, none⟩ = some c2 /\ w.cell? ⟨U, i * 6 + 3, none⟩ = some c3 /\ w.cell? ⟨U, i * 6 + 4, none⟩ = some c4 /\ w.cell? ⟨U, i * 6 + 5, none⟩ = some c5 := by
 have key : ∀ j u, [c0, c1, c2, c3, c4, c5][j]? = some u -> w.cell? ⟨U, i * 6 + j, none⟩ = some u := fun j u hj => by
  have hj6 : j < 6 := by
   have := (List.getElem?_eq_some_iff.1 hj).1
   simpa using this
  rw [<- hc, List.getElem?_take, if_pos hj6, List.getElem?_drop] at hj
  have := h.cells (g := U) rfl (i * 6 + j) u hj
  rw [add_at, Nat.zero_add] at this
  exact this
 exact ⟨key 0 _ rfl, key 1 _ rfl, key 2 _ rfl, key 3 _ rfl, key 4 _ rfl, key 5 _ rfl⟩
theorem fn_calls {P : Program} {W : World} {T : Tab} (hT : ∀ p ∈ T, ∃ ty fr, W.heap[p.1]? = some (.cells p.2 ty fr)) {f : FuncId} {fd : Func} {s : Sig} {fn : s.Fn} {al : List Arg} {y : s.out.D} (hS : SoundFn P T f s fn) (hps : s.ps = al.map Arg.par) (hf : P.funcs[f]? = some fd) (hok : ∀ a ∈ al, a.ok W)
  (happ : appF ((parsT s.ps).map LT.ty) fn.f (al.flatMap fun a => a.ls.map datOf) = some y) :
  Calls P f ⟨al.map Arg.v⟩ W fun e W' => ∃ us g' st', e = .returned (retV us) /\ us.length = s.rs.length /\ exitSt s y = some st' /\ Below W.heap.size W W' /\ ∀ i, RelP (F00 W fd.ntmps) g' W' st'.O (fun i => us.getD i undef) (us.getD i undef) (st'.φ i) := by
 obtain ⟨ps, rs⟩ := s
 have hps : ps = al.map Arg.par := hps
 subst hps
 obtain ⟨st, h1, h2⟩ := args_rel (rs := rs) hok fd.ntmps
 refine (hS (F00 W fd.ntmps) (G00 W) st _ y _ W ⟨al.map Arg.v⟩ (tab_start hT) h1 happ h2 rfl (fun fd' h => by rw [hf] at h; cases h; rfl) (by simp) (fun i => by simp [Array.getD_eq_getD_getElem?, List.getD_eq_getElem?_getD])).mono fun e W' ⟨us, g', st', q1, q2, q3, q4, _⟩ => ?_
 exact ⟨us, g', st', q1, q2, q3, ⟨q4.fr.os, q4.fr.tape, q4.fr.output, q4.fr.size, fun k hk => q4.fr.old k hk fun _ h => h⟩, fun i => q4.slots i⟩
theorem rInt {F : Fr} {g : Gh} {w : World} {O : Tok -> Bool} {tmf : Nat -> Value} {u : Value} {k : IntKind} {x : Int} (h : RelP F g w O tmf u (.w false [.d (.int k) x])) : u = .int k x /\ (Lit.int k x).wf = true := by
 obtain ⟨h1, h2⟩ := rel_leaf.1 h
 exact ⟨by injection h1, h2⟩
theorem rBool {F : Fr} {g : Gh} {w : World} {O : Tok -> Bool} {tmf : Nat -> Value} {u : Value} {x : Bool} (h : RelP F g w O tmf u (.w false [.d .bool x])) : u = .bool x := by
 have h1 := rel_leaf.1 h
 have h1 : [u] = [.bool x] := h1
 injection h1
end Go.Proofs.YtgfmfgombmpodaaGreatDoor
namespace Go.Proofs
open Go.Shelf Go.RowKit Go.Lib Go.Sort
def Tryz.laysM171_ren : Go.Shelf.Ren := ⟨fun | 171 => 67 | 243 => 108 | 246 => 144 | 283 => 179 | 284 => 180 | 285 => 181 | 286 => 182 | 129 => 208 | 317 => 207 | 318 => 209 | 319 => 210 | 320 => 211 | 337 => 235 | 338 => 236 | n => n, fun | 3 => 3 | 9 => 9 | 2 => 2 | 4 => 4 | 171 => 241 | 0 => 0 | 53 => 218 | 37 => 32 | 5 => 5 | 173 => 244 | 212 => 268 | 51 => 212 | 20 => 20 | 213 => 269 | 46 => 105 | 232 => 297 | 233 => 298 | n => n, fun | 17 => 0 | 18 => 6 | 19 => 7 | n => n⟩
theorem Tryz.laysM171 : Go.Proofs.LaysM.n171 Tryz.prog Tryz.laysM171_ren := {
 mixed := by kernel_rfl
 f129 := Tryz.func208.trans (congrArg some (by kernel_rfl))
 f171 := Tryz.func67.trans (congrArg some (by kernel_rfl))
 f243 := Tryz.func108.trans (congrArg some (by kernel_rfl))
 f246 := Tryz.func144.trans (congrArg some (by kernel_rfl))
 f283 := Tryz.func179.trans (congrArg some (by kernel_rfl))
 f284 := Tryz.func180.trans (congrArg some (by kernel_rfl))
 f285 := Tryz.func181.trans (congrArg some (by kernel_rfl))
 f286 := Tryz.func182.trans (congrArg some (by kernel_rfl))
 f317 := Tryz.func207.trans (congrArg some (by kernel_rfl))
 f318 := Tryz.func209.trans (congrArg some (by kernel_rfl))
 f319 := Tryz.func210.trans (congrArg some (by kernel_rfl))
 f320 := Tryz.func211.trans (congrArg some (by kernel_rfl))
 f337 := Tryz.func235.trans (congrArg some (by kernel_rfl))
 f338 := Tryz.func236.trans (congrArg some (by kernel_rfl))
 t0 := Tryz.underlying0
 a0 := Tryz.isAgg0
 z0 := Tryz.sizeOf0
 v0 := Tryz.zeroValue0
 t2 := Tryz.underlying2
 a2 := Tryz.isAgg2
 z2 := Tryz.sizeOf2
 v2 := Tryz.zeroValue2
 t3 := Tryz.underlying3
 a3 := Tryz.isAgg3
 z3 := Tryz.sizeOf3
 v3 := Tryz.zeroValue3
 t4 := Tryz.underlying4
 a4 := Tryz.isAgg4
 z4 := Tryz.sizeOf4
 v4 := Tryz.zeroValue4
 t5 := Tryz.underlying5
 a5 := Tryz.isAgg5
 z5 := Tryz.sizeOf5
 v5 := Tryz.zeroValue5
 t9 := Tryz.underlying9
 a9 := Tryz.isAgg9
 z9 := Tryz.sizeOf9
 v9 := Tryz.zeroValue9
 t20 := Tryz.underlying20
 a20 := Tryz.isAgg20
 z20 := Tryz.sizeOf20
 v20 := Tryz.zeroValue20
 t37 := Tryz.underlying32
 a37 := Tryz.isAgg32
 z37 := Tryz.sizeOf32
 v37 := Tryz.zeroValue32
 t46 := Tryz.underlying105
 a46 := Tryz.isAgg105
 z46 := Tryz.sizeOf105
 v46 := Tryz.zeroValue105
 t51 := Tryz.underlying212
 a51 := Tryz.isAgg212
 z51 := Tryz.sizeOf212
 v51 := Tryz.zeroValue212
 t53 := Tryz.underlying218
 a53 := Tryz.isAgg218
 z53 := Tryz.sizeOf218
 v53 := Tryz.zeroValue218
 t171 := Tryz.underlying241
 a171 := Tryz.isAgg241
 z171 := Tryz.sizeOf241
 v171 := Tryz.zeroValue241
 t173 := Tryz.underlying244
 a173 := Tryz.isAgg244
 z173 := Tryz.sizeOf244
 v173 := Tryz.zeroValue244
 t212 := Tryz.underlying268
 a212 := Tryz.isAgg268
 z212 := Tryz.sizeOf268
 v212 := Tryz.zeroValue268
 t213 := Tryz.underlying269
 a213 := Tryz.isAgg269
 z213 := Tryz.sizeOf269
 t232 := Tryz.underlying297
 a232 := Tryz.isAgg297
 z232 := Tryz.sizeOf297
 v232 := Tryz.zeroValue297
 t233 := Tryz.underlying298
 a233 := Tryz.isAgg298
 z233 := Tryz.sizeOf298
 v233 := Tryz.zeroValue298
 g17 := by kernel_rfl
 g18 := by kernel_rfl
 g19 := by kernel_rfl
 i0 := by kernel_rfl
 i2 := by kernel_rfl
 i3 := by kernel_rfl
 i4 := by kernel_rfl
 i5 := by kernel_rfl
 i9 := by kernel_rfl
 i20 := by kernel_rfl
 i37 := by kernel_rfl
 i46 := by kernel_rfl
 i51 := by kernel_rfl
 i53 := by kernel_rfl
 i171 := by kernel_rfl
 i173 := by kernel_rfl
 i212 := by kernel_rfl
 i232 := by kernel_rfl
 i233 := by kernel_rfl
 m17 := by kernel_rfl
 m18 := by kernel_rfl
 m19 := by kernel_rfl }
theorem Tryz.strconv_Itoa (n : Int) (h0 : -9223372036854775808 <= n) (h1 : n <= 9223372036854775807) (w : World) (htab : Lib.TabIs Tryz.prog w "internal/strconv.uint64pow10" .u64 Lib.pow10Tab) :
  Calls Tryz.prog 67 #[.int .i64 n] w fun e w' => e = .returned (.string ⟨(Lib.itoa n).toArray⟩) /\ ∃ k os, w' = grow (w.drewN k) os := Any.strconv_Itoa Tryz.laysM171 n h0 h1 w htab
end Go.Proofs
namespace Go.Proofs.YtgfmfgombmpodaaGreatDoor
open Go.RowKit Pv
set_option linter.unusedVariables false
def itoaI (n : Int) : List Int := (Lib.itoa n).map byteI
def tab_pow10 : Nat × Array Value := tabOf 0 .u64 Lib.pow10Tab
def F_strconv_Itoa_sig : Sig := ⟨[.v false [.d (.int .i64)]], [(false, [.d .str])]⟩
def F_strconv_Itoa (n : Int) : Option (List Int) := some (itoaI n)
theorem wf_i64 {n : Int} (h : (Lit.int .i64 n).wf = true) : -9223372036854775808 <= n /\ n <= 9223372036854775807 := by
 simp [Lit.wf, IntKind.min, IntKind.max, IntKind.signed, IntKind.bits] at h
 omega
theorem F_strconv_Itoa_sound {T : Tab} (h_pow10 : tab_pow10 ∈ T) : SoundFn Tryz.prog T 67 F_strconv_Itoa_sig ⟨F_strconv_Itoa⟩ := by
 refine sound_d rfl fun F g O xs ls y tmf w args hT hls happ hsz hr => ?_
 obtain ⟨(n : Int), xs', rfl, h2⟩ := appF_inv_c (ts := []) happ
 obtain ⟨rfl, h3⟩ := appF_inv_n h2
 have hls' : some [Leaf.d (.int .i64) n] = some ls := hls
 injection hls' with hls'
 subst hls'
 obtain ⟨e0, e1⟩ := rel_int (hr 0)
 have ha : args = #[.int .i64 n] := by
  obtain ⟨al⟩ := args
  match al, hsz with
  | [v], _ =>
   have h : v = .int .i64 n := e0
   rw [h]
 subst ha
 have h3 : itoaI n = y := by
  have h3 : some (itoaI n) = some y := h3
  injection h3
 have hn := wf_i64 e1
 refine (Tryz.strconv_Itoa n hn.1 hn.2 w (tabIs_now hT h_pow10 (by kernel_rfl))).mono ?_
 rintro e w' ⟨he, k, os, rfl⟩
 refine ⟨[.string ⟨(Lib.itoa n).toArray⟩], [.d .str y], he, rfl, rfl, below_grow _ _ _, fun i hi => ?_⟩
 match i, hi with
 | 0, _ =>
  refine ⟨[.string ⟨(Lib.itoa n).toArray⟩], ⟨[.string ⟨(Lib.itoa n).toArray⟩], [], rfl, ⟨_, rfl, ?_, ?_⟩, rfl⟩, rfl⟩
  ·rw [<- h3]
   show (Lib.itoa n).toArray.toList.map byteI = _
   rw [List.toList_toArray]
   rfl
  ·show (Lib.itoa n).toArray.size <= maxLen
   have := Lib.itoa_length_le n hn.1 hn.2
   rw [List.size_toArray]
   have hm : maxLen = 9223372036854775807 := rfl
   omega
end Go.Proofs.YtgfmfgombmpodaaGreatDoor
