/- Pure evaluation of the model's code: regions, code, functions. -/
import Derived.Test.YtgcgdfjldeihkaaPv
namespace Go.Proofs.Ytgcgdfjldeihkaa
namespace Pv
set_option linter.unusedVariables false

/-! ### loops -/
def iterC {S R : Type} (body : S → Option (R ⊕ S)) : Nat → S → Option R
  | 0, _ => none
  | n + 1, s => match body s with
    | none => none
    | some (.inl r) => some r
    | some (.inr s') => iterC body n s'
open Classical in
noncomputable def loopC {S R : Type} (body : S → Option (R ⊕ S)) (s : S) : Option R :=
  if h : ∃ r n, iterC body n s = some r then some h.choose else none
def joinC {S R : Type} (a : Option (R ⊕ S)) (b : S → Option R) : Option R :=
  match a with
  | none => none
  | some (.inl r) => some r
  | some (.inr s) => b s

/-! ### regions -/
def keyP : PV → List Nat
  | .loc k _ => [k]
  | .locE k _ _ _ _ => [k]
  | .row k _ _ => [k]
  | _ => []
theorem lendPV_cases (b : Bool) (K : List Nat) (L : Nat → Option (Nat × List Leaf)) (p : PV) : lendPV b K L p = .dead ∨ (lendPV b K L p = p ∧ ∀ k ∈ keyP p, hasN K k = false) ∨
    ∃ k n t σ m q, ∃ l : List Int, p = .row k n t ∧ hasN K k = true ∧ L k = some (σ, [.d (.arr m (.int q)) l]) ∧ b = true ∧ lendPV b K L p = .w false [.d (.sl (.int q)) (l.take n)] := by
  cases p with
  | row k n t =>
    show lendRow b K L k n t = _ ∨ (lendRow b K L k n t = _ ∧ _) ∨ ∃ k' n' t' σ m q, ∃ l : List Int, _ ∧ _ ∧ _ ∧ _ ∧ lendRow b K L k n t = _
    unfold lendRow
    cases hk : hasN K k with
    | false => exact .inr (.inl ⟨rfl, fun j hj => by simp [keyP] at hj; rw [hj]; exact hk⟩)
    | true =>
      dsimp only
      split
      · rename_i σ m q l hL
        exact .inr (.inr ⟨k, n, t, σ, m, q, l, rfl, hk, hL, rfl, rfl⟩)
      · exact .inl rfl
  | loc k f =>
    show keepKey K k _ = _ ∨ (keepKey K k _ = _ ∧ _) ∨ _
    unfold keepKey
    cases hk : hasN K k with
    | true => exact .inl rfl
    | false => exact .inr (.inl ⟨rfl, fun j hj => by simp [keyP] at hj; rw [hj]; exact hk⟩)
  | locE k f e j s =>
    show keepKey K k _ = _ ∨ (keepKey K k _ = _ ∧ _) ∨ _
    unfold keepKey
    cases hk : hasN K k with
    | true => exact .inl rfl
    | false => exact .inr (.inl ⟨rfl, fun j hj => by simp [keyP] at hj; rw [hj]; exact hk⟩)
  | w _ _ => exact .inr (.inl ⟨rfl, fun j hj => by cases hj⟩)
  | tup _ => exact .inr (.inl ⟨rfl, fun j hj => by cases hj⟩)
  | elem _ => exact .inr (.inl ⟨rfl, fun j hj => by cases hj⟩)
  | raw _ => exact .inr (.inl ⟨rfl, fun j hj => by cases hj⟩)
  | spec _ _ _ _ => exact .inr (.inl ⟨rfl, fun j hj => by cases hj⟩)
  | dead => exact .inr (.inl ⟨rfl, fun j hj => by cases hj⟩)
structure Rec where
  keysR : List Nat
  toksR : List Tok
  val : PV
  loc : List (Nat × List Leaf)
  born : List Tok
  gone : List Tok
def Rec.v (p : PV) : Rec := ⟨[], [], p, [], [], []⟩
def Rec.keysW (r : Rec) : List Nat := r.loc.map (·.1)
def Rec.toks (r : Rec) : List Tok := r.born ++ r.gone ++ r.toksR
def toksLs : List Leaf → List Tok
  | [] => []
  | l :: ls => gone1 l.tok ++ toksLs ls
def toksP : PV → List Tok
  | .w _ ls => toksLs ls
  | _ => []
def readsO : Op → Bool
  | .call c => match c.callee with
    | .builtin .append => true
    | .builtin _ => false
    | _ => true
  | .convert .. => true
  | _ => false
def lentToks (L : Nat → Option (Nat × List Leaf)) : PV → List Tok
  | .loc k _ => match L k with | some (_, ls) => toksLs ls | none => []
  | _ => []
def recU (o : Oper) (st : PSt) (kn : List (Nat × Bool)) (u : Upd) : Rec :=
  let ps := o.op.operands.toList.map (evK kn st.φ)
  ⟨ps.flatMap keyP ++ keyP u.val, (match readsO o.op with | true => ps.flatMap toksP ++ ps.flatMap (lentToks st.L) | false => []), u.val, u.loc, u.born, u.gone⟩
/-- Never fails where its operands are at hand. -/
def totalO (ev : Operand → PV) (o : Op) : Bool :=
  match o with
  | .binOp op _ x y _ => match op with
    | .quo | .rem | .shl | .shr => isConst y
    | .add => match ev x with | .w false [.d (.int _) _] => true | _ => false
    | _ => true
  | .move _ | .assign _ | .unOp .. | .field .. | .extract .. => true
  | .call { callee := .builtin .len, .. } => true
  | _ => false
def pickP (kn : List (Nat × Bool)) (φ : Nat → PV) (c a b : Operand) : Option PV :=
  match c with
  | .tmp t => match evK kn φ (.tmp t) with
    | .w false [.d .bool x] => match b with
      | .const (.bool false) => match evK ((t, true) :: kn) φ a with
        | .w false [.d .bool y] => some (pbool (x && y))
        | _ => match x with | false => some (pbool false) | true => none
      | _ => match a with
        | .const (.bool true) => match evK ((t, false) :: kn) φ b with
          | .w false [.d .bool y] => some (pbool (x || y))
          | _ => match x with | true => some (pbool true) | false => none
        | _ => none
    | _ => none
  | _ => none
def freeD (st : PSt) (d : Option Nat) : Bool := match d with
  | none => true
  | some d => !(hasN st.sp d) && (match knows st.kn d with | some _ => false | none => true)
/-- What a value speaks of: the operation that made a token, a local variable. -/
def mentL (d : Nat) : Leaf → Bool
  | .own (.op d' _) _ _ _ => Nat.beq d' d
  | _ => false
def mentLs (d : Nat) : List Leaf → Bool
  | [] => false
  | l :: ls => mentL d l || mentLs d ls
def mentP (d : Nat) : PV → Bool
  | .w _ ls => mentLs d ls
  | .tup xs => xs.any fun x => mentLs d x.2
  | .loc k _ => Nat.beq k d
  | .locE k _ _ _ _ => Nat.beq k d
  | .row k _ _ => Nat.beq k d
  | .spec _ _ _ ls => mentLs d ls
  | _ => false
def isD : Leaf → Bool
  | .d _ _ => true
  | _ => false
/-- What an update must be: it speaks of nothing that is still to be made, what it makes is still to be made, its places are known. -/
def okUpd (st : PSt) (d : Option Nat) (u : Upd) : Bool :=
  ((outN d st.fr).all fun x => !(mentP x u.val) && u.loc.all fun p => !(mentLs x p.2)) &&
  (u.born.all fun t => match t, d with | .op d' _, some d => Nat.beq d' d && hasN st.fr d | _, _ => false) &&
  (u.gone.all fun t => match t with | .zero => false | _ => true) &&
  ((keyP u.val).all fun k => match putL st.L u.loc k with | some _ => true | none => false) &&
  (u.loc.all fun p => (match st.L p.1 with | some _ => true | none => (match d with | some d => Nat.beq p.1 d && hasN st.fr d | none => false)))
def keepUpd (st : PSt) (d : Option Nat) (p : PV) : Bool := okUpd st d (Upd.v p)
section
variable {R : Type}
def stepU (E : Env) (o : Oper) (kn : List (Nat × Bool)) (st : PSt) (C : Rec → PSt → Option R) : Option R :=
  match freeD ⟨st.φ, st.L, st.O, kn, st.sp, st.fr⟩ o.dst with
  | true => match o.op with
    | .pick c a b => match pickP kn st.φ c a b with
      | some p => C (Rec.v p) ⟨putP st.φ o.dst p, st.L, st.O, kn, st.sp, outN o.dst st.fr⟩
      | none => none
    | _ => pvU E o ⟨st.φ, st.L, st.O, kn, st.sp, st.fr⟩ (evK kn st.φ) fun u => match okUpd ⟨st.φ, st.L, st.O, kn, st.sp, st.fr⟩ o.dst u with
      | true => C (recU o st kn u) (applyU u o.dst ⟨st.φ, st.L, st.O, kn, st.sp, st.fr⟩)
      | false => none
  | false => none
def specU (E : Env) (o : Oper) (kn : List (Nat × Bool)) (st : PSt) : Option (Bool × List Leaf) :=
  match totalO (evK kn st.φ) o.op with
  | true => pvU E o ⟨st.φ, st.L, st.O, kn, st.sp, st.fr⟩ (evK kn st.φ) fun u => match u.val, u.loc, u.born, u.gone with | .w ag ls, [], [], [] => some (ag, ls) | _, _, _, _ => none
  | false => none
def skipU (o : Oper) (kn : List (Nat × Bool)) (st : PSt) (C : Rec → PSt → Option R) : Option R :=
  match freeD ⟨st.φ, st.L, st.O, kn, st.sp, st.fr⟩ o.dst with
  | true => C (Rec.v (.raw undef)) ⟨putP st.φ o.dst (.raw undef), st.L, st.O, kn, st.sp, outN o.dst st.fr⟩
  | false => none
def wayU (E : Env) (o : Oper) (want b : Bool) (kn : List (Nat × Bool)) (st : PSt) (C : Rec → PSt → Option R) : Option R :=
  match bEq b want with
  | true => stepU E o kn st C
  | false => skipU o kn st C
def guardU (E : Env) (o : Oper) (t : Nat) (want : Bool) : Nat → List (Nat × Bool) → PSt → (Rec → PSt → Option R) → Option R
  | 0, _, _, _ => none
  | n + 1, kn, st, C => match evK kn st.φ (.tmp t) with
    | .w false [.d .bool b] => match knows kn t with
      | some b' => wayU E o want b' kn st C
      | none => match specU E o ((t, want) :: kn) st with
        | some (ag, ls) => match freeD ⟨st.φ, st.L, st.O, kn, t :: st.sp, st.fr⟩ o.dst && keepUpd st o.dst (.w ag ls) with
          | true => C (recU o st ((t, want) :: kn) (Upd.v (.spec t want ag ls))) ⟨putP st.φ o.dst (.spec t want ag ls), st.L, st.O, kn, t :: st.sp, outN o.dst st.fr⟩
          | false => none
        | none => cond b (wayU E o want true ((t, true) :: kn) st C) (wayU E o want false ((t, false) :: kn) st C)
    | .raw (.tuple _) => skipU o kn st C
    | .dead => match st.φ t with
      | .spec t1 _ _ _ => match evK kn st.φ (.tmp t1), knows kn t1 with
        | .w false [.d .bool b1], none => cond b1 (guardU E o t want n ((t1, true) :: kn) st C) (guardU E o t want n ((t1, false) :: kn) st C)
        | _, _ => none
      | _ => none
    | _ => none
def pvStep (E : Env) (ops : Array Oper) (o : Oper) (st : PSt) (C : Rec → PSt → Option R) : Option R :=
  match o.guard with
  | none => stepU E o st.kn st C
  | some (j, want) => match (ops[j]?).bind (·.dst) with
    | none => none
    | some t => guardU E o t want 4 st.kn st C
def pvOps (E : Env) (ops : Array Oper) : List Oper → List Rec → PSt → (List Rec → PSt → Option R) → Option R
  | [], tr, st, C => C tr st
  | o :: r, tr, st, C => pvStep E ops o st fun rc st' => pvOps E ops r (tr ++ [rc]) st' C
end
/-- What a region may make anew is forgotten at its head. -/
def dropTok (ds : List Nat) : Tok → Bool
  | .op d _ => hasN ds d
  | _ => false
def dropLeaf (ds : List Nat) : Leaf → Leaf
  | .own k E e l => match dropTok ds k with | true => .d (.sl e) l | false => .own k E e l
  | l => l
def sanP (ds : List Nat) : PV → PV
  | .w ag ls => .w ag (ls.map (dropLeaf ds))
  | .tup xs => .tup (xs.map fun x => (x.1, x.2.map (dropLeaf ds)))
  | .loc k f => match hasN ds k with | true => .dead | false => .loc k f
  | .locE k f e j s => match hasN ds k with | true => .dead | false => .locE k f e j s
  | .row k n t => match hasN ds k with | true => .dead | false => .row k n t
  | .elem ls => .elem ls
  | .raw v => .raw v
  | .spec _ _ _ _ => .dead
  | .dead => .dead
def madeBy (ops : List Oper) : List Nat := ops.flatMap fun o => match o.op, o.dst with
  | .alloc _, some d | .box _ _, some d | .buildSlice .., some d | .makeSlice .., some d | .convert .., some d | .call _, some d => [d]
  | _, _ => []
def sanSt (ds : List Nat) (st : PSt) : PSt :=
  ⟨fun i => sanP ds (st.φ i), fun k => match hasN ds k with | true => none | false => match st.L k with | some (σ, ls) => some (σ, ls.map (dropLeaf ds)) | none => none,
    fun t => !(dropTok ds t) && st.O t, [], [], ds⟩

/-! ### a region that draws its order -/
def insN (n : Nat) (l : List Nat) : List Nat := match hasN l n with | true => l | false => n :: l
def unionN : List Nat → List Nat → List Nat
  | [], l => l
  | x :: r, l => insN x (unionN r l)
/-- For each operation: what must have been made before it. -/
def ancs : List Oper → List (List Nat) → List (List Nat)
  | [], acc => acc
  | o :: r, acc => ancs r (acc ++ [(o.after.toList.filter (Region.binds .any)).foldr (fun e l => insN e.on (unionN (acc.getD e.on []) l)) []])
def waitsN (an : List (List Nat)) (j i : Nat) : Bool := hasN (an.getD j []) i
/-- Two operations, the first ahead of the second in the text: may both come at any time? -/
def okTwo (ops : Array Oper) (an : List (List Nat)) (tr : List Rec) (i j : Nat) : Bool :=
  match ops[i]?, ops[j]?, tr[i]?, tr[j]? with
    | some oi, some oj, some ri, some rj =>
      (match oi.dst, oj.dst with | some d, some d' => !(Nat.beq d d') | _, _ => true) && (waitsN an j i ||
      (match oi.dst with | some d => !(hasN (oj.looksAt ops) d) && !(mentP d rj.val) && (rj.loc.all fun p => !(mentLs d p.2)) | none => true) &&
      (match oj.dst with | some d => !(hasN (oi.looksAt ops) d) | none => true) &&
      (ri.keysW.all fun k => !(hasN rj.keysW k) && !(hasN rj.keysR k)) && (rj.keysW.all fun k => !(hasN ri.keysR k)) &&
      (ri.toks.all fun t => !(hasT rj.toks t)))
    | _, _, _, _ => false
def okOne (ops : Array Oper) (an : List (List Nat)) (j : Nat) : Bool := match ops[j]? with
  | some o => (match o.dst with | some d => !(hasN (o.looksAt ops) d) | none => true) && (o.after.toList.all fun e => !(Region.binds .any e) || Nat.blt e.on j) &&
      (match o.guard with | some (g, _) => waitsN an j g | none => true)
  | none => false
def okDraw (ops : Array Oper) (tr : List Rec) : Bool :=
  let an := ancs ops.toList []
  Region.noSelect ops && (List.range ops.size).all fun j => okOne ops an j && (List.range j).all fun i => okTwo ops an tr i j

/-! ### code, with the places where the evaluation is cut -/
structure Ann where
  id : Nat
  slots : List (Nat × Bool × List LT)
  locals : List (Nat × List LT)
  dead : List Nat
  kept : List Nat
def Ann.has (n : Ann) (i : Nat) : Bool := hasN n.dead i || n.slots.any fun p => Nat.beq i p.1
def Ann.ts (n : Ann) : List LT := n.slots.flatMap (·.2.2) ++ n.locals.flatMap (·.2)
def Ann.D (n : Ann) : Type := (prs (n.ts.map LT.ty)).D
inductive AC where
  | skip
  | region (id : Nat) (ops : Array Oper) (draw : Bool)
  | seq (a b : AC)
  | join (n : Ann) (a b : AC)
  | cond (c : Operand) (x y : AC)
  | block (id : Nat) (b : AC)
  | loop (n : Ann) (b : AC)
  | exit (id : Nat)
  | ret
  | label (l : Nat)
  | goto (l : Nat)
  | scope (n : Ann) (c : AC)
  | hand (c : Code) (h : PSt → Option (Bool × PSt))
def AC.erase : AC → Code
  | .skip => .skip
  | .region id ops draw => .region id ops draw
  | .seq a b | .join _ a b => .seq a.erase b.erase
  | .cond c x y => .cond c x.erase y.erase
  | .block id b => .block id b.erase
  | .loop _ b => .loop b.erase
  | .exit id => .exit id
  | .ret => .ret
  | .label l => .label l
  | .goto l => .goto l
  | .scope _ c => .scope c.erase
  | .hand c _ => c
def AC.dsts : AC → List Nat
  | .region _ ops _ => ops.toList.filterMap (·.dst)
  | .seq a b | .join _ a b | .cond _ a b => a.dsts ++ b.dsts
  | .block _ b | .loop _ b | .scope _ b => b.dsts
  | _ => []
def AC.ids : AC → List Nat
  | .seq a b | .cond _ a b => a.ids ++ b.ids
  | .join n a b => n.id :: (a.ids ++ b.ids)
  | .block _ b => b.ids
  | .loop n b => n.id :: b.ids
  | .scope n b => n.id :: b.ids
  | _ => []
/-- The pieces that are walked by hand. -/
def AC.hands : AC → List (Code × (PSt → Option (Bool × PSt)))
  | .seq a b | .join _ a b | .cond _ a b => a.hands ++ b.hands
  | .block _ b | .loop _ b | .scope _ b => b.hands
  | .hand c h => [(c, h)]
  | _ => []
def codeLabs : Code → List Nat
  | .seq a b => codeLabs a ++ codeLabs b
  | .label l => [l]
  | _ => []
/-- Where a jump may land: behind a label on the spine. -/
def AC.labs : AC → List Nat
  | .seq a b | .join _ a b => a.labs ++ b.labs
  | .label l => [l]
  | .hand c _ => codeLabs c
  | _ => []
def AC.labOk : AC → Bool
  | .seq a b => a.labOk && b.labOk
  | .join _ a b => (match a.labs with | [] => true | _ => false) && (match b.labs with | [] => true | _ => false)
  | _ => true
def okIds (n : Ann) (l : List Nat) : Bool := !(Nat.beq n.id 0) && !(hasN l n.id)
def AC.good : AC → Bool
  | .seq a b | .cond _ a b => a.good && b.good
  | .join n a b => a.good && b.good && a.dsts.all n.has && okIds n a.ids && (n.kept.all fun k => !(hasN (n.locals.map (·.1)) k))
  | .loop n b => b.good && b.dsts.all n.has && okIds n b.ids && (n.kept.all fun k => !(hasN (n.locals.map (·.1)) k))
  | .block _ b => b.good
  | .scope n b => b.good && b.dsts.all n.has && okIds n b.ids && (n.kept.all fun k => !(hasN (n.locals.map (·.1)) k)) && b.labOk
  | _ => true
inductive Xt where
  | normal | exit (id : Nat) | ret | goto (l : Nat)
def slotLs (φ : Nat → PV) : List (Nat × Bool × List LT) → Option (List Leaf)
  | [] => some []
  | (i, ag, ts) :: r => match φ i, slotLs φ r with
    | .w ag' ls, some l => match bEq ag ag' && Nat.beq ls.length ts.length with | true => some (ls ++ l) | false => none
    | _, _ => none
def localLs (L : Nat → Option (Nat × List Leaf)) : List (Nat × List LT) → Option (List Leaf)
  | [] => some []
  | (k, ts) :: r => match L k, localLs L r with
    | some (_, ls), some l => match Nat.beq ls.length ts.length with | true => some (ls ++ l) | false => none
    | _, _ => none
def collect (n : Ann) (st : PSt) : Option n.D :=
  match slotLs st.φ n.slots, localLs st.L n.locals with
  | some a, some b => match takeAll st.O n.ts (a ++ b) with
    | some (ks, xs) => match distinctT ks with | true => packD (n.ts.map LT.ty) xs | false => none
    | none => none
  | _, _ => none
def unown : Leaf → Leaf
  | .own _ _ e l => .d (.sl e) l
  | l => l
def unownP : PV → PV
  | .w ag ls => .w ag (ls.map unown)
  | .tup xs => .tup (xs.map fun x => (x.1, x.2.map unown))
  | .spec _ _ _ _ => .dead
  | p => p
def nthS : List (Nat × Bool × List LT) → List Leaf → Nat → Option PV
  | [], _, _ => none
  | (j, ag, ts) :: r, ls, i => match Nat.beq i j with | true => some (.w ag (ls.take ts.length)) | false => nthS r (ls.drop ts.length) i
def nthL : List (Nat × List LT) → List Leaf → Nat → Option (List Leaf)
  | [], _, _ => none
  | (j, ts) :: r, ls, i => match Nat.beq i j with | true => some (ls.take ts.length) | false => nthL r (ls.drop ts.length) i
def lenTs (l : List (Nat × Bool × List LT)) : Nat := (l.flatMap (·.2.2)).length
def keptL (n : Ann) (st : PSt) (k : Nat) : Option (Nat × List Leaf) := match hasN n.kept k with
  | true => match st.L k with | some (_, ls) => some (n.id, ls.map unown) | none => none
  | false => none
def Ann.knowsL (n : Ann) (st : PSt) (k : Nat) : Bool := hasN (n.locals.map (·.1)) k || (match keptL n st k with | some _ => true | none => false)
/-- The state at a cut. -/
def headSt (n : Ann) (st : PSt) (x : n.D) : Option PSt :=
  match mkLs (Tok.hd n.id) n.ts 0 (unpackD (n.ts.map LT.ty) x) with
  | none => none
  | some ls => some
    ⟨fun i => match nthS n.slots ls i with
      | some p => p
      | none => match hasN n.dead i with
        | true => .dead
        | false => match unownP (st.φ i) with
          | .loc k f => match !(n.has k) && n.knowsL st k with | true => .loc k f | false => .dead
          | .locE k f e j s => match !(n.has k) && n.knowsL st k with | true => .locE k f e j s | false => .dead
          | .row k m t => match !(n.has k) && n.knowsL st k with | true => .row k m t | false => .dead
          | p => p,
     fun k => match nthL n.locals (ls.drop (lenTs n.slots)) k with
      | some l => some (0, l)
      | none => keptL n st k,
     fun t => hasT (.zero :: labs (Tok.hd n.id) n.ts 0) t, [], [], []⟩
def keptOk (n : Ann) (s : PSt) : Bool := n.kept.all fun k => match s.L k with | some (σ, _) => Nat.beq σ n.id | none => false
def stampSt (n : Ann) (st : PSt) : PSt := ⟨st.φ, fun k => match keptL n st k with | some x => some x | none => st.L k, st.O, st.kn, st.sp, st.fr⟩
mutual
noncomputable def pv (E : Env) : AC → {R : Type} → (Xt → PSt → Option R) → PSt → Option R
  | .skip, _, Q, st => Q .normal st
  | .region _ ops draw, _, Q, st => pvOps E ops ops.toList [] (sanSt (madeBy ops.toList) st) fun tr s => match draw with
    | false => Q .normal s
    | true => match E.P.follows .mixedOrders && okDraw ops tr with | true => Q .normal s | false => none
  | .seq a b, _, Q, st => pv E a (fun x s => match x with | .normal => pv E b Q s | x => Q x s) st
  | .join n a b, R, Q, st => joinC (S := n.D) (R := R) (pv E a (fun x s => match x with
      | .normal => match keptOk n s with | true => (collect n s).map .inr | false => none
      | x => (Q x s).map .inl) (stampSt n st)) fun x => match headSt n st x with | some h => pv E b Q h | none => none
  | .cond c x y, _, Q, st => match evS st.φ c with
    | .w false [.d .bool b] => cond b (pv E x Q st) (pv E y Q st)
    | _ => none
  | .block id b, _, Q, st => pv E b (fun x s => match x with
      | .exit i => match Nat.beq i id with | true => Q .normal s | false => Q (.exit i) s
      | x => Q x s) st
  | .loop n b, R, Q, st => match collect n st with
    | some x => loopC (S := n.D) (R := R) (fun x => match headSt n st x with
      | some h => pv E b (fun xt s => match xt with
        | .normal => match keptOk n s with | true => (collect n s).map .inr | false => none
        | xt => (Q xt s).map .inl) h
      | none => none) x
    | none => none
  | .exit id, _, Q, st => Q (.exit id) st
  | .ret, _, Q, st => Q .ret st
  | .label _, _, Q, st => Q .normal st
  | .goto l, _, Q, st => Q (.goto l) st
  | .hand _ h, _, Q, st => match h st with | some (b, s) => chk b (Q .ret s) | none => none
  | .scope n c, R, Q, st => joinC (S := Nat × n.D) (R := R) (pv E c (fun x s => match x with
      | .goto l => match hasN c.labs l with
        | true => match keptOk n s with | true => (collect n s).map fun y => .inr (l, y) | false => none
        | false => (Q (.goto l) s).map .inl
      | x => (Q x s).map .inl) (stampSt n st)) fun p => loopC (S := Nat × n.D) (R := R) (fun p => match headSt n st p.2 with
        | some h => pvFrom E c p.1 (fun x s => match x with
          | .goto l => match hasN c.labs l with
            | true => match keptOk n s with | true => (collect n s).map fun y => .inr (l, y) | false => none
            | false => (Q (.goto l) s).map .inl
          | x => (Q x s).map .inl) h
        | none => none) p
/-- The code behind a label. -/
noncomputable def pvFrom (E : Env) : AC → Nat → {R : Type} → (Xt → PSt → Option R) → PSt → Option R
  | .seq a b, l, _, Q, st => match hasN a.labs l with
    | true => pvFrom E a l (fun x s => match x with | .normal => pv E b Q s | x => Q x s) st
    | false => pvFrom E b l Q st
  | .label _, _, _, Q, st => Q .normal st
  | _, _, _, _, _ => none
end

/-- Never answers. -/
def botF {α : Type} : (ts : List Ty) → insT ts (Option α)
  | [] => none
  | _ :: ts => fun _ => botF ts
/-! ### a function -/
def resLs (P : Program) (st : PSt) : ResultVar → Bool × List LT → Option (List Leaf)
  | .tmp t, (ag, ts) => match st.φ t with
    | .w ag' ls => match bEq ag ag' && Nat.beq ls.length ts.length with | true => some ls | false => none
    | _ => none
  | .cell a t, (ag, ts) => match st.φ a with
    | .loc k off => match st.L k with
      | some (_, ls) => match atLs P t ls off, bEq ag (isAg P t) && (P.underlying t).isSome with | some vs, true => (match Nat.beq vs.length ts.length with | true => some vs | false => none) | _, _ => none
      | none => none
    | _ => none
def resAll (P : Program) (st : PSt) : List ResultVar → List (Bool × List LT) → Option (List Leaf)
  | [], [] => some []
  | r :: rs, t :: ts => match resLs P st r t, resAll P st rs ts with | some a, some b => some (a ++ b) | _, _ => none
  | _, _ => none
def inoutLs (st : PSt) : List Par → Nat → Option (List Leaf)
  | [], _ => some []
  | .v _ _ :: r, i => inoutLs st r (i + 1)
  | .m ts :: r, i => match st.L i, inoutLs st r (i + 1) with
    | some (_, ls), some l => match Nat.beq ls.length ts.length with | true => some (ls ++ l) | false => none
    | _, _ => none
def retP (P : Program) (rvs : List ResultVar) (s : Sig) (st : PSt) : Option s.out.D :=
  match resAll P st rvs s.rs, inoutLs st s.ps 0 with
  | some a, some b => match takeAllN st.O s.outs (a ++ b) with
    | some (ks, xs) => match distinctT ks with | true => packD (s.outs.map LT.ty) xs | false => none
    | none => none
  | _, _ => none
/-- Rows that are returned are lent for good. -/
def rowRes (φ : Nat → PV) (rvs : List ResultVar) : List Nat := rvs.flatMap fun x => match x with | .tmp t => (match φ t with | .row k _ _ => [k] | _ => []) | _ => []
def resTmps (rvs : List ResultVar) : List Nat := rvs.filterMap fun x => match x with | .tmp t => some t | _ => none
def retF (P : Program) (rvs : List ResultVar) (s : Sig) (st : PSt) : Option s.out.D := match rowRes st.φ rvs with
  | [] => retP P rvs s st
  | k :: K => chk ((resTmps rvs).all fun t => rowOk st.L (st.φ t)) (retP P rvs s (lendSt (k :: K) (resTmps rvs) st))
def parP : List Par → List Leaf → Nat → PV
  | [], _, _ => .raw undef
  | p :: ps, ls, 0 => match p with | .v ag ts => .w ag (ls.take ts.length) | .m _ => .dead
  | p :: ps, ls, i + 1 => parP ps (ls.drop p.ts.length) i
def parK : List Par → List Leaf → Nat → Option (List Leaf)
  | [], _, _ => none
  | p :: ps, ls, 0 => match p with | .v _ _ => none | .m ts => some (ls.take ts.length)
  | p :: ps, ls, i + 1 => parK ps (ls.drop p.ts.length) i
def isM : List Par → Nat → Bool
  | .m _ :: _, 0 => true
  | _ :: ps, i + 1 => isM ps i
  | _, _ => false
def entrySt (s : Sig) (xs : List ((t : Ty) × t.D)) : Option PSt :=
  match mkLs (Tok.hd 0) (parsT s.ps) 0 xs with
  | none => none
  | some ls => some ⟨fun i => match isM s.ps i with | true => .loc i 0 | false => parP s.ps ls i,
      fun k => match parK s.ps ls k with | some l => some (0, l) | none => none,
      fun t => hasT (.zero :: labs (Tok.hd 0) (parsT s.ps) 0) t, [], [], []⟩
def curryT {α : Type} : (ts : List Ty) → (List ((t : Ty) × t.D) → Option α) → insT ts (Option α)
  | [], g => g []
  | t :: ts, g => fun x => curryT ts fun xs => g (⟨t, x⟩ :: xs)
def findA (A : List (Nat × Ann)) (k : Nat) : Option Ann :=
  match A with
  | [] => none
  | (j, n) :: r => match Nat.beq j k with | true => some n | false => findA r k
/-- Code with its cuts: seqs and loops are counted in the order of the text. -/
def annot (A : List (Nat × Ann)) : Code → Nat → Option (AC × Nat)
  | .skip, k => some (.skip, k)
  | .region id ops d, k => some (.region id ops d, k)
  | .seq a b, k => match annot A a (k + 1) with
    | some (a', k') => match annot A b k' with
      | some (b', k'') => match findA A k with | some n => some (.join n a' b', k'') | none => some (.seq a' b', k'')
      | none => none
    | none => none
  | .cond c x y, k => match annot A x k with
    | some (x', k') => match annot A y k' with | some (y', k'') => some (.cond c x' y', k'') | none => none
    | none => none
  | .block id b, k => match annot A b k with | some (b', k') => some (.block id b', k') | none => none
  | .loop b, k => match findA A k, annot A b (k + 1) with
    | some n, some (b', k') => some (.loop n b', k')
    | _, _ => none
  | .exit id, k => some (.exit id, k)
  | .ret, k => some (.ret, k)
  | .label l, k => some (.label l, k)
  | .goto l, k => some (.goto l, k)
  | .scope b, k => match findA A k, annot A b (k + 1) with
    | some n, some (b', k') => some (.scope n b', k')
    | _, _ => none
  | _, _ => none
noncomputable def pvFnL (E : Env) (A : List (Nat × Ann)) (fn : Func) (s : Sig) (xs : List ((t : Ty) × t.D)) : Option s.out.D :=
  match fn.body, entrySt s xs with
  | some c, some st => match annot A c 0 with
    | some (ac, _) => match ac.good && ac.dsts.all (fun d => Nat.blt d fn.ntmps) && Nat.ble s.ps.length fn.ntmps && Nat.beq fn.results.size s.rs.length && ((List.range s.ps.length).all fun k => !(isM s.ps k) || !(hasN ac.dsts k)) with
      | true => pv E ac (fun x s' => match x with | .normal | .ret => retF E.P fn.results.toList s s' | _ => none) st
      | false => none
    | none => none
  | _, _ => none
/-- The code that begins with the region r, and returns, is walked by hand. -/
def AC.withHand (r : Nat) (h : PSt → Option (Bool × PSt)) : AC → AC
  | .seq (.region id ops d) b => match Nat.beq id r with
    | true => .hand (.seq (.region id ops d) b.erase) h
    | false => .seq (.region id ops d) (b.withHand r h)
  | .seq a b => .seq (a.withHand r h) (b.withHand r h)
  | .join n a b => .join n (a.withHand r h) (b.withHand r h)
  | .cond c x y => .cond c (x.withHand r h) (y.withHand r h)
  | .block id b => .block id (b.withHand r h)
  | .loop n b => .loop n (b.withHand r h)
  | .scope n b => .scope n (b.withHand r h)
  | c => c
noncomputable def pvFnHL (r : Nat) (h : PSt → Option (Bool × PSt)) (E : Env) (A : List (Nat × Ann)) (fn : Func) (s : Sig) (xs : List ((t : Ty) × t.D)) : Option s.out.D :=
  match fn.body, entrySt s xs with
  | some c, some st => match annot A c 0 with
    | some (ac0, _) => match AC.withHand r h ac0 with
      | ac => match ac.good && ac.dsts.all (fun d => Nat.blt d fn.ntmps) && Nat.ble s.ps.length fn.ntmps && Nat.beq fn.results.size s.rs.length && ((List.range s.ps.length).all fun k => !(isM s.ps k) || !(hasN ac.dsts k)) with
        | true => pv E ac (fun x s' => match x with | .normal | .ret => retF E.P fn.results.toList s s' | _ => none) st
        | false => none
    | none => none
  | _, _ => none
noncomputable def pvFnH (r : Nat) (h : PSt → Option (Bool × PSt)) (E : Env) (A : List (Nat × Ann)) (fn : Func) (s : Sig) : insT ((parsT s.ps).map LT.ty) (Option s.out.D) := curryT _ (pvFnHL r h E A fn s)
noncomputable def pvFn (E : Env) (A : List (Nat × Ann)) (fn : Func) (s : Sig) : insT ((parsT s.ps).map LT.ty) (Option s.out.D) := curryT _ (pvFnL E A fn s)
end Pv
end Go.Proofs.Ytgcgdfjldeihkaa
