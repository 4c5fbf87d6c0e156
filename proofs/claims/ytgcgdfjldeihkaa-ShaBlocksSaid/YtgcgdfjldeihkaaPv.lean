/- Pure evaluation of the model's code: definitions. What the code computes is told as a Lean function on plain data; the memory model is met once, in the proofs that follow. Of the program nothing is said here. -/
import Derived.Orders
import Derived.Tactics
import Derived.Scope
import Derived.ScopeJumps
import Derived.Laws.Cells
import Derived.Laws.World
import Derived.RowKit3
namespace Go.Proofs.Ytgcgdfjldeihkaa
namespace Pv
set_option linter.unusedVariables false

/-! ### types of data -/
inductive Ty where
  | int (k : IntKind) | bool | str | flo (k : FloatKind) | err | un
  | sl (e : Ty) | arr (n : Nat) (e : Ty) | pr (a b : Ty)
def Ty.D : Ty → Type
  | .int _ => Int
  | .bool => Bool
  | .str => List Int
  | .flo _ => Nat
  | .err => Bool
  | .un => Unit
  | .sl e => List e.D
  | .arr _ e => List e.D
  | .pr a b => a.D × b.D
def Ty.size : Ty → Nat
  | .un => 0
  | .arr n e => n * e.size
  | .pr a b => a.size + b.size
  | _ => 1
def ikEq : IntKind → IntKind → Bool
  | .i8, .i8 | .i16, .i16 | .i32, .i32 | .i64, .i64 | .u8, .u8 | .u16, .u16 | .u32, .u32 | .u64, .u64 => true
  | _, _ => false
def fkEq : FloatKind → FloatKind → Bool
  | .f32, .f32 | .f64, .f64 => true
  | _, _ => false
def teq : Ty → Ty → Bool
  | .int k, .int k' => ikEq k k'
  | .bool, .bool | .str, .str | .err, .err | .un, .un => true
  | .flo k, .flo k' => fkEq k k'
  | .sl a, .sl b => teq a b
  | .arr n a, .arr m b => Nat.beq n m && teq a b
  | .pr a b, .pr c d => teq a c && teq b d
  | _, _ => false
theorem ikEq_eq : ∀ {k k' : IntKind}, ikEq k k' = true → k = k' := by intro k k' h; cases k <;> cases k' <;> first | rfl | cases h
theorem fkEq_eq : ∀ {k k' : FloatKind}, fkEq k k' = true → k = k' := by intro k k' h; cases k <;> cases k' <;> first | rfl | cases h
theorem teq_eq : ∀ {a b : Ty}, teq a b = true → a = b
  | .int _, .int _, h => by rw [ikEq_eq h]
  | .bool, .bool, _ => rfl
  | .str, .str, _ => rfl
  | .err, .err, _ => rfl
  | .un, .un, _ => rfl
  | .flo _, .flo _, h => by rw [fkEq_eq h]
  | .sl a, .sl b, h => by rw [teq_eq (a := a) (b := b) h]
  | .arr n a, .arr m b, h => by
    have h' : (Nat.beq n m && teq a b) = true := h
    rw [Bool.and_eq_true] at h'
    rw [Nat.eq_of_beq_eq_true h'.1, teq_eq (a := a) (b := b) h'.2]
  | .pr a b, .pr c d, h => by
    have h' : (teq a c && teq b d) = true := h
    rw [Bool.and_eq_true] at h'
    rw [teq_eq (a := a) (b := c) h'.1, teq_eq (a := b) (b := d) h'.2]
def castD {t : Ty} (t' : Ty) (x : t.D) : Option t'.D :=
  if h : teq t t' = true then some (Eq.mp (congrArg Ty.D (teq_eq h)) x) else none
def zeroD : (t : Ty) → t.D
  | .int _ => (0 : Int)
  | .bool => false
  | .str => ([] : List Int)
  | .flo _ => (0 : Nat)
  | .err => false
  | .un => ()
  | .sl _ => List.nil
  | .arr n e => List.replicate n (zeroD e)
  | .pr a b => (zeroD a, zeroD b)
/-- The cells of a type's zero value. -/
def zeroC : Ty → List Value → Bool
  | .int k, [.int k' n] => ikEq k k' && (match n with | .ofNat 0 => true | _ => false)
  | .bool, [.bool false] => true
  | .str, [.string s] => Nat.beq s.size 0
  | .flo k, [.float k' n] => fkEq k k' && Nat.beq n 0
  | .err, [.nilIface] => true
  | .un, [] => true
  | .sl _, [.slice none 0 0] => true
  | .arr n e, cs => Nat.beq cs.length (n * e.size) && (List.range n).all fun i => zeroC e ((cs.drop (i * e.size)).take e.size)
  | .pr a b, cs => zeroC a (cs.take a.size) && zeroC b (cs.drop a.size)
  | _, _ => false

/-! ### leaves: what a struct falls into -/
inductive Tok where
  | zero | op (d j : Nat) | hd (d j : Nat)
def tokEq : Tok → Tok → Bool
  | .zero, .zero => true
  | .op a b, .op c d => Nat.beq a c && Nat.beq b d
  | .hd a b, .hd c d => Nat.beq a c && Nat.beq b d
  | _, _ => false
inductive Leaf where
  | d (t : Ty) (x : t.D)
  | own (k : Tok) (E : TypeId) (e : Ty) (l : List e.D)
inductive LT where
  | d (t : Ty)
  | own (E : TypeId) (e : Ty)
  | row (e : Ty)
def LT.ty : LT → Ty
  | .d t => t
  | .own _ e => .sl e
  | .row e => .sl e
def LT.noRow : LT → Bool
  | .row _ => false
  | _ => true
def LT.size (t : LT) : Nat := t.ty.size
def Leaf.ty : Leaf → Ty
  | .d t _ => t
  | .own _ _ e _ => .sl e
def Leaf.size (l : Leaf) : Nat := l.ty.size
def Leaf.tok : Leaf → Tok
  | .d _ _ => .zero
  | .own k _ _ _ => k
def sizeLs : List Leaf → Nat
  | [] => 0
  | l :: ls => l.size + sizeLs ls
def sizeTs : List LT → Nat
  | [] => 0
  | l :: ls => l.size + sizeTs ls
def flat : (t : Ty) → t.D → List Leaf
  | .pr a b, x => flat a x.1 ++ flat b x.2
  | .un, _ => []
  | .int k, x => [.d (.int k) x]
  | .bool, x => [.d .bool x]
  | .str, x => [.d .str x]
  | .flo k, x => [.d (.flo k) x]
  | .err, x => [.d .err x]
  | .sl e, x => [.d (.sl e) x]
  | .arr n e, x => [.d (.arr n e) x]
def leafD (t : Ty) : Leaf → Option t.D
  | .d _ x => castD t x
  | .own _ _ e l => castD (t := .sl e) t l
def unflat : (t : Ty) → List Leaf → Option (t.D × List Leaf)
  | .pr a b, ls => (unflat a ls).bind fun p => (unflat b p.2).map fun q => ((p.1, q.1), q.2)
  | .un, ls => some ((), ls)
  | .int k, l :: ls => (leafD (.int k) l).map fun x => (x, ls)
  | .bool, l :: ls => (leafD .bool l).map fun x => (x, ls)
  | .str, l :: ls => (leafD .str l).map fun x => (x, ls)
  | .flo k, l :: ls => (leafD (.flo k) l).map fun x => (x, ls)
  | .err, l :: ls => (leafD .err l).map fun x => (x, ls)
  | .sl e, l :: ls => (leafD (.sl e) l).map fun x => (x, ls)
  | .arr n e, l :: ls => (leafD (.arr n e) l).map fun x => (x, ls)
  | _, [] => none
def unflatAll (t : Ty) (ls : List Leaf) : Option t.D := (unflat t ls).bind fun p => match p.2 with | [] => some p.1 | _ => none
def prs : List Ty → Ty
  | [] => .un
  | [t] => t
  | t :: u :: ts => .pr t (prs (u :: ts))
/-- The leaves, cut at a cell. -/
def splitLs : List Leaf → Nat → Option (List Leaf × List Leaf)
  | ls, 0 => some ([], ls)
  | [], _ + 1 => none
  | l :: ls, n + 1 => match Nat.ble l.size (n + 1) with
    | true => (splitLs ls (n + 1 - l.size)).map fun p => (l :: p.1, p.2)
    | false => none

/-! ### the program's types -/
def catO {α : Type} : List (Option (List α)) → Option (List α)
  | [] => some []
  | none :: _ => none
  | some l :: r => match catO r with | none => none | some l' => some (l ++ l')
def prsO : List (Option Ty) → Option (List Ty)
  | [] => some []
  | none :: _ => none
  | some t :: r => match prsO r with | none => none | some l => some (t :: l)
def tyOf (P : Program) : Nat → TypeId → Option Ty
  | 0, _ => none
  | n + 1, t => match P.underlying t with
    | some .bool => some .bool
    | some (.int k) => some (.int k)
    | some (.float k) => some (.flo k)
    | some .string => some .str
    | some (.interface _) => some .err
    | some (.slice e) => (tyOf P n e).map .sl
    | some (.array m e) => (tyOf P n e).map (.arr m)
    | some (.struct fs) => (prsO (fs.toList.map fun f => tyOf P n f.type)).map prs
    | _ => none
def leafTys (P : Program) : Nat → TypeId → Option (List LT)
  | 0, _ => none
  | n + 1, t => match P.underlying t with
    | some (.slice e) => (tyOf P n e).map fun x => [.own e x]
    | some (.struct fs) => catO (fs.toList.map fun f => leafTys P n f.type)
    | some _ => (tyOf P (n + 1) t).map fun x => [.d x]
    | none => none
def deep : Nat := 40
def isAg (P : Program) (t : TypeId) : Bool :=
  match P.underlying t with
  | some (.struct _) | some (.array _ _) => true
  | _ => false
def sizeT (P : Program) (t : TypeId) : Option Nat := match P.info? t with | some i => some i.size | none => none
def bytesT (P : Program) (t : TypeId) : Option Nat := match P.info? t with | some i => some i.bytes | none => none
def zeroLs : List LT → List Leaf
  | [] => []
  | .d t :: r => .d t (zeroD t) :: zeroLs r
  | .own E e :: r => .own .zero E e [] :: zeroLs r
  | .row e :: r => .d (.sl e) (zeroD (.sl e)) :: zeroLs r
def zeroTs : List LT → List Value → Bool
  | [], [] => true
  | [], _ => false
  | t :: r, cs => zeroC t.ty (cs.take t.size) && zeroTs r (cs.drop t.size)

/-! ### values and states -/
inductive PV where
  | w (ag : Bool) (ls : List Leaf)
  | tup (xs : List (Bool × List Leaf))
  | loc (k off : Nat)
  | locE (k off : Nat) (e : Ty) (j : Int) (s : Nat)
  | row (k n : Nat) (t : Bool)
  | elem (ls : List Leaf)
  | raw (v : Value)
  | spec (t : Nat) (want : Bool) (ag : Bool) (ls : List Leaf)
  | dead
structure PSt where
  φ : Nat → PV
  L : Nat → Option (Nat × List Leaf)
  O : Tok → Bool
  kn : List (Nat × Bool)
  sp : List Nat
  fr : List Nat
def pint (k : IntKind) (n : Int) : PV := .w false [.d (.int k) n]
def pbool (b : Bool) : PV := .w false [.d .bool b]
def pstr (l : List Int) : PV := .w false [.d .str l]
def perr (b : Bool) : PV := .w false [.d .err b]
def byteI (c : UInt8) : Int := (c.toNat : Int)
def bytesL (s : ByteArray) : List Int := s.data.toList.map byteI
def hasN (l : List Nat) (n : Nat) : Bool := l.any (Nat.beq n)
def bEq : Bool → Bool → Bool
  | true, true | false, false => true
  | _, _ => false
def constPV : Value → PV
  | .int k n => match (Lit.int k n).wf with | true => pint k n | false => .dead
  | .bool b => pbool b
  | .float k q => .w false [.d (.flo k) q]
  | .string s => match Nat.ble s.size maxLen with | true => pstr (bytesL s) | false => .dead
  | v => .raw v
def evS (φ : Nat → PV) : Operand → PV
  | .tmp t => φ t
  | .const v => constPV v
  | .global g => .raw (.pointer (some ⟨g, 0, none⟩))
  | .func f => .raw (.func (.func f) #[] #[])
def knows : List (Nat × Bool) → Nat → Option Bool
  | [], _ => none
  | (j, b) :: r, t => match Nat.beq j t with | true => some b | false => knows r t
def knB (kn : List (Nat × Bool)) (x : Operand) (p : PV) : PV :=
  match p with
  | .w false [.d .bool b] => match x with
    | .tmp t => match knows kn t with | some b' => pbool b' | none => pbool b
    | _ => pbool b
  | p => p
def evK (kn : List (Nat × Bool)) (φ : Nat → PV) (x : Operand) : PV :=
  match evS φ x with
  | .spec j want ag ls => match knows kn j with
    | some b => match bEq b want with | true => knB kn x (.w ag ls) | false => .raw undef
    | none => .dead
  | p => knB kn x p
theorem knB_congr {kn kn' : List (Nat × Bool)} {x : Operand} {p : PV} (h : ∀ t, x = .tmp t → knows kn' t = knows kn t) : knB kn' x p = knB kn x p := by
  unfold knB
  split
  · split
    · rename_i t; rw [h t rfl]
    · rfl
  · rfl
theorem knB_none {kn : List (Nat × Bool)} {t : Nat} {p : PV} {b : Bool} (h : knB kn (.tmp t) p = .w false [.d .bool b]) (hk : knows kn t = none) : p = .w false [.d .bool b] := by
  unfold knB at h
  split at h
  · dsimp only at h
    rw [hk] at h
    exact h
  · exact h
theorem knB_nospec {kn : List (Nat × Bool)} {x : Operand} {p : PV} {t : Nat} {want ag : Bool} {ls : List Leaf} (h : p ≠ .spec t want ag ls) : knB kn x p ≠ .spec t want ag ls := by
  unfold knB
  split
  · split
    · split <;> (intro e; cases e)
    · intro e; cases e
  · exact h
structure Upd where
  val : PV
  loc : List (Nat × List Leaf)
  born : List Tok
  gone : List Tok
def Upd.v (p : PV) : Upd := ⟨p, [], [], []⟩
def hasT (l : List Tok) (t : Tok) : Bool := l.any (tokEq t)
def putP (φ : Nat → PV) (d : Option Nat) (p : PV) : Nat → PV :=
  match d with
  | none => φ
  | some d => fun i => match Nat.beq i d with | true => p | false => φ i
def putL (L : Nat → Option (Nat × List Leaf)) : List (Nat × List Leaf) → Nat → Option (Nat × List Leaf)
  | [] => L
  | (k, ls) :: r => fun i => match Nat.beq i k with | true => some (0, ls) | false => putL L r i
def putO (O : Tok → Bool) (born gone : List Tok) : Tok → Bool := fun t => match hasT born t with
  | true => true
  | false => match hasT gone t with | true => false | false => O t
def outN (d : Option Nat) (l : List Nat) : List Nat := match d with
  | none => l
  | some d => l.filter fun x => !(Nat.beq x d)
def applyU (u : Upd) (d : Option Nat) (st : PSt) : PSt := ⟨putP st.φ d u.val, putL st.L u.loc, putO st.O u.born u.gone, st.kn, st.sp, outN d st.fr⟩

/-! ### functions -/
inductive Par where
  | v (ag : Bool) (ts : List LT)
  | m (ts : List LT)
def Par.ts : Par → List LT
  | .v _ ts => ts
  | .m ts => ts
def insT : List Ty → Type → Type
  | [], α => α
  | t :: ts, α => t.D → insT ts α
def parsT (ps : List Par) : List LT := ps.flatMap Par.ts
def inoutT : List Par → List LT
  | [] => []
  | .v _ _ :: r => inoutT r
  | .m ts :: r => ts ++ inoutT r
structure Sig where
  ps : List Par
  rs : List (Bool × List LT)
def Sig.outs (s : Sig) : List LT := s.rs.flatMap (·.2) ++ inoutT s.ps
def Sig.out (s : Sig) : Ty := prs (s.outs.map LT.ty)
structure Sig.Fn (s : Sig) where
  f : insT ((parsT s.ps).map LT.ty) (Option s.out.D)
structure Env where
  P : Program
  fns : List (FuncId × (s : Sig) × s.Fn)
  rows : List Nat
def findF : List (FuncId × (s : Sig) × s.Fn) → FuncId → Option ((s : Sig) × s.Fn)
  | [], _ => none
  | (g, x) :: r, f => match Nat.beq g f with | true => some x | false => findF r f
/-- Leaves taken as a list of types says; the tokens of what is owned. -/
def takeLeaf (O : Tok → Bool) : (t : LT) → Leaf → Option (t.ty.D × Tok)
  | .d t, l => (leafD t l).map fun x => (x, .zero)
  | .own E e, .own k E' _ l => match Nat.beq E E' && O k with
    | true => (castD (t := .sl _) (.sl e) l).map fun x => (x, k)
    | false => none
  | .own _ _, .d _ _ => none
  | .row e, .d (.arr _ e') l => (castD (t := .sl e') (.sl e) l).map fun x => (x, .zero)
  | .row _, _ => none
def takeAll (O : Tok → Bool) : List LT → List Leaf → Option (List Tok × List ((t : Ty) × t.D))
  | [], [] => some ([], [])
  | t :: ts, l :: ls => match takeLeaf O t l, takeAll O ts ls with
    | some (x, k), some (ks, xs) => some (k :: ks, ⟨t.ty, x⟩ :: xs)
    | _, _ => none
  | _, _ => none
/-- As takeAll, where rows of one's own are not let out. -/
def takeAllN (O : Tok → Bool) (ts : List LT) (ls : List Leaf) : Option (List Tok × List ((t : Ty) × t.D)) := match ts.all LT.noRow with | true => takeAll O ts ls | false => none
def distinctT : List Tok → Bool
  | [] => true
  | .zero :: r => distinctT r
  | t :: r => !(hasT r t) && distinctT r
/-- A list of data as one. -/
def packD : (ts : List Ty) → List ((t : Ty) × t.D) → Option (prs ts).D
  | [], [] => some ()
  | [t], [x] => castD t x.2
  | t :: u :: ts, x :: xs => match castD t x.2, packD (u :: ts) xs with
    | some a, some b => some (a, b)
    | _, _ => none
  | _, _ => none
def unpackD : (ts : List Ty) → (prs ts).D → List ((t : Ty) × t.D)
  | [], _ => []
  | [t], x => [⟨t, x⟩]
  | t :: u :: ts, x => ⟨t, x.1⟩ :: unpackD (u :: ts) x.2
def appF {α : Type} : (ts : List Ty) → insT ts (Option α) → List ((t : Ty) × t.D) → Option α
  | [], f, [] => f
  | t :: ts, f, x :: xs => match castD t x.2 with | some a => appF ts (f a) xs | none => none
  | _, _, _ => none
/-- Leaves of given types, their owned ones under the tokens 'lab'. -/
def mkLs (lab : Nat → Tok) : List LT → Nat → List ((t : Ty) × t.D) → Option (List Leaf)
  | [], _, [] => some []
  | .d t :: ts, j, x :: xs => match castD t x.2, mkLs lab ts (j + 1) xs with
    | some a, some r => some (.d t a :: r)
    | _, _ => none
  | .own E e :: ts, j, x :: xs => match castD (.sl e) x.2, mkLs lab ts (j + 1) xs with
    | some a, some r => some (.own (lab j) E e a :: r)
    | _, _ => none
  | .row e :: ts, j, x :: xs => match castD (.sl e) x.2, mkLs lab ts (j + 1) xs with
    | some a, some r => some (.d (.arr (List.length (α := e.D) a) e) a :: r)
    | _, _ => none
  | _, _, _ => none
def labs (lab : Nat → Tok) : List LT → Nat → List Tok
  | [], _ => []
  | .d _ :: ts, j => labs lab ts (j + 1)
  | .own _ _ :: ts, j => lab j :: labs lab ts (j + 1)
  | .row _ :: ts, j => labs lab ts (j + 1)
/-- The data cut into pieces of these lengths. -/
def cutN {α : Type} : List Nat → List α → List (List α)
  | [], _ => []
  | n :: ns, l => l.take n :: cutN ns (l.drop n)

/-! ### operations -/
section
variable {R : Type}
def eqI (x y : Int) : Bool := x == y
def eqL (x y : List Int) : Bool := x == y
def minI (a b : Int) : Int := cond (decide (b < a)) b a
def maxI (a b : Int) : Int := cond (decide (b > a)) b a
def negI (k : IntKind) (x : Int) : Int := k.wrap (0 - x)
def chk (b : Bool) (r : Option R) : Option R := cond b r none
def getI {α : Type} (l : List α) (j : Int) : Option α := cond (decide (0 ≤ j)) l[j.toNat]? none
def cutI {α : Type} (l : List α) (lo hi : Int) : Option (List α) := cond (decide (0 ≤ lo) && decide (lo ≤ hi) && decide (hi ≤ (l.length : Int))) (some ((l.take hi.toNat).drop lo.toNat)) none
def lessL : List Int → List Int → Bool
  | _, [] => false
  | [], _ :: _ => true
  | a :: x, b :: y => decide (a < b) || (a == b && lessL x y)
def slP : PV → Option ((e : Ty) × List e.D)
  | .w false [.d (.sl e) l] => some ⟨e, l⟩
  | .w false [.own _ _ e l] => some ⟨e, l⟩
  | _ => none
def strP : PV → Option (List Int)
  | .w false [.d .str l] => some l
  | _ => none
def intP : PV → Option Int
  | .w false [.d (.int _) n] => some n
  | _ => none
/-- A value of the given type: a nil that stands bare gets its type. -/
def norm (P : Program) (ty : TypeId) (p : PV) : PV :=
  match p with
  | .raw (.slice none 0 0) => match leafTys P deep ty with | some [.own E e] => .w false [.own .zero E e []] | _ => p
  | .raw .nilIface => match P.underlying ty with | some (.interface _) => perr false | _ => p
  | p => p
def valP : PV → Option (Bool × List Leaf)
  | .w ag ls => some (ag, ls)
  | _ => none
def okPV : PV → Bool
  | .spec _ _ _ _ | .dead => false
  | _ => true
def binI (op : BinOp) (k : IntKind) (x y : Int) (C : PV → Option R) : Option R :=
  match op with
  | .add => C (pint k (k.wrap (x + y)))
  | .sub => C (pint k (k.wrap (x - y)))
  | .mul => C (pint k (k.wrap (x * y)))
  | .quo => chk (y != 0) (C (pint k (k.wrap (x.tdiv y))))
  | .rem => chk (y != 0) (C (pint k (x.tmod y)))
  | .and => C (pint k (bits .and k x y))
  | .or => C (pint k (bits .or k x y))
  | .xor => C (pint k (bits .xor k x y))
  | .andNot => C (pint k (bits .andNot k x y))
  | .eql => C (pbool (x == y))
  | .neq => C (pbool (x != y))
  | .lss => C (pbool (decide (x < y)))
  | .leq => C (pbool (decide (x ≤ y)))
  | .gtr => C (pbool (decide (x > y)))
  | .geq => C (pbool (decide (x ≥ y)))
  | _ => none
def shI (op : BinOp) (k : IntKind) (x y : Int) (C : PV → Option R) : Option R :=
  match op with
  | .shl => chk (decide (0 ≤ y)) (C (pint k (k.wrap (x * 2 ^ min y.toNat k.bits))))
  | .shr => chk (decide (0 ≤ y)) (C (pint k (x.fdiv (2 ^ min y.toNat k.bits))))
  | _ => none
def binS (op : BinOp) (x y : List Int) (C : PV → Option R) : Option R :=
  match op with
  | .add => chk (Nat.ble (x.length + y.length) maxLen) (C (pstr (x ++ y)))
  | .eql => C (pbool (x == y))
  | .neq => C (pbool (!(x == y)))
  | .lss => C (pbool (lessL x y))
  | .leq => C (pbool (lessL x y || x == y))
  | .gtr => C (pbool (!(lessL x y || x == y)))
  | .geq => C (pbool (!(lessL x y)))
  | _ => none
def binP (op : BinOp) (a b : PV) (C : PV → Option R) : Option R :=
  match a, b with
  | .w false [.d (.int k) x], .w false [.d (.int k') y] => match op with
    | .shl | .shr => shI op k x y C
    | op => match ikEq k k' with | true => binI op k x y C | false => none
  | .w false [.d .str x], .w false [.d .str y] => binS op x y C
  | _, _ => none
def unP (op : UnOp) (a : PV) : Option PV :=
  match op, a with
  | .not, .w false [.d .bool b] => some (pbool (!b))
  | .neg, .w false [.d (.int k) x] => some (pint k (negI k x))
  | .xor, .w false [.d (.int k) x] => some (pint k (bits .xor k (cond k.signed (-1) k.max) x))
  | _, _ => none
def isConst : Operand → Bool
  | .const _ => true
  | _ => false
def notB (b : Bool) : Bool := !b
/-- Where a struct's field begins, in cells; how many cells it has. -/
def fieldAt (P : Program) (s : TypeId) (f : Nat) : Option (Nat × TypeId) :=
  match P.underlying s with
  | some (.struct fs) => match fs[f]? with
    | some x => match P.info? x.type with
      | some i => match i.size with | 0 => none | _ => some (x.offset, x.type)
      | none => none
    | none => none
  | _ => none
/-- The leaves of a value of the type t at the head of ls. -/
def headLs (P : Program) (t : TypeId) (ls : List Leaf) : Option (List Leaf) :=
  match sizeT P t with
  | some n => match splitLs ls n with
    | some (a, _) => match isAg P t, a with
      | true, a => some a
      | false, [l] => match Nat.beq l.size 1 with | true => some [l] | false => none
      | _, _ => none
    | none => none
  | none => none
def atLs (P : Program) (t : TypeId) (ls : List Leaf) (off : Nat) : Option (List Leaf) :=
  match splitLs ls off with
  | some (_, b) => headLs P t b
  | none => none
/-- '==' by the type, field by field. -/
def eqFs (P : Program) (f : TypeId → List Leaf → List Leaf → Option Bool) (xs ys : List Leaf) : List Field → Option Bool
  | [] => some true
  | fd :: fs => match fd.name == "_" with
    | true => eqFs P f xs ys fs
    | false => match atLs P fd.type xs fd.offset, atLs P fd.type ys fd.offset with
      | some a, some b => match f fd.type a b, eqFs P f xs ys fs with
        | some r, some q => some (r && q)
        | _, _ => none
      | _, _ => none
def eqT (P : Program) : Nat → TypeId → List Leaf → List Leaf → Option Bool
  | 0, _, _, _ => none
  | n + 1, t, xs, ys => match P.underlying t with
    | some (.int _) => match xs, ys with
      | [.d (.int k) x], [.d (.int k') y] => match ikEq k k' with | true => some (eqI x y) | false => none
      | _, _ => none
    | some .bool => match xs, ys with
      | [.d .bool x], [.d .bool y] => some (bEq x y)
      | _, _ => none
    | some .string => match xs, ys with
      | [.d .str x], [.d .str y] => some (eqL x y)
      | _, _ => none
    | some (.struct fs) => match P.stoodInHeld t with
      | true => none
      | false => eqFs P (eqT P n) xs ys fs.toList
    | _ => none
def leafSizes (ls : List Leaf) : List Nat := ls.map Leaf.size
/-- New leaves laid over old ones, at a cell. -/
def overLs (ls : List Leaf) (off : Nat) (vs : List Leaf) : Option (List Leaf) :=
  match splitLs ls off with
  | some (a, b) => match splitLs b (sizeLs vs) with
    | some (_, c) => some (a ++ vs ++ c)
    | none => none
  | none => none
def eqSizes : List Nat → List Nat → Bool
  | [], [] => true
  | a :: r, b :: s => Nat.beq a b && eqSizes r s
  | _, _ => false
/-- The one leaf that begins at a cell. -/
def oneAt (ls : List Leaf) (off : Nat) : Option Leaf :=
  match splitLs ls off with
  | some (_, l :: _) => some l
  | _ => none
def boundP (ev : Operand → PV) (x : Option Operand) (d : Int) : Option Int :=
  match x with
  | none => some d
  | some y => intP (ev y)
/-- Parts of a struct laid over its zero. -/
def buildLs (P : Program) (t : TypeId) (ev : Operand → PV) : List (Nat × Operand) → List Leaf → Option (List Leaf)
  | [], ls => some ls
  | (i, x) :: r, ls => match fieldAt P t i with
    | some (off, ft) => match valP (norm P ft (ev x)) with
      | some (_, vs) => match sizeT P ft with
        | some n => match Nat.beq n (sizeLs vs) with
          | true => match overLs ls off vs with
            | some ls' => buildLs P t ev r ls'
            | none => none
          | false => none
        | none => none
      | none => none
    | none => none
/-- The elements of a literal, each given once, in order. -/
def partsD (P : Program) (e : TypeId) (t : Ty) (ev : Operand → PV) : List (Nat × Operand) → Nat → Option (List t.D)
  | [], _ => some []
  | (i, x) :: r, n => match Nat.beq i n with
    | true => match valP (norm P e (ev x)), partsD P e t ev r (n + 1) with
      | some (_, vs), some l => match unflatAll t vs with | some a => some (a :: l) | none => none
      | _, _ => none
    | false => none
def tokD (o : Option Nat) (j : Nat) : Tok := match o with | some d => .op d j | none => .zero
def newDst (o : Option Nat) (fr : List Nat) : Bool := match o with | some d => hasN fr d | none => false
/-- What is appended: a slice, or a string's bytes. -/
def tailP (e : Ty) (p : PV) : Option (List e.D) :=
  match strP p with
  | some l => castD (t := .sl (.int .u8)) (.sl e) l
  | none => match slP p with
    | some ⟨e', l⟩ => castD (t := .sl e') (.sl e) l
    | none => match p with
      | .raw (.slice none 0 0) => some []
      | _ => none
def gone1 : Tok → List Tok
  | .zero => []
  | t => [t]
/-- A row that is owned, and not empty. -/
def ownNow (O : Tok → Bool) : PV → Option (Tok × (e : Ty) × List e.D)
  | .w false [.own k _ e l] => match O k && Nat.blt 0 l.length with | true => some ⟨k, e, l⟩ | false => none
  | _ => none
/-- The arguments of a call: leaves in order, and which locals are lent. -/
def argP (st : PSt) : Par → PV → Option (List Leaf × List (Nat × Nat))
  | .v ag ts, .w ag' ls => match bEq ag ag' && Nat.beq ls.length ts.length with | true => some (ls, []) | false => none
  | .m ts, .loc k off => match st.L k with
    | some (_, ls) => match Nat.beq off 0 && Nat.beq ls.length ts.length with | true => some (ls, [(k, ls.length)]) | false => none
    | none => none
  | _, _ => none
def argN (P : Program) (ts : List TypeId) (p : PV) : PV := match ts with | t :: _ => norm P t p | [] => p
def argsP (P : Program) (st : PSt) (ev : Operand → PV) : List Par → List Operand → List TypeId → Option (List Leaf × List (Nat × Nat))
  | [], [], _ => some ([], [])
  | p :: ps, x :: xs, ts => match argP st p (argN P ts (ev x)), argsP P st ev ps xs ts.tail with
    | some (a, m), some (b, n) => some (a ++ b, m ++ n)
    | _, _ => none
  | _, _, _ => none
def distinctK : List (Nat × Nat) → Bool
  | [] => true
  | (k, _) :: r => !(hasN (r.map (·.1)) k) && distinctK r
def resP (rs : List (Bool × List LT)) (ls : List Leaf) : PV :=
  match rs with
  | [(ag, ts)] => .w ag (ls.take ts.length)
  | rs => .tup ((rs.map (·.1)).zip (cutN (rs.map (·.2.length)) ls))
def locsOut : List (Nat × Nat) → List Leaf → List (Nat × List Leaf)
  | [], _ => []
  | (k, n) :: r, ls => (k, ls.take n) :: locsOut r (ls.drop n)
def callP (E : Env) (s : Sig) (f : s.Fn) (dst : Option Nat) (args : List Operand) (ats : List TypeId) (st : PSt) (ev : Operand → PV) (C : Upd → Option R) : Option R :=
  match argsP E.P st ev s.ps args ats with
  | some (ls, ms) => match takeAll st.O (parsT s.ps) ls with
    | some (ks, xs) => match distinctT ks && distinctK ms && newDst dst st.fr with
      | true => (appF ((parsT s.ps).map LT.ty) f.f xs).bind fun y =>
        match mkLs (tokD dst) s.outs 0 (unpackD (s.outs.map LT.ty) y) with
        | some os => C ⟨resP s.rs os, locsOut ms (os.drop (s.rs.flatMap (·.2)).length), labs (tokD dst) s.outs 0, ks.flatMap gone1⟩
        | none => none
      | false => none
    | none => none
  | none => none
/-- A result that is a row of the call's own, taken as a row that one may store to. -/
def rowC (E : Env) (dst : Option Nat) (fr : List Nat) (C : Upd → Option R) (u : Upd) : Option R :=
  match dst with
  | some d => match hasN E.rows d with
    | true => match u.val, u.loc, u.gone with
      | .w false [.own k _ (.int q) l], [], [] => chk (hasN fr d && hasT u.born k && Nat.blt 0 (List.length (α := Int) l)) (C ⟨.row d (List.length (α := Int) l) false, [(d, [.d (.arr (List.length (α := Int) l) (.int q)) l])], [], []⟩)
      | _, _, _ => none
    | false => C u
  | none => C u
/-- A row that is made, taken as a row that one may store to; tight: it has no room behind its end. -/
def sameOp : Operand → Operand → Bool
  | .tmp i, .tmp j => Nat.beq i j
  | _, _ => false
def rowM (E : Env) (dst : Option Nat) (fr : List Nat) (tt : Bool) (C : Upd → Option R) (u : Upd) : Option R :=
  match dst with
  | some d => match hasN E.rows d with
    | true => match u.val, u.loc, u.gone with
      | .w false [.own k _ (.int q) l], [], [] => chk (hasN fr d && hasT u.born k) (C ⟨.row d (List.length (α := Int) l) tt, [(d, [.d (.arr (List.length (α := Int) l) (.int q)) l])], [], []⟩)
      | _, _, _ => none
    | false => C u
  | none => C u
/-- Rows that one may store to, lent to a call: what comes back must not look into them. -/
def rowKeys (ev : Operand → PV) (args : List Operand) : List Nat := args.flatMap fun x => match ev x with | .row k _ _ => [k] | _ => []
def lendRow (b : Bool) (K : List Nat) (L : Nat → Option (Nat × List Leaf)) (k n : Nat) (t : Bool) : PV := match hasN K k with
  | true => match b, L k with
    | true, some (_, [.d (.arr _ (.int q)) l]) => .w false [.d (.sl (.int q)) (List.take (α := Int) n l)]
    | _, _ => .dead
  | false => .row k n t
def keepKey (K : List Nat) (k : Nat) (p : PV) : PV := match hasN K k with | true => .dead | false => p
def lendPV (b : Bool) (K : List Nat) (L : Nat → Option (Nat × List Leaf)) (p : PV) : PV := match p with
  | .row k n t => lendRow b K L k n t
  | .loc k f => keepKey K k (.loc k f)
  | .locE k f e j s => keepKey K k (.locE k f e j s)
  | p => p
def lendX (K ts : List Nat) (L : Nat → Option (Nat × List Leaf)) (x : Operand) (p : PV) : PV := match x with
  | .tmp t => lendPV (hasN ts t) K L p
  | _ => p
def tmpsOf (args : List Operand) : List Nat := args.filterMap fun x => match x with | .tmp t => some t | _ => none
def rowOk (L : Nat → Option (Nat × List Leaf)) (p : PV) : Bool := match p with
  | .row k n _ => match L k with
    | some (_, [.d (.arr _ (.int _)) l]) => Nat.ble n (List.length (α := Int) l)
    | _ => true
  | _ => true
def lendSt (K ts : List Nat) (st : PSt) : PSt := ⟨fun i => lendPV (hasN ts i) K st.L (st.φ i), fun k => match hasN K k with | true => (match st.L k with | some _ => some (0, []) | none => none) | false => st.L k, st.O, st.kn, st.sp, st.fr⟩
def flatT : Ty → Bool
  | .sl _ => false
  | .arr _ e => flatT e
  | .pr a b => flatT a && flatT b
  | _ => true
def flatL (born : List Tok) : Leaf → Bool
  | .d t _ => flatT t
  | .own k _ e _ => flatT e && hasT born k
def lendC (C : Upd → Option R) (u : Upd) : Option R :=
  match u.val, u.loc with
  | .w _ ls, [] => match ls.all (flatL u.born) with | true => C u | false => none
  | .tup xs, [] => match xs.all (fun x => x.2.all (flatL u.born)) with | true => C u | false => none
  | _, _ => none
def callL (E : Env) (s : Sig) (f : s.Fn) (dst : Option Nat) (args : List Operand) (ats : List TypeId) (st : PSt) (ev : Operand → PV) (C : Upd → Option R) : Option R :=
  match rowKeys ev args with
  | [] => callP E s f dst args ats st ev (rowC E dst st.fr C)
  | k :: K => chk (args.all fun x => rowOk st.L (ev x)) (callP E s f dst args ats (lendSt (k :: K) (tmpsOf args) st) (fun x => lendX (k :: K) (tmpsOf args) st.L x (ev x)) (lendC (rowC E dst st.fr C)))
/-- bits.Add64, which has no body. -/
def isAdd (fn : Func) : Bool := fn.name == "math/bits.Add64" && fn.origin == "" && fn.body.isNone
def addP (x y z : Int) (C : Upd → Option R) : Option R := chk (z == 0) (C (Upd.v (.tup [(false, [.d (.int .u64) (((x + y) % 18446744073709551616 : Int))]), (false, [.d (.int .u64) (((x + y) / 18446744073709551616 : Int))])])))
def extP (fn : Func) (ps : List PV) (C : Upd → Option R) : Option R :=
  match isAdd fn, ps with
  | true, [.w false [.d (.int .u64) x], .w false [.d (.int .u64) y], .w false [.d (.int .u64) z]] => addP x y z C
  | _, _ => none
def lenP (P : Program) (t : TypeId) (p : PV) : Option PV :=
  match P.underlying t with
  | some .string => match strP p with | some l => some (pint .i64 (l.length : Int)) | none => none
  | some (.slice _) => match p with
    | .row _ n _ => some (pint .i64 (n : Int))
    | p => match slP (norm P t p) with | some ⟨_, l⟩ => some (pint .i64 (l.length : Int)) | none => none
  | _ => none
def mmP (f : Int → Int → Int) (p q : PV) : Option PV :=
  match p, q with
  | .w false [.d (.int k) a], .w false [.d (.int k') b] => match ikEq k k' with
    | true => some (pint k (f a b))
    | false => none
  | _, _ => none
def isStrP : PV → Bool
  | .w false [.d .str _] => true
  | _ => false
def appP (P : Program) (o : Oper) (t u : TypeId) (st : PSt) (p q : PV) (C : Upd → Option R) : Option R :=
  match P.underlying t, o.dst with
  | some (.slice e), some d => match norm P t p, P.info? e with
    | .w false [.own k E ty l], some i => match Nat.beq E e && st.O k, i.zero, (match Nat.beq t u && !(isStrP q) with | true => tailP ty q | false => none) with
      | true, some z, some m => match Nat.beq i.size ty.size && Nat.blt 0 i.size && Nat.beq z.cells.size i.size with
        | true => chk (decide ((l.length + m.length) * i.bytes ≤ 140737488355328) && decide (l.length + m.length ≤ maxLen)) (C ⟨.w false [.own (.op d 0) e ty (l ++ m)], [], [.op d 0], gone1 k⟩)
        | false => none
      | _, _, _ => none
    | _, _ => none
  | _, _ => none
/-- What is appended to a row that has no room behind its end: a new row. -/
def appT (P : Program) (o : Oper) (t u : TypeId) (p q : PV) (C : Upd → Option R) : Option R :=
  match P.underlying t, o.dst with
  | some (.slice e), some d => match slP p, P.info? e with
    | some ⟨ty, l⟩, some i => match i.zero, (match Nat.beq t u && !(isStrP q) with | true => tailP ty q | false => none) with
      | some z, some m => match Nat.beq i.size ty.size && Nat.blt 0 i.size && Nat.beq z.cells.size i.size with
        | true => chk (Nat.blt 0 m.length && decide ((l.length + m.length) * i.bytes ≤ 140737488355328) && decide (l.length + m.length ≤ maxLen)) (C ⟨.w false [.own (.op d 0) e ty (l ++ m)], [], [.op d 0], []⟩)
        | false => none
      | _, _ => none
    | _, _ => none
  | _, _ => none
def isTight : PV → Bool
  | .row _ _ t => t
  | _ => false
def isRow : PV → Bool
  | .row _ _ _ => true
  | _ => false
def appL (P : Program) (o : Oper) (t u : TypeId) (st : PSt) (x y : Operand) (ev : Operand → PV) (C : Upd → Option R) : Option R :=
  match rowKeys ev [x, y] with
  | [] => appP P o t u st (ev x) (ev y) C
  | k :: K => chk (rowOk st.L (ev x) && rowOk st.L (ev y)) (match isRow (ev x) with
    | true => match isTight (ev x) with
      | true => appT P o t u (lendX (k :: K) (tmpsOf [x, y]) st.L x (ev x)) (lendX (k :: K) (tmpsOf [x, y]) st.L y (ev y)) (lendC C)
      | false => none
    | false => appP P o t u (lendSt (k :: K) (tmpsOf [x, y]) st) (lendX (k :: K) (tmpsOf [x, y]) st.L x (ev x)) (lendX (k :: K) (tmpsOf [x, y]) st.L y (ev y)) (lendC C))
def bltP (E : Env) (o : Oper) (b : Builtin) (args : List Operand) (ts : List TypeId) (st : PSt) (ev : Operand → PV) (C : Upd → Option R) : Option R :=
  match args, ts with
  | [x], [t] => match b with
    | .len => match lenP E.P t (ev x) with | some p => C (Upd.v p) | none => none
    | _ => none
  | [x, y], [t, u] => match b with
    | .min => match mmP minI (ev x) (ev y) with | some p => C (Upd.v p) | none => none
    | .max => match mmP maxI (ev x) (ev y) with | some p => C (Upd.v p) | none => none
    | .append => appL E.P o t u st x y ev C
    | _ => none
  | _, _ => none
def pvU (E : Env) (o : Oper) (st : PSt) (ev : Operand → PV) (C : Upd → Option R) : Option R :=
  let P := E.P
  let V := fun p => C (Upd.v p)
  match o.op with
  | .move x | .assign x => match norm P o.type (ev x) with
    | .dead => none
    | .spec _ _ _ _ => none
    | p => V p
  | .nilCheck x => match ev x with
    | .loc k f => V (.loc k f)
    | .locE k f e j s => V (.locE k f e j s)
    | .elem ls => V (.elem ls)
    | _ => none
  | .alloc t => match leafTys P deep t, P.info? t, o.dst with
    | some ts, some i, some d => match i.zero with
      | some z => match zeroTs ts z.cells.toList && hasN st.fr d with
        | true => C ⟨.loc d 0, [(d, zeroLs ts)], [], []⟩
        | false => none
      | none => none
    | _, _, _ => none
  | .box t x => match norm P t (ev x), o.dst with
    | .w _ ls, some d => match hasN st.fr d with
      | true => C ⟨.loc d 0, [(d, ls)], [], []⟩
      | false => none
    | _, _ => none
  | .load t x => if (P.underlying t).isSome = true then match ev x with
    | .loc k off => match st.L k with
      | some (_, ls) => match atLs P t ls off with | some vs => V (.w (isAg P t) vs) | none => none
      | none => none
    | .locE k off e j s => match st.L k with
      | some (_, ls) => match oneAt ls off with
        | some (.d (.arr _ e') l) => match teq e' e with
          | true => (getI l j).bind fun x => match atLs P t (flat e' x) s with | some vs => V (.w (isAg P t) vs) | none => none
          | false => none
        | _ => none
      | none => none
    | .elem ls => match headLs P t ls with | some vs => V (.w (isAg P t) vs) | none => none
    | _ => none
    else none
  | .store t x y => match ev x, valP (norm P t (ev y)), sizeT P t with
    | .loc k off, some (_, vs), some n => match st.L k, Nat.beq n (sizeLs vs) with
      | some (_, ls), true => match overLs ls off vs with | some ls' => C ⟨.raw undef, [(k, ls')], [], []⟩ | none => none
      | _, _ => none
    | .locE k off e j s, some (_, vs), some n => match st.L k, Nat.beq n (sizeLs vs) && Nat.beq n e.size && Nat.beq s 0 with
      | some (_, ls), true => match splitLs ls off with
        | some (p, .d (.arr m e') l :: q) => match teq e' e, unflatAll e' vs with
          | true, some x => chk (decide (j < (m : Int))) (C ⟨.raw undef, [(k, p ++ .d (.arr m e') (l.set j.toNat x) :: q)], [], []⟩)
          | _, _ => none
        | _ => none
      | _, _ => none
    | _, _, _ => none
  | .fieldAddr s x f => match fieldAt P s f with
    | some (fo, _) => match ev x with
      | .loc k off => V (.loc k (off + fo))
      | .locE k off e j s' => V (.locE k off e j (s' + fo))
      | .elem ls => match splitLs ls fo with | some (_, b) => V (.elem b) | none => none
      | _ => none
    | none => none
  | .indexAddr t x i => match P.underlying t, ev x, intP (ev i) with
    | some (.slice e), .row k n _, some j => match st.L k, sizeT P e with
      | some (_, ls), some sz => match oneAt ls 0 with
        | some (.d (.arr _ ty) _) => match Nat.beq sz ty.size with
          | true => chk (decide (0 ≤ j) && decide (j < (n : Int))) (V (.locE k 0 ty j 0))
          | false => none
        | _ => none
      | _, _ => none
    | some (.slice e), p, some j => match slP p, sizeT P e with
      | some ⟨ty, l⟩, some n => match Nat.beq n ty.size with
        | true => (getI l j).bind fun x => V (.elem (flat ty x))
        | false => none
      | _, _ => none
    | some (.array n e), .loc k off, some j => match st.L k, sizeT P e with
      | some (_, ls), some sz => match oneAt ls off with
        | some (.d (.arr m ty) _) => match Nat.beq m n && Nat.beq sz ty.size with
          | true => chk (decide (0 ≤ j) && decide (j < (n : Int))) (V (.locE k off ty j 0))
          | false => none
        | _ => none
      | _, _ => none
    | some (.array n e), .elem (.d (.arr m ty) l :: _), some j => match Nat.beq m n, sizeT P e with
      | true, some sz => match Nat.beq sz ty.size with
        | true => (getI l j).bind fun x => V (.elem (flat ty x))
        | false => none
      | _, _ => none
    | _, _, _ => none
  | .index t x i => match P.underlying t, ev x, intP (ev i) with
    | some .string, .w false [.d .str l], some j => (getI l j).bind fun c => V (pint .u8 c)
    | some (.array n e), .w true [.d (.arr m ty) l], some j => match Nat.beq m n, sizeT P e with
      | true, some sz => match Nat.beq sz ty.size && (P.underlying e).isSome with
        | true => (getI l j).bind fun x => match headLs P e (flat ty x) with | some vs => V (.w (isAg P e) vs) | none => none
        | false => none
      | _, _ => none
    | _, _, _ => none
  | .slice t x lo hi mx => match P.underlying t, mx with
    | some .string, none => match ev x with
      | .w false [.d .str l] => match boundP ev lo 0, boundP ev hi (l.length : Int) with
        | some a, some b => (cutI l a b).bind fun r => V (pstr r)
        | _, _ => none
      | _ => none
    | some (.slice e), none => match slP (ev x), sizeT P e with
      | some ⟨ty, l⟩, some n => match Nat.beq n ty.size, boundP ev lo 0, boundP ev hi (l.length : Int) with
        | true, some a, some b => (cutI l a b).bind fun r => V (.w false [.d (.sl ty) r])
        | _, _, _ => none
      | _, _ => none
    | some (.slice e), some m => match slP (ev x), boundP ev lo 0, hi.bind (fun y => intP (ev y)), intP (ev m) with
      | some ⟨ty, _⟩, some 0, some 0, some 0 => match sizeT P e with | some _ => V (.w false [.own .zero e ty []]) | none => none
      | _, _, _, _ => none
    | _, _ => none
  | .field s x f => match fieldAt P s f, ev x with
    | some (fo, ft), .w true ls => if (P.underlying ft).isSome = true then match atLs P ft ls fo with | some vs => V (.w (isAg P ft) vs) | none => none else none
    | _, _ => none
  | .extract x i => match ev x with
    | .tup xs => match xs[i]? with | some (ag, ls) => V (.w ag ls) | none => none
    | _ => none
  | .build t parts => match P.underlying t, leafTys P deep t, P.info? t with
    | some (.struct fs), some ts, some i => match i.zero with
      | some z => match zeroTs ts z.cells.toList && fs.toList.all (fun f => (P.info? f.type).isSome) with
        | true => match buildLs P t ev parts.toList (zeroLs ts) with | some ls => V (.w true ls) | none => none
        | false => none
      | none => none
    | some (.array n e), some [.d (.arr m ty)], some i => match i.zero with
      | some z => match zeroTs [.d (.arr m ty)] z.cells.toList, partsD P e ty ev parts.toList 0, sizeT P e with
        | true, some l, some sz => match Nat.beq l.length m && Nat.beq n m && Nat.beq sz ty.size with
          | true => match Nat.blt 0 sz with | true => V (.w true [.d (.arr m ty) l]) | false => none
          | false => none
        | _, _, _ => none
      | none => none
    | _, _, _ => none
  | .buildSlice t len parts => match P.underlying t, o.dst with
    | some (.slice e), some d => match tyOf P deep e, sizeT P e with
      | some ty, some n => match partsD P e ty ev parts.toList 0 with
        | some l => match Nat.beq l.length len && Nat.beq n ty.size && Nat.ble (len * n) (2 ^ 24) && Nat.blt 0 n && (match P.info? e with | some i => i.zero.isSome | none => false) with
          | true => C ⟨.w false [.own (.op d 0) e ty l], [], [.op d 0], []⟩
          | false => none
        | none => none
      | _, _ => none
    | _, _ => none
  | .makeSlice t n c => match P.underlying t, o.dst, intP (ev n), intP (ev c) with
    | some (.slice e), some d, some a, some b => match tyOf P deep e, P.info? e with
      | some ty, some i => match i.zero with
        | some z => match zeroC ty z.cells.toList && Nat.beq i.size ty.size && Nat.blt 0 i.size with
          | true => chk (decide (0 ≤ a) && decide (a ≤ b) && decide (b * i.bytes ≤ 140737488355328) && decide (b ≤ maxLen)) (rowM E o.dst st.fr (sameOp n c) C ⟨.w false [.own (.op d 0) e ty (List.replicate a.toNat (zeroD ty))], [], [.op d 0], []⟩)
          | false => none
        | none => none
      | _, _ => none
    | _, _, _, _ => none
  | .binOp op ty x y uy => match ev x, ev y with
    | .w true xs, .w true ys => match isAg P ty, P.eqGuardType P.depth ty, eqT P 20 ty xs ys with
      | true, false, some q => match op with
        | .eql => V (pbool q)
        | .neq => V (pbool (!q))
        | _ => none
      | _, _, _ => none
    | .w false [.d .err b], .raw .nilIface => match isConst y, P.underlying ty with
      | true, some (.interface _) => match op with
        | .eql => V (pbool (notB b))
        | .neq => V (pbool b)
        | _ => none
      | _, _ => none
    | .w false [.d .bool p], .w false [.d .bool q] => match P.underlying ty with
      | some .bool => match op with
        | .eql => V (pbool (bEq p q))
        | .neq => V (pbool (!(bEq p q)))
        | _ => none
      | _ => none
    | a, b => binP op a b V
  | .unOp op _ x => match unP op (ev x) with | some p => V p | none => none
  | .convert src dst x => match P.underlying src, P.underlying dst, ev x with
    | some (.int _), some (.int k), .w false [.d (.int _) n] => V (pint k (k.wrap n))
    | some .string, some .string, .w false [.d .str l] => V (pstr l)
    | some .string, some (.slice e), .w false [.d .str l] => match o.dst, P.underlying e with
      | some d, some (.int .u8) => match hasN E.rows d with
        | true => match hasN st.fr d with
          | true => C ⟨.row d l.length false, [(d, [.d (.arr l.length (.int .u8)) l])], [], []⟩
          | false => none
        | false => V (.w false [.d (.sl (.int .u8)) l])
      | _, _ => none
    | some (.slice _), some (.slice e), p => match Nat.beq src dst, P.underlying e, ownNow st.O p with
      | true, some (.int .u8), some ⟨k, e', l⟩ => C ⟨.w false [.d (.sl e') l], [], [], gone1 k⟩
      | _, _, _ => none
    | some (.slice e), some .string, .row k n _ => match P.underlying e, st.L k with
      | some (.int .u8), some (_, ls) => match oneAt ls 0 with
        | some (.d (.arr _ ty) l) => match castD (t := .sl ty) (.sl (.int .u8)) l with
          | some l' => chk (Nat.ble n (List.length l')) (V (pstr (List.take n l')))
          | none => none
        | _ => none
      | _, _ => none
    | some (.slice e), some .string, p => match P.underlying e, isStrP p, tailP (.int .u8) p with
      | some (.int .u8), false, some l => V (pstr l)
      | _, _, _ => none
    | _, _, _ => none
  | .call { callee := .builtin b, args, argTypes } => bltP E o b args.toList argTypes.toList st ev C
  | .call { callee := .value (.func f), args, argTypes } => match findF E.fns f, P.funcs[f]? with
    | some ⟨s, g⟩, some fn => match fn.body.isSome && !(fn.name == "runtime.NumGoroutine") with
      | true => callL E s g o.dst args.toList argTypes.toList st ev C
      | false => none
    | none, some fn => extP fn (args.toList.map ev) C
    | _, _ => none
  | _ => none
end
end Pv
end Go.Proofs.Ytgcgdfjldeihkaa
