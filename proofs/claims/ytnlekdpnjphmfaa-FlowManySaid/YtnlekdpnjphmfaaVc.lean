/- A verified generator of conditions over the model's code: definitions. Of the program nothing is said here. -/
import Derived.Orders
import Derived.Tactics
import Derived.Scope
import Derived.ScopeJumps
import Derived.Laws.Cells
import Derived.Laws.World
import Derived.RowKit3
namespace Go.Proofs.Ytnlekdpnjphmfaa
namespace Vc

/-! ### worlds with hidden blocks -/
def hole : Obj := .pending #[] 0
def isHole : Obj → Bool
  | .pending _ _ => true
  | _ => false
structure Vis (v w : World) : Prop where
  size : w.heap.size = v.heap.size
  os : w.os = v.os
  tape : w.tape = v.tape
  output : w.output = v.output
  block : ∀ (b : Nat) (o : Obj), v.heap[b]? = some o → isHole o = false → w.heap[b]? = some o
structure Keep (v w v' w' : World) : Prop where
  size : v.heap.size ≤ v'.heap.size
  os : w'.os = w.os
  tape : w'.tape = w.tape
  output : w'.output = w.output
  hole : ∀ (b : Nat) (o : Obj), v.heap[b]? = some o → isHole o = true → v'.heap[b]? = some o ∧ w'.heap[b]? = w.heap[b]?
def CallsV (P : Program) (f : FuncId) (args : Array Value) (v : World) (R : Value → World → Prop) : Prop :=
  ∀ w, Vis v w → Calls P f args w fun e w' => ∃ r v', e = .returned r ∧ Vis v' w' ∧ Keep v w v' w' ∧ R r v'
def Runs (P : Program) {α : Type} (s : Sem α) (v : World) (K : α → World → Prop) : Prop :=
  ∀ w, Vis v w → ∃ r w' v', s.run P w = .ok r w' ∧ Vis v' w' ∧ Keep v w v' w' ∧ K r v'
/-- A block for a local variable is laid: the condition's world shows a hole. -/
def hv (v : World) : World := v.alloc hole

/-! ### values by kind -/
inductive Kd where
  | int (k : IntKind) | bool | str | ptr | slice | float (k : FloatKind) | cplx (k : FloatKind) | any
def kfn : Kd → Type → Type
  | .int _, β => Int → β
  | .bool, β => Bool → β
  | .str, β => ByteArray → β
  | .ptr, β => Option Addr → β
  | .slice, β => Option Addr → Nat → Nat → β
  | .float _, β => Nat → β
  | .cplx _, β => Nat → Nat → β
  | .any, β => Value → β
def ikEq : IntKind → IntKind → Bool
  | .i8, .i8 | .i16, .i16 | .i32, .i32 | .i64, .i64 | .u8, .u8 | .u16, .u16 | .u32, .u32 | .u64, .u64 => true
  | _, _ => false
def fkEq : FloatKind → FloatKind → Bool
  | .f32, .f32 | .f64, .f64 => true
  | _, _ => false
def kapp {β γ : Type} (c : β → γ) (d : γ) : (k : Kd) → kfn k β → Value → γ
  | .int k, f, .int k' n => match ikEq k k' with | true => c (f n) | false => d
  | .bool, f, .bool b => c (f b)
  | .str, f, .string s => c (f s)
  | .ptr, f, .pointer a => c (f a)
  | .slice, f, .slice a n m => c (f a n m)
  | .float k, f, .float k' n => match fkEq k k' with | true => c (f n) | false => d
  | .cplx k, f, .complex k' n m => match fkEq k k' with | true => c (f n m) | false => d
  | .any, f, v => c (f v)
  | _, _, _ => d
def TF : List Kd → Type → Type
  | [], α => α
  | k :: ks, α => kfn k (TF ks α)
def appT {α : Type} (d : α) : (ks : List Kd) → TF ks α → List Value → α
  | [], f, [] => f
  | k :: ks, f, v :: vs => kapp (fun g => appT d ks g vs) d k f v
  | _, _, _ => d
def kall : Kd → (Value → Prop) → Prop
  | .int k, F => ∀ n : Int, F (.int k n)
  | .bool, F => ∀ b : Bool, F (.bool b)
  | .str, F => ∀ s : ByteArray, F (.string s)
  | .ptr, F => ∀ a : Option Addr, F (.pointer a)
  | .slice, F => ∀ (a : Option Addr) (n c : Nat), F (.slice a n c)
  | .float k, F => ∀ n : Nat, F (.float k n)
  | .cplx k, F => ∀ n m : Nat, F (.complex k n m)
  | .any, F => ∀ v : Value, F v
def kex : Kd → (Value → Prop) → Prop
  | .int k, F => ∃ n : Int, F (.int k n)
  | .bool, F => ∃ b : Bool, F (.bool b)
  | .str, F => ∃ s : ByteArray, F (.string s)
  | .ptr, F => ∃ a : Option Addr, F (.pointer a)
  | .slice, F => ∃ (a : Option Addr) (n c : Nat), F (.slice a n c)
  | .float k, F => ∃ n : Nat, F (.float k n)
  | .cplx k, F => ∃ n m : Nat, F (.complex k n m)
  | .any, F => ∃ v : Value, F v
def allT : List Kd → (List Value → Prop) → Prop
  | [], F => F []
  | k :: ks, F => kall k fun v => allT ks fun vs => F (v :: vs)
def exT : List Kd → (List Value → Prop) → Prop
  | [], F => F []
  | k :: ks, F => kex k fun v => exT ks fun vs => F (v :: vs)
/-- What one type's cells are, by kind. -/
def catO {α : Type} : List (Option (List α)) → Option (List α)
  | [] => some []
  | none :: _ => none
  | some l :: r => match catO r with | none => none | some l' => some (l ++ l')
def repO {α : Type} (x : Option (List α)) : Nat → Option (List α)
  | 0 => some []
  | n + 1 => match x, repO x n with | some l, some r => some (l ++ r) | _, _ => none
def kinds (P : Program) : Nat → TypeId → Option (List Kd)
  | 0, _ => none
  | n + 1, t => match P.underlying t with
    | some .bool => some [.bool]
    | some (.int k) => some [.int k]
    | some (.float k) => some [.float k]
    | some (.complex k) => some [.cplx k]
    | some .string => some [.str]
    | some (.pointer _) => some [.ptr]
    | some (.slice _) => some [.slice]
    | some (.map _ _) | some (.chan _ _) | some (.func _ _ _) | some (.interface _) => some [.any]
    | some (.struct fs) => catO (fs.toList.map fun f => kinds P n f.type)
    | some (.array m e) => repO (kinds P n e) m
    | _ => none
def isAg (P : Program) (t : TypeId) : Bool :=
  match P.underlying t with
  | some (.struct _) | some (.array _ _) => true
  | _ => false
def shut (P : Program) (t : TypeId) (cs : List Value) : Value :=
  match isAg P t with
  | true => .agg ⟨cs⟩
  | false => match cs with | v :: _ => v | [] => undef
def deep : Nat := 40
/-- There is a value of the type with F. -/
def exV (P : Program) (t : TypeId) (F : Value → Prop) : Prop :=
  match kinds P deep t with
  | some ks => exT ks fun cs => F (shut P t cs)
  | none => False
def exVs (P : Program) : List TypeId → (List Value → Prop) → Prop
  | [], F => F []
  | t :: ts, F => exV P t fun v => exVs P ts fun vs => F (v :: vs)
/-- What a call of this result type hands back. -/
def exR (P : Program) (t : TypeId) (F : Value → Prop) : Prop :=
  match P.underlying t with
  | some (.tuple ts) => exVs P ts.toList fun vs => F (.tuple ⟨vs⟩)
  | _ => exV P t F

/-! ### states -/
inductive SV where
  | val (v : Value)
  | loc (key off : Nat)
  | spec (j : Nat) (want : Bool) (s : SV)
  | dead
abbrev Slots := Nat → SV
abbrev Locals := Nat → Option (List Value)
structure St where
  φ : Slots
  L : Locals
  v : World
def at_ {α : Type} (f : Nat → α) (d : Nat) (x : α) : Nat → α := fun i => match Nat.beq i d with | true => x | false => f i
def unspec (d : Nat) : SV → SV
  | .spec j w s => match Nat.beq j d with | true => .dead | false => .spec j w s
  | s => s
def put (φ : Slots) (d : Option Nat) (s : SV) : Slots :=
  match d with
  | none => φ
  | some d => fun i => match Nat.beq i d with | true => unspec d s | false => unspec d (φ i)
def killLoc (k : Nat) : SV → SV
  | .loc k' o => match Nat.beq k' k with | true => .dead | false => .loc k' o
  | .spec j w s => .spec j w (killLoc k s)
  | s => s
def bEq : Bool → Bool → Bool
  | true, true | false, false => true
  | _, _ => false
/-- The slot's Bool is known now. -/
def litB (φ : Slots) (t : Nat) (b : Bool) : Slots := fun i => match Nat.beq i t with
  | true => .val (.bool b)
  | false => match φ i with
    | .spec j w s => match Nat.beq j t with
      | true => match bEq w b with | true => s | false => .val undef
      | false => .spec j w s
    | s => s
def litO (φ : Slots) (x : Operand) (b : Bool) : Slots := match x with | .tmp t => litB φ t b | _ => φ
def evS (φ : Slots) : Operand → SV
  | .tmp t => φ t
  | .const v => .val v
  | .global g => .val (.pointer (some ⟨g, 0, none⟩))
  | .func f => .val (.func (.func f) #[] #[])
/-- An operand under the guard g. -/
def evG (g : Option (Nat × Bool)) (φ : Slots) (x : Operand) : SV :=
  match evS φ x with
  | .spec j w s => match g with
    | some (t, want) => match Nat.beq j t with | true => (match bEq w want with | true => s | false => .dead) | false => .dead
    | none => .dead
  | s => s
def valG (g : Option (Nat × Bool)) (φ : Slots) (x : Operand) : Option Value := match evG g φ x with | .val v => some v | _ => none
def isVal (g : Option (Nat × Bool)) (φ : Slots) (x : Operand) : Bool := match evG g φ x with | .val _ => true | _ => false
def rhoG (g : Option (Nat × Bool)) (φ : Slots) (x : Operand) : Value := match evG g φ x with | .val v => v | _ => undef
def bcase (b : Bool) (X Y : Prop) : Prop := match b with | true => X | false => Y
theorem bcase_of {b : Bool} {X Y : Prop} (h : b = true → X) (h' : b = false → Y) : bcase b X Y := by
  cases b
  · exact h' rfl
  · exact h rfl
theorem bcase_iff {b : Bool} {X Y : Prop} : bcase b X Y ↔ (b = true → X) ∧ (b = false → Y) := by
  cases b <;> simp [bcase]

/-! ### operations that look at no memory -/
def pureRun (P : Program) {α : Type} : Sem α → Option α
  | .pure a => some a
  | .program k => pureRun P (k P)
  | .mark _ k => pureRun P k
  | _ => none
def isConst : Operand → Bool
  | .const _ => true
  | _ => false
def cmpOp : BinOp → Bool
  | .eql | .neq | .lss | .leq | .gtr | .geq => true
  | _ => false
def plainBin (op : BinOp) (y : Operand) : Value → Value → Bool
  | .int _ _, .int _ _ => match op with | .quo | .rem | .shl | .shr => isConst y | _ => true
  | .float _ _, .float _ _ => cmpOp op
  | .string _, .string _ => cmpOp op
  | .bool _, .bool _ => true
  | .complex _ _ _, .complex _ _ _ => match op with | .eql | .neq => true | _ => false
  | _, _ => false
def plainOp (P : Program) (ρ : Operand → Value) : Op → Bool
  | .binOp op _ x y _ => plainBin op y (ρ x) (ρ y)
  | .unOp .. | .extract .. | .field .. | .build .. => true
  | .convert src dst _ => match P.underlying src, P.underlying dst with
    | some (.int _), some (.int _) | some .string, some .string | some (.int _), some (.float _) => true
    | _, _ => false
  | .fieldAddr .. => true
  | .call { callee := .builtin b, argTypes, .. } => match b with
    | .real | .imag | .complex => true
    | .min | .max => match (argTypes[0]?).bind P.underlying with | some (.int _) => true | _ => false
    | .len => match (argTypes[0]?).bind P.underlying with | some (.slice _) | some .string | some (.array _ _) => true | _ => false
    | _ => false
  | _ => false
def fieldOff (P : Program) (s : TypeId) (f : Nat) : Option Nat :=
  match P.underlying s with
  | some (.struct fs) => match fs[f]? with
    | some x => match P.info? x.type with
      | some i => match i.size with | 0 => none | _ => some x.offset
      | none => none
    | none => none
  | _ => none
def sizeT (P : Program) (t : TypeId) : Option Nat := match P.info? t with | some i => some i.size | none => none
def cut (cs : List Value) (off n : Nat) : Option (List Value) := match Nat.ble (off + n) cs.length with | true => some ((cs.drop off).take n) | false => none
def paste (cs : List Value) (off : Nat) (us : List Value) : Option (List Value) := match Nat.ble (off + us.length) cs.length with | true => some (cs.take off ++ us ++ cs.drop (off + us.length)) | false => none
def loadL (P : Program) (L : Locals) (t k off : Nat) : Option Value :=
  match L k, sizeT P t, isAg P t, (P.underlying t).isSome with
  | some cs, some n, true, true => match cut cs off n with | some us => some (.agg ⟨us⟩) | none => none
  | some cs, some _, false, true => match cut cs off 1 with | some (u :: _) => some u | _ => none
  | _, _, _, _ => none
def pickOp (φ : Slots) (c a b : Operand) : Option SV :=
  match c with
  | .tmp t => match φ t with
    | .val (.bool x) => match b with
      | .const (.bool false) => match evG (some (t, true)) φ a with
        | .val (.bool y) => some (.val (.bool (x && y)))
        | _ => match x with | false => some (.val (.bool false)) | true => none
      | _ => match a with
        | .const (.bool true) => match evG (some (t, false)) φ b with
          | .val (.bool y) => some (.val (.bool (x || y)))
          | _ => match x with | true => some (.val (.bool true)) | false => none
        | _ => none
    | _ => none
  | _ => none
/-- '==' by the type, field by field. -/
def partV (P : Program) (t : TypeId) (cs : Array Value) (off : Nat) : Option Value :=
  match isAg P t with
  | true => match sizeT P t with | some n => some (.agg (cs.extract off (off + n))) | none => none
  | false => cs[off]?
def eqFs (P : Program) (f : TypeId → Value → Value → Option Bool) (xs ys : Array Value) : List Field → Option Bool
  | [] => some true
  | fd :: fs => match fd.name == "_" with
    | true => eqFs P f xs ys fs
    | false => match partV P fd.type xs fd.offset, partV P fd.type ys fd.offset with
      | some a, some b => match f fd.type a b, eqFs P f xs ys fs with
        | some r, some q => some (r && q)
        | _, _ => none
      | _, _ => none
def eqV (P : Program) : Nat → TypeId → Value → Value → Option Bool
  | 0, _, _, _ => none
  | n + 1, t, x, y => match P.underlying t, x, y with
    | some (.int _), .int k a, .int k' b => match ikEq k k' with | true => some (a == b) | false => none
    | some .bool, .bool a, .bool b => some (a == b)
    | some .string, .string a, .string b => some (a.toList == b.toList)
    | some (.struct fs), .agg xs, .agg ys => match P.stoodInHeld t with
      | true => none
      | false => eqFs P (eqV P n) xs ys fs.toList
    | _, _, _ => none
def eqAg (P : Program) (op : BinOp) (t : TypeId) (x y : Value) : Option Value :=
  match op, x, y with
  | .eql, .agg xs, .agg ys => match P.eqGuardType P.depth t, eqV P 20 t (.agg xs) (.agg ys) with | false, some r => some (.bool r) | _, _ => none
  | .neq, .agg xs, .agg ys => match P.eqGuardType P.depth t, eqV P 20 t (.agg xs) (.agg ys) with | false, some r => some (.bool (!r)) | _, _ => none
  | _, _, _ => none
def specPlain (P : Program) (g : Option (Nat × Bool)) (o : Op) (ty : TypeId) (φ : Slots) : Option SV :=
  match plainOp P (rhoG g φ) o && o.operands.toList.all (isVal g φ) with
  | true => match pureRun P (execOp (rhoG g φ) ⟨none, o, ty, "", #[], none⟩) with
    | some (.value v) => some (.val v)
    | _ => none
  | false => none
def specOp (P : Program) (g : Option (Nat × Bool)) (o : Op) (rt : TypeId) (st : St) : Option SV :=
  match o with
  | .pick c a b => match g with | none => pickOp st.φ c a b | _ => none
  | .move x | .assign x => match evG g st.φ x with
    | .val v => some (.val v)
    | .loc k f => some (.loc k f)
    | _ => none
  | .nilCheck x => match evG g st.φ x with
    | .loc k f => some (.loc k f)
    | _ => none
  | .load t x => match evG g st.φ x with
    | .loc k off => match loadL P st.L t k off with | some v => some (.val v) | none => none
    | _ => none
  | .fieldAddr s x f => match evG g st.φ x with
    | .loc k off => match fieldOff P s f with | some fo => some (.loc k (off + fo)) | none => none
    | .val (.pointer (some a)) => match fieldOff P s f with | some fo => some (.val (.pointer (some (a.add fo)))) | none => none
    | _ => none
  | .binOp op ty x y uy => match evG g st.φ x, evG g st.φ y with
    | .val (.agg xs), .val (.agg ys) => match eqAg P op ty (.agg xs) (.agg ys) with | some v => some (.val v) | none => none
    | _, _ => specPlain P g (.binOp op ty x y uy) rt st.φ
  | o => specPlain P g o rt st.φ

/-! ### operations that look at memory, or may go wrong -/
structure Env where
  P : Program
  esc : List Nat
def hasN (l : List Nat) (n : Nat) : Bool := l.any (Nat.beq n)
/-- The cells at a, each by its kind. -/
def readC (v : World) (a : Addr) : Nat → List Kd → (List Value → Prop) → Prop
  | _, [], F => F []
  | i, k :: ks, F => kex k fun x => v.cell? (a.add i) = some x ∧ readC v a (i + 1) ks fun xs => F (x :: xs)
def writeC (v : World) (a : Addr) : Nat → List Value → (World → Prop) → Prop
  | _, [], F => F v
  | i, x :: xs, F => (∃ y, v.cell? (a.add i) = some y) ∧ v.frozen? (a.add i) = false ∧ writeC (v.setCell (a.add i) x) a (i + 1) xs F
def one : Value → Bool
  | .agg _ | .tuple _ => false
  | _ => true
def bound (x : Option Operand) (ρ : Operand → Value) (d : Int) : Option Int :=
  match x with
  | none => some d
  | some y => match ρ y with | .int _ n => some n | _ => none
def floatA : BinOp → Bool
  | .add | .sub | .mul | .quo => true
  | _ => false
def addSub : BinOp → Bool
  | .add | .sub => true
  | _ => false
def floatR (op : BinOp) (k : FloatKind) (x y : Nat) : Option Nat :=
  match op with
  | .add => k.format.add x y
  | .sub => k.format.sub x y
  | .mul => k.format.mul x y
  | .quo => k.format.div x y
  | _ => none
/-- The cells at a are these. -/
def readsC (v : World) (a : Addr) : Nat → List Value → Prop
  | _, [] => True
  | i, x :: xs => v.cell? (a.add i) = some x ∧ readsC v a (i + 1) xs
def vcMem (E : Env) (o : Oper) (st : St) (K : St → Prop) : Prop :=
  let ρ := rhoG none st.φ
  let ok := o.op.operands.toList.all (isVal none st.φ)
  match o.op with
  | .alloc t => match E.P.info? t, o.dst with
    | some i, some d => match i.zero with
      | some z => match hasN E.esc d with
        | true => K ⟨put st.φ (some d) (.val (.pointer (some ⟨st.v.heap.size, 0, none⟩))), st.L, st.v.alloc (.cells z.cells t)⟩
        | false => K ⟨put (fun i => killLoc d (st.φ i)) (some d) (.loc d 0), at_ st.L d (some z.cells.toList), hv st.v⟩
      | none => False
    | _, _ => False
  | .box t x => match evG none st.φ x, o.dst with
    | .val u, some d => match hasN E.esc d with
      | true => K ⟨put st.φ (some d) (.val (.pointer (some ⟨st.v.heap.size, 0, none⟩))), st.L, st.v.alloc (.cells u.cells t)⟩
      | false => K ⟨put (fun i => killLoc d (st.φ i)) (some d) (.loc d 0), at_ st.L d (some u.cells.toList), hv st.v⟩
    | _, _ => False
  | .store t x y => match evG none st.φ x, evG none st.φ y with
    | .loc k off, .val u => match st.L k, sizeT E.P t with
      | some cs, some n => match Nat.beq u.cells.toList.length n && u.cells.toList.all one with
        | true => match paste cs off u.cells.toList with
          | some cs' => K ⟨put st.φ o.dst (.val undef), at_ st.L k (some cs'), st.v⟩
          | none => False
        | false => False
      | _, _ => False
    | .val (.pointer (some a)), .val u => match sizeT E.P t with
      | some n => match Nat.beq u.cells.toList.length n && u.cells.toList.all one with
        | true => writeC st.v a 0 u.cells.toList fun v' => K ⟨put st.φ o.dst (.val undef), st.L, v'⟩
        | false => False
      | none => False
    | _, _ => False
  | .load t x => match evG none st.φ x with
    | .val (.pointer (some a)) => match kinds E.P deep t, sizeT E.P t with
      | some ks, some n => match Nat.beq ks.length n && (isAg E.P t || Nat.beq n 1) with
        | true => readC st.v a 0 ks fun cs => K ⟨put st.φ o.dst (.val (shut E.P t cs)), st.L, st.v⟩
        | false => False
      | _, _ => False
    | _ => False
  | .nilCheck x => match evG none st.φ x with
    | .val (.pointer p) => ∃ a, p = some a ∧ K ⟨put st.φ o.dst (.val (.pointer (some a))), st.L, st.v⟩
    | _ => False
  | .indexAddr t x i => match evG none st.φ x, evG none st.φ i, E.P.underlying t with
    | .val (.slice p n _), .val (.int _ j), some (.slice e) => match sizeT E.P e with
      | some sz => ∃ a, p = some a ∧ 0 ≤ j ∧ j < (n : Int) ∧ K ⟨put st.φ o.dst (.val (.pointer (some (a.add (j.toNat * sz))))), st.L, st.v⟩
      | none => False
    | _, _, _ => False
  | .index t x i => match evG none st.φ x, evG none st.φ i, E.P.underlying t with
    | .val (.string s), .val (.int _ j), some .string => ∃ c : UInt8, 0 ≤ j ∧ s[j.toNat]? = some c ∧ K ⟨put st.φ o.dst (.val (.int .u8 (c.toNat : Int))), st.L, st.v⟩
    | _, _, _ => False
  | .slice t x lo hi mx => match evG none st.φ x, mx, E.P.underlying t with
    | .val (.string s), none, some .string => match bound lo ρ 0, bound hi ρ (s.size : Int) with
      | some l, some h => 0 ≤ l ∧ l ≤ h ∧ h ≤ (s.size : Int) ∧ K ⟨put st.φ o.dst (.val (.string (s.extract l.toNat h.toNat))), st.L, st.v⟩
      | _, _ => False
    | .val (.slice p n c), none, some (.slice e) => match bound lo ρ 0, bound hi ρ (n : Int), sizeT E.P e with
      | some l, some h, some sz => 0 ≤ l ∧ l ≤ h ∧ h ≤ (c : Int) ∧ K ⟨put st.φ o.dst (.val (.slice (if c = l.toNat then p else p.map (·.add (l.toNat * sz))) (h.toNat - l.toNat) (c - l.toNat))), st.L, st.v⟩
      | _, _, _ => False
    | _, _, _ => False
  | .binOp op _ x y _ => match evG none st.φ x, evG none st.φ y with
    | .val (.float k a), .val (.float k' b) => match fkEq k k' && floatA op with
      | true => ∃ r, floatR op k a b = some r ∧ K ⟨put st.φ o.dst (.val (.float k r)), st.L, st.v⟩
      | false => False
    | .val (.complex k a b), .val (.complex k' c d) => match fkEq k k' && addSub op with
      | true => ∃ r i, floatR op k a c = some r ∧ floatR op k b d = some i ∧ K ⟨put st.φ o.dst (.val (.complex k r i)), st.L, st.v⟩
      | false => False
    | _, _ => match ok with
      | true => Runs E.P (execOp ρ ⟨none, o.op, o.type, "", #[], none⟩) st.v fun r v' => exR E.P o.type fun x => r = .value x ∧ K ⟨put st.φ o.dst (.val x), st.L, v'⟩
      | false => False
  | .convert src dst x => match evG none st.φ x, E.P.underlying dst, (E.P.underlying src).isSome with
    | .val (.float s b), some (.int k), true => ∃ n : Int, (s.decode b).toInt .zero = some n ∧ k.min ≤ n ∧ n ≤ k.max ∧ K ⟨put st.φ o.dst (.val (.int k n)), st.L, st.v⟩
    | _, _, _ => match ok with
      | true => Runs E.P (execOp ρ ⟨none, o.op, o.type, "", #[], none⟩) st.v fun r v' => exR E.P o.type fun x => r = .value x ∧ K ⟨put st.φ o.dst (.val x), st.L, v'⟩
      | false => False
  | .call { callee := .value (.func f), args, argTypes := _ } => match ok, E.P.funcs[f]? with
    | true, some fn => match fn.body.isSome && !(fn.name == "runtime.NumGoroutine") with
      | true => CallsV E.P f (args.map ρ) st.v fun r v' => exR E.P o.type fun x => r = x ∧ K ⟨put st.φ o.dst (.val x), st.L, v'⟩
      | false => False
    | _, _ => False
  | .select _ _ => False
  | _ => match ok with
    | true => Runs E.P (execOp ρ ⟨none, o.op, o.type, "", #[], none⟩) st.v fun r v' => exR E.P o.type fun x => r = .value x ∧ K ⟨put st.φ o.dst (.val x), st.L, v'⟩
    | false => False
def vcOp (E : Env) (g : Option (Nat × Bool)) (o : Oper) (st : St) (K : St → Prop) : Prop :=
  match specOp E.P g o.op o.type st with
  | some s => K ⟨put st.φ o.dst s, st.L, st.v⟩
  | none => vcMem E o st K

/-- A guarded operation: looked at without its guard where no memory is asked; else the two ways part. -/
def vcWay (E : Env) (o : Oper) (t : Nat) (want b : Bool) (st : St) (C : St → Prop) : Prop :=
  match bEq want b with
  | true => vcOp E none o ⟨litB st.φ t b, st.L, st.v⟩ C
  | false => C ⟨put (litB st.φ t b) o.dst (.val undef), st.L, st.v⟩
def vcGuard (E : Env) (o : Oper) (t : Nat) (want : Bool) : Nat → St → (St → Prop) → Prop
  | 0, _, _ => False
  | n + 1, st, C => match st.φ t with
    | .val (.bool b) => match specOp E.P (some (t, want)) o.op o.type st with
      | some s => C ⟨put st.φ o.dst (.spec t want s), st.L, st.v⟩
      | none => bcase b (vcWay E o t want true st C) (vcWay E o t want false st C)
    | .val _ => C ⟨put st.φ o.dst (.val undef), st.L, st.v⟩
    | .spec t1 _ _ => match st.φ t1 with
      | .val (.bool b1) => bcase b1 (vcGuard E o t want n ⟨litB st.φ t1 true, st.L, st.v⟩ C) (vcGuard E o t want n ⟨litB st.φ t1 false, st.L, st.v⟩ C)
      | _ => False
    | _ => False
def vcOps (E : Env) (ops : Array Oper) : List Oper → St → (St → Prop) → Prop
  | [], st, K => K st
  | o :: rest, st, K =>
    match o.guard with
    | none => vcOp E none o st fun s => vcOps E ops rest s K
    | some (j, want) =>
      match (ops[j]?).bind (·.dst) with
      | none => False
      | some t => vcGuard E o t want 4 st fun s => vcOps E ops rest s K

/-! ### a region that draws its order -/
/-- v' is v with holes behind it. -/
inductive Pad (v : World) : World → Prop where
  | refl : Pad v v
  | hv {v' : World} (h : Pad v v') : Pad v (Vc.hv v')
def cnd (g : Option (Bool × Bool)) (p : Prop) : Prop := match g with
  | none => p
  | some (b, want) => match want with | true => b = true → p | false => b = false → p
/-- An operation that may come at any time: it yields a value and at most pads the world. -/
def detC (E : Env) (g : Option (Nat × Bool)) (b : Option (Bool × Bool)) (o : Oper) (φ : Slots) (L : Locals) (v : World) (C : SV → Prop) : Prop :=
  match specOp E.P g o.op o.type ⟨φ, L, v⟩ with
  | some s => C s
  | none => match o.op with
    | .load t x => match evG g φ x with
      | .val (.pointer (some a)) => match kinds E.P deep t, sizeT E.P t with
        | some ks, some n => match Nat.beq ks.length n && (isAg E.P t || Nat.beq n 1) with
          | true => exT ks fun cs => cnd b (readsC v a 0 cs) ∧ C (.val (shut E.P t cs))
          | false => False
        | _, _ => False
      | _ => False
    | .nilCheck x => match evG g φ x with
      | .val (.pointer p) => ∃ a, cnd b (p = some a) ∧ C (.val (.pointer (some a)))
      | _ => False
    | .indexAddr t x i => match evG g φ x, evG g φ i, E.P.underlying t with
      | .val (.slice p n _), .val (.int _ j), some (.slice e) => match sizeT E.P e with
        | some sz => ∃ a, cnd b (p = some a ∧ 0 ≤ j ∧ j < (n : Int)) ∧ C (.val (.pointer (some (a.add (j.toNat * sz)))))
        | none => False
      | _, _, _ => False
    | .index t x i => match evG g φ x, evG g φ i, E.P.underlying t with
      | .val (.string s), .val (.int _ j), some .string => ∃ c : UInt8, cnd b (0 ≤ j ∧ s[j.toNat]? = some c) ∧ C (.val (.int .u8 (c.toNat : Int)))
      | _, _, _ => False
    | .slice t x lo hi mx => match evG g φ x, mx, E.P.underlying t with
      | .val (.string s), none, some .string => match bound lo (rhoG g φ) 0, bound hi (rhoG g φ) (s.size : Int) with
        | some l, some h => cnd b (0 ≤ l ∧ l ≤ h ∧ h ≤ (s.size : Int)) ∧ C (.val (.string (s.extract l.toNat h.toNat)))
        | _, _ => False
      | .val (.slice p n c), none, some (.slice e) => match bound lo (rhoG g φ) 0, bound hi (rhoG g φ) (n : Int), sizeT E.P e with
        | some l, some h, some sz => cnd b (0 ≤ l ∧ l ≤ h ∧ h ≤ (c : Int)) ∧ C (.val (.slice (if c = l.toNat then p else p.map (·.add (l.toNat * sz))) (h.toNat - l.toNat) (c - l.toNat)))
        | _, _, _ => False
      | _, _, _ => False
    | .call { callee := .value (.func f), args, argTypes := _ } => match o.op.operands.toList.all (isVal g φ), E.P.funcs[f]? with
      | true, some fn => match fn.body.isSome && !(fn.name == "runtime.NumGoroutine") with
        | true => exR E.P o.type fun x => cnd b (∀ v1, Pad v v1 → CallsV E.P f (args.map (rhoG g φ)) v1 fun r v2 => r = x ∧ Pad v1 v2) ∧ C (.val x)
        | false => False
      | _, _ => False
    | _ => False
def updS (φ : Slots) (d : Option Nat) (s : SV) : Slots := match d with
  | none => φ
  | some d => fun i => match Nat.beq i d with | true => s | false => φ i
/-- Looks at no memory. -/
def isPk : Op → Bool
  | .move _ | .assign _ | .pick .. | .binOp .. | .unOp .. | .extract .. | .build .. | .field .. | .fieldAddr .. | .index .. | .indexAddr .. | .slice .. | .nilCheck _ | .convert .. => true
  | .call { callee := .builtin b, .. } => match b with
    | .len | .real | .imag | .complex | .min | .max => true
    | _ => false
  | _ => false
def isRk : Op → Bool
  | .load .. => true
  | .call { callee := .value (.func _), .. } => true
  | _ => false
def isLA (E : Env) (o : Oper) : Bool :=
  match o.op, o.dst with
  | .alloc _, some d => !(hasN E.esc d)
  | _, _ => false
def quietO (E : Env) (o : Oper) : Bool := isPk o.op || isRk o.op || isLA E o
def flagsH (q : Oper → Bool) : List Oper → List Bool → List Bool
  | [], acc => acc
  | o :: r, acc => flagsH q r (acc ++ [q o && o.after.toList.all fun e => !(Region.binds .any e) || acc.getD e.on false])
def keysLA (E : Env) : List Oper → List Bool → List Nat
  | o :: r, b :: bs => match b && isLA E o, o.dst with
    | true, some d => d :: keysLA E r bs
    | _, _ => keysLA E r bs
  | _, _ => []
def drun (E : Env) (ops : Array Oper) : List Oper → List Bool → St → (St → Prop) → Prop
  | o :: r, b :: bs, st, K => match b with
    | false => drun E ops r bs st K
    | true => match isLA E o with
      | true => match o.op, o.dst, o.guard with
        | .alloc t, some d, none => match E.P.info? t with
          | some i => match i.zero with
            | some z => drun E ops r bs ⟨updS st.φ (some d) (.loc d 0), at_ st.L d (some z.cells.toList), st.v⟩ K
            | none => False
          | none => False
        | _, _, _ => False
      | false => match o.guard with
        | none => detC E none none o st.φ st.L st.v fun s => drun E ops r bs ⟨updS st.φ o.dst s, st.L, st.v⟩ K
        | some (j, want) => match (ops[j]?).bind (·.dst) with
          | none => False
          | some t => match st.φ t with
            | .val (.bool q) => detC E (some (t, want)) (some (q, want)) o st.φ st.L st.v fun s => drun E ops r bs ⟨updS st.φ o.dst (.spec t want s), st.L, st.v⟩ K
            | .val _ => drun E ops r bs ⟨updS st.φ o.dst (.val undef), st.L, st.v⟩ K
            | _ => False
  | _, _, st, K => K st
def sanS (ks : List Nat) : SV → SV
  | .spec _ _ _ => .dead
  | .loc k o => match hasN ks k with | true => .dead | false => .loc k o
  | s => s
def sanL (ks : List Nat) (L : Locals) : Locals := fun k => match hasN ks k with | true => none | false => L k
def stepG (E : Env) (ops : Array Oper) (o : Oper) (st : St) (C : St → Prop) : Prop :=
  match o.guard with
  | none => vcOp E none o st C
  | some (j, want) => match (ops[j]?).bind (·.dst) with
    | none => False
    | some t => vcGuard E o t want 4 st C
def allJ : List Nat → (Nat → Prop) → Prop
  | [], _ => True
  | [j], F => F j
  | j :: js, F => F j ∧ allJ js F
/-- What is left, in every order. -/
def vcTail (E : Env) (ops : Array Oper) : Nat → Array Bool → St → (St → Prop) → Prop
  | 0, listed, st, K => match Region.ready .any ops listed with | [] => K st | _ => False
  | m + 1, listed, st, K => match Region.ready .any ops listed with
    | [] => K st
    | js => allJ js fun j => match ops[j]? with
      | some o => stepG E ops o st fun s => vcTail E ops m (listed.setIfInBounds j true) s K
      | none => False
def dOf (ops : Array Oper) (i : Nat) : Option Nat := (ops[i]?).bind (·.dst)
def waits (ops : Array Oper) (j i : Nat) : Bool := match ops[j]? with
  | some o => o.after.toList.any fun e => Region.binds .any e && Nat.beq e.on i
  | none => false
def looksB (ops : Array Oper) (j t : Nat) : Bool := match ops[j]? with
  | some o => hasN (o.looksAt ops) t
  | none => false
/-- The checks on a region's edges. -/
def okGuard (ops : Array Oper) (hf : List Bool) (j : Nat) : Bool := match (ops[j]?).bind (·.guard) with
  | none => true
  | some (g, _) => hf.getD g false && waits ops j g
def okSelf (ops : Array Oper) (j : Nat) : Bool := match dOf ops j with
  | some d => !(looksB ops j d)
  | none => true
def okPair (ops : Array Oper) (j i : Nat) : Bool := match dOf ops i with
  | some d => (match dOf ops j with | some d' => !(Nat.beq d d') | none => true) &&
      (!(looksB ops j d) || (match Nat.blt i j with | true => waits ops j i | false => waits ops i j))
  | none => true
def okRest (ops : Array Oper) (hf : List Bool) (j : Nat) : Bool := (match ops[j]? with
    | some o => o.after.toList.any fun e => Region.binds .any e && !(hf.getD e.on false) && Nat.blt e.on j
    | none => false) || (List.range ops.size).all fun i => match hf.getD i false, ops[i]? with
      | true, some o => isPk o.op || waits ops j i
      | _, _ => true
def okDraw (ops : Array Oper) (hf : List Bool) : Bool :=
  Region.noSelect ops && (List.range ops.size).all fun j => match hf.getD j false with
    | true => okGuard ops hf j && okSelf ops j && (List.range ops.size).all fun i => match hf.getD i false && !(Nat.beq i j) with
      | false => true
      | true => okPair ops j i
    | false => okRest ops hf j
def okFree (ops : Array Oper) (hf : List Bool) : Bool :=
  (List.range ops.size).all fun i => match hf.getD i false, ops[i]? with
    | true, some o => !(isPk o.op) || (List.range ops.size).all fun j => Nat.beq i j || waits ops j i || waits ops i j || (match ops[j]? with | some o' => o.apart ops o' | none => true)
    | _, _ => true
/-- Which operations are made beforehand: all the quiet ones, or those alone that look at no memory. -/
def flagsD (E : Env) (ops : Array Oper) : List Bool :=
  match okDraw ops (flagsH (quietO E) ops.toList []) with
  | true => flagsH (quietO E) ops.toList []
  | false => flagsH (fun o => isPk o.op) ops.toList []
def vcDraw (E : Env) (ops : Array Oper) (st : St) (K : St → Prop) : Prop :=
  let hf := flagsD E ops
  let ks := keysLA E ops.toList hf
  match E.P.follows .mixedOrders && okDraw ops hf && okFree ops hf with
  | false => False
  | true => drun E ops ops.toList hf ⟨fun i => sanS ks (st.φ i), sanL ks st.L, st.v⟩ fun s =>
      ∀ v', Pad st.v v' → vcTail E ops (hf.filter (!·)).length ⟨hf⟩ ⟨s.φ, s.L, v'⟩ K
/-! ### code, with the places where the walk is cut -/
structure Ann where
  slots : List (Nat × Kd)
  locals : List (Nat × List Kd)
  dead : List Nat
  kept : List Nat
def Ann.has (n : Ann) (i : Nat) : Bool := hasN n.dead i || n.slots.any fun p => Nat.beq i p.1
inductive AC where
  | skip
  | region (id : Nat) (ops : Array Oper) (draw : Bool)
  | seq (a b : AC)
  | join (n : Ann) (a b : AC)
  | cond (c : Operand) (x y : AC)
  | block (id : Nat) (b : AC)
  | loop (n : Ann) (b : AC)
  | exit (id : Nat)
  | ret
def AC.erase : AC → Code
  | .skip => .skip
  | .region id ops draw => .region id ops draw
  | .seq a b | .join _ a b => .seq a.erase b.erase
  | .cond c x y => .cond c x.erase y.erase
  | .block id b => .block id b.erase
  | .loop _ b => .loop b.erase
  | .exit id => .exit id
  | .ret => .ret
def AC.dsts : AC → List Nat
  | .region _ ops _ => ops.toList.filterMap (·.dst)
  | .seq a b | .join _ a b | .cond _ a b => a.dsts ++ b.dsts
  | .block _ b | .loop _ b => b.dsts
  | _ => []
def AC.good : AC → Bool
  | .seq a b | .cond _ a b => a.good && b.good
  | .join n a b => a.good && b.good && a.dsts.all n.has
  | .loop n b => b.good && b.dsts.all n.has
  | .block _ b => b.good
  | _ => true
inductive Xt where
  | normal | exit (id : Nat) | ret
def Ann.kinds (n : Ann) : List Kd := n.slots.map (·.2) ++ n.locals.flatMap (·.2)
def takeS (φ : Slots) : List (Nat × Kd) → Option (List Value)
  | [] => some []
  | (i, _) :: r => match φ i, takeS φ r with | .val v, some vs => some (v :: vs) | _, _ => none
def takeL (L : Locals) : List (Nat × List Kd) → Option (List Value)
  | [] => some []
  | (k, ks) :: r => match L k, takeL L r with
    | some cs, some vs => match Nat.beq cs.length ks.length with | true => some (cs ++ vs) | false => none
    | _, _ => none
def take (n : Ann) (st : St) : Option (List Value) :=
  match takeS st.φ n.slots, takeL st.L n.locals with | some a, some b => some (a ++ b) | _, _ => none
def hold {α : Type} (d : α) (n : Ann) (I : TF n.kinds (World → α)) (st : St) : α :=
  match take n st with | some vs => appT (fun _ => d) n.kinds I vs st.v | none => d
def nth (l : List (Nat × Kd)) (vs : List Value) (i : Nat) : Option Value :=
  match l, vs with
  | (j, _) :: r, v :: vs => match Nat.beq i j with | true => some v | false => nth r vs i
  | _, _ => none
def nthL (l : List (Nat × List Kd)) (vs : List Value) (k : Nat) : Option (List Value) :=
  match l with
  | [] => none
  | (j, ks) :: r => match Nat.beq k j with | true => some (vs.take ks.length) | false => nthL r (vs.drop ks.length) k
/-- The state at a cut: the named slots and locals hold these values, the slots of 'dead' are unknown, all others are as they were. -/
def head (n : Ann) (st : St) (vs : List Value) (v : World) : St :=
  ⟨fun i => match nth n.slots vs i with
    | some x => .val x
    | none => match hasN n.dead i with
      | true => .dead
      | false => match st.φ i with
        | .spec _ _ _ => .dead
        | .loc k o => match n.has k with | true => .dead | false => .loc k o
        | s => s,
   fun k => match nthL n.locals (vs.drop n.slots.length) k with
    | some cs => some cs
    | none => match hasN n.kept k with | true => st.L k | false => none,
   v⟩
def sameL (l : List Nat) (L L' : Locals) (p : Prop) : Prop := match l with
  | [] => p
  | k :: r => L k = L' k ∧ sameL r L L' p
def vc (E : Env) : AC → (Xt → St → Prop) → St → Prop
  | .skip, Q, st => Q .normal st
  | .region _ ops draw, Q, st => match draw with
    | false => vcOps E ops ops.toList st (Q .normal)
    | true => vcDraw E ops st (Q .normal)
  | .seq a b, Q, st => vc E a (fun x s => match x with | .normal => vc E b Q s | x => Q x s) st
  | .join n a b, Q, st => ∃ J : TF n.kinds (World → Prop),
      vc E a (fun x s => match x with | .normal => sameL n.kept s.L st.L (hold False n J s) | x => Q x s) st ∧
      allT n.kinds fun vs => ∀ v, appT (fun _ => False) n.kinds J vs v → vc E b Q (head n st vs v)
  | .cond c x y, Q, st => match evS st.φ c with
    | .val (.bool b) => bcase b (vc E x Q ⟨litO st.φ c true, st.L, st.v⟩) (vc E y Q ⟨litO st.φ c false, st.L, st.v⟩)
    | _ => False
  | .block id b, Q, st => vc E b (fun x s => match x with
      | .exit i => match Nat.beq i id with | true => Q .normal s | false => Q (.exit i) s
      | x => Q x s) st
  | .loop n b, Q, st => ∃ (I : TF n.kinds (World → Prop)) (μ : TF n.kinds (World → Nat)),
      hold False n I st ∧
      allT n.kinds fun vs => ∀ v, appT (fun _ => False) n.kinds I vs v →
        vc E b (fun x s => match x with
          | .normal => sameL n.kept s.L st.L (hold False n I s ∧ hold 0 n μ s < appT (fun _ => 0) n.kinds μ vs v)
          | x => Q x s) (head n st vs v)
  | .exit id, Q, st => Q (.exit id) st
  | .ret, Q, st => Q .ret st

/-! ### a function -/
def resS (P : Program) (st : St) : ResultVar → Option Value
  | .tmp t => match st.φ t with | .val v => some v | _ => none
  | .cell a t => match st.φ a with | .loc k off => loadL P st.L t k off | _ => none
def resAll (P : Program) (st : St) : List ResultVar → Option (List Value)
  | [] => some []
  | r :: rs => match resS P st r, resAll P st rs with | some v, some vs => some (v :: vs) | _, _ => none
def vcRet (P : Program) (rs : List ResultVar) (R : Value → World → Prop) (st : St) : Prop :=
  match resAll P st rs with
  | some [v] => R v st.v
  | some vs => R (.tuple ⟨vs⟩) st.v
  | none => False
def argS : List Value → Nat → SV
  | [], _ => .val undef
  | v :: vs, i => match i with | 0 => .val v | i + 1 => argS vs i
def findA (A : List (Nat × Ann)) (k : Nat) : Option Ann :=
  match A with
  | [] => none
  | (j, n) :: r => match Nat.beq j k with | true => some n | false => findA r k
/-- Code with its cuts: seqs and loops are counted in the order of the text. -/
def annot (A : List (Nat × Ann)) : Code → Nat → Option (AC × Nat)
  | .skip, k => some (.skip, k)
  | .region id ops d, k => some (.region id ops d, k)
  | .seq a b, k => match annot A a (k + 1) with
    | some (a', k') => match annot A b k' with
      | some (b', k'') => match findA A k with | some n => some (.join n a' b', k'') | none => some (.seq a' b', k'')
      | none => none
    | none => none
  | .cond c x y, k => match annot A x k with
    | some (x', k') => match annot A y k' with | some (y', k'') => some (.cond c x' y', k'') | none => none
    | none => none
  | .block id b, k => match annot A b k with | some (b', k') => some (.block id b', k') | none => none
  | .loop b, k => match findA A k, annot A b (k + 1) with
    | some n, some (b', k') => some (.loop n b', k')
    | _, _ => none
  | .exit id, k => some (.exit id, k)
  | .ret, k => some (.ret, k)
  | _, _ => none
def vcFn (E : Env) (A : List (Nat × Ann)) (fn : Func) (args : List Value) (v : World) (R : Value → World → Prop) : Prop :=
  match fn.body with
  | some c => match annot A c 0 with
    | some (ac, _) => match ac.good && ac.dsts.all (fun d => Nat.blt d fn.ntmps) && Nat.ble args.length fn.ntmps with
      | true => vc E ac (fun x s => match x with | .normal | .ret => vcRet E.P fn.results.toList R s | .exit _ => False) ⟨argS args, fun _ => none, v⟩
      | false => False
    | none => False
  | none => False
end Vc
end Go.Proofs.Ytnlekdpnjphmfaa
