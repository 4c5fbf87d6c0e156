/- Pure evaluation: a law's arguments, opened; what a law's row asks of the call. -/
import Derived.Test.YtgcgdfjldeihkaaPe
import Derived.Below
import Derived.WideShapes
import Derived.ChangeShapes
import Derived.ChangeAt
import Derived.RowKit
import Derived.Deep.Slices
import Derived.WalkKit
import Derived.ProofKit
import Derived.OpenShut
import Derived.ShutString
namespace Go.Proofs.Ytgcgdfjldeihkaa
open Go.ChangeShapes Go.WideShapes Go.ChangeAt Go.RowKit Go.Deep
open Go.ChangeMaps (open_string shut_string)
namespace Pv
set_option linter.unusedVariables false
/-! ### the layout of a type -/
def layS (f : TypeId → Option Ty) : List Field → Nat → Option (List Ty)
  | [], _ => some []
  | x :: r, o => match Nat.beq x.offset o, f x.type with
    | true, some t => match layS f r (o + t.size) with | some l => some (t :: l) | none => none
    | _, _ => none
def lay1 (P : Program) (f : TypeId → Option Ty) (t : TypeId) : Option Ty := match P.underlying t with
  | some .bool => some .bool
  | some (.int k) => some (.int k)
  | some .string => some .str
  | some (.slice e) => (f e).map .sl
  | some (.array m e) => (f e).map (.arr m)
  | some (.struct fs) => (layS f fs.toList 0).map prs
  | _ => none
def lay (P : Program) : Nat → TypeId → Option Ty
  | 0, _ => none
  | n + 1, t => match lay1 P (lay P n) t with
    | some τ => match Nat.beq (P.cellsOf t) τ.size with | true => some τ | false => none
    | none => none
theorem choose_l {α : Type} {p : Nat → α → Prop} : ∀ (n : Nat), (∀ i, i < n → ∃ y, p i y) → ∃ l : List α, l.length = n ∧ ∀ i y, l[i]? = some y → p i y
  | 0, _ => ⟨[], rfl, fun i y h => by simp at h⟩
  | n + 1, h => by
    obtain ⟨l, h1, h2⟩ := choose_l n fun i hi => h i (by omega)
    obtain ⟨y, hy⟩ := h n (by omega)
    refine ⟨l ++ [y], by simp [h1], fun i z hz => ?_⟩
    rcases Nat.lt_or_ge i l.length with hlt | hge
    · rw [List.getElem?_append_left hlt] at hz; exact h2 i z hz
    · rw [List.getElem?_append_right hge] at hz
      cases hi : i - l.length with
      | zero =>
        rw [hi] at hz
        simp at hz
        subst hz
        rw [show i = n by omega]; exact hy
      | succ k => rw [hi] at hz; simp at hz
section
variable {H : Type} {enc : TypeId × Value → H} {P : Program} {w : World} {C : Com} {spare : Nat → Bool} {held : Bool}
/-- What reads as a type reads as its data. -/
def Opens (enc : TypeId × Value → H) (P : Program) (w : World) (C : Com) (spare : Nat → Bool) (held : Bool) (t : TypeId) (τ : Ty) : Prop :=
  P.cellsOf t = τ.size ∧ ∀ fuel cs x, DataW.trod enc P w 0 spare held fuel t cs = some x → ∃ y : τ.D, RepD w C τ y cs
theorem opens_fields {f : TypeId → Option Ty} (hf : ∀ t τ, f t = some τ → Opens enc P w C spare held t τ) : ∀ (fs : List Field) (o : Nat) (τs : List Ty) (cs : List Value), layS f fs o = some τs →
    (∀ x ∈ fs, ∃ n z, DataW.trod enc P w 0 spare held n x.type ((cs.drop x.offset).take (P.cellsOf x.type)) = some z) → ∃ y : (prs τs).D, RepD w C (prs τs) y ((cs.drop o).take (prs τs).size)
  | [], o, τs, cs, h, _ => by
    injection h with h
    subst h
    exact ⟨(), by rw [show (prs []).size = 0 from rfl, List.take_zero]; rfl⟩
  | x :: r, o, τs, cs, h, hx => by
    unfold layS at h
    split at h
    case h_2 => cases h
    rename_i t ho ht
    split at h
    case h_2 => cases h
    rename_i l hl
    injection h with h
    subst h
    have ho := Nat.eq_of_beq_eq_true ho
    obtain ⟨y2, h2⟩ := opens_fields hf r (o + t.size) l cs hl fun z hz => hx z (by simp [hz])
    obtain ⟨hc, hop⟩ := hf _ _ ht
    obtain ⟨n, z, hz⟩ := hx x (by simp)
    obtain ⟨y1, h1⟩ := hop _ _ _ hz
    rw [ho, hc] at h1
    cases l with
    | nil => exact ⟨y1, h1⟩
    | cons u us =>
      refine ⟨(y1, y2), _, _, ?_, h1, h2⟩
      rw [show (prs (t :: u :: us)).size = t.size + (prs (u :: us)).size from rfl, List.take_add, List.drop_drop]
theorem lay_open (hC : ∀ a u, w.cell? a = some u → C a.block a.off) : ∀ (n : Nat) (t : TypeId) (τ : Ty), lay P n t = some τ → Opens enc P w C spare held t τ
  | 0, _, _, h => by cases h
  | n + 1, t, τ, h => by
    unfold lay at h
    split at h
    case h_2 => cases h
    rename_i τ' h1
    split at h
    case h_2 => cases h
    rename_i hb
    injection h with h
    subst h
    have hsz := Nat.eq_of_beq_eq_true hb
    refine ⟨hsz, fun fuel cs x hx => ?_⟩
    unfold lay1 at h1
    split at h1
    · rename_i ht
      injection h1 with h1
      subst h1
      obtain ⟨b, rfl, _⟩ := DataW.trod_bool ht hx
      exact ⟨b, rfl⟩
    · rename_i k ht
      injection h1 with h1
      subst h1
      obtain ⟨q, rfl, _, hq⟩ := DataW.trod_int ht hx
      exact ⟨q, rfl, hq⟩
    · rename_i ht
      injection h1 with h1
      subst h1
      obtain ⟨s, rfl, _, hs⟩ := DataW.trod_string ht hx
      exact ⟨bytesL s, s, rfl, rfl, hs⟩
    · rename_i e ht
      obtain ⟨τe, he, rfl⟩ := Option.map_eq_some_iff.1 h1
      obtain ⟨hce, hop⟩ := lay_open hC n e τe he
      rcases open_slice ht hx with ⟨rfl, _⟩ | ⟨a, len, cap, m, n', D, Pl, rfl, _, hl, hm, hmm, _, hall⟩
      · exact ⟨([] : List τe.D), none, 0, 0, rfl, rfl, Nat.le_refl _, by unfold maxLen; omega, fun i x hi => by simp [gt] at hi⟩
      · have hlm : len ≤ m := by rw [hmm]; split <;> omega
        obtain ⟨l, hl1, hl2⟩ := choose_l (p := fun i (y : τe.D) => ∃ us, us.length = τe.size ∧ (∀ j u, us[j]? = some u → w.cell? (a.add (i * τe.size + j)) = some u ∧ C a.block (a.off + (i * τe.size + j))) ∧ RepD w C τe y us) len fun i hi => by
          obtain ⟨cs', g1, g2⟩ := hall i (by omega)
          obtain ⟨y, hy⟩ := hop _ _ _ g2
          refine ⟨y, cs', hy.len, fun j u hj => ?_, hy⟩
          have hj' : j < P.cellsOf e := by
            have := (List.getElem?_eq_some_iff.1 hj).1
            rw [hy.len] at this
            omega
          have hcell := ((World.cells?_some g1).2.2 j hj').trans hj
          rw [add_add, hce] at hcell
          refine ⟨hcell, ?_⟩
          have := hC _ _ hcell
          rwa [add_block, add_off] at this
        refine ⟨l, some a, len, cap, rfl, hl1, hl, hm, fun i y hi => ?_⟩
        obtain ⟨us, g1, g2, g3⟩ := hl2 i y hi
        exact ⟨a, us, rfl, g1, g2, g3⟩
    · rename_i m e ht
      obtain ⟨τe, he, rfl⟩ := Option.map_eq_some_iff.1 h1
      obtain ⟨hce, hop⟩ := lay_open hC n e τe he
      obtain ⟨xs, m', _, _, hcs, hxl, hall⟩ := DataW.trod_array ht hx
      obtain ⟨l, hl1, hl2⟩ := choose_l (p := fun i (y : τe.D) => RepD w C τe y ((cs.drop (i * τe.size)).take τe.size)) m fun i hi => by
        have := hall i hi
        rw [List.getElem?_eq_getElem (by omega), hce] at this
        exact hop _ _ _ this
      exact ⟨l, hl1, by rw [hcs, hsz]; rfl, fun i y hi => hl2 i y hi⟩
    · rename_i fs ht
      obtain ⟨τs, hs, rfl⟩ := Option.map_eq_some_iff.1 h1
      obtain ⟨xs, m', _, _, hcs, hxl, hall⟩ := DataW.trod_struct ht hx
      obtain ⟨y, hy⟩ := opens_fields (fun t τ h => lay_open hC n t τ h) fs.toList 0 τs cs hs fun f hf => by
        obtain ⟨i, hi, rfl⟩ := List.mem_iff_getElem.1 hf
        have hi' : i < fs.size := by simpa using hi
        have := hall i fs[i] (by simp [hi'])
        rw [List.getElem?_eq_getElem (by omega)] at this
        exact ⟨m', _, by simpa using this⟩
      rw [List.drop_zero, List.take_of_length_le (by omega)] at hy
      exact ⟨y, hy⟩
    · cases h1
theorem okWide_array {m : Nat} {e t : TypeId} {v : Value} {r : Reach} {b0 : Nat} (ht : P.underlying t = some (.array m e)) (h : Value.okWide P w r b0 t v) : ∃ cs, v = .agg cs ∧ cs.size = P.cellsOf t := by
  simp only [Value.okWide, ht] at h
  obtain ⟨cs, h1, h2, _⟩ := h
  exact ⟨cs, h1, h2⟩
/-- An argument. -/
theorem arg_open (hC : ∀ a u, w.cell? a = some u → C a.block a.off) {n : Nat} {t : TypeId} {τ : Ty} {v : Value} {d : DataW H} {ps : List MemPlace} {r : Reach} {b0 : Nat} (hl : lay P n t = some τ) (hval : Value.okWide P w r b0 t v) (hd : DataW.Trod enc P w 0 spare held t v d ps) :
    ∃ (y : τ.D) (cs : List Value), RepD w C τ y cs ∧ match isAg P t with | true => v = .agg ⟨cs⟩ | false => cs = [v] := by
  obtain ⟨fuel, hf⟩ := hd
  obtain ⟨y, hy⟩ := (lay_open (enc := enc) (spare := spare) (held := held) hC n t τ hl).2 _ _ _ hf
  refine ⟨y, _, hy, ?_⟩
  cases n with
  | zero => cases hl
  | succ n =>
    unfold lay at hl
    split at hl
    case h_2 => cases hl
    rename_i τ' h1
    unfold lay1 at h1
    unfold isAg
    split at h1
    · rename_i ht
      obtain ⟨b, rfl⟩ := okWide_bool ht hval
      simp [ht, Value.cells]
    · rename_i k ht
      obtain ⟨b, rfl⟩ := okWide_int ht hval
      simp [ht, Value.cells]
    · rename_i ht
      obtain ⟨b, rfl⟩ := okWide_string ht hval
      simp [ht, Value.cells]
    · rename_i e ht
      obtain ⟨a, n, c, rfl⟩ := okWide_slice ht hval
      simp [ht, Value.cells]
    · rename_i m e ht
      obtain ⟨cs, rfl, _⟩ := okWide_array ht hval
      simp [ht, Value.cells]
    · rename_i fs ht
      obtain ⟨cs, rfl, _⟩ := okWide_struct ht hval
      simp [ht, Value.cells]
    · cases h1
end
/-! ### the call of a law -/
def ltOf : Leaf → LT
  | .d t _ => .d t
  | .own _ E e _ => .own E e
def datOf : Leaf → Dat
  | .d t x => ⟨t, x⟩
  | .own _ _ e l => ⟨.sl e, l⟩
theorem appF_c {α : Type} {t : Ty} {ts : List Ty} {f : insT (t :: ts) (Option α)} {x : t.D} {xs : List Dat} {r : Option α} (h : appF ts (f x) xs = r) : appF (t :: ts) f (⟨t, x⟩ :: xs) = r := by
  show (match castD t x with | some a => appF ts (f a) xs | none => none) = _
  rw [castD_self]; exact h
theorem appF_n {α : Type} {f r : Option α} (h : f = r) : appF [] f [] = r := h
structure Arg where
  ag : Bool
  ls : List Leaf
  v : Value
def Arg.par (a : Arg) : Par := .v a.ag (a.ls.map ltOf)
def isDs (ls : List Leaf) : Bool := ls.all isD
theorem mk_ds {lab : Nat → Tok} : ∀ {ls : List Leaf} (j : Nat), isDs ls = true → mkLs lab (ls.map ltOf) j (ls.map datOf) = some ls
  | [], _, _ => rfl
  | .d t x :: ls, j, h => by
    have h' : isDs ls = true := by simp [isDs] at h ⊢; exact h.2
    show (match castD t x, mkLs lab (ls.map ltOf) (j + 1) (ls.map datOf) with | some a, some r => some (Leaf.d t a :: r) | _, _ => none) = _
    rw [castD_self, mk_ds (j + 1) h']
  | .own _ _ _ _ :: ls, j, h => by simp [isDs, isD] at h
theorem labs_ds {lab : Nat → Tok} : ∀ {ls : List Leaf} (j : Nat), isDs ls = true → labs lab (ls.map ltOf) j = []
  | [], _, _ => rfl
  | .d t x :: ls, j, h => labs_ds (ls := ls) (j + 1) (by simp [isDs] at h ⊢; exact h.2)
  | .own _ _ _ _ :: ls, j, h => by simp [isDs, isD] at h
theorem isM_args : ∀ (al : List Arg) (i : Nat), isM (al.map Arg.par) i = false
  | [], 0 => rfl
  | [], _ + 1 => rfl
  | a :: al, 0 => rfl
  | a :: al, i + 1 => isM_args al i
theorem parK_args : ∀ (al : List Arg) (ls : List Leaf) (i : Nat), parK (al.map Arg.par) ls i = none
  | [], _, 0 => rfl
  | [], _, _ + 1 => rfl
  | a :: al, _, 0 => rfl
  | a :: al, ls, i + 1 => parK_args al _ i
theorem parP_args : ∀ (al : List Arg) (rest : List Leaf) (i : Nat), (∀ a, al[i]? = some a → parP (al.map Arg.par) (al.flatMap Arg.ls ++ rest) i = .w a.ag a.ls) ∧ (al[i]? = none → parP (al.map Arg.par) (al.flatMap Arg.ls ++ rest) i = .raw undef)
  | [], _, 0 => ⟨fun a h => by simp at h, fun _ => rfl⟩
  | [], _, _ + 1 => ⟨fun a h => by simp at h, fun _ => rfl⟩
  | a :: al, rest, 0 => by
    refine ⟨fun b h => ?_, fun h => by simp at h⟩
    simp at h
    subst h
    show PV.w a.ag ((a.ls ++ al.flatMap Arg.ls ++ rest).take (a.ls.map ltOf).length) = _
    rw [List.length_map, List.append_assoc, List.take_left]
  | a :: al, rest, i + 1 => by
    have := parP_args al rest i
    have e : parP ((a :: al).map Arg.par) ((a :: al).flatMap (·.ls) ++ rest) (i + 1) = parP (al.map Arg.par) (al.flatMap Arg.ls ++ rest) i := by
      show parP (al.map Arg.par) ((a.ls ++ al.flatMap Arg.ls ++ rest).drop (a.ls.map ltOf).length) i = _
      rw [List.length_map, List.append_assoc, List.drop_left]
    rw [e]
    simpa using this
section
variable {P : Program} {W : World}
def C00 (W : World) : Com := fun b _ => b < W.heap.size
theorem c00_cell (W : World) (a : Addr) (u : Value) (h : W.cell? a = some u) : C00 W a.block a.off := cell_lt h
def F00 (W : World) (n : Nat) : Fr := ⟨n, W, C00 W, fun _ _ => False⟩
def G00 (W : World) : Gh := ⟨C00 W, fun _ => none, fun _ => (0, 0), fun _ _ => []⟩
def Arg.ok (W : World) (a : Arg) : Prop := isDs a.ls = true ∧ ∀ (F : Fr) (g : Gh) (O : Tok → Bool), g.C = C00 W → RelV F g W O a.v a.ag a.ls
theorem Arg.mk_ok {τ : Ty} {y : τ.D} {cs : List Value} {ag : Bool} {v : Value} (h : RepD W (C00 W) τ y cs) (hv : match ag with | true => v = .agg ⟨cs⟩ | false => cs = [v]) : (Arg.mk ag (flat τ y) v).ok W := by
  refine ⟨List.all_eq_true.2 (flat_isD τ y), fun F g O hg => ⟨cs, repLs_flat (by rw [hg]; exact h), ?_⟩⟩
  cases ag <;> exact hv
theorem args_rel {al : List Arg} {rs : List (Bool × List LT)} (h : ∀ a ∈ al, a.ok W) (n : Nat) : ∃ st, entrySt ⟨al.map Arg.par, rs⟩ (al.flatMap fun a => a.ls.map datOf) = some st ∧ MRel (F00 W n) (G00 W) st (fun i => (al.map Arg.v).getD i undef) W := by
  have hds : isDs (al.flatMap Arg.ls) = true := by
    refine List.all_eq_true.2 fun l hl => ?_
    obtain ⟨a, ha, hl⟩ := List.mem_flatMap.1 hl
    exact List.all_eq_true.1 (h a ha).1 l hl
  have e1 : parsT (al.map Arg.par) = (al.flatMap Arg.ls).map ltOf := by
    unfold parsT
    rw [List.flatMap_map, List.map_flatMap]
    rfl
  have e2 : (al.flatMap fun a => a.ls.map datOf) = (al.flatMap Arg.ls).map datOf := by rw [List.map_flatMap]
  refine ⟨_, by unfold entrySt; simp only [e1, e2, mk_ds 0 hds]; rfl, ?_⟩
  refine ⟨⟨Nat.le_refl _, rfl, rfl, rfl, fun _ _ _ => rfl, fun b cs T fr _ hb => ⟨cs, fr, hb, rfl, fun _ _ => rfl⟩, fun _ _ _ _ => Iff.rfl, fun _ _ h => h, fun _ _ h => h⟩, fun i => ?_, fun k σ ls hL => ?_, fun k σ ls hL => ?_, fun t b hb => (by cases hb), fun i t want ag l hs => ?_, fun d hd => (by cases hd), fun i k hk => ?_, rfl, fun k k' b _ _ hb => (by cases hb), fun k b j x _ hb => (by cases hb), fun k b _ hb => (by cases hb), fun k b _ hb => (by cases hb), fun j j' x x' hj => ?_⟩
  · show RelP _ _ W _ _ _ (match isM (al.map Arg.par) i with | true => PV.loc i 0 | false => parP (al.map Arg.par) (al.flatMap Arg.ls) i)
    rw [isM_args]
    have := parP_args al [] i
    rw [List.append_nil] at this
    cases ha : al[i]? with
    | none =>
      show RelP _ _ W _ _ _ (parP (al.map Arg.par) (al.flatMap Arg.ls) i)
      rw [this.2 ha]
      show (al.map Arg.v).getD i undef = undef
      simp [List.getD_eq_getElem?_getD, ha]
    | some a =>
      show RelP _ _ W _ _ _ (parP (al.map Arg.par) (al.flatMap Arg.ls) i)
      rw [this.1 a ha]
      have e : (al.map Arg.v).getD i undef = a.v := by simp [List.getD_eq_getElem?_getD, ha]
      show RelV _ _ W _ ((al.map Arg.v).getD i undef) a.ag a.ls
      rw [e]
      exact (h a (List.mem_of_getElem? ha)).2 _ _ _ rfl
  all_goals first
    | (have hL' : (match parK (al.map Arg.par) (al.flatMap Arg.ls) k with | some l => some ((0 : Nat), l) | none => none) = some (σ, ls) := hL
       rw [parK_args] at hL'
       cases hL')
    | (have hL' : (match parK (al.map Arg.par) (al.flatMap Arg.ls) j with | some l => some ((0 : Nat), l) | none => none) = some x := hj
       rw [parK_args] at hL'
       cases hL')
    | skip
  · have hs' : (match isM (al.map Arg.par) i with | true => PV.loc i 0 | false => parP (al.map Arg.par) (al.flatMap Arg.ls) i) = .spec t want ag l := hs
    rw [isM_args] at hs'
    have := parP_args al [] i
    rw [List.append_nil] at this
    have hs2 : parP (al.map Arg.par) (al.flatMap Arg.ls) i = .spec t want ag l := hs'
    cases ha : al[i]? with
    | none => rw [this.2 ha] at hs2; cases hs2
    | some a => rw [this.1 a ha] at hs2; cases hs2
  · have hs' : k ∈ keyP (match isM (al.map Arg.par) i with | true => PV.loc i 0 | false => parP (al.map Arg.par) (al.flatMap Arg.ls) i) := hk
    rw [isM_args] at hs'
    have := parP_args al [] i
    rw [List.append_nil] at this
    have hs2 : k ∈ keyP (parP (al.map Arg.par) (al.flatMap Arg.ls) i) := hs'
    cases ha : al[i]? with
    | none => rw [this.2 ha] at hs2; cases hs2
    | some a => rw [this.1 a ha] at hs2; cases hs2
theorem tab_start {T : Tab} {n : Nat} (hT : ∀ p ∈ T, ∃ ty fr, W.heap[p.1]? = some (.cells p.2 ty fr)) : TabF T (F00 W n) := fun p hp => by
  obtain ⟨ty, fr, h⟩ := hT p hp
  refine ⟨⟨ty, fr, h⟩, fun i hi => ⟨?_, fun hx => hx⟩⟩
  have : W.cell? ⟨p.1, i, none⟩ = some p.2[i] := by rw [cell_at h, Array.getElem?_eq_getElem hi]
  exact c00_cell W ⟨p.1, i, none⟩ _ this
theorem law_calls {T : Tab} (hT : ∀ p ∈ T, ∃ ty fr, W.heap[p.1]? = some (.cells p.2 ty fr)) {f : FuncId} {fd : Func} {s : Sig} {fn : s.Fn} {al : List Arg} {y : s.out.D} (hS : SoundFn P T f s fn) (hps : s.ps = al.map Arg.par) (hrs : s.rs.length = 1) (hf : P.funcs[f]? = some fd) (hok : ∀ a ∈ al, a.ok W)
    (happ : appF ((parsT s.ps).map LT.ty) fn.f (al.flatMap fun a => a.ls.map datOf) = some y) (hex : ∀ st', exitSt s y = some st' → st'.φ 0 = .w false [.d .bool true]) : Calls P f ⟨al.map Arg.v⟩ W fun e W' => e = .returned (.bool true) ∧ Below W.heap.size W W' := by
  obtain ⟨ps, rs⟩ := s
  have hps : ps = al.map Arg.par := hps
  subst hps
  obtain ⟨st, h1, h2⟩ := args_rel (rs := rs) hok fd.ntmps
  refine (hS (F00 W fd.ntmps) (G00 W) st _ y _ W ⟨al.map Arg.v⟩ (tab_start hT) h1 happ h2 rfl (fun fd' h => by rw [hf] at h; cases h; rfl) (by simp) (fun i => by simp [Array.getD_eq_getD_getElem?, List.getD_eq_getElem?_getD])).mono fun e W' ⟨us, g', st', q1, q2, q3, q4, _⟩ => ?_
  have hlen : us.length = 1 := q2.trans hrs
  obtain ⟨u, rfl⟩ : ∃ u, us = [u] := by
    match us, hlen with
    | [u], _ => exact ⟨u, rfl⟩
  have h0 := q4.slots 0
  rw [hex st' q3] at h0
  obtain ⟨cs, g1, g2⟩ := h0
  obtain ⟨c1, c2, rfl, g3, g4⟩ := g1
  have g3 : c1 = [.bool true] := g3
  have g4 : c2 = [] := g4
  subst g3; subst g4
  have g2 : [Value.bool true] ++ [] = [u] := g2
  injection g2 with g2
  have hu : u = .bool true := g2.symm
  subst hu
  refine ⟨q1, q4.fr.os, q4.fr.tape, q4.fr.output, q4.fr.size, fun k hk => q4.fr.old k hk fun _ h => h⟩
end
section
variable {H : Type} {enc : TypeId × Value → H} {P : Program}
theorem post_of_below {f : Func} {s : ChangeSpec} {apart fresh handsOn again : Bool} {W W' : World} {args : Array Value} {v : Value} {ds gs : List (DataW H)} {before pa pv : List MemPlace}
    (hW : DataW.Whole enc P f.params.toList s.vars apart W args.toList ds gs before)
    (hres : ∀ (b : Nat) (sp : Nat → Bool) (hd : Bool), DataW.TrodAll enc P W' b sp hd f.resultTypes.toList (v.resultList f.resultTypes.size) (s.fn H (ds ++ gs)).results [])
    (hargs : ∀ sp : Nat → Bool, (∀ p ∈ before, sp p.block = true) → DataW.TrodAll enc P W' 0 sp true f.params.toList args.toList (s.fn H (ds ++ gs)).args pa)
    (hvars : ∀ sp : Nat → Bool, (∀ p ∈ before, sp p.block = true) → DataW.TrodVars enc P W' sp s.vars (s.fn H (ds ++ gs)).vars pv)
    (hps : before = pa ++ pv) (hb : Below W.heap.size W W')
    (hok : ∀ (j : Nat) (t : TypeId) (r : Value), f.resultTypes[j]? = some t → (v.resultList f.resultTypes.size)[j]? = some r → Value.okWide P W' .any 0 t r) :
    s.post enc P f apart fresh handsOn again W args v W' := by
  have hlt : ∀ p ∈ before, p.block < W.heap.size := fun p hp => hW.lt p hp
  have hold : ∀ p ∈ before, (fun b => decide (b < W.heap.size)) p.block = true := fun p hp => by simpa using hlt p hp
  refine ⟨ds, gs, before, [], pa, pv, hW, hres _ _ _, hargs _ hold, hvars _ hold, World.keptBut_mono (fun p hp => ⟨hp, ?_⟩) (hb.frame (· ∈ before)), fun _ => ?_⟩
  · rw [hps, List.mem_append] at hp
    exact Or.inr hp
  · obtain ⟨_, _, _, _, _, hz, hn⟩ := hW
    refine ⟨hok, _, _, ([] ++ pa) ++ pv, ⟨[] ++ pa, pv, trodAll_append (hargs _ (fun _ _ => rfl)) (hres _ _ _), hvars _ (fun _ _ => rfl), rfl, ?_, ?_⟩, ?_⟩
    · intro b off hp
      have hin : MemPlace.cell b off ∈ before := by rw [hps]; simpa using hp
      rw [hb.frozen (hlt _ hin)]
      exact hz b off hin
    · intro ha
      have := hn ha
      rw [hps] at this
      simpa using this
    · intro p hp _
      rw [hps]
      simpa using hp
theorem trodAll_stays (hl : laidOutB P = true) {W W' : World} (hb : Below W.heap.size W W') {sp : Nat → Bool} : ∀ {ts : List TypeId} {vs : List Value} {ds : List (DataW H)} {ps : List MemPlace},
    (ts.all fun t => P.readableRec t && decide (t < P.types.size)) = true → DataW.TrodAll enc P W 0 (fun _ => true) true ts vs ds ps → (∀ p ∈ ps, p.block < W.heap.size) → (∀ p ∈ ps, sp p.block = true) →
    DataW.TrodAll enc P W' 0 sp true ts vs ds ps
  | [], vs, ds, ps, _, h, _, _ => by
    obtain ⟨rfl, rfl, rfl⟩ := trodAll_nil h
    exact h
  | t :: ts, vs, ds, ps, ht, h, hlt, hsp => by
    obtain ⟨v, vs', d, ds', p, q, rfl, rfl, rfl, h1, h2⟩ := trodAll_cons h
    simp only [List.all_cons, Bool.and_eq_true, decide_eq_true_eq] at ht
    exact ⟨p, q, WideElems.Trod_stays hl ht.1.1 ht.1.2 h1 (fun x hx => hb.same (hlt x (by simp [hx]))) (fun x hx => hsp x (by simp [hx])),
      trodAll_stays hl hb ht.2 h2 (fun x hx => hlt x (by simp [hx])) (fun x hx => hsp x (by simp [hx])), rfl⟩
/-- A law's row: true is handed back, the arguments read al they did. -/
theorem law_post {tb : TypeId} {f : Func} {s : ChangeSpec} {fresh handsOn again : Bool} {W W' : World} {args : Array Value} {ds : List (DataW H)} {before : List MemPlace}
    (hv : s.vars = []) (hrt : f.resultTypes = #[tb]) (hb : P.underlying tb = some .bool) (hl : laidOutB P = true) (hp : (f.params.toList.all fun t => P.readableRec t && decide (t < P.types.size)) = true)
    (hW : DataW.Whole enc P f.params.toList s.vars false W args.toList ds [] before) (hfn : (s.fn H (ds ++ [])).results = [.lit (.bool true)]) (hfa : (s.fn H (ds ++ [])).args = ds) (hfv : (s.fn H (ds ++ [])).vars = [])
    (hbel : Below W.heap.size W W') : s.post enc P f false fresh handsOn again W args (.bool true) W' := by
  have hlt : ∀ p ∈ before, p.block < W.heap.size := fun p hp => hW.lt p hp
  have hW2 := hW
  obtain ⟨p, q, hA, hV, hpq, _, _⟩ := hW2
  rw [hv] at hV
  obtain ⟨_, rfl⟩ := trodVars_none hV
  have hpq' : before = p := by simpa using hpq
  subst hpq'
  refine post_of_below (pa := before) (pv := []) hW ?_ (fun sp hsp => ?_) (fun sp _ => ?_) (by simp) hbel ?_
  · intro b sp hd
    rw [hfn, hrt]
    exact trodAll_cons_mk (shut_bool hb _) trodAll_mk0
  · rw [hfa]; exact trodAll_stays hl hbel hp hA hlt hsp
  · rw [hfv, hv]; rfl
  · exact ok_one hrt rfl (okWide_bool_mk hb _)
end
end Pv
end Go.Proofs.Ytgcgdfjldeihkaa
