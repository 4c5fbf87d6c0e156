/- ask.Read at this program: by hand, over what its callees are proved to compute. -/
import Derived.Test.YtgcgdfjldeihkaaDoorQMap
import Derived.Test.YtgcgdfjldeihkaaDoorQAskS
import Derived.Test.YtgcgdfjldeihkaaDoorQAsk
import Derived.Test.YtgcgdfjldeihkaaDoorQc
import Derived.RegionTactic
import Derived.ChangeAlike
import Derived.Deep.QuietTactic
import Derived.BigQuiet
import Derived.Carry
import Derived.Laws.ResultCell
namespace Go.Proofs.YtgcgdfjldeihkaaDoor
open Go.RowKit Go.Shelf Pv
set_option linter.unusedVariables false
/-- A function of data that answers a truth value. -/
theorem bool_calls {P : Program} {W : World} {f : FuncId} {fd : Func} {s : Sig} {fn : s.Fn} {al : List Arg} {y : s.out.D} {b : Bool} (hS : SoundFn P [] f s fn) (hps : s.ps = al.map Arg.par) (hrs : s.rs.length = 1) (hf : P.funcs[f]? = some fd) (hok : ∀ a ∈ al, a.ok W)
    (happ : appF ((parsT s.ps).map LT.ty) fn.f (al.flatMap fun a => a.ls.map datOf) = some y) (hex : ∀ st', exitSt s y = some st' → st'.φ 0 = .w false [.d .bool b]) : Calls P f ⟨al.map Arg.v⟩ W fun e W' => e = .returned (.bool b) ∧ Below W.heap.size W W' := by
  obtain ⟨ps, rs⟩ := s
  have hps : ps = al.map Arg.par := hps
  subst hps
  obtain ⟨st, h1, h2⟩ := args_rel (rs := rs) hok fd.ntmps
  refine (hS (F00 W fd.ntmps) (G00 W) st _ y _ W ⟨al.map Arg.v⟩ (tab_start fun p hp => by cases hp) h1 happ h2 rfl (fun fd' h => by rw [hf] at h; cases h; rfl) (by simp) (fun i => by simp [Array.getD_eq_getD_getElem?, List.getD_eq_getElem?_getD])).mono fun e W' ⟨us, g', st', q1, q2, q3, q4, _⟩ => ?_
  have hlen : us.length = 1 := q2.trans hrs
  obtain ⟨u, rfl⟩ : ∃ u, us = [u] := by
    match us, hlen with
    | [u], _ => exact ⟨u, rfl⟩
  have h0 := q4.slots 0
  rw [hex st' q3] at h0
  obtain ⟨cs, g1, g2⟩ := h0
  obtain ⟨c1, c2, rfl, g3, g4⟩ := g1
  have g3 : c1 = [.bool b] := g3
  have g4 : c2 = [] := g4
  subst g3; subst g4
  have g2 : [Value.bool b] ++ [] = [u] := g2
  injection g2 with g2
  have hu : u = .bool b := g2.symm
  subst hu
  refine ⟨q1, q4.fr.os, q4.fr.tape, q4.fr.output, q4.fr.size, fun k hk => q4.fr.old k hk fun _ h => h⟩
theorem str_ok {W : World} {s : ByteArray} (h : s.size ≤ maxLen) : (Arg.mk false (flat .str (bytesL s)) (.string s)).ok W := Arg.mk_ok (τ := .str) (cs := [.string s]) (ag := false) ⟨s, rfl, rfl, h⟩ rfl
theorem named_calls {W : World} {s : ByteArray} (hs : s.size ≤ maxLen) {b : Bool} (h : F_ask_named (bytesL s) = some b) : Calls Tryd.prog 30 #[.string s] W fun e W' => e = .returned (.bool b) ∧ Below W.heap.size W W' :=
  bool_calls (s := F_ask_named_sig) (al := [⟨false, flat .str (bytesL s), .string s⟩]) (y := b) F_ask_named_sound rfl rfl Tryd.func30 (List.forall_mem_cons.2 ⟨str_ok hs, fun a h => by cases h⟩) (appF_c (appF_n h)) fun st' e => by
    have e2 : (exitSt F_ask_named_sig b).map (fun st => st.φ 0) = some (.w false [.d .bool b]) := rfl
    rw [e] at e2
    injection e2
theorem valued_calls {W : World} {s : ByteArray} (hs : s.size ≤ maxLen) {b : Bool} (h : F_ask_valued (bytesL s) = some b) : Calls Tryd.prog 31 #[.string s] W fun e W' => e = .returned (.bool b) ∧ Below W.heap.size W W' :=
  bool_calls (s := F_ask_valued_sig) (al := [⟨false, flat .str (bytesL s), .string s⟩]) (y := b) F_ask_valued_sound rfl rfl Tryd.func31 (List.forall_mem_cons.2 ⟨str_ok hs, fun a h => by cases h⟩) (appF_c (appF_n h)) fun st' e => by
    have e2 : (exitSt F_ask_valued_sig b).map (fun st => st.φ 0) = some (.w false [.d .bool b]) := rfl
    rw [e] at e2
    injection e2
theorem barred_calls {W : World} {s t : ByteArray} {v : Bool} (hs : s.size ≤ maxLen) (ht : t.size ≤ maxLen) {b : Bool} (h : F_ask_barred (bytesL s) (bytesL t) v = some b) : Calls Tryd.prog 32 #[.agg #[.string s, .string t, .bool v]] W fun e W' => e = .returned (.bool b) ∧ Below W.heap.size W W' :=
  bool_calls (s := F_ask_barred_sig) (al := [⟨true, flat (.pr .str (.pr .str .bool)) (bytesL s, bytesL t, v), .agg #[.string s, .string t, .bool v]⟩]) (y := b) F_ask_barred_sound rfl rfl Tryd.func32
    (List.forall_mem_cons.2 ⟨Arg.mk_ok (τ := .pr .str (.pr .str .bool)) (cs := [.string s, .string t, .bool v]) (ag := true) ⟨[.string s], [.string t, .bool v], rfl, ⟨s, rfl, rfl, hs⟩, [.string t], [.bool v], rfl, ⟨t, rfl, rfl, ht⟩, rfl⟩ rfl, fun a h => by cases h⟩) (appF_c (appF_c (appF_c (appF_n h)))) fun st' e => by
    have e2 : (exitSt F_ask_barred_sig b).map (fun st => st.φ 0) = some (.w false [.d .bool b]) := rfl
    rw [e] at e2
    injection e2
/-! ### plain -/
abbrev PA := List (List Int × List Int)
def ascI : PA → List Int → Option (List Int)
  | [], _ => none
  | (k, v) :: r, s => cond (k == s) (some v) (ascI r s)
def lM : List Int := [58, 109, 101, 116, 104, 111, 100]
def lS : List Int := [58, 115, 99, 104, 101, 109, 101]
def lP : List Int := [58, 112, 97, 116, 104]
def lA : List Int := [58, 97, 117, 116, 104, 111, 114, 105, 116, 121]
def lC : List Int := [67, 79, 78, 78, 69, 67, 84]
def lX : List Int := [112, 114, 111, 120, 121, 45, 97, 117, 116, 104, 111, 114, 105, 122, 97, 116, 105, 111, 110]
def isKI (s : List Int) : Bool := (s == lM) || (s == lS) || (s == lP) || (s == lA)
def takesI (p : PA) (nm vl : List Int) (late : Bool) : Option PA := cond (isKI nm && !late && (ascI p nm).isNone) (some (p ++ [(nm, vl)])) none
def valI (p : PA) (k : List Int) : List Int := (ascI p k).getD []
def wholeI (p : PA) : Bool := cond (valI p lM == lC) ((ascI p lA).isSome && !(ascI p lS).isSome && !(ascI p lP).isSome) (((ascI p lM).isSome && ((ascI p lS).isSome && (ascI p lP).isSome)) && !(valI p lP == []))
abbrev RF := List Int × List Int × Bool
abbrev RS := PA × Bool × List Int × Int
noncomputable def rdStep (f : RF) (s : RS) : Option (Option RS) :=
  (F_ask_named f.1).bind fun a => cond (!a) (some none) ((F_ask_valued f.2.1).bind fun b => cond (!b) (some none) ((F_ask_barred f.1 f.2.1 f.2.2).bind fun c => cond c (some none)
    ((getI f.1 0).bind fun x => cond (x == 58) (some ((takesI s.1 f.1 f.2.1 s.2.1).map fun p => (p, s.2)))
      (cond (f.1 == lX) (some (some (s.1, true, cond (s.2.2.2 == 0) f.2.1 s.2.2.1, s.2.2.2 + 1))) (some (some (s.1, true, s.2.2)))))))
noncomputable def rdFold : List RF → RS → Option (Option RS)
  | [], s => some (some s)
  | f :: r, s => (rdStep f s).bind fun q => match q with
    | none => some none
    | some s' => rdFold r s'
abbrev RO := Bool × List Int × List Int × List Int × Int × Bool
def rdOut : Option RS → RO
  | none => (false, [], [], [], 0, false)
  | some s => cond (wholeI s.1) (valI s.1 lM == lC, valI s.1 lM, valI s.1 lA, s.2.2.1, s.2.2.2, true) (false, [], [], [], 0, false)
/-! ### the same over the machine's strings -/
def bl (p : Asc) : PA := p.map fun x => (bytesL x.1, bytesL x.2)
theorem lit_eq (s : ByteArray) (l : List UInt8) : (s.toList == l) = (bytesL s == l.map byteI) := by
  have h := bytes_eq s ⟨l.toArray⟩
  have e : (⟨l.toArray⟩ : ByteArray).toList = l := by rw [toList_data]
  rw [e] at h
  exact h
theorem beq_bytes (s t : ByteArray) : (bytesL s == bytesL t) = decide (s = t) := by
  by_cases h : s = t
  · rw [h, beq_self_eq_true, decide_eq_true rfl]
  · rw [decide_eq_false h]
    refine beq_eq_false_iff_ne.2 fun e => h ?_
    obtain ⟨⟨a⟩⟩ := s
    obtain ⟨⟨b⟩⟩ := t
    have : a = b := map_inj e
    rw [this]
theorem asc_bl : ∀ (p : Asc) (s : ByteArray), ascI (bl p) (bytesL s) = (asc p s).map bytesL
  | [], _ => rfl
  | (k, v) :: p, s => by
    have ih := asc_bl p s
    show cond (bytesL k == bytesL s) (some (bytesL v)) (ascI (bl p) (bytesL s)) = _
    rw [beq_bytes, ih]
    show _ = (if k = s then some v else asc p s).map bytesL
    by_cases h : k = s
    · rw [decide_eq_true h, if_pos h]; rfl
    · rw [decide_eq_false h, if_neg h]; rfl
theorem isK_bl (s : ByteArray) : isK s = isKI (bytesL s) := by
  unfold isK isKI isM isS isP isA
  rw [lit_eq, lit_eq, lit_eq, lit_eq]
  rfl
theorem takes_bl (p : Asc) (nm vl : ByteArray) (late : Bool) : takesI (bl p) (bytesL nm) (bytesL vl) late = (takesP p nm vl late).map bl := by
  unfold takesI takesP
  rw [asc_bl, ← isK_bl, Option.isNone_map]
  cases (isK nm && !late && (asc p nm).isNone)
  · rfl
  · show some _ = some (bl (p ++ [(nm, vl)]))
    unfold bl
    rw [List.map_append]; rfl
theorem val_bl (p : Asc) (k : ByteArray) : valI (bl p) (bytesL k) = bytesL (valP' p k) := by
  unfold valI valP'
  rw [asc_bl]
  cases asc p k <;> rfl
theorem whole_bl (p : Asc) : wholeP p = wholeI (bl p) := by
  unfold wholeP wholeI isC
  rw [lit_eq, lit_eq, ← val_bl, ← val_bl]
  have hM := asc_bl p kM
  have hS := asc_bl p kS
  have hP := asc_bl p kP
  have hA := asc_bl p kA
  have hM : ascI (bl p) lM = _ := hM
  have hS : ascI (bl p) lS = _ := hS
  have hP : ascI (bl p) lP = _ := hP
  have hA : ascI (bl p) lA = _ := hA
  rw [hM, hS, hP, hA, Option.isSome_map, Option.isSome_map, Option.isSome_map, Option.isSome_map]
  rfl
theorem cells3 {w : World} {b : Nat} {v0 v1 v2 : Value} {T : TypeId} (h : w.heap[b]? = some (.cells #[v0, v1, v2] T (0, 0))) : w.cell? ⟨b, 0, none⟩ = some v0 ∧ w.cell? ⟨b, 1, none⟩ = some v1 ∧ w.cell? ⟨b, 2, none⟩ = some v2 := by
  refine ⟨?_, ?_, ?_⟩ <;> (rw [cell_at h]; rfl)
/-- Where a round of Read stands. -/
structure RdSt (w wr : World) (p : Asc) (ah : ByteArray) (q : Nat) (s1 s2 : ByteArray) (fv : Bool) (W : World) : Prop where
  res : W.heap[w.heap.size]? = some (.cells #[.bool false, .string ⟨#[]⟩, .string ⟨#[]⟩, .string ⟨#[]⟩, .int .i64 0] 37 (0, 0))
  ask : W.heap[w.heap.size + 2]? = some (.cells #[.bool false, .string ⟨#[]⟩, .string ⟨#[]⟩, .string ah, .int .i64 q] 37 (0, 0))
  map : MapP W (w.heap.size + 1) p
  fld : W.heap[wr.heap.size]? = some (.cells #[.string s1, .string s2, .bool fv] 34 (0, 0))
  bel : Below w.heap.size w W
  lt : wr.heap.size < W.heap.size
  old : w.heap.size + 2 < wr.heap.size
theorem RdSt.next {w wr : World} {p : Asc} {ah : ByteArray} {q : Nat} {s1 s2 : ByteArray} {fv : Bool} {W W' : World} (h : RdSt w wr p ah q s1 s2 fv W) (hb : Below W.heap.size W W') : RdSt w wr p ah q s1 s2 fv W' :=
  have hl := h.lt
  have ho := h.old
  ⟨(hb.block _ (by omega)).trans h.res, (hb.block _ (by omega)).trans h.ask, h.map.of (hb.block _ (by omega)), (hb.block _ (by omega)).trans h.fld, h.bel.trans (hb.mono h.bel.size), Nat.lt_of_lt_of_le hl hb.size, ho⟩
theorem RdSt.took {w wr : World} {p p' : Asc} {ah : ByteArray} {q : Nat} {s1 s2 : ByteArray} {fv : Bool} {W W' : World} (h : RdSt w wr p ah q s1 s2 fv W) (hg : W.grownBy W' (some (w.heap.size + 1))) (hm : MapP W' (w.heap.size + 1) p') : RdSt w wr p' ah q s1 s2 fv W' :=
  have hl := h.lt
  have ho := h.old
  ⟨(hg.block _ (by omega) (by intro e; injection e with e; omega)).trans h.res, (hg.block _ (by omega) (by intro e; injection e with e; omega)).trans h.ask, hm, (hg.block _ (by omega) (by intro e; injection e with e; omega)).trans h.fld,
    ⟨hg.os.trans h.bel.os, hg.tape.trans h.bel.tape, hg.output.trans h.bel.output, Nat.le_trans h.bel.size hg.size, fun k hk => (hg.block k (by have := h.bel.size; omega) (by intro e; injection e with e; omega)).trans (h.bel.block k hk)⟩, Nat.lt_of_lt_of_le hl hg.size, ho⟩
theorem add_next (a : Addr) (m j : Nat) (hj : j ≠ 0) : a.add (m + j) = ⟨(a.add m).block, (a.add m).off + j, none⟩ := by
  rw [add_block, add_off]
  unfold Addr.add
  rw [if_neg (by omega)]
  simp
theorem cells5 {w : World} {b : Nat} {v0 v1 v2 v3 v4 : Value} {T : TypeId} (h : w.heap[b]? = some (.cells #[v0, v1, v2, v3, v4] T (0, 0))) : w.cell? ⟨b, 0, none⟩ = some v0 ∧ w.cell? ⟨b, 1, none⟩ = some v1 ∧ w.cell? ⟨b, 2, none⟩ = some v2 ∧ w.cell? ⟨b, 3, none⟩ = some v3 ∧ w.cell? ⟨b, 4, none⟩ = some v4 ∧
    w.frozen? ⟨b, 0, none⟩ = false ∧ w.frozen? ⟨b, 1, none⟩ = false ∧ w.frozen? ⟨b, 2, none⟩ = false ∧ w.frozen? ⟨b, 3, none⟩ = false ∧ w.frozen? ⟨b, 4, none⟩ = false := by
  refine ⟨?_, ?_, ?_, ?_, ?_, ?_, ?_, ?_, ?_, ?_⟩ <;> first | (rw [cell_at h]; rfl) | simp [World.frozen?, h]
theorem size37 : sizeT Tryd.prog 37 = some 5 := by kernel_rfl
theorem ag37 : isAg Tryd.prog 37 = true := by kernel_rfl
/-- What Read hands back: the five cells of its result, and a truth value. -/
theorem read_ret {w : World} {R : Nat} {v0 v1 v2 v3 v4 v : Value} {a : Act} {Z : Ending → World → Prop} (hd : a.defers = []) (h2 : a.tmps.getD 2 undef = .pointer (some ⟨R, 0, none⟩)) (h3 : a.tmps.getD 3 undef = v)
    (c0 : w.cell? ⟨R, 0, none⟩ = some v0) (c1 : w.cell? ⟨R, 1, none⟩ = some v1) (c2 : w.cell? ⟨R, 2, none⟩ = some v2) (c3 : w.cell? ⟨R, 3, none⟩ = some v3) (c4 : w.cell? ⟨R, 4, none⟩ = some v4)
    (hZ : Z (.returned (.tuple #[.agg #[v0, v1, v2, v3, v4], v])) w) : bodyPost Tryd.prog Tryd.f20 Z .ret a w := by
  have hl := run_loadVar_cells (P := Tryd.prog) (w := w) (t := 37) (ad := ⟨R, 0, none⟩) (us := [v0, v1, v2, v3, v4]) size37 rfl ag37 (fun j x hj => by
    rw [add_at, Nat.zero_add]
    match j, hj with
    | 0, hj => simp at hj; subst hj; exact c0
    | 1, hj => simp at hj; subst hj; exact c1
    | 2, hj => simp at hj; subst hj; exact c2
    | 3, hj => simp at hj; subst hj; exact c3
    | 4, hj => simp at hj; subst hj; exact c4
    | _ + 5, hj => simp at hj)
  refine bodyPost_ret ?_ hd hZ
  rw [results_cell_tmp (p := 2) (u := 3) (ty := 37) rfl, h2, h3]
  simp [asAddr, hl]
theorem set5 {w : World} {R : Nat} {u0 u1 u2 u3 u4 v0 v1 v2 v3 v4 : Value} {T : TypeId} (h : w.heap[R]? = some (.cells #[u0, u1, u2, u3, u4] T (0, 0))) :
    (((((w.setCell ⟨R, 0, none⟩ v0).setCell ⟨R, 1, none⟩ v1).setCell ⟨R, 2, none⟩ v2).setCell ⟨R, 3, none⟩ v3).setCell ⟨R, 4, none⟩ v4).heap[R]? = some (.cells #[v0, v1, v2, v3, v4] T (0, 0)) := by
  rw [setCell_heap, if_pos rfl, setCell_heap, if_pos rfl, setCell_heap, if_pos rfl, setCell_heap, if_pos rfl, setCell_heap, if_pos rfl, h]
  rfl
theorem setB {w : World} {B g j : Nat} (hg : B ≤ g) (u : Value) : Below B w (w.setCell ⟨g, j, none⟩ u) := ⟨rfl, rfl, rfl, by simp [World.setCell], fun k hk => by rw [setCell_heap, if_neg (by show k ≠ g; omega)]⟩
theorem set5B {w : World} {R B : Nat} {v0 v1 v2 v3 v4 : Value} (h : B ≤ R) : Below B w (((((w.setCell ⟨R, 0, none⟩ v0).setCell ⟨R, 1, none⟩ v1).setCell ⟨R, 2, none⟩ v2).setCell ⟨R, 3, none⟩ v3).setCell ⟨R, 4, none⟩ v4) :=
  ((((setB h _).trans (setB h _)).trans (setB h _)).trans (setB h _)).trans (setB h _)
def ReadPost (w : World) (r : Option RS) (e : Ending) (w' : World) : Prop := ∃ me au ah, e = .returned (.tuple #[.agg #[.bool (rdOut r).1, .string me, .string au, .string ah, .int .i64 (rdOut r).2.2.2.2.1], .bool (rdOut r).2.2.2.2.2]) ∧ bytesL me = (rdOut r).2.1 ∧ bytesL au = (rdOut r).2.2.1 ∧ bytesL ah = (rdOut r).2.2.2.1 ∧ me.size ≤ maxLen ∧ au.size ≤ maxLen ∧ ah.size ≤ maxLen ∧ Below w.heap.size w w'
theorem read_false {w w1 : World} {a : Act} {r : Option RS} {u0 u1 u2 u3 u4 : Value} (hr : rdOut r = (false, [], [], [], 0, false)) (hR : w1.heap[w.heap.size]? = some (.cells #[u0, u1, u2, u3, u4] 37 (0, 0))) (hb : Below w.heap.size w w1) (hd : a.defers = []) (h2 : a.tmps.getD 2 undef = .pointer (some ⟨w.heap.size, 0, none⟩)) (h3 : a.tmps.getD 3 undef = .bool false) :
    bodyPost Tryd.prog Tryd.f20 (ReadPost w r) .ret a (((((w1.setCell ⟨w.heap.size, 0, none⟩ (.bool false)).setCell ⟨w.heap.size, 1, none⟩ (.string ⟨#[]⟩)).setCell ⟨w.heap.size, 2, none⟩ (.string ⟨#[]⟩)).setCell ⟨w.heap.size, 3, none⟩ (.string ⟨#[]⟩)).setCell ⟨w.heap.size, 4, none⟩ (.int .i64 0)) := by
  obtain ⟨c0, c1, c2, c3, c4, _⟩ := cells5 (set5 (v0 := .bool false) (v1 := .string ⟨#[]⟩) (v2 := .string ⟨#[]⟩) (v3 := .string ⟨#[]⟩) (v4 := .int .i64 0) hR)
  refine read_ret hd h2 h3 c0 c1 c2 c3 c4 ⟨⟨#[]⟩, ⟨#[]⟩, ⟨#[]⟩, ?_, ?_, ?_, ?_, by decide, by decide, by decide, hb.trans (set5B (Nat.le_refl _))⟩
  · rw [hr]
  · rw [hr]; rfl
  · rw [hr]; rfl
  · rw [hr]; rfl
theorem read_true {w w1 : World} {a : Act} {r : Option RS} {b : Bool} {me au ah : ByteArray} {q : Int} {u0 u1 u2 u3 u4 : Value} (hr : rdOut r = (b, bytesL me, bytesL au, bytesL ah, q, true)) (z1 : me.size ≤ maxLen) (z2 : au.size ≤ maxLen) (z3 : ah.size ≤ maxLen) (hR : w1.heap[w.heap.size]? = some (.cells #[u0, u1, u2, u3, u4] 37 (0, 0))) (hb : Below w.heap.size w w1) (hd : a.defers = []) (h2 : a.tmps.getD 2 undef = .pointer (some ⟨w.heap.size, 0, none⟩)) (h3 : a.tmps.getD 3 undef = .bool true) :
    bodyPost Tryd.prog Tryd.f20 (ReadPost w r) .ret a (((((w1.setCell ⟨w.heap.size, 0, none⟩ (.bool b)).setCell ⟨w.heap.size, 1, none⟩ (.string me)).setCell ⟨w.heap.size, 2, none⟩ (.string au)).setCell ⟨w.heap.size, 3, none⟩ (.string ah)).setCell ⟨w.heap.size, 4, none⟩ (.int .i64 q)).drew := by
  obtain ⟨c0, c1, c2, c3, c4, _⟩ := cells5 (set5 (v0 := .bool b) (v1 := .string me) (v2 := .string au) (v3 := .string ah) (v4 := .int .i64 q) hR)
  have hB := hb.trans (set5B (R := w.heap.size) (v0 := .bool b) (v1 := .string me) (v2 := .string au) (v3 := .string ah) (v4 := .int .i64 q) (Nat.le_refl _))
  obtain ⟨W2, hW2⟩ : ∃ W2, (((((w1.setCell ⟨w.heap.size, 0, none⟩ (.bool b)).setCell ⟨w.heap.size, 1, none⟩ (.string me)).setCell ⟨w.heap.size, 2, none⟩ (.string au)).setCell ⟨w.heap.size, 3, none⟩ (.string ah)).setCell ⟨w.heap.size, 4, none⟩ (.int .i64 q)) = W2 := ⟨_, rfl⟩
  rw [hW2] at c0 c1 c2 c3 c4 hB ⊢
  have d0 : W2.drew.cell? ⟨w.heap.size, 0, none⟩ = _ := c0
  have d1 : W2.drew.cell? ⟨w.heap.size, 1, none⟩ = _ := c1
  have d2 : W2.drew.cell? ⟨w.heap.size, 2, none⟩ = _ := c2
  have d3 : W2.drew.cell? ⟨w.heap.size, 3, none⟩ = _ := c3
  have d4 : W2.drew.cell? ⟨w.heap.size, 4, none⟩ = _ := c4
  refine read_ret hd h2 h3 d0 d1 d2 d3 d4 ⟨me, au, ah, ?_, ?_, ?_, ?_, z1, z2, z3, hB.drew⟩
  · rw [hr]
  · rw [hr]
  · rw [hr]
  · rw [hr]
theorem val_size {p : Asc} (h : ∀ x ∈ p, x.2.size ≤ maxLen) (k : ByteArray) : (valP' p k).size ≤ maxLen := by
  unfold valP'
  induction p with
  | nil => exact Nat.zero_le _
  | cons x p ih =>
    obtain ⟨a, b⟩ := x
    show ((if a = k then some b else asc p k).getD ⟨#[]⟩).size ≤ maxLen
    by_cases e : a = k
    · rw [if_pos e]; exact h _ (List.mem_cons_self ..)
    · rw [if_neg e]; exact ih fun x hx => h x (List.mem_cons_of_mem _ hx)
theorem first_byte {s : ByteArray} {x : Int} (h : getI (bytesL s) 0 = some x) : ∃ h0 : 0 < s.size, (((s[0]'h0).toNat : Nat) : Int) = x := by
  have h' : (bytesL s)[0]? = some x := h
  rw [bytes_get] at h'
  obtain ⟨c, hc, rfl⟩ := Option.map_eq_some_iff.1 h'
  have hlt : 0 < s.size := by
    have := (List.getElem?_eq_some_iff.1 h).1
    rwa [bytes_len] at this
  refine ⟨hlt, ?_⟩
  have : s[0]? = some (s[0]'hlt) := by simp [hlt]
  rw [this] at hc
  injection hc with hc
  rw [hc]; rfl
theorem alloc3 (w : World) (a b c : Obj) : (((w.alloc a).alloc b).alloc c).heap[w.heap.size]? = some a ∧ (((w.alloc a).alloc b).alloc c).heap[w.heap.size + 1]? = some b ∧ (((w.alloc a).alloc b).alloc c).heap[w.heap.size + 2]? = some c := by
  have h1 : (w.alloc a).heap.size = w.heap.size + 1 := by simp
  have h2 : ((w.alloc a).alloc b).heap.size = w.heap.size + 2 := by simp
  refine ⟨?_, ?_, ?_⟩
  · exact ((heap_alloc_old _ _ (by omega)).trans (heap_alloc_old _ _ (by omega))).trans (heap_alloc_new _ _)
  · rw [← h1]; exact (heap_alloc_old _ _ (by omega)).trans (heap_alloc_new _ _)
  · rw [← h2]; exact heap_alloc_new _ _
theorem alloc3B (w : World) (a b c : Obj) : Below w.heap.size w (((w.alloc a).alloc b).alloc c) := by
  have h1 : (w.alloc a).heap.size = w.heap.size + 1 := by simp
  have h2 : ((w.alloc a).alloc b).heap.size = w.heap.size + 2 := by simp
  exact (((Below.refl _ w).alloc (Nat.le_refl _) _).alloc (by omega) _).alloc (by omega) _
theorem litX (s : ByteArray) : (s.toList == [112, 114, 111, 120, 121, 45, 97, 117, 116, 104, 111, 114, 105, 122, 97, 116, 105, 111, 110]) = (bytesL s == lX) := by
  rw [lit_eq]; rfl
set_option maxHeartbeats 8000000 in
set_option maxRecDepth 1000000 in
theorem read_walk (l : List RF) (a : Option Addr) (n c : Nat) (hlen : l.length = n) (hn : n ≤ 1000000) (w : World)
    (hcells : ∀ i f, l[i]? = some f → ∃ ad s1 s2, a = some ad ∧ bytesL s1 = f.1 ∧ bytesL s2 = f.2.1 ∧ s1.size ≤ maxLen ∧ s2.size ≤ maxLen ∧ w.cell? (ad.add (i * 3)) = some (.string s1) ∧ w.cell? (ad.add (i * 3 + 1)) = some (.string s2) ∧ w.cell? (ad.add (i * 3 + 2)) = some (.bool f.2.2))
    (r : Option RS) (hr : rdFold l ([], false, [], 0) = some r) :
    Calls Tryd.prog 20 #[.slice a n c] w fun e w' => ReadPost w r e w' := by
  have hmm := @run_makeMap Tryd.prog
  go_enter Tryd.func20, Tryd.ntmps20
  go_wp2

  go_loopw [6, 12] (fun late i wr => ∃ (k : Nat) (lt : Bool) (p : Asc) (ah : ByteArray) (q : Nat), i = .int .i64 k ∧ late = .bool lt ∧ k ≤ n ∧ q ≤ k ∧ ah.size ≤ maxLen ∧ (∀ x ∈ p, x.2.size ≤ maxLen) ∧ MapP wr (w.heap.size + 1) p ∧ rdFold (l.drop k) (bl p, lt, bytesL ah, (q : Int)) = some r ∧
    wr.heap[w.heap.size + 2]? = some (.cells #[.bool false, .string ⟨#[]⟩, .string ⟨#[]⟩, .string ah, .int .i64 q] 37 (0, 0)) ∧ wr.heap[w.heap.size]? = some (.cells #[.bool false, .string ⟨#[]⟩, .string ⟨#[]⟩, .string ⟨#[]⟩, .int .i64 0] 37 (0, 0)) ∧ Below w.heap.size w wr) (fun _ i _ => n - (intOf i).toNat)
  case atStart =>
    refine ⟨0, false, [], ⟨#[]⟩, 0, rfl, rfl, by omega, by omega, by decide, fun x hx => (by cases hx), ?_, hr, ?_, ?_, ?_⟩
    · exact ⟨#[], 0, (alloc3 _ _ _ _).2.1, rfl⟩
    · exact (alloc3 _ _ _ _).2.2
    · exact (alloc3 _ _ _ _).1
    · exact alloc3B _ _ _ _
  case round =>
    obtain ⟨k, lt, p, ah, q, rfl, rfl, hk, hqk, hah, hpz, hmap, hfold, hcA, hcR, hb⟩ := hrel
    by_cases hlt : k < n
    · obtain ⟨ad, s1, s2, rfl, hs1, hs2, hz1, hz2, hc1, hc2, hc3⟩ := hcells k _ (List.getElem?_eq_getElem (by omega))
      rw [add_next _ _ _ (by decide)] at hc2 hc3
      have hr0 : wr.cell? (ad.add (k * 3)) = some (.string s1) := (hb.cell (cell_lt hc1)).trans hc1
      have hr1 : wr.cell? ⟨(ad.add (k * 3)).block, (ad.add (k * 3)).off + 1, none⟩ = some (.string s2) := (hb.cell (cell_lt hc2)).trans hc2
      have hr2 : wr.cell? ⟨(ad.add (k * 3)).block, (ad.add (k * 3)).off + 2, none⟩ = some (.bool l[k].2.2) := (hb.cell (cell_lt hc3)).trans hc3
      rw [List.drop_eq_getElem_cons (by omega)] at hfold
      obtain ⟨fv, hfv⟩ : ∃ fv, l[k].2.2 = fv := ⟨_, rfl⟩
      have hf : l[k] = (bytesL s1, bytesL s2, fv) := by rw [hs1, hs2, ← hfv]
      rw [hf] at hfold
      rw [hfv] at hr2
      have hltB : w.heap.size + 2 < wr.heap.size := by
        rcases Nat.lt_or_ge (w.heap.size + 2) wr.heap.size with h | h
        · exact h
        · rw [Array.getElem?_eq_none h] at hcA; cases hcA
      clear hcells hc1 hc2 hc3 hs1 hs2 hf hfv
      have hfold : (rdStep (bytesL s1, bytesL s2, fv) (bl p, lt, bytesL ah, (q : Int))).bind (fun q => match q with | none => some none | some s' => rdFold (l.drop (k + 1)) s') = some r := hfold
      unfold rdStep at hfold
      have hS0 : RdSt w wr p ah q s1 s2 fv (wr.alloc (.cells #[.string s1, .string s2, .bool fv] 34)) := ⟨(heap_alloc_old _ _ (by omega)).trans hcR, (heap_alloc_old _ _ hltB).trans hcA, hmap.of (heap_alloc_old _ _ (by omega)), heap_alloc_new _ _, hb.alloc hb.size _, by simp, hltB⟩
      clear hcA hcR hmap
      cases hna : F_ask_named (bytesL s1) with
      | none => rw [hna] at hfold; cases hfold
      | some na =>
      rw [hna, Option.bind_some] at hfold
      cases na with
      | false =>
        have er : none = r := by injection hfold
        subst er
        go_wp2_with (go_at_call 30; refine (named_calls hz1 hna).mono ?_; rintro e w1 ⟨rfl, hb1⟩; have hS1 := hS0.next hb1; obtain ⟨f10, f11, f12⟩ := cells3 hS1.fld; obtain ⟨r0, r1, r2, r3, r4, g0, g1, g2, g3, g4⟩ := cells5 hS1.res)
        exact read_false rfl hS1.res hS1.bel rfl rfl rfl
      | true =>
      rw [Bool.not_true, cond_false] at hfold
      cases hva : F_ask_valued (bytesL s2) with
      | none => rw [hva] at hfold; cases hfold
      | some va =>
      rw [hva, Option.bind_some] at hfold
      cases va with
      | false =>
        have er : none = r := by injection hfold
        subst er
        go_wp2_with (first | (go_at_call 30; refine (named_calls hz1 hna).mono ?_; rintro e w1 ⟨rfl, hb1⟩; have hS1 := hS0.next hb1; obtain ⟨f10, f11, f12⟩ := cells3 hS1.fld) | (go_at_call 31; refine (valued_calls hz2 hva).mono ?_; rintro e w2 ⟨rfl, hb2⟩; have hS2 := hS1.next hb2; obtain ⟨f20, f21, f22⟩ := cells3 hS2.fld; obtain ⟨r0, r1, r2, r3, r4, g0, g1, g2, g3, g4⟩ := cells5 hS2.res))
        exact read_false rfl hS2.res hS2.bel rfl rfl rfl
      | true =>
      rw [Bool.not_true, cond_false] at hfold
      cases hba : F_ask_barred (bytesL s1) (bytesL s2) fv with
      | none => rw [hba] at hfold; cases hfold
      | some ba =>
      rw [hba, Option.bind_some] at hfold
      cases ba with
      | true =>
        have er : none = r := by injection hfold
        subst er
        go_wp2_with (first | (go_at_call 30; refine (named_calls hz1 hna).mono ?_; rintro e w1 ⟨rfl, hb1⟩; have hS1 := hS0.next hb1; obtain ⟨f10, f11, f12⟩ := cells3 hS1.fld) | (go_at_call 31; refine (valued_calls hz2 hva).mono ?_; rintro e w2 ⟨rfl, hb2⟩; have hS2 := hS1.next hb2; obtain ⟨f20, f21, f22⟩ := cells3 hS2.fld) | (go_at_call 32; refine (barred_calls hz1 hz2 hba).mono ?_; rintro e w3 ⟨rfl, hb3⟩; have hS3 := hS2.next hb3; obtain ⟨f30, f31, f32⟩ := cells3 hS3.fld; obtain ⟨r0, r1, r2, r3, r4, g0, g1, g2, g3, g4⟩ := cells5 hS3.res))
        exact read_false rfl hS3.res hS3.bel rfl rfl rfl
      | false =>
      rw [cond_false] at hfold
      cases hx : getI (bytesL s1) 0 with
      | none => rw [hx] at hfold; cases hfold
      | some x =>
      rw [hx, Option.bind_some] at hfold
      obtain ⟨h0, hx0⟩ := first_byte hx
      have hx0 : ((((s1[0]'h0).toNat : Nat) : Int) == 58) = (x == 58) := by rw [hx0]
      cases hcol : (x == 58) with
      | true =>
        rw [hcol] at hfold hx0
        have hfold : ((takesI (bl p) (bytesL s1) (bytesL s2) lt).map fun p => (p, lt, bytesL ah, (q : Int))).elim (some none) (fun s' => rdFold (l.drop (k + 1)) s') = some r := by
          have h := hfold
          rw [cond_true, Option.bind_some] at h
          cases ht : takesI (bl p) (bytesL s1) (bytesL s2) lt with
          | none => rw [ht] at h; exact h
          | some p' => rw [ht] at h; exact h
        rw [takes_bl] at hfold
        cases ht : takesP p s1 s2 lt with
        | none =>
          rw [ht] at hfold
          have er : none = r := by injection hfold
          subst er
          go_wp2_with (first | (go_at_call 30; refine (named_calls hz1 hna).mono ?_; rintro e w1 ⟨rfl, hb1⟩; have hS1 := hS0.next hb1; obtain ⟨f10, f11, f12⟩ := cells3 hS1.fld) | (go_at_call 31; refine (valued_calls hz2 hva).mono ?_; rintro e w2 ⟨rfl, hb2⟩; have hS2 := hS1.next hb2; obtain ⟨f20, f21, f22⟩ := cells3 hS2.fld) | (go_at_call 32; refine (barred_calls hz1 hz2 hba).mono ?_; rintro e w3 ⟨rfl, hb3⟩; have hS3 := hS2.next hb3; obtain ⟨f30, f31, f32⟩ := cells3 hS3.fld) | (go_at_call 33; refine (takes_walk (nm := s1) (vl := s2) (nv := fv) (late := lt) hS3.map).mono ?_; rintro e w4 ⟨rfl, hm4, hg4⟩; have hS4 := hS3.took hg4 hm4; rw [ht]; obtain ⟨r0, r1, r2, r3, r4, g0, g1, g2, g3, g4⟩ := cells5 hS4.res))
          exact read_false rfl hS4.res hS4.bel rfl rfl rfl
        | some p' =>
          rw [ht] at hfold
          have hfold : rdFold (l.drop (k + 1)) (bl p', lt, bytesL ah, (q : Int)) = some r := hfold
          have hp' : ∀ x ∈ p', x.2.size ≤ maxLen := fun x hx => by
            unfold takesP at ht
            split at ht
            · injection ht with ht
              rw [← ht] at hx
              rcases List.mem_append.1 hx with hx | hx
              · exact hpz x hx
              · obtain rfl := List.mem_singleton.1 hx
                exact hz2
            · cases ht
          go_wp2_with (first | (go_at_call 30; refine (named_calls hz1 hna).mono ?_; rintro e w1 ⟨rfl, hb1⟩; have hS1 := hS0.next hb1; obtain ⟨f10, f11, f12⟩ := cells3 hS1.fld) | (go_at_call 31; refine (valued_calls hz2 hva).mono ?_; rintro e w2 ⟨rfl, hb2⟩; have hS2 := hS1.next hb2; obtain ⟨f20, f21, f22⟩ := cells3 hS2.fld) | (go_at_call 32; refine (barred_calls hz1 hz2 hba).mono ?_; rintro e w3 ⟨rfl, hb3⟩; have hS3 := hS2.next hb3; obtain ⟨f30, f31, f32⟩ := cells3 hS3.fld) | (go_at_call 33; refine (takes_walk (nm := s1) (vl := s2) (nv := fv) (late := lt) hS3.map).mono ?_; rintro e w4 ⟨rfl, hm4, hg4⟩; have hS4 := hS3.took hg4 hm4; rw [ht]))
          rw [ht] at hS4
          refine ⟨⟨k + 1, lt, p', ah, q, by simp, rfl, by omega, by omega, hah, hp', hS4.map, hfold, hS4.ask, hS4.res, hS4.bel⟩, ?_⟩
          simp [intOf]; omega
      | false =>
        rw [hcol] at hfold hx0
        rw [cond_false] at hfold
        have hX := litX s1
        cases hpx : (bytesL s1 == lX) with
        | false =>
          rw [hpx] at hX hfold
          have hfold : rdFold (l.drop (k + 1)) (bl p, true, bytesL ah, (q : Int)) = some r := hfold
          go_wp2_with (first | (go_at_call 30; refine (named_calls hz1 hna).mono ?_; rintro e w1 ⟨rfl, hb1⟩; have hS1 := hS0.next hb1; obtain ⟨f10, f11, f12⟩ := cells3 hS1.fld) | (go_at_call 31; refine (valued_calls hz2 hva).mono ?_; rintro e w2 ⟨rfl, hb2⟩; have hS2 := hS1.next hb2; obtain ⟨f20, f21, f22⟩ := cells3 hS2.fld) | (go_at_call 32; refine (barred_calls hz1 hz2 hba).mono ?_; rintro e w3 ⟨rfl, hb3⟩; have hS3 := hS2.next hb3; obtain ⟨f30, f31, f32⟩ := cells3 hS3.fld))
          refine ⟨⟨k + 1, true, p, ah, q, by simp, rfl, by omega, by omega, hah, hpz, hS3.map, hfold, hS3.ask, hS3.res, hS3.bel⟩, ?_⟩
          simp [intOf]; omega
        | true =>
          rw [hpx] at hX hfold
          by_cases hq : q = 0
          · subst hq
            have hfold : rdFold (l.drop (k + 1)) (bl p, true, bytesL s2, ((0 + 1 : Nat) : Int)) = some r := hfold
            go_wp2_with (first | (go_at_call 30; refine (named_calls hz1 hna).mono ?_; rintro e w1 ⟨rfl, hb1⟩; have hS1 := hS0.next hb1; obtain ⟨f10, f11, f12⟩ := cells3 hS1.fld) | (go_at_call 31; refine (valued_calls hz2 hva).mono ?_; rintro e w2 ⟨rfl, hb2⟩; have hS2 := hS1.next hb2; obtain ⟨f20, f21, f22⟩ := cells3 hS2.fld) | (go_at_call 32; refine (barred_calls hz1 hz2 hba).mono ?_; rintro e w3 ⟨rfl, hb3⟩; have hS3 := hS2.next hb3; obtain ⟨f30, f31, f32⟩ := cells3 hS3.fld; obtain ⟨q0, q1, q2, q3, q4, k0, k1, k2, k3, k4⟩ := cells5 (b := w.heap.size + 1 + 1) hS3.ask))
            refine ⟨⟨k + 1, true, p, s2, 1, by simp, rfl, by omega, by omega, hz2, hpz, hS3.map.of (by rw [setCell_heap, if_neg (by show ¬ w.heap.size + 1 = w.heap.size + 1 + 1; omega), setCell_heap, if_neg (by show ¬ w.heap.size + 1 = w.heap.size + 1 + 1; omega)]), hfold, ?_, ?_, hS3.bel.trans ((setB (by omega) _).trans (setB (by omega) _))⟩, ?_⟩
            · rw [setCell_heap, if_pos rfl, setCell_heap, if_pos rfl, hS3.ask]; rfl
            · rw [setCell_heap, if_neg (by show ¬ w.heap.size = w.heap.size + 1 + 1; omega), setCell_heap, if_neg (by show ¬ w.heap.size = w.heap.size + 1 + 1; omega)]; exact hS3.res
            · simp [intOf]; omega
          · have hq' : ((q : Int) == 0) = false := beq_eq_false_iff_ne.2 (by omega)
            have hfold : (cond true (some (some (bl p, true, cond ((q : Int) == 0) (bytesL s2) (bytesL ah), (q : Int) + 1))) (some (some (bl p, true, bytesL ah, (q : Int))))).bind (fun q => match q with | none => some none | some s' => rdFold (l.drop (k + 1)) s') = some r := hfold
            rw [hq', cond_true, cond_false] at hfold
            have hfold : rdFold (l.drop (k + 1)) (bl p, true, bytesL ah, ((q + 1 : Nat) : Int)) = some r := hfold
            go_wp2_with (first | (go_at_call 30; refine (named_calls hz1 hna).mono ?_; rintro e w1 ⟨rfl, hb1⟩; have hS1 := hS0.next hb1; obtain ⟨f10, f11, f12⟩ := cells3 hS1.fld) | (go_at_call 31; refine (valued_calls hz2 hva).mono ?_; rintro e w2 ⟨rfl, hb2⟩; have hS2 := hS1.next hb2; obtain ⟨f20, f21, f22⟩ := cells3 hS2.fld) | (go_at_call 32; refine (barred_calls hz1 hz2 hba).mono ?_; rintro e w3 ⟨rfl, hb3⟩; have hS3 := hS2.next hb3; obtain ⟨f30, f31, f32⟩ := cells3 hS3.fld; obtain ⟨q0, q1, q2, q3, q4, k0, k1, k2, k3, k4⟩ := cells5 (b := w.heap.size + 1 + 1) hS3.ask))
            refine ⟨⟨k + 1, true, p, ah, q + 1, by simp, rfl, by omega, by omega, hah, hpz, hS3.map.of (by rw [setCell_heap, if_neg (by show ¬ w.heap.size + 1 = w.heap.size + 1 + 1; omega)]), hfold, ?_, ?_, hS3.bel.trans (setB (by omega) _)⟩, ?_⟩
            · rw [setCell_heap, if_pos rfl, hS3.ask]; simp
            · rw [setCell_heap, if_neg (by show ¬ w.heap.size = w.heap.size + 1 + 1; omega)]; exact hS3.res
            · simp [intOf]; omega
    · obtain rfl : k = n := by omega
      rw [List.drop_eq_nil_of_le (by omega)] at hfold
      have er : some (bl p, lt, bytesL ah, (q : Int)) = r := by injection hfold
      subst er
      clear hcells hr
      have hltB : w.heap.size + 2 < wr.heap.size := by
        rcases Nat.lt_or_ge (w.heap.size + 2) wr.heap.size with h | h
        · exact h
        · rw [Array.getElem?_eq_none h] at hcA; cases hcA
      cases hw : wholeP p with
      | false =>
        have ho : rdOut (some (bl p, lt, bytesL ah, (q : Int))) = (false, [], [], [], 0, false) := by
          show cond (wholeI (bl p)) _ _ = _
          rw [← whole_bl, hw]; rfl
        go_wp2_with (go_at_call 34; refine (whole_walk hmap).mono ?_; rintro e w1 ⟨rfl, hb1⟩; rw [hw]; have hR1 := (hb1.block w.heap.size (by omega)).trans hcR; obtain ⟨r0, r1, r2, r3, r4, g0, g1, g2, g3, g4⟩ := cells5 hR1)
        exact read_false ho hR1 (hb.trans (hb1.mono hb.size)) rfl rfl rfl
      | true =>
        go_wp2_with (go_at_call 34; refine (whole_walk hmap).mono ?_; rintro e w1 ⟨rfl, hb1⟩; rw [hw]; have hR1 := (hb1.block w.heap.size (by omega)).trans hcR; have hA1 := (hb1.block (w.heap.size + 2) (by omega)).trans hcA; obtain ⟨r0, r1, r2, r3, r4, g0, g1, g2, g3, g4⟩ := cells5 hR1; obtain ⟨q0, q1, q2, q3, q4, k0, k1, k2, k3, k4⟩ := cells5 (b := w.heap.size + 1 + 1) hA1)
        have hm1 : MapP w1 (w.heap.size + 1) p := hmap.of (hb1.block _ (by omega))
        have hlk : ∀ (W : World) (k : ByteArray), W.heap[w.heap.size + 1]? = w1.heap[w.heap.size + 1]? → (Instr.lookup 60 (.map (some (w.heap.size + 1))) (.string k) false).run Tryd.prog W = .ok (.string (valP' p k)) W := fun W k h => by
          have := run_asc (hm1.of h) k false
          simpa [valP'] using this
        have hneM : w.heap.size + 1 ≠ w.heap.size + 1 + 1 := by omega
        have hl1 := hlk w1.drew ⟨#[58, 109, 101, 116, 104, 111, 100]⟩ rfl
        have hl2 := hlk w1.drew ⟨#[58, 97, 117, 116, 104, 111, 114, 105, 116, 121]⟩ rfl
        have hl3 := fun v => hlk (w1.drew.setCell ⟨w.heap.size + 1 + 1, 1, none⟩ v) ⟨#[58, 97, 117, 116, 104, 111, 114, 105, 116, 121]⟩ (by rw [setCell_heap, if_neg (by show ¬ w.heap.size + 1 = w.heap.size + 1 + 1; omega)]; rfl)
        have hl4 := fun v => hlk (w1.setCell ⟨w.heap.size + 1 + 1, 1, none⟩ v).drew ⟨#[58, 97, 117, 116, 104, 111, 114, 105, 116, 121]⟩ (by rw [heap_drew, setCell_heap, if_neg (by show ¬ w.heap.size + 1 = w.heap.size + 1 + 1; omega)])
        go_region_with fail
        all_goals go_wp2
        all_goals
          refine read_true (q := (q : Int)) (u0 := .bool false) (u1 := .string ⟨#[]⟩) (u2 := .string ⟨#[]⟩) (u3 := .string ⟨#[]⟩) (u4 := .int .i64 0) ?_ (val_size hpz _) (val_size hpz _) hah ?_ (hb.trans ((hb1.mono hb.size).trans (((setB (by omega) _).trans (setB (by omega) _)).trans (setB (by omega) _)))) rfl rfl rfl
          · show cond (wholeI (bl p)) _ _ = _
            rw [← whole_bl, hw, cond_true]
            have e1 := val_bl p kM
            have e2 := val_bl p kA
            have e1 : valI (bl p) lM = _ := e1
            have e2 : valI (bl p) lA = _ := e2
            rw [e1, e2, lit_eq]
            rfl
          · rw [setCell_heap, if_neg (by show ¬ w.heap.size = w.heap.size + 1 + 1; omega), setCell_heap, if_neg (by show ¬ w.heap.size = w.heap.size + 1 + 1; omega), setCell_heap, if_neg (by show ¬ w.heap.size = w.heap.size + 1 + 1; omega)]
            exact hR1
end Go.Proofs.YtgcgdfjldeihkaaDoor
