/- A map of strings that the program makes; the functions over it, by hand. -/
import Derived.Test.YtgcgdfjldeihkaaDoorQBld
import Derived.Test.YtgcgdfjldeihkaaDoorPt
import Derived.LoopTactic
import Derived.Handy
import Derived.MapKept
import Derived.Below
namespace Go.Proofs.YtgcgdfjldeihkaaDoor
open Go.RowKit Go.Shelf Pv
set_option linter.unusedVariables false
abbrev Asc := List (ByteArray × ByteArray)
/-- What stands under a key. -/
def asc : Asc → ByteArray → Option ByteArray
  | [], _ => none
  | (k, v) :: r, s => if k = s then some v else asc r s
def MapP (w : World) (m : Nat) (p : Asc) : Prop := ∃ es clock, w.heap[m]? = some (.map es clock) ∧ es.toList.map (fun e => (e.key, e.val)) = p.map fun x => (Value.string x.1, Value.string x.2)
theorem asc_find : ∀ (p : Asc) (l : List MapEntry) (s : ByteArray) (i : Nat), l.map (fun e => (e.key, e.val)) = p.map (fun x => (Value.string x.1, Value.string x.2)) →
    (asc p s = none ∧ Instr.findNow .string (.string s) l i = some none) ∨ ∃ v j, asc p s = some v ∧ Instr.findNow .string (.string s) l i = some (some (j, .string v))
  | [], [], s, i, _ => .inl ⟨rfl, rfl⟩
  | [], _ :: _, _, _, h => by cases h
  | _ :: _, [], _, _, h => by cases h
  | (k, v) :: p, e :: l, s, i, h => by
    simp only [List.map_cons, List.cons.injEq, Prod.mk.injEq] at h
    obtain ⟨⟨h1, h2⟩, h3⟩ := h
    unfold asc Instr.findNow
    by_cases hk : k = s
    · subst hk
      rw [if_pos rfl, h1]
      exact .inr ⟨v, i, rfl, by simp [Instr.sameNow, h2, (MapKept.bytes_beq k k).2 rfl]⟩
    · rw [if_neg hk, h1]
      have hne : Instr.sameNow .string (.string s) (.string k) = some false := by
        have : (s == k) = false := Bool.eq_false_iff.2 fun e => hk ((MapKept.bytes_beq s k).1 e).symm
        simp [Instr.sameNow, this]
      rw [hne]
      exact asc_find p l s (i + 1) h3
theorem zero9 (w : World) : (zeroValue 9).run Tryd.prog w = .ok (.string ⟨#[]⟩) w := by kernel_rfl
/-- A look-up. -/
theorem run_asc {w : World} {m : Nat} {p : Asc} (h : MapP w m p) (s : ByteArray) (ok : Bool) :
    (Instr.lookup 60 (.map (some m)) (.string s) ok).run Tryd.prog w = .ok (if ok then .tuple #[.string ((asc p s).getD ⟨#[]⟩), .bool (asc p s).isSome] else .string ((asc p s).getD ⟨#[]⟩)) w := by
  obtain ⟨es, clock, hb, he⟩ := h
  have hc : ∀ e, (Instr.checkKey e 10000 9 (.string s)).run Tryd.prog w = .ok () w := fun e => MapKept.run_checkKey (k := .string s) Tryd.underlying9 (by simp [MapKept.IsKey]) e 9999
  rcases asc_find p es.toList s 0 he with ⟨h1, h2⟩ | ⟨v, j, h1, h2⟩
  · rw [h1]
    simp [Instr.lookup, run_underlying Tryd.underlying60, MapKept.run_getObj_map hb, hc, MapKept.run_findKey Tryd.underlying9 h2, Result.andThen]
  · rw [h1]
    simp [Instr.lookup, run_underlying Tryd.underlying60, MapKept.run_getObj_map hb, hc, MapKept.run_findKey Tryd.underlying9 h2, Result.andThen]
/-- A new key. -/
theorem run_new {w : World} {m : Nat} {p : Asc} (h : MapP w m p) {s : ByteArray} (v : ByteArray) (hs : asc p s = none) :
    ∃ w', (Instr.mapUpdate 60 (.map (some m)) (.string s) (.string v)).run Tryd.prog w = .ok () w' ∧ MapP w' m (p ++ [(s, v)]) ∧ w'.os = w.os ∧ w'.tape = w.tape ∧ w'.output = w.output ∧ w'.heap.size = w.heap.size ∧ ∀ b, b ≠ m → w'.heap[b]? = w.heap[b]? := by
  obtain ⟨es, clock, hb, he⟩ := h
  have hc : ∀ e, (Instr.checkKey e 10000 9 (.string s)).run Tryd.prog w = .ok () w := fun e => MapKept.run_checkKey (k := .string s) Tryd.underlying9 (by simp [MapKept.IsKey]) e 9999
  rcases asc_find p es.toList s 0 he with ⟨h1, h2⟩ | ⟨v, j, h1, h2⟩
  · refine ⟨{ w with heap := w.heap.setIfInBounds m (.map (es.push { key := .string s, val := .string v, born := clock }) (clock + 1)) }, ?_, ⟨_, _, (MapKept.heap_set hb).1, by simp [he]⟩, rfl, rfl, rfl, by simp, fun b hne => (MapKept.heap_set hb).2 b hne⟩
    simp [Instr.mapUpdate, run_underlying Tryd.underlying60, MapKept.run_getObj_map hb, hc, MapKept.run_findKey Tryd.underlying9 h2, MapKept.run_setObj_map _ hb, Result.andThen]
  · rw [h1] at hs; cases hs
theorem MapP.of {w w' : World} {m : Nat} {p : Asc} (h : MapP w m p) (he : w'.heap[m]? = w.heap[m]?) : MapP w' m p := by
  obtain ⟨es, clock, h1, h2⟩ := h
  exact ⟨es, clock, he.trans h1, h2⟩
theorem MapP.lt {w : World} {m : Nat} {p : Asc} (h : MapP w m p) : m < w.heap.size := by
  obtain ⟨es, clock, h1, h2⟩ := h
  exact (Array.getElem?_eq_some_iff.1 h1).1
set_option maxHeartbeats 4000000 in
set_option maxRecDepth 1000000 in
theorem cl_walk {w : World} {m B : Nat} {p : Asc} (h : MapP w m p) (hB : w.cell? ⟨B, 0, none⟩ = some (.map (some m))) (s : ByteArray) :
    Calls Tryd.prog 56 #[.string s, .pointer (some ⟨B, 0, none⟩)] w fun e w' => e = .returned (.bool (asc p s).isNone) ∧ w' = w := by
  have hl := run_asc h s true
  rw [if_pos rfl] at hl
  go_enter Tryd.func56, Tryd.ntmps56
  go_wp2
  go_ret
  exact ⟨rfl, rfl⟩
set_option maxHeartbeats 4000000 in
set_option maxRecDepth 1000000 in
theorem idxf_walk {w : World} {m B b n c : Nat} {p : Asc} {zs : List ByteArray} (h : MapP w m p) (hB : w.cell? ⟨B, 0, none⟩ = some (.map (some m))) (hn : zs.length = n) (hn2 : n ≤ 1000) (hz : ∀ j s, zs[j]? = some s → w.cell? ⟨b, j, none⟩ = some (.string s)) :
    Calls Tryd.prog 62 #[.slice (some ⟨b, 0, none⟩) n c, .func (.func 56) #[] #[.pointer (some ⟨B, 0, none⟩)]] w fun e w' => (∃ r : Int, e = .returned (.int .i64 r) ∧ (decide (0 ≤ r)) = zs.any fun s => (asc p s).isNone) ∧ w' = w := by
  go_enter Tryd.func62, Tryd.ntmps62
  go_wp2
  go_loopw [8] (fun v wr => wr = w ∧ ∃ k : Nat, k ≤ n ∧ v = .int .i64 k ∧ (zs.take k).any (fun s => (asc p s).isNone) = false) (fun v _ => n - (intOf v).toNat)
  case atStart => exact ⟨rfl, 0, by omega, rfl, rfl⟩
  case round =>
    obtain ⟨rfl, k, hk, rfl, hnone⟩ := hrel
    by_cases hlt : k < n
    · have hcell := hz k zs[k] (List.getElem?_eq_getElem (by omega))
      have hcl := cl_walk h hB zs[k]
      cases hq : (asc p zs[k]).isNone with
      | true =>
        rw [hq] at hcl
        go_wp2_with (first | (go_at_call 56; refine hcl.mono ?_; rintro e w' ⟨rfl, hw'⟩; rw [hw']) | go_in)
        go_ret
        refine ⟨⟨k, rfl, ?_⟩, rfl⟩
        rw [decide_eq_true (by omega)]
        exact (List.any_eq_true.2 ⟨zs[k], List.getElem_mem (by omega), hq⟩).symm
      | false =>
        rw [hq] at hcl
        go_wp2_with (first | (go_at_call 56; refine hcl.mono ?_; rintro e w' ⟨rfl, hw'⟩; rw [hw']) | go_in)
        refine ⟨⟨trivial, k + 1, by omega, by simp, ?_⟩, by simp [intOf]; omega⟩
        rw [List.take_succ_eq_append_getElem (by omega), List.any_append, hnone]
        simp [hq]
    · obtain rfl : k = n := by omega
      rw [List.take_of_length_le (by omega)] at hnone
      go_wp2
      go_ret
      exact ⟨⟨-1, rfl, by rw [hnone]; rfl⟩, rfl⟩
set_option maxHeartbeats 4000000 in
set_option maxRecDepth 1000000 in
theorem has_walk {w : World} {m b n c : Nat} {p : Asc} {zs : List ByteArray} (h : MapP w m p) (hn : zs.length = n) (hn2 : n ≤ 1000) (hz : ∀ j s, zs[j]? = some s → w.cell? ⟨b, j, none⟩ = some (.string s)) :
    Calls Tryd.prog 44 #[.map (some m), .slice (some ⟨b, 0, none⟩) n c] w fun e w' => e = .returned (.bool (zs.all fun s => (asc p s).isSome)) ∧ Below w.heap.size w w' := by
  have hm := h.lt
  have hb := Below.alloc (Below.refl w.heap.size w) (Nat.le_refl _) (.cells #[.map (some m)] 60)
  have hI := idxf_walk (h.of (w' := w.alloc (.cells #[.map (some m)] 60)) (heap_alloc_old _ _ hm)) (B := w.heap.size) (by simp) (b := b) (c := c) hn hn2 (fun j s hj => (World.cell?_alloc_lt _ _ _ (cell_lt (hz j s hj))).trans (hz j s hj))
  have hall : (zs.all fun s => (asc p s).isSome) = !(zs.any fun s => (asc p s).isNone) := by
    rw [List.not_any_eq_all_not]
    congr 1
    funext s
    cases asc p s <;> rfl
  rw [hall]
  go_enter Tryd.func44, Tryd.ntmps44
  go_wp2_with (first | (go_at_call 62; refine hI.mono ?_; rintro e w' ⟨⟨r, rfl, hr⟩, hw'⟩; rw [hw']) | go_in)
  go_ret
  exact ⟨rfl, hb⟩
theorem below2 {w w1 : World} {o o' : Obj} (h : Below ((w.alloc o).alloc o').heap.size ((w.alloc o).alloc o') w1) : Below w.heap.size w w1 :=
  (((Below.refl _ w).alloc (Nat.le_refl _) o).alloc (by simp) o').trans (h.mono (by simp; omega))
theorem grown_of {w w' : World} {m : Nat} (h : Below w.heap.size w w') : w.grownBy w' (some m) := ⟨h.os, h.tape, h.output, h.size, fun k hk _ => h.block k hk⟩
theorem has1_walk {w : World} {m b : Nat} {p : Asc} {nm : ByteArray} (h : MapP w m p) (hz : w.cell? ⟨b, 0, none⟩ = some (.string nm)) :
    Calls Tryd.prog 44 #[.map (some m), .slice (some ⟨b, 0, none⟩) 1 1] w fun e w' => e = .returned (.bool (asc p nm).isSome) ∧ Below w.heap.size w w' := by
  have := has_walk (c := 1) (zs := [nm]) h rfl (show 1 ≤ 1000 by decide) (b := b) (fun j s hj => by
    match j, hj with
    | 0, hj => simp at hj; subst hj; exact hz
    | _ + 1, hj => simp at hj)
  have e : ([nm].all fun s => (asc p s).isSome) = (asc p nm).isSome := by simp
  rw [e] at this
  exact this
def isM (s : ByteArray) : Bool := s.toList == [58, 109, 101, 116, 104, 111, 100]
def isS (s : ByteArray) : Bool := s.toList == [58, 115, 99, 104, 101, 109, 101]
def isP (s : ByteArray) : Bool := s.toList == [58, 112, 97, 116, 104]
def isA (s : ByteArray) : Bool := s.toList == [58, 97, 117, 116, 104, 111, 114, 105, 116, 121]
def isK (s : ByteArray) : Bool := isM s || isS s || isP s || isA s
def takesP (p : Asc) (nm vl : ByteArray) (late : Bool) : Option Asc := if (isK nm && !late && (asc p nm).isNone) = true then some (p ++ [(nm, vl)]) else none
theorem isK_five (nm : ByteArray) : (isM nm = true ∧ isK nm = true) ∨ (isM nm = false ∧ isS nm = true ∧ isK nm = true) ∨ (isM nm = false ∧ isS nm = false ∧ isP nm = true ∧ isK nm = true) ∨ (isM nm = false ∧ isS nm = false ∧ isP nm = false ∧ isA nm = true ∧ isK nm = true) ∨ (isM nm = false ∧ isS nm = false ∧ isP nm = false ∧ isA nm = false ∧ isK nm = false) := by
  unfold isK
  cases isM nm <;> cases isS nm <;> cases isP nm <;> cases isA nm <;> simp
set_option maxHeartbeats 8000000 in
set_option maxRecDepth 1000000 in
theorem takes_walk {w : World} {m : Nat} {p : Asc} {nm vl : ByteArray} {nv late : Bool} (h : MapP w m p) :
    Calls Tryd.prog 33 #[.map (some m), .agg #[.string nm, .string vl, .bool nv], .bool late] w fun e w' => e = .returned (.bool (takesP p nm vl late).isSome) ∧ MapP w' m ((takesP p nm vl late).getD p) ∧ w.grownBy w' (some m) := by
  have hm := h.lt
  have hA : ∀ o, MapP (w.alloc o) m p := fun o => h.of (heap_alloc_old _ _ hm)
  have hAA : ∀ o o', MapP ((w.alloc o).alloc o') m p := fun o o' => (hA o).of (heap_alloc_old _ _ (by simp; omega))
  cases late with
  | true =>
    have ht : takesP p nm vl true = none := if_neg (by simp)
    rw [ht]
    rcases isK_five nm with ⟨h1, hk⟩ | ⟨h1, h2, hk⟩ | ⟨h1, h2, h3, hk⟩ | ⟨h1, h2, h3, h4, hk⟩ | ⟨h1, h2, h3, h4, hk⟩
    all_goals
      clear hk
      try unfold isM at h1
      try unfold isS at h2
      try unfold isP at h3
      try unfold isA at h4
      go_enter Tryd.func33, Tryd.ntmps33
      go_wp2_with fail
      go_ret
      exact ⟨rfl, hA _, ((Below.refl _ w).alloc (Nat.le_refl _) _).os, rfl, rfl, by simp, fun k hk _ => heap_alloc_old _ _ hk⟩
  | false =>
    rcases isK_five nm with ⟨h1, hk⟩ | ⟨h1, h2, hk⟩ | ⟨h1, h2, h3, hk⟩ | ⟨h1, h2, h3, h4, hk⟩ | ⟨h1, h2, h3, h4, hk⟩
    case inr.inr.inr.inr =>
      have ht : takesP p nm vl false = none := if_neg (by simp [hk])
      rw [ht]
      unfold isM at h1
      unfold isS at h2
      unfold isP at h3
      unfold isA at h4
      go_enter Tryd.func33, Tryd.ntmps33
      go_wp2_with fail
      go_ret
      exact ⟨rfl, hA _, ((Below.refl _ w).alloc (Nat.le_refl _) _).os, rfl, rfl, by simp, fun k hk _ => heap_alloc_old _ _ hk⟩
    all_goals
      try unfold isM at h1
      try unfold isS at h2
      try unfold isP at h3
      try unfold isA at h4
      cases hq : asc p nm with
      | some v =>
        have ht : takesP p nm vl false = none := if_neg (by simp [hq])
        rw [ht]
        go_enter Tryd.func33, Tryd.ntmps33
        go_wp2_with (go_at_call 44; refine (has1_walk (nm := nm) (hAA _ _) (by simp)).mono ?_; rintro e w1 ⟨rfl, hb1⟩; rw [hq])
        go_ret
        exact ⟨rfl, (hAA _ _).of (hb1.block m (by simp; omega)), grown_of (below2 hb1)⟩
      | none =>
        have ht : takesP p nm vl false = some (p ++ [(nm, vl)]) := if_pos (by simp [hq, hk])
        rw [ht]
        go_enter Tryd.func33, Tryd.ntmps33
        go_wp2_with (go_at_call 44; refine (has1_walk (nm := nm) (hAA _ _) (by simp)).mono ?_; rintro e w1 ⟨rfl, hb1⟩; rw [hq]; have hc0 : w1.cell? ⟨w.heap.size, 0, none⟩ = some (.string nm) := (hb1.cell (by simp; omega)).trans (by simp); have hc1 : w1.cell? ⟨w.heap.size, 1, none⟩ = some (.string vl) := (hb1.cell (by simp; omega)).trans (by simp); obtain ⟨w2, hu, hm2, e1, e2, e3, e4, e5⟩ := run_new ((hAA _ _).of (hb1.block m (by simp; omega))) vl hq)
        go_ret
        have hb := below2 hb1
        exact ⟨rfl, hm2, e1.trans hb.os, e2.trans hb.tape, e3.trans hb.output, by rw [e4]; exact hb.size, fun k hk hne => (e5 k (fun e => hne (by rw [e]))).trans (hb.block k hk)⟩
def kM : ByteArray := ⟨#[58, 109, 101, 116, 104, 111, 100]⟩
def kS : ByteArray := ⟨#[58, 115, 99, 104, 101, 109, 101]⟩
def kP : ByteArray := ⟨#[58, 112, 97, 116, 104]⟩
def kA : ByteArray := ⟨#[58, 97, 117, 116, 104, 111, 114, 105, 116, 121]⟩
def valP' (p : Asc) (k : ByteArray) : ByteArray := (asc p k).getD ⟨#[]⟩
def isC (s : ByteArray) : Bool := s.toList == [67, 79, 78, 78, 69, 67, 84]
def wholeP (p : Asc) : Bool := cond (isC (valP' p kM)) ((asc p kA).isSome && !(asc p kS).isSome && !(asc p kP).isSome) (((asc p kM).isSome && ((asc p kS).isSome && (asc p kP).isSome)) && !((valP' p kP).toList == []))
theorem below1 {w w1 : World} {o : Obj} (h : Below (w.alloc o).heap.size (w.alloc o) w1) : Below w.heap.size w w1 :=
  ((Below.refl _ w).alloc (Nat.le_refl _) o).trans (h.mono (by simp))
set_option maxHeartbeats 8000000 in
set_option maxRecDepth 1000000 in
theorem whole_walk {w : World} {m : Nat} {p : Asc} (h : MapP w m p) :
    Calls Tryd.prog 34 #[.map (some m)] w fun e w' => e = .returned (.bool (wholeP p)) ∧ Below w.heap.size w w' := by
  have hm := h.lt
  have hA : ∀ o, MapP (w.alloc o) m p := fun o => h.of (heap_alloc_old _ _ hm)
  have hl := run_asc h ⟨#[58, 109, 101, 116, 104, 111, 100]⟩ false
  simp only [Bool.false_eq_true, if_false] at hl
  have hvm : valP' p kM = (asc p ⟨#[58, 109, 101, 116, 104, 111, 100]⟩).getD ⟨#[]⟩ := rfl
  rw [← hvm] at hl
  unfold wholeP
  obtain ⟨v, hv⟩ : ∃ v, valP' p kM = v := ⟨_, rfl⟩
  rw [hv] at hl ⊢
  cases hC : isC v with
  | true =>
    unfold isC at hC
    rw [cond_true]
    cases ha : (asc p kA).isSome with
    | false =>
      go_enter Tryd.func34, Tryd.ntmps34
      go_wp2_with (go_at_call 44; refine (has1_walk (nm := kA) (hA _) (by simp [kA])).mono ?_; rintro e w1 ⟨rfl, hb1⟩; rw [ha])
      go_ret
      exact ⟨rfl, below1 hb1⟩
    | true =>
      cases hs : (asc p kS).isSome with
      | true =>
        go_enter Tryd.func34, Tryd.ntmps34
        go_wp2_with (first | (go_at_call 44; refine (has1_walk (nm := kA) (hA _) (by simp [kA])).mono ?_; rintro e w1 ⟨rfl, hb1⟩; rw [ha]; have hm1 : MapP w1 m p := (hA _).of (hb1.block m (by simp; omega)); have hlt1 : m < w1.heap.size := hm1.lt) | (go_at_call 44; refine (has1_walk (nm := kS) (hm1.of (heap_alloc_old _ _ hlt1)) (by simp [kS])).mono ?_; rintro e w2 ⟨rfl, hb2⟩; rw [hs]; have hm2 : MapP w2 m p := (hm1.of (heap_alloc_old _ _ hlt1)).of (hb2.block m (by simp; omega)); have hlt2 : m < w2.heap.size := hm2.lt))
        go_ret
        exact ⟨rfl, (below1 hb1).trans ((below1 hb2).mono (below1 hb1).size)⟩
      | false =>
        go_enter Tryd.func34, Tryd.ntmps34
        go_wp2_with (first | (go_at_call 44; refine (has1_walk (nm := kA) (hA _) (by simp [kA])).mono ?_; rintro e w1 ⟨rfl, hb1⟩; rw [ha]; have hm1 : MapP w1 m p := (hA _).of (hb1.block m (by simp; omega)); have hlt1 : m < w1.heap.size := hm1.lt) | (go_at_call 44; refine (has1_walk (nm := kS) (hm1.of (heap_alloc_old _ _ hlt1)) (by simp [kS])).mono ?_; rintro e w2 ⟨rfl, hb2⟩; rw [hs]; have hm2 : MapP w2 m p := (hm1.of (heap_alloc_old _ _ hlt1)).of (hb2.block m (by simp; omega)); have hlt2 : m < w2.heap.size := hm2.lt) | (go_at_call 44; refine (has1_walk (nm := kP) (hm2.of (heap_alloc_old _ _ hlt2)) (by simp [kP])).mono ?_; rintro e w3 ⟨rfl, hb3⟩))
        go_ret
        exact ⟨by simp, ((below1 hb1).trans ((below1 hb2).mono (below1 hb1).size)).trans ((below1 hb3).mono ((below1 hb1).trans ((below1 hb2).mono (below1 hb1).size)).size)⟩
  | false =>
    unfold isC at hC
    rw [cond_false]
    cases hall : ((asc p kM).isSome && ((asc p kS).isSome && (asc p kP).isSome)) with
    | false =>
      go_enter Tryd.func34, Tryd.ntmps34
      go_wp2_with (go_at_call 44; refine (has_walk (zs := [kM, kS, kP]) (hA _) rfl (show 3 ≤ 1000 by decide) (fun j s hj => by (match j, hj with | 0, hj => simp at hj; subst hj; simp [kM] | 1, hj => simp at hj; subst hj; simp [kS] | 2, hj => simp at hj; subst hj; simp [kP] | _ + 3, hj => simp at hj))).mono ?_; rintro e w1 ⟨rfl, hb1⟩; rw [show ([kM, kS, kP].all fun s => (asc p s).isSome) = ((asc p kM).isSome && ((asc p kS).isSome && (asc p kP).isSome)) by simp, hall])
      go_ret
      exact ⟨rfl, below1 hb1⟩
    | true =>
      have hvp : valP' p kP = (asc p ⟨#[58, 112, 97, 116, 104]⟩).getD ⟨#[]⟩ := rfl
      go_enter Tryd.func34, Tryd.ntmps34
      go_wp2_with (go_at_call 44; refine (has_walk (zs := [kM, kS, kP]) (hA _) rfl (show 3 ≤ 1000 by decide) (fun j s hj => by (match j, hj with | 0, hj => simp at hj; subst hj; simp [kM] | 1, hj => simp at hj; subst hj; simp [kS] | 2, hj => simp at hj; subst hj; simp [kP] | _ + 3, hj => simp at hj))).mono ?_; rintro e w1 ⟨rfl, hb1⟩; rw [show ([kM, kS, kP].all fun s => (asc p s).isSome) = ((asc p kM).isSome && ((asc p kS).isSome && (asc p kP).isSome)) by simp, hall]; have hl1 := run_asc ((hA _).of (hb1.block m (by simp; omega))) ⟨#[58, 112, 97, 116, 104]⟩ false; simp only [Bool.false_eq_true, if_false] at hl1; rw [← hvp] at hl1)
      go_ret
      exact ⟨by simp [hvp], below1 hb1⟩
end Go.Proofs.YtgcgdfjldeihkaaDoor
