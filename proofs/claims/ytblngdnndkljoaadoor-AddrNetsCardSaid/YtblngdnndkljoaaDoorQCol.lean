/- The end of addr.coloned, walked by hand. -/
import Derived.Test.YtblngdnndkljoaaDoorQHost
import Derived.Test.YtblngdnndkljoaaDoorQh
import Derived.Test.YtblngdnndkljoaaDoorQIns
import Derived.LoopTactic
import Derived.Handy
import Derived.RegionTactic
namespace Go.Proofs.YtblngdnndkljoaaDoor
open Go.RowKit Go.Shelf Go.Lib Pv
set_option linter.unusedVariables false
theorem tmps_eq {a : Act} {n : Nat} (hs : a.tmps.size = n) : a.tmps = ((List.range n).map (tm a)).toArray := by
  apply Array.ext
  · simp [hs]
  · intro i h1 h2
    simp only [List.getElem_toArray, List.getElem_map, List.getElem_range]
    unfold tm
    rw [Array.getD_eq_getD_getElem?, Array.getElem?_eq_getElem h1]; rfl
noncomputable def colHands : List (Code × (PSt → Option (Bool × PSt))) := match Tryd.f60.body with
  | some c => match annot F_addr_coloned_ann c 0 with
    | some (ac, _) => (ac.withHand 29 insTail).hands
    | none => []
  | none => []
theorem list_range106 (f : Nat → Value) : (List.range 106).map f = [f 0, f 1, f 2, f 3, f 4, f 5, f 6, f 7, f 8, f 9, f 10, f 11, f 12, f 13, f 14, f 15, f 16, f 17, f 18, f 19, f 20, f 21, f 22, f 23, f 24, f 25, f 26, f 27, f 28, f 29, f 30, f 31, f 32, f 33, f 34, f 35, f 36, f 37, f 38, f 39, f 40, f 41, f 42, f 43, f 44, f 45, f 46, f 47, f 48, f 49, f 50, f 51, f 52, f 53, f 54, f 55, f 56, f 57, f 58, f 59, f 60, f 61, f 62, f 63, f 64, f 65, f 66, f 67, f 68, f 69, f 70, f 71, f 72, f 73, f 74, f 75, f 76, f 77, f 78, f 79, f 80, f 81, f 82, f 83, f 84, f 85, f 86, f 87, f 88, f 89, f 90, f 91, f 92, f 93, f 94, f 95, f 96, f 97, f 98, f 99, f 100, f 101, f 102, f 103, f 104, f 105] := rfl
set_option maxRecDepth 1000000 in
set_option maxHeartbeats 4000000 in
theorem col_walk (w0 : World) (C : Com) : ∃ c, colHands = [(c, insTail)] ∧ HandS Tryd.prog (F01 106 w0 C) c insTail := by
  refine ⟨_, rfl, ?_⟩
  intro g st st' a w hAR hst
  unfold insTail at hst
  split at hst
  case h_2 => cases hst
  rename_i k E l gg h4 h5
  split at hst
  case h_2 => cases hst
  rename_i hk
  simp only [Bool.and_eq_true] at hk
  injection hst with hst
  injection hst with hok hst
  have hs4 := hAR.rel.slots 4
  have hs5 := hAR.rel.slots 5
  rw [h4] at hs4
  rw [h5] at hs5
  obtain ⟨h5v, h5w⟩ := rel_int hs5
  obtain ⟨cs, hcs, hcs1⟩ := hs4
  obtain ⟨hrd, hown⟩ := repLs_single.1 hcs
  obtain ⟨v4, hv4, hO⟩ := hown hk.1
  have h4v : tm a 4 = v4 := by
    have h := hcs1.symm.trans hv4
    simpa using h
  have hE : E = 5 := Nat.eq_of_beq_eq_true hk.2
  subst hE
  unfold insOk at hok
  simp only [Bool.and_eq_true, decide_eq_true_eq] at hok
  obtain ⟨⟨hg0, hg1⟩, hn⟩ := hok
  have hn : List.length l < 16 := by
    have : Nat.blt (List.length l) 16 = true := hn
    rwa [Nat.blt_eq] at this
  obtain ⟨n, hnl⟩ : ∃ n, List.length l = n := ⟨_, rfl⟩
  obtain ⟨gN, rfl⟩ : ∃ gN : Nat, gg = (gN : Int) := ⟨Int.toNat gg, (Int.toNat_of_nonneg hg0).symm⟩
  obtain ⟨m, hm⟩ : ∃ m, n + m = 16 := ⟨16 - n, by omega⟩
  have hfr := hAR.rel.fr
  have hN : w0.heap.size ≤ w.heap.size := hfr.size
  have hin : ∀ (w1 : World) (hb : Below w.heap.size w w1), InRow w1 w0.heap.size l w.heap.size v4 := fun w1 hb => by
    rcases hO with ⟨ad, rfl, hl, _⟩ | ⟨b, cap, cur, rfl, hblk, hcell, hlc, hcm, hcs, hel, hC, hW⟩
    · exact .inl ⟨ad, rfl, hl⟩
    · have hbw : b < w.heap.size := (Array.getElem?_eq_some_iff.1 hcell).1
      refine .inr ⟨b, cap, cur, rfl, ?_, by omega, by rw [hb.block b hbw]; exact hcell, hlc, hcm, by rw [hcs]; exact Nat.mul_one _, fun i x hx => ?_⟩
      · rcases hW _ (Nat.le_refl _) with h | h
        · exact h
        · exact h.elim
      · obtain ⟨h1, _⟩ := hel i x hx
        have hi : i < List.length l := (List.getElem?_eq_some_iff.1 hx).1
        rw [show (Ty.int .u8).size = 1 from rfl, Nat.mul_one] at h1
        have hlt : i < cur.size := by rw [hcs, show (Ty.int .u8).size = 1 from rfl]; omega
        rw [List.drop_eq_getElem_cons (by simpa using hlt)] at h1
        simp only [List.take_succ_cons, List.take_zero, List.cons.injEq, and_true, Array.getElem_toList] at h1
        rw [Array.getElem?_eq_getElem hlt, h1]
  have hwf : ∀ x ∈ (show List Int from l), (Lit.int .u8 x).wf = true := fun x hx => by
    obtain ⟨i, hi⟩ := List.mem_iff_getElem?.1 hx
    obtain ⟨ad, nn, c, _, _, _, _, h⟩ := hrd
    obtain ⟨_, us, _, _, _, h1⟩ := h i x hi
    exact h1.2
  have hsv : ∃ a4 c4, v4 = .slice a4 n c4 := by
    rcases hO with ⟨ad, rfl, hl, _⟩ | ⟨b, cap, cur, rfl, _⟩
    · exact ⟨ad, 0, by rw [← hnl, hl]; rfl⟩
    · exact ⟨_, cap, by rw [hnl]⟩
  obtain ⟨a4, c4, rfl⟩ := hsv
  obtain ⟨f, hf⟩ : ∃ f, tm a = f := ⟨_, rfl⟩
  have ha : a = { tmps := #[f 0, f 1, f 2, f 3, f 4, f 5, f 6, f 7, f 8, f 9, f 10, f 11, f 12, f 13, f 14, f 15, f 16, f 17, f 18, f 19, f 20, f 21, f 22, f 23, f 24, f 25, f 26, f 27, f 28, f 29, f 30, f 31, f 32, f 33, f 34, f 35, f 36, f 37, f 38, f 39, f 40, f 41, f 42, f 43, f 44, f 45, f 46, f 47, f 48, f 49, f 50, f 51, f 52, f 53, f 54, f 55, f 56, f 57, f 58, f 59, f 60, f 61, f 62, f 63, f 64, f 65, f 66, f 67, f 68, f 69, f 70, f 71, f 72, f 73, f 74, f 75, f 76, f 77, f 78, f 79, f 80, f 81, f 82, f 83, f 84, f 85, f 86, f 87, f 88, f 89, f 90, f 91, f 92, f 93, f 94, f 95, f 96, f 97, f 98, f 99, f 100, f 101, f 102, f 103, f 104, f 105], defers := [] } := by
    have h1 := tmps_eq hAR.size
    have h2 := hAR.defers
    obtain ⟨t, d⟩ := a
    rw [hf] at h1
    have h1 : t = ((List.range 106).map f).toArray := h1
    have h2 : d = [] := h2
    rw [h1, h2, list_range106]
  rw [hf] at h4v h5v
  rw [ha]
  dsimp only [AC.erase]
  rw [h4v, h5v]
  have hsub : (16 : Int) - (n : Int) = (m : Int) := by omega
  have hmm : (m : Int) ≤ 16 := by omega
  have hm0 : 0 < m := by omega
  have hgn' : (gN : Int) ≤ (n : Int) := by rw [← hnl]; exact hg1
  have hgn : gN ≤ n := by omega
  obtain ⟨i0, hi5, hz0, hz1, hz2⟩ := info_parts infoU
  have hmade : madeCells (Value.int .u8 0).cells (m * i0.size) = (zs m).toArray := by
    rw [hz1, Nat.mul_one]
    apply Array.ext
    · simp [madeCells, zs_len]
    · intro i h1 h2
      simp [madeCells, zs, bv, Value.cells, Nat.mod_one]
  have hmk : (Instr.makeSlice 27 (.int .i64 (m : Int)) (.int .i64 (m : Int))).run Tryd.prog w = .ok (.slice (some ⟨w.heap.size, 0, none⟩) m m) (w.alloc (.cells (zs m).toArray 5)) := by
    have h := run_make (P := Tryd.prog) w 27 5 i0 _ Tryd.underlying27 hi5 hz0 .i64 .i64 (m : Int) (m : Int) (by omega) (Int.le_refl _) (by rw [hz2]; omega) (by omega)
    rw [Int.toNat_natCast, hmade] at h
    exact h
  have hbel0 : Below w.heap.size w (w.alloc (.cells (zs m).toArray 5)) := (Below.refl _ _).alloc (Nat.le_refl _) _
  have hcall := insert_calls l gN m ((congrArg (· + m) hnl).trans hm) hm0 (Nat.le_trans hgn (Nat.le_of_eq hnl.symm)) (w.alloc (.cells (zs m).toArray 5)) w0.heap.size w.heap.size (by rw [World.size_alloc]; omega) (heap_alloc_new w _) (.slice a4 n c4) (hin _ hbel0)
  go_wp2_with (first | (simp only [hmk]) | (go_at_call 93; refine hcall.mono ?_; rintro e w' ⟨B, cap, rfl, hc1, hc2, hbel, hres⟩))
  have hlen16 : (insZ l gN).length = 16 := insZ_len (Nat.le_trans hgn (Nat.le_of_eq hnl.symm)) hn
  have hwfz : ∀ x ∈ insZ l gN, (Lit.int .u8 x).wf = true := fun x hx => by
    unfold insZ at hx
    rcases List.mem_append.1 hx with hx | hx
    · rcases List.mem_append.1 hx with hx | hx
      · exact hwf x (List.mem_of_mem_take hx)
      · rw [(List.mem_replicate.1 hx).2]; rfl
    · exact hwf x (List.mem_of_mem_drop hx)
  have hrep : RepD w' (fun _ _ => True) (.sl (.int .u8)) (insZ l gN) [.slice (some ⟨B, 0, none⟩) 16 cap] := by
    refine ⟨_, _, _, rfl, hlen16, hc1, hc2, fun i x hx => ⟨⟨B, 0, none⟩, [.int .u8 x], rfl, rfl, fun j u hj => ?_, rfl, hwfz x (List.mem_of_getElem? hx)⟩⟩
    obtain ⟨hj0, rfl⟩ : j = 0 ∧ u = .int .u8 x := by
      match j, hj with
      | 0, hj => simp at hj; exact ⟨rfl, hj.symm⟩
    subst hj0
    refine ⟨?_, trivial⟩
    rw [add_at, show (Ty.int .u8).size = 1 from rfl, Nat.mul_one, Nat.add_zero, Nat.zero_add]
    exact hres i x hx
  obtain ⟨s, hrun, hs, hss⟩ := bytes_run (P := Tryd.prog) Tryd.underlying27 Tryd.underlying5 Tryd.underlying9 hrep
  simp only [hrun]
  go_wp2
  refine ⟨⟨C, fun _ => none, g.ρ, fun _ _ => []⟩, ⟨rfl, rfl, ?_⟩, rfl⟩
  rw [← hst]
  have hold : ∀ b, b < w0.heap.size → w'.heap[b]? = w0.heap[b]? := fun b hb => by
    rw [hbel.block b hb, hbel0.block b (by omega)]
    exact hfr.old b hb fun _ h => h
  have hsz' : w.heap.size ≤ w'.heap.size := Nat.le_trans hbel0.size hbel.size
  refine ⟨⟨Nat.le_trans hN hsz', (hbel.os.trans hbel0.os).trans hfr.os, (hbel.tape.trans hbel0.tape).trans hfr.tape, (hbel.output.trans hbel0.output).trans hfr.output, fun b hb _ => hold b hb, fun b cs T fr hb hc => ⟨cs, fr, by rw [hold b hb]; exact hc, rfl, fun _ _ => rfl⟩, fun _ _ _ _ => Iff.rfl, fun _ _ h => h, fun b o h => Nat.lt_of_lt_of_le (hfr.lim b o (hfr.mono b o h)) hsz'⟩, fun i => ?_, fun k σ ls hl => (by cases hl), fun k σ ls hl => (by cases hl), fun t b hk => (by cases hk), fun i t want ag ls hi => ?_, fun d hd => (by cases hd), fun i k hk => ?_, rfl, fun k k' b _ _ h => (by cases h), fun k b j x _ h => (by cases h), fun k b _ h => (by cases h), fun k b _ h => (by cases h), fun j j' x x' hj => (by cases hj)⟩
  · show RelP _ _ w' _ _ _ (match Nat.beq i 2 with | true => pstr (insZ l gN) | false => match Nat.beq i 3 with | true => pbool true | false => .dead)
    cases h2 : Nat.beq i 2 with
    | true =>
      have := Nat.eq_of_beq_eq_true h2
      subst this
      exact ⟨_, ⟨_, [], rfl, ⟨s, rfl, hs, hss⟩, rfl⟩, rfl⟩
    | false =>
      cases h3 : Nat.beq i 3 with
      | true =>
        have := Nat.eq_of_beq_eq_true h3
        subst this
        exact ⟨_, ⟨_, [], rfl, rfl, rfl⟩, rfl⟩
      | false => trivial
  · have hi : (match Nat.beq i 2 with | true => pstr (insZ l gN) | false => match Nat.beq i 3 with | true => pbool true | false => .dead) = .spec t want ag ls := hi
    split at hi
    · cases hi
    · split at hi <;> cases hi
  · have hk : k ∈ keyP (match Nat.beq i 2 with | true => pstr (insZ l gN) | false => match Nat.beq i 3 with | true => pbool true | false => .dead) := hk
    split at hk
    · cases hk
    · split at hk <;> cases hk
theorem F_addr_coloned_hand : ∀ (w : World) (C : Com) (c : Code) (ac : AC) (k : Nat), Tryd.f60.body = some c → annot F_addr_coloned_ann c 0 = some (ac, k) → ∀ p ∈ (ac.withHand 29 insTail).hands, HandS Tryd.prog (F01 Tryd.f60.ntmps w C) p.1 p.2 := by
  intro w C c ac k hc hac p hp
  obtain ⟨c0, h1, h2⟩ := col_walk w C
  have h3 : colHands = (ac.withHand 29 insTail).hands := by
    unfold colHands
    rw [hc]
    show (match annot F_addr_coloned_ann c 0 with | some (ac, _) => (ac.withHand 29 insTail).hands | none => []) = _
    rw [hac]
  rw [← h3, h1] at hp
  obtain rfl := List.mem_singleton.1 hp
  exact h2
end Go.Proofs.YtblngdnndkljoaaDoor
