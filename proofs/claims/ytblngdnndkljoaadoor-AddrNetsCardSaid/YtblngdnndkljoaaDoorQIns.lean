/- slices.Insert of bytes: noughts laid into a row of fewer than sixteen bytes, till there are sixteen. By hand, at this program. -/
import Derived.Test.YtblngdnndkljoaaDoorQh
import Derived.Test.YtblngdnndkljoaaDoorProg
import Derived.Shelf.Spec.SlicesInsertGrow
import Derived.LoopTactic
import Derived.Handy
import Derived.RegionTactic
import Derived.Laws.AppendOwn
import Derived.Deep.RegionLaw
namespace Go.Proofs.YtblngdnndkljoaaDoor
open Go.RowKit Go.Shelf Go.Lib Pv
set_option linter.unusedVariables false
/-- The noughts stand in the gap. -/
def insZ (l : List Int) (g : Nat) : List Int := l.take g ++ List.replicate (16 - l.length) 0 ++ l.drop g
theorem insZ_len {l : List Int} {g : Nat} (hg : g ≤ l.length) (hn : l.length < 16) : (insZ l g).length = 16 := by
  unfold insZ
  simp only [List.length_append, List.length_take, List.length_replicate, List.length_drop]
  omega
theorem insZ_get {l : List Int} {g : Nat} (hg : g ≤ l.length) (hn : l.length < 16) {j : Nat} {x : Int} (h : (insZ l g)[j]? = some x) : (j < g ∧ l[j]? = some x) ∨ (g ≤ j ∧ j < g + (16 - l.length) ∧ x = 0) ∨ (g + (16 - l.length) ≤ j ∧ j < 16 ∧ l[j - (16 - l.length)]? = some x) := by
  have hj : j < 16 := by rw [← insZ_len hg hn]; exact (List.getElem?_eq_some_iff.1 h).1
  unfold insZ at h
  by_cases h1 : j < g
  · refine .inl ⟨h1, ?_⟩
    rw [List.append_assoc, List.getElem?_append_left (by rw [List.length_take]; omega), List.getElem?_take, if_pos h1] at h
    exact h
  · by_cases h2 : j < g + (16 - l.length)
    · refine .inr (.inl ⟨by omega, h2, ?_⟩)
      rw [List.append_assoc, List.getElem?_append_right (by rw [List.length_take]; omega), List.getElem?_append_left (by rw [List.length_take, List.length_replicate]; omega), List.getElem?_replicate] at h
      split at h
      · injection h with h; exact h.symm
      · cases h
    · refine .inr (.inr ⟨by omega, hj, ?_⟩)
      rw [List.getElem?_append_right (by rw [List.length_append, List.length_take, List.length_replicate]; omega), List.getElem?_drop, List.length_append, List.length_take, List.length_replicate] at h
      rw [← h]
      congr 1
      omega
def bv (l : List Int) : List Value := l.map (Value.int .u8)
theorem bv_len (l : List Int) : (bv l).length = l.length := by unfold bv; rw [List.length_map]
theorem bv_one (l : List Int) : ∀ v ∈ bv l, v.oneCell' = true := fun v hv => by
  obtain ⟨x, _, rfl⟩ := List.mem_map.1 hv
  rfl
theorem bv_get {l : List Int} {j : Nat} {v : Value} (h : (bv l)[j]? = some v) : ∃ x, l[j]? = some x ∧ v = .int .u8 x := by
  unfold bv at h
  rw [List.getElem?_map] at h
  obtain ⟨x, h1, h2⟩ := Option.map_eq_some_iff.1 h
  exact ⟨x, h1, h2.symm⟩
theorem bv_drop (l : List Int) (g : Nat) : (bv l).drop g = bv (l.drop g) := by unfold bv; rw [List.map_drop]
theorem bv_take (l : List Int) (g : Nat) : (bv l).take g = bv (l.take g) := by unfold bv; rw [List.map_take]
def zs (m : Nat) : List Value := bv (List.replicate m 0)
theorem zs_len (m : Nat) : (zs m).length = m := by unfold zs; rw [bv_len, List.length_replicate]
theorem zs_get {m j : Nat} {v : Value} (h : (zs m)[j]? = some v) : j < m ∧ v = .int .u8 0 := by
  obtain ⟨x, h1, rfl⟩ := bv_get h
  rw [List.getElem?_replicate] at h1
  split at h1
  · injection h1 with h1; subst h1; exact ⟨by assumption, rfl⟩
  · cases h1
theorem infoU : (Tryd.prog.info? 5).map (fun i => (i.zero, i.size, i.bytes)) = some (some (.int .u8 0), 1, 1) := by kernel_rfl
theorem sizeU (w : World) : (Go.sizeOf 5).run Tryd.prog w = .ok 1 w := by
  obtain ⟨i0, hi, h0, h1, h2⟩ := info_parts infoU
  simp [Go.sizeOf, hi, h1]
  rfl
theorem below_setCells {B b : Nat} (hb : B ≤ b) : ∀ (vs : List Value) (o : Nat) (w : World), Below B w (w.setCells b o vs)
  | [], _, w => Below.refl _ _
  | v :: r, o, w => by
    rw [World.setCells]
    exact (show Below B w (w.setCell ⟨b, o, none⟩ v) from ⟨rfl, rfl, rfl, by simp [World.setCell], fun k hk => by rw [setCell_heap, if_neg (by show k ≠ b; omega)]⟩).trans (below_setCells hb r (o + 1) _)
theorem drew_below (B : Nat) (w : World) : Below B w w.drew := ⟨rfl, rfl, rfl, Nat.le_refl _, fun _ _ => rfl⟩
/-- What is asked of the row that is laid into. -/
def InRow (w : World) (N : Nat) (l : List Int) (vb : Nat) (sv : Value) : Prop :=
  (∃ a, sv = .slice a 0 0 ∧ l = []) ∨ ∃ b cap cur, sv = .slice (some ⟨b, 0, none⟩) l.length cap ∧ N ≤ b ∧ b ≠ vb ∧ w.heap[b]? = some (.cells cur 5 (0, 0)) ∧ l.length ≤ cap ∧ cap ≤ maxLen ∧ cur.size = cap ∧ ∀ (i : Nat) (x : Int), l[i]? = some x → (cur : Array Value)[i]? = some (Value.int .u8 x)
def InsPost (N : Nat) (w : World) (l : List Int) (g : Nat) (e : Ending) (w' : World) : Prop :=
  ∃ B C, e = .returned (.slice (some ⟨B, 0, none⟩) 16 C) ∧ 16 ≤ C ∧ C ≤ maxLen ∧ Below N w w' ∧ ∀ j x, (insZ l g)[j]? = some x → w'.cell? ⟨B, j, none⟩ = some (.int .u8 x)
/-- Where the values lie. -/
def VRow (w : World) (vb m : Nat) : Prop := w.heap[vb]? = some (.cells (zs m).toArray 5 (0, 0))
theorem vrow_cell {w : World} {vb m : Nat} (h : VRow w vb m) : ∀ j v, (zs m)[j]? = some v → w.cell? ((⟨vb, 0, none⟩ : Addr).add j) = some v := fun j v hj => by
  rw [add_at, cell_at h, Nat.zero_add]
  simpa using hj
theorem vrow_src {w : World} {vb m : Nat} (h : VRow w vb m) : Src Tryd.prog 1 27 (.slice (some ⟨vb, 0, none⟩) m m) m (zs m) w :=
  Src.ofSlice w Tryd.underlying27 ⟨vb, 0, none⟩ m m (zs m) (by rw [zs_len, Nat.mul_one]) (vrow_cell h) (bv_one _)
theorem set_res {W : World} {B : Nat} {l : List Int} {g m : Nat} (hg : g ≤ l.length) (hn : l.length + m = 16) (hm : 0 < m) (h1 : ∀ j x, j < g → l[j]? = some x → W.cell? ⟨B, j, none⟩ = some (.int .u8 x)) (h2 : ∀ j, j < m → W.cell? ⟨B, g + j, none⟩ = some (.int .u8 0))
    (h3 : ∀ j x, g ≤ j → l[j]? = some x → W.cell? ⟨B, j + m, none⟩ = some (.int .u8 x)) : ∀ j x, (insZ l g)[j]? = some x → W.cell? ⟨B, j, none⟩ = some (.int .u8 x) := fun j x hj => by
  have hm' : 16 - l.length = m := by omega
  rcases insZ_get hg (by omega) hj with ⟨a, b⟩ | ⟨a, b, rfl⟩ | ⟨a, b, c⟩
  · exact h1 j x a b
  · have := h2 (j - g) (by omega)
    rw [show g + (j - g) = j by omega] at this
    exact this
  · rw [hm'] at a c
    have := h3 (j - m) x (by omega) c
    rw [show j - m + m = j by omega] at this
    exact this
/-- The road where the gap is at the end. -/
theorem end_run (l : List Int) (m : Nat) (hn : l.length + m = 16) (hm : 0 < m) (w : World) (N vb : Nat) (hN : N ≤ w.heap.size) (hv : VRow w vb m) (sv : Value) (hs : InRow w N l vb sv) :
    ∃ B C w', (∀ ty, (Builtin.append_ #[27, 27] ty #[sv, .slice (some ⟨vb, 0, none⟩) m m]).run Tryd.prog w = .ok (.slice (some ⟨B, 0, none⟩) 16 C) w') ∧ 16 ≤ C ∧ C ≤ maxLen ∧ Below N w w' ∧ ∀ j x, (insZ l l.length)[j]? = some x → w'.cell? ⟨B, j, none⟩ = some (.int .u8 x) := by
  obtain ⟨i0, hi5, hz0, hz1, hz2⟩ := info_parts infoU
  have hsrc := vrow_src hv
  have hsrc' : Src Tryd.prog i0.size 27 (.slice (some ⟨vb, 0, none⟩) m m) m (zs m) w := by rw [hz1]; exact hsrc
  have grow : ∀ (base : Option Addr) (n c : Nat), n = l.length → c < n + m → (Builtin.firstCells i0.size n (.slice base n c)).run Tryd.prog w.drew = .ok (bv l).toArray w.drew → ∃ B C w', (∀ ty, (Builtin.append_ #[27, 27] ty #[.slice base n c, .slice (some ⟨vb, 0, none⟩) m m]).run Tryd.prog w = .ok (.slice (some ⟨B, 0, none⟩) 16 C) w') ∧ 16 ≤ C ∧ C ≤ maxLen ∧ Below N w w' ∧ ∀ j x, (insZ l l.length)[j]? = some x → w'.cell? ⟨B, j, none⟩ = some (.int .u8 x) := fun base n c hnl hc hold => by
    subst hnl
    have hrun := fun ty => run_append_grow_src (P := Tryd.prog) w 27 27 ty 5 i0 _ Tryd.underlying27 hi5 hz0 base l.length c (bv l) hold _ m (zs m) hsrc' hc (by omega) (by rw [hz2]; exact growslice_fits hc (by omega))
    refine ⟨w.heap.size, grownCap w (l.length + m) c 5, _, fun ty => by rw [hrun ty, hn], ?_, ?_, ?_, ?_⟩
    · have := grownCap_ge w (l.length + m) c 5; omega
    · exact grownCap_le_maxLen w _ c 5 (by unfold maxLen; omega)
    · exact (drew_below N w).trans ((Below.refl N w.drew).alloc (show N ≤ w.drew.heap.size from hN) _)
    · refine set_res (Nat.le_refl _) hn hm (fun j x hj hx => ?_) (fun j hj => ?_) (fun j x hj hx => ?_)
      · rw [World.cell?_alloc_at (w := w.drew) _ _ w.heap.size _ rfl]
        rw [Array.getElem?_append_left (by simp [bv_len, zs_len]; omega)]
        simp only [List.getElem?_toArray]
        rw [List.getElem?_append_left (by rw [bv_len]; exact hj)]
        unfold bv; rw [List.getElem?_map, hx]; rfl
      · rw [World.cell?_alloc_at (w := w.drew) _ _ w.heap.size _ rfl]
        rw [Array.getElem?_append_left (by simp [bv_len, zs_len]; omega)]
        simp only [List.getElem?_toArray]
        rw [List.getElem?_append_right (by rw [bv_len]; omega), bv_len, Nat.add_sub_cancel_left]
        unfold zs bv; rw [List.getElem?_map, List.getElem?_replicate, if_pos hj]; rfl
      · have := (List.getElem?_eq_some_iff.1 hx).1; omega
  rcases hs with ⟨a, rfl, rfl⟩ | ⟨b, cap, cur, rfl, hb, hbv, hcell, hcap, hmax, hsz, hel⟩
  · refine grow a 0 0 rfl (by simpa using hm) ?_
    cases a with
    | none => exact run_firstCells_none w.drew _ 0 0 0
    | some a => exact run_firstCells_some w.drew _ 0 a 0 0 [] (by simp) (fun j v hj => by simp at hj)
  · have hcs : ∀ j v, (bv l)[j]? = some v → w.cell? ((⟨b, 0, none⟩ : Addr).add j) = some v := fun j v hj => by
      obtain ⟨x, hx, rfl⟩ := bv_get hj
      rw [add_at, cell_at hcell, Nat.zero_add]
      exact hel j x hx
    by_cases hroom : l.length + m ≤ cap
    · have hc : ∀ j, j < (zs m).length → (w.cell? ⟨b, 0 + l.length * i0.size + j, none⟩).isSome = true := fun j hj => by
        rw [zs_len] at hj
        rw [cell_at hcell, hz1, Array.getElem?_eq_getElem (by omega)]; rfl
      have hf : ∀ j, j < (zs m).length → w.frozen? ⟨b, 0 + l.length * i0.size + j, none⟩ = false := fun j hj => by simp [World.frozen?, hcell]
      have hrun := fun ty => run_append_room_src (P := Tryd.prog) w 27 27 ty 5 i0 Tryd.underlying27 hi5 b 0 l.length cap _ m (zs m) hsrc' hroom hc hf
      refine ⟨b, cap, _, fun ty => by rw [hrun ty, hn], by omega, hmax, below_setCells hb _ _ _, ?_⟩
      refine set_res (Nat.le_refl _) hn hm (fun j x hj hx => ?_) (fun j hj => ?_) (fun j x hj hx => ?_)
      · rw [World.cell?_setCells_out b _ _ _ _ (fun _ _ => .inl (by show j < _; rw [hz1]; omega)), cell_at hcell]
        exact hel j x hx
      · have := World.cell?_setCells_in b (zs m) (0 + l.length * i0.size) w hc j (by rw [zs_len]; exact hj)
        rw [hz1, Nat.zero_add, Nat.mul_one] at this ⊢
        rw [this]
        simp [zs, bv]
      · have := (List.getElem?_eq_some_iff.1 hx).1; omega
    · refine grow (some ⟨b, 0, none⟩) l.length cap rfl (by omega) ?_
      rw [hz1]
      exact run_firstCells_some w.drew 1 l.length ⟨b, 0, none⟩ l.length cap (bv l) (by rw [bv_len, Nat.mul_one]) (fun j v hj => hcs j v hj)
set_option maxHeartbeats 4000000 in
set_option maxRecDepth 1000000 in
theorem ins_end (l : List Int) (m : Nat) (hn : l.length + m = 16) (hm : 0 < m) (w : World) (N vb : Nat) (hN : N ≤ w.heap.size) (hv : VRow w vb m) (sv : Value) (hs : InRow w N l vb sv) :
    Calls Tryd.prog 93 #[sv, .int .i64 (l.length : Nat), .slice (some ⟨vb, 0, none⟩) m m] w (InsPost N w l l.length) := by
  obtain ⟨B, C, w', hrun, h1, h2, h3, h4⟩ := end_run l m hn hm w N vb hN hv sv hs
  have hz1 : ¬ ((m : Int) = 0) := by omega
  rcases hs with ⟨a, rfl, rfl⟩ | ⟨b, cap, cur, rfl, hb, hbv, hcell, hcap, hmax, hsz, hel⟩
  · have hn0 : (([] : List Int).length : Int) = 0 := rfl
    rw [hn0]
    go_enter Tryd.func93, Tryd.ntmps93
    cases a with
    | none =>
      go_wp2_with (at_builtin; refine wpList_append_run _ rfl _ _ _ _ rfl _ _ rfl rfl _ _ (hrun _) ?_)
      go_ret
      exact ⟨B, C, rfl, h1, h2, h3, h4⟩
    | some a =>
      obtain ⟨ab, ao, asp⟩ := a
      go_wp2_with (at_builtin; refine wpList_append_run _ rfl _ _ _ _ rfl _ _ rfl rfl _ _ (hrun _) ?_)
      all_goals (go_ret; exact ⟨B, C, rfl, h1, h2, h3, h4⟩)
  · go_enter Tryd.func93, Tryd.ntmps93
    go_wp2_with (at_builtin; refine wpList_append_run _ rfl _ _ _ _ rfl _ _ rfl rfl _ _ (hrun _) ?_)
    all_goals (go_ret; exact ⟨B, C, rfl, h1, h2, h3, h4⟩)
theorem sizeM : (Tryd.prog.info? 5).map (·.size) = some 1 := by kernel_rfl
set_option maxHeartbeats 4000000 in
set_option maxRecDepth 1000000 in
/-- The road in place. -/
theorem ins_shift (l : List Int) (n m g c : Nat) (hl : l.length = n) (hn : n + m = 16) (hm : 0 < m) (hg : g < n) (hroom : n + m ≤ c) (hmax : c ≤ maxLen) (w : World) (N vb b : Nat) (cur : Array Value) (hb : N ≤ b) (hbv : b ≠ vb) (hv : VRow w vb m)
    (hcell : w.heap[b]? = some (.cells cur 5 (0, 0))) (hsz : cur.size = c) (hel : ∀ (i : Nat) x, l[i]? = some x → cur[i]? = some (Value.int .u8 x)) :
    Calls Tryd.prog 93 #[.slice (some ⟨b, 0, none⟩) n c, .int .i64 g, .slice (some ⟨vb, 0, none⟩) m m] w (InsPost N w l g) := by
  have hz1 : ¬ ((m : Int) = 0) := by omega
  have hz2 : ¬ ((g : Int) = (n : Int)) := by omega
  have hc63 : c ≤ 9223372036854775807 := by unfold maxLen at hmax; omega
  have hcs : ∀ j v, (bv l)[j]? = some v → w.cell? ⟨b, 0 + j, none⟩ = some v := fun j v hj => by
    obtain ⟨x, hx, rfl⟩ := bv_get hj
    rw [cell_at hcell, Nat.zero_add]
    exact hel j x hx
  have hsp : ∀ j, j < n + m → (w.cell? ⟨b, j, none⟩).isSome = true := fun j hj => by
    rw [cell_at hcell, Array.getElem?_eq_getElem (by omega)]; rfl
  have hfz : ∀ j, w.frozen? ⟨b, j, none⟩ = false := fun j => by simp [World.frozen?, hcell]
  have hov : ∀ lb cb, (callFunc 126 #[.slice (some ⟨vb, 0, none⟩) m m, .slice (some ⟨b, g + m, none⟩) lb cb]).run Tryd.prog w = .ok (.value (.bool false)) w := fun lb cb => by
    rw [run_callFunc_extern Tryd.func126 (by kernel_rfl) (by kernel_rfl) (by kernel_rfl) (e := Extern.SlicesOverlaps.overlaps #[27, 27] #[4]) (by kernel_rfl),
      run_overlaps_apart w 27 4 5 Tryd.underlying27 1 sizeU ⟨vb, 0, none⟩ ⟨b, g + m, none⟩ m m lb cb hbv.symm 5 5 (zs m).toArray.size c (by unfold VRow at hv; simp [World.shape?, hv]) (by simp [World.shape?, hcell, hsz]) (by omega) (by unfold VRow at hv; simp [World.frozen?, hv]) (by unfold VRow at hv; simp [World.frozen?, hv])]
    rfl
  have hdl : ((bv l).drop g).length = n - g := by rw [List.length_drop, bv_len, hl]
  have hcp1 : ∀ ty dc sc, (Builtin.copy_ #[27, 27] ty #[.slice (some ⟨b, g + m, none⟩) (n + m - (g + m)) dc, .slice (some ⟨b, g, none⟩) (n + m - g) sc]).run Tryd.prog w.drew = .ok (goInt ((bv l).drop g).length) (w.drew.setCells b (g + m) ((bv l).drop g)) := fun ty dc sc =>
    run_copy_cells w.drew 27 27 ty 5 b (g + m) (n + m - (g + m)) dc ⟨b, g, none⟩ (n + m - g) sc _ Tryd.underlying27 sizeM (by rw [hdl]; simp only [Nat.min_def]; split <;> omega)
      (fun j v hj => by rw [Addr.add_lit]; have := hcs (g + j) v (by rwa [List.getElem?_drop] at hj); rw [Nat.zero_add] at this; exact this)
      (fun j hj => hsp _ (by omega)) (fun j _ => hfz _) (fun v hv => bv_one l v (List.mem_of_mem_drop hv))
  obtain ⟨W1, hW1⟩ : ∃ W1, W1 = w.drew.setCells b (g + m) ((bv l).drop g) := ⟨_, rfl⟩
  have hsp1 : ∀ k, k < n + m → (W1.cell? ⟨b, k, none⟩).isSome = true := fun k hk => by
    rw [hW1]
    exact isSome_setCells b ((bv l).drop g) (g + m) w.drew (fun j hj => hsp _ (by rw [hdl] at hj; omega)) k (hsp k hk)
  have hcp2 : ∀ (W : World), (∀ x, W.cell? x = W1.cell? x) → (∀ x, W.frozen? x = W1.frozen? x) → ∀ ty dc, (Builtin.copy_ #[27, 27] ty #[.slice (some ⟨b, g, none⟩) (n + m - g) dc, .slice (some ⟨vb, 0, none⟩) m m]).run Tryd.prog W = .ok (goInt (zs m).length) (W.setCells b g (zs m)) := fun W hWc hWf ty dc =>
    run_copy_cells W 27 27 ty 5 b g (n + m - g) dc ⟨vb, 0, none⟩ m m (zs m) Tryd.underlying27 sizeM (by rw [zs_len]; simp only [Nat.min_def]; split <;> omega)
      (fun j v hj => by
        rw [hWc, hW1, World.cell?_setCells_out b _ _ _ _ (fun h _ => absurd ((add_block _ _).symm.trans h) hbv.symm)]
        exact vrow_cell hv j v hj)
      (fun j hj => by rw [zs_len] at hj; rw [hWc]; exact hsp1 _ (by omega)) (fun j _ => by rw [hWf, hW1, World.frozen?_setCells]; exact hfz _) (bv_one _)
  rw [← hW1] at hcp1
  have hmixed : Tryd.prog.follows .mixedOrders = true := by kernel_rfl
  have hw1 : IntKind.i64.wrap ((g : Int) + (m : Int)) = (g : Int) + (m : Int) := by rw [IntKind.wrap_i64]; omega
  have hb1 : (0 : Int) ≤ (g : Int) + (m : Int) := by omega
  have hin : g ≤ n := by omega
  have htn : ((g : Int) + (m : Int)).toNat = g + m := by omega
  have hb2 : ¬ (c = g + m) := by omega
  have hb3 : (g : Int) ≤ (n : Int) + (m : Int) := by omega
  have hb4 : ¬ (c = g) := by omega
  have fin : InsPost N w l g (.returned (.slice (some ⟨b, 0, none⟩) (n + m) c)) (W1.setCells b g (zs m)) := by
    refine ⟨b, c, by rw [hn], by omega, hmax, ?_, ?_⟩
    · rw [hW1]
      exact ((drew_below N w).trans (below_setCells hb _ _ _)).trans (below_setCells hb _ _ _)
    · refine set_res (m := m) (by omega) (by omega) hm (fun j x hj hx => ?_) (fun j hj => ?_) (fun j x hj hx => ?_)
      · rw [World.cell?_setCells_out b _ _ _ _ (fun _ _ => .inl hj), hW1, World.cell?_setCells_out b _ _ _ _ (fun _ _ => .inl (by show j < _; omega))]
        have := hcs j _ (show (bv l)[j]? = some (.int .u8 x) by unfold bv; rw [List.getElem?_map, hx]; rfl)
        rw [Nat.zero_add] at this
        exact this
      · have := World.cell?_setCells_in b (zs m) g W1 (fun j hj => by rw [zs_len] at hj; exact hsp1 _ (by omega)) j (by rw [zs_len]; exact hj)
        rw [this]
        simp [zs, bv]
      · have hjn : j < n := by rw [← hl]; exact (List.getElem?_eq_some_iff.1 hx).1
        rw [World.cell?_setCells_out b _ _ _ _ (fun _ _ => .inr (by show _ ≤ j + m; rw [zs_len]; omega)), hW1]
        have hjd : j - g < ((bv l).drop g).length := by rw [hdl]; omega
        have := World.cell?_setCells_in b ((bv l).drop g) (g + m) w.drew (fun i hi => hsp _ (by omega)) (j - g) hjd
        rw [show g + m + (j - g) = j + m by omega] at this
        rw [this]
        have e : ((bv l).drop g)[j - g]? = some (.int .u8 x) := by
          rw [List.getElem?_drop, show g + (j - g) = j by omega]
          unfold bv; rw [List.getElem?_map, hx]; rfl
        rw [List.getElem?_eq_getElem hjd] at e
        exact e
  clear hcs hel hn
  go_enter Tryd.func93, Tryd.ntmps93
  go_wp2_with (simp only [hov])
  go_region_law_o (refine step_copy_runI rfl _ _ 27 27 rfl _ _ (by simp [Act.eval, Act.put]) (by simp [Act.eval, Act.put]) (hcp1 _ _ _) ?_)
  go_wp2_with (at_builtin; refine wpList_copy_runI _ rfl _ _ 27 27 rfl _ _ rfl rfl (hcp2 _ (fun _ => rfl) (fun _ => rfl) _ _) ?_)
  go_ret
  first | exact fin | (subst hW1; exact fin)
set_option maxHeartbeats 4000000 in
set_option maxRecDepth 1000000 in
/-- The road to a new row. -/
theorem ins_grow (l : List Int) (n m g c : Nat) (hl : l.length = n) (hn : n + m = 16) (hm : 0 < m) (hg : g < n) (hnc : n ≤ c) (hroom : c < n + m) (w : World) (N vb b : Nat) (cur : Array Value) (hN : N ≤ w.heap.size) (hv : VRow w vb m)
    (hcell : w.heap[b]? = some (.cells cur 5 (0, 0))) (hsz : cur.size = c) (hel : ∀ (i : Nat) x, l[i]? = some x → cur[i]? = some (Value.int .u8 x)) :
    Calls Tryd.prog 93 #[.slice (some ⟨b, 0, none⟩) n c, .int .i64 g, .slice (some ⟨vb, 0, none⟩) m m] w (InsPost N w l g) := by
  obtain ⟨i0, hi5, hz0, hz1', hz2'⟩ := info_parts infoU
  have hz1 : ¬ ((m : Int) = 0) := by omega
  have hz2 : ¬ ((g : Int) = (n : Int)) := by omega
  have hz3 : (c : Int) < (n : Int) + (m : Int) := by omega
  have hcs : ∀ j v, (bv l)[j]? = some v → w.cell? ⟨b, j, none⟩ = some v := fun j v hj => by
    obtain ⟨x, hx, rfl⟩ := bv_get hj
    rw [cell_at hcell]
    exact hel j x hx
  have hbw : b < w.heap.size := (Array.getElem?_eq_some_iff.1 hcell).1
  have hvw : vb < w.heap.size := (Array.getElem?_eq_some_iff.1 hv).1
  have hkk : (n : Int) + (m : Int) - (g : Int) = ((n + m - g : Nat) : Int) := by omega
  have hik : g + (n + m - g) = n + m := by omega
  have hold : (Builtin.firstCells i0.size g (.slice (some ⟨b, 0, none⟩) g c)).run Tryd.prog w.drew = .ok ((bv l).take g).toArray w.drew := by
    rw [hz1']
    exact run_firstCells_some w.drew 1 g ⟨b, 0, none⟩ g c ((bv l).take g) (by rw [List.length_take, bv_len]; omega) (fun j v hj => by
      rw [add_at, Nat.zero_add]
      rw [List.getElem?_take] at hj
      split at hj
      · exact hcs j v hj
      · cases hj)
  obtain ⟨G, hG⟩ : ∃ G, G = grownCap w (n + m) c 5 := ⟨_, rfl⟩
  obtain ⟨ROW, hROW⟩ : ∃ ROW : Array Value, ROW = ((bv l).take g).toArray ++ Builtin.zeroCells (Value.int .u8 0).cells (n + m - g) ++ Builtin.zeroCells (Value.int .u8 0).cells (G - (n + m)) := ⟨_, rfl⟩
  have hrz : ∀ ty, (Builtin.append_ #[27, 3] ty #[.slice (some ⟨b, 0, none⟩) g c, .int .i64 ((n : Int) + (m : Int) - (g : Int))]).run Tryd.prog w =
      .ok (.slice (some ⟨w.heap.size, 0, none⟩) (n + m) G) (w.drew.alloc (.cells ROW 5)) := fun ty => by
    have h := run_append_grow_zeros (P := Tryd.prog) w 27 3 ty 5 i0 _ .i64 .i64 Tryd.underlying27 Tryd.underlying3 hi5 hz0 (some ⟨b, 0, none⟩) g c ((bv l).take g) hold (n + m - g) (by omega) (by omega) (by omega) (by omega) (by rw [hz2']; omega) (by rw [hz2', hik]; exact growslice_fits hroom (by omega))
    rw [hik, ← hG] at h
    rw [hkk, hROW]
    exact h
  have hGn : n + m ≤ G := by rw [hG]; exact grownCap_ge w _ _ _
  have hGm : G ≤ maxLen := by rw [hG]; exact grownCap_le_maxLen w (n + m) c 5 (by unfold maxLen; omega)
  have hG63 : G ≤ 9223372036854775807 := by unfold maxLen at hGm; omega
  have hRl : n + m ≤ ROW.size := by
    rw [hROW]
    simp [Builtin.zeroCells, Value.cells, bv_len]
    omega
  have hR1 : ∀ j x, j < g → l[j]? = some x → ROW[j]? = some (.int .u8 x) := fun j x hj hx => by
    rw [hROW, Array.append_assoc, Array.getElem?_append_left (by simp [bv_len]; omega)]
    simp only [List.getElem?_toArray]
    rw [List.getElem?_take, if_pos hj]
    unfold bv; rw [List.getElem?_map, hx]; rfl
  clear hROW
  obtain ⟨W1, hW1⟩ : ∃ W1, W1 = w.drew.alloc (.cells ROW 5) := ⟨_, rfl⟩
  rw [← hW1] at hrz
  have hNc : ∀ j, W1.cell? ⟨w.heap.size, j, none⟩ = ROW[j]? := fun j => by rw [hW1]; exact World.cell?_alloc_at (w := w.drew) ROW _ w.heap.size j rfl
  have hNs : ∀ j, j < n + m → (W1.cell? ⟨w.heap.size, j, none⟩).isSome = true := fun j hj => by rw [hNc, Array.getElem?_eq_getElem (by omega)]; rfl
  have hNf : ∀ j, W1.frozen? ⟨w.heap.size, j, none⟩ = false := fun j => by rw [hW1]; exact World.frozen?_alloc_at (w := w.drew) ROW _ w.heap.size j rfl
  have hOb : ∀ j v, w.cell? ⟨b, j, none⟩ = some v → W1.cell? ⟨b, j, none⟩ = some v := fun j v h => by rw [hW1, World.cell?_alloc_past (w := w.drew) _ b j hbw]; exact h
  have hOv : ∀ j v, w.cell? ⟨vb, j, none⟩ = some v → W1.cell? ⟨vb, j, none⟩ = some v := fun j v h => by rw [hW1, World.cell?_alloc_past (w := w.drew) _ vb j hvw]; exact h
  have hdl : ((bv l).drop g).length = n - g := by rw [List.length_drop, bv_len, hl]
  have hcpA : ∀ (W : World), (∀ x, W.cell? x = W1.cell? x) → (∀ x, W.frozen? x = W1.frozen? x) → ∀ ty dc, (Builtin.copy_ #[27, 27] ty #[.slice (some ⟨w.heap.size, g, none⟩) (n + m - g) dc, .slice (some ⟨vb, 0, none⟩) m m]).run Tryd.prog W = .ok (goInt (zs m).length) (W.setCells w.heap.size g (zs m)) := fun W hWc hWf ty dc =>
    run_copy_cells W 27 27 ty 5 w.heap.size g (n + m - g) dc ⟨vb, 0, none⟩ m m (zs m) Tryd.underlying27 sizeM (by rw [zs_len]; simp only [Nat.min_def]; split <;> omega)
      (fun j v hj => by
        have := vrow_cell hv j v hj
        rw [add_at, Nat.zero_add] at this ⊢
        rw [hWc]; exact hOv _ v this)
      (fun j hj => by rw [zs_len] at hj; rw [hWc]; exact hNs _ (by omega)) (fun j _ => by rw [hWf]; exact hNf _) (bv_one _)
  have hbN : b ≠ w.heap.size := by omega
  have hcpB : ∀ (W : World), (∀ x, W.cell? x = (W1.setCells w.heap.size g (zs m)).cell? x) → (∀ x, W.frozen? x = (W1.setCells w.heap.size g (zs m)).frozen? x) → ∀ ty dc sc, (Builtin.copy_ #[27, 27] ty #[.slice (some ⟨w.heap.size, g + m, none⟩) (n + m - (g + m)) dc, .slice (some ⟨b, g, none⟩) (n - g) sc]).run Tryd.prog W = .ok (goInt ((bv l).drop g).length) (W.setCells w.heap.size (g + m) ((bv l).drop g)) := fun W hWc hWf ty dc sc =>
    run_copy_cells W 27 27 ty 5 w.heap.size (g + m) (n + m - (g + m)) dc ⟨b, g, none⟩ (n - g) sc _ Tryd.underlying27 sizeM (by rw [hdl]; simp only [Nat.min_def]; split <;> omega)
      (fun j v hj => by
        rw [Addr.add_lit, hWc, World.cell?_setCells_out _ _ _ _ _ (fun h _ => absurd h hbN)]
        exact hOb _ v (hcs (g + j) v (by rwa [List.getElem?_drop] at hj)))
      (fun j hj => by rw [hdl] at hj; rw [hWc]; exact isSome_setCells w.heap.size (zs m) g W1 (fun t ht => by rw [zs_len] at ht; exact hNs _ (by omega)) (g + m + j) (hNs _ (by omega)))
      (fun j _ => by rw [hWf, World.frozen?_setCells]; exact hNf _) (fun v hv => bv_one l v (List.mem_of_mem_drop hv))
  have fin : ∀ W2 : World, (∀ x, W2.cell? x = (W1.setCells w.heap.size g (zs m)).cell? x) → Below N w W2 → InsPost N w l g (.returned (.slice (some ⟨w.heap.size, 0, none⟩) (n + m) G)) (W2.setCells w.heap.size (g + m) ((bv l).drop g)) := fun W2 hWc hbel => by
    have hs2 : ∀ k, k < n + m → (W2.cell? ⟨w.heap.size, k, none⟩).isSome = true := fun k hk => by
      rw [hWc]
      exact isSome_setCells w.heap.size (zs m) g W1 (fun t ht => by rw [zs_len] at ht; exact hNs _ (by omega)) k (hNs k hk)
    refine ⟨w.heap.size, G, by rw [hn], by omega, hGm, hbel.trans (below_setCells hN _ _ _), ?_⟩
    refine set_res (m := m) (by omega) (by omega) hm (fun j x hj hx => ?_) (fun j hj => ?_) (fun j x hj hx => ?_)
    · rw [World.cell?_setCells_out _ _ _ _ _ (fun _ _ => .inl (by show j < _; omega)), hWc, World.cell?_setCells_out _ _ _ _ _ (fun _ _ => .inl hj), hNc]
      exact hR1 j x hj hx
    · rw [World.cell?_setCells_out _ _ _ _ _ (fun _ _ => .inl (by show g + j < _; omega)), hWc]
      have := World.cell?_setCells_in w.heap.size (zs m) g W1 (fun j hj => by rw [zs_len] at hj; exact hNs _ (by omega)) j (by rw [zs_len]; exact hj)
      rw [this]
      simp [zs, bv]
    · have hjn : j < n := by rw [← hl]; exact (List.getElem?_eq_some_iff.1 hx).1
      have hjd : j - g < ((bv l).drop g).length := by rw [hdl]; omega
      have := World.cell?_setCells_in w.heap.size ((bv l).drop g) (g + m) W2 (fun i hi => hs2 _ (by omega)) (j - g) hjd
      rw [show g + m + (j - g) = j + m by omega] at this
      rw [this]
      have e : ((bv l).drop g)[j - g]? = some (.int .u8 x) := by
        rw [List.getElem?_drop, show g + (j - g) = j by omega]
        unfold bv; rw [List.getElem?_map, hx]; rfl
      rw [List.getElem?_eq_getElem hjd] at e
      exact e
  have hbel1 : Below N w W1 := by rw [hW1]; exact (drew_below N w).trans ((Below.refl N w.drew).alloc (show N ≤ w.drew.heap.size from hN) _)
  have hmixed : Tryd.prog.follows .mixedOrders = true := by kernel_rfl
  have hGi : ¬ (G = g) := by omega
  have hGim : ¬ (G = g + m) := by omega
  have hci : ¬ (c = g) := by omega
  have hw1 : IntKind.i64.wrap ((g : Int) + (m : Int)) = (g : Int) + (m : Int) := by rw [IntKind.wrap_i64]; omega
  have hb1 : (0 : Int) ≤ (g : Int) + (m : Int) := by omega
  have hin : g ≤ n := by omega
  have htn : ((g : Int) + (m : Int)).toNat = g + m := by omega
  have hb3 : (g : Int) ≤ (n : Int) := by omega
  subst hW1
  have hE1 : ∀ x, ((w.alloc (.cells ROW 5)).drew).cell? x = (w.drew.alloc (.cells ROW 5)).cell? x := fun x => rfl
  have hE2 : ∀ x, ((w.alloc (.cells ROW 5)).drew).frozen? x = (w.drew.alloc (.cells ROW 5)).frozen? x := fun x => rfl
  have hF1 : ∀ x, (((w.alloc (.cells ROW 5)).drew.setCells w.heap.size g (zs m)).drew).cell? x = ((w.drew.alloc (.cells ROW 5)).setCells w.heap.size g (zs m)).cell? x := fun x => rfl
  have hF2 : ∀ x, (((w.alloc (.cells ROW 5)).drew.setCells w.heap.size g (zs m)).drew).frozen? x = ((w.drew.alloc (.cells ROW 5)).setCells w.heap.size g (zs m)).frozen? x := fun x => rfl
  have hbelF : Below N w (((w.alloc (.cells ROW 5)).drew.setCells w.heap.size g (zs m)).drew) := (hbel1.trans (below_setCells hN (zs m) g _)).trans (drew_below N _)
  clear hkk hik hold hcs hel hG hRl hn hR1 hNc hNs hNf hOb hOv
  go_enter Tryd.func93, Tryd.ntmps93
  go_wp2_with (first
    | (at_builtin; refine wpList_append_run _ rfl _ _ _ _ rfl _ _ rfl rfl _ _ (hrz _) ?_)
    | (at_builtin; refine wpList_copy_runI _ rfl _ _ 27 27 rfl _ _ rfl rfl (hcpA _ hE1 hE2 _ _) ?_)
    | (at_builtin; refine wpList_copy_runI _ rfl _ _ 27 27 rfl _ _ rfl rfl (hcpB _ (fun _ => rfl) (fun _ => rfl) _ _ _) ?_))
  go_region_law_o (refine step_copy_runI rfl _ _ 27 27 rfl (.slice (some ⟨w.heap.size, g + m, none⟩) (n + m - (g + m)) (G - (g + m))) (.slice (some ⟨b, g, none⟩) (n - g) (c - g)) (by simp [Act.eval, Act.put]) (by simp [Act.eval, Act.put]) (hcpB _ hF1 hF2 3 (G - (g + m)) (c - g)) ?_)
  go_wp2
  go_ret
  exact fin _ hF1 hbelF
/-- All roads. -/
theorem insert_calls (l : List Int) (g m : Nat) (hn : l.length + m = 16) (hm : 0 < m) (hg : g ≤ l.length) (w : World) (N vb : Nat) (hN : N ≤ w.heap.size) (hv : VRow w vb m) (sv : Value) (hs : InRow w N l vb sv) :
    Calls Tryd.prog 93 #[sv, .int .i64 g, .slice (some ⟨vb, 0, none⟩) m m] w (InsPost N w l g) := by
  rcases Nat.eq_or_lt_of_le hg with rfl | hlt
  · exact ins_end l m hn hm w N vb hN hv sv hs
  · rcases hs with ⟨a, rfl, rfl⟩ | ⟨b, cap, cur, rfl, hb, hbv, hcell, hcap, hmax, hsz, hel⟩
    · exact absurd hlt (Nat.not_lt_zero _)
    · by_cases hroom : l.length + m ≤ cap
      · exact ins_shift l l.length m g cap rfl hn hm hlt hroom hmax w N vb b cur hb hbv hv hcell hsz hel
      · exact ins_grow l l.length m g cap rfl hn hm hlt hcap (by omega) w N vb b cur hN hv hcell hsz hel
def insOk (l : List Int) (g : Int) : Bool := decide (0 ≤ g) && decide (g ≤ (l.length : Int)) && Nat.blt l.length 16
def insSt (l : List Int) (g : Int) : PSt := ⟨fun i => match Nat.beq i 2 with | true => pstr (insZ l g.toNat) | false => match Nat.beq i 3 with | true => pbool true | false => .dead, fun _ => none, fun _ => false, [], [], []⟩
/-- The end of addr.coloned: the noughts are laid in, the bytes are a string. -/
def insTail (st : PSt) : Option (Bool × PSt) :=
  match st.φ 4, st.φ 5 with
  | .w false [.own k E (.int .u8) l], .w false [.d (.int .i64) g] => match st.O k && Nat.beq E 5 with
    | true => some (insOk l g, insSt l g)
    | false => none
  | _, _ => none
end Go.Proofs.YtblngdnndkljoaaDoor
