/- wlvref1.Encode at this program: by hand. -/
import Derived.Test.YtgcgdfjldeihkaaDoorQEnc
import Derived.Test.YtgcgdfjldeihkaaDoorQc
import Derived.LoopTactic
import Derived.Handy
import Derived.RegionTactic
import Derived.ChangeAlike
import Derived.Laws.AppendOwn
import Derived.Laws.CopyOwn
import Derived.Deep.RegionLaw
namespace Go.Proofs.YtgcgdfjldeihkaaDoor
open Go.RowKit Go.Shelf Pv
set_option linter.unusedVariables false
set_option maxHeartbeats 4000000 in
set_option maxRecDepth 1000000 in
theorem sign_walk (x : Int) (q : Nat) (hq : q < 64) (hx : bits BinOp.and IntKind.i64 x 63 = (q : Int)) (w : World) :
    Calls Tryd.prog 29 #[.int .i64 x] w fun e w' => e = .returned (.int .u8 (byteI (sigs.getD q 0))) ∧ w' = w := by
  go_enter Tryd.func29, Tryd.ntmps29
  go_wp2
  go_ret
  rw [sig_at hq]
  exact ⟨rfl, rfl⟩
theorem info5 : (Tryd.prog.info? 5).map (fun i => (i.zero, i.size, i.bytes)) = some (some (.int .u8 0), 1, 1) := by kernel_rfl
theorem drew_below (B : Nat) (w : World) : Below B w w.drew := ⟨rfl, rfl, rfl, Nat.le_refl _, fun _ _ => rfl⟩
theorem own_cell {w : World} {B g cap n j : Nat} {xs : List Value} (h : w.ownsRow B 5 1 (.slice (some ⟨g, 0, none⟩) n cap) n xs) (hj : j < n) : ∃ u, w.cell? ⟨g, j, none⟩ = some u ∧ w.frozen? ⟨g, j, none⟩ = false := by
  obtain ⟨h0, ⟨h1, _⟩ | ⟨g', cap', cur, e, h2, h3, h4, h5, h6, h7⟩⟩ := h
  · cases h1
  · cases e
    have hlt : j < cur.size := by omega
    exact ⟨cur[j], by rw [cell_at h3]; simp [hlt], by simp [World.frozen?, h3]⟩
theorem own_set {w : World} {B g cap n j : Nat} {xs : List Value} (h : w.ownsRow B 5 1 (.slice (some ⟨g, 0, none⟩) n cap) n xs) (hj : j < n) (u : Value) : (w.setCell ⟨g, j, none⟩ u).ownsRow B 5 1 (.slice (some ⟨g, 0, none⟩) n cap) n (xs.set j u) := by
  obtain ⟨h0, ⟨h1, _⟩ | ⟨g', cap', cur, e, h2, h3, h4, h5, h6, h7⟩⟩ := h
  · cases h1
  · cases e
    refine ⟨by simpa using h0, .inr ⟨g, cap, cur.setIfInBounds j u, rfl, h2, ?_, h4, h5, by simpa using h6, ?_⟩⟩
    · rw [setCell_heap, if_pos rfl, h3]; simp
    · rw [← h7]
      simp [List.take_set]
theorem set_below {w : World} {B g j : Nat} (hg : B ≤ g) (u : Value) : Below B w (w.setCell ⟨g, j, none⟩ u) := ⟨rfl, rfl, rfl, by simp [World.setCell], fun k hk => by rw [setCell_heap, if_neg (by show k ≠ g; omega)]⟩
theorem sgn_q {m t q : Nat} {G d : Int} (ht : t ≤ m) (hd : (2 : Int) ^ (6 * (3 - t)) = d) (h : G / d % 64 = (q : Int)) : sgn m G t = sigs.getD q 0 := by
  unfold sgn
  rw [if_neg (by omega), hd, h, Int.toNat_natCast]
theorem str_of {s : ByteArray} {A : List UInt8} (h : bytesL s = A.map byteI) : s = ⟨A.toArray⟩ := by
  obtain ⟨⟨d⟩⟩ := s
  have h' : d.map byteI = A.map byteI := h
  have : d = A := map_inj h'
  rw [this]
theorem own_rep {w : World} {B n : Nat} {v : Value} {A : List UInt8} (h : w.ownsRow B 5 1 v n (Lib.byteCells A)) : RepD w (fun _ _ => True) (.sl (.int .u8)) (A.map byteI) [v] := by
  obtain ⟨h0, ⟨rfl, rfl⟩ | ⟨g, cap, cur, rfl, h2, h3, h4, h5, h6, h7⟩⟩ := h
  · rw [Lib.byteCells_length] at h0
    have : A = [] := List.eq_nil_of_length_eq_zero (by omega)
    subst this
    exact ⟨none, 0, 0, rfl, rfl, Nat.le_refl _, by unfold maxLen; omega, fun i x hi => by cases hi⟩
  · rw [Lib.byteCells_length, Nat.mul_one] at h0
    have hl : List.length (α := Int) (A.map byteI) = n := by rw [List.length_map]; exact h0
    have := repD_row (w := w) (C := fun _ _ => True) (e := .int .u8) (l := A.map byteI) (B := g) (cap := cap) h3 h5 (by rw [show List.length (α := (Ty.int .u8).D) (A.map byteI) = n from hl]; exact h4) (fun _ _ => trivial) (fun i x hi => ?_)
    · rw [show List.length (α := (Ty.int .u8).D) (A.map byteI) = n from hl] at this
      exact this
    · have hi' : (A.map byteI)[i]? = some x := hi
      rw [List.getElem?_map] at hi'
      obtain ⟨c, hc, rfl⟩ := Option.map_eq_some_iff.1 hi'
      have hin : i < n := by rw [← h0]; exact (List.getElem?_eq_some_iff.1 hc).1
      have hcell : cur.toList[i]? = some (.int .u8 (byteI c)) := by
        have e : (cur.toList.take (n * 1))[i]? = some (.int .u8 (byteI c)) := by
          rw [h7]
          unfold Lib.byteCells
          rw [List.getElem?_map, hc]; rfl
        rw [List.getElem?_take] at e
        split at e
        · exact e
        · cases e
      refine ⟨?_, byte_wf c⟩
      rw [show (Ty.int .u8).size = 1 from rfl, Nat.mul_one, List.drop_eq_getElem_cons (List.getElem?_eq_some_iff.1 hcell).1]
      simp [(List.getElem?_eq_some_iff.1 hcell).2]
/-- The next three bytes, nought behind the end. -/
def nx3 (l : List Int) (i : Nat) : List Value := ((l.drop i).take 3).map (Value.int .u8)
theorem nx3_len (l : List Int) (i : Nat) : (nx3 l i).length = min (l.length - i) 3 := by
  unfold nx3
  rw [List.length_map, List.length_take, List.length_drop]
  omega
theorem nx3_get (l : List Int) (i j : Nat) (v : Value) (h : (nx3 l i)[j]? = some v) : j < 3 ∧ ∃ x, l[i + j]? = some x ∧ v = .int .u8 x := by
  unfold nx3 at h
  rw [List.getElem?_map, List.getElem?_take] at h
  split at h
  · rename_i hj
    rw [List.getElem?_drop] at h
    obtain ⟨x, h1, h2⟩ := Option.map_eq_some_iff.1 h
    exact ⟨hj, x, h1, h2.symm⟩
  · cases h
theorem nx3_splice (l : List Int) (i : Nat) : splice [.int .u8 0, .int .u8 0, .int .u8 0] 0 (nx3 l i) = [Value.int .u8 (l.getD i 0), .int .u8 (l.getD (i + 1) 0), .int .u8 (l.getD (i + 2) 0)] := by
  have e : ∀ j, l.getD (i + j) 0 = (l.drop i).getD j 0 := fun j => by
    rw [List.getD_eq_getElem?_getD, List.getD_eq_getElem?_getD, List.getElem?_drop]
  rw [show l.getD i 0 = l.getD (i + 0) 0 from rfl, e, e, e]
  unfold nx3 splice
  match l.drop i with
  | [] => rfl
  | [a] => rfl
  | [a, b] => rfl
  | a :: b :: c :: r => rfl
set_option maxHeartbeats 4000000 in
set_option maxRecDepth 1000000 in
theorem enc2_walk (l : List Int) (hl : ∀ x ∈ l, 0 ≤ x ∧ x < 256) (a : Option Addr) (n c : Nat) (hlen : l.length = n) (hn : n ≤ 1000000) (hnc : n ≤ c) (w : World) (hcells : ∀ i x, l[i]? = some x → ∃ ad, a = some ad ∧ w.cell? (ad.add i) = some (.int .u8 x)) :
    Calls Tryd.prog 15 #[.slice a n c] w fun e w' => e = .returned (.string ⟨(encB l).toArray⟩) ∧ Below w.heap.size w w' := by
  obtain ⟨i0, hi5, hz0, hz1, hz2⟩ := info_parts info5
  go_enter Tryd.func15, Tryd.ntmps15
  go_wp2
  go_loopw [3, 4] (fun out v wr => ∃ (i k : Nat), v = .int .i64 i ∧ 3 * k = i ∧ i ≤ n + 2 ∧ wr.ownsRow w.heap.size 5 1 out (4 * k) (Lib.byteCells (encK l k)) ∧ Below w.heap.size w wr) (fun _ i _ => n + 3 - (intOf i).toNat)
  case atStart =>
    exact ⟨0, 0, rfl, rfl, by omega, World.ownsRow_nil _ _ _ _, Below.refl _ _⟩
  case round =>
    obtain ⟨i, k, rfl, hik, hk, hown, hb⟩ := hrel
    by_cases hlt : i < n
    · obtain ⟨ad, rfl, _⟩ := hcells i _ (List.getElem?_eq_getElem (by omega))
      have hsz : w.heap.size ≤ wr.heap.size := hb.size
      have hsrc : ∀ j v, (nx3 l i)[j]? = some v → wr.cell? ((ad.add i).add j) = some v := fun j v hj => by
        obtain ⟨_, x, hx, rfl⟩ := nx3_get l i j v hj
        obtain ⟨ad', e, h2⟩ := hcells _ _ hx
        cases e
        rw [add_add, hb.cell (cell_lt h2)]; exact h2
      have hone : ∀ v ∈ nx3 l i, v.oneCell' = true := fun v hv => by
        obtain ⟨j, hj⟩ := List.mem_iff_getElem?.1 hv
        obtain ⟨_, x, _, rfl⟩ := nx3_get l i j v hj
        rfl
      have hnl : (nx3 l i).length = Nat.min (n - i) 3 := by rw [nx3_len, hlen]
      have hin : i ≤ n := by omega
      have hci : ¬ c = i := by omega
      clear hcells
      go_wp2
      go_region_law (refine step_copy_splice rfl (.tmp 14) (.tmp 17) 22 22 rfl 5 Tryd.underlying22 (by kernel_rfl) (some ⟨wr.heap.size, 0, none⟩) (some (ad.add i)) 3 3 (n - i) (c - i) (by simp [Act.eval, Act.put]) (by simp [Act.eval, Act.put]) wr.heap.size 0 [.int .u8 0, .int .u8 0, .int .u8 0] 57 (heap_alloc_new wr _) (nx3 l i) hnl (fun _ => ⟨rfl, _, rfl, fun j v hj => (World.cell?_alloc_lt _ _ _ (cell_lt (hsrc j v hj))).trans (hsrc j v hj)⟩) (by rw [hnl]; show 0 + min _ 3 ≤ 3; omega) hone wr.heap.size wr (((Below.refl _ wr).alloc (Nat.le_refl _) _).trans (drew_below _ _)) (Nat.le_refl _) ?_; intro w4 hg4 hb4)
      have hc0 : w4.cell? ⟨wr.heap.size, 0, none⟩ = some (.int .u8 (l.getD i 0)) := by rw [cell_at hg4.out, nx3_splice]; rfl
      have hc1 : w4.cell? ⟨wr.heap.size, 1, none⟩ = some (.int .u8 (l.getD (i + 1) 0)) := by rw [cell_at hg4.out, nx3_splice]; rfl
      have hc2 : w4.cell? ⟨wr.heap.size, 2, none⟩ = some (.int .u8 (l.getD (i + 2) 0)) := by rw [cell_at hg4.out, nx3_splice]; rfl
      have hsz4 : wr.heap.size ≤ w4.heap.size := hb4.size
      have hown4 : w4.ownsRow w.heap.size 5 1 u3 (4 * k) (Lib.byteCells (encK l k)) := hown.kept (row := none) ⟨hb4.os, hb4.tape, hb4.output, hb4.size, fun b hb _ => hb4.block b hb⟩ (by
        obtain ⟨_, ⟨rfl, _⟩ | ⟨g, cap, cur, rfl, _⟩⟩ := hown
        · exact .inl rfl
        · exact .inr (fun e => by cases e))
      have hb04 : Below w.heap.size w w4 := hb.trans (hb4.mono hsz)
      obtain ⟨m, hm⟩ : ∃ m : Nat, (n - i).min 3 = m := ⟨_, rfl⟩
      obtain ⟨y0, hy0⟩ : ∃ y, l.getD i 0 = y := ⟨_, rfl⟩
      obtain ⟨y1, hy1⟩ : ∃ y, l.getD (i + 1) 0 = y := ⟨_, rfl⟩
      obtain ⟨y2, hy2⟩ : ∃ y, l.getD (i + 2) 0 = y := ⟨_, rfl⟩
      have hr0 := getD_in hl i
      have hr1 := getD_in hl (i + 1)
      have hr2 := getD_in hl (i + 2)
      have hgv : gv l i 3 = y0 * 65536 + y1 * 256 + y2 := by
        show ((0 * 256 + l.getD (i + 0) 0) * 256 + l.getD (i + 1) 0) * 256 + l.getD (i + 2) 0 = _
        rw [show i + 0 = i from rfl, hy0, hy1, hy2]; omega
      rw [hy0] at hr0 hc0
      rw [hy1] at hr1 hc1
      rw [hy2] at hr2 hc2
      obtain ⟨G, hG⟩ : ∃ G, gv l i 3 = G := ⟨_, rfl⟩
      rw [hG] at hgv
      have hw0 : wrap64 y0 = y0 := wr64 (by omega) (by omega)
      have hw1 : wrap64 y1 = y1 := wr64 (by omega) (by omega)
      have hw2 : wrap64 y2 = y2 := wr64 (by omega) (by omega)
      have hp0 : wrap64 (y0 * 65536) = y0 * 65536 := wr64 (by omega) (by omega)
      have hp1 : wrap64 (y1 * 256) = y1 * 256 := wr64 (by omega) (by omega)
      obtain ⟨G1, hG1⟩ : ∃ G1, y0 * 65536 + y1 * 256 = G1 := ⟨_, rfl⟩
      have ho1 : bits BinOp.or IntKind.i64 (y0 * 65536) (y1 * 256) = G1 := by
        rw [← hG1]
        exact bits_join .i64 40 (by decide) (fun n h0 h1 => w64 h0 (by rw [← e40]; exact h1)) 16 (y0 * 65536) (y1 * 256) (by omega) (by omega) (by rw [e40]; omega) (by omega) (by omega) (by rw [e40]; omega)
      have ho2 : bits BinOp.or IntKind.i64 G1 y2 = G := by
        rw [or8 (by omega) (by omega) (by omega) (by omega) (by omega)]; omega
      have hGin : 0 ≤ G ∧ G < 16777216 := by omega
      have hsh : ∀ d : Int, 0 < d → ∃ q : Nat, q < 64 ∧ G / d % 64 = (q : Int) ∧ bits BinOp.and IntKind.i64 (G / d) 63 = (q : Int) := fun d hd => by
        have h1 : 0 ≤ G / d := Int.ediv_nonneg hGin.1 (by omega)
        have h2 : G / d ≤ G := Int.ediv_le_self _ hGin.1
        refine ⟨(G / d % 64).toNat, by omega, by omega, ?_⟩
        rw [and63 h1 (by omega)]; omega
      obtain ⟨q0, hq0, hd0, hx0⟩ := hsh 262144 (by decide)
      obtain ⟨q1, hq1, hd1, hx1⟩ := hsh 4096 (by decide)
      obtain ⟨q2, hq2, hd2, hx2⟩ := hsh 64 (by decide)
      obtain ⟨q3, hq3, hd3, hx3⟩ := hsh 1 (by decide)
      rw [Int.ediv_one] at hd3 hx3
      have hgrp : grp l i 4 = [sgn m G 0, sgn m G 1, sgn m G 2, sgn m G 3] := by
        unfold grp
        rw [hG, show min (l.length - i) 3 = m by rw [hlen]; exact hm]
        rfl
      clear hsh hgv hG1 hl hr0 hr1 hr2 hsrc hone hnl hb4 hg4 hown hb
      rw [hm]
      go_wp2_with (first | (go_at_call 29; refine (sign_walk (G / 262144) q0 hq0 hx0 _).mono ?_; rintro e w' ⟨rfl, hw'⟩; rw [hw']) | (go_at_call 29; refine (sign_walk (G / 4096) q1 hq1 hx1 _).mono ?_; rintro e w' ⟨rfl, hw'⟩; rw [hw']) | (go_at_call 29; refine (sign_walk (G / 64) q2 hq2 hx2 _).mono ?_; rintro e w' ⟨rfl, hw'⟩; rw [hw']) | (go_at_call 29; refine (sign_walk G q3 hq3 hx3 _).mono ?_; rintro e w' ⟨rfl, hw'⟩; rw [hw']) | (at_builtin; refine wpList_append_own _ rfl (.tmp 32) (.tmp 44) 22 rfl w.heap.size 5 i0 (.int .u8 0) 1 1 Tryd.underlying22 hi5 hz0 hz1 hz2 rfl (by decide) _ _ _ rfl (hown4.alloc _) ⟨w4.heap.size, 0, none⟩ 4 4 [.int .u8 (byteI (sigs.getD q0 0)), .int .u8 (byteI (sigs.getD q1 0)), .int .u8 (byteI (sigs.getD q2 0)), .int .u8 (byteI (sigs.getD q3 0))] rfl rfl ?c1 ?c2 ?c3 ?c4 ?c5 ?_))
      case c1 =>
        intro j u hj
        match j, hj with
        | 0, hj => simp at hj; subst hj; simp [Addr.add]
        | 1, hj => simp at hj; subst hj; simp [Addr.add]
        | 2, hj => simp at hj; subst hj; simp [Addr.add]
        | 3, hj => simp at hj; subst hj; simp [Addr.add]
      case c2 => intro u hu; simp at hu; rcases hu with rfl | rfl | rfl | rfl <;> rfl
      case c3 => unfold maxLen; omega
      case c4 => omega
      case c5 => have := hb04.size; simp; omega
      · intro v5 w5 hown5 hgrow _
        have hb05 : Below w.heap.size w w5 := (hb04.alloc hb04.size _).grown hgrow (by have := hb04.size; simp; omega) (fun j hj => (hown4.lt j hj).1)
        obtain ⟨g, cap, hv5⟩ : ∃ g cap, v5 = .slice (some ⟨g, 0, none⟩) (4 * k + 4) cap := by
          rcases hown5.2 with ⟨_, h⟩ | ⟨g, cap, _, h, _⟩
          · omega
          · exact ⟨g, cap, h⟩
        subst hv5
        have hm' : min (n - i) 3 = m := hm
        have hk4 : 4 * k + 4 ≤ 9000000 := by omega
        clear hgrow hown4 hb04 hc0 hc1 hc2 hx0 hx1 hx2 hx3 hw0 hw1 hw2 hp0 hp1 ho1 ho2 hm
        have hgB : w.heap.size ≤ g := (hown5.lt g rfl).1
        have hlenA : (Lib.byteCells (encK l k)).length = 4 * k := by rw [Lib.byteCells_length, encK_len]
        have hnext : Lib.byteCells (encK l (k + 1)) = Lib.byteCells (encK l k) ++ Lib.byteCells [sgn m G 0, sgn m G 1, sgn m G 2, sgn m G 3] := by
          show Lib.byteCells (encK l k ++ grp l (3 * k) 4) = _
          rw [Lib.byteCells_append, hik, hgrp]
        have hd3' : G / 1 % 64 = (q3 : Int) := by rw [Int.ediv_one]; exact hd3
        obtain rfl | rfl | rfl : m = 3 ∨ m = 2 ∨ m = 1 := by omega
        · rw [sgn_q (by omega) (by decide) hd0, sgn_q (by omega) (by decide) hd1, sgn_q (by omega) (by decide) hd2, sgn_q (by omega) (by decide) hd3'] at hnext
          go_wp2
          go_roundw
          case rel => exact ⟨i + 3, k + 1, by simp, by omega, by omega, by rw [hnext]; exact hown5, hb05⟩
          case measure => simp [intOf]; omega
        · rw [sgn_q (by omega) (by decide) hd0, sgn_q (by omega) (by decide) hd1, sgn_q (by omega) (by decide) hd2, show sgn 2 G 3 = 61 from rfl] at hnext
          obtain ⟨uA, hcA, hfA⟩ := own_cell hown5 (j := 4 * k + 3) (by omega)
          have hs := own_set hown5 (j := 4 * k + 3) (by omega) (.int .u8 61)
          rw [List.set_append_right _ _ (by omega), hlenA, show 4 * k + 3 - 4 * k = 3 by omega] at hs
          go_wp2
          refine ⟨⟨i + 3, k + 1, by simp, by omega, by omega, by rw [hnext]; exact hs, hb05.trans (set_below hgB _)⟩, ?_⟩
          simp [intOf]; omega
        · rw [sgn_q (by omega) (by decide) hd0, sgn_q (by omega) (by decide) hd1, show sgn 1 G 2 = 61 from rfl, show sgn 1 G 3 = 61 from rfl] at hnext
          obtain ⟨uA, hcA, hfA⟩ := own_cell hown5 (j := 4 * k + 3) (by omega)
          obtain ⟨uB, hcB, hfB⟩ := own_cell hown5 (j := 4 * k + 2) (by omega)
          have hs := own_set (own_set hown5 (j := 4 * k + 3) (by omega) (.int .u8 61)) (j := 4 * k + 2) (by omega) (.int .u8 61)
          rw [List.set_append_right _ _ (by omega), hlenA, show 4 * k + 3 - 4 * k = 3 by omega, List.set_append_right _ _ (by omega), hlenA, show 4 * k + 2 - 4 * k = 2 by omega] at hs
          go_wp2
          refine ⟨⟨i + 3, k + 1, by simp, by omega, by omega, by rw [hnext]; exact hs, (hb05.trans (set_below hgB _)).trans (set_below hgB _)⟩, ?_⟩
          simp [intOf]; omega
    · have e : (l.length + 2) / 3 = k := by omega
      obtain ⟨s, hrun, hs, _⟩ := bytes_run (P := Tryd.prog) Tryd.underlying22 Tryd.underlying5 Tryd.underlying9 (own_rep hown)
      have hstr := str_of hs
      subst hstr
      go_wp2
      go_ret
      unfold encB
      rw [e]
      exact ⟨rfl, hb⟩
end Go.Proofs.YtgcgdfjldeihkaaDoor
