/- Texts of this claim, one behind the other. -/
import Derived.Test.YtgfmfgombmpodaaDoorTaleTellsM3
import Derived.Shelf.Strings.BuilderK
import Derived.WalkKit
import Derived.BigCall
import Derived.KernelRfl
import Derived.LoopTactic
import Derived.Handy
import Derived.RegionTactic
import Derived.ChangeAlike
import Derived.Laws.AppendOwn
import Derived.Laws.CopyOwn
import Derived.Deep.RegionLaw
import Derived.Shelf.Bytes.SlClone
import Derived.Shelf.Spec.SlicesGrow
import Derived.Test.YtgfmfgombmpodaaDoorProg
import Derived.Laws.Bits
/- strings.Builder's writers at this program, by hand: the body of copyCheck ends in a refusal in place of a panic here. -/
namespace Go.Proofs.YtgfmfgombmpodaaDoor
open Go.RowKit Go.Shelf
set_option linter.unusedVariables false
theorem szB : (Tryd.prog.info? 70).map (·.size) = some 2 := by kernel_rfl
theorem liB : liesAt Tryd.prog Tryd.prog.depth 70 (2 / Tryd.prog.cellsOf 70) 0 70 1 = true := by kernel_rfl
theorem infB : (Tryd.prog.info? 5).map (fun i => (i.zero, i.size, i.bytes)) = some (some (.int .u8 0), 1, 1) := by kernel_rfl
set_option maxHeartbeats 1000000 in
set_option maxRecDepth 100000 in
theorem cc_used (b : Nat) (w : World) (h0 : w.cell? ⟨b, 0, none⟩ = some (.pointer (some ⟨b, 0, none⟩))) :
    Calls Tryd.prog 73 #[.pointer (some ⟨b, 0, none⟩)] w fun e w' => e = .returned (.tuple #[]) ∧ w' = w := by
  obtain ⟨j, hj, _⟩ := Option.map_eq_some_iff.1 szB
  go_enter Tryd.func73, Tryd.ntmps73
  go_wp2
  rw [Lib.run_neq_ptr_same w _ Tryd.underlying68 hj]
  go_wp2
  go_end0
  exact ⟨rfl, rfl⟩
set_option maxHeartbeats 1000000 in
set_option maxRecDepth 100000 in
theorem cc_fresh (b : Nat) (w : World) (h0 : w.cell? ⟨b, 0, none⟩ = some (.pointer none)) (hsh : w.shape? b = some (70, 2)) (hfz : w.frozen? ⟨b, 0, none⟩ = false) :
    Calls Tryd.prog 73 #[.pointer (some ⟨b, 0, none⟩)] w fun e w' => e = .returned (.tuple #[]) ∧ w' = w.setCell ⟨b, 0, none⟩ (.pointer (some ⟨b, 0, none⟩)) := by
  obtain ⟨j, hj, hjs⟩ := Option.map_eq_some_iff.1 szB
  go_enter Tryd.func73, Tryd.ntmps73
  go_wp2
  rw [Lib.run_to_unsafe w ⟨b, 0, none⟩ Tryd.underlying68 Tryd.underlying114 hj (by rw [hjs]; decide) hsh (Nat.zero_lt_succ 1)]
  simp only [Result.andThen]
  rw [Oper.upon_value]
  go_wp2
  rw [run_callFunc_extern Tryd.func88 (by kernel_rfl) (by kernel_rfl) (by kernel_rfl) (e := Extern.AbiNoEscape.same) (by kernel_rfl)]
  rw [Lib.run_noEscape]
  simp only [Result.andThen]
  rw [Oper.upon_value]
  go_wp2
  rw [Lib.run_from_unsafe w ⟨b, 0, none⟩ Tryd.underlying114 Tryd.underlying68 hj hsh liB]
  simp only [Result.andThen]
  rw [Oper.upon_value]
  go_wp2
  go_end0
  exact ⟨rfl, rfl⟩
theorem cc_k (B b : Nat) (bs : List Value) (w : World) (h : Lib.IsBuilderF 70 5 B b bs w) :
    Calls Tryd.prog 73 #[.pointer (some ⟨b, 0, none⟩)] w fun e w' => e = .returned (.tuple #[]) ∧ (Lib.BuilderAtF 70 5 B b (.pointer (some ⟨b, 0, none⟩)) bs w' ∧ Below B w w' ∧ Lib.OthersKept 5 (some b) w w') := by
  rcases h with h | h
  · refine (cc_fresh b w h.cell0 h.shape h.frozen0).mono ?_
    rintro e w' ⟨rfl, rfl⟩
    exact ⟨rfl, h.used _, (Below.refl B w).setCell (p := ⟨b, 0, none⟩) h.1 _, (Lib.OthersKept.refl _ _ w).setCell ⟨b, 0, none⟩ rfl _⟩
  · refine (cc_used b w h.cell0).mono ?_
    rintro e w' ⟨rfl, rfl⟩
    exact ⟨rfl, h, Below.refl B _, Lib.OthersKept.refl _ _ _⟩
set_option maxHeartbeats 2000000 in
set_option maxRecDepth 100000 in
theorem wb_k (B b : Nat) (bs : List Value) (c : Int) (w : World) (h : Lib.IsBuilderF 70 5 B b bs w) (hlen : bs.length + 1 ≤ 140737488355328) (hBw : B ≤ w.heap.size) :
    Calls Tryd.prog 52 #[.pointer (some ⟨b, 0, none⟩), .int .u8 c] w fun e w' => e = .returned .nilIface ∧ (Lib.BuilderAtF 70 5 B b (.pointer (some ⟨b, 0, none⟩)) (bs ++ [.int .u8 c]) w' ∧ Below B w w' ∧ Lib.OthersKept 5 (some b) w w') := by
  obtain ⟨i0, hi, hz0, hz1, hz2⟩ := info_parts infB
  go_enter Tryd.func52, Tryd.ntmps52
  go_wp2_with (go_at_call 73; refine (cc_k B b bs _ h).mono ?_)
  rintro e w1 ⟨rfl, h1, hb1, hk1⟩
  obtain ⟨hB, v, hbk, hown, hne⟩ := h1
  have c0 : w1.cell? ⟨b, 0, none⟩ = some (.pointer (some ⟨b, 0, none⟩)) := by rw [Lib.cell_of_heap hbk]; rfl
  have c1 : w1.cell? ⟨b, 1, none⟩ = some v := by rw [Lib.cell_of_heap hbk]; rfl
  go_wp2_with (at_builtin; refine wpList_append_ownF _ rfl _ _ 22 rfl B 5 i0 (.int .u8 0) 1 1 Tryd.underlying22 hi hz0 hz1 hz2 rfl (by decide) _ _ _ rfl (hown.alloc _) ⟨w1.heap.size, 0, none⟩ 1 1 [.int .u8 c] rfl rfl ?c1 ?c2 ?c3 ?c4 ?c5 ?_)
  case c1 =>
    intro j u hj
    match j, hj with
    | 0, hj => simp at hj; subst hj; simp [Addr.add]
  case c2 => intro u hu; simp at hu; subst hu; rfl
  case c3 => unfold maxLen; omega
  case c4 => omega
  case c5 => have := hb1.size; simp; omega
  intro v' w2 hown' hgrow _
  have hlt : b < w1.heap.size := by
    rcases Nat.lt_or_ge b w1.heap.size with h' | h'
    · exact h'
    · simp [Array.getElem?_eq_none h'] at hbk
  have hb2 : w2.heap[b]? = some (.cells #[.pointer (some ⟨b, 0, none⟩), v] 70 (0, 0)) := by
    rw [hgrow.block b (by simp; omega) (fun e => hne e.symm), Lib.alloc_old w1 _ b hlt]
    exact hbk
  have d0 : w2.cell? ⟨b, 0, none⟩ = some (.pointer (some ⟨b, 0, none⟩)) := by rw [Lib.cell_of_heap hb2]; rfl
  have d1 : w2.cell? ⟨b, 1, none⟩ = some v := by rw [Lib.cell_of_heap hb2]; rfl
  have f1 : w2.frozen? ⟨b, 1, none⟩ = false := Lib.frozen_of_heap hb2 1
  obtain ⟨g, cap, rfl⟩ : ∃ g cap, v' = .slice (some ⟨g, 0, none⟩) (bs.length + 1) cap := by
    rcases hown'.2 with ⟨_, h0⟩ | ⟨g, cap, cur, fz, hv, _⟩
    · omega
    · exact ⟨g, cap, hv⟩
  go_wp2
  go_ret
  refine ⟨rfl, ?_, ?_, ((hk1.alloc _).grown hgrow (Lib.ownsRowF_kind (hown.alloc _))).setCell ⟨b, 1, none⟩ rfl _⟩
  · exact Lib.BuilderAtF.put (T := 70) (e := 5) hB hb2 (bs' := bs ++ [.int .u8 c]) (by simpa using hown') (by decide)
  · exact ((hb1.alloc (by have := hb1.size; omega) _).grown hgrow (by have := hb1.size; simp; omega) (fun k hk => (hown.lt k hk).1)).setCell (p := ⟨b, 1, none⟩) hB _
end Go.Proofs.YtgfmfgombmpodaaDoor

/- b64.Encode at this program: by hand, over strings.Builder. -/
namespace Go.Proofs.YtgfmfgombmpodaaDoor
open Go.RowKit Go.Shelf Pv
set_option linter.unusedVariables false
/-- The value of the first t bytes of a group. -/
def gv (l : List Int) (i : Nat) : Nat → Int
  | 0 => 0
  | t + 1 => gv l i t * 256 + l.getD (i + t) 0
theorem getD_in {l : List Int} (hl : ∀ x ∈ l, 0 ≤ x ∧ x < 256) (i : Nat) : 0 ≤ l.getD i 0 ∧ l.getD i 0 < 256 := by
  rw [List.getD_eq_getElem?_getD]
  cases h : l[i]? with
  | none => exact ⟨by decide, by decide⟩
  | some x => exact hl x (List.mem_of_getElem? h)
theorem gv_in {l : List Int} (hl : ∀ x ∈ l, 0 ≤ x ∧ x < 256) (i : Nat) : ∀ t, 0 ≤ gv l i t ∧ gv l i t < 256 ^ t
  | 0 => ⟨Int.le_refl 0, by show (0 : Int) < 1; decide⟩
  | t + 1 => by
    obtain ⟨h1, h2⟩ := gv_in hl i t
    obtain ⟨h3, h4⟩ := getD_in hl (i + t)
    unfold gv
    refine ⟨by omega, ?_⟩
    rw [Int.pow_succ]
    omega
theorem e40 : (2 : Int) ^ 40 = 1099511627776 := by decide
theorem w64 {x : Int} (h0 : 0 ≤ x) (h1 : x < 1099511627776) : IntKind.i64.wrap x = x := by
  show (if (true && decide (x % 18446744073709551616 ≥ 9223372036854775808)) = true then x % 18446744073709551616 - 18446744073709551616 else x % 18446744073709551616) = x
  simp only [Bool.true_and, decide_eq_true_eq]
  split <;> omega
theorem or8 {x y : Int} (hx : 0 ≤ x) (hx1 : x < 1099511627776) (hm : x % 256 = 0) (hy : 0 ≤ y) (hy1 : y < 256) : bits .or .i64 x y = x + y :=
  bits_join .i64 40 (by decide) (fun n h0 h1 => w64 h0 (by rw [← e40]; exact h1)) 8 x y hx hm (by rw [e40]; exact hx1) hy hy1 (by rw [e40]; omega)
theorem and63 {x : Int} (hx : 0 ≤ x) (hx1 : x < 1099511627776) : bits .and .i64 x 63 = x % 64 := bits_mask .i64 40 (by decide) (fun n h0 h1 => w64 h0 (by rw [← e40]; exact h1)) 6 (by decide) x hx (by rw [e40]; exact hx1)
theorem wr64e {x : Int} (h0 : -9223372036854775808 ≤ x) (h1 : x ≤ 9223372036854775807) : wrap64 x = x := by unfold wrap64; omega
def sigs : List UInt8 := [65, 66, 67, 68, 69, 70, 71, 72, 73, 74, 75, 76, 77, 78, 79, 80, 81, 82, 83, 84, 85, 86, 87, 88, 89, 90, 97, 98, 99, 100, 101, 102, 103, 104, 105, 106, 107, 108, 109, 110, 111, 112, 113, 114, 115, 116, 117, 118, 119, 120, 121, 122, 48, 49, 50, 51, 52, 53, 54, 55, 56, 57, 43, 47]
/-- The sign t of a group of m bytes of value v. -/
def sgn (m : Nat) (v : Int) (t : Nat) : UInt8 := if m < t then 61 else sigs.getD ((v / 2 ^ (6 * (3 - t))) % 64).toNat 0
def grp (l : List Int) (i t : Nat) : List UInt8 := (List.range t).map (sgn (min (l.length - i) 3) (gv l i 3))
def sigA : ByteArray := ⟨#[65, 66, 67, 68, 69, 70, 71, 72, 73, 74, 75, 76, 77, 78, 79, 80, 81, 82, 83, 84, 85, 86, 87, 88, 89, 90, 97, 98, 99, 100, 101, 102, 103, 104, 105, 106, 107, 108, 109, 110, 111, 112, 113, 114, 115, 116, 117, 118, 119, 120, 121, 122, 48, 49, 50, 51, 52, 53, 54, 55, 56, 57, 43, 47]⟩
theorem sigA_size : sigA.size = 64 := rfl
theorem sig_at {q : Nat} (h : q < 64) : sigs.getD q 0 = sigA[q]'(by rw [sigA_size]; exact h) := by
  rw [List.getD_eq_getElem?_getD, List.getElem?_eq_getElem (show q < sigs.length from h)]
  rfl
theorem grp_pad {l : List Int} {i t : Nat} (h : min (l.length - i) 3 < t) : grp l i (t + 1) = grp l i t ++ [61] := by
  unfold grp
  rw [List.range_succ, List.map_append]
  show _ ++ [sgn _ _ t] = _
  rw [show sgn (min (l.length - i) 3) (gv l i 3) t = 61 from if_pos h]
theorem grp_sig {l : List Int} {i t : Nat} (h : ¬ min (l.length - i) 3 < t) : grp l i (t + 1) = grp l i t ++ [sigs.getD ((gv l i 3 / 2 ^ (6 * (3 - t))) % 64).toNat 0] := by
  unfold grp
  rw [List.range_succ, List.map_append]
  show _ ++ [sgn _ _ t] = _
  rw [show sgn (min (l.length - i) 3) (gv l i 3) t = sigs.getD ((gv l i 3 / 2 ^ (6 * (3 - t))) % 64).toNat 0 from if_neg h]
def encK (l : List Int) : Nat → List UInt8
  | 0 => []
  | k + 1 => encK l k ++ grp l (3 * k) 4
theorem encK_len (l : List Int) : ∀ k, (encK l k).length = 4 * k
  | 0 => rfl
  | k + 1 => by
    show (encK l k ++ grp l (3 * k) 4).length = _
    rw [List.length_append, encK_len l k]
    simp only [grp, List.length_map, List.length_range]
    omega
def encB (l : List Int) : List UInt8 := encK l ((l.length + 2) / 3)
set_option maxHeartbeats 4000000 in
set_option maxRecDepth 1000000 in
theorem enc_walk (l : List Int) (hl : ∀ x ∈ l, 0 ≤ x ∧ x < 256) (a : Option Addr) (n c : Nat) (hlen : l.length = n) (hn : n ≤ 1099511627776) (w : World) (hcells : ∀ i x, l[i]? = some x → ∃ ad, a = some ad ∧ w.cell? (ad.add i) = some (.int .u8 x)) :
    Calls Tryd.prog 39 #[.slice a n c] w fun e w' => e = .returned (.string ⟨(encB l).toArray⟩) ∧ Below w.heap.size w w' := by
  go_enter Tryd.func39, Tryd.ntmps39
  go_wp2
  go_loopw [4] (fun v wr => ∃ (i k : Nat), v = .int .i64 i ∧ 3 * k = i ∧ i ≤ n + 2 ∧ Lib.IsBuilderF 70 5 w.heap.size w.heap.size (Lib.byteCells (encK l k)) wr ∧ Below w.heap.size w wr) (fun i _ => n + 3 - (intOf i).toNat)
  case atStart =>
    refine ⟨0, 0, rfl, rfl, by omega, Lib.IsBuilderF.of (Lib.fresh_isBuilder 70 5 w), (Below.refl _ w).alloc (Nat.le_refl _) _⟩
  case round =>
    obtain ⟨i, k, rfl, hik, hk, hI, hb⟩ := hrel
    have hal := encK_len l k
    obtain ⟨acc, hacc⟩ : ∃ acc, encK l k = acc := ⟨_, rfl⟩
    rw [hacc] at hI hal
    obtain ⟨wo, rfl⟩ : ∃ wo : World, wo = wr := ⟨_, rfl⟩
    have hsz : w.heap.size ≤ wo.heap.size := hb.size
    by_cases hlt : i < n
    · obtain ⟨ad, rfl, _⟩ := hcells i _ (List.getElem?_eq_getElem (by omega))
      have hcell : ∀ j, j < n → wo.cell? (ad.add j) = some (.int .u8 (l.getD j 0)) := fun j hj => by
        obtain ⟨ad', e, h2⟩ := hcells j _ (List.getElem?_eq_getElem (by omega))
        cases e
        rw [List.getD_eq_getElem?_getD, List.getElem?_eq_getElem (by omega), Option.getD_some]
        rw [hb.cell (cell_lt h2)]; exact h2
      have hg3 := gv_in hl (i) 3
      obtain ⟨m, hmN, hmin⟩ : ∃ m : Nat, min (l.length - i) 3 = m ∧ min ((n : Int) - i) 3 = (m : Int) := ⟨_, rfl, by omega⟩
      clear hcells
      go_wp2
      go_loopw [6, 20] (fun all j wr => wr = wo ∧ ∃ t : Nat, t ≤ 3 ∧ j = .int .i64 t ∧ all = .int .i64 (gv l (i) t)) (fun _ j _ => 3 - (intOf j).toNat)
      case atStart => exact ⟨rfl, 0, by omega, rfl, rfl⟩
      case round =>
        obtain ⟨rfl, t, ht, rfl, rfl⟩ := hrel
        by_cases ht3 : t < 3
        · have hgt := gv_in hl (i) t
          have hp : (256 : Int) ^ t ≤ 65536 := by
            match t, ht3 with
            | 0, _ => decide
            | 1, _ => decide
            | 2, _ => decide
          have hgn : gv l (i) (t + 1) = gv l (i) t * 256 + l.getD (i + t) 0 := rfl
          have hlx := getD_in hl (i + t)
          by_cases hin : i + t < n
          · have htm : t < m := by omega
            have hc := hcell (i + t) hin
            have hor : bits BinOp.or IntKind.i64 (gv l (i) t * 256) (wrap64 (l.getD (i + t) 0)) = gv l (i) (t + 1) := by
              rw [wr64e (by omega) (by omega), or8 (by omega) (by omega) (by omega) hlx.1 hlx.2, hgn]
            have hgd : l.getD (i + t) 0 = l[i + t] := by rw [List.getD_eq_getElem?_getD, List.getElem?_eq_getElem (by omega), Option.getD_some]
            rw [hgd] at hor
            clear hcell hl hgn hlx
            go_wp2
            go_roundw
            case rel => exact ⟨trivial, t + 1, by omega, by simp, by first | rfl | rw [hor]⟩
            case measure => simp [intOf]; omega
          · have htm : ¬ t < m := by omega
            have hz : gv l (i) t * 256 = gv l (i) (t + 1) := by
              rw [hgn, List.getD_eq_getElem?_getD, List.getElem?_eq_none (by omega)]
              simp
            clear hcell hl hgn hlx
            go_wp2
            go_roundw
            case rel => exact ⟨trivial, t + 1, by omega, by simp, by first | rfl | rw [hz]⟩
            case measure => simp [intOf]; omega
        · obtain rfl : t = 3 := by omega
          clear hcell hl
          go_wp2
          go_loopw [38] (fun j wr => ∃ t : Nat, t ≤ 4 ∧ j = .int .i64 t ∧ Lib.IsBuilderF 70 5 w.heap.size w.heap.size (Lib.byteCells (acc ++ grp l (i) t)) wr ∧ Below w.heap.size w wr) (fun j _ => 4 - (intOf j).toNat)
          case atStart => exact ⟨0, by omega, rfl, by simpa [grp] using hI, hb⟩
          case round =>
            obtain ⟨t, ht, rfl, hI2, hb2⟩ := hrel
            have hsz2 : w.heap.size ≤ wr.heap.size := hb2.size
            by_cases ht4 : t < 4
            · have hlb : (Lib.byteCells (acc ++ grp l (i) t)).length + 1 ≤ 140737488355328 := by
                rw [Lib.byteCells_length, List.length_append]
                simp only [grp, List.length_map, List.length_range]
                omega
              by_cases hm : m < t
              · have hmi : (m : Int) < (t : Int) := by omega
                have hs : grp l (i) (t + 1) = grp l (i) t ++ [61] := grp_pad (by rw [hmN]; exact hm)
                go_wp2_with (go_at_call 52; refine (wb_k w.heap.size w.heap.size _ 61 _ hI2 hlb hsz2).mono ?_)
                rintro e W1 ⟨rfl, h1, b1, k1⟩
                go_wp2
                refine ⟨⟨_, _, _, _, _, _, _, _, _, _, _, _, _, _, _, _, _, ⟨t + 1, by omega, ?relA, ?relB, hb2.trans b1⟩, rfl⟩, ?meas⟩
                case relA => simp
                case relB => rw [hs, ← List.append_assoc, Lib.byteCells_append]; exact Or.inr h1
                case meas => simp [intOf]; omega
              · have hmi : (t : Int) ≤ (m : Int) := by omega
                have hmj : t ≤ m := by omega
                have hs : grp l (i) (t + 1) = grp l (i) t ++ [sigs.getD ((gv l (i) 3 / 2 ^ (6 * (3 - t))) % 64).toNat 0] := grp_sig (by rw [hmN]; exact hm)
                obtain ⟨q, hq, hidx⟩ : ∃ q : Nat, q < 64 ∧ gv l (i) 3 / 2 ^ (6 * (3 - t)) % 64 = (q : Int) := ⟨(gv l (i) 3 / 2 ^ (6 * (3 - t)) % 64).toNat, by omega, by omega⟩
                have hidx2 : bits BinOp.and IntKind.i64 (gv l (i) 3 / 2 ^ (6 * (3 - t))) 63 = (q : Int) := by
                  have hp : (0 : Int) < 2 ^ (6 * (3 - t)) := Int.pow_pos (by decide)
                  have h1 : 0 ≤ gv l (i) 3 / 2 ^ (6 * (3 - t)) := Int.ediv_nonneg hg3.1 (by omega)
                  have h2 : gv l (i) 3 / 2 ^ (6 * (3 - t)) ≤ gv l (i) 3 := Int.ediv_le_self _ hg3.1
                  rw [and63 h1 (by have := hg3.2; omega), hidx]
                rw [hidx, Int.toNat_natCast] at hs
                clear hidx hg3
                go_wp2_with (go_at_call 52; refine (wb_k w.heap.size w.heap.size _ _ _ hI2 hlb hsz2).mono ?_)
                rintro e W1 ⟨rfl, h1, b1, k1⟩
                go_wp2
                refine ⟨⟨_, _, _, _, _, _, _, _, _, _, _, _, _, _, _, _, _, ⟨t + 1, by omega, ?relC, ?relD, hb2.trans b1⟩, rfl⟩, ?meaS⟩
                case relC => simp
                case relD =>
                  have key : Lib.byteCells (acc ++ grp l (i) (t + 1)) = Lib.byteCells (acc ++ grp l (i) t) ++ [.int .u8 ((sigA[q]'(by rw [sigA_size]; exact hq)).toNat : Nat)] := by
                    rw [hs, ← List.append_assoc, Lib.byteCells_append, sig_at hq]; rfl
                  rw [key]
                  exact Or.inr h1
                case meaS => simp [intOf]; omega
            · obtain rfl : t = 4 := by omega
              go_wp2
              go_roundw
              case rel =>
                refine ⟨i + 3, k + 1, by simp, by omega, by omega, ?_, hb2⟩
                show Lib.IsBuilderF _ _ _ _ (Lib.byteCells (encK l k ++ grp l (3 * k) 4)) _
                rw [hacc, hik]; exact hI2
              case measure => simp [intOf]; omega
    · go_wp2_with (go_at_call 53; refine (Tryd.Builder_String_any_k w.heap.size w.heap.size acc _ hI (by omega)).mono ?_)
      rintro e W1 ⟨rfl, _, b1, _⟩
      go_wp2
      go_ret
      have e : (l.length + 2) / 3 = k := by omega
      unfold encB
      rw [e, hacc]
      exact ⟨rfl, hb.trans b1⟩
end Go.Proofs.YtgfmfgombmpodaaDoor

/- b64.Encode by its contract. -/
namespace Go.Proofs.YtgfmfgombmpodaaDoor
open Pv Go.RowKit
set_option linter.unusedVariables false
def F_b64_Encode_sig : Sig := ⟨[.v false [.d (.sl (.int .u8))]], [(false, [.d .str])]⟩
def F_b64_Encode (l : List Int) : Option (List Int) := cond (Nat.ble l.length 1099511627776) (some ((encB l).map byteI)) none
theorem ent_enc (l : List Int) : (entrySt F_b64_Encode_sig [⟨.sl (.int .u8), l⟩]).map (fun st => st.φ 0) = some (.w false [.d (.sl (.int .u8)) l]) := rfl
theorem exit_enc (y : List Int) : ∃ st', exitSt F_b64_Encode_sig y = some st' ∧ st'.φ 0 = .w false [.d .str y] ∧ (∀ i, st'.φ (i + 1) = .dead) ∧ (∀ k, st'.L k = none) ∧ (∀ k, st'.O k = true → k = .zero) ∧ st'.kn = [] ∧ st'.fr = [] :=
  ⟨_, rfl, rfl, fun _ => rfl, fun k => by match k with | 0 => rfl | _ + 1 => rfl, fun k hk => by
    have hk : hasT [.zero] k = true := hk
    simpa using hasT_iff.1 hk, rfl, rfl⟩
theorem encB_len (l : List Int) : (encB l).length = 4 * ((l.length + 2) / 3) := encK_len l _
theorem F_b64_Encode_sound {T : Tab} : SoundFn Tryd.prog T 39 F_b64_Encode_sig ⟨F_b64_Encode⟩ := by
  intro F g st xs y tmf w args _ hent happ hrel hw hn hsz htm
  obtain ⟨(l : List Int), xs', rfl, h2⟩ := appF_inv_c (ts := []) happ
  obtain ⟨rfl, h3⟩ := appF_inv_n h2
  have hφ : Option.map (fun st : PSt => st.φ 0) (some st) = _ := (congrArg _ hent).symm.trans (ent_enc l)
  have hφ : some (st.φ 0) = some _ := hφ
  injection hφ with hφ
  have h0 := hrel.slots 0
  rw [hφ, htm 0] at h0
  obtain ⟨a, n, c, e0, e1, e2, e3, e4, e5⟩ := rel_bytes h0
  have ha : args = #[.slice a n c] := by
    obtain ⟨al⟩ := args
    match al, hsz with
    | [v], _ =>
      have : v = .slice a n c := e0
      rw [this]
  subst ha
  have h3 : cond (Nat.ble l.length 1099511627776) (some ((encB l).map byteI)) none = some y := h3
  cases hb : Nat.ble l.length 1099511627776 with
  | false => rw [hb] at h3; cases h3
  | true =>
    rw [hb] at h3
    have hy : (encB l).map byteI = y := by injection h3
    have hle : l.length ≤ 1099511627776 := Nat.le_of_ble_eq_true hb
    obtain ⟨st', x1, x2, x3, x4, x5, x6, x7⟩ := exit_enc y
    refine (enc_walk l e4 a n c e1 (by rw [← e1]; exact hle) w e5).mono fun e w' ⟨he, hbel⟩ => ⟨[.string ⟨(encB l).toArray⟩], _, st', he, rfl, x1, mrel_out (t := .str) (x := y) hrel hbel ⟨_, rfl, ?_, ?_⟩ x2 x3 x4 x5 x6 x7, fun k hk => ?_⟩
    · rw [← hy]
      show (encB l).toArray.toList.map byteI = _
      rw [List.toList_toArray]
    · show (encB l).toArray.size ≤ maxLen
      rw [List.size_toArray, encB_len]
      unfold maxLen
      omega
    · cases k with
      | zero => cases hk
      | succ k => cases k <;> cases hk
end Go.Proofs.YtgfmfgombmpodaaDoor

/- wlvref1.Encode at this program: by hand. -/
namespace Go.Proofs.YtgfmfgombmpodaaDoor
open Go.RowKit Go.Shelf Pv
set_option linter.unusedVariables false
set_option maxHeartbeats 4000000 in
set_option maxRecDepth 1000000 in
theorem sign_walk (x : Int) (q : Nat) (hq : q < 64) (hx : bits BinOp.and IntKind.i64 x 63 = (q : Int)) (w : World) :
    Calls Tryd.prog 62 #[.int .i64 x] w fun e w' => e = .returned (.int .u8 (byteI (sigs.getD q 0))) ∧ w' = w := by
  go_enter Tryd.func62, Tryd.ntmps62
  go_wp2
  go_ret
  rw [sig_at hq]
  exact ⟨rfl, rfl⟩
theorem info5 : (Tryd.prog.info? 5).map (fun i => (i.zero, i.size, i.bytes)) = some (some (.int .u8 0), 1, 1) := by kernel_rfl
theorem drew_below (B : Nat) (w : World) : Below B w w.drew := ⟨rfl, rfl, rfl, Nat.le_refl _, fun _ _ => rfl⟩
theorem own_cell {w : World} {B g cap n j : Nat} {xs : List Value} (h : w.ownsRow B 5 1 (.slice (some ⟨g, 0, none⟩) n cap) n xs) (hj : j < n) : ∃ u, w.cell? ⟨g, j, none⟩ = some u ∧ w.frozen? ⟨g, j, none⟩ = false := by
  obtain ⟨h0, ⟨h1, _⟩ | ⟨g', cap', cur, e, h2, h3, h4, h5, h6, h7⟩⟩ := h
  · cases h1
  · cases e
    have hlt : j < cur.size := by omega
    exact ⟨cur[j], by rw [cell_at h3]; simp [hlt], by simp [World.frozen?, h3]⟩
theorem own_set {w : World} {B g cap n j : Nat} {xs : List Value} (h : w.ownsRow B 5 1 (.slice (some ⟨g, 0, none⟩) n cap) n xs) (hj : j < n) (u : Value) : (w.setCell ⟨g, j, none⟩ u).ownsRow B 5 1 (.slice (some ⟨g, 0, none⟩) n cap) n (xs.set j u) := by
  obtain ⟨h0, ⟨h1, _⟩ | ⟨g', cap', cur, e, h2, h3, h4, h5, h6, h7⟩⟩ := h
  · cases h1
  · cases e
    refine ⟨by simpa using h0, .inr ⟨g, cap, cur.setIfInBounds j u, rfl, h2, ?_, h4, h5, by simpa using h6, ?_⟩⟩
    · rw [setCell_heap, if_pos rfl, h3]; simp
    · rw [← h7]
      simp [List.take_set]
theorem set_below {w : World} {B g j : Nat} (hg : B ≤ g) (u : Value) : Below B w (w.setCell ⟨g, j, none⟩ u) := ⟨rfl, rfl, rfl, by simp [World.setCell], fun k hk => by rw [setCell_heap, if_neg (by show k ≠ g; omega)]⟩
theorem sgn_q {m t q : Nat} {G d : Int} (ht : t ≤ m) (hd : (2 : Int) ^ (6 * (3 - t)) = d) (h : G / d % 64 = (q : Int)) : sgn m G t = sigs.getD q 0 := by
  unfold sgn
  rw [if_neg (by omega), hd, h, Int.toNat_natCast]
theorem str_of {s : ByteArray} {A : List UInt8} (h : bytesL s = A.map byteI) : s = ⟨A.toArray⟩ := by
  obtain ⟨⟨d⟩⟩ := s
  have h' : d.map byteI = A.map byteI := h
  have : d = A := map_inj h'
  rw [this]
theorem own_rep {w : World} {B n : Nat} {v : Value} {A : List UInt8} (h : w.ownsRow B 5 1 v n (Lib.byteCells A)) : RepD w (fun _ _ => True) (.sl (.int .u8)) (A.map byteI) [v] := by
  obtain ⟨h0, ⟨rfl, rfl⟩ | ⟨g, cap, cur, rfl, h2, h3, h4, h5, h6, h7⟩⟩ := h
  · rw [Lib.byteCells_length] at h0
    have : A = [] := List.eq_nil_of_length_eq_zero (by omega)
    subst this
    exact ⟨none, 0, 0, rfl, rfl, Nat.le_refl _, by unfold maxLen; omega, fun i x hi => by cases hi⟩
  · rw [Lib.byteCells_length, Nat.mul_one] at h0
    have hl : List.length (α := Int) (A.map byteI) = n := by rw [List.length_map]; exact h0
    have := repD_row (w := w) (C := fun _ _ => True) (e := .int .u8) (l := A.map byteI) (B := g) (cap := cap) h3 h5 (by rw [show List.length (α := (Ty.int .u8).D) (A.map byteI) = n from hl]; exact h4) (fun _ _ => trivial) (fun i x hi => ?_)
    · rw [show List.length (α := (Ty.int .u8).D) (A.map byteI) = n from hl] at this
      exact this
    · have hi' : (A.map byteI)[i]? = some x := hi
      rw [List.getElem?_map] at hi'
      obtain ⟨c, hc, rfl⟩ := Option.map_eq_some_iff.1 hi'
      have hin : i < n := by rw [← h0]; exact (List.getElem?_eq_some_iff.1 hc).1
      have hcell : cur.toList[i]? = some (.int .u8 (byteI c)) := by
        have e : (cur.toList.take (n * 1))[i]? = some (.int .u8 (byteI c)) := by
          rw [h7]
          unfold Lib.byteCells
          rw [List.getElem?_map, hc]; rfl
        rw [List.getElem?_take] at e
        split at e
        · exact e
        · cases e
      refine ⟨?_, byte_wf c⟩
      rw [show (Ty.int .u8).size = 1 from rfl, Nat.mul_one, List.drop_eq_getElem_cons (List.getElem?_eq_some_iff.1 hcell).1]
      simp [(List.getElem?_eq_some_iff.1 hcell).2]
/-- The next three bytes, nought behind the end. -/
def nx3 (l : List Int) (i : Nat) : List Value := ((l.drop i).take 3).map (Value.int .u8)
theorem nx3_len (l : List Int) (i : Nat) : (nx3 l i).length = min (l.length - i) 3 := by
  unfold nx3
  rw [List.length_map, List.length_take, List.length_drop]
  omega
theorem nx3_get (l : List Int) (i j : Nat) (v : Value) (h : (nx3 l i)[j]? = some v) : j < 3 ∧ ∃ x, l[i + j]? = some x ∧ v = .int .u8 x := by
  unfold nx3 at h
  rw [List.getElem?_map, List.getElem?_take] at h
  split at h
  · rename_i hj
    rw [List.getElem?_drop] at h
    obtain ⟨x, h1, h2⟩ := Option.map_eq_some_iff.1 h
    exact ⟨hj, x, h1, h2.symm⟩
  · cases h
theorem nx3_splice (l : List Int) (i : Nat) : splice [.int .u8 0, .int .u8 0, .int .u8 0] 0 (nx3 l i) = [Value.int .u8 (l.getD i 0), .int .u8 (l.getD (i + 1) 0), .int .u8 (l.getD (i + 2) 0)] := by
  have e : ∀ j, l.getD (i + j) 0 = (l.drop i).getD j 0 := fun j => by
    rw [List.getD_eq_getElem?_getD, List.getD_eq_getElem?_getD, List.getElem?_drop]
  rw [show l.getD i 0 = l.getD (i + 0) 0 from rfl, e, e, e]
  unfold nx3 splice
  match l.drop i with
  | [] => rfl
  | [a] => rfl
  | [a, b] => rfl
  | a :: b :: c :: r => rfl
set_option maxHeartbeats 4000000 in
set_option maxRecDepth 1000000 in
theorem enc2_walk (l : List Int) (hl : ∀ x ∈ l, 0 ≤ x ∧ x < 256) (a : Option Addr) (n c : Nat) (hlen : l.length = n) (hn : n ≤ 1000000) (hnc : n ≤ c) (w : World) (hcells : ∀ i x, l[i]? = some x → ∃ ad, a = some ad ∧ w.cell? (ad.add i) = some (.int .u8 x)) :
    Calls Tryd.prog 41 #[.slice a n c] w fun e w' => e = .returned (.string ⟨(encB l).toArray⟩) ∧ Below w.heap.size w w' := by
  obtain ⟨i0, hi5, hz0, hz1, hz2⟩ := info_parts info5
  go_enter Tryd.func41, Tryd.ntmps41
  go_wp2
  go_loopw [3, 4] (fun out v wr => ∃ (i k : Nat), v = .int .i64 i ∧ 3 * k = i ∧ i ≤ n + 2 ∧ wr.ownsRow w.heap.size 5 1 out (4 * k) (Lib.byteCells (encK l k)) ∧ Below w.heap.size w wr) (fun _ i _ => n + 3 - (intOf i).toNat)
  case atStart =>
    exact ⟨0, 0, rfl, rfl, by omega, World.ownsRow_nil _ _ _ _, Below.refl _ _⟩
  case round =>
    obtain ⟨i, k, rfl, hik, hk, hown, hb⟩ := hrel
    by_cases hlt : i < n
    · obtain ⟨ad, rfl, _⟩ := hcells i _ (List.getElem?_eq_getElem (by omega))
      have hsz : w.heap.size ≤ wr.heap.size := hb.size
      have hsrc : ∀ j v, (nx3 l i)[j]? = some v → wr.cell? ((ad.add i).add j) = some v := fun j v hj => by
        obtain ⟨_, x, hx, rfl⟩ := nx3_get l i j v hj
        obtain ⟨ad', e, h2⟩ := hcells _ _ hx
        cases e
        rw [add_add, hb.cell (cell_lt h2)]; exact h2
      have hone : ∀ v ∈ nx3 l i, v.oneCell' = true := fun v hv => by
        obtain ⟨j, hj⟩ := List.mem_iff_getElem?.1 hv
        obtain ⟨_, x, _, rfl⟩ := nx3_get l i j v hj
        rfl
      have hnl : (nx3 l i).length = Nat.min (n - i) 3 := by rw [nx3_len, hlen]
      have hin : i ≤ n := by omega
      have hci : ¬ c = i := by omega
      clear hcells
      go_wp2
      go_region_law (refine step_copy_splice rfl (.tmp 14) (.tmp 17) 22 22 rfl 5 Tryd.underlying22 (by kernel_rfl) (some ⟨wr.heap.size, 0, none⟩) (some (ad.add i)) 3 3 (n - i) (c - i) (by simp [Act.eval, Act.put]) (by simp [Act.eval, Act.put]) wr.heap.size 0 [.int .u8 0, .int .u8 0, .int .u8 0] 83 (heap_alloc_new wr _) (nx3 l i) hnl (fun _ => ⟨rfl, _, rfl, fun j v hj => (World.cell?_alloc_lt _ _ _ (cell_lt (hsrc j v hj))).trans (hsrc j v hj)⟩) (by rw [hnl]; show 0 + min _ 3 ≤ 3; omega) hone wr.heap.size wr (((Below.refl _ wr).alloc (Nat.le_refl _) _).trans (drew_below _ _)) (Nat.le_refl _) ?_; intro w4 hg4 hb4)
      have hc0 : w4.cell? ⟨wr.heap.size, 0, none⟩ = some (.int .u8 (l.getD i 0)) := by rw [cell_at hg4.out, nx3_splice]; rfl
      have hc1 : w4.cell? ⟨wr.heap.size, 1, none⟩ = some (.int .u8 (l.getD (i + 1) 0)) := by rw [cell_at hg4.out, nx3_splice]; rfl
      have hc2 : w4.cell? ⟨wr.heap.size, 2, none⟩ = some (.int .u8 (l.getD (i + 2) 0)) := by rw [cell_at hg4.out, nx3_splice]; rfl
      have hsz4 : wr.heap.size ≤ w4.heap.size := hb4.size
      have hown4 : w4.ownsRow w.heap.size 5 1 u3 (4 * k) (Lib.byteCells (encK l k)) := hown.kept (row := none) ⟨hb4.os, hb4.tape, hb4.output, hb4.size, fun b hb _ => hb4.block b hb⟩ (by
        obtain ⟨_, ⟨rfl, _⟩ | ⟨g, cap, cur, rfl, _⟩⟩ := hown
        · exact .inl rfl
        · exact .inr (fun e => by cases e))
      have hb04 : Below w.heap.size w w4 := hb.trans (hb4.mono hsz)
      obtain ⟨m, hm⟩ : ∃ m : Nat, (n - i).min 3 = m := ⟨_, rfl⟩
      obtain ⟨y0, hy0⟩ : ∃ y, l.getD i 0 = y := ⟨_, rfl⟩
      obtain ⟨y1, hy1⟩ : ∃ y, l.getD (i + 1) 0 = y := ⟨_, rfl⟩
      obtain ⟨y2, hy2⟩ : ∃ y, l.getD (i + 2) 0 = y := ⟨_, rfl⟩
      have hr0 := getD_in hl i
      have hr1 := getD_in hl (i + 1)
      have hr2 := getD_in hl (i + 2)
      have hgv : gv l i 3 = y0 * 65536 + y1 * 256 + y2 := by
        show ((0 * 256 + l.getD (i + 0) 0) * 256 + l.getD (i + 1) 0) * 256 + l.getD (i + 2) 0 = _
        rw [show i + 0 = i from rfl, hy0, hy1, hy2]; omega
      rw [hy0] at hr0 hc0
      rw [hy1] at hr1 hc1
      rw [hy2] at hr2 hc2
      obtain ⟨G, hG⟩ : ∃ G, gv l i 3 = G := ⟨_, rfl⟩
      rw [hG] at hgv
      have hw0 : wrap64 y0 = y0 := wr64e (by omega) (by omega)
      have hw1 : wrap64 y1 = y1 := wr64e (by omega) (by omega)
      have hw2 : wrap64 y2 = y2 := wr64e (by omega) (by omega)
      have hp0 : wrap64 (y0 * 65536) = y0 * 65536 := wr64e (by omega) (by omega)
      have hp1 : wrap64 (y1 * 256) = y1 * 256 := wr64e (by omega) (by omega)
      obtain ⟨G1, hG1⟩ : ∃ G1, y0 * 65536 + y1 * 256 = G1 := ⟨_, rfl⟩
      have ho1 : bits BinOp.or IntKind.i64 (y0 * 65536) (y1 * 256) = G1 := by
        rw [← hG1]
        exact bits_join .i64 40 (by decide) (fun n h0 h1 => w64 h0 (by rw [← e40]; exact h1)) 16 (y0 * 65536) (y1 * 256) (by omega) (by omega) (by rw [e40]; omega) (by omega) (by omega) (by rw [e40]; omega)
      have ho2 : bits BinOp.or IntKind.i64 G1 y2 = G := by
        rw [or8 (by omega) (by omega) (by omega) (by omega) (by omega)]; omega
      have hGin : 0 ≤ G ∧ G < 16777216 := by omega
      have hsh : ∀ d : Int, 0 < d → ∃ q : Nat, q < 64 ∧ G / d % 64 = (q : Int) ∧ bits BinOp.and IntKind.i64 (G / d) 63 = (q : Int) := fun d hd => by
        have h1 : 0 ≤ G / d := Int.ediv_nonneg hGin.1 (by omega)
        have h2 : G / d ≤ G := Int.ediv_le_self _ hGin.1
        refine ⟨(G / d % 64).toNat, by omega, by omega, ?_⟩
        rw [and63 h1 (by omega)]; omega
      obtain ⟨q0, hq0, hd0, hx0⟩ := hsh 262144 (by decide)
      obtain ⟨q1, hq1, hd1, hx1⟩ := hsh 4096 (by decide)
      obtain ⟨q2, hq2, hd2, hx2⟩ := hsh 64 (by decide)
      obtain ⟨q3, hq3, hd3, hx3⟩ := hsh 1 (by decide)
      rw [Int.ediv_one] at hd3 hx3
      have hgrp : grp l i 4 = [sgn m G 0, sgn m G 1, sgn m G 2, sgn m G 3] := by
        unfold grp
        rw [hG, show min (l.length - i) 3 = m by rw [hlen]; exact hm]
        rfl
      clear hsh hgv hG1 hl hr0 hr1 hr2 hsrc hone hnl hb4 hg4 hown hb
      rw [hm]
      go_wp2_with (first | (go_at_call 62; refine (sign_walk (G / 262144) q0 hq0 hx0 _).mono ?_; rintro e w' ⟨rfl, hw'⟩; rw [hw']) | (go_at_call 62; refine (sign_walk (G / 4096) q1 hq1 hx1 _).mono ?_; rintro e w' ⟨rfl, hw'⟩; rw [hw']) | (go_at_call 62; refine (sign_walk (G / 64) q2 hq2 hx2 _).mono ?_; rintro e w' ⟨rfl, hw'⟩; rw [hw']) | (go_at_call 62; refine (sign_walk G q3 hq3 hx3 _).mono ?_; rintro e w' ⟨rfl, hw'⟩; rw [hw']) | (at_builtin; refine wpList_append_own _ rfl (.tmp 32) (.tmp 44) 22 rfl w.heap.size 5 i0 (.int .u8 0) 1 1 Tryd.underlying22 hi5 hz0 hz1 hz2 rfl (by decide) _ _ _ rfl (hown4.alloc _) ⟨w4.heap.size, 0, none⟩ 4 4 [.int .u8 (byteI (sigs.getD q0 0)), .int .u8 (byteI (sigs.getD q1 0)), .int .u8 (byteI (sigs.getD q2 0)), .int .u8 (byteI (sigs.getD q3 0))] rfl rfl ?c1 ?c2 ?c3 ?c4 ?c5 ?_))
      case c1 =>
        intro j u hj
        match j, hj with
        | 0, hj => simp at hj; subst hj; simp [Addr.add]
        | 1, hj => simp at hj; subst hj; simp [Addr.add]
        | 2, hj => simp at hj; subst hj; simp [Addr.add]
        | 3, hj => simp at hj; subst hj; simp [Addr.add]
      case c2 => intro u hu; simp at hu; rcases hu with rfl | rfl | rfl | rfl <;> rfl
      case c3 => unfold maxLen; omega
      case c4 => omega
      case c5 => have := hb04.size; simp; omega
      · intro v5 w5 hown5 hgrow _
        have hb05 : Below w.heap.size w w5 := (hb04.alloc hb04.size _).grown hgrow (by have := hb04.size; simp; omega) (fun j hj => (hown4.lt j hj).1)
        obtain ⟨g, cap, hv5⟩ : ∃ g cap, v5 = .slice (some ⟨g, 0, none⟩) (4 * k + 4) cap := by
          rcases hown5.2 with ⟨_, h⟩ | ⟨g, cap, _, h, _⟩
          · omega
          · exact ⟨g, cap, h⟩
        subst hv5
        have hm' : min (n - i) 3 = m := hm
        have hk4 : 4 * k + 4 ≤ 9000000 := by omega
        clear hgrow hown4 hb04 hc0 hc1 hc2 hx0 hx1 hx2 hx3 hw0 hw1 hw2 hp0 hp1 ho1 ho2 hm
        have hgB : w.heap.size ≤ g := (hown5.lt g rfl).1
        have hlenA : (Lib.byteCells (encK l k)).length = 4 * k := by rw [Lib.byteCells_length, encK_len]
        have hnext : Lib.byteCells (encK l (k + 1)) = Lib.byteCells (encK l k) ++ Lib.byteCells [sgn m G 0, sgn m G 1, sgn m G 2, sgn m G 3] := by
          show Lib.byteCells (encK l k ++ grp l (3 * k) 4) = _
          rw [Lib.byteCells_append, hik, hgrp]
        have hd3' : G / 1 % 64 = (q3 : Int) := by rw [Int.ediv_one]; exact hd3
        obtain rfl | rfl | rfl : m = 3 ∨ m = 2 ∨ m = 1 := by omega
        · rw [sgn_q (by omega) (by decide) hd0, sgn_q (by omega) (by decide) hd1, sgn_q (by omega) (by decide) hd2, sgn_q (by omega) (by decide) hd3'] at hnext
          go_wp2
          go_roundw
          case rel => exact ⟨i + 3, k + 1, by simp, by omega, by omega, by rw [hnext]; exact hown5, hb05⟩
          case measure => simp [intOf]; omega
        · rw [sgn_q (by omega) (by decide) hd0, sgn_q (by omega) (by decide) hd1, sgn_q (by omega) (by decide) hd2, show sgn 2 G 3 = 61 from rfl] at hnext
          obtain ⟨uA, hcA, hfA⟩ := own_cell hown5 (j := 4 * k + 3) (by omega)
          have hs := own_set hown5 (j := 4 * k + 3) (by omega) (.int .u8 61)
          rw [List.set_append_right _ _ (by omega), hlenA, show 4 * k + 3 - 4 * k = 3 by omega] at hs
          go_wp2
          refine ⟨⟨i + 3, k + 1, by simp, by omega, by omega, by rw [hnext]; exact hs, hb05.trans (set_below hgB _)⟩, ?_⟩
          simp [intOf]; omega
        · rw [sgn_q (by omega) (by decide) hd0, sgn_q (by omega) (by decide) hd1, show sgn 1 G 2 = 61 from rfl, show sgn 1 G 3 = 61 from rfl] at hnext
          obtain ⟨uA, hcA, hfA⟩ := own_cell hown5 (j := 4 * k + 3) (by omega)
          obtain ⟨uB, hcB, hfB⟩ := own_cell hown5 (j := 4 * k + 2) (by omega)
          have hs := own_set (own_set hown5 (j := 4 * k + 3) (by omega) (.int .u8 61)) (j := 4 * k + 2) (by omega) (.int .u8 61)
          rw [List.set_append_right _ _ (by omega), hlenA, show 4 * k + 3 - 4 * k = 3 by omega, List.set_append_right _ _ (by omega), hlenA, show 4 * k + 2 - 4 * k = 2 by omega] at hs
          go_wp2
          refine ⟨⟨i + 3, k + 1, by simp, by omega, by omega, by rw [hnext]; exact hs, (hb05.trans (set_below hgB _)).trans (set_below hgB _)⟩, ?_⟩
          simp [intOf]; omega
    · have e : (l.length + 2) / 3 = k := by omega
      obtain ⟨s, hrun, hs, _⟩ := bytes_run (P := Tryd.prog) Tryd.underlying22 Tryd.underlying5 Tryd.underlying9 (own_rep hown)
      have hstr := str_of hs
      subst hstr
      go_wp2
      go_ret
      unfold encB
      rw [e]
      exact ⟨rfl, hb⟩
end Go.Proofs.YtgfmfgombmpodaaDoor

/- wlvref1.Encode by its contract. -/
namespace Go.Proofs.YtgfmfgombmpodaaDoor
open Pv Go.RowKit
set_option linter.unusedVariables false
def F_wlvref1_Encode_sig : Sig := ⟨[.v false [.d (.sl (.int .u8))]], [(false, [.d .str])]⟩
def F_wlvref1_Encode (l : List Int) : Option (List Int) := cond (Nat.ble l.length 1000000) (some ((encB l).map byteI)) none
theorem F_wlvref1_Encode_sound {T : Tab} : SoundFn Tryd.prog T 41 F_wlvref1_Encode_sig ⟨F_wlvref1_Encode⟩ := by
  intro F g st xs y tmf w args _ hent happ hrel hw hn hsz htm
  obtain ⟨(l : List Int), xs', rfl, h2⟩ := appF_inv_c (ts := []) happ
  obtain ⟨rfl, h3⟩ := appF_inv_n h2
  have hφ : Option.map (fun st : PSt => st.φ 0) (some st) = _ := (congrArg _ hent).symm.trans (ent_enc l)
  have hφ : some (st.φ 0) = some _ := hφ
  injection hφ with hφ
  have h0 := hrel.slots 0
  rw [hφ, htm 0] at h0
  obtain ⟨a, n, c, e0, e1, e2, e3, e4, e5⟩ := rel_bytes h0
  have ha : args = #[.slice a n c] := by
    obtain ⟨al⟩ := args
    match al, hsz with
    | [v], _ =>
      have : v = .slice a n c := e0
      rw [this]
  subst ha
  have h3 : cond (Nat.ble l.length 1000000) (some ((encB l).map byteI)) none = some y := h3
  cases hb : Nat.ble l.length 1000000 with
  | false => rw [hb] at h3; cases h3
  | true =>
    rw [hb] at h3
    have hy : (encB l).map byteI = y := by injection h3
    have hle : l.length ≤ 1000000 := Nat.le_of_ble_eq_true hb
    obtain ⟨st', x1, x2, x3, x4, x5, x6, x7⟩ := exit_enc y
    refine (enc2_walk l e4 a n c e1 (by rw [← e1]; exact hle) e2 w e5).mono fun e w' ⟨he, hbel⟩ => ⟨[.string ⟨(encB l).toArray⟩], _, st', he, rfl, x1, mrel_out (t := .str) (x := y) hrel hbel ⟨_, rfl, ?_, ?_⟩ x2 x3 x4 x5 x6 x7, fun k hk => ?_⟩
    · rw [← hy]
      show (encB l).toArray.toList.map byteI = _
      rw [List.toList_toArray]
    · show (encB l).toArray.size ≤ maxLen
      rw [List.size_toArray, encB_len]
      unfold maxLen
      omega
    · cases k with
      | zero => cases hk
      | succ k => cases k <;> cases hk
end Go.Proofs.YtgfmfgombmpodaaDoor

/- What the functions that are walked by hand answer (sha, slices of bytes). -/
namespace Go.Proofs.YtgfmfgombmpodaaDoor
open Pv
set_option linter.unusedVariables false
def P64N : List Nat := [2, 3, 5, 7, 11, 13, 17, 19, 23, 29, 31, 37, 41, 43, 47, 53, 59, 61, 67, 71, 73, 79, 83, 89, 97, 101, 103, 107, 109, 113, 127, 131, 137, 139, 149, 151, 157, 163, 167, 173, 179, 181, 191, 193, 197, 199, 211, 223, 227, 229, 233, 239, 241, 251, 257, 263, 269, 271, 277, 281, 283, 293, 307, 311]
def P64 : List Int := P64N.map fun (n : Nat) => (n : Int)
def K64 : List Int := [1116352408, 1899447441, 3049323471, 3921009573, 961987163, 1508970993, 2453635748, 2870763221, 3624381080, 310598401, 607225278, 1426881987, 1925078388, 2162078206, 2614888103, 3248222580, 3835390401, 4022224774, 264347078, 604807628, 770255983, 1249150122, 1555081692, 1996064986, 2554220882, 2821834349, 2952996808, 3210313671, 3336571891, 3584528711, 113926993, 338241895, 666307205, 773529912, 1294757372, 1396182291, 1695183700, 1986661051, 2177026350, 2456956037, 2730485921, 2820302411, 3259730800, 3345764771, 3516065817, 3600352804, 4094571909, 275423344, 430227734, 506948616, 659060556, 883997877, 958139571, 1322822218, 1537002063, 1747873779, 1955562222, 2024104815, 2227730452, 2361852424, 2428436474, 2756734187, 3204031479, 3329325298]
def H8 : List Int := [1779033703, 3144134277, 1013904242, 2773480762, 1359893119, 2600822924, 528734635, 1541459225]
/-- How many primes stand below a number; which. -/
def mN (p : Nat) : Nat := (P64N.filter fun q => decide (q < p)).length
def rowP (p : Nat) : List Nat := P64N.take (mN p)
def divs (p : Nat) (l : List Nat) : Bool := l.any fun q => p % q == 0
theorem tabP : (List.range 310).all (fun i => decide (mN (i + 2) < 64) && (cond (divs (i + 2) (rowP (i + 2))) (mN (i + 3) == mN (i + 2)) (P64N[mN (i + 2)]? == some (i + 2) && mN (i + 3) == mN (i + 2) + 1))) = true := by kernel_rfl
theorem p_end : mN 312 = 64 := by kernel_rfl
theorem p_start : mN 2 = 0 := by kernel_rfl
theorem p_step {p : Nat} (h2 : 2 ≤ p) (h : p ≤ 311) : mN p < 64 ∧ (divs p (rowP p) = true → mN (p + 1) = mN p) ∧ (divs p (rowP p) = false → mN (p + 1) = mN p + 1 ∧ rowP (p + 1) = rowP p ++ [p]) := by
  have := List.all_eq_true.1 tabP (p - 2) (List.mem_range.2 (by omega))
  rw [show p - 2 + 2 = p by omega, show p - 2 + 3 = p + 1 by omega, Bool.and_eq_true, decide_eq_true_iff] at this
  obtain ⟨h1, h3⟩ := this
  refine ⟨h1, fun hd => ?_, fun hd => ?_⟩
  · rw [hd, cond_true, beq_iff_eq] at h3
    exact h3
  · rw [hd, cond_false, Bool.and_eq_true, beq_iff_eq, beq_iff_eq] at h3
    refine ⟨h3.2, ?_⟩
    unfold rowP
    rw [h3.2, List.take_add_one, h3.1]; rfl
theorem row_len {p : Nat} (h : p ≤ 312) (h2 : 2 ≤ p) : (rowP p).length = mN p := by
  unfold rowP
  have : mN p ≤ 64 := by
    rcases Nat.lt_or_ge p 312 with hp | hp
    · exact Nat.le_of_lt (p_step h2 (by omega)).1
    · rw [show p = 312 by omega, p_end]; exact Nat.le_refl _
  rw [List.length_take]
  have e : P64N.length = 64 := rfl
  omega
theorem row_pos {p q : Nat} (h : q ∈ rowP p) : 2 ≤ q ∧ q < 312 := by
  have h := List.mem_of_mem_take h
  have key : P64N.all (fun q => decide (2 ≤ q) && decide (q < 312)) = true := by kernel_rfl
  have := List.all_eq_true.1 key q h
  simpa using this
theorem row_end : rowP 312 = P64N := by kernel_rfl
theorem row_start : rowP 2 = [] := by kernel_rfl
def F_sha_primes_sig : Sig := ⟨[.v false [.d (.int .i64)]], [(false, [.own 93 (.int .u64)])]⟩
def F_sha_primes (n : Int) : Option (List Int) := cond (n == 64) (some P64) none
/-- Is the square (the cube) of x at most a prime? -/
def mostN (x p : Nat) (cube : Bool) : Bool :=
  cond (!cube) (decide (x * x / 18446744073709551616 < p))
    (let hi := x * x / 18446744073709551616
     let lo := x * x % 18446744073709551616
     let b := lo * x % 18446744073709551616
     let t := lo * x / 18446744073709551616 + hi * x % 18446744073709551616
     let s := t % 18446744073709551616
     ((hi * x / 18446744073709551616 + t / 18446744073709551616) % 18446744073709551616 == 0) && (decide (s / 4294967296 < p) || ((s / 4294967296 == p) && (s * 4294967296 % 18446744073709551616 == 0) && (b == 0))))
def F_slices_Clone_byte_byte_sig : Sig := ⟨[.v false [.d (.sl (.int .u8))]], [(false, [.own 5 (.int .u8)])]⟩
def F_slices_Clone_byte_byte (l : List Int) : Option (List Int) := cond (Nat.ble l.length 100000000) (some l) none
def F_bytes_Clone_sig : Sig := ⟨[.v false [.d (.sl (.int .u8))]], [(false, [.own 5 (.int .u8)])]⟩
def F_bytes_Clone (l : List Int) : Option (List Int) := cond (Nat.ble l.length 100000000) (some l) none
def F_slices_Concat_byte_byte_sig : Sig := ⟨[.v false [.d (.sl (.sl (.int .u8)))]], [(false, [.own 5 (.int .u8)])]⟩
def F_slices_Concat_byte_byte (l : List (List Int)) : Option (List Int) := cond (Nat.ble l.flatten.length 100000000 && Nat.ble l.length 100000000) (some l.flatten) none
end Go.Proofs.YtgfmfgombmpodaaDoor

/- slices.Clone of bytes: by hand. -/
namespace Go.Proofs.YtgfmfgombmpodaaDoor
open Go.RowKit Go.Lib Pv
set_option linter.unusedVariables false

set_option maxHeartbeats 4000000 in
set_option maxRecDepth 1000000 in
theorem scl_at (a : Addr) (n c : Nat) (l : List Int) (w : World) (hl : l.length = n) (hbig : n ≤ 140737488355328) (hc : ∀ (i : Nat) x, l[i]? = some x → w.cell? (a.add i) = some (.int .u8 x)) :
    Calls Tryd.prog 86 #[.slice (some a) n c] w fun e w' => ∃ v', e = .returned v' ∧ w'.ownsRow w.heap.size 5 1 v' n (l.map (Value.int .u8)) ∧ Below w.heap.size w w' := by
  obtain ⟨i0, hi, hz0, hz1, hz2⟩ := info_parts infoU
  have q22 : ∀ (w : World) (a : Option Addr) (n c n' c' : Nat), (binOp .eql 22 (.slice a n c) (.slice none n' c')).run Tryd.prog w = .ok (.bool a.isNone) w := fun w a n c n' c' => Lib.run_eql_slice_nil w _ _ a n c n' c' Tryd.underlying22
  have A : Aside (∀ (i : Nat) x, l[i]? = some x → w.cell? (a.add i) = some (.int .u8 x)) := hc
  clear hc
  go_enter Tryd.func86, Tryd.ntmps86
  go_wp2_with (at_builtin; refine wpList_append_own _ rfl _ _ 22 rfl w.heap.size 5 i0 (.int .u8 0) 1 1 Tryd.underlying22 hi hz0 hz1 hz2 rfl (by decide) _ _ _ rfl (World.ownsRow_made w #[] 0 (Nat.le_refl _) (Nat.zero_le _) rfl) a n c (l.map (Value.int .u8)) rfl ?qc1 ?qc2 ?qc3 ?qc4 ?qc5 ?qc6 ?_)
  case qc1 => simp; omega
  case qc2 =>
    intro j u hj
    rw [List.getElem?_map] at hj
    obtain ⟨x, hx, rfl⟩ := Option.map_eq_some_iff.1 hj
    exact Lib.cell?_alloc_some _ (A.out j x hx)
  case qc3 => intro u hu; obtain ⟨x, _, rfl⟩ := List.mem_map.1 hu; rfl
  case qc4 => unfold maxLen; omega
  case qc5 => omega
  case qc6 => simp
  intro v' w1 hown hgrow hnil
  go_wp2
  go_ret
  exact ⟨v', rfl, by simpa using hown, ((Below.refl _ w).alloc (Nat.le_refl _) _).grown hgrow (by simp) (by intro k hk; simp [Value.ownBlock] at hk; omega)⟩
set_option maxHeartbeats 4000000 in
theorem scl_nil (n c : Nat) (w : World) : Calls Tryd.prog 86 #[.slice none n c] w fun e w' => e = .returned (.slice none 0 0) ∧ w' = w := by
  have q22 : ∀ (w : World) (a : Option Addr) (n c n' c' : Nat), (binOp .eql 22 (.slice a n c) (.slice none n' c')).run Tryd.prog w = .ok (.bool a.isNone) w := fun w a n c n' c' => Lib.run_eql_slice_nil w _ _ a n c n' c' Tryd.underlying22
  go_enter Tryd.func86, Tryd.ntmps86
  go_wp2
  go_ret
  exact ⟨rfl, rfl⟩
theorem F_slices_Clone_byte_byte_sound {T : Tab} : SoundFn Tryd.prog T 86 F_slices_Clone_byte_byte_sig ⟨F_slices_Clone_byte_byte⟩ := by
  refine sound_of rfl fun F g O xs ls y tmf w args hT hw hlim hls happ hsz hr => ?_
  obtain ⟨(l : List Int), xs', rfl, h2⟩ := appF_inv_c (ts := []) happ
  obtain ⟨rfl, h3⟩ := appF_inv_n h2
  have hls' : some [Leaf.d (.sl (.int .u8)) l] = some ls := hls
  injection hls' with hls'
  subst hls'
  obtain ⟨a, n, c, e0, e1, e2, e3, e4, e5, e6⟩ := rel_ints (hr 0)
  rw [args_1 hsz, e0]
  have h3 : cond (Nat.ble l.length 100000000) (some l) none = some y := h3
  cases hb : Nat.ble l.length 100000000 with
  | false => rw [hb] at h3; cases h3
  | true =>
    rw [hb] at h3
    have hy : l = y := by injection h3
    have hb := Nat.le_of_ble_eq_true hb
    subst hy
    cases a with
    | none =>
      have hl := e6 rfl
      refine (scl_nil n c w).mono ?_
      rintro e w' ⟨rfl, rfl⟩
      exact own_row (l := l) hw hlim (Below.refl _ _) (by rw [hl]; exact World.ownsRow_nil _ _ _ _) e4 rfl rfl
    | some ad =>
      refine (scl_at ad n c l w e1 (by omega) (e5 ad rfl)).mono ?_
      rintro e w' ⟨v, rfl, h1, h2⟩
      exact own_row (l := l) hw hlim h2 (by rw [e1]; exact h1) e4 rfl rfl

end Go.Proofs.YtgfmfgombmpodaaDoor

/- slices.Concat of bytes: by hand. -/
namespace Go.Proofs.YtgfmfgombmpodaaDoor
open Go.RowKit Go.Lib Pv
set_option linter.unusedVariables false
def growRen : Go.Shelf.Ren := ⟨fun | 4 => 56 | n => n, fun | 22 => 22 | 25 => 5 | n => n, fun n => n⟩
theorem growLays : Lays8.n4 Tryd.prog growRen := {
  mixed := by kernel_rfl
  f4 := ⟨"slices.Grow[[]byte,byte]", by decide, Tryd.func56.trans (congrArg some (by kernel_rfl))⟩
  t0 := Tryd.underlying0
  a0 := Tryd.isAgg0
  z0 := Tryd.sizeOf0
  v0 := Tryd.zeroValue0
  t3 := Tryd.underlying3
  a3 := Tryd.isAgg3
  z3 := Tryd.sizeOf3
  v3 := Tryd.zeroValue3
  t4 := Tryd.underlying4
  a4 := Tryd.isAgg4
  z4 := Tryd.sizeOf4
  v4 := Tryd.zeroValue4
  t9 := Tryd.underlying9
  a9 := Tryd.isAgg9
  z9 := Tryd.sizeOf9
  v9 := Tryd.zeroValue9
  t20 := Tryd.underlying20
  a20 := Tryd.isAgg20
  z20 := Tryd.sizeOf20
  v20 := Tryd.zeroValue20
  t22 := Tryd.underlying22
  a22 := Tryd.isAgg22
  z22 := Tryd.sizeOf22
  v22 := Tryd.zeroValue22 }
/-- Room for so many bytes, out of nothing. -/
theorem grow_nil (n : Nat) (hn : n ≤ 1000000000) (w : World) :
    Calls Tryd.prog 56 #[.slice none 0 0, .int .i64 n] w fun e w' => ∃ v, e = .returned v ∧ w'.ownsRow w.heap.size 5 1 v 0 [] ∧ Below w.heap.size w w' := by
  obtain ⟨i0, hi, hz0, hz1, hz2⟩ := info_parts infoU
  by_cases h0 : n = 0
  · subst h0
    refine (Any8.slices_Grow_room growLays none 0 0 0 w (Nat.le_refl _) (by omega) (by omega) (Nat.le_refl _)).mono ?_
    rintro e w' ⟨rfl, rfl⟩
    exact ⟨_, rfl, World.ownsRow_nil _ _ _ _, Below.refl _ _⟩
  · refine (Any8.slices_Grow_grow growLays i0 (.int .u8 0) hi hz0 (by rw [hz1]; decide) none 0 0 n [] w (Nat.le_refl _) (by omega) (by rw [hz2]; omega) (by omega) (by simp) (fun _ => rfl) (fun a h => by cases h)).mono ?_
    rintro e w' ⟨rfl, rfl⟩
    have hge := grownCap_ge w (0 + n) 0 5
    have hle := grownCap_le_maxLen w (0 + n) 0 5 (by unfold maxLen; omega)
    refine ⟨_, rfl, World.ownsRow_made w.drew _ _ (Nat.le_refl _) hle ?_, ((Below.refl _ w).drew).alloc (Nat.le_refl _) _⟩
    have e : (Value.int .u8 0).cells.size = 1 := rfl
    show (#[] ++ Builtin.zeroCells (Value.int .u8 0).cells (0 + n - 0) ++ Builtin.zeroCells (Value.int .u8 0).cells (grownCap w (0 + n) 0 5 - (0 + n))).size = grownCap w (0 + n) 0 5 * 1
    rw [Array.size_append, Array.size_append, size_zeroCells, size_zeroCells, e]
    simp only [List.size_toArray, List.length_nil]
    omega
/-- Slices of bytes that lie in a row. -/
def InRow (w : World) (a : Option Addr) (L : List (List Int)) : Prop := ∀ (i : Nat) l, L[i]? = some l → ∃ ad b n c, a = some ad ∧ w.cell? (ad.add i) = some (.slice b n c) ∧ l.length = n ∧ (∀ bd, b = some bd → ∀ (j : Nat) x, l[j]? = some x → w.cell? (bd.add j) = some (.int .u8 x)) ∧ (b = none → l = [])
theorem take_flat {L : List (List Int)} {k : Nat} {l : List Int} (h : L[k]? = some l) : (L.take (k + 1)).flatten = (L.take k).flatten ++ l := by
  rw [List.take_add_one, h, List.flatten_append]
  simp
theorem take_flat_le (L : List (List Int)) (k : Nat) : (L.take k).flatten.length ≤ L.flatten.length := by
  have : L.flatten = (L.take k).flatten ++ (L.drop k).flatten := by rw [← List.flatten_append, List.take_append_drop]
  rw [this, List.length_append]; omega
theorem run_app_none {P : Program} {w : World} (base : Nat) (t ty e : TypeId) (i : TypeInfo) (size : Nat) (ht : P.underlying t = some (.slice e)) (hi : P.info? e = some i) (v : Value) (n c : Nat) (xs : List Value) (hown : w.ownsRow base e size v n xs) :
    (Builtin.append_ #[t, t] ty #[v, .slice none 0 c]).run P w = .ok v w := by
  rcases hown.2 with ⟨rfl, rfl⟩ | ⟨g, cap, cur, rfl, _, _, hnc, _⟩
  · simp [Builtin.append_, run_underlying ht, sizeOf, typeInfo, hi, Builtin.lenOf, Builtin.firstCells]
  · simp [Builtin.append_, run_underlying ht, sizeOf, typeInfo, hi, Builtin.lenOf, Builtin.firstCells, hnc, storeCells]
theorem wpList_app_any {P : Program} {w : World} {ops : Array Oper} {rest : List Oper} {o : Oper} {a : Act} {Q : Exit → Act → World → Prop} (hgd : o.guard = none) (s x : Operand) (t : TypeId)
    (ho : o.op = .call { callee := .builtin .append, args := #[s, x], argTypes := #[t, t] }) (base : Nat) (e : TypeId) (i : TypeInfo) (z : Value) (ht : P.underlying t = some (.slice e)) (hi : P.info? e = some i) (hz : i.zero = some z) (hsize : i.size = 1) (hby : i.bytes = 1) (hzs : z.cells.size = 1)
    (v : Value) (n : Nat) (xs : List Value) (hs : a.eval s = v) (hown : w.ownsRow base e 1 v n xs) (b : Option Addr) (m c : Nat) (l : List Int) (hx : a.eval x = .slice b m c) (hl : l.length = m)
    (hin : ∀ bd, b = some bd → ∀ (j : Nat) y, l[j]? = some y → w.cell? (bd.add j) = some (.int .u8 y)) (hnil : b = none → l = []) (hbytes : n + m ≤ 1000000000) (hbase : base ≤ w.heap.size)
    (h : ∀ v' w', w'.ownsRow base e 1 v' (n + m) (xs ++ l.map (Value.int .u8)) → Below base w w' → wpList P ops Q rest (a.put o.dst v') w') : wpList P ops Q (o :: rest) a w := by
  cases b with
  | none =>
    have hl0 := hnil rfl
    subst hl0
    have hm : m = 0 := hl.symm
    subst hm
    refine wpList_plain hgd fun K hK => ?_
    have hrun := run_app_none (P := P) (w := w) base t o.type e i 1 ht hi v n c xs hown
    unfold Oper.wp
    simp [execOp, ho, resolve, invoke, builtin, hs, hx, hrun, Result.andThen]
    exact hK _ _ (h v w (by simpa using hown) (Below.refl _ _))
  | some ad =>
    refine wpList_append_own w hgd s x t ho base e i z 1 1 ht hi hz hsize hby hzs (by omega) v n xs hs hown ad m c (l.map (Value.int .u8)) hx (by rw [List.length_map, hl, Nat.mul_one]) (fun j u hj => ?_) (fun u hu => ?_) (by unfold maxLen; omega) (by omega) hbase fun v' w' h1 h2 _ => h v' w' h1 ((Below.refl _ w).grown h2 hbase fun k hk => ?_)
    · rw [List.getElem?_map] at hj
      obtain ⟨y, hy, rfl⟩ := Option.map_eq_some_iff.1 hj
      exact hin ad rfl j y hy
    · obtain ⟨y, _, rfl⟩ := List.mem_map.1 hu
      rfl
    · rcases hown.2 with ⟨rfl, _⟩ | ⟨b0, cap, cur, rfl, hb0, _⟩
      · simp [Value.ownBlock] at hk
      · simp [Value.ownBlock] at hk
        omega
theorem InRow.below {w w' : World} {a : Option Addr} {L : List (List Int)} (h : InRow w a L) (hb : Below w.heap.size w w') : InRow w' a L := fun i l hl => by
  obtain ⟨ad, b, n, c, h1, h2, h3, h4, h5⟩ := h i l hl
  have keep : ∀ {p : Addr} {u : Value}, w.cell? p = some u → w'.cell? p = some u := fun {p u} hp => by rw [hb.cell (block_lt_of_cell hp)]; exact hp
  exact ⟨ad, b, n, c, h1, keep h2, h3, fun bd hbd j x hx => keep (h4 bd hbd j x hx), h5⟩
set_option maxHeartbeats 8000000 in
set_option maxRecDepth 1000000 in
theorem cat_walk (a : Option Addr) (m c : Nat) (L : List (List Int)) (w : World) (hm : L.length = m) (hm2 : m ≤ 100000000) (hb : L.flatten.length ≤ 100000000) (hc : Aside (InRow w a L)) :
    Calls Tryd.prog 33 #[.slice a m c] w fun e w' => ∃ v, e = .returned v ∧ w'.ownsRow w.heap.size 5 1 v L.flatten.length (L.flatten.map (Value.int .u8)) ∧ Below w.heap.size w w' := by
  obtain ⟨i0, hi, hz0, hz1, hz2⟩ := info_parts infoU
  go_enter Tryd.func33, Tryd.ntmps33
  go_wp2
  go_loopw [3, 11] (fun s i wr => wr = w ∧ ∃ k : Nat, k ≤ m ∧ i = .int .i64 k ∧ s = .int .i64 ((L.take k).flatten.length : Nat)) (fun _ i _ => m - (RowKit.intOf i).toNat)
  case atStart => exact ⟨rfl, 0, Nat.zero_le _, rfl, rfl⟩
  case round =>
    obtain ⟨hwr, k, hk, rfl, rfl⟩ := hrel
    have hwr := hwr.symm
    subst hwr
    have hle := take_flat_le L k
    obtain ⟨s, hs⟩ : ∃ s, (L.take k).flatten.length = s := ⟨_, rfl⟩
    rw [hs] at hle ⊢
    by_cases hlt : k < m
    · obtain ⟨l, hl⟩ : ∃ l, L[k]? = some l := ⟨L[k]'(by omega), List.getElem?_eq_getElem (by omega)⟩
      obtain ⟨ad, b, n, c', ha, hcell, hn, _⟩ := hc.out k l hl
      have hs2 : (L.take (k + 1)).flatten.length = s + n := by rw [take_flat hl, List.length_append, hs, hn]
      have hle2 := take_flat_le L (k + 1)
      rw [hs2] at hle2
      subst ha
      go_wp2
      go_roundw
      case rel => exact ⟨trivial, k + 1, by omega, by simp, by rw [hs2]; simp⟩
      case measure => simp [RowKit.intOf]; omega
    · have hkm : k = m := by omega
      subst hkm
      have hall : L.take k = L := List.take_of_length_le (by omega)
      rw [hall] at hs
      go_wp2_with (go_at_call 56; (with_reducible refine (grow_nil s (by omega) _).mono ?_); rintro e w1 ⟨v, rfl, hown, hbel⟩)
      go_loopw [6, 27] (fun v i wr => ∃ j : Nat, j ≤ k ∧ i = .int .i64 j ∧ wr.ownsRow w.heap.size 5 1 v (L.take j).flatten.length ((L.take j).flatten.map (Value.int .u8)) ∧ Below w.heap.size w wr) (fun _ i _ => k - (RowKit.intOf i).toNat)
      case atStart => exact ⟨0, Nat.zero_le _, rfl, by simpa using hown, hbel⟩
      case round =>
        obtain ⟨j, hj, rfl, hown2, hbel2⟩ := hrel
        by_cases hlt2 : j < k
        · obtain ⟨l, hl⟩ : ∃ l, L[j]? = some l := ⟨L[j]'(by omega), List.getElem?_eq_getElem (by omega)⟩
          obtain ⟨ad, b, n, c', ha, hcell, hn, hin, hnil⟩ := hc.out j l hl
          subst ha
          have hs2 : (L.take (j + 1)).flatten = (L.take j).flatten ++ l := take_flat hl
          have hle2 := take_flat_le L (j + 1)
          rw [hs2, List.length_append, hn] at hle2
          have keep : ∀ {p : Addr} {u : Value}, w.cell? p = some u → wr.cell? p = some u := fun {p u} hp => by rw [hbel2.cell (block_lt_of_cell hp)]; exact hp
          have hcell2 := keep hcell
          have B : Aside (Below w.heap.size w wr ∧ wr.ownsRow w.heap.size 5 1 u6 (L.take j).flatten.length ((L.take j).flatten.map (Value.int .u8)) ∧ (∀ bd, b = some bd → ∀ (i : Nat) y, l[i]? = some y → wr.cell? (bd.add i) = some (.int .u8 y)) ∧ (b = none → l = []) ∧ l.length = n ∧ (L.take (j + 1)).flatten = (L.take j).flatten ++ l ∧ (L.take j).flatten.length + n ≤ 1000000000) := ⟨hbel2, hown2, fun bd hbd i y hy => keep (hin bd hbd i y hy), hnil, hn, hs2, by omega⟩
          clear hbel2 hown2 hin hnil hs2 hle2 keep hcell hown hbel hs hall
          go_wp2_with (at_builtin; refine wpList_app_any rfl _ _ 22 rfl w.heap.size 5 i0 (.int .u8 0) Tryd.underlying22 hi hz0 hz1 hz2 rfl _ _ _ rfl B.out.2.1 b n c' l rfl B.out.2.2.2.2.1 B.out.2.2.1 B.out.2.2.2.1 B.out.2.2.2.2.2.2 B.out.1.size ?_; intro v2 w2 hown3 hbel3)
          go_roundw
          case rel =>
            refine ⟨j + 1, by omega, by simp, ?_, B.out.1.trans hbel3⟩
            rw [B.out.2.2.2.2.2.1, List.length_append, List.map_append, B.out.2.2.2.2.1]
            exact hown3
          case measure => simp [RowKit.intOf]; omega
        · have hjk : j = k := by omega
          subst hjk
          rw [hall] at hown2
          go_wp2
          go_ret
          rw [hs] at hown2 ⊢
          exact ⟨_, rfl, hown2, hbel2⟩
/-- Slices of bytes, as a contract meets them. -/
theorem inRow_of {w : World} {C : Com} {L : List (List Int)} {cs : List Value} (h : RepD w C (.sl (.sl (.int .u8))) L cs) : ∃ a m c, cs = [.slice a m c] ∧ L.length = m ∧ InRow w a L ∧ ∀ l ∈ L, ∀ x ∈ l, (Lit.int .u8 x).wf = true := by
  obtain ⟨a, n, c, e0, e1, e2, e3, e4⟩ := h
  have key : ∀ (i : Nat) (l : List Int), L[i]? = some l → (∃ ad b n c, a = some ad ∧ w.cell? (ad.add i) = some (.slice b n c) ∧ l.length = n ∧ (∀ bd, b = some bd → ∀ (j : Nat) x, l[j]? = some x → w.cell? (bd.add j) = some (.int .u8 x)) ∧ (b = none → l = [])) ∧ ∀ x ∈ l, (Lit.int .u8 x).wf = true := fun i l hl => by
    obtain ⟨ad, us, h1, h2, h3, h4⟩ := e4 i l hl
    obtain ⟨b, n', c', f0, f1, f2, f3, f4, f5, f6⟩ := ints_of h4
    have := (h3 0 (.slice b n' c') (by rw [f0]; rfl)).1
    rw [show (Ty.sl (Ty.int .u8)).size = 1 from rfl, Nat.mul_one, Nat.add_zero] at this
    exact ⟨⟨ad, b, n', c', h1, this, f1, f5, f6⟩, f4⟩
  refine ⟨a, n, c, e0, e1, fun i l hl => (key i l hl).1, fun l hl x hx => ?_⟩
  obtain ⟨i, hi⟩ := List.mem_iff_getElem?.1 hl
  exact (key i l hi).2 x hx
theorem F_slices_Concat_byte_byte_sound {T : Tab} : SoundFn Tryd.prog T 33 F_slices_Concat_byte_byte_sig ⟨F_slices_Concat_byte_byte⟩ := by
  refine sound_of rfl fun F g O xs ls y tmf w args hT hw hlim hls happ hsz hr => ?_
  obtain ⟨(L : List (List Int)), xs', rfl, h2⟩ := appF_inv_c (ts := []) happ
  obtain ⟨rfl, h3⟩ := appF_inv_n h2
  have hls' : some [Leaf.d (.sl (.sl (.int .u8))) L] = some ls := hls
  injection hls' with hls'
  subst hls'
  obtain ⟨a, m, c, e0, e1, e2, e3⟩ := inRow_of (rel_leaf.1 (hr 0))
  have e0 : args.getD 0 undef = .slice a m c := by injection e0
  rw [args_1 hsz, e0]
  have h3 : cond (Nat.ble L.flatten.length 100000000 && Nat.ble L.length 100000000) (some L.flatten) none = some y := h3
  cases hb : (Nat.ble L.flatten.length 100000000 && Nat.ble L.length 100000000) with
  | false => rw [hb] at h3; cases h3
  | true =>
    rw [hb] at h3
    have hy : L.flatten = y := by injection h3
    rw [Bool.and_eq_true] at hb
    have b1 := Nat.le_of_ble_eq_true hb.1
    have b2 := Nat.le_of_ble_eq_true hb.2
    subst hy
    refine (cat_walk a m c L w e1 (by omega) b1 e2).mono ?_
    rintro e w' ⟨v, rfl, h1, h2⟩
    exact own_row (l := L.flatten) hw hlim h2 h1 (fun x hx => by obtain ⟨l, hl, hx⟩ := List.mem_flatten.1 hx; exact e3 l hl x hx) rfl rfl
end Go.Proofs.YtgfmfgombmpodaaDoor

/- The functions of the program as Lean functions, written by a program of ours and held by the kernel. -/
namespace Go.Proofs.YtgfmfgombmpodaaDoor
open Pv
set_option linter.unusedVariables false
noncomputable def F_tale_answers_L4 (i1 : Int) (i2 : Int) (s : List (List Int) × Int) : Option (((List (List Int)) ⊕ (List (List Int))) ⊕ (List (List Int) × Int)) :=
  let l3 := s.1; let i4 := s.2
  cond (decide (i4 < (Int.tmod i2 4)))
  (cond ((Int.tmod i1 2) == 1)
    (chk (decide ((l3.length + ([([10, 0, 0, (IntKind.u8.wrap (IntKind.i64.wrap (1 + i4)))] : List Int)] : List (List Int)).length) * 16 ≤ 140737488355328) && decide (l3.length + ([([10, 0, 0, (IntKind.u8.wrap (IntKind.i64.wrap (1 + i4)))] : List Int)] : List (List Int)).length ≤ maxLen))
      (some (.inr ((l3 ++ ([([10, 0, 0, (IntKind.u8.wrap (IntKind.i64.wrap (1 + i4)))] : List Int)] : List (List Int))), (IntKind.i64.wrap (i4 + 1))))))
    (chk (decide ((l3.length + ([([192, 0, 2, (IntKind.u8.wrap (IntKind.i64.wrap (1 + i4)))] : List Int)] : List (List Int)).length) * 16 ≤ 140737488355328) && decide (l3.length + ([([192, 0, 2, (IntKind.u8.wrap (IntKind.i64.wrap (1 + i4)))] : List Int)] : List (List Int)).length ≤ maxLen))
      (some (.inr ((l3 ++ ([([192, 0, 2, (IntKind.u8.wrap (IntKind.i64.wrap (1 + i4)))] : List Int)] : List (List Int))), (IntKind.i64.wrap (i4 + 1)))))))
  (some (.inl (.inr l3)))
noncomputable def F_tale_answers_J2 (s : List (List Int)) : Option (List (List Int)) :=
  let l5 := s
  some l5
noncomputable def F_tale_answers (i1 : Int) (i2 : Int) : Option (List (List Int)) :=
  joinC (S := List (List Int)) (R := List (List Int))
  (loopC (S := List (List Int) × Int) (R := (List (List Int)) ⊕ (List (List Int))) (F_tale_answers_L4 i1 i2) (([] : List (List Int)), 0))
  (F_tale_answers_J2)
def F_tale_answers_sig : Sig := ⟨[.v false [.d (.int .i64)], .v false [.d (.int .i64)]], [(false, [.own 9 .str])]⟩
def F_tale_answers_ann : List (Nat × Ann) := [(2, ⟨3, [(5, false, [.own 9 .str])], [], [6, 7, 8, 9, 10, 11, 12, 13, 14, 15, 16, 17, 18, 19, 20, 21, 22, 23, 24, 25, 26, 27, 28, 29], []⟩), (4, ⟨5, [(5, false, [.own 9 .str]), (10, false, [.d (.int .i64)])], [], [6, 7, 11, 12, 13, 14, 15, 16, 17, 18, 19, 20, 21, 22, 23, 24, 25, 26, 27, 28, 29], []⟩)]
noncomputable def F_tale_answers_env : Env := ⟨Tryd.prog, [], []⟩
set_option maxRecDepth 100000 in
theorem F_tale_answers_text : pvFn F_tale_answers_env F_tale_answers_ann Tryd.f42 F_tale_answers_sig = F_tale_answers := by kernel_rfl
noncomputable def F_tale_bytes (i1 : Int) (i2 : Int) : Option (List Int) :=
  (F_slices_Repeat_byte_byte ([(IntKind.u8.wrap i2)] : List Int) i1).bind fun l3 =>
  some l3
def F_tale_bytes_sig : Sig := ⟨[.v false [.d (.int .i64)], .v false [.d (.int .i64)]], [(false, [.own 5 (.int .u8)])]⟩
def F_tale_bytes_ann : List (Nat × Ann) := []
noncomputable def F_tale_bytes_env : Env := ⟨Tryd.prog, [(63, ⟨F_slices_Repeat_byte_byte_sig, ⟨F_slices_Repeat_byte_byte⟩⟩)], []⟩
set_option maxRecDepth 100000 in
theorem F_tale_bytes_text : pvFn F_tale_bytes_env F_tale_bytes_ann Tryd.f43 F_tale_bytes_sig = F_tale_bytes := by kernel_rfl
noncomputable def F_frame_Put (i1 : Int) (i2 : Int) (i3 : Int) (l4 : List Int) : Option (List Int × Int) :=
  cond (decide (i1 < 0))
  (some (([] : List Int), 1))
  (cond (decide (i1 > 255))
    (some (([] : List Int), 1))
    (cond (decide (i2 < 0))
      (some (([] : List Int), 1))
      (cond (decide (i2 > 255))
        (some (([] : List Int), 1))
        (cond (decide (i3 < 0))
          (some (([] : List Int), 1))
          (cond (decide (i3 > 2147483647))
            (some (([] : List Int), 1))
            (cond (decide ((l4.length : Int) > 16777215))
              (some (([] : List Int), 3))
              (chk (decide ((([(IntKind.u8.wrap (Int.fdiv (l4.length : Int) (2 ^ 16))), (IntKind.u8.wrap (Int.fdiv (l4.length : Int) (2 ^ 8))), (IntKind.u8.wrap (l4.length : Int)), (IntKind.u8.wrap i1), (IntKind.u8.wrap i2), (IntKind.u8.wrap (Int.fdiv i3 (2 ^ 24))), (IntKind.u8.wrap (Int.fdiv i3 (2 ^ 16))), (IntKind.u8.wrap (Int.fdiv i3 (2 ^ 8))), (IntKind.u8.wrap i3)] : List Int).length + l4.length) * 1 ≤ 140737488355328) && decide (([(IntKind.u8.wrap (Int.fdiv (l4.length : Int) (2 ^ 16))), (IntKind.u8.wrap (Int.fdiv (l4.length : Int) (2 ^ 8))), (IntKind.u8.wrap (l4.length : Int)), (IntKind.u8.wrap i1), (IntKind.u8.wrap i2), (IntKind.u8.wrap (Int.fdiv i3 (2 ^ 24))), (IntKind.u8.wrap (Int.fdiv i3 (2 ^ 16))), (IntKind.u8.wrap (Int.fdiv i3 (2 ^ 8))), (IntKind.u8.wrap i3)] : List Int).length + l4.length ≤ maxLen))
                (some ((([(IntKind.u8.wrap (Int.fdiv (l4.length : Int) (2 ^ 16))), (IntKind.u8.wrap (Int.fdiv (l4.length : Int) (2 ^ 8))), (IntKind.u8.wrap (l4.length : Int)), (IntKind.u8.wrap i1), (IntKind.u8.wrap i2), (IntKind.u8.wrap (Int.fdiv i3 (2 ^ 24))), (IntKind.u8.wrap (Int.fdiv i3 (2 ^ 16))), (IntKind.u8.wrap (Int.fdiv i3 (2 ^ 8))), (IntKind.u8.wrap i3)] : List Int) ++ l4), 0)))))))))
def F_frame_Put_sig : Sig := ⟨[.v true [.d (.int .i64), .d (.int .i64), .d (.int .i64), .d (.sl (.int .u8))]], [(false, [.own 5 (.int .u8)]), (false, [.d (.int .i64)])]⟩
def F_frame_Put_ann : List (Nat × Ann) := []
noncomputable def F_frame_Put_env : Env := ⟨Tryd.prog, [], []⟩
set_option maxRecDepth 100000 in
theorem F_frame_Put_text : pvFn F_frame_Put_env F_frame_Put_ann Tryd.f57 F_frame_Put_sig = F_frame_Put := by kernel_rfl
noncomputable def F_tale_put (i1 : Int) (i2 : Int) (i3 : Int) (l4 : List Int) : Option (List Int) :=
  (F_frame_Put i1 i2 i3 l4).bind fun x5 =>
  some x5.1
def F_tale_put_sig : Sig := ⟨[.v true [.d (.int .i64), .d (.int .i64), .d (.int .i64), .d (.sl (.int .u8))]], [(false, [.own 5 (.int .u8)])]⟩
def F_tale_put_ann : List (Nat × Ann) := []
noncomputable def F_tale_put_env : Env := ⟨Tryd.prog, [(57, ⟨F_frame_Put_sig, ⟨F_frame_Put⟩⟩)], []⟩
set_option maxRecDepth 100000 in
theorem F_tale_put_text : pvFn F_tale_put_env F_tale_put_ann Tryd.f34 F_tale_put_sig = F_tale_put := by kernel_rfl
noncomputable def F_part_flag (b1 : Bool) (i2 : Int) : Option (Int) :=
  cond b1
  (some i2)
  (some 0)
def F_part_flag_sig : Sig := ⟨[.v false [.d .bool], .v false [.d (.int .i64)]], [(false, [.d (.int .i64)])]⟩
def F_part_flag_ann : List (Nat × Ann) := []
noncomputable def F_part_flag_env : Env := ⟨Tryd.prog, [], []⟩
set_option maxRecDepth 100000 in
theorem F_part_flag_text : pvFn F_part_flag_env F_part_flag_ann Tryd.f58 F_part_flag_sig = F_part_flag := by kernel_rfl
noncomputable def F_part_bits_L4 (i1 : Int) (s : List Int × Int) : Option (((List Int) ⊕ (List Int)) ⊕ (List Int × Int)) :=
  let l3 := s.1; let i4 := s.2
  cond (decide (i4 ≥ 0))
  (chk (decide (0 ≤ (IntKind.i64.wrap (8 * i4))))
    (chk (decide ((l3.length + ([(IntKind.u8.wrap (Int.fdiv i1 (2 ^ (min ((IntKind.i64.wrap (8 * i4))).toNat 64))))] : List Int).length) * 1 ≤ 140737488355328) && decide (l3.length + ([(IntKind.u8.wrap (Int.fdiv i1 (2 ^ (min ((IntKind.i64.wrap (8 * i4))).toNat 64))))] : List Int).length ≤ maxLen))
      (some (.inr ((l3 ++ ([(IntKind.u8.wrap (Int.fdiv i1 (2 ^ (min ((IntKind.i64.wrap (8 * i4))).toNat 64))))] : List Int)), (IntKind.i64.wrap (i4 - 1)))))))
  (some (.inl (.inr l3)))
noncomputable def F_part_bits_J2 (s : List Int) : Option (List Int) :=
  let l5 := s
  some l5
noncomputable def F_part_bits (i1 : Int) (i2 : Int) : Option (List Int) :=
  joinC (S := List Int) (R := List Int)
  (loopC (S := List Int × Int) (R := (List Int) ⊕ (List Int)) (F_part_bits_L4 i1) (([] : List Int), (IntKind.i64.wrap (i2 - 1))))
  (F_part_bits_J2)
def F_part_bits_sig : Sig := ⟨[.v false [.d (.int .i64)], .v false [.d (.int .i64)]], [(false, [.own 5 (.int .u8)])]⟩
def F_part_bits_ann : List (Nat × Ann) := [(2, ⟨3, [(5, false, [.own 5 (.int .u8)])], [], [6, 7, 8, 9, 10, 11, 12, 13, 14, 15, 16, 17, 18, 19, 20], []⟩), (4, ⟨5, [(5, false, [.own 5 (.int .u8)]), (6, false, [.d (.int .i64)])], [], [9, 10, 11, 12, 13, 14, 15, 16, 17, 18, 19, 20], []⟩)]
noncomputable def F_part_bits_env : Env := ⟨Tryd.prog, [], []⟩
set_option maxRecDepth 100000 in
theorem F_part_bits_text : pvFn F_part_bits_env F_part_bits_ann Tryd.f59 F_part_bits_sig = F_part_bits := by kernel_rfl
noncomputable def F_part_Settings_L4 (l1 : List (Int × Int)) (s : Int × Int × Int × Int × List Int × Int × Int × Int × List Int) : Option (((Int × Int × Int × List Int) ⊕ (Int × Int × Int × List Int × Int × Int × Int × List Int)) ⊕ (Int × Int × Int × Int × List Int × Int × Int × Int × List Int)) :=
  let i4 := s.1; let i5 := s.2.1; let i6 := s.2.2.1; let i7 := s.2.2.2.1; let l8 := s.2.2.2.2.1; let i9 := s.2.2.2.2.2.1; let i10 := s.2.2.2.2.2.2.1; let i11 := s.2.2.2.2.2.2.2.1; let l12 := s.2.2.2.2.2.2.2.2
  cond (decide (i4 < (l1.length : Int)))
  ((getI l1 i4).bind fun x13 =>
    (F_part_bits x13.1 2).bind fun l14 =>
    chk (decide ((l12.length + l14.length) * 1 ≤ 140737488355328) && decide (l12.length + l14.length ≤ maxLen))
    ((F_part_bits x13.2 4).bind fun l15 =>
      chk (decide (((l12 ++ l14).length + l15.length) * 1 ≤ 140737488355328) && decide ((l12 ++ l14).length + l15.length ≤ maxLen))
      (some (.inr ((IntKind.i64.wrap (i4 + 1)), i5, i6, i7, l8, i9, i10, i11, ((l12 ++ l14) ++ l15))))))
  (some (.inl (.inr (i5, i6, i7, l8, i9, i10, i11, l12))))
noncomputable def F_part_Settings_J2 (s : Int × Int × Int × List Int × Int × Int × Int × List Int) : Option (Int × Int × Int × List Int) :=
  let i16 := s.1; let i17 := s.2.1; let i18 := s.2.2.1; let l19 := s.2.2.2.1; let i20 := s.2.2.2.2.1; let i21 := s.2.2.2.2.2.1; let i22 := s.2.2.2.2.2.2.1; let l23 := s.2.2.2.2.2.2.2
  some (i20, i21, i22, l23)
noncomputable def F_part_Settings (l1 : List (Int × Int)) (b2 : Bool) : Option (Int × Int × Int × List Int) :=
  (F_part_flag b2 1).bind fun i3 =>
  joinC (S := Int × Int × Int × List Int × Int × Int × Int × List Int) (R := Int × Int × Int × List Int)
  (loopC (S := Int × Int × Int × Int × List Int × Int × Int × Int × List Int) (R := (Int × Int × Int × List Int) ⊕ (Int × Int × Int × List Int × Int × Int × Int × List Int)) (F_part_Settings_L4 l1) (0, 0, 0, 0, ([] : List Int), 4, i3, 0, ([] : List Int)))
  (F_part_Settings_J2)
def F_part_Settings_sig : Sig := ⟨[.v false [.d (.sl (.pr (.int .i64) (.int .i64)))], .v false [.d .bool]], [(true, [.d (.int .i64), .d (.int .i64), .d (.int .i64), .own 5 (.int .u8)])]⟩
def F_part_Settings_ann : List (Nat × Ann) := [(2, ⟨3, [], [(4, [.d (.int .i64), .d (.int .i64), .d (.int .i64), .own 5 (.int .u8)]), (5, [.d (.int .i64), .d (.int .i64), .d (.int .i64), .own 5 (.int .u8)])], [7, 11, 12, 13, 14, 15, 16, 17, 18, 19, 20, 21, 22, 23, 24, 25, 26, 27, 28], []⟩), (4, ⟨5, [(13, false, [.d (.int .i64)])], [(4, [.d (.int .i64), .d (.int .i64), .d (.int .i64), .own 5 (.int .u8)]), (5, [.d (.int .i64), .d (.int .i64), .d (.int .i64), .own 5 (.int .u8)])], [7, 14, 15, 16, 17, 18, 19, 20, 21, 22, 23, 24, 25, 26, 27, 28], []⟩)]
noncomputable def F_part_Settings_env : Env := ⟨Tryd.prog, [(58, ⟨F_part_flag_sig, ⟨F_part_flag⟩⟩), (59, ⟨F_part_bits_sig, ⟨F_part_bits⟩⟩)], []⟩
set_option maxRecDepth 100000 in
theorem F_part_Settings_text : pvFn F_part_Settings_env F_part_Settings_ann Tryd.f35 F_part_Settings_sig = F_part_Settings := by kernel_rfl
noncomputable def F_tale_Hello : Option (List Int) :=
  (F_part_Settings ([] : List (Int × Int)) false).bind fun x1 =>
  (F_tale_put x1.1 x1.2.1 x1.2.2.1 x1.2.2.2).bind fun l2 =>
  (F_slices_Concat_byte_byte ([([80, 82, 73, 32, 42, 32, 72, 84, 84, 80, 47, 50, 46, 48, 13, 10, 13, 10, 83, 77, 13, 10, 13, 10] : List Int), l2] : List (List Int))).bind fun l3 =>
  some l3
def F_tale_Hello_sig : Sig := ⟨[], [(false, [.own 5 (.int .u8)])]⟩
def F_tale_Hello_ann : List (Nat × Ann) := []
noncomputable def F_tale_Hello_env : Env := ⟨Tryd.prog, [(33, ⟨F_slices_Concat_byte_byte_sig, ⟨F_slices_Concat_byte_byte⟩⟩), (34, ⟨F_tale_put_sig, ⟨F_tale_put⟩⟩), (35, ⟨F_part_Settings_sig, ⟨F_part_Settings⟩⟩)], []⟩
set_option maxRecDepth 100000 in
theorem F_tale_Hello_text : pvFn F_tale_Hello_env F_tale_Hello_ann Tryd.f15 F_tale_Hello_sig = F_tale_Hello := by kernel_rfl
noncomputable def F_tale_flags (i1 : Int) (b2 : Bool) : Option (Int) :=
  cond b2
  (some (bits .or .i64 i1 1))
  (some i1)
def F_tale_flags_sig : Sig := ⟨[.v false [.d (.int .i64)], .v false [.d .bool]], [(false, [.d (.int .i64)])]⟩
def F_tale_flags_ann : List (Nat × Ann) := []
noncomputable def F_tale_flags_env : Env := ⟨Tryd.prog, [], []⟩
set_option maxRecDepth 100000 in
theorem F_tale_flags_text : pvFn F_tale_flags_env F_tale_flags_ann Tryd.f40 F_tale_flags_sig = F_tale_flags := by kernel_rfl
noncomputable def F_tale_Data (i1 : Int) (l2 : List Int) (b3 : Bool) : Option (List Int) :=
  (F_tale_flags 0 b3).bind fun i4 =>
  (F_tale_put 0 i4 i1 l2).bind fun l5 =>
  some l5
def F_tale_Data_sig : Sig := ⟨[.v false [.d (.int .i64)], .v false [.d (.sl (.int .u8))], .v false [.d .bool]], [(false, [.own 5 (.int .u8)])]⟩
def F_tale_Data_ann : List (Nat × Ann) := []
noncomputable def F_tale_Data_env : Env := ⟨Tryd.prog, [(34, ⟨F_tale_put_sig, ⟨F_tale_put⟩⟩), (40, ⟨F_tale_flags_sig, ⟨F_tale_flags⟩⟩)], []⟩
set_option maxRecDepth 100000 in
theorem F_tale_Data_text : pvFn F_tale_Data_env F_tale_Data_ann Tryd.f21 F_tale_Data_sig = F_tale_Data := by kernel_rfl
noncomputable def F_pint_ones (i1 : Int) : Option (Int) :=
  cond ((decide (i1 < 1)) || (decide (i1 > 8)))
  (some 0)
  (chk (decide (0 ≤ i1))
    (some (IntKind.i64.wrap ((IntKind.i64.wrap (1 * 2 ^ (min (i1).toNat 64))) - 1))))
def F_pint_ones_sig : Sig := ⟨[.v false [.d (.int .i64)]], [(false, [.d (.int .i64)])]⟩
def F_pint_ones_ann : List (Nat × Ann) := []
noncomputable def F_pint_ones_env : Env := ⟨Tryd.prog, [], []⟩
set_option maxRecDepth 100000 in
theorem F_pint_ones_text : pvFn F_pint_ones_env F_pint_ones_ann Tryd.f77 F_pint_ones_sig = F_pint_ones := by kernel_rfl
noncomputable def F_pint_Put_G1_0 (s : Int × List Int) : Option ((List Int × Int) ⊕ (Nat × Int × List Int)) :=
  let i5 := s.1; let l6 := s.2
  cond (decide (i5 < 128))
  (chk (decide ((l6.length + ([(IntKind.u8.wrap i5)] : List Int).length) * 1 ≤ 140737488355328) && decide (l6.length + ([(IntKind.u8.wrap i5)] : List Int).length ≤ maxLen))
    (some (.inl ((l6 ++ ([(IntKind.u8.wrap i5)] : List Int)), 0))))
  (chk (decide ((l6.length + ([(IntKind.u8.wrap (bits .or .i64 (Int.tmod i5 128) 128))] : List Int).length) * 1 ≤ 140737488355328) && decide (l6.length + ([(IntKind.u8.wrap (bits .or .i64 (Int.tmod i5 128) 128))] : List Int).length ≤ maxLen))
    (some (.inr (0, ((IntKind.i64.wrap (Int.tdiv i5 128)), (l6 ++ ([(IntKind.u8.wrap (bits .or .i64 (Int.tmod i5 128) 128))] : List Int)))))))
noncomputable def F_pint_Put_G1 (p : Nat × Int × List Int) : Option ((List Int × Int) ⊕ (Nat × Int × List Int)) :=
  cond (hasN [0] p.1) (F_pint_Put_G1_0 p.2) (none)
noncomputable def F_pint_Put (i1 : Int) (i2 : Int) (i3 : Int) : Option (List Int × Int) :=
  joinC (S := Nat × Int × List Int) (R := List Int × Int)
  ((F_pint_ones i2).bind fun i4 =>
    cond (((i4 == 0) || (decide (i3 < 0))) || (decide (i3 > 2147483647)))
    (some (.inl (([] : List Int), 1)))
    (cond (decide (i3 < i4))
      (some (.inl (([(bits .or .u8 (bits .andNot .u8 i1 (IntKind.u8.wrap i4)) (IntKind.u8.wrap i3))] : List Int), 0)))
      (cond (decide ((IntKind.i64.wrap (i3 - i4)) < 128))
        (chk (decide ((([(bits .or .u8 (bits .andNot .u8 i1 (IntKind.u8.wrap i4)) (IntKind.u8.wrap i4))] : List Int).length + ([(IntKind.u8.wrap (IntKind.i64.wrap (i3 - i4)))] : List Int).length) * 1 ≤ 140737488355328) && decide (([(bits .or .u8 (bits .andNot .u8 i1 (IntKind.u8.wrap i4)) (IntKind.u8.wrap i4))] : List Int).length + ([(IntKind.u8.wrap (IntKind.i64.wrap (i3 - i4)))] : List Int).length ≤ maxLen))
          (some (.inl ((([(bits .or .u8 (bits .andNot .u8 i1 (IntKind.u8.wrap i4)) (IntKind.u8.wrap i4))] : List Int) ++ ([(IntKind.u8.wrap (IntKind.i64.wrap (i3 - i4)))] : List Int)), 0))))
        (chk (decide ((([(bits .or .u8 (bits .andNot .u8 i1 (IntKind.u8.wrap i4)) (IntKind.u8.wrap i4))] : List Int).length + ([(IntKind.u8.wrap (bits .or .i64 (Int.tmod (IntKind.i64.wrap (i3 - i4)) 128) 128))] : List Int).length) * 1 ≤ 140737488355328) && decide (([(bits .or .u8 (bits .andNot .u8 i1 (IntKind.u8.wrap i4)) (IntKind.u8.wrap i4))] : List Int).length + ([(IntKind.u8.wrap (bits .or .i64 (Int.tmod (IntKind.i64.wrap (i3 - i4)) 128) 128))] : List Int).length ≤ maxLen))
          (some (.inr (0, ((IntKind.i64.wrap (Int.tdiv (IntKind.i64.wrap (i3 - i4)) 128)), (([(bits .or .u8 (bits .andNot .u8 i1 (IntKind.u8.wrap i4)) (IntKind.u8.wrap i4))] : List Int) ++ ([(IntKind.u8.wrap (bits .or .i64 (Int.tmod (IntKind.i64.wrap (i3 - i4)) 128) 128))] : List Int))))))))))
  (fun p => loopC (S := Nat × Int × List Int) (R := List Int × Int) (F_pint_Put_G1) p)
def F_pint_Put_sig : Sig := ⟨[.v false [.d (.int .u8)], .v false [.d (.int .i64)], .v false [.d (.int .i64)]], [(false, [.own 5 (.int .u8)]), (false, [.d (.int .i64)])]⟩
def F_pint_Put_ann : List (Nat × Ann) := [(1, ⟨2, [(2, false, [.d (.int .i64)]), (10, false, [.own 5 (.int .u8)])], [], [6, 7, 8, 9, 11, 12, 13, 14, 15, 16, 17, 18, 19, 20, 21, 22, 23, 24, 25, 26, 27, 28, 29, 30, 31, 32, 33, 34, 35, 36, 37, 38, 39, 40, 41, 42, 43, 44, 45, 46, 47, 48, 49, 50, 51, 52, 53, 54, 55, 56, 57, 58], []⟩)]
noncomputable def F_pint_Put_env : Env := ⟨Tryd.prog, [(77, ⟨F_pint_ones_sig, ⟨F_pint_ones⟩⟩)], []⟩
set_option maxRecDepth 100000 in
theorem F_pint_Put_text : pvFn F_pint_Put_env F_pint_Put_ann Tryd.f61 F_pint_Put_sig = F_pint_Put := by kernel_rfl
noncomputable def F_tale_text (s1 : List Int) : Option (List Int) :=
  (F_pint_Put 0 7 (s1.length : Int)).bind fun x2 =>
  chk (decide ((x2.1.length + s1.length) * 1 ≤ 140737488355328) && decide (x2.1.length + s1.length ≤ maxLen))
  (some (x2.1 ++ s1))
def F_tale_text_sig : Sig := ⟨[.v false [.d .str]], [(false, [.own 5 (.int .u8)])]⟩
def F_tale_text_ann : List (Nat × Ann) := []
noncomputable def F_tale_text_env : Env := ⟨Tryd.prog, [(61, ⟨F_pint_Put_sig, ⟨F_pint_Put⟩⟩)], []⟩
set_option maxRecDepth 100000 in
theorem F_tale_text_text : pvFn F_tale_text_env F_tale_text_ann Tryd.f37 F_tale_text_sig = F_tale_text := by kernel_rfl
noncomputable def F_tale_Block_L4 (l1 : List (List Int × List Int × Bool)) (s : List Int × Int) : Option (((List Int) ⊕ (List Int)) ⊕ (List Int × Int)) :=
  let l2 := s.1; let i3 := s.2
  cond (decide (i3 < (l1.length : Int)))
  ((getI l1 i3).bind fun x4 =>
    (F_tale_text x4.1).bind fun l5 =>
    (F_tale_text x4.2.1).bind fun l6 =>
    (F_slices_Concat_byte_byte ([l2, ([0] : List Int), l5, l6] : List (List Int))).bind fun l7 =>
    some (.inr (l7, (IntKind.i64.wrap (i3 + 1)))))
  (some (.inl (.inr l2)))
noncomputable def F_tale_Block_J2 (s : List Int) : Option (List Int) :=
  let l8 := s
  some l8
noncomputable def F_tale_Block (l1 : List (List Int × List Int × Bool)) : Option (List Int) :=
  joinC (S := List Int) (R := List Int)
  (loopC (S := List Int × Int) (R := (List Int) ⊕ (List Int)) (F_tale_Block_L4 l1) (([] : List Int), 0))
  (F_tale_Block_J2)
def F_tale_Block_sig : Sig := ⟨[.v false [.d (.sl (.pr .str (.pr .str .bool)))]], [(false, [.own 5 (.int .u8)])]⟩
def F_tale_Block_ann : List (Nat × Ann) := [(2, ⟨3, [(3, false, [.own 5 (.int .u8)])], [], [5, 6, 7, 8, 9, 10, 11, 12, 13, 14, 15, 16, 17, 18, 19, 20, 21, 22], []⟩), (4, ⟨5, [(3, false, [.own 5 (.int .u8)]), (8, false, [.d (.int .i64)])], [], [5, 9, 10, 11, 12, 13, 14, 15, 16, 17, 18, 19, 20, 21, 22], []⟩)]
noncomputable def F_tale_Block_env : Env := ⟨Tryd.prog, [(33, ⟨F_slices_Concat_byte_byte_sig, ⟨F_slices_Concat_byte_byte⟩⟩), (37, ⟨F_tale_text_sig, ⟨F_tale_text⟩⟩)], []⟩
set_option maxRecDepth 100000 in
theorem F_tale_Block_text : pvFn F_tale_Block_env F_tale_Block_ann Tryd.f17 F_tale_Block_sig = F_tale_Block := by kernel_rfl
noncomputable def F_tale_Connect (i1 : Int) (s2 : List Int) (s3 : List Int) (s4 : List Int) (b5 : Bool) : Option (List Int) :=
  cond ((!(s3 == ([] : List Int))) || (!(s4 == ([] : List Int))))
  (chk (Nat.ble (s3.length + ([58] : List Int).length) maxLen)
    (chk (Nat.ble ((s3 ++ ([58] : List Int)).length + s4.length) maxLen)
      ((F_b64_Encode ((s3 ++ ([58] : List Int)) ++ s4)).bind fun s6 =>
        chk (Nat.ble (([66, 97, 115, 105, 99, 32] : List Int).length + s6.length) maxLen)
        (chk (decide ((([(([58, 109, 101, 116, 104, 111, 100] : List Int), ([67, 79, 78, 78, 69, 67, 84] : List Int), false), (([58, 97, 117, 116, 104, 111, 114, 105, 116, 121] : List Int), s2, false)] : List (List Int × List Int × Bool)).length + ([(([112, 114, 111, 120, 121, 45, 97, 117, 116, 104, 111, 114, 105, 122, 97, 116, 105, 111, 110] : List Int), (([66, 97, 115, 105, 99, 32] : List Int) ++ s6), false)] : List (List Int × List Int × Bool)).length) * 40 ≤ 140737488355328) && decide (([(([58, 109, 101, 116, 104, 111, 100] : List Int), ([67, 79, 78, 78, 69, 67, 84] : List Int), false), (([58, 97, 117, 116, 104, 111, 114, 105, 116, 121] : List Int), s2, false)] : List (List Int × List Int × Bool)).length + ([(([112, 114, 111, 120, 121, 45, 97, 117, 116, 104, 111, 114, 105, 122, 97, 116, 105, 111, 110] : List Int), (([66, 97, 115, 105, 99, 32] : List Int) ++ s6), false)] : List (List Int × List Int × Bool)).length ≤ maxLen))
          ((F_tale_flags 4 b5).bind fun i7 =>
            (F_tale_Block (([(([58, 109, 101, 116, 104, 111, 100] : List Int), ([67, 79, 78, 78, 69, 67, 84] : List Int), false), (([58, 97, 117, 116, 104, 111, 114, 105, 116, 121] : List Int), s2, false)] : List (List Int × List Int × Bool)) ++ ([(([112, 114, 111, 120, 121, 45, 97, 117, 116, 104, 111, 114, 105, 122, 97, 116, 105, 111, 110] : List Int), (([66, 97, 115, 105, 99, 32] : List Int) ++ s6), false)] : List (List Int × List Int × Bool)))).bind fun l8 =>
            (F_tale_put 1 i7 i1 l8).bind fun l9 =>
            some l9)))))
  ((F_tale_flags 4 b5).bind fun i10 =>
    (F_tale_Block ([(([58, 109, 101, 116, 104, 111, 100] : List Int), ([67, 79, 78, 78, 69, 67, 84] : List Int), false), (([58, 97, 117, 116, 104, 111, 114, 105, 116, 121] : List Int), s2, false)] : List (List Int × List Int × Bool))).bind fun l11 =>
    (F_tale_put 1 i10 i1 l11).bind fun l12 =>
    some l12)
def F_tale_Connect_sig : Sig := ⟨[.v false [.d (.int .i64)], .v false [.d .str], .v false [.d .str], .v false [.d .str], .v false [.d .bool]], [(false, [.own 5 (.int .u8)])]⟩
def F_tale_Connect_ann : List (Nat × Ann) := []
noncomputable def F_tale_Connect_env : Env := ⟨Tryd.prog, [(17, ⟨F_tale_Block_sig, ⟨F_tale_Block⟩⟩), (34, ⟨F_tale_put_sig, ⟨F_tale_put⟩⟩), (39, ⟨F_b64_Encode_sig, ⟨F_b64_Encode⟩⟩), (40, ⟨F_tale_flags_sig, ⟨F_tale_flags⟩⟩)], []⟩
set_option maxRecDepth 100000 in
theorem F_tale_Connect_text : pvFn F_tale_Connect_env F_tale_Connect_ann Tryd.f19 F_tale_Connect_sig = F_tale_Connect := by kernel_rfl
noncomputable def F_tale_connects (i1 : Int) (i2 : Int) (i3 : Int) : Option (List Int) :=
  (F_strconv_Itoa (Int.tmod (IntKind.i64.wrap (Int.tdiv i2 8)) 3)).bind fun s4 =>
  chk (Nat.ble (([119] : List Int).length + s4.length) maxLen)
  (cond ((IntKind.i64.wrap (Int.tdiv i3 64)) == 3)
    ((getI ([([97, 46, 101, 120, 97, 109, 112, 108, 101, 58, 56, 48] : List Int), ([98, 46, 101, 120, 97, 109, 112, 108, 101, 58, 52, 52, 51] : List Int), ([49, 57, 50, 46, 48, 46, 50, 46, 55, 58, 50, 53] : List Int), ([98, 97, 100, 46, 101, 120, 97, 109, 112, 108, 101, 58, 56, 48] : List Int), ([49, 48, 46, 49, 46, 50, 46, 51, 58, 56, 48] : List Int), ([91, 50, 48, 48, 49, 58, 100, 98, 56, 58, 58, 49, 93, 58, 50, 48, 48, 48] : List Int)] : List (List Int)) (Int.tmod i3 6)).bind fun s5 =>
      chk (Nat.ble (([117] : List Int).length + s4.length) maxLen)
      ((F_tale_Connect (IntKind.i64.wrap (1 + (IntKind.i64.wrap (2 * (Int.tmod i2 8))))) s5 (([117] : List Int) ++ s4) ([110, 111] : List Int) ((Int.tmod (IntKind.i64.wrap (Int.tdiv i3 32)) 2) == 1)).bind fun l6 =>
        some l6))
    ((getI ([([97, 46, 101, 120, 97, 109, 112, 108, 101, 58, 56, 48] : List Int), ([98, 46, 101, 120, 97, 109, 112, 108, 101, 58, 52, 52, 51] : List Int), ([49, 57, 50, 46, 48, 46, 50, 46, 55, 58, 50, 53] : List Int), ([98, 97, 100, 46, 101, 120, 97, 109, 112, 108, 101, 58, 56, 48] : List Int), ([49, 48, 46, 49, 46, 50, 46, 51, 58, 56, 48] : List Int), ([91, 50, 48, 48, 49, 58, 100, 98, 56, 58, 58, 49, 93, 58, 50, 48, 48, 48] : List Int)] : List (List Int)) (Int.tmod i3 6)).bind fun s7 =>
      chk (Nat.ble (([117] : List Int).length + s4.length) maxLen)
      ((F_tale_Connect (IntKind.i64.wrap (1 + (IntKind.i64.wrap (2 * (Int.tmod i2 8))))) s7 (([117] : List Int) ++ s4) (([119] : List Int) ++ s4) ((Int.tmod (IntKind.i64.wrap (Int.tdiv i3 32)) 2) == 1)).bind fun l8 =>
        some l8)))
def F_tale_connects_sig : Sig := ⟨[.v false [.d (.int .i64)], .v false [.d (.int .i64)], .v false [.d (.int .i64)]], [(false, [.own 5 (.int .u8)])]⟩
def F_tale_connects_ann : List (Nat × Ann) := []
noncomputable def F_tale_connects_env : Env := ⟨Tryd.prog, [(19, ⟨F_tale_Connect_sig, ⟨F_tale_Connect⟩⟩), (25, ⟨F_strconv_Itoa_sig, ⟨F_strconv_Itoa⟩⟩)], []⟩
set_option maxRecDepth 100000 in
theorem F_tale_connects_text : pvFn F_tale_connects_env F_tale_connects_ann Tryd.f64 F_tale_connects_sig = F_tale_connects := by kernel_rfl
noncomputable def F_part_Rst (i1 : Int) (i2 : Int) : Option (Int × Int × Int × List Int) :=
  (F_part_bits i2 4).bind fun l3 =>
  some (3, 0, i1, l3)
def F_part_Rst_sig : Sig := ⟨[.v false [.d (.int .i64)], .v false [.d (.int .i64)]], [(true, [.d (.int .i64), .d (.int .i64), .d (.int .i64), .own 5 (.int .u8)])]⟩
def F_part_Rst_ann : List (Nat × Ann) := []
noncomputable def F_part_Rst_env : Env := ⟨Tryd.prog, [(59, ⟨F_part_bits_sig, ⟨F_part_bits⟩⟩)], []⟩
set_option maxRecDepth 100000 in
theorem F_part_Rst_text : pvFn F_part_Rst_env F_part_Rst_ann Tryd.f65 F_part_Rst_sig = F_part_Rst := by kernel_rfl
noncomputable def F_part_Update (i1 : Int) (i2 : Int) : Option (Int × Int × Int × List Int) :=
  (F_part_bits (bits .and .i64 i2 2147483647) 4).bind fun l3 =>
  some (8, 0, i1, l3)
def F_part_Update_sig : Sig := ⟨[.v false [.d (.int .i64)], .v false [.d (.int .i64)]], [(true, [.d (.int .i64), .d (.int .i64), .d (.int .i64), .own 5 (.int .u8)])]⟩
def F_part_Update_ann : List (Nat × Ann) := []
noncomputable def F_part_Update_env : Env := ⟨Tryd.prog, [(59, ⟨F_part_bits_sig, ⟨F_part_bits⟩⟩)], []⟩
set_option maxRecDepth 100000 in
theorem F_part_Update_text : pvFn F_part_Update_env F_part_Update_ann Tryd.f66 F_part_Update_sig = F_part_Update := by kernel_rfl
noncomputable def F_tale_feeds (i1 : Int) (i2 : Int) (i3 : Int) (i4 : Int) : Option (List Int) :=
  cond (i1 == 1)
  ((F_tale_Hello).bind fun l5 =>
    some l5)
  (cond (i1 == 2)
    (cond (i1 == 2)
      ((F_tale_connects i2 i3 i4).bind fun l6 =>
        some l6)
      (cond (i1 == 4)
        (cond (i1 == 4)
          ((F_tale_bytes i4 i3).bind fun l7 =>
            (F_tale_Data (IntKind.i64.wrap (1 + (IntKind.i64.wrap (2 * (Int.tmod i3 8))))) l7 ((Int.tmod i4 7) == 0)).bind fun l8 =>
            some l8)
          (cond (i1 == 6)
            ((F_part_Rst (IntKind.i64.wrap (1 + (IntKind.i64.wrap (2 * (Int.tmod i3 8))))) 8).bind fun x9 =>
              (F_tale_put x9.1 x9.2.1 x9.2.2.1 x9.2.2.2).bind fun l10 =>
              some l10)
            (cond (i1 == 7)
              (cond ((Int.tmod i4 2) == 1)
                ((F_part_Update 0 (IntKind.i64.wrap (1 + (IntKind.i64.wrap (16 * i4))))).bind fun x11 =>
                  (F_tale_put x11.1 x11.2.1 x11.2.2.1 x11.2.2.2).bind fun l12 =>
                  some l12)
                ((F_part_Update (IntKind.i64.wrap (1 + (IntKind.i64.wrap (2 * (Int.tmod i3 8))))) (IntKind.i64.wrap (1 + (IntKind.i64.wrap (16 * i4))))).bind fun x13 =>
                  (F_tale_put x13.1 x13.2.1 x13.2.2.1 x13.2.2.2).bind fun l14 =>
                  some l14))
              (some ([(IntKind.u8.wrap i2), (IntKind.u8.wrap i3), (IntKind.u8.wrap i4)] : List Int)))))
        (cond (i1 == 5)
          ((F_tale_bytes i4 i3).bind fun l15 =>
            (F_tale_Data (IntKind.i64.wrap (1 + (IntKind.i64.wrap (2 * (Int.tmod i3 8))))) l15 ((Int.tmod i4 7) == 0)).bind fun l16 =>
            some l16)
          (cond (i1 == 6)
            ((F_part_Rst (IntKind.i64.wrap (1 + (IntKind.i64.wrap (2 * (Int.tmod i3 8))))) 8).bind fun x17 =>
              (F_tale_put x17.1 x17.2.1 x17.2.2.1 x17.2.2.2).bind fun l18 =>
              some l18)
            (cond (i1 == 7)
              (cond ((Int.tmod i4 2) == 1)
                ((F_part_Update 0 (IntKind.i64.wrap (1 + (IntKind.i64.wrap (16 * i4))))).bind fun x19 =>
                  (F_tale_put x19.1 x19.2.1 x19.2.2.1 x19.2.2.2).bind fun l20 =>
                  some l20)
                ((F_part_Update (IntKind.i64.wrap (1 + (IntKind.i64.wrap (2 * (Int.tmod i3 8))))) (IntKind.i64.wrap (1 + (IntKind.i64.wrap (16 * i4))))).bind fun x21 =>
                  (F_tale_put x21.1 x21.2.1 x21.2.2.1 x21.2.2.2).bind fun l22 =>
                  some l22))
              (some ([(IntKind.u8.wrap i2), (IntKind.u8.wrap i3), (IntKind.u8.wrap i4)] : List Int)))))))
    (cond (i1 == 3)
      ((F_tale_connects i2 i3 i4).bind fun l23 =>
        some l23)
      (cond (i1 == 4)
        (cond (i1 == 4)
          ((F_tale_bytes i4 i3).bind fun l24 =>
            (F_tale_Data (IntKind.i64.wrap (1 + (IntKind.i64.wrap (2 * (Int.tmod i3 8))))) l24 ((Int.tmod i4 7) == 0)).bind fun l25 =>
            some l25)
          (cond (i1 == 6)
            ((F_part_Rst (IntKind.i64.wrap (1 + (IntKind.i64.wrap (2 * (Int.tmod i3 8))))) 8).bind fun x26 =>
              (F_tale_put x26.1 x26.2.1 x26.2.2.1 x26.2.2.2).bind fun l27 =>
              some l27)
            (cond (i1 == 7)
              (cond ((Int.tmod i4 2) == 1)
                ((F_part_Update 0 (IntKind.i64.wrap (1 + (IntKind.i64.wrap (16 * i4))))).bind fun x28 =>
                  (F_tale_put x28.1 x28.2.1 x28.2.2.1 x28.2.2.2).bind fun l29 =>
                  some l29)
                ((F_part_Update (IntKind.i64.wrap (1 + (IntKind.i64.wrap (2 * (Int.tmod i3 8))))) (IntKind.i64.wrap (1 + (IntKind.i64.wrap (16 * i4))))).bind fun x30 =>
                  (F_tale_put x30.1 x30.2.1 x30.2.2.1 x30.2.2.2).bind fun l31 =>
                  some l31))
              (some ([(IntKind.u8.wrap i2), (IntKind.u8.wrap i3), (IntKind.u8.wrap i4)] : List Int)))))
        (cond (i1 == 5)
          ((F_tale_bytes i4 i3).bind fun l32 =>
            (F_tale_Data (IntKind.i64.wrap (1 + (IntKind.i64.wrap (2 * (Int.tmod i3 8))))) l32 ((Int.tmod i4 7) == 0)).bind fun l33 =>
            some l33)
          (cond (i1 == 6)
            ((F_part_Rst (IntKind.i64.wrap (1 + (IntKind.i64.wrap (2 * (Int.tmod i3 8))))) 8).bind fun x34 =>
              (F_tale_put x34.1 x34.2.1 x34.2.2.1 x34.2.2.2).bind fun l35 =>
              some l35)
            (cond (i1 == 7)
              (cond ((Int.tmod i4 2) == 1)
                ((F_part_Update 0 (IntKind.i64.wrap (1 + (IntKind.i64.wrap (16 * i4))))).bind fun x36 =>
                  (F_tale_put x36.1 x36.2.1 x36.2.2.1 x36.2.2.2).bind fun l37 =>
                  some l37)
                ((F_part_Update (IntKind.i64.wrap (1 + (IntKind.i64.wrap (2 * (Int.tmod i3 8))))) (IntKind.i64.wrap (1 + (IntKind.i64.wrap (16 * i4))))).bind fun x38 =>
                  (F_tale_put x38.1 x38.2.1 x38.2.2.1 x38.2.2.2).bind fun l39 =>
                  some l39))
              (some ([(IntKind.u8.wrap i2), (IntKind.u8.wrap i3), (IntKind.u8.wrap i4)] : List Int))))))))
def F_tale_feeds_sig : Sig := ⟨[.v false [.d (.int .i64)], .v false [.d (.int .i64)], .v false [.d (.int .i64)], .v false [.d (.int .i64)]], [(false, [.own 5 (.int .u8)])]⟩
def F_tale_feeds_ann : List (Nat × Ann) := []
noncomputable def F_tale_feeds_env : Env := ⟨Tryd.prog, [(15, ⟨F_tale_Hello_sig, ⟨F_tale_Hello⟩⟩), (21, ⟨F_tale_Data_sig, ⟨F_tale_Data⟩⟩), (34, ⟨F_tale_put_sig, ⟨F_tale_put⟩⟩), (43, ⟨F_tale_bytes_sig, ⟨F_tale_bytes⟩⟩), (64, ⟨F_tale_connects_sig, ⟨F_tale_connects⟩⟩), (65, ⟨F_part_Rst_sig, ⟨F_part_Rst⟩⟩), (66, ⟨F_part_Update_sig, ⟨F_part_Update⟩⟩)], []⟩
set_option maxRecDepth 100000 in
theorem F_tale_feeds_text : pvFn F_tale_feeds_env F_tale_feeds_ann Tryd.f44 F_tale_feeds_sig = F_tale_feeds := by kernel_rfl
noncomputable def F_tale_event (i1 : Int) (i2 : Int) (i3 : Int) (i4 : Int) : Option (Int × Int × Int × Int × List Int × List (List Int)) :=
  cond (i1 == 0)
  (some (2, 0, 0, 0, ([] : List Int), ([] : List (List Int))))
  (cond (i1 == 8)
    (some (5, (IntKind.i64.wrap (1 + (Int.tmod i2 3))), 0, (IntKind.i64.wrap (1 + (IntKind.i64.wrap (64 * i4)))), ([] : List Int), ([] : List (List Int))))
    (cond (i1 == 9)
      ((F_tale_answers i3 i4).bind fun l5 =>
        some (6, 0, (IntKind.i64.wrap (1 + (Int.tmod i2 8))), 0, ([] : List Int), l5))
      (cond (i1 == 10)
        (some (7, 0, (IntKind.i64.wrap (1 + (Int.tmod i2 8))), (minI (Int.tmod i3 4) 1), ([] : List Int), ([] : List (List Int))))
        (cond (i1 == 11)
          (some (8, 0, (IntKind.i64.wrap (1 + (Int.tmod i2 8))), (IntKind.i64.wrap (1 + (IntKind.i64.wrap (4 * i4)))), ([] : List Int), ([] : List (List Int))))
          (cond (i1 == 12)
            ((F_tale_bytes i4 i3).bind fun l6 =>
              some (9, 0, (IntKind.i64.wrap (1 + (Int.tmod i2 8))), 0, l6, ([] : List (List Int))))
            (cond ((i1 == 13) && ((Int.tmod i4 8) == 0))
              (some (11, 0, (IntKind.i64.wrap (1 + (Int.tmod i2 8))), 0, ([] : List Int), ([] : List (List Int))))
              (cond (i1 == 13)
                (some (10, 0, (IntKind.i64.wrap (1 + (Int.tmod i2 8))), 0, ([] : List Int), ([] : List (List Int))))
                (cond (i1 == 14)
                  (some (1, 0, 0, (IntKind.i64.wrap (1 + i4)), ([] : List Int), ([] : List (List Int))))
                  (cond ((i1 == 15) && ((Int.tmod i4 8) == 0))
                    (some (4, (IntKind.i64.wrap (1 + (Int.tmod i2 3))), 0, 0, ([] : List Int), ([] : List (List Int))))
                    (cond ((i1 == 15) && ((Int.tmod i4 8) == 1))
                      (some (12, 0, 0, 0, ([] : List Int), ([] : List (List Int))))
                      ((F_tale_feeds i1 i2 i3 i4).bind fun l7 =>
                        some (3, (IntKind.i64.wrap (1 + (Int.tmod i2 3))), 0, 0, l7, ([] : List (List Int))))))))))))))
def F_tale_event_sig : Sig := ⟨[.v false [.d (.int .i64)], .v false [.d (.int .i64)], .v false [.d (.int .i64)], .v false [.d (.int .i64)]], [(true, [.d (.int .i64), .d (.int .i64), .d (.int .i64), .d (.int .i64), .own 5 (.int .u8), .own 9 .str])]⟩
def F_tale_event_ann : List (Nat × Ann) := []
noncomputable def F_tale_event_env : Env := ⟨Tryd.prog, [(42, ⟨F_tale_answers_sig, ⟨F_tale_answers⟩⟩), (43, ⟨F_tale_bytes_sig, ⟨F_tale_bytes⟩⟩), (44, ⟨F_tale_feeds_sig, ⟨F_tale_feeds⟩⟩)], []⟩
set_option maxRecDepth 100000 in
theorem F_tale_event_text : pvFn F_tale_event_env F_tale_event_ann Tryd.f23 F_tale_event_sig = F_tale_event := by kernel_rfl
noncomputable def F_tale_Events_L3 (s : List Int × List (Int × Int × Int × Int × List Int × List (List Int))) : Option (((List (Int × Int × Int × Int × List Int × List (List Int))) ⊕ (List (Int × Int × Int × Int × List Int × List (List Int)))) ⊕ (List Int × List (Int × Int × Int × Int × List Int × List (List Int)))) :=
  let l2 := s.1; let l3 := s.2
  cond ((decide ((l2.length : Int) ≥ 4)) && (decide ((l3.length : Int) < 300)))
  ((getI l2 0).bind fun i4 =>
    (getI l2 1).bind fun i5 =>
    (getI l2 2).bind fun i6 =>
    (getI l2 3).bind fun i7 =>
    (F_tale_event (Int.tmod (IntKind.i64.wrap i4) 16) (IntKind.i64.wrap i5) (IntKind.i64.wrap i6) (IntKind.i64.wrap i7)).bind fun x8 =>
    chk (decide ((l3.length + ([(x8.1, x8.2.1, x8.2.2.1, x8.2.2.2.1, x8.2.2.2.2.1, x8.2.2.2.2.2)] : List (Int × Int × Int × Int × List Int × List (List Int))).length) * 80 ≤ 140737488355328) && decide (l3.length + ([(x8.1, x8.2.1, x8.2.2.1, x8.2.2.2.1, x8.2.2.2.2.1, x8.2.2.2.2.2)] : List (Int × Int × Int × Int × List Int × List (List Int))).length ≤ maxLen))
    ((cutI l2 4 (l2.length : Int)).bind fun l9 =>
      some (.inr (l9, (l3 ++ ([(x8.1, x8.2.1, x8.2.2.1, x8.2.2.2.1, x8.2.2.2.2.1, x8.2.2.2.2.2)] : List (Int × Int × Int × Int × List Int × List (List Int))))))))
  (some (.inl (.inr l3)))
noncomputable def F_tale_Events_J2 (s : List (Int × Int × Int × Int × List Int × List (List Int))) : Option (List (Int × Int × Int × Int × List Int × List (List Int))) :=
  let l10 := s
  some l10
noncomputable def F_tale_Events (l1 : List Int) : Option (List (Int × Int × Int × Int × List Int × List (List Int))) :=
  joinC (S := List (Int × Int × Int × Int × List Int × List (List Int))) (R := List (Int × Int × Int × Int × List Int × List (List Int)))
  (loopC (S := List Int × List (Int × Int × Int × Int × List Int × List (List Int))) (R := (List (Int × Int × Int × Int × List Int × List (List Int))) ⊕ (List (Int × Int × Int × Int × List Int × List (List Int)))) (F_tale_Events_L3) (l1, ([] : List (Int × Int × Int × Int × List Int × List (List Int)))))
  (F_tale_Events_J2)
def F_tale_Events_sig : Sig := ⟨[.v false [.d (.sl (.int .u8))]], [(false, [.own 29 (.pr (.int .i64) (.pr (.int .i64) (.pr (.int .i64) (.pr (.int .i64) (.pr (.sl (.int .u8)) (.sl .str))))))])]⟩
def F_tale_Events_ann : List (Nat × Ann) := [(2, ⟨3, [(3, false, [.own 29 (.pr (.int .i64) (.pr (.int .i64) (.pr (.int .i64) (.pr (.int .i64) (.pr (.sl (.int .u8)) (.sl .str))))))])], [], [0, 4, 5, 6, 7, 8, 9, 10, 11, 12, 13, 14, 15, 16, 17, 18, 19, 20, 21, 22, 23, 24, 25, 26, 27, 28, 29, 30, 31, 32, 33, 34], []⟩), (3, ⟨4, [(0, false, [.d (.sl (.int .u8))]), (3, false, [.own 29 (.pr (.int .i64) (.pr (.int .i64) (.pr (.int .i64) (.pr (.int .i64) (.pr (.sl (.int .u8)) (.sl .str))))))])], [], [4, 5, 6, 7, 8, 9, 10, 11, 12, 13, 14, 15, 16, 17, 18, 19, 20, 21, 22, 23, 24, 25, 26, 27, 28, 29, 30, 31, 32, 33, 34], []⟩)]
noncomputable def F_tale_Events_env : Env := ⟨Tryd.prog, [(23, ⟨F_tale_event_sig, ⟨F_tale_event⟩⟩)], []⟩
set_option maxRecDepth 100000 in
theorem F_tale_Events_text : pvFn F_tale_Events_env F_tale_Events_ann Tryd.f7 F_tale_Events_sig = F_tale_Events := by kernel_rfl
noncomputable def F_wlvlaw28_first : Option (Bool) :=
  (F_tale_Hello).bind fun l1 =>
  cond ((l1.length : Int) == 33)
  ((F_tale_Events ([0, 0, 0] : List Int)).bind fun l2 =>
    some ((l2.length : Int) == 0))
  (some false)
def F_wlvlaw28_first_sig : Sig := ⟨[], [(false, [.d .bool])]⟩
def F_wlvlaw28_first_ann : List (Nat × Ann) := []
noncomputable def F_wlvlaw28_first_env : Env := ⟨Tryd.prog, [(7, ⟨F_tale_Events_sig, ⟨F_tale_Events⟩⟩), (15, ⟨F_tale_Hello_sig, ⟨F_tale_Hello⟩⟩)], []⟩
set_option maxRecDepth 100000 in
theorem F_wlvlaw28_first_text : pvFn F_wlvlaw28_first_env F_wlvlaw28_first_ann Tryd.f6 F_wlvlaw28_first_sig = F_wlvlaw28_first := by kernel_rfl
noncomputable def F_wlvref27_Data (i1 : Int) (l2 : List Int) (b3 : Bool) : Option (List Int) :=
  cond b3
  ((F_wlvref27_put 0 1 i1 l2).bind fun l4 =>
    some l4)
  ((F_wlvref27_put 0 0 i1 l2).bind fun l5 =>
    some l5)
def F_wlvref27_Data_sig : Sig := ⟨[.v false [.d (.int .i64)], .v false [.d (.sl (.int .u8))], .v false [.d .bool]], [(false, [.own 5 (.int .u8)])]⟩
def F_wlvref27_Data_ann : List (Nat × Ann) := []
noncomputable def F_wlvref27_Data_env : Env := ⟨Tryd.prog, [(36, ⟨F_wlvref27_put_sig, ⟨F_wlvref27_put⟩⟩)], []⟩
set_option maxRecDepth 100000 in
theorem F_wlvref27_Data_text : pvFn F_wlvref27_Data_env F_wlvref27_Data_ann Tryd.f22 F_wlvref27_Data_sig = F_wlvref27_Data := by kernel_rfl
noncomputable def F_wlvref4_Put_L12 (s : Int × List Int) : Option (((List Int × Int) ⊕ (Int × List Int)) ⊕ (Int × List Int)) :=
  let i4 := s.1; let l5 := s.2
  cond (decide (i4 ≥ 128))
  (chk (decide ((l5.length + ([(IntKind.u8.wrap (bits .or .i64 (bits .and .i64 i4 127) 128))] : List Int).length) * 1 ≤ 140737488355328) && decide (l5.length + ([(IntKind.u8.wrap (bits .or .i64 (bits .and .i64 i4 127) 128))] : List Int).length ≤ maxLen))
    (some (.inr ((Int.fdiv i4 (2 ^ 7)), (l5 ++ ([(IntKind.u8.wrap (bits .or .i64 (bits .and .i64 i4 127) 128))] : List Int))))))
  (some (.inl (.inr (i4, l5))))
noncomputable def F_wlvref4_Put_J11 (s : Int × List Int) : Option (List Int × Int) :=
  let i6 := s.1; let l7 := s.2
  chk (decide ((l7.length + ([(IntKind.u8.wrap i6)] : List Int).length) * 1 ≤ 140737488355328) && decide (l7.length + ([(IntKind.u8.wrap i6)] : List Int).length ≤ maxLen))
  (some ((l7 ++ ([(IntKind.u8.wrap i6)] : List Int)), 0))
noncomputable def F_wlvref4_Put (i1 : Int) (i2 : Int) (i3 : Int) : Option (List Int × Int) :=
  cond ((((decide (i2 < 1)) || (decide (i2 > 8))) || (decide (i3 < 0))) || (decide (i3 > 2147483647)))
  (some (([] : List Int), 1))
  (chk (decide (0 ≤ (IntKind.u64.wrap i2)))
    (cond (decide (i3 < (IntKind.i64.wrap ((IntKind.i64.wrap (1 * 2 ^ (min ((IntKind.u64.wrap i2)).toNat 64))) - 1))))
      (some (([(bits .or .u8 (bits .andNot .u8 i1 (IntKind.u8.wrap (IntKind.i64.wrap ((IntKind.i64.wrap (1 * 2 ^ (min ((IntKind.u64.wrap i2)).toNat 64))) - 1)))) (IntKind.u8.wrap i3))] : List Int), 0))
      (joinC (S := Int × List Int) (R := List Int × Int)
        (loopC (S := Int × List Int) (R := (List Int × Int) ⊕ (Int × List Int)) (F_wlvref4_Put_L12) ((IntKind.i64.wrap (i3 - (IntKind.i64.wrap ((IntKind.i64.wrap (1 * 2 ^ (min ((IntKind.u64.wrap i2)).toNat 64))) - 1)))), ([(bits .or .u8 (bits .andNot .u8 i1 (IntKind.u8.wrap (IntKind.i64.wrap ((IntKind.i64.wrap (1 * 2 ^ (min ((IntKind.u64.wrap i2)).toNat 64))) - 1)))) (IntKind.u8.wrap (IntKind.i64.wrap ((IntKind.i64.wrap (1 * 2 ^ (min ((IntKind.u64.wrap i2)).toNat 64))) - 1))))] : List Int)))
        (F_wlvref4_Put_J11))))
def F_wlvref4_Put_sig : Sig := ⟨[.v false [.d (.int .u8)], .v false [.d (.int .i64)], .v false [.d (.int .i64)]], [(false, [.own 5 (.int .u8)]), (false, [.d (.int .i64)])]⟩
def F_wlvref4_Put_ann : List (Nat × Ann) := [(11, ⟨12, [(2, false, [.d (.int .i64)]), (10, false, [.own 5 (.int .u8)])], [], [49, 50, 51, 52, 53, 54, 55, 56, 57, 58, 59], []⟩), (12, ⟨13, [(2, false, [.d (.int .i64)]), (10, false, [.own 5 (.int .u8)])], [], [49, 50, 51, 52, 53, 54, 55, 56, 57, 58, 59], []⟩)]
noncomputable def F_wlvref4_Put_env : Env := ⟨Tryd.prog, [], []⟩
set_option maxRecDepth 100000 in
theorem F_wlvref4_Put_text : pvFn F_wlvref4_Put_env F_wlvref4_Put_ann Tryd.f38 F_wlvref4_Put_sig = F_wlvref4_Put := by kernel_rfl
noncomputable def F_wlvref27_Block_L4 (l1 : List (List Int × List Int × Bool)) (s : List Int × Int) : Option (((List Int) ⊕ (List Int)) ⊕ (List Int × Int)) :=
  let l2 := s.1; let i3 := s.2
  cond (decide (i3 < (l1.length : Int)))
  ((getI l1 i3).bind fun x4 =>
    (F_wlvref4_Put 0 7 (x4.1.length : Int)).bind fun x5 =>
    (getI l1 i3).bind fun x6 =>
    (F_wlvref4_Put 0 7 (x6.2.1.length : Int)).bind fun x7 =>
    chk (decide ((l2.length + ([0] : List Int).length) * 1 ≤ 140737488355328) && decide (l2.length + ([0] : List Int).length ≤ maxLen))
    (chk (decide (((l2 ++ ([0] : List Int)).length + x5.1.length) * 1 ≤ 140737488355328) && decide ((l2 ++ ([0] : List Int)).length + x5.1.length ≤ maxLen))
      ((getI l1 i3).bind fun x8 =>
        chk (decide ((((l2 ++ ([0] : List Int)) ++ x5.1).length + x8.1.length) * 1 ≤ 140737488355328) && decide (((l2 ++ ([0] : List Int)) ++ x5.1).length + x8.1.length ≤ maxLen))
        (chk (decide (((((l2 ++ ([0] : List Int)) ++ x5.1) ++ x8.1).length + x7.1.length) * 1 ≤ 140737488355328) && decide ((((l2 ++ ([0] : List Int)) ++ x5.1) ++ x8.1).length + x7.1.length ≤ maxLen))
          ((getI l1 i3).bind fun x9 =>
            chk (decide ((((((l2 ++ ([0] : List Int)) ++ x5.1) ++ x8.1) ++ x7.1).length + x9.2.1.length) * 1 ≤ 140737488355328) && decide (((((l2 ++ ([0] : List Int)) ++ x5.1) ++ x8.1) ++ x7.1).length + x9.2.1.length ≤ maxLen))
            (some (.inr ((((((l2 ++ ([0] : List Int)) ++ x5.1) ++ x8.1) ++ x7.1) ++ x9.2.1), (IntKind.i64.wrap (i3 + 1))))))))))
  (some (.inl (.inr l2)))
noncomputable def F_wlvref27_Block_J2 (s : List Int) : Option (List Int) :=
  let l10 := s
  some l10
noncomputable def F_wlvref27_Block (l1 : List (List Int × List Int × Bool)) : Option (List Int) :=
  joinC (S := List Int) (R := List Int)
  (loopC (S := List Int × Int) (R := (List Int) ⊕ (List Int)) (F_wlvref27_Block_L4 l1) (([] : List Int), 0))
  (F_wlvref27_Block_J2)
def F_wlvref27_Block_sig : Sig := ⟨[.v false [.d (.sl (.pr .str (.pr .str .bool)))]], [(false, [.own 5 (.int .u8)])]⟩
def F_wlvref27_Block_ann : List (Nat × Ann) := [(2, ⟨3, [(3, false, [.own 5 (.int .u8)])], [], [4, 5, 6, 7, 8, 9, 10, 11, 12, 13, 14, 15, 16, 17, 18, 19, 20, 21, 22, 23, 24, 25, 26, 27, 28, 29, 30, 31, 32, 33, 34, 35, 36, 37, 38, 39, 40, 41, 42, 43, 44, 45, 46, 47, 48, 49, 50, 51, 52, 53, 54], []⟩), (4, ⟨5, [(3, false, [.own 5 (.int .u8)]), (4, false, [.d (.int .i64)])], [], [5, 6, 7, 8, 9, 10, 11, 12, 13, 14, 15, 16, 17, 18, 19, 20, 21, 22, 23, 24, 25, 26, 27, 28, 29, 30, 31, 32, 33, 34, 35, 36, 37, 38, 39, 40, 41, 42, 43, 44, 45, 46, 47, 48, 49, 50, 51, 52, 53, 54], []⟩)]
noncomputable def F_wlvref27_Block_env : Env := ⟨Tryd.prog, [(38, ⟨F_wlvref4_Put_sig, ⟨F_wlvref4_Put⟩⟩)], []⟩
set_option maxRecDepth 100000 in
theorem F_wlvref27_Block_text : pvFn F_wlvref27_Block_env F_wlvref27_Block_ann Tryd.f18 F_wlvref27_Block_sig = F_wlvref27_Block := by kernel_rfl
noncomputable def F_wlvref27_Connect (i1 : Int) (s2 : List Int) (s3 : List Int) (s4 : List Int) (b5 : Bool) : Option (List Int) :=
  cond ((!(s3 == ([] : List Int))) || (!(s4 == ([] : List Int))))
  (chk (Nat.ble (s3.length + ([58] : List Int).length) maxLen)
    (chk (Nat.ble ((s3 ++ ([58] : List Int)).length + s4.length) maxLen)
      ((F_wlvref1_Encode ((s3 ++ ([58] : List Int)) ++ s4)).bind fun s6 =>
        chk (Nat.ble (([66, 97, 115, 105, 99, 32] : List Int).length + s6.length) maxLen)
        (chk (decide ((([(([58, 109, 101, 116, 104, 111, 100] : List Int), ([67, 79, 78, 78, 69, 67, 84] : List Int), false), (([58, 97, 117, 116, 104, 111, 114, 105, 116, 121] : List Int), s2, false)] : List (List Int × List Int × Bool)).length + ([(([112, 114, 111, 120, 121, 45, 97, 117, 116, 104, 111, 114, 105, 122, 97, 116, 105, 111, 110] : List Int), (([66, 97, 115, 105, 99, 32] : List Int) ++ s6), false)] : List (List Int × List Int × Bool)).length) * 40 ≤ 140737488355328) && decide (([(([58, 109, 101, 116, 104, 111, 100] : List Int), ([67, 79, 78, 78, 69, 67, 84] : List Int), false), (([58, 97, 117, 116, 104, 111, 114, 105, 116, 121] : List Int), s2, false)] : List (List Int × List Int × Bool)).length + ([(([112, 114, 111, 120, 121, 45, 97, 117, 116, 104, 111, 114, 105, 122, 97, 116, 105, 111, 110] : List Int), (([66, 97, 115, 105, 99, 32] : List Int) ++ s6), false)] : List (List Int × List Int × Bool)).length ≤ maxLen))
          ((F_wlvref27_Block (([(([58, 109, 101, 116, 104, 111, 100] : List Int), ([67, 79, 78, 78, 69, 67, 84] : List Int), false), (([58, 97, 117, 116, 104, 111, 114, 105, 116, 121] : List Int), s2, false)] : List (List Int × List Int × Bool)) ++ ([(([112, 114, 111, 120, 121, 45, 97, 117, 116, 104, 111, 114, 105, 122, 97, 116, 105, 111, 110] : List Int), (([66, 97, 115, 105, 99, 32] : List Int) ++ s6), false)] : List (List Int × List Int × Bool)))).bind fun l7 =>
            cond b5
            ((F_wlvref27_put 1 5 i1 l7).bind fun l8 =>
              some l8)
            ((F_wlvref27_put 1 4 i1 l7).bind fun l9 =>
              some l9))))))
  ((F_wlvref27_Block ([(([58, 109, 101, 116, 104, 111, 100] : List Int), ([67, 79, 78, 78, 69, 67, 84] : List Int), false), (([58, 97, 117, 116, 104, 111, 114, 105, 116, 121] : List Int), s2, false)] : List (List Int × List Int × Bool))).bind fun l10 =>
    cond b5
    ((F_wlvref27_put 1 5 i1 l10).bind fun l11 =>
      some l11)
    ((F_wlvref27_put 1 4 i1 l10).bind fun l12 =>
      some l12))
def F_wlvref27_Connect_sig : Sig := ⟨[.v false [.d (.int .i64)], .v false [.d .str], .v false [.d .str], .v false [.d .str], .v false [.d .bool]], [(false, [.own 5 (.int .u8)])]⟩
def F_wlvref27_Connect_ann : List (Nat × Ann) := []
noncomputable def F_wlvref27_Connect_env : Env := ⟨Tryd.prog, [(18, ⟨F_wlvref27_Block_sig, ⟨F_wlvref27_Block⟩⟩), (36, ⟨F_wlvref27_put_sig, ⟨F_wlvref27_put⟩⟩), (41, ⟨F_wlvref1_Encode_sig, ⟨F_wlvref1_Encode⟩⟩)], []⟩
set_option maxRecDepth 100000 in
theorem F_wlvref27_Connect_text : pvFn F_wlvref27_Connect_env F_wlvref27_Connect_ann Tryd.f20 F_wlvref27_Connect_sig = F_wlvref27_Connect := by kernel_rfl
noncomputable def F_wlvref_Dec_step (r0 : Int → Option (List Int)) (i1 : Int) : Option (List Int) :=
  cond (decide (i1 < 10))
  (some ([(IntKind.u8.wrap (IntKind.i64.wrap (48 + (maxI i1 0))))] : List Int))
  ((r0 (IntKind.i64.wrap (Int.tdiv i1 10))).bind fun s2 =>
    chk (Nat.ble (s2.length + ([(IntKind.u8.wrap (IntKind.i64.wrap (48 + (Int.tmod i1 10))))] : List Int).length) maxLen)
    (some (s2 ++ ([(IntKind.u8.wrap (IntKind.i64.wrap (48 + (Int.tmod i1 10))))] : List Int))))
def F_wlvref_Dec_sig : Sig := ⟨[.v false [.d (.int .i64)]], [(false, [.d .str])]⟩
def F_wlvref_Dec_ann : List (Nat × Ann) := []
noncomputable def F_wlvref_Dec_env (r0 : Int → Option (List Int)) : Env := ⟨Tryd.prog, [(54, ⟨F_wlvref_Dec_sig, ⟨r0⟩⟩)], []⟩
set_option maxRecDepth 100000 in
theorem F_wlvref_Dec_text (r0 : Int → Option (List Int)) : pvFn (F_wlvref_Dec_env r0) F_wlvref_Dec_ann Tryd.f54 F_wlvref_Dec_sig = F_wlvref_Dec_step r0 := by kernel_rfl
noncomputable def F_wlvref_Dec_fuel : Nat → Int → Option (List Int)
  | 0 => Pv.botF (α := List Int) [(.int .i64)]
  | k + 1 => F_wlvref_Dec_step (F_wlvref_Dec_fuel k)
noncomputable def F_wlvref_Dec : Int → Option (List Int) := F_wlvref_Dec_fuel 64
noncomputable def F_wlvref27_name (s1 : List Int) (i2 : Int) : Option (List Int) :=
  (F_wlvref_Dec i2).bind fun s3 =>
  chk (Nat.ble (s1.length + s3.length) maxLen)
  (some (s1 ++ s3))
def F_wlvref27_name_sig : Sig := ⟨[.v false [.d .str], .v false [.d (.int .i64)]], [(false, [.d .str])]⟩
def F_wlvref27_name_ann : List (Nat × Ann) := []
noncomputable def F_wlvref27_name_env : Env := ⟨Tryd.prog, [(54, ⟨F_wlvref_Dec_sig, ⟨F_wlvref_Dec⟩⟩)], []⟩
set_option maxRecDepth 100000 in
theorem F_wlvref27_name_text : pvFn F_wlvref27_name_env F_wlvref27_name_ann Tryd.f29 F_wlvref27_name_sig = F_wlvref27_name := by kernel_rfl
noncomputable def F_wlvref27_connect (i1 : Int) (i2 : Int) : Option (List Int) :=
  (F_wlvref27_name ([119] : List Int) (Int.tmod (IntKind.i64.wrap (Int.tdiv (IntKind.i64.wrap i1) 8)) 3)).bind fun s3 =>
  cond ((IntKind.u8.wrap (Int.tdiv i2 64)) == 3)
  ((getI ([([97, 46, 101, 120, 97, 109, 112, 108, 101, 58, 56, 48] : List Int), ([98, 46, 101, 120, 97, 109, 112, 108, 101, 58, 52, 52, 51] : List Int), ([49, 57, 50, 46, 48, 46, 50, 46, 55, 58, 50, 53] : List Int), ([98, 97, 100, 46, 101, 120, 97, 109, 112, 108, 101, 58, 56, 48] : List Int), ([49, 48, 46, 49, 46, 50, 46, 51, 58, 56, 48] : List Int), ([91, 50, 48, 48, 49, 58, 100, 98, 56, 58, 58, 49, 93, 58, 50, 48, 48, 48] : List Int)] : List (List Int)) (Int.tmod i2 6)).bind fun s4 =>
    (F_wlvref27_name ([117] : List Int) (Int.tmod (IntKind.i64.wrap (Int.tdiv (IntKind.i64.wrap i1) 8)) 3)).bind fun s5 =>
    (F_wlvref27_Connect (IntKind.i64.wrap (1 + (IntKind.i64.wrap (2 * (IntKind.i64.wrap (Int.tmod i1 8)))))) s4 s5 ([110, 111] : List Int) ((Int.tmod (IntKind.u8.wrap (Int.tdiv i2 32)) 2) == 1)).bind fun l6 =>
    some l6)
  ((getI ([([97, 46, 101, 120, 97, 109, 112, 108, 101, 58, 56, 48] : List Int), ([98, 46, 101, 120, 97, 109, 112, 108, 101, 58, 52, 52, 51] : List Int), ([49, 57, 50, 46, 48, 46, 50, 46, 55, 58, 50, 53] : List Int), ([98, 97, 100, 46, 101, 120, 97, 109, 112, 108, 101, 58, 56, 48] : List Int), ([49, 48, 46, 49, 46, 50, 46, 51, 58, 56, 48] : List Int), ([91, 50, 48, 48, 49, 58, 100, 98, 56, 58, 58, 49, 93, 58, 50, 48, 48, 48] : List Int)] : List (List Int)) (Int.tmod i2 6)).bind fun s7 =>
    (F_wlvref27_name ([117] : List Int) (Int.tmod (IntKind.i64.wrap (Int.tdiv (IntKind.i64.wrap i1) 8)) 3)).bind fun s8 =>
    (F_wlvref27_Connect (IntKind.i64.wrap (1 + (IntKind.i64.wrap (2 * (IntKind.i64.wrap (Int.tmod i1 8)))))) s7 s8 s3 ((Int.tmod (IntKind.u8.wrap (Int.tdiv i2 32)) 2) == 1)).bind fun l9 =>
    some l9)
def F_wlvref27_connect_sig : Sig := ⟨[.v false [.d (.int .u8)], .v false [.d (.int .u8)]], [(false, [.own 5 (.int .u8)])]⟩
def F_wlvref27_connect_ann : List (Nat × Ann) := []
noncomputable def F_wlvref27_connect_env : Env := ⟨Tryd.prog, [(20, ⟨F_wlvref27_Connect_sig, ⟨F_wlvref27_Connect⟩⟩), (29, ⟨F_wlvref27_name_sig, ⟨F_wlvref27_name⟩⟩)], []⟩
set_option maxRecDepth 100000 in
theorem F_wlvref27_connect_text : pvFn F_wlvref27_connect_env F_wlvref27_connect_ann Tryd.f45 F_wlvref27_connect_sig = F_wlvref27_connect := by kernel_rfl
noncomputable def F_wlvref27_fill_L4 (i1 : Int) (i2 : Int) (s : Int × List Int) : Option (((List Int) ⊕ (List Int)) ⊕ (Int × List Int)) :=
  let i3 := s.1; let l4 := s.2
  cond (decide (i3 < ((List.length (List.replicate ((IntKind.i64.wrap i2)).toNat (0 : Int))) : Int)))
  (chk (decide (0 ≤ i3) && decide (i3 < ((List.length (List.replicate ((IntKind.i64.wrap i2)).toNat (0 : Int))) : Int)))
    (chk (decide (i3 < (l4.length : Int)))
      (some (.inr ((IntKind.i64.wrap (i3 + 1)), (l4.set (i3).toNat i1))))))
  (some (.inl (.inr l4)))
noncomputable def F_wlvref27_fill_J2 (i2 : Int) (s : List Int) : Option (List Int) :=
  let l5 := s
  chk ((Nat.ble (List.length (List.replicate ((IntKind.i64.wrap i2)).toNat (0 : Int))) (List.length l5) && true))
  (some (List.take (List.length (List.replicate ((IntKind.i64.wrap i2)).toNat (0 : Int))) l5))
noncomputable def F_wlvref27_fill (i1 : Int) (i2 : Int) : Option (List Int) :=
  chk (decide (0 ≤ (IntKind.i64.wrap i2)) && decide ((IntKind.i64.wrap i2) ≤ (IntKind.i64.wrap i2)) && decide ((IntKind.i64.wrap i2) * 1 ≤ 140737488355328) && decide ((IntKind.i64.wrap i2) ≤ maxLen))
  (joinC (S := List Int) (R := List Int)
    (loopC (S := Int × List Int) (R := (List Int) ⊕ (List Int)) (F_wlvref27_fill_L4 i1 i2) (0, (List.replicate ((IntKind.i64.wrap i2)).toNat (0 : Int))))
    (F_wlvref27_fill_J2 i2))
def F_wlvref27_fill_sig : Sig := ⟨[.v false [.d (.int .u8)], .v false [.d (.int .u8)]], [(false, [.d (.sl (.int .u8))])]⟩
def F_wlvref27_fill_ann : List (Nat × Ann) := [(2, ⟨3, [], [(9, [.row (.int .u8)])], [6, 10, 11, 12, 13, 14, 15, 16, 17, 18, 19], []⟩), (4, ⟨5, [(6, false, [.d (.int .i64)])], [(9, [.row (.int .u8)])], [10, 11, 12, 13, 14, 15, 16, 17, 18, 19], []⟩)]
noncomputable def F_wlvref27_fill_env : Env := ⟨Tryd.prog, [], [9]⟩
set_option maxRecDepth 100000 in
theorem F_wlvref27_fill_text : pvFn F_wlvref27_fill_env F_wlvref27_fill_ann Tryd.f46 F_wlvref27_fill_sig = F_wlvref27_fill := by kernel_rfl
noncomputable def F_wlvref10_Rst (i1 : Int) (i2 : Int) : Option (Int × Int × Int × List Int) :=
  (F_wlvref10_num i2 4).bind fun l3 =>
  some (3, 0, i1, l3)
def F_wlvref10_Rst_sig : Sig := ⟨[.v false [.d (.int .i64)], .v false [.d (.int .i64)]], [(true, [.d (.int .i64), .d (.int .i64), .d (.int .i64), .own 5 (.int .u8)])]⟩
def F_wlvref10_Rst_ann : List (Nat × Ann) := []
noncomputable def F_wlvref10_Rst_env : Env := ⟨Tryd.prog, [(67, ⟨F_wlvref10_num_sig, ⟨F_wlvref10_num⟩⟩)], []⟩
set_option maxRecDepth 100000 in
theorem F_wlvref10_Rst_text : pvFn F_wlvref10_Rst_env F_wlvref10_Rst_ann Tryd.f47 F_wlvref10_Rst_sig = F_wlvref10_Rst := by kernel_rfl
noncomputable def F_wlvref10_Update (i1 : Int) (i2 : Int) : Option (Int × Int × Int × List Int) :=
  (F_wlvref10_num (bits .and .i64 i2 2147483647) 4).bind fun l3 =>
  some (8, 0, i1, l3)
def F_wlvref10_Update_sig : Sig := ⟨[.v false [.d (.int .i64)], .v false [.d (.int .i64)]], [(true, [.d (.int .i64), .d (.int .i64), .d (.int .i64), .own 5 (.int .u8)])]⟩
def F_wlvref10_Update_ann : List (Nat × Ann) := []
noncomputable def F_wlvref10_Update_env : Env := ⟨Tryd.prog, [(67, ⟨F_wlvref10_num_sig, ⟨F_wlvref10_num⟩⟩)], []⟩
set_option maxRecDepth 100000 in
theorem F_wlvref10_Update_text : pvFn F_wlvref10_Update_env F_wlvref10_Update_ann Tryd.f48 F_wlvref10_Update_sig = F_wlvref10_Update := by kernel_rfl
noncomputable def F_wlvref27_ips_L4 (i1 : Int) (i2 : Int) (s : List (List Int) × Int) : Option (((List (List Int)) ⊕ (List (List Int))) ⊕ (List (List Int) × Int)) :=
  let l3 := s.1; let i4 := s.2
  cond (decide (i4 < (IntKind.i64.wrap (Int.tmod i2 4))))
  (cond ((Int.tmod i1 2) == 1)
    (chk (decide ((l3.length + ([([10, 0, 0, (IntKind.u8.wrap (IntKind.i64.wrap (1 + i4)))] : List Int)] : List (List Int)).length) * 16 ≤ 140737488355328) && decide (l3.length + ([([10, 0, 0, (IntKind.u8.wrap (IntKind.i64.wrap (1 + i4)))] : List Int)] : List (List Int)).length ≤ maxLen))
      (some (.inr ((l3 ++ ([([10, 0, 0, (IntKind.u8.wrap (IntKind.i64.wrap (1 + i4)))] : List Int)] : List (List Int))), (IntKind.i64.wrap (i4 + 1))))))
    (chk (decide ((l3.length + ([([192, 0, 2, (IntKind.u8.wrap (IntKind.i64.wrap (1 + i4)))] : List Int)] : List (List Int)).length) * 16 ≤ 140737488355328) && decide (l3.length + ([([192, 0, 2, (IntKind.u8.wrap (IntKind.i64.wrap (1 + i4)))] : List Int)] : List (List Int)).length ≤ maxLen))
      (some (.inr ((l3 ++ ([([192, 0, 2, (IntKind.u8.wrap (IntKind.i64.wrap (1 + i4)))] : List Int)] : List (List Int))), (IntKind.i64.wrap (i4 + 1)))))))
  (some (.inl (.inr l3)))
noncomputable def F_wlvref27_ips_J2 (s : List (List Int)) : Option (List (List Int)) :=
  let l5 := s
  some l5
noncomputable def F_wlvref27_ips (i1 : Int) (i2 : Int) : Option (List (List Int)) :=
  joinC (S := List (List Int)) (R := List (List Int))
  (loopC (S := List (List Int) × Int) (R := (List (List Int)) ⊕ (List (List Int))) (F_wlvref27_ips_L4 i1 i2) (([] : List (List Int)), 0))
  (F_wlvref27_ips_J2)
def F_wlvref27_ips_sig : Sig := ⟨[.v false [.d (.int .u8)], .v false [.d (.int .u8)]], [(false, [.own 9 .str])]⟩
def F_wlvref27_ips_ann : List (Nat × Ann) := [(2, ⟨3, [(5, false, [.own 9 .str])], [], [6, 7, 8, 9, 10, 11, 12, 13, 14, 15, 16, 17, 18, 19, 20, 21, 22, 23, 24, 25, 26, 27, 28, 29, 30], []⟩), (4, ⟨5, [(5, false, [.own 9 .str]), (6, false, [.d (.int .i64)])], [], [7, 8, 9, 10, 11, 12, 13, 14, 15, 16, 17, 18, 19, 20, 21, 22, 23, 24, 25, 26, 27, 28, 29, 30], []⟩)]
noncomputable def F_wlvref27_ips_env : Env := ⟨Tryd.prog, [], []⟩
set_option maxRecDepth 100000 in
theorem F_wlvref27_ips_text : pvFn F_wlvref27_ips_env F_wlvref27_ips_ann Tryd.f49 F_wlvref27_ips_sig = F_wlvref27_ips := by kernel_rfl
noncomputable def F_wlvref27_one (i1 : Int) (i2 : Int) (i3 : Int) (i4 : Int) : Option (Int × Int × Int × Int × List Int × List (List Int)) :=
  cond ((Int.tmod i1 16) == 0)
  (some (2, 0, 0, 0, ([] : List Int), ([] : List (List Int))))
  (cond ((Int.tmod i1 16) == 1)
    ((F_wlvref27_Hello).bind fun l5 =>
      some (3, (IntKind.i64.wrap (1 + (IntKind.i64.wrap (Int.tmod i2 3)))), 0, 0, l5, ([] : List (List Int))))
    (cond ((Int.tmod i1 16) == 2)
      (cond ((Int.tmod i1 16) == 2)
        ((F_wlvref27_connect i3 i4).bind fun l6 =>
          some (3, (IntKind.i64.wrap (1 + (IntKind.i64.wrap (Int.tmod i2 3)))), 0, 0, l6, ([] : List (List Int))))
        (cond ((Int.tmod i1 16) == 4)
          (cond ((Int.tmod i1 16) == 4)
            ((F_wlvref27_fill i3 i4).bind fun l7 =>
              (F_wlvref27_Data (IntKind.i64.wrap (1 + (IntKind.i64.wrap (2 * (IntKind.i64.wrap (Int.tmod i3 8)))))) l7 ((Int.tmod i4 7) == 0)).bind fun l8 =>
              some (3, (IntKind.i64.wrap (1 + (IntKind.i64.wrap (Int.tmod i2 3)))), 0, 0, l8, ([] : List (List Int))))
            (cond ((Int.tmod i1 16) == 6)
              ((F_wlvref10_Rst (IntKind.i64.wrap (1 + (IntKind.i64.wrap (2 * (IntKind.i64.wrap (Int.tmod i3 8)))))) 8).bind fun x9 =>
                (F_wlvref27_put x9.1 x9.2.1 x9.2.2.1 x9.2.2.2).bind fun l10 =>
                some (3, (IntKind.i64.wrap (1 + (IntKind.i64.wrap (Int.tmod i2 3)))), 0, 0, l10, ([] : List (List Int))))
              (cond ((Int.tmod i1 16) == 7)
                (cond ((Int.tmod i4 2) == 1)
                  ((F_wlvref10_Update 0 (IntKind.i64.wrap (1 + (IntKind.i64.wrap (16 * (IntKind.i64.wrap i4)))))).bind fun x11 =>
                    (F_wlvref27_put x11.1 x11.2.1 x11.2.2.1 x11.2.2.2).bind fun l12 =>
                    some (3, (IntKind.i64.wrap (1 + (IntKind.i64.wrap (Int.tmod i2 3)))), 0, 0, l12, ([] : List (List Int))))
                  ((F_wlvref10_Update (IntKind.i64.wrap (1 + (IntKind.i64.wrap (2 * (IntKind.i64.wrap (Int.tmod i3 8)))))) (IntKind.i64.wrap (1 + (IntKind.i64.wrap (16 * (IntKind.i64.wrap i4)))))).bind fun x13 =>
                    (F_wlvref27_put x13.1 x13.2.1 x13.2.2.1 x13.2.2.2).bind fun l14 =>
                    some (3, (IntKind.i64.wrap (1 + (IntKind.i64.wrap (Int.tmod i2 3)))), 0, 0, l14, ([] : List (List Int)))))
                (cond ((Int.tmod i1 16) == 8)
                  (some (5, (IntKind.i64.wrap (1 + (IntKind.i64.wrap (Int.tmod i2 3)))), 0, (IntKind.i64.wrap (1 + (IntKind.i64.wrap (64 * (IntKind.i64.wrap i4))))), ([] : List Int), ([] : List (List Int))))
                  (cond ((Int.tmod i1 16) == 9)
                    ((F_wlvref27_ips i3 i4).bind fun l15 =>
                      some (6, 0, (IntKind.i64.wrap (1 + (IntKind.i64.wrap (Int.tmod i2 8)))), 0, ([] : List Int), l15))
                    (cond ((Int.tmod i1 16) == 10)
                      (cond ((Int.tmod i3 4) != 0)
                        (some (7, 0, (IntKind.i64.wrap (1 + (IntKind.i64.wrap (Int.tmod i2 8)))), 1, ([] : List Int), ([] : List (List Int))))
                        (some (7, 0, (IntKind.i64.wrap (1 + (IntKind.i64.wrap (Int.tmod i2 8)))), 0, ([] : List Int), ([] : List (List Int)))))
                      (cond ((Int.tmod i1 16) == 11)
                        (some (8, 0, (IntKind.i64.wrap (1 + (IntKind.i64.wrap (Int.tmod i2 8)))), (IntKind.i64.wrap (1 + (IntKind.i64.wrap (4 * (IntKind.i64.wrap i4))))), ([] : List Int), ([] : List (List Int))))
                        (cond ((Int.tmod i1 16) == 12)
                          ((F_wlvref27_fill i3 i4).bind fun l16 =>
                            some (9, 0, (IntKind.i64.wrap (1 + (IntKind.i64.wrap (Int.tmod i2 8)))), 0, l16, ([] : List (List Int))))
                          (cond ((Int.tmod i1 16) == 13)
                            (cond ((Int.tmod i4 8) == 0)
                              (some (11, 0, (IntKind.i64.wrap (1 + (IntKind.i64.wrap (Int.tmod i2 8)))), 0, ([] : List Int), ([] : List (List Int))))
                              (some (10, 0, (IntKind.i64.wrap (1 + (IntKind.i64.wrap (Int.tmod i2 8)))), 0, ([] : List Int), ([] : List (List Int)))))
                            (cond ((Int.tmod i1 16) == 14)
                              (some (1, 0, 0, (IntKind.i64.wrap (1 + (IntKind.i64.wrap i4))), ([] : List Int), ([] : List (List Int))))
                              (cond ((Int.tmod i1 16) == 15)
                                (cond ((Int.tmod i4 8) == 0)
                                  (some (4, (IntKind.i64.wrap (1 + (IntKind.i64.wrap (Int.tmod i2 3)))), 0, 0, ([] : List Int), ([] : List (List Int))))
                                  (cond ((Int.tmod i4 8) == 1)
                                    (some (12, 0, 0, 0, ([] : List Int), ([] : List (List Int))))
                                    (some (3, (IntKind.i64.wrap (1 + (IntKind.i64.wrap (Int.tmod i2 3)))), 0, 0, ([i2, i3, i4] : List Int), ([] : List (List Int))))))
                                (some (3, (IntKind.i64.wrap (1 + (IntKind.i64.wrap (Int.tmod i2 3)))), 0, 0, ([] : List Int), ([] : List (List Int)))))))))))))))
          (cond ((Int.tmod i1 16) == 5)
            ((F_wlvref27_fill i3 i4).bind fun l17 =>
              (F_wlvref27_Data (IntKind.i64.wrap (1 + (IntKind.i64.wrap (2 * (IntKind.i64.wrap (Int.tmod i3 8)))))) l17 ((Int.tmod i4 7) == 0)).bind fun l18 =>
              some (3, (IntKind.i64.wrap (1 + (IntKind.i64.wrap (Int.tmod i2 3)))), 0, 0, l18, ([] : List (List Int))))
            (cond ((Int.tmod i1 16) == 6)
              ((F_wlvref10_Rst (IntKind.i64.wrap (1 + (IntKind.i64.wrap (2 * (IntKind.i64.wrap (Int.tmod i3 8)))))) 8).bind fun x19 =>
                (F_wlvref27_put x19.1 x19.2.1 x19.2.2.1 x19.2.2.2).bind fun l20 =>
                some (3, (IntKind.i64.wrap (1 + (IntKind.i64.wrap (Int.tmod i2 3)))), 0, 0, l20, ([] : List (List Int))))
              (cond ((Int.tmod i1 16) == 7)
                (cond ((Int.tmod i4 2) == 1)
                  ((F_wlvref10_Update 0 (IntKind.i64.wrap (1 + (IntKind.i64.wrap (16 * (IntKind.i64.wrap i4)))))).bind fun x21 =>
                    (F_wlvref27_put x21.1 x21.2.1 x21.2.2.1 x21.2.2.2).bind fun l22 =>
                    some (3, (IntKind.i64.wrap (1 + (IntKind.i64.wrap (Int.tmod i2 3)))), 0, 0, l22, ([] : List (List Int))))
                  ((F_wlvref10_Update (IntKind.i64.wrap (1 + (IntKind.i64.wrap (2 * (IntKind.i64.wrap (Int.tmod i3 8)))))) (IntKind.i64.wrap (1 + (IntKind.i64.wrap (16 * (IntKind.i64.wrap i4)))))).bind fun x23 =>
                    (F_wlvref27_put x23.1 x23.2.1 x23.2.2.1 x23.2.2.2).bind fun l24 =>
                    some (3, (IntKind.i64.wrap (1 + (IntKind.i64.wrap (Int.tmod i2 3)))), 0, 0, l24, ([] : List (List Int)))))
                (cond ((Int.tmod i1 16) == 8)
                  (some (5, (IntKind.i64.wrap (1 + (IntKind.i64.wrap (Int.tmod i2 3)))), 0, (IntKind.i64.wrap (1 + (IntKind.i64.wrap (64 * (IntKind.i64.wrap i4))))), ([] : List Int), ([] : List (List Int))))
                  (cond ((Int.tmod i1 16) == 9)
                    ((F_wlvref27_ips i3 i4).bind fun l25 =>
                      some (6, 0, (IntKind.i64.wrap (1 + (IntKind.i64.wrap (Int.tmod i2 8)))), 0, ([] : List Int), l25))
                    (cond ((Int.tmod i1 16) == 10)
                      (cond ((Int.tmod i3 4) != 0)
                        (some (7, 0, (IntKind.i64.wrap (1 + (IntKind.i64.wrap (Int.tmod i2 8)))), 1, ([] : List Int), ([] : List (List Int))))
                        (some (7, 0, (IntKind.i64.wrap (1 + (IntKind.i64.wrap (Int.tmod i2 8)))), 0, ([] : List Int), ([] : List (List Int)))))
                      (cond ((Int.tmod i1 16) == 11)
                        (some (8, 0, (IntKind.i64.wrap (1 + (IntKind.i64.wrap (Int.tmod i2 8)))), (IntKind.i64.wrap (1 + (IntKind.i64.wrap (4 * (IntKind.i64.wrap i4))))), ([] : List Int), ([] : List (List Int))))
                        (cond ((Int.tmod i1 16) == 12)
                          ((F_wlvref27_fill i3 i4).bind fun l26 =>
                            some (9, 0, (IntKind.i64.wrap (1 + (IntKind.i64.wrap (Int.tmod i2 8)))), 0, l26, ([] : List (List Int))))
                          (cond ((Int.tmod i1 16) == 13)
                            (cond ((Int.tmod i4 8) == 0)
                              (some (11, 0, (IntKind.i64.wrap (1 + (IntKind.i64.wrap (Int.tmod i2 8)))), 0, ([] : List Int), ([] : List (List Int))))
                              (some (10, 0, (IntKind.i64.wrap (1 + (IntKind.i64.wrap (Int.tmod i2 8)))), 0, ([] : List Int), ([] : List (List Int)))))
                            (cond ((Int.tmod i1 16) == 14)
                              (some (1, 0, 0, (IntKind.i64.wrap (1 + (IntKind.i64.wrap i4))), ([] : List Int), ([] : List (List Int))))
                              (cond ((Int.tmod i1 16) == 15)
                                (cond ((Int.tmod i4 8) == 0)
                                  (some (4, (IntKind.i64.wrap (1 + (IntKind.i64.wrap (Int.tmod i2 3)))), 0, 0, ([] : List Int), ([] : List (List Int))))
                                  (cond ((Int.tmod i4 8) == 1)
                                    (some (12, 0, 0, 0, ([] : List Int), ([] : List (List Int))))
                                    (some (3, (IntKind.i64.wrap (1 + (IntKind.i64.wrap (Int.tmod i2 3)))), 0, 0, ([i2, i3, i4] : List Int), ([] : List (List Int))))))
                                (some (3, (IntKind.i64.wrap (1 + (IntKind.i64.wrap (Int.tmod i2 3)))), 0, 0, ([] : List Int), ([] : List (List Int)))))))))))))))))
      (cond ((Int.tmod i1 16) == 3)
        ((F_wlvref27_connect i3 i4).bind fun l27 =>
          some (3, (IntKind.i64.wrap (1 + (IntKind.i64.wrap (Int.tmod i2 3)))), 0, 0, l27, ([] : List (List Int))))
        (cond ((Int.tmod i1 16) == 4)
          (cond ((Int.tmod i1 16) == 4)
            ((F_wlvref27_fill i3 i4).bind fun l28 =>
              (F_wlvref27_Data (IntKind.i64.wrap (1 + (IntKind.i64.wrap (2 * (IntKind.i64.wrap (Int.tmod i3 8)))))) l28 ((Int.tmod i4 7) == 0)).bind fun l29 =>
              some (3, (IntKind.i64.wrap (1 + (IntKind.i64.wrap (Int.tmod i2 3)))), 0, 0, l29, ([] : List (List Int))))
            (cond ((Int.tmod i1 16) == 6)
              ((F_wlvref10_Rst (IntKind.i64.wrap (1 + (IntKind.i64.wrap (2 * (IntKind.i64.wrap (Int.tmod i3 8)))))) 8).bind fun x30 =>
                (F_wlvref27_put x30.1 x30.2.1 x30.2.2.1 x30.2.2.2).bind fun l31 =>
                some (3, (IntKind.i64.wrap (1 + (IntKind.i64.wrap (Int.tmod i2 3)))), 0, 0, l31, ([] : List (List Int))))
              (cond ((Int.tmod i1 16) == 7)
                (cond ((Int.tmod i4 2) == 1)
                  ((F_wlvref10_Update 0 (IntKind.i64.wrap (1 + (IntKind.i64.wrap (16 * (IntKind.i64.wrap i4)))))).bind fun x32 =>
                    (F_wlvref27_put x32.1 x32.2.1 x32.2.2.1 x32.2.2.2).bind fun l33 =>
                    some (3, (IntKind.i64.wrap (1 + (IntKind.i64.wrap (Int.tmod i2 3)))), 0, 0, l33, ([] : List (List Int))))
                  ((F_wlvref10_Update (IntKind.i64.wrap (1 + (IntKind.i64.wrap (2 * (IntKind.i64.wrap (Int.tmod i3 8)))))) (IntKind.i64.wrap (1 + (IntKind.i64.wrap (16 * (IntKind.i64.wrap i4)))))).bind fun x34 =>
                    (F_wlvref27_put x34.1 x34.2.1 x34.2.2.1 x34.2.2.2).bind fun l35 =>
                    some (3, (IntKind.i64.wrap (1 + (IntKind.i64.wrap (Int.tmod i2 3)))), 0, 0, l35, ([] : List (List Int)))))
                (cond ((Int.tmod i1 16) == 8)
                  (some (5, (IntKind.i64.wrap (1 + (IntKind.i64.wrap (Int.tmod i2 3)))), 0, (IntKind.i64.wrap (1 + (IntKind.i64.wrap (64 * (IntKind.i64.wrap i4))))), ([] : List Int), ([] : List (List Int))))
                  (cond ((Int.tmod i1 16) == 9)
                    ((F_wlvref27_ips i3 i4).bind fun l36 =>
                      some (6, 0, (IntKind.i64.wrap (1 + (IntKind.i64.wrap (Int.tmod i2 8)))), 0, ([] : List Int), l36))
                    (cond ((Int.tmod i1 16) == 10)
                      (cond ((Int.tmod i3 4) != 0)
                        (some (7, 0, (IntKind.i64.wrap (1 + (IntKind.i64.wrap (Int.tmod i2 8)))), 1, ([] : List Int), ([] : List (List Int))))
                        (some (7, 0, (IntKind.i64.wrap (1 + (IntKind.i64.wrap (Int.tmod i2 8)))), 0, ([] : List Int), ([] : List (List Int)))))
                      (cond ((Int.tmod i1 16) == 11)
                        (some (8, 0, (IntKind.i64.wrap (1 + (IntKind.i64.wrap (Int.tmod i2 8)))), (IntKind.i64.wrap (1 + (IntKind.i64.wrap (4 * (IntKind.i64.wrap i4))))), ([] : List Int), ([] : List (List Int))))
                        (cond ((Int.tmod i1 16) == 12)
                          ((F_wlvref27_fill i3 i4).bind fun l37 =>
                            some (9, 0, (IntKind.i64.wrap (1 + (IntKind.i64.wrap (Int.tmod i2 8)))), 0, l37, ([] : List (List Int))))
                          (cond ((Int.tmod i1 16) == 13)
                            (cond ((Int.tmod i4 8) == 0)
                              (some (11, 0, (IntKind.i64.wrap (1 + (IntKind.i64.wrap (Int.tmod i2 8)))), 0, ([] : List Int), ([] : List (List Int))))
                              (some (10, 0, (IntKind.i64.wrap (1 + (IntKind.i64.wrap (Int.tmod i2 8)))), 0, ([] : List Int), ([] : List (List Int)))))
                            (cond ((Int.tmod i1 16) == 14)
                              (some (1, 0, 0, (IntKind.i64.wrap (1 + (IntKind.i64.wrap i4))), ([] : List Int), ([] : List (List Int))))
                              (cond ((Int.tmod i1 16) == 15)
                                (cond ((Int.tmod i4 8) == 0)
                                  (some (4, (IntKind.i64.wrap (1 + (IntKind.i64.wrap (Int.tmod i2 3)))), 0, 0, ([] : List Int), ([] : List (List Int))))
                                  (cond ((Int.tmod i4 8) == 1)
                                    (some (12, 0, 0, 0, ([] : List Int), ([] : List (List Int))))
                                    (some (3, (IntKind.i64.wrap (1 + (IntKind.i64.wrap (Int.tmod i2 3)))), 0, 0, ([i2, i3, i4] : List Int), ([] : List (List Int))))))
                                (some (3, (IntKind.i64.wrap (1 + (IntKind.i64.wrap (Int.tmod i2 3)))), 0, 0, ([] : List Int), ([] : List (List Int)))))))))))))))
          (cond ((Int.tmod i1 16) == 5)
            ((F_wlvref27_fill i3 i4).bind fun l38 =>
              (F_wlvref27_Data (IntKind.i64.wrap (1 + (IntKind.i64.wrap (2 * (IntKind.i64.wrap (Int.tmod i3 8)))))) l38 ((Int.tmod i4 7) == 0)).bind fun l39 =>
              some (3, (IntKind.i64.wrap (1 + (IntKind.i64.wrap (Int.tmod i2 3)))), 0, 0, l39, ([] : List (List Int))))
            (cond ((Int.tmod i1 16) == 6)
              ((F_wlvref10_Rst (IntKind.i64.wrap (1 + (IntKind.i64.wrap (2 * (IntKind.i64.wrap (Int.tmod i3 8)))))) 8).bind fun x40 =>
                (F_wlvref27_put x40.1 x40.2.1 x40.2.2.1 x40.2.2.2).bind fun l41 =>
                some (3, (IntKind.i64.wrap (1 + (IntKind.i64.wrap (Int.tmod i2 3)))), 0, 0, l41, ([] : List (List Int))))
              (cond ((Int.tmod i1 16) == 7)
                (cond ((Int.tmod i4 2) == 1)
                  ((F_wlvref10_Update 0 (IntKind.i64.wrap (1 + (IntKind.i64.wrap (16 * (IntKind.i64.wrap i4)))))).bind fun x42 =>
                    (F_wlvref27_put x42.1 x42.2.1 x42.2.2.1 x42.2.2.2).bind fun l43 =>
                    some (3, (IntKind.i64.wrap (1 + (IntKind.i64.wrap (Int.tmod i2 3)))), 0, 0, l43, ([] : List (List Int))))
                  ((F_wlvref10_Update (IntKind.i64.wrap (1 + (IntKind.i64.wrap (2 * (IntKind.i64.wrap (Int.tmod i3 8)))))) (IntKind.i64.wrap (1 + (IntKind.i64.wrap (16 * (IntKind.i64.wrap i4)))))).bind fun x44 =>
                    (F_wlvref27_put x44.1 x44.2.1 x44.2.2.1 x44.2.2.2).bind fun l45 =>
                    some (3, (IntKind.i64.wrap (1 + (IntKind.i64.wrap (Int.tmod i2 3)))), 0, 0, l45, ([] : List (List Int)))))
                (cond ((Int.tmod i1 16) == 8)
                  (some (5, (IntKind.i64.wrap (1 + (IntKind.i64.wrap (Int.tmod i2 3)))), 0, (IntKind.i64.wrap (1 + (IntKind.i64.wrap (64 * (IntKind.i64.wrap i4))))), ([] : List Int), ([] : List (List Int))))
                  (cond ((Int.tmod i1 16) == 9)
                    ((F_wlvref27_ips i3 i4).bind fun l46 =>
                      some (6, 0, (IntKind.i64.wrap (1 + (IntKind.i64.wrap (Int.tmod i2 8)))), 0, ([] : List Int), l46))
                    (cond ((Int.tmod i1 16) == 10)
                      (cond ((Int.tmod i3 4) != 0)
                        (some (7, 0, (IntKind.i64.wrap (1 + (IntKind.i64.wrap (Int.tmod i2 8)))), 1, ([] : List Int), ([] : List (List Int))))
                        (some (7, 0, (IntKind.i64.wrap (1 + (IntKind.i64.wrap (Int.tmod i2 8)))), 0, ([] : List Int), ([] : List (List Int)))))
                      (cond ((Int.tmod i1 16) == 11)
                        (some (8, 0, (IntKind.i64.wrap (1 + (IntKind.i64.wrap (Int.tmod i2 8)))), (IntKind.i64.wrap (1 + (IntKind.i64.wrap (4 * (IntKind.i64.wrap i4))))), ([] : List Int), ([] : List (List Int))))
                        (cond ((Int.tmod i1 16) == 12)
                          ((F_wlvref27_fill i3 i4).bind fun l47 =>
                            some (9, 0, (IntKind.i64.wrap (1 + (IntKind.i64.wrap (Int.tmod i2 8)))), 0, l47, ([] : List (List Int))))
                          (cond ((Int.tmod i1 16) == 13)
                            (cond ((Int.tmod i4 8) == 0)
                              (some (11, 0, (IntKind.i64.wrap (1 + (IntKind.i64.wrap (Int.tmod i2 8)))), 0, ([] : List Int), ([] : List (List Int))))
                              (some (10, 0, (IntKind.i64.wrap (1 + (IntKind.i64.wrap (Int.tmod i2 8)))), 0, ([] : List Int), ([] : List (List Int)))))
                            (cond ((Int.tmod i1 16) == 14)
                              (some (1, 0, 0, (IntKind.i64.wrap (1 + (IntKind.i64.wrap i4))), ([] : List Int), ([] : List (List Int))))
                              (cond ((Int.tmod i1 16) == 15)
                                (cond ((Int.tmod i4 8) == 0)
                                  (some (4, (IntKind.i64.wrap (1 + (IntKind.i64.wrap (Int.tmod i2 3)))), 0, 0, ([] : List Int), ([] : List (List Int))))
                                  (cond ((Int.tmod i4 8) == 1)
                                    (some (12, 0, 0, 0, ([] : List Int), ([] : List (List Int))))
                                    (some (3, (IntKind.i64.wrap (1 + (IntKind.i64.wrap (Int.tmod i2 3)))), 0, 0, ([i2, i3, i4] : List Int), ([] : List (List Int))))))
                                (some (3, (IntKind.i64.wrap (1 + (IntKind.i64.wrap (Int.tmod i2 3)))), 0, 0, ([] : List Int), ([] : List (List Int)))))))))))))))))))
def F_wlvref27_one_sig : Sig := ⟨[.v false [.d (.int .u8)], .v false [.d (.int .u8)], .v false [.d (.int .u8)], .v false [.d (.int .u8)]], [(true, [.d (.int .i64), .d (.int .i64), .d (.int .i64), .d (.int .i64), .d (.sl (.int .u8)), .own 9 .str])]⟩
def F_wlvref27_one_ann : List (Nat × Ann) := []
noncomputable def F_wlvref27_one_env : Env := ⟨Tryd.prog, [(16, ⟨F_wlvref27_Hello_sig, ⟨F_wlvref27_Hello⟩⟩), (22, ⟨F_wlvref27_Data_sig, ⟨F_wlvref27_Data⟩⟩), (36, ⟨F_wlvref27_put_sig, ⟨F_wlvref27_put⟩⟩), (45, ⟨F_wlvref27_connect_sig, ⟨F_wlvref27_connect⟩⟩), (46, ⟨F_wlvref27_fill_sig, ⟨F_wlvref27_fill⟩⟩), (47, ⟨F_wlvref10_Rst_sig, ⟨F_wlvref10_Rst⟩⟩), (48, ⟨F_wlvref10_Update_sig, ⟨F_wlvref10_Update⟩⟩), (49, ⟨F_wlvref27_ips_sig, ⟨F_wlvref27_ips⟩⟩)], []⟩
set_option maxRecDepth 100000 in
theorem F_wlvref27_one_text : pvFn F_wlvref27_one_env F_wlvref27_one_ann Tryd.f24 F_wlvref27_one_sig = F_wlvref27_one := by kernel_rfl
noncomputable def F_wlvref27_Events_L4 (l1 : List Int) (s : List (Int × Int × Int × Int × List Int × List (List Int)) × Int) : Option (((List (Int × Int × Int × Int × List Int × List (List Int))) ⊕ (List (Int × Int × Int × Int × List Int × List (List Int)))) ⊕ (List (Int × Int × Int × Int × List Int × List (List Int)) × Int)) :=
  let l2 := s.1; let i3 := s.2
  cond ((decide ((IntKind.i64.wrap (i3 + 3)) < (l1.length : Int))) && (decide ((l2.length : Int) < 300)))
  ((getI l1 i3).bind fun i4 =>
    (getI l1 (IntKind.i64.wrap (i3 + 1))).bind fun i5 =>
    (getI l1 (IntKind.i64.wrap (i3 + 2))).bind fun i6 =>
    (getI l1 (IntKind.i64.wrap (i3 + 3))).bind fun i7 =>
    (F_wlvref27_one i4 i5 i6 i7).bind fun x8 =>
    chk (decide ((l2.length + ([(x8.1, x8.2.1, x8.2.2.1, x8.2.2.2.1, x8.2.2.2.2.1, x8.2.2.2.2.2)] : List (Int × Int × Int × Int × List Int × List (List Int))).length) * 80 ≤ 140737488355328) && decide (l2.length + ([(x8.1, x8.2.1, x8.2.2.1, x8.2.2.2.1, x8.2.2.2.2.1, x8.2.2.2.2.2)] : List (Int × Int × Int × Int × List Int × List (List Int))).length ≤ maxLen))
    (some (.inr ((l2 ++ ([(x8.1, x8.2.1, x8.2.2.1, x8.2.2.2.1, x8.2.2.2.2.1, x8.2.2.2.2.2)] : List (Int × Int × Int × Int × List Int × List (List Int)))), (IntKind.i64.wrap (i3 + 4))))))
  (some (.inl (.inr l2)))
noncomputable def F_wlvref27_Events_J2 (s : List (Int × Int × Int × Int × List Int × List (List Int))) : Option (List (Int × Int × Int × Int × List Int × List (List Int))) :=
  let l9 := s
  some l9
noncomputable def F_wlvref27_Events (l1 : List Int) : Option (List (Int × Int × Int × Int × List Int × List (List Int))) :=
  joinC (S := List (Int × Int × Int × Int × List Int × List (List Int))) (R := List (Int × Int × Int × Int × List Int × List (List Int)))
  (loopC (S := List (Int × Int × Int × Int × List Int × List (List Int)) × Int) (R := (List (Int × Int × Int × Int × List Int × List (List Int))) ⊕ (List (Int × Int × Int × Int × List Int × List (List Int)))) (F_wlvref27_Events_L4 l1) (([] : List (Int × Int × Int × Int × List Int × List (List Int))), 0))
  (F_wlvref27_Events_J2)
def F_wlvref27_Events_sig : Sig := ⟨[.v false [.d (.sl (.int .u8))]], [(false, [.own 29 (.pr (.int .i64) (.pr (.int .i64) (.pr (.int .i64) (.pr (.int .i64) (.pr (.sl (.int .u8)) (.sl .str))))))])]⟩
def F_wlvref27_Events_ann : List (Nat × Ann) := [(2, ⟨3, [(3, false, [.own 29 (.pr (.int .i64) (.pr (.int .i64) (.pr (.int .i64) (.pr (.int .i64) (.pr (.sl (.int .u8)) (.sl .str))))))])], [], [4, 5, 6, 7, 8, 9, 10, 11, 12, 13, 14, 15, 16, 17, 18, 19, 20, 21, 22, 23, 24, 25, 26, 27, 28, 29, 30, 31, 32, 33, 34, 35, 36, 37, 38, 39], []⟩), (4, ⟨5, [(3, false, [.own 29 (.pr (.int .i64) (.pr (.int .i64) (.pr (.int .i64) (.pr (.int .i64) (.pr (.sl (.int .u8)) (.sl .str))))))]), (4, false, [.d (.int .i64)])], [], [5, 6, 7, 8, 9, 10, 11, 12, 13, 14, 15, 16, 17, 18, 19, 20, 21, 22, 23, 24, 25, 26, 27, 28, 29, 30, 31, 32, 33, 34, 35, 36, 37, 38, 39], []⟩)]
noncomputable def F_wlvref27_Events_env : Env := ⟨Tryd.prog, [(24, ⟨F_wlvref27_one_sig, ⟨F_wlvref27_one⟩⟩)], []⟩
set_option maxRecDepth 100000 in
theorem F_wlvref27_Events_text : pvFn F_wlvref27_Events_env F_wlvref27_Events_ann Tryd.f8 F_wlvref27_Events_sig = F_wlvref27_Events := by kernel_rfl
noncomputable def F_wlvref_Texts_L6 (l1 : List (List Int)) (l2 : List (List Int)) (s : Int) : Option (((Bool) ⊕ (Unit)) ⊕ (Int)) :=
  let i3 := s
  cond (decide (i3 < (l1.length : Int)))
  ((getI l1 i3).bind fun s4 =>
    (getI l2 i3).bind fun s5 =>
    cond (!(s4 == s5))
    (some (.inl (.inl false)))
    (some (.inr (IntKind.i64.wrap (i3 + 1)))))
  (some (.inl (.inr ())))
noncomputable def F_wlvref_Texts_J4 (s : Unit) : Option (Bool) :=
  some true
noncomputable def F_wlvref_Texts (l1 : List (List Int)) (l2 : List (List Int)) : Option (Bool) :=
  cond ((l1.length : Int) != (l2.length : Int))
  (some false)
  (joinC (S := Unit) (R := Bool)
    (loopC (S := Int) (R := (Bool) ⊕ (Unit)) (F_wlvref_Texts_L6 l1 l2) 0)
    (F_wlvref_Texts_J4))
def F_wlvref_Texts_sig : Sig := ⟨[.v false [.d (.sl .str)], .v false [.d (.sl .str)]], [(false, [.d .bool])]⟩
def F_wlvref_Texts_ann : List (Nat × Ann) := [(4, ⟨5, [], [], [4, 5, 11, 12, 13, 14, 15, 16, 17, 18, 19, 20, 21, 22, 23, 24, 25], []⟩), (6, ⟨7, [(5, false, [.d (.int .i64)])], [], [4, 11, 12, 13, 14, 15, 16, 17, 18, 19, 20, 21, 22, 23, 24, 25], []⟩)]
noncomputable def F_wlvref_Texts_env : Env := ⟨Tryd.prog, [], []⟩
set_option maxRecDepth 100000 in
theorem F_wlvref_Texts_text : pvFn F_wlvref_Texts_env F_wlvref_Texts_ann Tryd.f11 F_wlvref_Texts_sig = F_wlvref_Texts := by kernel_rfl
noncomputable def F_wlvref_Bytes (l1 : List Int) (l2 : List Int) : Option (Bool) :=
  some (l1 == l2)
def F_wlvref_Bytes_sig : Sig := ⟨[.v false [.d (.sl (.int .u8))], .v false [.d (.sl (.int .u8))]], [(false, [.d .bool])]⟩
def F_wlvref_Bytes_ann : List (Nat × Ann) := []
noncomputable def F_wlvref_Bytes_env : Env := ⟨Tryd.prog, [], []⟩
set_option maxRecDepth 100000 in
theorem F_wlvref_Bytes_text : pvFn F_wlvref_Bytes_env F_wlvref_Bytes_ann Tryd.f14 F_wlvref_Bytes_sig = F_wlvref_Bytes := by kernel_rfl
noncomputable def F_wlvlaw28_same (i1 : Int) (i2 : Int) (i3 : Int) (i4 : Int) (l5 : List Int) (l6 : List (List Int)) (i7 : Int) (i8 : Int) (i9 : Int) (i10 : Int) (l11 : List Int) (l12 : List (List Int)) : Option (Bool) :=
  cond (i1 == i7)
  (cond (i2 == i8)
    (cond (i3 == i9)
      (cond (i4 == i10)
        ((F_wlvref_Bytes l5 l11).bind fun b13 =>
          cond b13
          ((F_wlvref_Texts l6 l12).bind fun b14 =>
            some b14)
          (some false))
        (some false))
      (some false))
    (some false))
  (some false)
def F_wlvlaw28_same_sig : Sig := ⟨[.v true [.d (.int .i64), .d (.int .i64), .d (.int .i64), .d (.int .i64), .d (.sl (.int .u8)), .d (.sl .str)], .v true [.d (.int .i64), .d (.int .i64), .d (.int .i64), .d (.int .i64), .d (.sl (.int .u8)), .d (.sl .str)]], [(false, [.d .bool])]⟩
def F_wlvlaw28_same_ann : List (Nat × Ann) := []
noncomputable def F_wlvlaw28_same_env : Env := ⟨Tryd.prog, [(11, ⟨F_wlvref_Texts_sig, ⟨F_wlvref_Texts⟩⟩), (14, ⟨F_wlvref_Bytes_sig, ⟨F_wlvref_Bytes⟩⟩)], []⟩
set_option maxRecDepth 100000 in
theorem F_wlvlaw28_same_text : pvFn F_wlvlaw28_same_env F_wlvlaw28_same_ann Tryd.f9 F_wlvlaw28_same_sig = F_wlvlaw28_same := by kernel_rfl
noncomputable def F_wlvlaw28_TaleEvents_L13 (s : List (Int × Int × Int × Int × List Int × List (List Int)) × List (Int × Int × Int × Int × List Int × List (List Int)) × Int) : Option (((Bool) ⊕ (List (Int × Int × Int × Int × List Int × List (List Int)))) ⊕ (List (Int × Int × Int × Int × List Int × List (List Int)) × List (Int × Int × Int × Int × List Int × List (List Int)) × Int)) :=
  let l6 := s.1; let l7 := s.2.1; let i8 := s.2.2
  cond (decide (i8 < (l6.length : Int)))
  ((getI l6 i8).bind fun x9 =>
    (getI l7 i8).bind fun x10 =>
    (F_wlvlaw28_same x9.1 x9.2.1 x9.2.2.1 x9.2.2.2.1 x9.2.2.2.2.1 x9.2.2.2.2.2 x10.1 x10.2.1 x10.2.2.1 x10.2.2.2.1 x10.2.2.2.2.1 x10.2.2.2.2.2).bind fun b11 =>
    cond (!b11)
    (some (.inl (.inl false)))
    (some (.inr (l6, l7, (IntKind.i64.wrap (i8 + 1))))))
  (some (.inl (.inr l6)))
noncomputable def F_wlvlaw28_TaleEvents_J11 (l1 : List Int) (s : List (Int × Int × Int × Int × List Int × List (List Int))) : Option (Bool) :=
  let l12 := s
  (F_wlvlaw28_first).bind fun b13 =>
  cond b13
  (some ((l12.length : Int) == (minI (IntKind.i64.wrap (Int.tdiv (l1.length : Int) 4)) 300)))
  (some false)
noncomputable def F_wlvlaw28_TaleEvents (l1 : List Int) : Option (Bool) :=
  (F_wlvlaw28_first).bind fun b2 =>
  cond (!b2)
  (some false)
  (cond (decide ((l1.length : Int) > 2000))
    ((F_wlvlaw28_first).bind fun b3 =>
      some b3)
    ((F_tale_Events l1).bind fun l4 =>
      (F_wlvref27_Events l1).bind fun l5 =>
      cond ((l4.length : Int) != (l5.length : Int))
      (some false)
      (joinC (S := List (Int × Int × Int × Int × List Int × List (List Int))) (R := Bool)
        (loopC (S := List (Int × Int × Int × Int × List Int × List (List Int)) × List (Int × Int × Int × Int × List Int × List (List Int)) × Int) (R := (Bool) ⊕ (List (Int × Int × Int × Int × List Int × List (List Int)))) (F_wlvlaw28_TaleEvents_L13) (l4, l5, 0))
        (F_wlvlaw28_TaleEvents_J11 l1))))
def F_wlvlaw28_TaleEvents_sig : Sig := ⟨[.v false [.d (.sl (.int .u8))]], [(false, [.d .bool])]⟩
def F_wlvlaw28_TaleEvents_ann : List (Nat × Ann) := [(11, ⟨12, [(3, false, [.own 29 (.pr (.int .i64) (.pr (.int .i64) (.pr (.int .i64) (.pr (.int .i64) (.pr (.sl (.int .u8)) (.sl .str))))))])], [], [2, 5, 21, 22, 23, 24, 25, 26, 27, 28, 29, 30, 31, 32, 33, 34, 35, 36], []⟩), (13, ⟨14, [(3, false, [.own 29 (.pr (.int .i64) (.pr (.int .i64) (.pr (.int .i64) (.pr (.int .i64) (.pr (.sl (.int .u8)) (.sl .str))))))]), (4, false, [.own 29 (.pr (.int .i64) (.pr (.int .i64) (.pr (.int .i64) (.pr (.int .i64) (.pr (.sl (.int .u8)) (.sl .str))))))]), (5, false, [.d (.int .i64)])], [], [2, 21, 22, 23, 24, 25, 26, 27, 28, 29, 30, 31, 32, 33, 34, 35, 36], []⟩)]
noncomputable def F_wlvlaw28_TaleEvents_env : Env := ⟨Tryd.prog, [(6, ⟨F_wlvlaw28_first_sig, ⟨F_wlvlaw28_first⟩⟩), (7, ⟨F_tale_Events_sig, ⟨F_tale_Events⟩⟩), (8, ⟨F_wlvref27_Events_sig, ⟨F_wlvref27_Events⟩⟩), (9, ⟨F_wlvlaw28_same_sig, ⟨F_wlvlaw28_same⟩⟩)], []⟩
set_option maxRecDepth 100000 in
theorem F_wlvlaw28_TaleEvents_text : pvFn F_wlvlaw28_TaleEvents_env F_wlvlaw28_TaleEvents_ann Tryd.f3 F_wlvlaw28_TaleEvents_sig = F_wlvlaw28_TaleEvents := by kernel_rfl
noncomputable def F_wlvlaw28_TaleParts_L13 (s : List (Int × Int × Int × Int × List Int × List (List Int)) × List (Int × Int × Int × Int × List Int × List (List Int)) × List (Int × Int × Int × Int × List Int × List (List Int)) × Int) : Option (((Bool) ⊕ (Unit)) ⊕ (List (Int × Int × Int × Int × List Int × List (List Int)) × List (Int × Int × Int × Int × List Int × List (List Int)) × List (Int × Int × Int × Int × List Int × List (List Int)) × Int)) :=
  let l8 := s.1; let l9 := s.2.1; let l10 := s.2.2.1; let i11 := s.2.2.2
  cond (decide (i11 < (l10.length : Int)))
  (cond (decide (i11 < (l8.length : Int)))
    ((getI l10 i11).bind fun x12 =>
      (getI l8 i11).bind fun x13 =>
      (F_wlvlaw28_same x12.1 x12.2.1 x12.2.2.1 x12.2.2.2.1 x12.2.2.2.2.1 x12.2.2.2.2.2 x13.1 x13.2.1 x13.2.2.1 x13.2.2.2.1 x13.2.2.2.2.1 x13.2.2.2.2.2).bind fun b14 =>
      cond (!b14)
      (some (.inl (.inl false)))
      (cond (decide (i11 ≥ (l8.length : Int)))
        ((getI l10 i11).bind fun x15 =>
          (getI l9 (IntKind.i64.wrap (i11 - (l8.length : Int)))).bind fun x16 =>
          (F_wlvlaw28_same x15.1 x15.2.1 x15.2.2.1 x15.2.2.2.1 x15.2.2.2.2.1 x15.2.2.2.2.2 x16.1 x16.2.1 x16.2.2.1 x16.2.2.2.1 x16.2.2.2.2.1 x16.2.2.2.2.2).bind fun b17 =>
          cond (!b17)
          (some (.inl (.inl false)))
          (some (.inr (l8, l9, l10, (IntKind.i64.wrap (i11 + 1))))))
        (some (.inr (l8, l9, l10, (IntKind.i64.wrap (i11 + 1)))))))
    (cond false
      (some (.inl (.inl false)))
      (cond (decide (i11 ≥ (l8.length : Int)))
        ((getI l10 i11).bind fun x18 =>
          (getI l9 (IntKind.i64.wrap (i11 - (l8.length : Int)))).bind fun x19 =>
          (F_wlvlaw28_same x18.1 x18.2.1 x18.2.2.1 x18.2.2.2.1 x18.2.2.2.2.1 x18.2.2.2.2.2 x19.1 x19.2.1 x19.2.2.1 x19.2.2.2.1 x19.2.2.2.2.1 x19.2.2.2.2.2).bind fun b20 =>
          cond (!b20)
          (some (.inl (.inl false)))
          (some (.inr (l8, l9, l10, (IntKind.i64.wrap (i11 + 1))))))
        (some (.inr (l8, l9, l10, (IntKind.i64.wrap (i11 + 1))))))))
  (some (.inl (.inr ())))
noncomputable def F_wlvlaw28_TaleParts_J11 (s : Unit) : Option (Bool) :=
  (F_wlvlaw28_first).bind fun b21 =>
  some b21
noncomputable def F_wlvlaw28_TaleParts (l1 : List Int) (l2 : List Int) : Option (Bool) :=
  (F_wlvlaw28_first).bind fun b3 =>
  cond (!b3)
  (some false)
  (cond (((decide ((l1.length : Int) > 500)) || (decide ((l2.length : Int) > 600))) || ((Int.tmod (l1.length : Int) 4) != 0))
    ((F_wlvlaw28_first).bind fun b4 =>
      some b4)
    ((F_tale_Events l1).bind fun l5 =>
      (F_tale_Events l2).bind fun l6 =>
      chk (decide ((([] : List Int).length + l1.length) * 1 ≤ 140737488355328) && decide (([] : List Int).length + l1.length ≤ maxLen))
      (chk (decide (((([] : List Int) ++ l1).length + l2.length) * 1 ≤ 140737488355328) && decide ((([] : List Int) ++ l1).length + l2.length ≤ maxLen))
        ((F_tale_Events ((([] : List Int) ++ l1) ++ l2)).bind fun l7 =>
          cond ((l7.length : Int) != (IntKind.i64.wrap ((l5.length : Int) + (l6.length : Int))))
          (some false)
          (joinC (S := Unit) (R := Bool)
            (loopC (S := List (Int × Int × Int × Int × List Int × List (List Int)) × List (Int × Int × Int × Int × List Int × List (List Int)) × List (Int × Int × Int × Int × List Int × List (List Int)) × Int) (R := (Bool) ⊕ (Unit)) (F_wlvlaw28_TaleParts_L13) (l5, l6, l7, 0))
            (F_wlvlaw28_TaleParts_J11))))))
def F_wlvlaw28_TaleParts_sig : Sig := ⟨[.v false [.d (.sl (.int .u8))], .v false [.d (.sl (.int .u8))]], [(false, [.d .bool])]⟩
def F_wlvlaw28_TaleParts_ann : List (Nat × Ann) := [(11, ⟨12, [], [], [4, 8, 44, 45, 46, 47, 48, 49, 50, 51, 52, 53, 54, 55, 56, 57, 58, 59, 60, 61, 62, 63, 64, 65, 66, 67, 68, 69, 70, 71, 72, 73, 74, 75, 76, 77, 78, 79, 80, 81, 82, 83, 84, 85, 86], []⟩), (13, ⟨14, [(5, false, [.own 29 (.pr (.int .i64) (.pr (.int .i64) (.pr (.int .i64) (.pr (.int .i64) (.pr (.sl (.int .u8)) (.sl .str))))))]), (6, false, [.own 29 (.pr (.int .i64) (.pr (.int .i64) (.pr (.int .i64) (.pr (.int .i64) (.pr (.sl (.int .u8)) (.sl .str))))))]), (7, false, [.own 29 (.pr (.int .i64) (.pr (.int .i64) (.pr (.int .i64) (.pr (.int .i64) (.pr (.sl (.int .u8)) (.sl .str))))))]), (8, false, [.d (.int .i64)])], [], [4, 44, 45, 46, 47, 48, 49, 50, 51, 52, 53, 54, 55, 56, 57, 58, 59, 60, 61, 62, 63, 64, 65, 66, 67, 68, 69, 70, 71, 72, 73, 74, 75, 76, 77, 78, 79, 80, 81, 82, 83, 84, 85, 86], []⟩)]
noncomputable def F_wlvlaw28_TaleParts_env : Env := ⟨Tryd.prog, [(6, ⟨F_wlvlaw28_first_sig, ⟨F_wlvlaw28_first⟩⟩), (7, ⟨F_tale_Events_sig, ⟨F_tale_Events⟩⟩), (9, ⟨F_wlvlaw28_same_sig, ⟨F_wlvlaw28_same⟩⟩)], []⟩
set_option maxRecDepth 100000 in
theorem F_wlvlaw28_TaleParts_text : pvFn F_wlvlaw28_TaleParts_env F_wlvlaw28_TaleParts_ann Tryd.f4 F_wlvlaw28_TaleParts_sig = F_wlvlaw28_TaleParts := by kernel_rfl
end Go.Proofs.YtgfmfgombmpodaaDoor

/- The functions of the program as Lean functions, written by a program of ours and held by the kernel. -/
namespace Go.Proofs.YtgfmfgombmpodaaDoor
open Pv
set_option linter.unusedVariables false
noncomputable def F_math_bits_Mul64 (i1 : Int) (i2 : Int) : Option (Int × Int) :=
  some ((IntKind.u64.wrap ((IntKind.u64.wrap ((IntKind.u64.wrap ((Int.fdiv i1 (2 ^ 32)) * (Int.fdiv i2 (2 ^ 32)))) + (Int.fdiv (IntKind.u64.wrap ((IntKind.u64.wrap ((Int.fdiv i1 (2 ^ 32)) * (bits .and .u64 i2 4294967295))) + (Int.fdiv (IntKind.u64.wrap ((bits .and .u64 i1 4294967295) * (bits .and .u64 i2 4294967295))) (2 ^ 32)))) (2 ^ 32)))) + (Int.fdiv (IntKind.u64.wrap ((bits .and .u64 (IntKind.u64.wrap ((IntKind.u64.wrap ((Int.fdiv i1 (2 ^ 32)) * (bits .and .u64 i2 4294967295))) + (Int.fdiv (IntKind.u64.wrap ((bits .and .u64 i1 4294967295) * (bits .and .u64 i2 4294967295))) (2 ^ 32)))) 4294967295) + (IntKind.u64.wrap ((bits .and .u64 i1 4294967295) * (Int.fdiv i2 (2 ^ 32)))))) (2 ^ 32)))), (IntKind.u64.wrap (i1 * i2)))
def F_math_bits_Mul64_sig : Sig := ⟨[.v false [.d (.int .u64)], .v false [.d (.int .u64)]], [(false, [.d (.int .u64)]), (false, [.d (.int .u64)])]⟩
def F_math_bits_Mul64_ann : List (Nat × Ann) := []
noncomputable def F_math_bits_Mul64_env : Env := ⟨Tryd.prog, [], []⟩
set_option maxRecDepth 100000 in
theorem F_math_bits_Mul64_text : pvFn F_math_bits_Mul64_env F_math_bits_Mul64_ann Tryd.f93 F_math_bits_Mul64_sig = F_math_bits_Mul64 := by kernel_rfl
noncomputable def F_sha_most (i1 : Int) (i2 : Int) (b3 : Bool) : Option (Bool) :=
  (F_math_bits_Mul64 i1 i1).bind fun x4 =>
  cond (!b3)
  (some (decide (x4.1 < i2)))
  ((F_math_bits_Mul64 x4.2 i1).bind fun x5 =>
    (F_math_bits_Mul64 x4.1 i1).bind fun x6 =>
    chk (0 == 0)
    (cond ((IntKind.u64.wrap (x6.1 + ((x5.1 + x6.2) / 18446744073709551616))) == 0)
      (cond (decide ((Int.fdiv ((x5.1 + x6.2) % 18446744073709551616) (2 ^ 32)) < i2))
        (some true)
        (some ((((Int.fdiv ((x5.1 + x6.2) % 18446744073709551616) (2 ^ 32)) == i2) && ((IntKind.u64.wrap (((x5.1 + x6.2) % 18446744073709551616) * 2 ^ 32)) == 0)) && (x5.2 == 0))))
      (some false)))
def F_sha_most_sig : Sig := ⟨[.v false [.d (.int .u64)], .v false [.d (.int .u64)], .v false [.d .bool]], [(false, [.d .bool])]⟩
def F_sha_most_ann : List (Nat × Ann) := []
noncomputable def F_sha_most_env : Env := ⟨Tryd.prog, [(93, ⟨F_math_bits_Mul64_sig, ⟨F_math_bits_Mul64⟩⟩)], []⟩
set_option maxRecDepth 100000 in
theorem F_sha_most_text : pvFn F_sha_most_env F_sha_most_ann Tryd.f85 F_sha_most_sig = F_sha_most := by kernel_rfl
noncomputable def F_sha_fraction_L4 (i1 : Int) (b2 : Bool) (s : Int × Int) : Option (((Int) ⊕ (Int)) ⊕ (Int × Int)) :=
  let i3 := s.1; let i4 := s.2
  cond (decide (i4 > 0))
  ((F_sha_most (bits .or .u64 i3 i4) i1 b2).bind fun b5 =>
    cond b5
    (some (.inr ((bits .or .u64 i3 i4), (Int.fdiv i4 (2 ^ 1)))))
    (some (.inr (i3, (Int.fdiv i4 (2 ^ 1))))))
  (some (.inl (.inr i3)))
noncomputable def F_sha_fraction_J2 (s : Int) : Option (Int) :=
  let i6 := s
  some (IntKind.u32.wrap i6)
noncomputable def F_sha_fraction (i1 : Int) (b2 : Bool) : Option (Int) :=
  joinC (S := Int) (R := Int)
  (loopC (S := Int × Int) (R := (Int) ⊕ (Int)) (F_sha_fraction_L4 i1 b2) (0, 68719476736))
  (F_sha_fraction_J2)
def F_sha_fraction_sig : Sig := ⟨[.v false [.d (.int .u64)], .v false [.d .bool]], [(false, [.d (.int .u32)])]⟩
def F_sha_fraction_ann : List (Nat × Ann) := [(2, ⟨3, [(5, false, [.d (.int .u64)])], [], [6, 7, 8, 9, 10, 11, 12, 13, 14, 15, 16, 17, 18, 19], []⟩), (4, ⟨5, [(5, false, [.d (.int .u64)]), (6, false, [.d (.int .u64)])], [], [7, 8, 9, 10, 11, 12, 13, 14, 15, 16, 17, 18, 19], []⟩)]
noncomputable def F_sha_fraction_env : Env := ⟨Tryd.prog, [(85, ⟨F_sha_most_sig, ⟨F_sha_most⟩⟩)], []⟩
set_option maxRecDepth 100000 in
theorem F_sha_fraction_text : pvFn F_sha_fraction_env F_sha_fraction_ann Tryd.f70 F_sha_fraction_sig = F_sha_fraction := by kernel_rfl
noncomputable def F_sha_padded_L3 (s : List Int) : Option (((List Int) ⊕ (List Int)) ⊕ (List Int)) :=
  let l3 := s
  cond ((Int.tmod (l3.length : Int) 64) != 56)
  (chk (decide ((l3.length + ([0] : List Int).length) * 1 ≤ 140737488355328) && decide (l3.length + ([0] : List Int).length ≤ maxLen))
    (some (.inr (l3 ++ ([0] : List Int)))))
  (some (.inl (.inr l3)))
noncomputable def F_sha_padded_L8 (l1 : List Int) (s : List Int × Int) : Option (((List Int) ⊕ (List Int)) ⊕ (List Int × Int)) :=
  let l5 := s.1; let i6 := s.2
  cond (decide (i6 ≥ 0))
  (chk (decide (0 ≤ (IntKind.i64.wrap (8 * i6))))
    (chk (decide ((l5.length + ([(IntKind.u8.wrap (Int.fdiv (IntKind.u64.wrap ((IntKind.u64.wrap (l1.length : Int)) * 8)) (2 ^ (min ((IntKind.i64.wrap (8 * i6))).toNat 64))))] : List Int).length) * 1 ≤ 140737488355328) && decide (l5.length + ([(IntKind.u8.wrap (Int.fdiv (IntKind.u64.wrap ((IntKind.u64.wrap (l1.length : Int)) * 8)) (2 ^ (min ((IntKind.i64.wrap (8 * i6))).toNat 64))))] : List Int).length ≤ maxLen))
      (some (.inr ((l5 ++ ([(IntKind.u8.wrap (Int.fdiv (IntKind.u64.wrap ((IntKind.u64.wrap (l1.length : Int)) * 8)) (2 ^ (min ((IntKind.i64.wrap (8 * i6))).toNat 64))))] : List Int)), (IntKind.i64.wrap (i6 - 1)))))))
  (some (.inl (.inr l5)))
noncomputable def F_sha_padded_J6 (s : List Int) : Option (List Int) :=
  let l7 := s
  some l7
noncomputable def F_sha_padded_J2 (l1 : List Int) (s : List Int) : Option (List Int) :=
  let l4 := s
  joinC (S := List Int) (R := List Int)
  (loopC (S := List Int × Int) (R := (List Int) ⊕ (List Int)) (F_sha_padded_L8 l1) (l4, 7))
  (F_sha_padded_J6)
noncomputable def F_sha_padded (l1 : List Int) : Option (List Int) :=
  (F_slices_Clone_byte_byte l1).bind fun l2 =>
  chk (decide ((l2.length + ([128] : List Int).length) * 1 ≤ 140737488355328) && decide (l2.length + ([128] : List Int).length ≤ maxLen))
  (joinC (S := List Int) (R := List Int)
    (loopC (S := List Int) (R := (List Int) ⊕ (List Int)) (F_sha_padded_L3) (l2 ++ ([128] : List Int)))
    (F_sha_padded_J2 l1))
def F_sha_padded_sig : Sig := ⟨[.v false [.d (.sl (.int .u8))]], [(false, [.own 5 (.int .u8)])]⟩
def F_sha_padded_ann : List (Nat × Ann) := [(2, ⟨3, [(3, false, [.own 5 (.int .u8)])], [], [9, 10, 11, 12, 13, 14, 15], []⟩), (3, ⟨4, [(3, false, [.own 5 (.int .u8)])], [], [9, 10, 11, 12, 13, 14, 15], []⟩), (6, ⟨7, [(3, false, [.own 5 (.int .u8)])], [], [4, 16, 17, 18, 19, 20, 21, 22, 23, 24, 25, 26, 27, 28, 29, 30], []⟩), (8, ⟨9, [(3, false, [.own 5 (.int .u8)]), (4, false, [.d (.int .i64)])], [], [16, 17, 18, 19, 20, 21, 22, 23, 24, 25, 26, 27, 28, 29, 30], []⟩)]
noncomputable def F_sha_padded_env : Env := ⟨Tryd.prog, [(86, ⟨F_slices_Clone_byte_byte_sig, ⟨F_slices_Clone_byte_byte⟩⟩)], []⟩
set_option maxRecDepth 100000 in
theorem F_sha_padded_text : pvFn F_sha_padded_env F_sha_padded_ann Tryd.f71 F_sha_padded_sig = F_sha_padded := by kernel_rfl
noncomputable def F_math_bits_RotateLeft32 (i1 : Int) (i2 : Int) : Option (Int) :=
  chk (decide (0 ≤ (bits .and .u64 (IntKind.u64.wrap i2) 31)))
  (chk (decide (0 ≤ (IntKind.u64.wrap (32 - (bits .and .u64 (IntKind.u64.wrap i2) 31)))))
    (some (bits .or .u32 (IntKind.u32.wrap (i1 * 2 ^ (min ((bits .and .u64 (IntKind.u64.wrap i2) 31)).toNat 32))) (Int.fdiv i1 (2 ^ (min ((IntKind.u64.wrap (32 - (bits .and .u64 (IntKind.u64.wrap i2) 31)))).toNat 32))))))
def F_math_bits_RotateLeft32_sig : Sig := ⟨[.v false [.d (.int .u32)], .v false [.d (.int .i64)]], [(false, [.d (.int .u32)])]⟩
def F_math_bits_RotateLeft32_ann : List (Nat × Ann) := []
noncomputable def F_math_bits_RotateLeft32_env : Env := ⟨Tryd.prog, [], []⟩
set_option maxRecDepth 100000 in
theorem F_math_bits_RotateLeft32_text : pvFn F_math_bits_RotateLeft32_env F_math_bits_RotateLeft32_ann Tryd.f87 F_math_bits_RotateLeft32_sig = F_math_bits_RotateLeft32 := by kernel_rfl
noncomputable def F_sha_state_turned_L3 (l2 : List Int) (s : Int × List Int × List Int) : Option (((List Int) ⊕ (List Int × List Int)) ⊕ (Int × List Int × List Int)) :=
  let i4 := s.1; let a5 := s.2.1; let a6 := s.2.2
  cond (decide (i4 < 64))
  (cond (decide (i4 < 16))
    ((getI l2 (IntKind.i64.wrap (4 * i4))).bind fun i7 =>
      (getI l2 (IntKind.i64.wrap ((IntKind.i64.wrap (4 * i4)) + 1))).bind fun i8 =>
      (getI l2 (IntKind.i64.wrap ((IntKind.i64.wrap (4 * i4)) + 2))).bind fun i9 =>
      (getI l2 (IntKind.i64.wrap ((IntKind.i64.wrap (4 * i4)) + 3))).bind fun i10 =>
      chk (decide (0 ≤ i4) && decide (i4 < (64 : Int)))
      (chk (decide (i4 < (64 : Int)))
        (some (.inr ((IntKind.i64.wrap (i4 + 1)), a5, (a6.set (i4).toNat (bits .or .u32 (bits .or .u32 (bits .or .u32 (IntKind.u32.wrap ((IntKind.u32.wrap i7) * 2 ^ 24)) (IntKind.u32.wrap ((IntKind.u32.wrap i8) * 2 ^ 16))) (IntKind.u32.wrap ((IntKind.u32.wrap i9) * 2 ^ 8))) (IntKind.u32.wrap i10))))))))
    (chk (decide (0 ≤ (IntKind.i64.wrap (i4 - 15))) && decide ((IntKind.i64.wrap (i4 - 15)) < (64 : Int)))
      ((getI a6 (IntKind.i64.wrap (i4 - 15))).bind fun i11 =>
        chk (decide (0 ≤ (IntKind.i64.wrap (i4 - 2))) && decide ((IntKind.i64.wrap (i4 - 2)) < (64 : Int)))
        ((getI a6 (IntKind.i64.wrap (i4 - 2))).bind fun i12 =>
          chk (decide (0 ≤ (IntKind.i64.wrap (i4 - 16))) && decide ((IntKind.i64.wrap (i4 - 16)) < (64 : Int)))
          ((getI a6 (IntKind.i64.wrap (i4 - 16))).bind fun i13 =>
            chk (decide (0 ≤ (IntKind.i64.wrap (i4 - 7))) && decide ((IntKind.i64.wrap (i4 - 7)) < (64 : Int)))
            ((getI a6 (IntKind.i64.wrap (i4 - 7))).bind fun i14 =>
              (F_math_bits_RotateLeft32 i11 (-7)).bind fun i15 =>
              (F_math_bits_RotateLeft32 i11 (-18)).bind fun i16 =>
              (F_math_bits_RotateLeft32 i12 (-17)).bind fun i17 =>
              (F_math_bits_RotateLeft32 i12 (-19)).bind fun i18 =>
              chk (decide (0 ≤ i4) && decide (i4 < (64 : Int)))
              (chk (decide (i4 < (64 : Int)))
                (some (.inr ((IntKind.i64.wrap (i4 + 1)), a5, (a6.set (i4).toNat (IntKind.u32.wrap ((IntKind.u32.wrap ((IntKind.u32.wrap (i13 + i14)) + (bits .xor .u32 (bits .xor .u32 i15 i16) (Int.fdiv i11 (2 ^ 3))))) + (bits .xor .u32 (bits .xor .u32 i17 i18) (Int.fdiv i12 (2 ^ 10))))))))))))))))
  (some (.inl (.inr (a5, a6))))
noncomputable def F_sha_state_turned_L15 (l3 : List Int) (s : Int × List Int × List Int × List Int) : Option (((List Int) ⊕ (List Int × List Int)) ⊕ (Int × List Int × List Int × List Int)) :=
  let i21 := s.1; let a22 := s.2.1; let a23 := s.2.2.1; let a24 := s.2.2.2
  cond (decide (i21 < 64))
  ((getI a24 (4 : Int)).bind fun i25 =>
    (getI a24 (0 : Int)).bind fun i26 =>
    (getI a24 (7 : Int)).bind fun i27 =>
    (F_math_bits_RotateLeft32 i25 (-6)).bind fun i28 =>
    (F_math_bits_RotateLeft32 i25 (-11)).bind fun i29 =>
    (F_math_bits_RotateLeft32 i25 (-25)).bind fun i30 =>
    (getI a24 (6 : Int)).bind fun i31 =>
    (getI a24 (5 : Int)).bind fun i32 =>
    (getI a24 (6 : Int)).bind fun i33 =>
    (getI l3 i21).bind fun i34 =>
    chk (decide (0 ≤ i21) && decide (i21 < (64 : Int)))
    ((getI a23 i21).bind fun i35 =>
      (F_math_bits_RotateLeft32 i26 (-2)).bind fun i36 =>
      (F_math_bits_RotateLeft32 i26 (-13)).bind fun i37 =>
      (F_math_bits_RotateLeft32 i26 (-22)).bind fun i38 =>
      (getI a24 (1 : Int)).bind fun i39 =>
      (getI a24 (2 : Int)).bind fun i40 =>
      (getI a24 (1 : Int)).bind fun i41 =>
      (getI a24 (2 : Int)).bind fun i42 =>
      (getI a24 (1 : Int)).bind fun i43 =>
      (getI a24 (2 : Int)).bind fun i44 =>
      (getI a24 (3 : Int)).bind fun i45 =>
      (getI a24 (5 : Int)).bind fun i46 =>
      (getI a24 (6 : Int)).bind fun i47 =>
      some (.inr ((IntKind.i64.wrap (i21 + 1)), a22, a23, [(IntKind.u32.wrap ((IntKind.u32.wrap ((IntKind.u32.wrap ((IntKind.u32.wrap ((IntKind.u32.wrap (i27 + (bits .xor .u32 (bits .xor .u32 i28 i29) i30))) + (bits .xor .u32 i31 (bits .and .u32 i25 (bits .xor .u32 i32 i33))))) + i34)) + i35)) + (IntKind.u32.wrap ((bits .xor .u32 (bits .xor .u32 i36 i37) i38) + (bits .or .u32 (bits .and .u32 i26 (bits .or .u32 i39 i40)) (bits .and .u32 i41 i42)))))), i26, i43, i44, (IntKind.u32.wrap (i45 + (IntKind.u32.wrap ((IntKind.u32.wrap ((IntKind.u32.wrap ((IntKind.u32.wrap (i27 + (bits .xor .u32 (bits .xor .u32 i28 i29) i30))) + (bits .xor .u32 i31 (bits .and .u32 i25 (bits .xor .u32 i32 i33))))) + i34)) + i35)))), i25, i46, i47]))))
  (some (.inl (.inr (a22, a24))))
noncomputable def F_sha_state_turned_L24 (s : Int × List Int × List Int) : Option ((List Int) ⊕ (Int × List Int × List Int)) :=
  let i50 := s.1; let a51 := s.2.1; let a52 := s.2.2
  cond (decide (i50 < 8))
  (chk (decide (0 ≤ i50) && decide (i50 < (8 : Int)))
    ((getI a51 i50).bind fun i53 =>
      chk (decide (0 ≤ i50) && decide (i50 < (8 : Int)))
      ((getI a52 i50).bind fun i54 =>
        chk (decide (0 ≤ i50) && decide (i50 < (8 : Int)))
        (chk (decide (i50 < (8 : Int)))
          (some (.inr ((IntKind.i64.wrap (i50 + 1)), (a51.set (i50).toNat (IntKind.u32.wrap (i53 + i54))), a52)))))))
  (some (.inl a51))
noncomputable def F_sha_state_turned_J13 (s : List Int × List Int) : Option (List Int) :=
  let a48 := s.1; let a49 := s.2
  loopC (S := Int × List Int × List Int) (R := List Int) (F_sha_state_turned_L24) (0, a48, a49)
noncomputable def F_sha_state_turned_J1 (l3 : List Int) (s : List Int × List Int) : Option (List Int) :=
  let a19 := s.1; let a20 := s.2
  joinC (S := List Int × List Int) (R := List Int)
  (loopC (S := Int × List Int × List Int × List Int) (R := (List Int) ⊕ (List Int × List Int)) (F_sha_state_turned_L15 l3) (0, a19, a20, a19))
  (F_sha_state_turned_J13)
noncomputable def F_sha_state_turned (a1 : List Int) (l2 : List Int) (l3 : List Int) : Option (List Int) :=
  joinC (S := List Int × List Int) (R := List Int)
  (loopC (S := Int × List Int × List Int) (R := (List Int) ⊕ (List Int × List Int)) (F_sha_state_turned_L3 l2) (0, a1, (List.replicate 64 0)))
  (F_sha_state_turned_J1 l3)
def F_sha_state_turned_sig : Sig := ⟨[.m [.d (.arr 8 (.int .u32))], .v false [.d (.sl (.int .u8))], .v false [.d (.sl (.int .u32))]], []⟩
def F_sha_state_turned_ann : List (Nat × Ann) := [(1, ⟨2, [], [(0, [.d (.arr 8 (.int .u32))]), (6, [.d (.arr 64 (.int .u32))])], [7, 8, 9, 17, 18, 19, 20, 21, 22, 23, 24, 25, 26, 27, 28, 29, 30, 31, 32, 33, 34, 35, 36, 37, 38, 39, 40, 41, 42, 43, 44, 45, 46, 47, 48, 49, 50, 51, 52, 53, 54, 55, 56, 57, 58, 59, 60, 61, 62, 63, 64, 65, 66, 67, 68, 69, 70, 71, 72, 73, 74, 75, 76, 77, 78, 79, 80, 81, 82, 83, 84, 85, 86, 87, 88, 89, 90, 91, 92, 93, 94], []⟩), (3, ⟨4, [(17, false, [.d (.int .i64)])], [(0, [.d (.arr 8 (.int .u32))]), (6, [.d (.arr 64 (.int .u32))])], [7, 8, 9, 18, 19, 20, 21, 22, 23, 24, 25, 26, 27, 28, 29, 30, 31, 32, 33, 34, 35, 36, 37, 38, 39, 40, 41, 42, 43, 44, 45, 46, 47, 48, 49, 50, 51, 52, 53, 54, 55, 56, 57, 58, 59, 60, 61, 62, 63, 64, 65, 66, 67, 68, 69, 70, 71, 72, 73, 74, 75, 76, 77, 78, 79, 80, 81, 82, 83, 84, 85, 86, 87, 88, 89, 90, 91, 92, 93, 94], []⟩), (13, ⟨14, [], [(0, [.d (.arr 8 (.int .u32))]), (10, [.d (.arr 8 (.int .u32))])], [11, 12, 13, 14, 15, 98, 99, 100, 101, 102, 103, 104, 105, 106, 107, 108, 109, 110, 111, 112, 113, 114, 115, 116, 117, 118, 119, 120, 121, 122, 123, 124, 125, 126, 127, 128, 129, 130, 131, 132, 133, 134, 135, 136, 137, 138, 139, 140, 141, 142, 143, 144, 145, 146, 147, 148, 149, 150, 151, 152, 153, 154, 155, 156, 157, 158, 159, 160, 161, 162, 163, 164, 165, 166, 167, 168, 169, 170, 171, 172, 173, 174, 175, 176], []⟩), (15, ⟨16, [(98, false, [.d (.int .i64)])], [(0, [.d (.arr 8 (.int .u32))]), (6, [.d (.arr 64 (.int .u32))]), (10, [.d (.arr 8 (.int .u32))])], [11, 12, 13, 14, 15, 99, 100, 101, 102, 103, 104, 105, 106, 107, 108, 109, 110, 111, 112, 113, 114, 115, 116, 117, 118, 119, 120, 121, 122, 123, 124, 125, 126, 127, 128, 129, 130, 131, 132, 133, 134, 135, 136, 137, 138, 139, 140, 141, 142, 143, 144, 145, 146, 147, 148, 149, 150, 151, 152, 153, 154, 155, 156, 157, 158, 159, 160, 161, 162, 163, 164, 165, 166, 167, 168, 169, 170, 171, 172, 173, 174, 175, 176], []⟩), (24, ⟨25, [(177, false, [.d (.int .i64)])], [(0, [.d (.arr 8 (.int .u32))]), (10, [.d (.arr 8 (.int .u32))])], [16, 178, 179, 180, 181, 182, 183, 184, 185, 186, 187, 188, 189, 190, 191], []⟩)]
noncomputable def F_sha_state_turned_env : Env := ⟨Tryd.prog, [(87, ⟨F_math_bits_RotateLeft32_sig, ⟨F_math_bits_RotateLeft32⟩⟩)], []⟩
set_option maxRecDepth 100000 in
theorem F_sha_state_turned_text : pvFn F_sha_state_turned_env F_sha_state_turned_ann Tryd.f72 F_sha_state_turned_sig = F_sha_state_turned := by kernel_rfl
noncomputable def F_sha_One_L5 (l2 : List Int) (s : List Int × List Int × Int × List Int) : Option (((List Int) ⊕ (List Int × List Int)) ⊕ (List Int × List Int × Int × List Int)) :=
  let l3 := s.1; let l4 := s.2.1; let i5 := s.2.2.1; let a6 := s.2.2.2
  cond (decide (i5 < (l2.length : Int)))
  ((getI l4 i5).bind fun i7 =>
    cond (decide (i5 < 8))
    ((F_sha_fraction i7 false).bind fun i8 =>
      chk (decide (0 ≤ i5) && decide (i5 < (8 : Int)))
      (chk (decide (i5 < (8 : Int)))
        ((F_sha_fraction i7 true).bind fun i9 =>
          chk (decide ((l3.length + ([i9] : List Int).length) * 4 ≤ 140737488355328) && decide (l3.length + ([i9] : List Int).length ≤ maxLen))
          (some (.inr ((l3 ++ ([i9] : List Int)), l4, (IntKind.i64.wrap (i5 + 1)), (a6.set (i5).toNat i8)))))))
    ((F_sha_fraction i7 true).bind fun i10 =>
      chk (decide ((l3.length + ([i10] : List Int).length) * 4 ≤ 140737488355328) && decide (l3.length + ([i10] : List Int).length ≤ maxLen))
      (some (.inr ((l3 ++ ([i10] : List Int)), l4, (IntKind.i64.wrap (i5 + 1)), a6)))))
  (some (.inl (.inr (l3, a6))))
noncomputable def F_sha_One_L15 (s : List Int × List Int × Int × List Int) : Option (((List Int) ⊕ (List Int)) ⊕ (List Int × List Int × Int × List Int)) :=
  let l14 := s.1; let l15 := s.2.1; let i16 := s.2.2.1; let a17 := s.2.2.2
  cond (decide (i16 < (l15.length : Int)))
  ((cutI l15 i16 (IntKind.i64.wrap (i16 + 64))).bind fun l18 =>
    (F_sha_state_turned a17 l18 l14).bind fun a19 =>
    some (.inr (l14, l15, (IntKind.i64.wrap (i16 + 64)), a19)))
  (some (.inl (.inr a17)))
noncomputable def F_sha_One_L22 (a20 : List Int) (s : List Int × Int) : Option (((List Int) ⊕ (List Int)) ⊕ (List Int × Int)) :=
  let l21 := s.1; let i22 := s.2
  cond (decide (i22 < 8))
  ((getI a20 i22).bind fun i23 =>
    chk (decide ((l21.length + ([(IntKind.u8.wrap (Int.fdiv i23 (2 ^ 24))), (IntKind.u8.wrap (Int.fdiv i23 (2 ^ 16))), (IntKind.u8.wrap (Int.fdiv i23 (2 ^ 8))), (IntKind.u8.wrap i23)] : List Int).length) * 1 ≤ 140737488355328) && decide (l21.length + ([(IntKind.u8.wrap (Int.fdiv i23 (2 ^ 24))), (IntKind.u8.wrap (Int.fdiv i23 (2 ^ 16))), (IntKind.u8.wrap (Int.fdiv i23 (2 ^ 8))), (IntKind.u8.wrap i23)] : List Int).length ≤ maxLen))
    (some (.inr ((l21 ++ ([(IntKind.u8.wrap (Int.fdiv i23 (2 ^ 24))), (IntKind.u8.wrap (Int.fdiv i23 (2 ^ 16))), (IntKind.u8.wrap (Int.fdiv i23 (2 ^ 8))), (IntKind.u8.wrap i23)] : List Int)), (IntKind.i64.wrap (i22 + 1))))))
  (some (.inl (.inr l21)))
noncomputable def F_sha_One_J20 (s : List Int) : Option (List Int) :=
  let l24 := s
  some l24
noncomputable def F_sha_One_J13 (s : List Int) : Option (List Int) :=
  let a20 := s
  joinC (S := List Int) (R := List Int)
  (loopC (S := List Int × Int) (R := (List Int) ⊕ (List Int)) (F_sha_One_L22 a20) (([] : List Int), 0))
  (F_sha_One_J20)
noncomputable def F_sha_One_J3 (l1 : List Int) (s : List Int × List Int) : Option (List Int) :=
  let l11 := s.1; let a12 := s.2
  (F_sha_padded l1).bind fun l13 =>
  joinC (S := List Int) (R := List Int)
  (loopC (S := List Int × List Int × Int × List Int) (R := (List Int) ⊕ (List Int)) (F_sha_One_L15) (l11, l13, 0, a12))
  (F_sha_One_J13)
noncomputable def F_sha_One (l1 : List Int) : Option (List Int) :=
  joinC (S := List Int × List Int) (R := List Int)
  ((F_sha_primes 64).bind fun l2 =>
    loopC (S := List Int × List Int × Int × List Int) (R := (List Int) ⊕ (List Int × List Int)) (F_sha_One_L5 l2) (([] : List Int), l2, 0, (List.replicate 8 0)))
  (F_sha_One_J3 l1)
def F_sha_One_sig : Sig := ⟨[.v false [.d (.sl (.int .u8))]], [(false, [.own 5 (.int .u8)])]⟩
def F_sha_One_ann : List (Nat × Ann) := [(3, ⟨4, [(4, false, [.own 87 (.int .u32)])], [(3, [.d (.arr 8 (.int .u32))])], [5, 6, 12, 13, 14, 15, 16, 17, 18, 19, 20, 21, 22, 23, 24, 25, 26, 27, 28, 29, 30], []⟩), (5, ⟨6, [(4, false, [.own 87 (.int .u32)]), (12, false, [.own 93 (.int .u64)]), (14, false, [.d (.int .i64)])], [(3, [.d (.arr 8 (.int .u32))])], [5, 6, 15, 16, 17, 18, 19, 20, 21, 22, 23, 24, 25, 26, 27, 28, 29, 30], []⟩), (13, ⟨14, [], [(3, [.d (.arr 8 (.int .u32))])], [8, 33, 34, 35, 36, 37, 38, 39, 40, 41, 42, 43, 44, 45], []⟩), (15, ⟨16, [(4, false, [.own 87 (.int .u32)]), (7, false, [.own 5 (.int .u8)]), (8, false, [.d (.int .i64)])], [(3, [.d (.arr 8 (.int .u32))])], [33, 34, 35, 36, 37, 38, 39, 40, 41, 42, 43, 44, 45], []⟩), (20, ⟨21, [(9, false, [.own 5 (.int .u8)])], [], [11, 46, 47, 48, 49, 50, 51, 52, 53, 54, 55, 56, 57, 58, 59, 60, 61, 62, 63, 64], []⟩), (22, ⟨23, [(9, false, [.own 5 (.int .u8)]), (47, false, [.d (.int .i64)])], [], [11, 48, 49, 50, 51, 52, 53, 54, 55, 56, 57, 58, 59, 60, 61, 62, 63, 64], []⟩)]
noncomputable def F_sha_One_env : Env := ⟨Tryd.prog, [(69, ⟨F_sha_primes_sig, ⟨F_sha_primes⟩⟩), (70, ⟨F_sha_fraction_sig, ⟨F_sha_fraction⟩⟩), (71, ⟨F_sha_padded_sig, ⟨F_sha_padded⟩⟩), (72, ⟨F_sha_state_turned_sig, ⟨F_sha_state_turned⟩⟩)], []⟩
set_option maxRecDepth 100000 in
theorem F_sha_One_text : pvFn F_sha_One_env F_sha_One_ann Tryd.f51 F_sha_One_sig = F_sha_One := by kernel_rfl
noncomputable def F_sha_Salted (l1 : List Int) (l2 : List Int) : Option (List Int) :=
  (F_slices_Concat_byte_byte ([l1, ([0] : List Int), l2] : List (List Int))).bind fun l3 =>
  (F_sha_One l3).bind fun l4 =>
  some l4
def F_sha_Salted_sig : Sig := ⟨[.v false [.d (.sl (.int .u8))], .v false [.d (.sl (.int .u8))]], [(false, [.own 5 (.int .u8)])]⟩
def F_sha_Salted_ann : List (Nat × Ann) := []
noncomputable def F_sha_Salted_env : Env := ⟨Tryd.prog, [(33, ⟨F_slices_Concat_byte_byte_sig, ⟨F_slices_Concat_byte_byte⟩⟩), (51, ⟨F_sha_One_sig, ⟨F_sha_One⟩⟩)], []⟩
set_option maxRecDepth 100000 in
theorem F_sha_Salted_text : pvFn F_sha_Salted_env F_sha_Salted_ann Tryd.f26 F_sha_Salted_sig = F_sha_Salted := by kernel_rfl
noncomputable def F_wlvref1_primes_L11 (i3 : Int) (s : List Int × Bool × Int) : Option ((((((List Int) ⊕ (List Int)) ⊕ (List Int × Int)) ⊕ (List Int)) ⊕ (List Int × Bool)) ⊕ (List Int × Bool × Int)) :=
  let l4 := s.1; let b5 := s.2.1; let i6 := s.2.2
  cond (decide (i6 < (l4.length : Int)))
  (cond b5
    ((getI l4 i6).bind fun i7 =>
      chk (i7 != 0)
      (some (.inr (l4, ((Int.tmod i3 i7) != 0), (IntKind.i64.wrap (i6 + 1))))))
    (some (.inr (l4, false, (IntKind.i64.wrap (i6 + 1))))))
  (some (.inl (.inr (l4, b5))))
noncomputable def F_wlvref1_primes_J9 (i3 : Int) (s : List Int × Bool) : Option ((((List Int) ⊕ (List Int)) ⊕ (List Int × Int)) ⊕ (List Int)) :=
  let l8 := s.1; let b9 := s.2
  cond b9
  (chk (decide ((l8.length + ([i3] : List Int).length) * 8 ≤ 140737488355328) && decide (l8.length + ([i3] : List Int).length ≤ maxLen))
    (some (.inr (l8 ++ ([i3] : List Int)))))
  (some (.inr l8))
noncomputable def F_wlvref1_primes_J7 (i3 : Int) (s : List Int) : Option (((List Int) ⊕ (List Int)) ⊕ (List Int × Int)) :=
  let l10 := s
  some (.inr (l10, (IntKind.i64.wrap (i3 + 1))))
noncomputable def F_wlvref1_primes_L4 (i1 : Int) (s : List Int × Int) : Option (((List Int) ⊕ (List Int)) ⊕ (List Int × Int)) :=
  let l2 := s.1; let i3 := s.2
  cond (decide ((l2.length : Int) < i1))
  (joinC (S := List Int) (R := ((List Int) ⊕ (List Int)) ⊕ (List Int × Int))
    (joinC (S := List Int × Bool) (R := (((List Int) ⊕ (List Int)) ⊕ (List Int × Int)) ⊕ (List Int))
      (loopC (S := List Int × Bool × Int) (R := ((((List Int) ⊕ (List Int)) ⊕ (List Int × Int)) ⊕ (List Int)) ⊕ (List Int × Bool)) (F_wlvref1_primes_L11 i3) (l2, true, 0))
      (F_wlvref1_primes_J9 i3))
    (F_wlvref1_primes_J7 i3))
  (some (.inl (.inr l2)))
noncomputable def F_wlvref1_primes_J2 (s : List Int) : Option (List Int) :=
  let l11 := s
  some l11
noncomputable def F_wlvref1_primes (i1 : Int) : Option (List Int) :=
  joinC (S := List Int) (R := List Int)
  (loopC (S := List Int × Int) (R := (List Int) ⊕ (List Int)) (F_wlvref1_primes_L4 i1) (([] : List Int), 2))
  (F_wlvref1_primes_J2)
def F_wlvref1_primes_sig : Sig := ⟨[.v false [.d (.int .i64)]], [(false, [.own 3 (.int .i64)])]⟩
def F_wlvref1_primes_ann : List (Nat × Ann) := [(2, ⟨3, [(3, false, [.own 3 (.int .i64)])], [], [4, 5, 6, 7, 8, 9, 10, 11, 12, 13, 14, 15, 16, 17, 18, 19, 20, 21, 22, 23, 24, 25, 26, 27, 28, 29, 30, 31, 32, 33], []⟩), (4, ⟨5, [(3, false, [.own 3 (.int .i64)]), (4, false, [.d (.int .i64)])], [], [5, 6, 7, 8, 9, 10, 11, 12, 13, 14, 15, 16, 17, 18, 19, 20, 21, 22, 23, 24, 25, 26, 27, 28, 29, 30, 31, 32, 33], []⟩), (7, ⟨8, [(3, false, [.own 3 (.int .i64)])], [], [5, 6, 13, 14, 15, 16, 17, 18, 19, 20, 21, 22, 23, 24, 25, 26, 27, 28, 29, 30, 31, 32, 33], []⟩), (9, ⟨10, [(3, false, [.own 3 (.int .i64)]), (5, false, [.d .bool])], [], [6, 13, 14, 15, 16, 17, 18, 19, 20, 21, 22, 23, 24, 25, 26, 27, 28], []⟩), (11, ⟨12, [(3, false, [.own 3 (.int .i64)]), (5, false, [.d .bool]), (6, false, [.d (.int .i64)])], [], [13, 14, 15, 16, 17, 18, 19, 20, 21, 22, 23, 24, 25, 26, 27, 28], []⟩)]
noncomputable def F_wlvref1_primes_env : Env := ⟨Tryd.prog, [], []⟩
set_option maxRecDepth 100000 in
theorem F_wlvref1_primes_text : pvFn F_wlvref1_primes_env F_wlvref1_primes_ann Tryd.f74 F_wlvref1_primes_sig = F_wlvref1_primes := by kernel_rfl
noncomputable def F_wlvref1_below_L4 (l1 : List Int) (i3 : Int) (s : Int × Int) : Option (((Bool) ⊕ (Int)) ⊕ (Int × Int)) :=
  let i4 := s.1; let i5 := s.2
  cond (decide (i5 ≥ (IntKind.i64.wrap (2 * i3))))
  (cond (decide (i4 > 1099511627776))
    (some (.inl (.inl false)))
    ((getI l1 i5).bind fun i6 =>
      some (.inr ((IntKind.u64.wrap ((IntKind.u64.wrap (i4 * 2 ^ 16)) + i6)), (IntKind.i64.wrap (i5 - 1))))))
  (some (.inl (.inr i4)))
noncomputable def F_wlvref1_below_L16 (l1 : List Int) (i3 : Int) (s : Int) : Option (((Bool) ⊕ (Unit)) ⊕ (Int)) :=
  let i8 := s
  cond (decide (i8 < (IntKind.i64.wrap (2 * i3))))
  ((getI l1 i8).bind fun i9 =>
    cond (i9 != 0)
    (some (.inl (.inl false)))
    (some (.inr (IntKind.i64.wrap (i8 + 1)))))
  (some (.inl (.inr ())))
noncomputable def F_wlvref1_below_J14 (s : Unit) : Option (Bool) :=
  some true
noncomputable def F_wlvref1_below_J2 (l1 : List Int) (i2 : Int) (i3 : Int) (s : Int) : Option (Bool) :=
  let i7 := s
  cond (i7 != (IntKind.u64.wrap i2))
  (some (decide (i7 < (IntKind.u64.wrap i2))))
  (joinC (S := Unit) (R := Bool)
    (loopC (S := Int) (R := (Bool) ⊕ (Unit)) (F_wlvref1_below_L16 l1 i3) 0)
    (F_wlvref1_below_J14))
noncomputable def F_wlvref1_below (l1 : List Int) (i2 : Int) (i3 : Int) : Option (Bool) :=
  joinC (S := Int) (R := Bool)
  (loopC (S := Int × Int) (R := (Bool) ⊕ (Int)) (F_wlvref1_below_L4 l1 i3) (0, (IntKind.i64.wrap ((l1.length : Int) - 1))))
  (F_wlvref1_below_J2 l1 i2 i3)
def F_wlvref1_below_sig : Sig := ⟨[.v false [.d (.sl (.int .u64))], .v false [.d (.int .i64)], .v false [.d (.int .i64)]], [(false, [.d .bool])]⟩
def F_wlvref1_below_ann : List (Nat × Ann) := [(2, ⟨3, [(7, false, [.d (.int .u64)])], [], [6, 8, 10, 11, 12, 13, 14, 15, 16, 17, 18, 19, 20, 21, 22, 23, 24, 25, 26, 27], []⟩), (4, ⟨5, [(7, false, [.d (.int .u64)]), (8, false, [.d (.int .i64)])], [], [6, 13, 14, 15, 16, 17, 18, 19, 20, 21, 22, 23, 24, 25, 26, 27], []⟩), (14, ⟨15, [], [], [6, 9, 36, 37, 38, 39, 40, 41, 42, 43, 44, 45, 46], []⟩), (16, ⟨17, [(9, false, [.d (.int .i64)])], [], [6, 36, 37, 38, 39, 40, 41, 42, 43, 44, 45, 46], []⟩)]
noncomputable def F_wlvref1_below_env : Env := ⟨Tryd.prog, [], []⟩
set_option maxRecDepth 100000 in
theorem F_wlvref1_below_text : pvFn F_wlvref1_below_env F_wlvref1_below_ann Tryd.f89 F_wlvref1_below_sig = F_wlvref1_below := by kernel_rfl
noncomputable def F_wlvref1_times_L11 (l1 : List Int) (l2 : List Int) (i3 : Int) (s : Int × Int × List Int) : Option ((((((List Int) ⊕ (List Int)) ⊕ (Int × List Int)) ⊕ (List Int)) ⊕ (Int × List Int)) ⊕ (Int × Int × List Int)) :=
  let i5 := s.1; let i6 := s.2.1; let l7 := s.2.2
  cond (decide (i6 < (l2.length : Int)))
  (chk (decide (0 ≤ (IntKind.i64.wrap (i3 + i6))) && decide ((IntKind.i64.wrap (i3 + i6)) < ((List.length (List.replicate ((IntKind.i64.wrap ((l1.length : Int) + (l2.length : Int)))).toNat (0 : Int))) : Int)))
    ((getI l7 (IntKind.i64.wrap (i3 + i6))).bind fun i8 =>
      (getI l1 i3).bind fun i9 =>
      (getI l2 i6).bind fun i10 =>
      chk (decide (0 ≤ (IntKind.i64.wrap (i3 + i6))) && decide ((IntKind.i64.wrap (i3 + i6)) < ((List.length (List.replicate ((IntKind.i64.wrap ((l1.length : Int) + (l2.length : Int)))).toNat (0 : Int))) : Int)))
      (chk (decide ((IntKind.i64.wrap (i3 + i6)) < (l7.length : Int)))
        (some (.inr ((Int.fdiv (IntKind.u64.wrap ((IntKind.u64.wrap (i8 + (IntKind.u64.wrap (i9 * i10)))) + i5)) (2 ^ 16)), (IntKind.i64.wrap (i6 + 1)), (l7.set ((IntKind.i64.wrap (i3 + i6))).toNat (bits .and .u64 (IntKind.u64.wrap ((IntKind.u64.wrap (i8 + (IntKind.u64.wrap (i9 * i10)))) + i5)) 65535))))))))
  (some (.inl (.inr (i5, l7))))
noncomputable def F_wlvref1_times_J9 (l1 : List Int) (l2 : List Int) (i3 : Int) (s : Int × List Int) : Option ((((List Int) ⊕ (List Int)) ⊕ (Int × List Int)) ⊕ (List Int)) :=
  let i11 := s.1; let l12 := s.2
  chk (decide (0 ≤ (IntKind.i64.wrap (i3 + (l2.length : Int)))) && decide ((IntKind.i64.wrap (i3 + (l2.length : Int))) < ((List.length (List.replicate ((IntKind.i64.wrap ((l1.length : Int) + (l2.length : Int)))).toNat (0 : Int))) : Int)))
  ((getI l12 (IntKind.i64.wrap (i3 + (l2.length : Int)))).bind fun i13 =>
    chk (decide (0 ≤ (IntKind.i64.wrap (i3 + (l2.length : Int)))) && decide ((IntKind.i64.wrap (i3 + (l2.length : Int))) < ((List.length (List.replicate ((IntKind.i64.wrap ((l1.length : Int) + (l2.length : Int)))).toNat (0 : Int))) : Int)))
    (chk (decide ((IntKind.i64.wrap (i3 + (l2.length : Int))) < (l12.length : Int)))
      (some (.inr (l12.set ((IntKind.i64.wrap (i3 + (l2.length : Int)))).toNat (IntKind.u64.wrap (i13 + i11)))))))
noncomputable def F_wlvref1_times_J7 (i3 : Int) (s : List Int) : Option (((List Int) ⊕ (List Int)) ⊕ (Int × List Int)) :=
  let l14 := s
  some (.inr ((IntKind.i64.wrap (i3 + 1)), l14))
noncomputable def F_wlvref1_times_L4 (l1 : List Int) (l2 : List Int) (s : Int × List Int) : Option (((List Int) ⊕ (List Int)) ⊕ (Int × List Int)) :=
  let i3 := s.1; let l4 := s.2
  cond (decide (i3 < (l1.length : Int)))
  (joinC (S := List Int) (R := ((List Int) ⊕ (List Int)) ⊕ (Int × List Int))
    (joinC (S := Int × List Int) (R := (((List Int) ⊕ (List Int)) ⊕ (Int × List Int)) ⊕ (List Int))
      (loopC (S := Int × Int × List Int) (R := ((((List Int) ⊕ (List Int)) ⊕ (Int × List Int)) ⊕ (List Int)) ⊕ (Int × List Int)) (F_wlvref1_times_L11 l1 l2 i3) (0, 0, l4))
      (F_wlvref1_times_J9 l1 l2 i3))
    (F_wlvref1_times_J7 i3))
  (some (.inl (.inr l4)))
noncomputable def F_wlvref1_times_J2 (l1 : List Int) (l2 : List Int) (s : List Int) : Option (List Int) :=
  let l15 := s
  chk ((Nat.ble (List.length (List.replicate ((IntKind.i64.wrap ((l1.length : Int) + (l2.length : Int)))).toNat (0 : Int))) (List.length l15) && true))
  (some (List.take (List.length (List.replicate ((IntKind.i64.wrap ((l1.length : Int) + (l2.length : Int)))).toNat (0 : Int))) l15))
noncomputable def F_wlvref1_times (l1 : List Int) (l2 : List Int) : Option (List Int) :=
  chk (decide (0 ≤ (IntKind.i64.wrap ((l1.length : Int) + (l2.length : Int)))) && decide ((IntKind.i64.wrap ((l1.length : Int) + (l2.length : Int))) ≤ (IntKind.i64.wrap ((l1.length : Int) + (l2.length : Int)))) && decide ((IntKind.i64.wrap ((l1.length : Int) + (l2.length : Int))) * 8 ≤ 140737488355328) && decide ((IntKind.i64.wrap ((l1.length : Int) + (l2.length : Int))) ≤ maxLen))
  (joinC (S := List Int) (R := List Int)
    (loopC (S := Int × List Int) (R := (List Int) ⊕ (List Int)) (F_wlvref1_times_L4 l1 l2) (0, (List.replicate ((IntKind.i64.wrap ((l1.length : Int) + (l2.length : Int)))).toNat (0 : Int))))
    (F_wlvref1_times_J2 l1 l2))
def F_wlvref1_times_sig : Sig := ⟨[.v false [.d (.sl (.int .u64))], .v false [.d (.sl (.int .u64))]], [(false, [.d (.sl (.int .u64))])]⟩
def F_wlvref1_times_ann : List (Nat × Ann) := [(2, ⟨3, [], [(15, [.row (.int .u64)])], [6, 7, 8, 9, 16, 17, 18, 19, 20, 21, 22, 23, 24, 25, 26, 27, 28, 29, 30, 31, 32, 33, 34, 35, 36, 37, 38, 39, 40, 41, 42, 43, 44, 45, 46, 47, 48, 49, 50, 51, 52, 53, 54, 55, 56, 57, 58, 59, 60, 61, 62, 63, 64], []⟩), (4, ⟨5, [(6, false, [.d (.int .i64)])], [(15, [.row (.int .u64)])], [7, 8, 9, 16, 17, 18, 19, 20, 21, 22, 23, 24, 25, 26, 27, 28, 29, 30, 31, 32, 33, 34, 35, 36, 37, 38, 39, 40, 41, 42, 43, 44, 45, 46, 47, 48, 49, 50, 51, 52, 53, 54, 55, 56, 57, 58, 59, 60, 61, 62, 63, 64], []⟩), (7, ⟨8, [], [(15, [.row (.int .u64)])], [7, 8, 9, 22, 23, 24, 25, 26, 27, 28, 29, 30, 31, 32, 33, 34, 35, 36, 37, 38, 39, 40, 41, 42, 43, 44, 45, 46, 47, 48, 49, 50, 51, 52, 53, 54, 55, 56, 57, 58, 59, 60, 61, 62, 63, 64], []⟩), (9, ⟨10, [(7, false, [.d (.int .u64)])], [(15, [.row (.int .u64)])], [8, 9, 22, 23, 24, 25, 26, 27, 28, 29, 30, 31, 32, 33, 34, 35, 36, 37, 38, 39, 40, 41, 42, 43, 44, 45, 46, 47, 48, 49, 50, 51, 52, 53, 54], []⟩), (11, ⟨12, [(7, false, [.d (.int .u64)]), (8, false, [.d (.int .i64)])], [(15, [.row (.int .u64)])], [9, 22, 23, 24, 25, 26, 27, 28, 29, 30, 31, 32, 33, 34, 35, 36, 37, 38, 39, 40, 41, 42, 43, 44, 45, 46, 47, 48, 49, 50, 51, 52, 53, 54], []⟩)]
noncomputable def F_wlvref1_times_env : Env := ⟨Tryd.prog, [], [15]⟩
set_option maxRecDepth 100000 in
theorem F_wlvref1_times_text : pvFn F_wlvref1_times_env F_wlvref1_times_ann Tryd.f101 F_wlvref1_times_sig = F_wlvref1_times := by kernel_rfl
noncomputable def F_wlvref1_power_L5 (i2 : Int) (s : List Int × List Int × Int) : Option (((List Int) ⊕ (List Int)) ⊕ (List Int × List Int × Int)) :=
  let l3 := s.1; let l4 := s.2.1; let i5 := s.2.2
  cond (decide (i5 < i2))
  ((F_wlvref1_times l3 l4).bind fun l6 =>
    some (.inr (l6, l4, (IntKind.i64.wrap (i5 + 1)))))
  (some (.inl (.inr l3)))
noncomputable def F_wlvref1_power_J3 (s : List Int) : Option (List Int) :=
  let l7 := s
  some l7
noncomputable def F_wlvref1_power (i1 : Int) (i2 : Int) : Option (List Int) :=
  joinC (S := List Int) (R := List Int)
  (loopC (S := List Int × List Int × Int) (R := (List Int) ⊕ (List Int)) (F_wlvref1_power_L5 i2) (([1] : List Int), ([(bits .and .u64 i1 65535), (bits .and .u64 (Int.fdiv i1 (2 ^ 16)) 65535), (Int.fdiv i1 (2 ^ 32))] : List Int), 0))
  (F_wlvref1_power_J3)
def F_wlvref1_power_sig : Sig := ⟨[.v false [.d (.int .u64)], .v false [.d (.int .i64)]], [(false, [.d (.sl (.int .u64))])]⟩
def F_wlvref1_power_ann : List (Nat × Ann) := [(3, ⟨4, [(5, false, [.d (.sl (.int .u64))])], [], [7, 17, 18, 19, 20, 21, 22, 23, 24], []⟩), (5, ⟨6, [(5, false, [.d (.sl (.int .u64))]), (6, false, [.own 93 (.int .u64)]), (7, false, [.d (.int .i64)])], [], [17, 18, 19, 20, 21, 22, 23, 24], []⟩)]
noncomputable def F_wlvref1_power_env : Env := ⟨Tryd.prog, [(101, ⟨F_wlvref1_times_sig, ⟨F_wlvref1_times⟩⟩)], []⟩
set_option maxRecDepth 100000 in
theorem F_wlvref1_power_text : pvFn F_wlvref1_power_env F_wlvref1_power_ann Tryd.f90 F_wlvref1_power_sig = F_wlvref1_power := by kernel_rfl
noncomputable def F_wlvref1_root_L4 (i1 : Int) (i2 : Int) (s : Int × Int) : Option (((Int) ⊕ (Int)) ⊕ (Int × Int)) :=
  let i3 := s.1; let i4 := s.2
  cond (decide (i4 ≥ 0))
  (chk (decide (0 ≤ (IntKind.u64.wrap i4)))
    ((F_wlvref1_power (bits .or .u64 i3 (IntKind.u64.wrap (1 * 2 ^ (min ((IntKind.u64.wrap i4)).toNat 64)))) i2).bind fun l5 =>
      (F_wlvref1_below l5 i1 i2).bind fun b6 =>
      cond b6
      (some (.inr ((bits .or .u64 i3 (IntKind.u64.wrap (1 * 2 ^ (min ((IntKind.u64.wrap i4)).toNat 64)))), (IntKind.i64.wrap (i4 - 1)))))
      (some (.inr (i3, (IntKind.i64.wrap (i4 - 1)))))))
  (some (.inl (.inr i3)))
noncomputable def F_wlvref1_root_J2 (s : Int) : Option (Int) :=
  let i7 := s
  some (IntKind.u32.wrap i7)
noncomputable def F_wlvref1_root (i1 : Int) (i2 : Int) : Option (Int) :=
  joinC (S := Int) (R := Int)
  (loopC (S := Int × Int) (R := (Int) ⊕ (Int)) (F_wlvref1_root_L4 i1 i2) (0, 36))
  (F_wlvref1_root_J2)
def F_wlvref1_root_sig : Sig := ⟨[.v false [.d (.int .i64)], .v false [.d (.int .i64)]], [(false, [.d (.int .u32)])]⟩
def F_wlvref1_root_ann : List (Nat × Ann) := [(2, ⟨3, [(5, false, [.d (.int .u64)])], [], [6, 7, 8, 9, 10, 11, 12, 13, 14, 15, 16, 17, 18, 19, 20, 21, 22, 23], []⟩), (4, ⟨5, [(5, false, [.d (.int .u64)]), (6, false, [.d (.int .i64)])], [], [7, 8, 9, 10, 11, 12, 13, 14, 15, 16, 17, 18, 19, 20, 21, 22, 23], []⟩)]
noncomputable def F_wlvref1_root_env : Env := ⟨Tryd.prog, [(89, ⟨F_wlvref1_below_sig, ⟨F_wlvref1_below⟩⟩), (90, ⟨F_wlvref1_power_sig, ⟨F_wlvref1_power⟩⟩)], []⟩
set_option maxRecDepth 100000 in
theorem F_wlvref1_root_text : pvFn F_wlvref1_root_env F_wlvref1_root_ann Tryd.f75 F_wlvref1_root_sig = F_wlvref1_root := by kernel_rfl
noncomputable def F_wlvref1_turn (i1 : Int) (i2 : Int) : Option (Int) :=
  chk (decide (0 ≤ (IntKind.u64.wrap i2)))
  (chk (decide (0 ≤ (IntKind.u64.wrap (IntKind.i64.wrap (32 - i2)))))
    (some (bits .or .u32 (Int.fdiv i1 (2 ^ (min ((IntKind.u64.wrap i2)).toNat 32))) (IntKind.u32.wrap (i1 * 2 ^ (min ((IntKind.u64.wrap (IntKind.i64.wrap (32 - i2)))).toNat 32))))))
def F_wlvref1_turn_sig : Sig := ⟨[.v false [.d (.int .u32)], .v false [.d (.int .i64)]], [(false, [.d (.int .u32)])]⟩
def F_wlvref1_turn_ann : List (Nat × Ann) := []
noncomputable def F_wlvref1_turn_env : Env := ⟨Tryd.prog, [], []⟩
set_option maxRecDepth 100000 in
theorem F_wlvref1_turn_text : pvFn F_wlvref1_turn_env F_wlvref1_turn_ann Tryd.f91 F_wlvref1_turn_sig = F_wlvref1_turn := by kernel_rfl
noncomputable def F_wlvref1_block_L4 (l3 : List Int) (s : Int × List Int × List Int × List Int × List Int) : Option (((List Int) ⊕ (List Int × List Int × List Int × List Int)) ⊕ (Int × List Int × List Int × List Int × List Int)) :=
  let i4 := s.1; let a5 := s.2.1; let a6 := s.2.2.1; let a7 := s.2.2.2.1; let a8 := s.2.2.2.2
  cond (decide (i4 < 64))
  (cond (decide (i4 < 16))
    ((getI l3 (IntKind.i64.wrap (4 * i4))).bind fun i9 =>
      (getI l3 (IntKind.i64.wrap ((IntKind.i64.wrap (4 * i4)) + 1))).bind fun i10 =>
      (getI l3 (IntKind.i64.wrap ((IntKind.i64.wrap (4 * i4)) + 2))).bind fun i11 =>
      (getI l3 (IntKind.i64.wrap ((IntKind.i64.wrap (4 * i4)) + 3))).bind fun i12 =>
      chk (decide (0 ≤ i4) && decide (i4 < (64 : Int)))
      (chk (decide (i4 < (64 : Int)))
        (some (.inr ((IntKind.i64.wrap (i4 + 1)), a5, a6, a7, (a8.set (i4).toNat (bits .or .u32 (bits .or .u32 (bits .or .u32 (IntKind.u32.wrap ((IntKind.u32.wrap i9) * 2 ^ 24)) (IntKind.u32.wrap ((IntKind.u32.wrap i10) * 2 ^ 16))) (IntKind.u32.wrap ((IntKind.u32.wrap i11) * 2 ^ 8))) (IntKind.u32.wrap i12))))))))
    (chk (decide (0 ≤ (IntKind.i64.wrap (i4 - 15))) && decide ((IntKind.i64.wrap (i4 - 15)) < (64 : Int)))
      ((getI a8 (IntKind.i64.wrap (i4 - 15))).bind fun i13 =>
        chk (decide (0 ≤ (IntKind.i64.wrap (i4 - 2))) && decide ((IntKind.i64.wrap (i4 - 2)) < (64 : Int)))
        ((getI a8 (IntKind.i64.wrap (i4 - 2))).bind fun i14 =>
          chk (decide (0 ≤ (IntKind.i64.wrap (i4 - 16))) && decide ((IntKind.i64.wrap (i4 - 16)) < (64 : Int)))
          ((getI a8 (IntKind.i64.wrap (i4 - 16))).bind fun i15 =>
            (F_wlvref1_turn i13 7).bind fun i16 =>
            (F_wlvref1_turn i13 18).bind fun i17 =>
            chk (decide (0 ≤ (IntKind.i64.wrap (i4 - 7))) && decide ((IntKind.i64.wrap (i4 - 7)) < (64 : Int)))
            ((getI a8 (IntKind.i64.wrap (i4 - 7))).bind fun i18 =>
              (F_wlvref1_turn i14 17).bind fun i19 =>
              (F_wlvref1_turn i14 19).bind fun i20 =>
              chk (decide (0 ≤ i4) && decide (i4 < (64 : Int)))
              (chk (decide (i4 < (64 : Int)))
                (some (.inr ((IntKind.i64.wrap (i4 + 1)), a5, a6, a7, (a8.set (i4).toNat (IntKind.u32.wrap ((IntKind.u32.wrap ((IntKind.u32.wrap (i15 + (bits .xor .u32 (bits .xor .u32 i16 i17) (Int.fdiv i13 (2 ^ 3))))) + i18)) + (bits .xor .u32 (bits .xor .u32 i19 i20) (Int.fdiv i14 (2 ^ 10))))))))))))))))
  (some (.inl (.inr (a5, a6, a7, a8))))
noncomputable def F_wlvref1_block_L15 (s : Int × List Int × List Int × List Int × List Int × List Int) : Option (((List Int) ⊕ (List Int × List Int × List Int)) ⊕ (Int × List Int × List Int × List Int × List Int × List Int)) :=
  let i25 := s.1; let a26 := s.2.1; let a27 := s.2.2.1; let a28 := s.2.2.2.1; let a29 := s.2.2.2.2.1; let a30 := s.2.2.2.2.2
  cond (decide (i25 < 64))
  ((getI a30 (0 : Int)).bind fun i31 =>
    (getI a30 (4 : Int)).bind fun i32 =>
    (getI a30 (7 : Int)).bind fun i33 =>
    (F_wlvref1_turn i32 6).bind fun i34 =>
    (F_wlvref1_turn i32 11).bind fun i35 =>
    (F_wlvref1_turn i32 25).bind fun i36 =>
    (getI a30 (5 : Int)).bind fun i37 =>
    (getI a30 (6 : Int)).bind fun i38 =>
    chk (decide (0 ≤ i25) && decide (i25 < (64 : Int)))
    ((getI a27 i25).bind fun i39 =>
      chk (decide (0 ≤ i25) && decide (i25 < (64 : Int)))
      ((getI a29 i25).bind fun i40 =>
        (F_wlvref1_turn i31 2).bind fun i41 =>
        (F_wlvref1_turn i31 13).bind fun i42 =>
        (F_wlvref1_turn i31 22).bind fun i43 =>
        (getI a30 (1 : Int)).bind fun i44 =>
        (getI a30 (2 : Int)).bind fun i45 =>
        (getI a30 (1 : Int)).bind fun i46 =>
        (getI a30 (2 : Int)).bind fun i47 =>
        (getI a30 (1 : Int)).bind fun i48 =>
        (getI a30 (2 : Int)).bind fun i49 =>
        (getI a30 (3 : Int)).bind fun i50 =>
        (getI a30 (5 : Int)).bind fun i51 =>
        (getI a30 (6 : Int)).bind fun i52 =>
        some (.inr ((IntKind.i64.wrap (i25 + 1)), a26, a27, a28, a29, [(IntKind.u32.wrap ((IntKind.u32.wrap ((IntKind.u32.wrap ((IntKind.u32.wrap ((IntKind.u32.wrap (i33 + (bits .xor .u32 (bits .xor .u32 i34 i35) i36))) + (bits .xor .u32 (bits .and .u32 i32 i37) (bits .and .u32 (bits .xor .u32 4294967295 i32) i38)))) + i39)) + i40)) + (IntKind.u32.wrap ((bits .xor .u32 (bits .xor .u32 i41 i42) i43) + (bits .xor .u32 (bits .xor .u32 (bits .and .u32 i31 i44) (bits .and .u32 i31 i45)) (bits .and .u32 i46 i47)))))), i31, i48, i49, (IntKind.u32.wrap (i50 + (IntKind.u32.wrap ((IntKind.u32.wrap ((IntKind.u32.wrap ((IntKind.u32.wrap (i33 + (bits .xor .u32 (bits .xor .u32 i34 i35) i36))) + (bits .xor .u32 (bits .and .u32 i32 i37) (bits .and .u32 (bits .xor .u32 4294967295 i32) i38)))) + i39)) + i40)))), i32, i51, i52])))))
  (some (.inl (.inr (a26, a28, a30))))
noncomputable def F_wlvref1_block_L24 (s : Int × List Int × List Int × List Int) : Option (((List Int) ⊕ (List Int × List Int)) ⊕ (Int × List Int × List Int × List Int)) :=
  let i56 := s.1; let a57 := s.2.1; let a58 := s.2.2.1; let a59 := s.2.2.2
  cond (decide (i56 < 8))
  (chk (decide (0 ≤ i56) && decide (i56 < (8 : Int)))
    ((getI a57 i56).bind fun i60 =>
      chk (decide (0 ≤ i56) && decide (i56 < (8 : Int)))
      ((getI a59 i56).bind fun i61 =>
        chk (decide (0 ≤ i56) && decide (i56 < (8 : Int)))
        (chk (decide (i56 < (8 : Int)))
          (some (.inr ((IntKind.i64.wrap (i56 + 1)), (a57.set (i56).toNat (IntKind.u32.wrap (i60 + i61))), a58, a59)))))))
  (some (.inl (.inr (a57, a58))))
noncomputable def F_wlvref1_block_J22 (s : List Int × List Int) : Option (List Int) :=
  let a62 := s.1; let a63 := s.2
  some a62
noncomputable def F_wlvref1_block_J13 (s : List Int × List Int × List Int) : Option (List Int) :=
  let a53 := s.1; let a54 := s.2.1; let a55 := s.2.2
  joinC (S := List Int × List Int) (R := List Int)
  (loopC (S := Int × List Int × List Int × List Int) (R := (List Int) ⊕ (List Int × List Int)) (F_wlvref1_block_L24) (0, a53, a54, a55))
  (F_wlvref1_block_J22)
noncomputable def F_wlvref1_block_J2 (s : List Int × List Int × List Int × List Int) : Option (List Int) :=
  let a21 := s.1; let a22 := s.2.1; let a23 := s.2.2.1; let a24 := s.2.2.2
  joinC (S := List Int × List Int × List Int) (R := List Int)
  (loopC (S := Int × List Int × List Int × List Int × List Int × List Int) (R := (List Int) ⊕ (List Int × List Int × List Int)) (F_wlvref1_block_L15) (0, a21, a22, a23, a24, a21))
  (F_wlvref1_block_J13)
noncomputable def F_wlvref1_block (a1 : List Int) (a2 : List Int) (l3 : List Int) : Option (List Int) :=
  joinC (S := List Int × List Int × List Int × List Int) (R := List Int)
  (loopC (S := Int × List Int × List Int × List Int × List Int) (R := (List Int) ⊕ (List Int × List Int × List Int × List Int)) (F_wlvref1_block_L4 l3) (0, a1, a2, (List.replicate 8 0), (List.replicate 64 0)))
  (F_wlvref1_block_J2)
def F_wlvref1_block_sig : Sig := ⟨[.v true [.d (.arr 8 (.int .u32))], .v true [.d (.arr 64 (.int .u32))], .v false [.d (.sl (.int .u8))]], [(true, [.d (.arr 8 (.int .u32))])]⟩
def F_wlvref1_block_ann : List (Nat × Ann) := [(2, ⟨3, [], [(3, [.d (.arr 8 (.int .u32))]), (4, [.d (.arr 64 (.int .u32))]), (6, [.d (.arr 8 (.int .u32))]), (7, [.d (.arr 64 (.int .u32))])], [8, 9, 10, 18, 19, 20, 21, 22, 23, 24, 25, 26, 27, 28, 29, 30, 31, 32, 33, 34, 35, 36, 37, 38, 39, 40, 41, 42, 43, 44, 45, 46, 47, 48, 49, 50, 51, 52, 53, 54, 55, 56, 57, 58, 59, 60, 61, 62, 63, 64, 65, 66, 67, 68, 69, 70, 71, 72, 73, 74, 75, 76, 77, 78, 79, 80, 81, 82, 83, 84, 85, 86, 87, 88, 89, 90, 91, 92, 93, 94, 95], []⟩), (4, ⟨5, [(8, false, [.d (.int .i64)])], [(3, [.d (.arr 8 (.int .u32))]), (4, [.d (.arr 64 (.int .u32))]), (6, [.d (.arr 8 (.int .u32))]), (7, [.d (.arr 64 (.int .u32))])], [9, 10, 18, 19, 20, 21, 22, 23, 24, 25, 26, 27, 28, 29, 30, 31, 32, 33, 34, 35, 36, 37, 38, 39, 40, 41, 42, 43, 44, 45, 46, 47, 48, 49, 50, 51, 52, 53, 54, 55, 56, 57, 58, 59, 60, 61, 62, 63, 64, 65, 66, 67, 68, 69, 70, 71, 72, 73, 74, 75, 76, 77, 78, 79, 80, 81, 82, 83, 84, 85, 86, 87, 88, 89, 90, 91, 92, 93, 94, 95], []⟩), (13, ⟨14, [], [(3, [.d (.arr 8 (.int .u32))]), (6, [.d (.arr 8 (.int .u32))]), (11, [.d (.arr 8 (.int .u32))])], [12, 13, 14, 15, 16, 97, 98, 99, 100, 101, 102, 103, 104, 105, 106, 107, 108, 109, 110, 111, 112, 113, 114, 115, 116, 117, 118, 119, 120, 121, 122, 123, 124, 125, 126, 127, 128, 129, 130, 131, 132, 133, 134, 135, 136, 137, 138, 139, 140, 141, 142, 143, 144, 145, 146, 147, 148, 149, 150, 151, 152, 153, 154, 155, 156, 157, 158, 159, 160, 161, 162, 163, 164, 165, 166, 167, 168, 169, 170, 171, 172, 173, 174, 175, 176], []⟩), (15, ⟨16, [(12, false, [.d (.int .i64)])], [(3, [.d (.arr 8 (.int .u32))]), (4, [.d (.arr 64 (.int .u32))]), (6, [.d (.arr 8 (.int .u32))]), (7, [.d (.arr 64 (.int .u32))]), (11, [.d (.arr 8 (.int .u32))])], [13, 14, 15, 16, 97, 98, 99, 100, 101, 102, 103, 104, 105, 106, 107, 108, 109, 110, 111, 112, 113, 114, 115, 116, 117, 118, 119, 120, 121, 122, 123, 124, 125, 126, 127, 128, 129, 130, 131, 132, 133, 134, 135, 136, 137, 138, 139, 140, 141, 142, 143, 144, 145, 146, 147, 148, 149, 150, 151, 152, 153, 154, 155, 156, 157, 158, 159, 160, 161, 162, 163, 164, 165, 166, 167, 168, 169, 170, 171, 172, 173, 174, 175, 176], []⟩), (22, ⟨23, [], [(3, [.d (.arr 8 (.int .u32))]), (6, [.d (.arr 8 (.int .u32))])], [17, 177, 178, 179, 180, 181, 182, 183, 184, 185, 186, 187, 188], []⟩), (24, ⟨25, [(17, false, [.d (.int .i64)])], [(3, [.d (.arr 8 (.int .u32))]), (6, [.d (.arr 8 (.int .u32))]), (11, [.d (.arr 8 (.int .u32))])], [177, 178, 179, 180, 181, 182, 183, 184, 185, 186, 187, 188], []⟩)]
noncomputable def F_wlvref1_block_env : Env := ⟨Tryd.prog, [(91, ⟨F_wlvref1_turn_sig, ⟨F_wlvref1_turn⟩⟩)], []⟩
set_option maxRecDepth 100000 in
theorem F_wlvref1_block_text : pvFn F_wlvref1_block_env F_wlvref1_block_ann Tryd.f76 F_wlvref1_block_sig = F_wlvref1_block := by kernel_rfl
noncomputable def F_wlvref1_One_L6 (s : List Int × Int × List Int × List Int) : Option (((List Int) ⊕ (List Int × List Int × List Int)) ⊕ (List Int × Int × List Int × List Int)) :=
  let l3 := s.1; let i4 := s.2.1; let a5 := s.2.2.1; let a6 := s.2.2.2
  cond (decide (i4 < 64))
  ((getI l3 i4).bind fun i7 =>
    (F_wlvref1_root i7 3).bind fun i8 =>
    chk (decide (0 ≤ i4) && decide (i4 < (64 : Int)))
    (chk (decide (i4 < (64 : Int)))
      (some (.inr (l3, (IntKind.i64.wrap (i4 + 1)), (a5.set (i4).toNat i8), a6)))))
  (some (.inl (.inr (l3, a5, a6))))
noncomputable def F_wlvref1_One_L12 (s : List Int × Int × List Int × List Int) : Option (((List Int) ⊕ (List Int × List Int)) ⊕ (List Int × Int × List Int × List Int)) :=
  let l12 := s.1; let i13 := s.2.1; let a14 := s.2.2.1; let a15 := s.2.2.2
  cond (decide (i13 < 8))
  ((getI l12 i13).bind fun i16 =>
    (F_wlvref1_root i16 2).bind fun i17 =>
    chk (decide (0 ≤ i13) && decide (i13 < (8 : Int)))
    (chk (decide (i13 < (8 : Int)))
      (some (.inr (l12, (IntKind.i64.wrap (i13 + 1)), a14, (a15.set (i13).toNat i17))))))
  (some (.inl (.inr (a14, a15))))
noncomputable def F_wlvref1_One_L18 (s : List Int × List Int × List Int) : Option (((List Int) ⊕ (List Int × List Int × List Int)) ⊕ (List Int × List Int × List Int)) :=
  let l20 := s.1; let a21 := s.2.1; let a22 := s.2.2
  cond ((Int.tmod (l20.length : Int) 64) != 56)
  (chk (decide ((l20.length + ([0] : List Int).length) * 1 ≤ 140737488355328) && decide (l20.length + ([0] : List Int).length ≤ maxLen))
    (some (.inr ((l20 ++ ([0] : List Int)), a21, a22))))
  (some (.inl (.inr (l20, a21, a22))))
noncomputable def F_wlvref1_One_L23 (l1 : List Int) (s : List Int × Int × List Int × List Int) : Option (((List Int) ⊕ (List Int × List Int × List Int)) ⊕ (List Int × Int × List Int × List Int)) :=
  let l26 := s.1; let i27 := s.2.1; let a28 := s.2.2.1; let a29 := s.2.2.2
  cond (decide (i27 ≥ 0))
  (chk (decide (0 ≤ (IntKind.u64.wrap (IntKind.i64.wrap (8 * i27)))))
    (chk (decide ((l26.length + ([(IntKind.u8.wrap (Int.fdiv (IntKind.u64.wrap ((IntKind.u64.wrap (l1.length : Int)) * 8)) (2 ^ (min ((IntKind.u64.wrap (IntKind.i64.wrap (8 * i27)))).toNat 64))))] : List Int).length) * 1 ≤ 140737488355328) && decide (l26.length + ([(IntKind.u8.wrap (Int.fdiv (IntKind.u64.wrap ((IntKind.u64.wrap (l1.length : Int)) * 8)) (2 ^ (min ((IntKind.u64.wrap (IntKind.i64.wrap (8 * i27)))).toNat 64))))] : List Int).length ≤ maxLen))
      (some (.inr ((l26 ++ ([(IntKind.u8.wrap (Int.fdiv (IntKind.u64.wrap ((IntKind.u64.wrap (l1.length : Int)) * 8)) (2 ^ (min ((IntKind.u64.wrap (IntKind.i64.wrap (8 * i27)))).toNat 64))))] : List Int)), (IntKind.i64.wrap (i27 - 1)), a28, a29)))))
  (some (.inl (.inr (l26, a28, a29))))
noncomputable def F_wlvref1_One_L29 (s : List Int × Int × List Int × List Int) : Option (((List Int) ⊕ (List Int)) ⊕ (List Int × Int × List Int × List Int)) :=
  let l33 := s.1; let i34 := s.2.1; let a35 := s.2.2.1; let a36 := s.2.2.2
  cond (decide (i34 < (l33.length : Int)))
  ((cutI l33 i34 (IntKind.i64.wrap (i34 + 64))).bind fun l37 =>
    (F_wlvref1_block a36 a35 l37).bind fun a38 =>
    some (.inr (l33, (IntKind.i64.wrap (i34 + 64)), a35, a38)))
  (some (.inl (.inr a36)))
noncomputable def F_wlvref1_One_L36 (s : List Int × Int × List Int) : Option (((List Int) ⊕ (List Int)) ⊕ (List Int × Int × List Int)) :=
  let l40 := s.1; let i41 := s.2.1; let a42 := s.2.2
  cond (decide (i41 < 8))
  (chk (decide (0 ≤ i41) && decide (i41 < (8 : Int)))
    ((getI a42 i41).bind fun i43 =>
      chk (decide (0 ≤ i41) && decide (i41 < (8 : Int)))
      ((getI a42 i41).bind fun i44 =>
        chk (decide (0 ≤ i41) && decide (i41 < (8 : Int)))
        ((getI a42 i41).bind fun i45 =>
          chk (decide (0 ≤ i41) && decide (i41 < (8 : Int)))
          ((getI a42 i41).bind fun i46 =>
            chk (decide ((l40.length + ([(IntKind.u8.wrap (Int.fdiv i43 (2 ^ 24))), (IntKind.u8.wrap (Int.fdiv i44 (2 ^ 16))), (IntKind.u8.wrap (Int.fdiv i45 (2 ^ 8))), (IntKind.u8.wrap i46)] : List Int).length) * 1 ≤ 140737488355328) && decide (l40.length + ([(IntKind.u8.wrap (Int.fdiv i43 (2 ^ 24))), (IntKind.u8.wrap (Int.fdiv i44 (2 ^ 16))), (IntKind.u8.wrap (Int.fdiv i45 (2 ^ 8))), (IntKind.u8.wrap i46)] : List Int).length ≤ maxLen))
            (some (.inr ((l40 ++ ([(IntKind.u8.wrap (Int.fdiv i43 (2 ^ 24))), (IntKind.u8.wrap (Int.fdiv i44 (2 ^ 16))), (IntKind.u8.wrap (Int.fdiv i45 (2 ^ 8))), (IntKind.u8.wrap i46)] : List Int)), (IntKind.i64.wrap (i41 + 1)), a42))))))))
  (some (.inl (.inr l40)))
noncomputable def F_wlvref1_One_J34 (s : List Int) : Option (List Int) :=
  let l47 := s
  some l47
noncomputable def F_wlvref1_One_J27 (s : List Int) : Option (List Int) :=
  let a39 := s
  joinC (S := List Int) (R := List Int)
  (loopC (S := List Int × Int × List Int) (R := (List Int) ⊕ (List Int)) (F_wlvref1_One_L36) (([] : List Int), 0, a39))
  (F_wlvref1_One_J34)
noncomputable def F_wlvref1_One_J21 (s : List Int × List Int × List Int) : Option (List Int) :=
  let l30 := s.1; let a31 := s.2.1; let a32 := s.2.2
  joinC (S := List Int) (R := List Int)
  (loopC (S := List Int × Int × List Int × List Int) (R := (List Int) ⊕ (List Int)) (F_wlvref1_One_L29) (l30, 0, a31, a32))
  (F_wlvref1_One_J27)
noncomputable def F_wlvref1_One_J17 (l1 : List Int) (s : List Int × List Int × List Int) : Option (List Int) :=
  let l23 := s.1; let a24 := s.2.1; let a25 := s.2.2
  joinC (S := List Int × List Int × List Int) (R := List Int)
  (loopC (S := List Int × Int × List Int × List Int) (R := (List Int) ⊕ (List Int × List Int × List Int)) (F_wlvref1_One_L23 l1) (l23, 7, a24, a25))
  (F_wlvref1_One_J21)
noncomputable def F_wlvref1_One_J10 (l1 : List Int) (s : List Int × List Int) : Option (List Int) :=
  let a18 := s.1; let a19 := s.2
  chk (decide ((([] : List Int).length + l1.length) * 1 ≤ 140737488355328) && decide (([] : List Int).length + l1.length ≤ maxLen))
  (chk (decide (((([] : List Int) ++ l1).length + ([128] : List Int).length) * 1 ≤ 140737488355328) && decide ((([] : List Int) ++ l1).length + ([128] : List Int).length ≤ maxLen))
    (joinC (S := List Int × List Int × List Int) (R := List Int)
      (loopC (S := List Int × List Int × List Int) (R := (List Int) ⊕ (List Int × List Int × List Int)) (F_wlvref1_One_L18) (((([] : List Int) ++ l1) ++ ([128] : List Int)), a18, a19))
      (F_wlvref1_One_J17 l1)))
noncomputable def F_wlvref1_One_J4 (l1 : List Int) (s : List Int × List Int × List Int) : Option (List Int) :=
  let l9 := s.1; let a10 := s.2.1; let a11 := s.2.2
  joinC (S := List Int × List Int) (R := List Int)
  (loopC (S := List Int × Int × List Int × List Int) (R := (List Int) ⊕ (List Int × List Int)) (F_wlvref1_One_L12) (l9, 0, a10, a11))
  (F_wlvref1_One_J10 l1)
noncomputable def F_wlvref1_One (l1 : List Int) : Option (List Int) :=
  (F_wlvref1_primes 64).bind fun l2 =>
  joinC (S := List Int × List Int × List Int) (R := List Int)
  (loopC (S := List Int × Int × List Int × List Int) (R := (List Int) ⊕ (List Int × List Int × List Int)) (F_wlvref1_One_L6) (l2, 0, (List.replicate 64 0), (List.replicate 8 0)))
  (F_wlvref1_One_J4 l1)
def F_wlvref1_One_sig : Sig := ⟨[.v false [.d (.sl (.int .u8))]], [(false, [.own 5 (.int .u8)])]⟩
def F_wlvref1_One_ann : List (Nat × Ann) := [(4, ⟨5, [(3, false, [.own 3 (.int .i64)])], [(4, [.d (.arr 64 (.int .u32))]), (5, [.d (.arr 8 (.int .u32))])], [6, 14, 15, 16, 17, 18, 19, 20, 21, 22, 23, 24], []⟩), (6, ⟨7, [(3, false, [.own 3 (.int .i64)]), (6, false, [.d (.int .i64)])], [(4, [.d (.arr 64 (.int .u32))]), (5, [.d (.arr 8 (.int .u32))])], [14, 15, 16, 17, 18, 19, 20, 21, 22, 23, 24], []⟩), (10, ⟨11, [], [(4, [.d (.arr 64 (.int .u32))]), (5, [.d (.arr 8 (.int .u32))])], [7, 25, 26, 27, 28, 29, 30, 31, 32, 33, 34, 35], []⟩), (12, ⟨13, [(3, false, [.own 3 (.int .i64)]), (7, false, [.d (.int .i64)])], [(4, [.d (.arr 64 (.int .u32))]), (5, [.d (.arr 8 (.int .u32))])], [25, 26, 27, 28, 29, 30, 31, 32, 33, 34, 35], []⟩), (17, ⟨18, [(8, false, [.own 5 (.int .u8)])], [(4, [.d (.arr 64 (.int .u32))]), (5, [.d (.arr 8 (.int .u32))])], [41, 42, 43, 44, 45, 46, 47], []⟩), (18, ⟨19, [(8, false, [.own 5 (.int .u8)])], [(4, [.d (.arr 64 (.int .u32))]), (5, [.d (.arr 8 (.int .u32))])], [41, 42, 43, 44, 45, 46, 47], []⟩), (21, ⟨22, [(8, false, [.own 5 (.int .u8)])], [(4, [.d (.arr 64 (.int .u32))]), (5, [.d (.arr 8 (.int .u32))])], [9, 48, 49, 50, 51, 52, 53, 54, 55, 56, 57, 58, 59, 60, 61, 62, 63], []⟩), (23, ⟨24, [(8, false, [.own 5 (.int .u8)]), (9, false, [.d (.int .i64)])], [(4, [.d (.arr 64 (.int .u32))]), (5, [.d (.arr 8 (.int .u32))])], [48, 49, 50, 51, 52, 53, 54, 55, 56, 57, 58, 59, 60, 61, 62, 63], []⟩), (27, ⟨28, [], [(5, [.d (.arr 8 (.int .u32))])], [10, 64, 65, 66, 67, 68, 69, 70, 71, 72, 73, 74, 75, 76, 77], []⟩), (29, ⟨30, [(8, false, [.own 5 (.int .u8)]), (10, false, [.d (.int .i64)])], [(4, [.d (.arr 64 (.int .u32))]), (5, [.d (.arr 8 (.int .u32))])], [64, 65, 66, 67, 68, 69, 70, 71, 72, 73, 74, 75, 76, 77], []⟩), (34, ⟨35, [(11, false, [.own 5 (.int .u8)])], [], [12, 78, 79, 80, 81, 82, 83, 84, 85, 86, 87, 88, 89, 90, 91, 92, 93, 94, 95, 96, 97, 98, 99, 100, 101, 102, 103], []⟩), (36, ⟨37, [(11, false, [.own 5 (.int .u8)]), (12, false, [.d (.int .i64)])], [(5, [.d (.arr 8 (.int .u32))])], [78, 79, 80, 81, 82, 83, 84, 85, 86, 87, 88, 89, 90, 91, 92, 93, 94, 95, 96, 97, 98, 99, 100, 101, 102, 103], []⟩)]
noncomputable def F_wlvref1_One_env : Env := ⟨Tryd.prog, [(74, ⟨F_wlvref1_primes_sig, ⟨F_wlvref1_primes⟩⟩), (75, ⟨F_wlvref1_root_sig, ⟨F_wlvref1_root⟩⟩), (76, ⟨F_wlvref1_block_sig, ⟨F_wlvref1_block⟩⟩)], []⟩
set_option maxRecDepth 100000 in
theorem F_wlvref1_One_text : pvFn F_wlvref1_One_env F_wlvref1_One_ann Tryd.f55 F_wlvref1_One_sig = F_wlvref1_One := by kernel_rfl
noncomputable def F_wlvref1_Salted (l1 : List Int) (l2 : List Int) : Option (List Int) :=
  chk (decide ((([] : List Int).length + l1.length) * 1 ≤ 140737488355328) && decide (([] : List Int).length + l1.length ≤ maxLen))
  (chk (decide (((([] : List Int) ++ l1).length + ([0] : List Int).length) * 1 ≤ 140737488355328) && decide ((([] : List Int) ++ l1).length + ([0] : List Int).length ≤ maxLen))
    (chk (decide ((((([] : List Int) ++ l1) ++ ([0] : List Int)).length + l2.length) * 1 ≤ 140737488355328) && decide (((([] : List Int) ++ l1) ++ ([0] : List Int)).length + l2.length ≤ maxLen))
      ((F_wlvref1_One (((([] : List Int) ++ l1) ++ ([0] : List Int)) ++ l2)).bind fun l3 =>
        some l3)))
def F_wlvref1_Salted_sig : Sig := ⟨[.v false [.d (.sl (.int .u8))], .v false [.d (.sl (.int .u8))]], [(false, [.own 5 (.int .u8)])]⟩
def F_wlvref1_Salted_ann : List (Nat × Ann) := []
noncomputable def F_wlvref1_Salted_env : Env := ⟨Tryd.prog, [(55, ⟨F_wlvref1_One_sig, ⟨F_wlvref1_One⟩⟩)], []⟩
set_option maxRecDepth 100000 in
theorem F_wlvref1_Salted_text : pvFn F_wlvref1_Salted_env F_wlvref1_Salted_ann Tryd.f31 F_wlvref1_Salted_sig = F_wlvref1_Salted := by kernel_rfl
end Go.Proofs.YtgfmfgombmpodaaDoor

/- conf.Hex: by hand, over strings.Builder. -/
namespace Go.Proofs.YtgfmfgombmpodaaDoor
open Go.RowKit Go.Shelf Pv
set_option linter.unusedVariables false
def hexA : ByteArray := ⟨#[48, 49, 50, 51, 52, 53, 54, 55, 56, 57, 97, 98, 99, 100, 101, 102]⟩
theorem hexA_size : hexA.size = 16 := rfl
def hexs : List UInt8 := [48, 49, 50, 51, 52, 53, 54, 55, 56, 57, 97, 98, 99, 100, 101, 102]
theorem hex_at {q : Nat} (h : q < 16) : hexs.getD q 0 = hexA[q]'(by rw [hexA_size]; exact h) := by
  rw [List.getD_eq_getElem?_getD, List.getElem?_eq_getElem (show q < hexs.length from h)]
  rfl
def hex2 (x : Int) : List UInt8 := [hexs.getD (x / 16).toNat 0, hexs.getD (x % 16).toNat 0]
def hexK (l : List Int) : Nat → List UInt8
  | 0 => []
  | k + 1 => hexK l k ++ hex2 (l.getD k 0)
theorem hexK_len (l : List Int) : ∀ k, (hexK l k).length = 2 * k
  | 0 => rfl
  | k + 1 => by
    show (hexK l k ++ hex2 _).length = _
    rw [List.length_append, hexK_len l k]
    show 2 * k + 2 = _
    omega
theorem and15_f : ∀ q : Fin 256, bits BinOp.and IntKind.u8 (q.val : Int) 15 = (q.val : Int) % 16 := by decide +kernel
theorem and15 {x : Int} (h0 : 0 ≤ x) (h1 : x < 256) : bits BinOp.and IntKind.u8 x 15 = x % 16 := by
  have := and15_f ⟨x.toNat, by omega⟩
  simp only [show ((x.toNat : Nat) : Int) = x by omega] at this
  exact this
def hexB (l : List Int) : List UInt8 := hexK l l.length
set_option maxHeartbeats 4000000 in
set_option maxRecDepth 1000000 in
theorem hex_walk (l : List Int) (hl : ∀ x ∈ l, 0 ≤ x ∧ x < 256) (a : Option Addr) (n c : Nat) (hlen : l.length = n) (hn : n ≤ 1099511627776) (w : World) (hcells : ∀ i x, l[i]? = some x → ∃ ad, a = some ad ∧ w.cell? (ad.add i) = some (.int .u8 x)) :
    Calls Tryd.prog 28 #[.slice a n c] w fun e w' => e = .returned (.string ⟨(hexB l).toArray⟩) ∧ Below w.heap.size w w' := by
  go_enter Tryd.func28, Tryd.ntmps28
  go_wp2
  go_loopw [8] (fun v wr => ∃ (i : Nat), v = .int .i64 i ∧ i ≤ n ∧ Lib.IsBuilderF 70 5 w.heap.size w.heap.size (Lib.byteCells (hexK l i)) wr ∧ Below w.heap.size w wr) (fun i _ => n + 3 - (intOf i).toNat)
  case atStart =>
    refine ⟨0, rfl, by omega, Lib.IsBuilderF.of (Lib.fresh_isBuilder 70 5 w), (Below.refl _ w).alloc (Nat.le_refl _) _⟩
  case round =>
    obtain ⟨i, rfl, hk, hI, hb⟩ := hrel
    have hal := hexK_len l i
    obtain ⟨acc, hacc⟩ : ∃ acc, hexK l i = acc := ⟨_, rfl⟩
    rw [hacc] at hI hal
    obtain ⟨wo, rfl⟩ : ∃ wo : World, wo = wr := ⟨_, rfl⟩
    have hsz : w.heap.size ≤ wo.heap.size := hb.size
    by_cases hlt : i < n
    · obtain ⟨ad, rfl, hc0⟩ := hcells i _ (List.getElem?_eq_getElem (by omega))
      have hc := hb.cell (cell_lt hc0)
      rw [hc0] at hc
      obtain ⟨x, hx⟩ : ∃ x, l[i] = x := ⟨_, rfl⟩
      have hx01 := hl _ (List.getElem_mem (show i < l.length by omega))
      rw [hx] at hc hx01 hc0
      have hsuc : hexK l (i + 1) = acc ++ hex2 x := by
        show hexK l i ++ hex2 (l.getD i 0) = _
        rw [hacc, List.getD_eq_getElem?_getD, List.getElem?_eq_getElem (by omega), Option.getD_some, hx]
      obtain ⟨hx0, hx1⟩ := hx01
      clear hcells hl
      have hlb : (Lib.byteCells acc).length + 1 ≤ 140737488355328 := by rw [Lib.byteCells_length]; omega
      go_wp2_with (go_at_call 52; refine (wb_k w.heap.size w.heap.size _ _ _ hI hlb hsz).mono ?_)
      rintro e W1 ⟨rfl, h1, b1, k1⟩
      have hsz1 : w.heap.size ≤ W1.heap.size := (hb.trans b1).size
      have hc1 : W1.cell? (ad.add i) = some (Value.int IntKind.u8 x) := by
        rw [(hb.trans b1).cell (cell_lt hc0)]; exact hc0
      obtain ⟨L1, hL1⟩ : ∃ L1, (Lib.byteCells acc ++ [Value.int IntKind.u8 ((hexA[(x / 16).toNat]'(by rw [hexA_size]; omega)).toNat : Nat)]) = L1 := ⟨_, rfl⟩
      have h1 : Lib.BuilderAtF 70 5 w.heap.size w.heap.size (Value.pointer (some { block := w.heap.size, off := 0 })) L1 W1 := by rw [← hL1]; exact h1
      have hlb1 : L1.length + 1 ≤ 140737488355328 := by rw [← hL1, List.length_append, Lib.byteCells_length]; show _ + 1 + 1 ≤ _; omega
      have had := and15 hx0 hx1
      clear hI
      go_wp2_with (go_at_call 52; refine (wb_k w.heap.size w.heap.size _ _ _ (Or.inr h1) hlb1 hsz1).mono ?_)
      rintro e W2 ⟨rfl, h2, b2, k2⟩
      go_wp2
      refine ⟨⟨i + 1, ?relC, by omega, ?relD, (hb.trans b1).trans b2⟩, ?meaS⟩
      case relC => simp
      case relD =>
        have key : Lib.byteCells (hexK l (i + 1)) = L1 ++ [.int .u8 ((hexA[(x % 16).toNat]'(by rw [hexA_size]; omega)).toNat : Nat)] := by
          rw [hsuc, ← hL1, Lib.byteCells_append]
          unfold hex2
          rw [hex_at (show (x / 16).toNat < 16 by omega), hex_at (show (x % 16).toNat < 16 by omega), List.append_assoc]; rfl
        rw [key]
        exact Or.inr h2
      case meaS => simp [intOf]; omega
    · obtain rfl : i = n := by omega
      go_wp2_with (go_at_call 53; refine (Tryd.Builder_String_any_k w.heap.size w.heap.size acc _ hI (by omega)).mono ?_)
      rintro e W1 ⟨rfl, _, b1, _⟩
      go_wp2
      go_ret
      unfold hexB
      rw [hlen, hacc]
      exact ⟨rfl, hb.trans b1⟩
def F_conf_Hex_sig : Sig := ⟨[.v false [.d (.sl (.int .u8))]], [(false, [.d .str])]⟩
def F_conf_Hex (l : List Int) : Option (List Int) := cond (Nat.ble l.length 1099511627776) (some ((hexB l).map byteI)) none
theorem ent_hex (l : List Int) : (entrySt F_conf_Hex_sig [⟨.sl (.int .u8), l⟩]).map (fun st => st.φ 0) = some (.w false [.d (.sl (.int .u8)) l]) := rfl
theorem exit_hex (y : List Int) : ∃ st', exitSt F_conf_Hex_sig y = some st' ∧ st'.φ 0 = .w false [.d .str y] ∧ (∀ i, st'.φ (i + 1) = .dead) ∧ (∀ k, st'.L k = none) ∧ (∀ k, st'.O k = true → k = .zero) ∧ st'.kn = [] ∧ st'.fr = [] :=
  ⟨_, rfl, rfl, fun _ => rfl, fun k => by match k with | 0 => rfl | _ + 1 => rfl, fun k hk => by
    have hk : hasT [.zero] k = true := hk
    simpa using hasT_iff.1 hk, rfl, rfl⟩
theorem F_conf_Hex_sound {T : Tab} : SoundFn Tryd.prog T 28 F_conf_Hex_sig ⟨F_conf_Hex⟩ := by
  intro F g st xs y tmf w args _ hent happ hrel hw hn hsz htm
  obtain ⟨(l : List Int), xs', rfl, h2⟩ := appF_inv_c (ts := []) happ
  obtain ⟨rfl, h3⟩ := appF_inv_n h2
  have hφ : Option.map (fun st : PSt => st.φ 0) (some st) = _ := (congrArg _ hent).symm.trans (ent_hex l)
  have hφ : some (st.φ 0) = some _ := hφ
  injection hφ with hφ
  have h0 := hrel.slots 0
  rw [hφ, htm 0] at h0
  obtain ⟨a, n, c, e0, e1, e2, e3, e4, e5⟩ := rel_bytes h0
  have ha : args = #[.slice a n c] := by
    obtain ⟨al⟩ := args
    match al, hsz with
    | [v], _ =>
      have : v = .slice a n c := e0
      rw [this]
  subst ha
  have h3 : cond (Nat.ble l.length 1099511627776) (some ((hexB l).map byteI)) none = some y := h3
  cases hb : Nat.ble l.length 1099511627776 with
  | false => rw [hb] at h3; cases h3
  | true =>
    rw [hb] at h3
    have hy : (hexB l).map byteI = y := by injection h3
    have hle : l.length ≤ 1099511627776 := Nat.le_of_ble_eq_true hb
    obtain ⟨st', x1, x2, x3, x4, x5, x6, x7⟩ := exit_hex y
    refine (hex_walk l e4 a n c e1 (by rw [← e1]; exact hle) w e5).mono fun e w' ⟨he, hbel⟩ => ⟨[.string ⟨(hexB l).toArray⟩], _, st', he, rfl, x1, mrel_out (t := .str) (x := y) hrel hbel ⟨_, rfl, ?_, ?_⟩ x2 x3 x4 x5 x6 x7, fun k hk => ?_⟩
    · rw [← hy]
      show (hexB l).toArray.toList.map byteI = _
      rw [List.toList_toArray]
    · show (hexB l).toArray.size ≤ maxLen
      rw [List.size_toArray]
      unfold hexB
      rw [hexK_len]
      unfold maxLen
      omega
    · cases k with
      | zero => cases hk
      | succ k => cases k <;> cases hk
end Go.Proofs.YtgfmfgombmpodaaDoor

/- The functions of the program as Lean functions, written by a program of ours and held by the kernel. -/
namespace Go.Proofs.YtgfmfgombmpodaaDoor
open Pv
set_option linter.unusedVariables false
noncomputable def F_wlvlaw6_Few_L4 (l1 : List (List Int × List Int × Bool)) (s : Int × Int) : Option (((Bool) ⊕ (Int)) ⊕ (Int × Int)) :=
  let i2 := s.1; let i3 := s.2
  cond ((decide (i3 < (l1.length : Int))) && (decide (i3 < 200)))
  ((getI l1 i3).bind fun x4 =>
    (getI l1 i3).bind fun x5 =>
    some (.inr ((IntKind.i64.wrap ((IntKind.i64.wrap (i2 + (minI (x4.1.length : Int) 40001))) + (minI (x5.2.1.length : Int) 40001))), (IntKind.i64.wrap (i3 + 1)))))
  (some (.inl (.inr i2)))
noncomputable def F_wlvlaw6_Few_J2 (l1 : List (List Int × List Int × Bool)) (s : Int) : Option (Bool) :=
  let i6 := s
  some ((decide ((l1.length : Int) ≤ 200)) && (decide (i6 ≤ 40000)))
noncomputable def F_wlvlaw6_Few (l1 : List (List Int × List Int × Bool)) : Option (Bool) :=
  joinC (S := Int) (R := Bool)
  (loopC (S := Int × Int) (R := (Bool) ⊕ (Int)) (F_wlvlaw6_Few_L4 l1) (0, 0))
  (F_wlvlaw6_Few_J2 l1)
def F_wlvlaw6_Few_sig : Sig := ⟨[.v false [.d (.sl (.pr .str (.pr .str .bool)))]], [(false, [.d .bool])]⟩
def F_wlvlaw6_Few_ann : List (Nat × Ann) := [(2, ⟨3, [(3, false, [.d (.int .i64)])], [], [4, 5, 6, 7, 8, 9, 10, 11, 12, 13, 14, 15, 16, 17, 18, 19, 20, 21, 22, 23, 24, 25, 26, 27, 28, 29, 30, 31], []⟩), (4, ⟨5, [(3, false, [.d (.int .i64)]), (4, false, [.d (.int .i64)])], [], [5, 6, 7, 8, 9, 10, 11, 12, 13, 14, 15, 16, 17, 18, 19, 20, 21, 22, 23, 24, 25, 26, 27, 28, 29, 30, 31], []⟩)]
noncomputable def F_wlvlaw6_Few_env : Env := ⟨Tryd.prog, [], []⟩
set_option maxRecDepth 100000 in
theorem F_wlvlaw6_Few_text : pvFn F_wlvlaw6_Few_env F_wlvlaw6_Few_ann Tryd.f10 F_wlvlaw6_Few_sig = F_wlvlaw6_Few := by kernel_rfl
noncomputable def F_tale_words_L3 (l2 : List Int) (s : List Int × Int) : Option (((List Int) ⊕ (List Int)) ⊕ (List Int × Int)) :=
  let s3 := s.1; let i4 := s.2
  cond (decide (i4 < (l2.length : Int)))
  ((getI l2 i4).bind fun i5 =>
    (F_strconv_Itoa i5).bind fun s6 =>
    chk (Nat.ble (([32] : List Int).length + s6.length) maxLen)
    (chk (Nat.ble (s3.length + (([32] : List Int) ++ s6).length) maxLen)
      (some (.inr ((s3 ++ (([32] : List Int) ++ s6)), (IntKind.i64.wrap (i4 + 1)))))))
  (some (.inl (.inr s3)))
noncomputable def F_tale_words_J1 (s : List Int) : Option (List Int) :=
  let s7 := s
  some s7
noncomputable def F_tale_words (s1 : List Int) (l2 : List Int) : Option (List Int) :=
  joinC (S := List Int) (R := List Int)
  (loopC (S := List Int × Int) (R := (List Int) ⊕ (List Int)) (F_tale_words_L3 l2) (s1, 0))
  (F_tale_words_J1)
def F_tale_words_sig : Sig := ⟨[.v false [.d .str], .v false [.d (.sl (.int .i64))]], [(false, [.d .str])]⟩
def F_tale_words_ann : List (Nat × Ann) := [(1, ⟨2, [(0, false, [.d .str])], [], [6, 7, 8, 9, 10, 11, 12, 13, 14, 15, 16, 17, 18], []⟩), (3, ⟨4, [(0, false, [.d .str]), (9, false, [.d (.int .i64)])], [], [6, 10, 11, 12, 13, 14, 15, 16, 17, 18], []⟩)]
noncomputable def F_tale_words_env : Env := ⟨Tryd.prog, [(25, ⟨F_strconv_Itoa_sig, ⟨F_strconv_Itoa⟩⟩)], []⟩
set_option maxRecDepth 100000 in
theorem F_tale_words_text : pvFn F_tale_words_env F_tale_words_ann Tryd.f27 F_tale_words_sig = F_tale_words := by kernel_rfl
noncomputable def F_tale_Lines_L4 (i1 : Int) (i2 : Int) (i3 : Int) (i4 : Int) (s : List (List Int) × Int) : Option (((List (List Int)) ⊕ (List (List Int))) ⊕ (List (List Int) × Int)) :=
  let l5 := s.1; let i6 := s.2
  cond (decide (i6 < (minI (maxI i1 1) 16)))
  ((F_strconv_Itoa i6).bind fun s7 =>
    chk (Nat.ble (([117] : List Int).length + s7.length) maxLen)
    ((F_strconv_Itoa i6).bind fun s8 =>
      chk (Nat.ble (([119] : List Int).length + s8.length) maxLen)
      ((F_sha_Salted ([(IntKind.u8.wrap i6)] : List Int) (([119] : List Int) ++ s8)).bind fun l9 =>
        chk (Nat.ble (([117, 115, 101, 114, 32] : List Int).length + (([117] : List Int) ++ s7).length) maxLen)
        (chk (Nat.ble ((([117, 115, 101, 114, 32] : List Int) ++ (([117] : List Int) ++ s7)).length + ([32] : List Int).length) maxLen)
          ((F_conf_Hex ([(IntKind.u8.wrap i6)] : List Int)).bind fun s10 =>
            chk (Nat.ble (((([117, 115, 101, 114, 32] : List Int) ++ (([117] : List Int) ++ s7)) ++ ([32] : List Int)).length + s10.length) maxLen)
            (chk (Nat.ble ((((([117, 115, 101, 114, 32] : List Int) ++ (([117] : List Int) ++ s7)) ++ ([32] : List Int)) ++ s10).length + ([32] : List Int).length) maxLen)
              ((F_conf_Hex l9).bind fun s11 =>
                chk (Nat.ble (((((([117, 115, 101, 114, 32] : List Int) ++ (([117] : List Int) ++ s7)) ++ ([32] : List Int)) ++ s10) ++ ([32] : List Int)).length + s11.length) maxLen)
                ((F_tale_words (((((([117, 115, 101, 114, 32] : List Int) ++ (([117] : List Int) ++ s7)) ++ ([32] : List Int)) ++ s10) ++ ([32] : List Int)) ++ s11) ([i2, i3, i4] : List Int)).bind fun s12 =>
                  chk (Nat.ble (([100, 101, 110, 121, 32] : List Int).length + (([117] : List Int) ++ s7).length) maxLen)
                  (chk (Nat.ble ((([100, 101, 110, 121, 32] : List Int) ++ (([117] : List Int) ++ s7)).length + ([32, 98, 97, 100, 46, 101, 120, 97, 109, 112, 108, 101, 32, 42] : List Int).length) maxLen)
                    (chk (Nat.ble (([100, 101, 110, 121, 32] : List Int).length + (([117] : List Int) ++ s7).length) maxLen)
                      (chk (Nat.ble ((([100, 101, 110, 121, 32] : List Int) ++ (([117] : List Int) ++ s7)).length + ([32, 49, 48, 46, 48, 46, 48, 46, 48, 47, 56, 32, 42] : List Int).length) maxLen)
                        (chk (Nat.ble (([97, 108, 108, 111, 119, 32] : List Int).length + (([117] : List Int) ++ s7).length) maxLen)
                          (chk (Nat.ble ((([97, 108, 108, 111, 119, 32] : List Int) ++ (([117] : List Int) ++ s7)).length + ([32, 42, 32, 49, 45, 49, 48, 48, 48] : List Int).length) maxLen)
                            (chk (decide ((l5.length + ([s12, ((([100, 101, 110, 121, 32] : List Int) ++ (([117] : List Int) ++ s7)) ++ ([32, 98, 97, 100, 46, 101, 120, 97, 109, 112, 108, 101, 32, 42] : List Int)), ((([100, 101, 110, 121, 32] : List Int) ++ (([117] : List Int) ++ s7)) ++ ([32, 49, 48, 46, 48, 46, 48, 46, 48, 47, 56, 32, 42] : List Int)), ((([97, 108, 108, 111, 119, 32] : List Int) ++ (([117] : List Int) ++ s7)) ++ ([32, 42, 32, 49, 45, 49, 48, 48, 48] : List Int))] : List (List Int)).length) * 16 ≤ 140737488355328) && decide (l5.length + ([s12, ((([100, 101, 110, 121, 32] : List Int) ++ (([117] : List Int) ++ s7)) ++ ([32, 98, 97, 100, 46, 101, 120, 97, 109, 112, 108, 101, 32, 42] : List Int)), ((([100, 101, 110, 121, 32] : List Int) ++ (([117] : List Int) ++ s7)) ++ ([32, 49, 48, 46, 48, 46, 48, 46, 48, 47, 56, 32, 42] : List Int)), ((([97, 108, 108, 111, 119, 32] : List Int) ++ (([117] : List Int) ++ s7)) ++ ([32, 42, 32, 49, 45, 49, 48, 48, 48] : List Int))] : List (List Int)).length ≤ maxLen))
                              (some (.inr ((l5 ++ ([s12, ((([100, 101, 110, 121, 32] : List Int) ++ (([117] : List Int) ++ s7)) ++ ([32, 98, 97, 100, 46, 101, 120, 97, 109, 112, 108, 101, 32, 42] : List Int)), ((([100, 101, 110, 121, 32] : List Int) ++ (([117] : List Int) ++ s7)) ++ ([32, 49, 48, 46, 48, 46, 48, 46, 48, 47, 56, 32, 42] : List Int)), ((([97, 108, 108, 111, 119, 32] : List Int) ++ (([117] : List Int) ++ s7)) ++ ([32, 42, 32, 49, 45, 49, 48, 48, 48] : List Int))] : List (List Int))), (IntKind.i64.wrap (i6 + 1)))))))))))))))))))
  (some (.inl (.inr l5)))
noncomputable def F_tale_Lines_J2 (s : List (List Int)) : Option (List (List Int)) :=
  let l13 := s
  some l13
noncomputable def F_tale_Lines (i1 : Int) (i2 : Int) (i3 : Int) (i4 : Int) : Option (List (List Int)) :=
  joinC (S := List (List Int)) (R := List (List Int))
  (loopC (S := List (List Int) × Int) (R := (List (List Int)) ⊕ (List (List Int))) (F_tale_Lines_L4 i1 i2 i3 i4) (([([108, 105, 109, 105, 116, 32, 100, 105, 97, 108, 32, 53, 48] : List Int), ([108, 105, 109, 105, 116, 32, 105, 100, 108, 101, 32, 53, 48, 48] : List Int), ([108, 105, 109, 105, 116, 32, 108, 111, 103, 32, 54, 48] : List Int), ([108, 105, 109, 105, 116, 32, 98, 117, 102, 102, 101, 114, 32, 51, 48, 48] : List Int)] : List (List Int)), 0))
  (F_tale_Lines_J2)
def F_tale_Lines_sig : Sig := ⟨[.v false [.d (.int .i64)], .v false [.d (.int .i64)], .v false [.d (.int .i64)], .v false [.d (.int .i64)]], [(false, [.own 9 .str])]⟩
def F_tale_Lines_ann : List (Nat × Ann) := [(2, ⟨3, [(9, false, [.own 9 .str])], [], [10, 11, 12, 13, 14, 16, 17, 18, 19, 20, 21, 22, 23, 24, 25, 26, 27, 28, 29, 30, 31, 32, 33, 34, 35, 36, 37, 38, 39, 40, 41, 42, 43, 44, 45, 46, 47, 48, 49, 50, 51, 52, 53, 54, 55, 56, 57, 58, 59, 60, 61, 62], []⟩), (4, ⟨5, [(9, false, [.own 9 .str]), (19, false, [.d (.int .i64)])], [], [10, 11, 12, 13, 14, 20, 21, 22, 23, 24, 25, 26, 27, 28, 29, 30, 31, 32, 33, 34, 35, 36, 37, 38, 39, 40, 41, 42, 43, 44, 45, 46, 47, 48, 49, 50, 51, 52, 53, 54, 55, 56, 57, 58, 59, 60, 61, 62], []⟩)]
noncomputable def F_tale_Lines_env : Env := ⟨Tryd.prog, [(25, ⟨F_strconv_Itoa_sig, ⟨F_strconv_Itoa⟩⟩), (26, ⟨F_sha_Salted_sig, ⟨F_sha_Salted⟩⟩), (27, ⟨F_tale_words_sig, ⟨F_tale_words⟩⟩), (28, ⟨F_conf_Hex_sig, ⟨F_conf_Hex⟩⟩)], []⟩
set_option maxRecDepth 100000 in
theorem F_tale_Lines_text : pvFn F_tale_Lines_env F_tale_Lines_ann Tryd.f12 F_tale_Lines_sig = F_tale_Lines := by kernel_rfl
noncomputable def F_wlvref18_Hex_L4 (l1 : List Int) (s : List Int × Int) : Option (((List Int) ⊕ (List Int)) ⊕ (List Int × Int)) :=
  let l2 := s.1; let i3 := s.2
  cond (decide (i3 < (l1.length : Int)))
  ((getI l1 i3).bind fun i4 =>
    (getI ([48, 49, 50, 51, 52, 53, 54, 55, 56, 57, 97, 98, 99, 100, 101, 102] : List Int) (Int.fdiv i4 (2 ^ 4))).bind fun i5 =>
    (getI l1 i3).bind fun i6 =>
    (getI ([48, 49, 50, 51, 52, 53, 54, 55, 56, 57, 97, 98, 99, 100, 101, 102] : List Int) (bits .and .u8 i6 15)).bind fun i7 =>
    chk (decide ((l2.length + ([i5, i7] : List Int).length) * 1 ≤ 140737488355328) && decide (l2.length + ([i5, i7] : List Int).length ≤ maxLen))
    (some (.inr ((l2 ++ ([i5, i7] : List Int)), (IntKind.i64.wrap (i3 + 1))))))
  (some (.inl (.inr l2)))
noncomputable def F_wlvref18_Hex_J2 (s : List Int) : Option (List Int) :=
  let l8 := s
  some l8
noncomputable def F_wlvref18_Hex (l1 : List Int) : Option (List Int) :=
  joinC (S := List Int) (R := List Int)
  (loopC (S := List Int × Int) (R := (List Int) ⊕ (List Int)) (F_wlvref18_Hex_L4 l1) (([] : List Int), 0))
  (F_wlvref18_Hex_J2)
def F_wlvref18_Hex_sig : Sig := ⟨[.v false [.d (.sl (.int .u8))]], [(false, [.d .str])]⟩
def F_wlvref18_Hex_ann : List (Nat × Ann) := [(2, ⟨3, [(3, false, [.own 5 (.int .u8)])], [], [4, 5, 6, 7, 8, 9, 10, 11, 12, 13, 14, 15, 16, 17, 18, 19, 20, 21, 22, 23, 24, 25], []⟩), (4, ⟨5, [(3, false, [.own 5 (.int .u8)]), (4, false, [.d (.int .i64)])], [], [5, 6, 7, 8, 9, 10, 11, 12, 13, 14, 15, 16, 17, 18, 19, 20, 21, 22, 23, 24, 25], []⟩)]
noncomputable def F_wlvref18_Hex_env : Env := ⟨Tryd.prog, [], []⟩
set_option maxRecDepth 100000 in
theorem F_wlvref18_Hex_text : pvFn F_wlvref18_Hex_env F_wlvref18_Hex_ann Tryd.f30 F_wlvref18_Hex_sig = F_wlvref18_Hex := by kernel_rfl
noncomputable def F_wlvref27_dec (i1 : Int) : Option (List Int) :=
  cond (decide (i1 ≥ 0))
  ((F_wlvref_Dec i1).bind fun s2 =>
    some s2)
  (cond ((IntKind.i64.wrap (Int.tdiv i1 10)) == 0)
    ((F_wlvref_Dec (negI .i64 i1)).bind fun s3 =>
      chk (Nat.ble (([45] : List Int).length + s3.length) maxLen)
      (some (([45] : List Int) ++ s3)))
    ((F_wlvref_Dec (negI .i64 (IntKind.i64.wrap (Int.tdiv i1 10)))).bind fun s4 =>
      chk (Nat.ble (([45] : List Int).length + s4.length) maxLen)
      ((F_wlvref_Dec (negI .i64 (Int.tmod i1 10))).bind fun s5 =>
        chk (Nat.ble ((([45] : List Int) ++ s4).length + s5.length) maxLen)
        (some ((([45] : List Int) ++ s4) ++ s5)))))
def F_wlvref27_dec_sig : Sig := ⟨[.v false [.d (.int .i64)]], [(false, [.d .str])]⟩
def F_wlvref27_dec_ann : List (Nat × Ann) := []
noncomputable def F_wlvref27_dec_env : Env := ⟨Tryd.prog, [(54, ⟨F_wlvref_Dec_sig, ⟨F_wlvref_Dec⟩⟩)], []⟩
set_option maxRecDepth 100000 in
theorem F_wlvref27_dec_text : pvFn F_wlvref27_dec_env F_wlvref27_dec_ann Tryd.f32 F_wlvref27_dec_sig = F_wlvref27_dec := by kernel_rfl
noncomputable def F_wlvref27_Lines_L4 (i1 : Int) (i2 : Int) (i3 : Int) (i4 : Int) (s : List (List Int) × Int) : Option (((List (List Int)) ⊕ (List (List Int))) ⊕ (List (List Int) × Int)) :=
  let l5 := s.1; let i6 := s.2
  cond (decide (i6 < (minI (maxI i1 1) 16)))
  ((F_wlvref27_name ([117] : List Int) i6).bind fun s7 =>
    chk (Nat.ble (([117, 115, 101, 114, 32] : List Int).length + s7.length) maxLen)
    (chk (Nat.ble ((([117, 115, 101, 114, 32] : List Int) ++ s7).length + ([32] : List Int).length) maxLen)
      ((F_wlvref18_Hex ([(IntKind.u8.wrap i6)] : List Int)).bind fun s8 =>
        chk (Nat.ble (((([117, 115, 101, 114, 32] : List Int) ++ s7) ++ ([32] : List Int)).length + s8.length) maxLen)
        (chk (Nat.ble ((((([117, 115, 101, 114, 32] : List Int) ++ s7) ++ ([32] : List Int)) ++ s8).length + ([32] : List Int).length) maxLen)
          ((F_wlvref27_name ([119] : List Int) i6).bind fun s9 =>
            (F_wlvref1_Salted ([(IntKind.u8.wrap i6)] : List Int) s9).bind fun l10 =>
            (F_wlvref18_Hex l10).bind fun s11 =>
            chk (Nat.ble (((((([117, 115, 101, 114, 32] : List Int) ++ s7) ++ ([32] : List Int)) ++ s8) ++ ([32] : List Int)).length + s11.length) maxLen)
            (chk (Nat.ble ((((((([117, 115, 101, 114, 32] : List Int) ++ s7) ++ ([32] : List Int)) ++ s8) ++ ([32] : List Int)) ++ s11).length + ([32] : List Int).length) maxLen)
              ((F_wlvref27_dec i2).bind fun s12 =>
                chk (Nat.ble (((((((([117, 115, 101, 114, 32] : List Int) ++ s7) ++ ([32] : List Int)) ++ s8) ++ ([32] : List Int)) ++ s11) ++ ([32] : List Int)).length + s12.length) maxLen)
                (chk (Nat.ble ((((((((([117, 115, 101, 114, 32] : List Int) ++ s7) ++ ([32] : List Int)) ++ s8) ++ ([32] : List Int)) ++ s11) ++ ([32] : List Int)) ++ s12).length + ([32] : List Int).length) maxLen)
                  ((F_wlvref27_dec i3).bind fun s13 =>
                    chk (Nat.ble (((((((((([117, 115, 101, 114, 32] : List Int) ++ s7) ++ ([32] : List Int)) ++ s8) ++ ([32] : List Int)) ++ s11) ++ ([32] : List Int)) ++ s12) ++ ([32] : List Int)).length + s13.length) maxLen)
                    (chk (Nat.ble ((((((((((([117, 115, 101, 114, 32] : List Int) ++ s7) ++ ([32] : List Int)) ++ s8) ++ ([32] : List Int)) ++ s11) ++ ([32] : List Int)) ++ s12) ++ ([32] : List Int)) ++ s13).length + ([32] : List Int).length) maxLen)
                      ((F_wlvref27_dec i4).bind fun s14 =>
                        chk (Nat.ble (((((((((((([117, 115, 101, 114, 32] : List Int) ++ s7) ++ ([32] : List Int)) ++ s8) ++ ([32] : List Int)) ++ s11) ++ ([32] : List Int)) ++ s12) ++ ([32] : List Int)) ++ s13) ++ ([32] : List Int)).length + s14.length) maxLen)
                        (chk (Nat.ble (([100, 101, 110, 121, 32] : List Int).length + s7.length) maxLen)
                          (chk (Nat.ble ((([100, 101, 110, 121, 32] : List Int) ++ s7).length + ([32, 98, 97, 100, 46, 101, 120, 97, 109, 112, 108, 101, 32, 42] : List Int).length) maxLen)
                            (chk (Nat.ble (([100, 101, 110, 121, 32] : List Int).length + s7.length) maxLen)
                              (chk (Nat.ble ((([100, 101, 110, 121, 32] : List Int) ++ s7).length + ([32, 49, 48, 46, 48, 46, 48, 46, 48, 47, 56, 32, 42] : List Int).length) maxLen)
                                (chk (Nat.ble (([97, 108, 108, 111, 119, 32] : List Int).length + s7.length) maxLen)
                                  (chk (Nat.ble ((([97, 108, 108, 111, 119, 32] : List Int) ++ s7).length + ([32, 42, 32, 49, 45, 49, 48, 48, 48] : List Int).length) maxLen)
                                    (chk (decide ((l5.length + ([(((((((((((([117, 115, 101, 114, 32] : List Int) ++ s7) ++ ([32] : List Int)) ++ s8) ++ ([32] : List Int)) ++ s11) ++ ([32] : List Int)) ++ s12) ++ ([32] : List Int)) ++ s13) ++ ([32] : List Int)) ++ s14), ((([100, 101, 110, 121, 32] : List Int) ++ s7) ++ ([32, 98, 97, 100, 46, 101, 120, 97, 109, 112, 108, 101, 32, 42] : List Int)), ((([100, 101, 110, 121, 32] : List Int) ++ s7) ++ ([32, 49, 48, 46, 48, 46, 48, 46, 48, 47, 56, 32, 42] : List Int)), ((([97, 108, 108, 111, 119, 32] : List Int) ++ s7) ++ ([32, 42, 32, 49, 45, 49, 48, 48, 48] : List Int))] : List (List Int)).length) * 16 ≤ 140737488355328) && decide (l5.length + ([(((((((((((([117, 115, 101, 114, 32] : List Int) ++ s7) ++ ([32] : List Int)) ++ s8) ++ ([32] : List Int)) ++ s11) ++ ([32] : List Int)) ++ s12) ++ ([32] : List Int)) ++ s13) ++ ([32] : List Int)) ++ s14), ((([100, 101, 110, 121, 32] : List Int) ++ s7) ++ ([32, 98, 97, 100, 46, 101, 120, 97, 109, 112, 108, 101, 32, 42] : List Int)), ((([100, 101, 110, 121, 32] : List Int) ++ s7) ++ ([32, 49, 48, 46, 48, 46, 48, 46, 48, 47, 56, 32, 42] : List Int)), ((([97, 108, 108, 111, 119, 32] : List Int) ++ s7) ++ ([32, 42, 32, 49, 45, 49, 48, 48, 48] : List Int))] : List (List Int)).length ≤ maxLen))
                                      (some (.inr ((l5 ++ ([(((((((((((([117, 115, 101, 114, 32] : List Int) ++ s7) ++ ([32] : List Int)) ++ s8) ++ ([32] : List Int)) ++ s11) ++ ([32] : List Int)) ++ s12) ++ ([32] : List Int)) ++ s13) ++ ([32] : List Int)) ++ s14), ((([100, 101, 110, 121, 32] : List Int) ++ s7) ++ ([32, 98, 97, 100, 46, 101, 120, 97, 109, 112, 108, 101, 32, 42] : List Int)), ((([100, 101, 110, 121, 32] : List Int) ++ s7) ++ ([32, 49, 48, 46, 48, 46, 48, 46, 48, 47, 56, 32, 42] : List Int)), ((([97, 108, 108, 111, 119, 32] : List Int) ++ s7) ++ ([32, 42, 32, 49, 45, 49, 48, 48, 48] : List Int))] : List (List Int))), (IntKind.i64.wrap (i6 + 1)))))))))))))))))))))))
  (some (.inl (.inr l5)))
noncomputable def F_wlvref27_Lines_J2 (s : List (List Int)) : Option (List (List Int)) :=
  let l15 := s
  some l15
noncomputable def F_wlvref27_Lines (i1 : Int) (i2 : Int) (i3 : Int) (i4 : Int) : Option (List (List Int)) :=
  joinC (S := List (List Int)) (R := List (List Int))
  (loopC (S := List (List Int) × Int) (R := (List (List Int)) ⊕ (List (List Int))) (F_wlvref27_Lines_L4 i1 i2 i3 i4) (([([108, 105, 109, 105, 116, 32, 100, 105, 97, 108, 32, 53, 48] : List Int), ([108, 105, 109, 105, 116, 32, 105, 100, 108, 101, 32, 53, 48, 48] : List Int), ([108, 105, 109, 105, 116, 32, 108, 111, 103, 32, 54, 48] : List Int), ([108, 105, 109, 105, 116, 32, 98, 117, 102, 102, 101, 114, 32, 51, 48, 48] : List Int)] : List (List Int)), 0))
  (F_wlvref27_Lines_J2)
def F_wlvref27_Lines_sig : Sig := ⟨[.v false [.d (.int .i64)], .v false [.d (.int .i64)], .v false [.d (.int .i64)], .v false [.d (.int .i64)]], [(false, [.own 9 .str])]⟩
def F_wlvref27_Lines_ann : List (Nat × Ann) := [(2, ⟨3, [(9, false, [.own 9 .str])], [], [10, 11, 13, 14, 15, 16, 17, 18, 19, 20, 21, 22, 23, 24, 25, 26, 27, 28, 29, 30, 31, 32, 33, 34, 35, 36, 37, 38, 39, 40, 41, 42, 43, 44, 45, 46, 47, 48, 49, 50, 51, 52, 53, 54, 55, 56, 57, 58, 59, 60, 61, 62, 63], []⟩), (4, ⟨5, [(9, false, [.own 9 .str]), (10, false, [.d (.int .i64)])], [], [11, 13, 14, 15, 16, 17, 18, 19, 20, 21, 22, 23, 24, 25, 26, 27, 28, 29, 30, 31, 32, 33, 34, 35, 36, 37, 38, 39, 40, 41, 42, 43, 44, 45, 46, 47, 48, 49, 50, 51, 52, 53, 54, 55, 56, 57, 58, 59, 60, 61, 62, 63], []⟩)]
noncomputable def F_wlvref27_Lines_env : Env := ⟨Tryd.prog, [(29, ⟨F_wlvref27_name_sig, ⟨F_wlvref27_name⟩⟩), (30, ⟨F_wlvref18_Hex_sig, ⟨F_wlvref18_Hex⟩⟩), (31, ⟨F_wlvref1_Salted_sig, ⟨F_wlvref1_Salted⟩⟩), (32, ⟨F_wlvref27_dec_sig, ⟨F_wlvref27_dec⟩⟩)], []⟩
set_option maxRecDepth 100000 in
theorem F_wlvref27_Lines_text : pvFn F_wlvref27_Lines_env F_wlvref27_Lines_ann Tryd.f13 F_wlvref27_Lines_sig = F_wlvref27_Lines := by kernel_rfl
noncomputable def F_wlvlaw28_TaleTells (i1 : Int) (i2 : Int) (i3 : Int) (i4 : Int) (l5 : List (List Int × List Int × Bool)) (i6 : Int) (s7 : List Int) (s8 : List Int) (s9 : List Int) (l10 : List Int) (b11 : Bool) : Option (Bool) :=
  (F_wlvlaw28_first).bind fun b12 =>
  cond (!b12)
  (some false)
  ((F_wlvlaw6_Few l5).bind fun b13 =>
    cond (((((!b13) || (decide ((s7.length : Int) > 1000))) || (decide ((s8.length : Int) > 1000))) || (decide ((s9.length : Int) > 1000))) || (decide ((l10.length : Int) > 20000)))
    ((F_wlvlaw28_first).bind fun b14 =>
      some b14)
    ((F_wlvlaw28_first).bind fun b15 =>
      cond b15
      ((F_tale_Lines i1 i2 i3 i4).bind fun l16 =>
        (F_wlvref27_Lines i1 i2 i3 i4).bind fun l17 =>
        (F_wlvref_Texts l16 l17).bind fun b18 =>
        cond b18
        ((F_tale_Hello).bind fun l19 =>
          (F_wlvref27_Hello).bind fun l20 =>
          (F_wlvref_Bytes l19 l20).bind fun b21 =>
          cond b21
          ((F_tale_Block l5).bind fun l22 =>
            (F_wlvref27_Block l5).bind fun l23 =>
            (F_wlvref_Bytes l22 l23).bind fun b24 =>
            cond b24
            ((F_tale_Connect i6 s7 s8 s9 b11).bind fun l25 =>
              (F_wlvref27_Connect i6 s7 s8 s9 b11).bind fun l26 =>
              (F_wlvref_Bytes l25 l26).bind fun b27 =>
              cond b27
              ((F_tale_Data i6 l10 b11).bind fun l28 =>
                (F_wlvref27_Data i6 l10 b11).bind fun l29 =>
                (F_wlvref_Bytes l28 l29).bind fun b30 =>
                some b30)
              (some false))
            (some false))
          (some false))
        (some false))
      (some false)))
def F_wlvlaw28_TaleTells_sig : Sig := ⟨[.v false [.d (.int .i64)], .v false [.d (.int .i64)], .v false [.d (.int .i64)], .v false [.d (.int .i64)], .v false [.d (.sl (.pr .str (.pr .str .bool)))], .v false [.d (.int .i64)], .v false [.d .str], .v false [.d .str], .v false [.d .str], .v false [.d (.sl (.int .u8))], .v false [.d .bool]], [(false, [.d .bool])]⟩
def F_wlvlaw28_TaleTells_ann : List (Nat × Ann) := []
noncomputable def F_wlvlaw28_TaleTells_env : Env := ⟨Tryd.prog, [(6, ⟨F_wlvlaw28_first_sig, ⟨F_wlvlaw28_first⟩⟩), (10, ⟨F_wlvlaw6_Few_sig, ⟨F_wlvlaw6_Few⟩⟩), (11, ⟨F_wlvref_Texts_sig, ⟨F_wlvref_Texts⟩⟩), (12, ⟨F_tale_Lines_sig, ⟨F_tale_Lines⟩⟩), (13, ⟨F_wlvref27_Lines_sig, ⟨F_wlvref27_Lines⟩⟩), (14, ⟨F_wlvref_Bytes_sig, ⟨F_wlvref_Bytes⟩⟩), (15, ⟨F_tale_Hello_sig, ⟨F_tale_Hello⟩⟩), (16, ⟨F_wlvref27_Hello_sig, ⟨F_wlvref27_Hello⟩⟩), (17, ⟨F_tale_Block_sig, ⟨F_tale_Block⟩⟩), (18, ⟨F_wlvref27_Block_sig, ⟨F_wlvref27_Block⟩⟩), (19, ⟨F_tale_Connect_sig, ⟨F_tale_Connect⟩⟩), (20, ⟨F_wlvref27_Connect_sig, ⟨F_wlvref27_Connect⟩⟩), (21, ⟨F_tale_Data_sig, ⟨F_tale_Data⟩⟩), (22, ⟨F_wlvref27_Data_sig, ⟨F_wlvref27_Data⟩⟩)], []⟩
set_option maxRecDepth 100000 in
theorem F_wlvlaw28_TaleTells_text : pvFn F_wlvlaw28_TaleTells_env F_wlvlaw28_TaleTells_ann Tryd.f5 F_wlvlaw28_TaleTells_sig = F_wlvlaw28_TaleTells := by kernel_rfl
end Go.Proofs.YtgfmfgombmpodaaDoor

/- The functions compute what their Lean functions tell. -/
namespace Go.Proofs.YtgfmfgombmpodaaDoor
open Pv
theorem F_tale_answers_sound {T : Tab} : SoundFn Tryd.prog T 42 F_tale_answers_sig ⟨F_tale_answers⟩ := by
  have h := fn_sound (T := T) (E := F_tale_answers_env) (by unfold Env.ok; exact fun p h => by cases h) (A := F_tale_answers_ann) (f := 42) (fn := Tryd.f42) (s := F_tale_answers_sig) Tryd.func42
  rw [F_tale_answers_text] at h
  exact h
theorem F_tale_bytes_sound {T : Tab} : SoundFn Tryd.prog T 43 F_tale_bytes_sig ⟨F_tale_bytes⟩ := by
  have h := fn_sound (T := T) (E := F_tale_bytes_env) (by unfold Env.ok; exact List.forall_mem_cons.2 ⟨F_slices_Repeat_byte_byte_sound, fun p h => by cases h⟩) (A := F_tale_bytes_ann) (f := 43) (fn := Tryd.f43) (s := F_tale_bytes_sig) Tryd.func43
  rw [F_tale_bytes_text] at h
  exact h
theorem F_frame_Put_sound {T : Tab} : SoundFn Tryd.prog T 57 F_frame_Put_sig ⟨F_frame_Put⟩ := by
  have h := fn_sound (T := T) (E := F_frame_Put_env) (by unfold Env.ok; exact fun p h => by cases h) (A := F_frame_Put_ann) (f := 57) (fn := Tryd.f57) (s := F_frame_Put_sig) Tryd.func57
  rw [F_frame_Put_text] at h
  exact h
theorem F_tale_put_sound {T : Tab} : SoundFn Tryd.prog T 34 F_tale_put_sig ⟨F_tale_put⟩ := by
  have h := fn_sound (T := T) (E := F_tale_put_env) (by unfold Env.ok; exact List.forall_mem_cons.2 ⟨F_frame_Put_sound, fun p h => by cases h⟩) (A := F_tale_put_ann) (f := 34) (fn := Tryd.f34) (s := F_tale_put_sig) Tryd.func34
  rw [F_tale_put_text] at h
  exact h
theorem F_part_flag_sound {T : Tab} : SoundFn Tryd.prog T 58 F_part_flag_sig ⟨F_part_flag⟩ := by
  have h := fn_sound (T := T) (E := F_part_flag_env) (by unfold Env.ok; exact fun p h => by cases h) (A := F_part_flag_ann) (f := 58) (fn := Tryd.f58) (s := F_part_flag_sig) Tryd.func58
  rw [F_part_flag_text] at h
  exact h
theorem F_part_bits_sound {T : Tab} : SoundFn Tryd.prog T 59 F_part_bits_sig ⟨F_part_bits⟩ := by
  have h := fn_sound (T := T) (E := F_part_bits_env) (by unfold Env.ok; exact fun p h => by cases h) (A := F_part_bits_ann) (f := 59) (fn := Tryd.f59) (s := F_part_bits_sig) Tryd.func59
  rw [F_part_bits_text] at h
  exact h
theorem F_part_Settings_sound {T : Tab} : SoundFn Tryd.prog T 35 F_part_Settings_sig ⟨F_part_Settings⟩ := by
  have h := fn_sound (T := T) (E := F_part_Settings_env) (by unfold Env.ok; exact List.forall_mem_cons.2 ⟨F_part_flag_sound, List.forall_mem_cons.2 ⟨F_part_bits_sound, fun p h => by cases h⟩⟩) (A := F_part_Settings_ann) (f := 35) (fn := Tryd.f35) (s := F_part_Settings_sig) Tryd.func35
  rw [F_part_Settings_text] at h
  exact h
theorem F_tale_Hello_sound {T : Tab} : SoundFn Tryd.prog T 15 F_tale_Hello_sig ⟨F_tale_Hello⟩ := by
  have h := fn_sound (T := T) (E := F_tale_Hello_env) (by unfold Env.ok; exact List.forall_mem_cons.2 ⟨F_slices_Concat_byte_byte_sound, List.forall_mem_cons.2 ⟨F_tale_put_sound, List.forall_mem_cons.2 ⟨F_part_Settings_sound, fun p h => by cases h⟩⟩⟩) (A := F_tale_Hello_ann) (f := 15) (fn := Tryd.f15) (s := F_tale_Hello_sig) Tryd.func15
  rw [F_tale_Hello_text] at h
  exact h
theorem F_tale_flags_sound {T : Tab} : SoundFn Tryd.prog T 40 F_tale_flags_sig ⟨F_tale_flags⟩ := by
  have h := fn_sound (T := T) (E := F_tale_flags_env) (by unfold Env.ok; exact fun p h => by cases h) (A := F_tale_flags_ann) (f := 40) (fn := Tryd.f40) (s := F_tale_flags_sig) Tryd.func40
  rw [F_tale_flags_text] at h
  exact h
theorem F_tale_Data_sound {T : Tab} : SoundFn Tryd.prog T 21 F_tale_Data_sig ⟨F_tale_Data⟩ := by
  have h := fn_sound (T := T) (E := F_tale_Data_env) (by unfold Env.ok; exact List.forall_mem_cons.2 ⟨F_tale_put_sound, List.forall_mem_cons.2 ⟨F_tale_flags_sound, fun p h => by cases h⟩⟩) (A := F_tale_Data_ann) (f := 21) (fn := Tryd.f21) (s := F_tale_Data_sig) Tryd.func21
  rw [F_tale_Data_text] at h
  exact h
theorem F_pint_ones_sound {T : Tab} : SoundFn Tryd.prog T 77 F_pint_ones_sig ⟨F_pint_ones⟩ := by
  have h := fn_sound (T := T) (E := F_pint_ones_env) (by unfold Env.ok; exact fun p h => by cases h) (A := F_pint_ones_ann) (f := 77) (fn := Tryd.f77) (s := F_pint_ones_sig) Tryd.func77
  rw [F_pint_ones_text] at h
  exact h
theorem F_pint_Put_sound {T : Tab} : SoundFn Tryd.prog T 61 F_pint_Put_sig ⟨F_pint_Put⟩ := by
  have h := fn_sound (T := T) (E := F_pint_Put_env) (by unfold Env.ok; exact List.forall_mem_cons.2 ⟨F_pint_ones_sound, fun p h => by cases h⟩) (A := F_pint_Put_ann) (f := 61) (fn := Tryd.f61) (s := F_pint_Put_sig) Tryd.func61
  rw [F_pint_Put_text] at h
  exact h
theorem F_tale_text_sound {T : Tab} : SoundFn Tryd.prog T 37 F_tale_text_sig ⟨F_tale_text⟩ := by
  have h := fn_sound (T := T) (E := F_tale_text_env) (by unfold Env.ok; exact List.forall_mem_cons.2 ⟨F_pint_Put_sound, fun p h => by cases h⟩) (A := F_tale_text_ann) (f := 37) (fn := Tryd.f37) (s := F_tale_text_sig) Tryd.func37
  rw [F_tale_text_text] at h
  exact h
theorem F_tale_Block_sound {T : Tab} : SoundFn Tryd.prog T 17 F_tale_Block_sig ⟨F_tale_Block⟩ := by
  have h := fn_sound (T := T) (E := F_tale_Block_env) (by unfold Env.ok; exact List.forall_mem_cons.2 ⟨F_slices_Concat_byte_byte_sound, List.forall_mem_cons.2 ⟨F_tale_text_sound, fun p h => by cases h⟩⟩) (A := F_tale_Block_ann) (f := 17) (fn := Tryd.f17) (s := F_tale_Block_sig) Tryd.func17
  rw [F_tale_Block_text] at h
  exact h
theorem F_tale_Connect_sound {T : Tab} : SoundFn Tryd.prog T 19 F_tale_Connect_sig ⟨F_tale_Connect⟩ := by
  have h := fn_sound (T := T) (E := F_tale_Connect_env) (by unfold Env.ok; exact List.forall_mem_cons.2 ⟨F_tale_Block_sound, List.forall_mem_cons.2 ⟨F_tale_put_sound, List.forall_mem_cons.2 ⟨F_b64_Encode_sound, List.forall_mem_cons.2 ⟨F_tale_flags_sound, fun p h => by cases h⟩⟩⟩⟩) (A := F_tale_Connect_ann) (f := 19) (fn := Tryd.f19) (s := F_tale_Connect_sig) Tryd.func19
  rw [F_tale_Connect_text] at h
  exact h
theorem F_tale_connects_sound {T : Tab} (h_pow10 : tab_pow10 ∈ T) : SoundFn Tryd.prog T 64 F_tale_connects_sig ⟨F_tale_connects⟩ := by
  have h := fn_sound (T := T) (E := F_tale_connects_env) (by unfold Env.ok; exact List.forall_mem_cons.2 ⟨F_tale_Connect_sound, List.forall_mem_cons.2 ⟨F_strconv_Itoa_sound h_pow10, fun p h => by cases h⟩⟩) (A := F_tale_connects_ann) (f := 64) (fn := Tryd.f64) (s := F_tale_connects_sig) Tryd.func64
  rw [F_tale_connects_text] at h
  exact h
theorem F_part_Rst_sound {T : Tab} : SoundFn Tryd.prog T 65 F_part_Rst_sig ⟨F_part_Rst⟩ := by
  have h := fn_sound (T := T) (E := F_part_Rst_env) (by unfold Env.ok; exact List.forall_mem_cons.2 ⟨F_part_bits_sound, fun p h => by cases h⟩) (A := F_part_Rst_ann) (f := 65) (fn := Tryd.f65) (s := F_part_Rst_sig) Tryd.func65
  rw [F_part_Rst_text] at h
  exact h
theorem F_part_Update_sound {T : Tab} : SoundFn Tryd.prog T 66 F_part_Update_sig ⟨F_part_Update⟩ := by
  have h := fn_sound (T := T) (E := F_part_Update_env) (by unfold Env.ok; exact List.forall_mem_cons.2 ⟨F_part_bits_sound, fun p h => by cases h⟩) (A := F_part_Update_ann) (f := 66) (fn := Tryd.f66) (s := F_part_Update_sig) Tryd.func66
  rw [F_part_Update_text] at h
  exact h
theorem F_tale_feeds_sound {T : Tab} (h_pow10 : tab_pow10 ∈ T) : SoundFn Tryd.prog T 44 F_tale_feeds_sig ⟨F_tale_feeds⟩ := by
  have h := fn_sound (T := T) (E := F_tale_feeds_env) (by unfold Env.ok; exact List.forall_mem_cons.2 ⟨F_tale_Hello_sound, List.forall_mem_cons.2 ⟨F_tale_Data_sound, List.forall_mem_cons.2 ⟨F_tale_put_sound, List.forall_mem_cons.2 ⟨F_tale_bytes_sound, List.forall_mem_cons.2 ⟨F_tale_connects_sound h_pow10, List.forall_mem_cons.2 ⟨F_part_Rst_sound, List.forall_mem_cons.2 ⟨F_part_Update_sound, fun p h => by cases h⟩⟩⟩⟩⟩⟩⟩) (A := F_tale_feeds_ann) (f := 44) (fn := Tryd.f44) (s := F_tale_feeds_sig) Tryd.func44
  rw [F_tale_feeds_text] at h
  exact h
theorem F_tale_event_sound {T : Tab} (h_pow10 : tab_pow10 ∈ T) : SoundFn Tryd.prog T 23 F_tale_event_sig ⟨F_tale_event⟩ := by
  have h := fn_sound (T := T) (E := F_tale_event_env) (by unfold Env.ok; exact List.forall_mem_cons.2 ⟨F_tale_answers_sound, List.forall_mem_cons.2 ⟨F_tale_bytes_sound, List.forall_mem_cons.2 ⟨F_tale_feeds_sound h_pow10, fun p h => by cases h⟩⟩⟩) (A := F_tale_event_ann) (f := 23) (fn := Tryd.f23) (s := F_tale_event_sig) Tryd.func23
  rw [F_tale_event_text] at h
  exact h
theorem F_tale_Events_sound {T : Tab} (h_pow10 : tab_pow10 ∈ T) : SoundFn Tryd.prog T 7 F_tale_Events_sig ⟨F_tale_Events⟩ := by
  have h := fn_sound (T := T) (E := F_tale_Events_env) (by unfold Env.ok; exact List.forall_mem_cons.2 ⟨F_tale_event_sound h_pow10, fun p h => by cases h⟩) (A := F_tale_Events_ann) (f := 7) (fn := Tryd.f7) (s := F_tale_Events_sig) Tryd.func7
  rw [F_tale_Events_text] at h
  exact h
theorem F_wlvlaw28_first_sound {T : Tab} (h_pow10 : tab_pow10 ∈ T) : SoundFn Tryd.prog T 6 F_wlvlaw28_first_sig ⟨F_wlvlaw28_first⟩ := by
  have h := fn_sound (T := T) (E := F_wlvlaw28_first_env) (by unfold Env.ok; exact List.forall_mem_cons.2 ⟨F_tale_Events_sound h_pow10, List.forall_mem_cons.2 ⟨F_tale_Hello_sound, fun p h => by cases h⟩⟩) (A := F_wlvlaw28_first_ann) (f := 6) (fn := Tryd.f6) (s := F_wlvlaw28_first_sig) Tryd.func6
  rw [F_wlvlaw28_first_text] at h
  exact h
theorem F_wlvref27_Data_sound {T : Tab} : SoundFn Tryd.prog T 22 F_wlvref27_Data_sig ⟨F_wlvref27_Data⟩ := by
  have h := fn_sound (T := T) (E := F_wlvref27_Data_env) (by unfold Env.ok; exact List.forall_mem_cons.2 ⟨F_wlvref27_put_sound, fun p h => by cases h⟩) (A := F_wlvref27_Data_ann) (f := 22) (fn := Tryd.f22) (s := F_wlvref27_Data_sig) Tryd.func22
  rw [F_wlvref27_Data_text] at h
  exact h
theorem F_wlvref4_Put_sound {T : Tab} : SoundFn Tryd.prog T 38 F_wlvref4_Put_sig ⟨F_wlvref4_Put⟩ := by
  have h := fn_sound (T := T) (E := F_wlvref4_Put_env) (by unfold Env.ok; exact fun p h => by cases h) (A := F_wlvref4_Put_ann) (f := 38) (fn := Tryd.f38) (s := F_wlvref4_Put_sig) Tryd.func38
  rw [F_wlvref4_Put_text] at h
  exact h
theorem F_wlvref27_Block_sound {T : Tab} : SoundFn Tryd.prog T 18 F_wlvref27_Block_sig ⟨F_wlvref27_Block⟩ := by
  have h := fn_sound (T := T) (E := F_wlvref27_Block_env) (by unfold Env.ok; exact List.forall_mem_cons.2 ⟨F_wlvref4_Put_sound, fun p h => by cases h⟩) (A := F_wlvref27_Block_ann) (f := 18) (fn := Tryd.f18) (s := F_wlvref27_Block_sig) Tryd.func18
  rw [F_wlvref27_Block_text] at h
  exact h
theorem F_wlvref27_Connect_sound {T : Tab} : SoundFn Tryd.prog T 20 F_wlvref27_Connect_sig ⟨F_wlvref27_Connect⟩ := by
  have h := fn_sound (T := T) (E := F_wlvref27_Connect_env) (by unfold Env.ok; exact List.forall_mem_cons.2 ⟨F_wlvref27_Block_sound, List.forall_mem_cons.2 ⟨F_wlvref27_put_sound, List.forall_mem_cons.2 ⟨F_wlvref1_Encode_sound, fun p h => by cases h⟩⟩⟩) (A := F_wlvref27_Connect_ann) (f := 20) (fn := Tryd.f20) (s := F_wlvref27_Connect_sig) Tryd.func20
  rw [F_wlvref27_Connect_text] at h
  exact h
theorem F_wlvref_Dec_fuel_sound {T : Tab} : ∀ k : Nat, SoundFn Tryd.prog T 54 F_wlvref_Dec_sig ⟨F_wlvref_Dec_fuel k⟩
  | 0 => by
    intro F g st xs y tmf w args _ _ happ
    have e : none = some y := (appF_bot (α := (F_wlvref_Dec_sig).out.D) ((parsT (F_wlvref_Dec_sig).ps).map LT.ty) xs).symm.trans happ
    cases e
  | k + 1 => by
    have ih := F_wlvref_Dec_fuel_sound (T := T) k
    have h := fn_sound (T := T) (E := F_wlvref_Dec_env (F_wlvref_Dec_fuel k)) (by unfold Env.ok; exact List.forall_mem_cons.2 ⟨ih, fun p h => by cases h⟩) (A := F_wlvref_Dec_ann) (f := 54) (fn := Tryd.f54) (s := F_wlvref_Dec_sig) Tryd.func54
    rw [F_wlvref_Dec_text] at h
    exact h
theorem F_wlvref_Dec_sound {T : Tab} : SoundFn Tryd.prog T 54 F_wlvref_Dec_sig ⟨F_wlvref_Dec⟩ := F_wlvref_Dec_fuel_sound 64
theorem F_wlvref27_name_sound {T : Tab} : SoundFn Tryd.prog T 29 F_wlvref27_name_sig ⟨F_wlvref27_name⟩ := by
  have h := fn_sound (T := T) (E := F_wlvref27_name_env) (by unfold Env.ok; exact List.forall_mem_cons.2 ⟨F_wlvref_Dec_sound, fun p h => by cases h⟩) (A := F_wlvref27_name_ann) (f := 29) (fn := Tryd.f29) (s := F_wlvref27_name_sig) Tryd.func29
  rw [F_wlvref27_name_text] at h
  exact h
theorem F_wlvref27_connect_sound {T : Tab} : SoundFn Tryd.prog T 45 F_wlvref27_connect_sig ⟨F_wlvref27_connect⟩ := by
  have h := fn_sound (T := T) (E := F_wlvref27_connect_env) (by unfold Env.ok; exact List.forall_mem_cons.2 ⟨F_wlvref27_Connect_sound, List.forall_mem_cons.2 ⟨F_wlvref27_name_sound, fun p h => by cases h⟩⟩) (A := F_wlvref27_connect_ann) (f := 45) (fn := Tryd.f45) (s := F_wlvref27_connect_sig) Tryd.func45
  rw [F_wlvref27_connect_text] at h
  exact h
theorem F_wlvref27_fill_sound {T : Tab} : SoundFn Tryd.prog T 46 F_wlvref27_fill_sig ⟨F_wlvref27_fill⟩ := by
  have h := fn_sound (T := T) (E := F_wlvref27_fill_env) (by unfold Env.ok; exact fun p h => by cases h) (A := F_wlvref27_fill_ann) (f := 46) (fn := Tryd.f46) (s := F_wlvref27_fill_sig) Tryd.func46
  rw [F_wlvref27_fill_text] at h
  exact h
theorem F_wlvref10_Rst_sound {T : Tab} : SoundFn Tryd.prog T 47 F_wlvref10_Rst_sig ⟨F_wlvref10_Rst⟩ := by
  have h := fn_sound (T := T) (E := F_wlvref10_Rst_env) (by unfold Env.ok; exact List.forall_mem_cons.2 ⟨F_wlvref10_num_sound, fun p h => by cases h⟩) (A := F_wlvref10_Rst_ann) (f := 47) (fn := Tryd.f47) (s := F_wlvref10_Rst_sig) Tryd.func47
  rw [F_wlvref10_Rst_text] at h
  exact h
theorem F_wlvref10_Update_sound {T : Tab} : SoundFn Tryd.prog T 48 F_wlvref10_Update_sig ⟨F_wlvref10_Update⟩ := by
  have h := fn_sound (T := T) (E := F_wlvref10_Update_env) (by unfold Env.ok; exact List.forall_mem_cons.2 ⟨F_wlvref10_num_sound, fun p h => by cases h⟩) (A := F_wlvref10_Update_ann) (f := 48) (fn := Tryd.f48) (s := F_wlvref10_Update_sig) Tryd.func48
  rw [F_wlvref10_Update_text] at h
  exact h
theorem F_wlvref27_ips_sound {T : Tab} : SoundFn Tryd.prog T 49 F_wlvref27_ips_sig ⟨F_wlvref27_ips⟩ := by
  have h := fn_sound (T := T) (E := F_wlvref27_ips_env) (by unfold Env.ok; exact fun p h => by cases h) (A := F_wlvref27_ips_ann) (f := 49) (fn := Tryd.f49) (s := F_wlvref27_ips_sig) Tryd.func49
  rw [F_wlvref27_ips_text] at h
  exact h
theorem F_wlvref27_one_sound {T : Tab} : SoundFn Tryd.prog T 24 F_wlvref27_one_sig ⟨F_wlvref27_one⟩ := by
  have h := fn_sound (T := T) (E := F_wlvref27_one_env) (by unfold Env.ok; exact List.forall_mem_cons.2 ⟨F_wlvref27_Hello_sound, List.forall_mem_cons.2 ⟨F_wlvref27_Data_sound, List.forall_mem_cons.2 ⟨F_wlvref27_put_sound, List.forall_mem_cons.2 ⟨F_wlvref27_connect_sound, List.forall_mem_cons.2 ⟨F_wlvref27_fill_sound, List.forall_mem_cons.2 ⟨F_wlvref10_Rst_sound, List.forall_mem_cons.2 ⟨F_wlvref10_Update_sound, List.forall_mem_cons.2 ⟨F_wlvref27_ips_sound, fun p h => by cases h⟩⟩⟩⟩⟩⟩⟩⟩) (A := F_wlvref27_one_ann) (f := 24) (fn := Tryd.f24) (s := F_wlvref27_one_sig) Tryd.func24
  rw [F_wlvref27_one_text] at h
  exact h
theorem F_wlvref27_Events_sound {T : Tab} : SoundFn Tryd.prog T 8 F_wlvref27_Events_sig ⟨F_wlvref27_Events⟩ := by
  have h := fn_sound (T := T) (E := F_wlvref27_Events_env) (by unfold Env.ok; exact List.forall_mem_cons.2 ⟨F_wlvref27_one_sound, fun p h => by cases h⟩) (A := F_wlvref27_Events_ann) (f := 8) (fn := Tryd.f8) (s := F_wlvref27_Events_sig) Tryd.func8
  rw [F_wlvref27_Events_text] at h
  exact h
theorem F_wlvref_Texts_sound {T : Tab} : SoundFn Tryd.prog T 11 F_wlvref_Texts_sig ⟨F_wlvref_Texts⟩ := by
  have h := fn_sound (T := T) (E := F_wlvref_Texts_env) (by unfold Env.ok; exact fun p h => by cases h) (A := F_wlvref_Texts_ann) (f := 11) (fn := Tryd.f11) (s := F_wlvref_Texts_sig) Tryd.func11
  rw [F_wlvref_Texts_text] at h
  exact h
theorem F_wlvref_Bytes_sound {T : Tab} : SoundFn Tryd.prog T 14 F_wlvref_Bytes_sig ⟨F_wlvref_Bytes⟩ := by
  have h := fn_sound (T := T) (E := F_wlvref_Bytes_env) (by unfold Env.ok; exact fun p h => by cases h) (A := F_wlvref_Bytes_ann) (f := 14) (fn := Tryd.f14) (s := F_wlvref_Bytes_sig) Tryd.func14
  rw [F_wlvref_Bytes_text] at h
  exact h
theorem F_wlvlaw28_same_sound {T : Tab} : SoundFn Tryd.prog T 9 F_wlvlaw28_same_sig ⟨F_wlvlaw28_same⟩ := by
  have h := fn_sound (T := T) (E := F_wlvlaw28_same_env) (by unfold Env.ok; exact List.forall_mem_cons.2 ⟨F_wlvref_Texts_sound, List.forall_mem_cons.2 ⟨F_wlvref_Bytes_sound, fun p h => by cases h⟩⟩) (A := F_wlvlaw28_same_ann) (f := 9) (fn := Tryd.f9) (s := F_wlvlaw28_same_sig) Tryd.func9
  rw [F_wlvlaw28_same_text] at h
  exact h
theorem F_wlvlaw28_TaleEvents_sound {T : Tab} (h_pow10 : tab_pow10 ∈ T) : SoundFn Tryd.prog T 3 F_wlvlaw28_TaleEvents_sig ⟨F_wlvlaw28_TaleEvents⟩ := by
  have h := fn_sound (T := T) (E := F_wlvlaw28_TaleEvents_env) (by unfold Env.ok; exact List.forall_mem_cons.2 ⟨F_wlvlaw28_first_sound h_pow10, List.forall_mem_cons.2 ⟨F_tale_Events_sound h_pow10, List.forall_mem_cons.2 ⟨F_wlvref27_Events_sound, List.forall_mem_cons.2 ⟨F_wlvlaw28_same_sound, fun p h => by cases h⟩⟩⟩⟩) (A := F_wlvlaw28_TaleEvents_ann) (f := 3) (fn := Tryd.f3) (s := F_wlvlaw28_TaleEvents_sig) Tryd.func3
  rw [F_wlvlaw28_TaleEvents_text] at h
  exact h
theorem F_wlvlaw28_TaleParts_sound {T : Tab} (h_pow10 : tab_pow10 ∈ T) : SoundFn Tryd.prog T 4 F_wlvlaw28_TaleParts_sig ⟨F_wlvlaw28_TaleParts⟩ := by
  have h := fn_sound (T := T) (E := F_wlvlaw28_TaleParts_env) (by unfold Env.ok; exact List.forall_mem_cons.2 ⟨F_wlvlaw28_first_sound h_pow10, List.forall_mem_cons.2 ⟨F_tale_Events_sound h_pow10, List.forall_mem_cons.2 ⟨F_wlvlaw28_same_sound, fun p h => by cases h⟩⟩⟩) (A := F_wlvlaw28_TaleParts_ann) (f := 4) (fn := Tryd.f4) (s := F_wlvlaw28_TaleParts_sig) Tryd.func4
  rw [F_wlvlaw28_TaleParts_text] at h
  exact h
end Go.Proofs.YtgfmfgombmpodaaDoor
