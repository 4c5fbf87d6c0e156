/- b64.Encode at this program: by hand, over strings.Builder. -/
import Derived.Test.YtgcgdfjldeihkaaDoorQBld
import Derived.Test.YtgcgdfjldeihkaaDoorPt
import Derived.LoopTactic
import Derived.Handy
namespace Go.Proofs.YtgcgdfjldeihkaaDoor
open Go.RowKit Go.Shelf Pv
set_option linter.unusedVariables false
/-- The value of the first t bytes of a group. -/
def gv (l : List Int) (i : Nat) : Nat → Int
  | 0 => 0
  | t + 1 => gv l i t * 256 + l.getD (i + t) 0
theorem getD_in {l : List Int} (hl : ∀ x ∈ l, 0 ≤ x ∧ x < 256) (i : Nat) : 0 ≤ l.getD i 0 ∧ l.getD i 0 < 256 := by
  rw [List.getD_eq_getElem?_getD]
  cases h : l[i]? with
  | none => exact ⟨by decide, by decide⟩
  | some x => exact hl x (List.mem_of_getElem? h)
theorem gv_in {l : List Int} (hl : ∀ x ∈ l, 0 ≤ x ∧ x < 256) (i : Nat) : ∀ t, 0 ≤ gv l i t ∧ gv l i t < 256 ^ t
  | 0 => ⟨Int.le_refl 0, by show (0 : Int) < 1; decide⟩
  | t + 1 => by
    obtain ⟨h1, h2⟩ := gv_in hl i t
    obtain ⟨h3, h4⟩ := getD_in hl (i + t)
    unfold gv
    refine ⟨by omega, ?_⟩
    rw [Int.pow_succ]
    omega
theorem e40 : (2 : Int) ^ 40 = 1099511627776 := by decide
theorem w64 {x : Int} (h0 : 0 ≤ x) (h1 : x < 1099511627776) : IntKind.i64.wrap x = x := by
  show (if (true && decide (x % 18446744073709551616 ≥ 9223372036854775808)) = true then x % 18446744073709551616 - 18446744073709551616 else x % 18446744073709551616) = x
  simp only [Bool.true_and, decide_eq_true_eq]
  split <;> omega
theorem or8 {x y : Int} (hx : 0 ≤ x) (hx1 : x < 1099511627776) (hm : x % 256 = 0) (hy : 0 ≤ y) (hy1 : y < 256) : bits .or .i64 x y = x + y :=
  bits_join .i64 40 (by decide) (fun n h0 h1 => w64 h0 (by rw [← e40]; exact h1)) 8 x y hx hm (by rw [e40]; exact hx1) hy hy1 (by rw [e40]; omega)
theorem and63 {x : Int} (hx : 0 ≤ x) (hx1 : x < 1099511627776) : bits .and .i64 x 63 = x % 64 := bits_mask .i64 40 (by decide) (fun n h0 h1 => w64 h0 (by rw [← e40]; exact h1)) 6 (by decide) x hx (by rw [e40]; exact hx1)
theorem wr64 {x : Int} (h0 : -9223372036854775808 ≤ x) (h1 : x ≤ 9223372036854775807) : wrap64 x = x := by unfold wrap64; omega
def sigs : List UInt8 := [65, 66, 67, 68, 69, 70, 71, 72, 73, 74, 75, 76, 77, 78, 79, 80, 81, 82, 83, 84, 85, 86, 87, 88, 89, 90, 97, 98, 99, 100, 101, 102, 103, 104, 105, 106, 107, 108, 109, 110, 111, 112, 113, 114, 115, 116, 117, 118, 119, 120, 121, 122, 48, 49, 50, 51, 52, 53, 54, 55, 56, 57, 43, 47]
/-- The sign t of a group of m bytes of value v. -/
def sgn (m : Nat) (v : Int) (t : Nat) : UInt8 := if m < t then 61 else sigs.getD ((v / 2 ^ (6 * (3 - t))) % 64).toNat 0
def grp (l : List Int) (i t : Nat) : List UInt8 := (List.range t).map (sgn (min (l.length - i) 3) (gv l i 3))
def sigA : ByteArray := ⟨#[65, 66, 67, 68, 69, 70, 71, 72, 73, 74, 75, 76, 77, 78, 79, 80, 81, 82, 83, 84, 85, 86, 87, 88, 89, 90, 97, 98, 99, 100, 101, 102, 103, 104, 105, 106, 107, 108, 109, 110, 111, 112, 113, 114, 115, 116, 117, 118, 119, 120, 121, 122, 48, 49, 50, 51, 52, 53, 54, 55, 56, 57, 43, 47]⟩
theorem sigA_size : sigA.size = 64 := rfl
theorem sig_at {q : Nat} (h : q < 64) : sigs.getD q 0 = sigA[q]'(by rw [sigA_size]; exact h) := by
  rw [List.getD_eq_getElem?_getD, List.getElem?_eq_getElem (show q < sigs.length from h)]
  rfl
theorem grp_pad {l : List Int} {i t : Nat} (h : min (l.length - i) 3 < t) : grp l i (t + 1) = grp l i t ++ [61] := by
  unfold grp
  rw [List.range_succ, List.map_append]
  show _ ++ [sgn _ _ t] = _
  rw [show sgn (min (l.length - i) 3) (gv l i 3) t = 61 from if_pos h]
theorem grp_sig {l : List Int} {i t : Nat} (h : ¬ min (l.length - i) 3 < t) : grp l i (t + 1) = grp l i t ++ [sigs.getD ((gv l i 3 / 2 ^ (6 * (3 - t))) % 64).toNat 0] := by
  unfold grp
  rw [List.range_succ, List.map_append]
  show _ ++ [sgn _ _ t] = _
  rw [show sgn (min (l.length - i) 3) (gv l i 3) t = sigs.getD ((gv l i 3 / 2 ^ (6 * (3 - t))) % 64).toNat 0 from if_neg h]
def encK (l : List Int) : Nat → List UInt8
  | 0 => []
  | k + 1 => encK l k ++ grp l (3 * k) 4
theorem encK_len (l : List Int) : ∀ k, (encK l k).length = 4 * k
  | 0 => rfl
  | k + 1 => by
    show (encK l k ++ grp l (3 * k) 4).length = _
    rw [List.length_append, encK_len l k]
    simp only [grp, List.length_map, List.length_range]
    omega
def encB (l : List Int) : List UInt8 := encK l ((l.length + 2) / 3)
set_option maxHeartbeats 4000000 in
set_option maxRecDepth 1000000 in
theorem enc_walk (l : List Int) (hl : ∀ x ∈ l, 0 ≤ x ∧ x < 256) (a : Option Addr) (n c : Nat) (hlen : l.length = n) (hn : n ≤ 1099511627776) (w : World) (hcells : ∀ i x, l[i]? = some x → ∃ ad, a = some ad ∧ w.cell? (ad.add i) = some (.int .u8 x)) :
    Calls Tryd.prog 14 #[.slice a n c] w fun e w' => e = .returned (.string ⟨(encB l).toArray⟩) ∧ Below w.heap.size w w' := by
  go_enter Tryd.func14, Tryd.ntmps14
  go_wp2
  go_loopw [4] (fun v wr => ∃ (i k : Nat), v = .int .i64 i ∧ 3 * k = i ∧ i ≤ n + 2 ∧ Lib.IsBuilderF 52 5 w.heap.size w.heap.size (Lib.byteCells (encK l k)) wr ∧ Below w.heap.size w wr) (fun i _ => n + 3 - (intOf i).toNat)
  case atStart =>
    refine ⟨0, 0, rfl, rfl, by omega, Lib.IsBuilderF.of (Lib.fresh_isBuilder 52 5 w), (Below.refl _ w).alloc (Nat.le_refl _) _⟩
  case round =>
    obtain ⟨i, k, rfl, hik, hk, hI, hb⟩ := hrel
    have hal := encK_len l k
    obtain ⟨acc, hacc⟩ : ∃ acc, encK l k = acc := ⟨_, rfl⟩
    rw [hacc] at hI hal
    obtain ⟨wo, rfl⟩ : ∃ wo : World, wo = wr := ⟨_, rfl⟩
    have hsz : w.heap.size ≤ wo.heap.size := hb.size
    by_cases hlt : i < n
    · obtain ⟨ad, rfl, _⟩ := hcells i _ (List.getElem?_eq_getElem (by omega))
      have hcell : ∀ j, j < n → wo.cell? (ad.add j) = some (.int .u8 (l.getD j 0)) := fun j hj => by
        obtain ⟨ad', e, h2⟩ := hcells j _ (List.getElem?_eq_getElem (by omega))
        cases e
        rw [List.getD_eq_getElem?_getD, List.getElem?_eq_getElem (by omega), Option.getD_some]
        rw [hb.cell (cell_lt h2)]; exact h2
      have hg3 := gv_in hl (i) 3
      obtain ⟨m, hmN, hmin⟩ : ∃ m : Nat, min (l.length - i) 3 = m ∧ min ((n : Int) - i) 3 = (m : Int) := ⟨_, rfl, by omega⟩
      clear hcells
      go_wp2
      go_loopw [6, 20] (fun all j wr => wr = wo ∧ ∃ t : Nat, t ≤ 3 ∧ j = .int .i64 t ∧ all = .int .i64 (gv l (i) t)) (fun _ j _ => 3 - (intOf j).toNat)
      case atStart => exact ⟨rfl, 0, by omega, rfl, rfl⟩
      case round =>
        obtain ⟨rfl, t, ht, rfl, rfl⟩ := hrel
        by_cases ht3 : t < 3
        · have hgt := gv_in hl (i) t
          have hp : (256 : Int) ^ t ≤ 65536 := by
            match t, ht3 with
            | 0, _ => decide
            | 1, _ => decide
            | 2, _ => decide
          have hgn : gv l (i) (t + 1) = gv l (i) t * 256 + l.getD (i + t) 0 := rfl
          have hlx := getD_in hl (i + t)
          by_cases hin : i + t < n
          · have htm : t < m := by omega
            have hc := hcell (i + t) hin
            have hor : bits BinOp.or IntKind.i64 (gv l (i) t * 256) (wrap64 (l.getD (i + t) 0)) = gv l (i) (t + 1) := by
              rw [wr64 (by omega) (by omega), or8 (by omega) (by omega) (by omega) hlx.1 hlx.2, hgn]
            have hgd : l.getD (i + t) 0 = l[i + t] := by rw [List.getD_eq_getElem?_getD, List.getElem?_eq_getElem (by omega), Option.getD_some]
            rw [hgd] at hor
            clear hcell hl hgn hlx
            go_wp2
            go_roundw
            case rel => exact ⟨trivial, t + 1, by omega, by simp, by first | rfl | rw [hor]⟩
            case measure => simp [intOf]; omega
          · have htm : ¬ t < m := by omega
            have hz : gv l (i) t * 256 = gv l (i) (t + 1) := by
              rw [hgn, List.getD_eq_getElem?_getD, List.getElem?_eq_none (by omega)]
              simp
            clear hcell hl hgn hlx
            go_wp2
            go_roundw
            case rel => exact ⟨trivial, t + 1, by omega, by simp, by first | rfl | rw [hz]⟩
            case measure => simp [intOf]; omega
        · obtain rfl : t = 3 := by omega
          clear hcell hl
          go_wp2
          go_loopw [38] (fun j wr => ∃ t : Nat, t ≤ 4 ∧ j = .int .i64 t ∧ Lib.IsBuilderF 52 5 w.heap.size w.heap.size (Lib.byteCells (acc ++ grp l (i) t)) wr ∧ Below w.heap.size w wr) (fun j _ => 4 - (intOf j).toNat)
          case atStart => exact ⟨0, by omega, rfl, by simpa [grp] using hI, hb⟩
          case round =>
            obtain ⟨t, ht, rfl, hI2, hb2⟩ := hrel
            have hsz2 : w.heap.size ≤ wr.heap.size := hb2.size
            by_cases ht4 : t < 4
            · have hlb : (Lib.byteCells (acc ++ grp l (i) t)).length + 1 ≤ 140737488355328 := by
                rw [Lib.byteCells_length, List.length_append]
                simp only [grp, List.length_map, List.length_range]
                omega
              by_cases hm : m < t
              · have hmi : (m : Int) < (t : Int) := by omega
                have hs : grp l (i) (t + 1) = grp l (i) t ++ [61] := grp_pad (by rw [hmN]; exact hm)
                go_wp2_with (go_at_call 27; refine (wb_k w.heap.size w.heap.size _ 61 _ hI2 hlb hsz2).mono ?_)
                rintro e W1 ⟨rfl, h1, b1, k1⟩
                go_wp2
                refine ⟨⟨_, _, _, _, _, _, _, _, _, _, _, _, _, _, _, _, _, ⟨t + 1, by omega, ?relA, ?relB, hb2.trans b1⟩, rfl⟩, ?meas⟩
                case relA => simp
                case relB => rw [hs, ← List.append_assoc, Lib.byteCells_append]; exact Or.inr h1
                case meas => simp [intOf]; omega
              · have hmi : (t : Int) ≤ (m : Int) := by omega
                have hmj : t ≤ m := by omega
                have hs : grp l (i) (t + 1) = grp l (i) t ++ [sigs.getD ((gv l (i) 3 / 2 ^ (6 * (3 - t))) % 64).toNat 0] := grp_sig (by rw [hmN]; exact hm)
                obtain ⟨q, hq, hidx⟩ : ∃ q : Nat, q < 64 ∧ gv l (i) 3 / 2 ^ (6 * (3 - t)) % 64 = (q : Int) := ⟨(gv l (i) 3 / 2 ^ (6 * (3 - t)) % 64).toNat, by omega, by omega⟩
                have hidx2 : bits BinOp.and IntKind.i64 (gv l (i) 3 / 2 ^ (6 * (3 - t))) 63 = (q : Int) := by
                  have hp : (0 : Int) < 2 ^ (6 * (3 - t)) := Int.pow_pos (by decide)
                  have h1 : 0 ≤ gv l (i) 3 / 2 ^ (6 * (3 - t)) := Int.ediv_nonneg hg3.1 (by omega)
                  have h2 : gv l (i) 3 / 2 ^ (6 * (3 - t)) ≤ gv l (i) 3 := Int.ediv_le_self _ hg3.1
                  rw [and63 h1 (by have := hg3.2; omega), hidx]
                rw [hidx, Int.toNat_natCast] at hs
                clear hidx hg3
                go_wp2_with (go_at_call 27; refine (wb_k w.heap.size w.heap.size _ _ _ hI2 hlb hsz2).mono ?_)
                rintro e W1 ⟨rfl, h1, b1, k1⟩
                go_wp2
                refine ⟨⟨_, _, _, _, _, _, _, _, _, _, _, _, _, _, _, _, _, ⟨t + 1, by omega, ?relC, ?relD, hb2.trans b1⟩, rfl⟩, ?meaS⟩
                case relC => simp
                case relD =>
                  have key : Lib.byteCells (acc ++ grp l (i) (t + 1)) = Lib.byteCells (acc ++ grp l (i) t) ++ [.int .u8 ((sigA[q]'(by rw [sigA_size]; exact hq)).toNat : Nat)] := by
                    rw [hs, ← List.append_assoc, Lib.byteCells_append, sig_at hq]; rfl
                  rw [key]
                  exact Or.inr h1
                case meaS => simp [intOf]; omega
            · obtain rfl : t = 4 := by omega
              go_wp2
              go_roundw
              case rel =>
                refine ⟨i + 3, k + 1, by simp, by omega, by omega, ?_, hb2⟩
                show Lib.IsBuilderF _ _ _ _ (Lib.byteCells (encK l k ++ grp l (3 * k) 4)) _
                rw [hacc, hik]; exact hI2
              case measure => simp [intOf]; omega
    · go_wp2_with (go_at_call 28; refine (Tryd.Builder_String_any_k w.heap.size w.heap.size acc _ hI (by omega)).mono ?_)
      rintro e W1 ⟨rfl, _, b1, _⟩
      go_wp2
      go_ret
      have e : (l.length + 2) / 3 = k := by omega
      unfold encB
      rw [e, hacc]
      exact ⟨rfl, hb.trans b1⟩
end Go.Proofs.YtgcgdfjldeihkaaDoor
