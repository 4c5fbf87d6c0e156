/- slices.Concat of bytes: by hand. -/
import Derived.Test.YtgcgdfjldeihkaaQClo
import Derived.Shelf.Spec.SlicesGrow
import Derived.LoopTactic
import Derived.Handy
import Derived.RegionTactic
namespace Go.Proofs.Ytgcgdfjldeihkaa
open Go.RowKit Go.Lib Pv
set_option linter.unusedVariables false
def growRen : Go.Shelf.Ren := ⟨fun | 4 => 31 | n => n, fun | 22 => 22 | 25 => 5 | n => n, fun n => n⟩
theorem growLays : Lays8.n4 Try.prog growRen := {
  mixed := by kernel_rfl
  f4 := ⟨"slices.Grow[[]byte,byte]", by decide, Try.func31.trans (congrArg some (by kernel_rfl))⟩
  t0 := Try.underlying0
  a0 := Try.isAgg0
  z0 := Try.sizeOf0
  v0 := Try.zeroValue0
  t3 := Try.underlying3
  a3 := Try.isAgg3
  z3 := Try.sizeOf3
  v3 := Try.zeroValue3
  t4 := Try.underlying4
  a4 := Try.isAgg4
  z4 := Try.sizeOf4
  v4 := Try.zeroValue4
  t9 := Try.underlying9
  a9 := Try.isAgg9
  z9 := Try.sizeOf9
  v9 := Try.zeroValue9
  t20 := Try.underlying20
  a20 := Try.isAgg20
  z20 := Try.sizeOf20
  v20 := Try.zeroValue20
  t22 := Try.underlying22
  a22 := Try.isAgg22
  z22 := Try.sizeOf22
  v22 := Try.zeroValue22 }
/-- Room for so many bytes, out of nothing. -/
theorem grow_nil (n : Nat) (hn : n ≤ 1000000000) (w : World) :
    Calls Try.prog 31 #[.slice none 0 0, .int .i64 n] w fun e w' => ∃ v, e = .returned v ∧ w'.ownsRow w.heap.size 5 1 v 0 [] ∧ Below w.heap.size w w' := by
  obtain ⟨i0, hi, hz0, hz1, hz2⟩ := info_parts infoU
  by_cases h0 : n = 0
  · subst h0
    refine (Any8.slices_Grow_room growLays none 0 0 0 w (Nat.le_refl _) (by omega) (by omega) (Nat.le_refl _)).mono ?_
    rintro e w' ⟨rfl, rfl⟩
    exact ⟨_, rfl, World.ownsRow_nil _ _ _ _, Below.refl _ _⟩
  · refine (Any8.slices_Grow_grow growLays i0 (.int .u8 0) hi hz0 (by rw [hz1]; decide) none 0 0 n [] w (Nat.le_refl _) (by omega) (by rw [hz2]; omega) (by omega) (by simp) (fun _ => rfl) (fun a h => by cases h)).mono ?_
    rintro e w' ⟨rfl, rfl⟩
    have hge := grownCap_ge w (0 + n) 0 5
    have hle := grownCap_le_maxLen w (0 + n) 0 5 (by unfold maxLen; omega)
    refine ⟨_, rfl, World.ownsRow_made w.drew _ _ (Nat.le_refl _) hle ?_, ((Below.refl _ w).drew).alloc (Nat.le_refl _) _⟩
    have e : (Value.int .u8 0).cells.size = 1 := rfl
    show (#[] ++ Builtin.zeroCells (Value.int .u8 0).cells (0 + n - 0) ++ Builtin.zeroCells (Value.int .u8 0).cells (grownCap w (0 + n) 0 5 - (0 + n))).size = grownCap w (0 + n) 0 5 * 1
    rw [Array.size_append, Array.size_append, size_zeroCells, size_zeroCells, e]
    simp only [List.size_toArray, List.length_nil]
    omega
/-- Slices of bytes that lie in a row. -/
def InRow (w : World) (a : Option Addr) (L : List (List Int)) : Prop := ∀ (i : Nat) l, L[i]? = some l → ∃ ad b n c, a = some ad ∧ w.cell? (ad.add i) = some (.slice b n c) ∧ l.length = n ∧ (∀ bd, b = some bd → ∀ (j : Nat) x, l[j]? = some x → w.cell? (bd.add j) = some (.int .u8 x)) ∧ (b = none → l = [])
theorem take_flat {L : List (List Int)} {k : Nat} {l : List Int} (h : L[k]? = some l) : (L.take (k + 1)).flatten = (L.take k).flatten ++ l := by
  rw [List.take_add_one, h, List.flatten_append]
  simp
theorem take_flat_le (L : List (List Int)) (k : Nat) : (L.take k).flatten.length ≤ L.flatten.length := by
  have : L.flatten = (L.take k).flatten ++ (L.drop k).flatten := by rw [← List.flatten_append, List.take_append_drop]
  rw [this, List.length_append]; omega
theorem run_app_none {P : Program} {w : World} (base : Nat) (t ty e : TypeId) (i : TypeInfo) (size : Nat) (ht : P.underlying t = some (.slice e)) (hi : P.info? e = some i) (v : Value) (n c : Nat) (xs : List Value) (hown : w.ownsRow base e size v n xs) :
    (Builtin.append_ #[t, t] ty #[v, .slice none 0 c]).run P w = .ok v w := by
  rcases hown.2 with ⟨rfl, rfl⟩ | ⟨g, cap, cur, rfl, _, _, hnc, _⟩
  · simp [Builtin.append_, run_underlying ht, sizeOf, typeInfo, hi, Builtin.lenOf, Builtin.firstCells]
  · simp [Builtin.append_, run_underlying ht, sizeOf, typeInfo, hi, Builtin.lenOf, Builtin.firstCells, hnc, storeCells]
theorem wpList_app_any {P : Program} {w : World} {ops : Array Oper} {rest : List Oper} {o : Oper} {a : Act} {Q : Exit → Act → World → Prop} (hgd : o.guard = none) (s x : Operand) (t : TypeId)
    (ho : o.op = .call { callee := .builtin .append, args := #[s, x], argTypes := #[t, t] }) (base : Nat) (e : TypeId) (i : TypeInfo) (z : Value) (ht : P.underlying t = some (.slice e)) (hi : P.info? e = some i) (hz : i.zero = some z) (hsize : i.size = 1) (hby : i.bytes = 1) (hzs : z.cells.size = 1)
    (v : Value) (n : Nat) (xs : List Value) (hs : a.eval s = v) (hown : w.ownsRow base e 1 v n xs) (b : Option Addr) (m c : Nat) (l : List Int) (hx : a.eval x = .slice b m c) (hl : l.length = m)
    (hin : ∀ bd, b = some bd → ∀ (j : Nat) y, l[j]? = some y → w.cell? (bd.add j) = some (.int .u8 y)) (hnil : b = none → l = []) (hbytes : n + m ≤ 1000000000) (hbase : base ≤ w.heap.size)
    (h : ∀ v' w', w'.ownsRow base e 1 v' (n + m) (xs ++ l.map (Value.int .u8)) → Below base w w' → wpList P ops Q rest (a.put o.dst v') w') : wpList P ops Q (o :: rest) a w := by
  cases b with
  | none =>
    have hl0 := hnil rfl
    subst hl0
    have hm : m = 0 := hl.symm
    subst hm
    refine wpList_plain hgd fun K hK => ?_
    have hrun := run_app_none (P := P) (w := w) base t o.type e i 1 ht hi v n c xs hown
    unfold Oper.wp
    simp [execOp, ho, resolve, invoke, builtin, hs, hx, hrun, Result.andThen]
    exact hK _ _ (h v w (by simpa using hown) (Below.refl _ _))
  | some ad =>
    refine wpList_append_own w hgd s x t ho base e i z 1 1 ht hi hz hsize hby hzs (by omega) v n xs hs hown ad m c (l.map (Value.int .u8)) hx (by rw [List.length_map, hl, Nat.mul_one]) (fun j u hj => ?_) (fun u hu => ?_) (by unfold maxLen; omega) (by omega) hbase fun v' w' h1 h2 _ => h v' w' h1 ((Below.refl _ w).grown h2 hbase fun k hk => ?_)
    · rw [List.getElem?_map] at hj
      obtain ⟨y, hy, rfl⟩ := Option.map_eq_some_iff.1 hj
      exact hin ad rfl j y hy
    · obtain ⟨y, _, rfl⟩ := List.mem_map.1 hu
      rfl
    · rcases hown.2 with ⟨rfl, _⟩ | ⟨b0, cap, cur, rfl, hb0, _⟩
      · simp [Value.ownBlock] at hk
      · simp [Value.ownBlock] at hk
        omega
theorem InRow.below {w w' : World} {a : Option Addr} {L : List (List Int)} (h : InRow w a L) (hb : Below w.heap.size w w') : InRow w' a L := fun i l hl => by
  obtain ⟨ad, b, n, c, h1, h2, h3, h4, h5⟩ := h i l hl
  have keep : ∀ {p : Addr} {u : Value}, w.cell? p = some u → w'.cell? p = some u := fun {p u} hp => by rw [hb.cell (block_lt_of_cell hp)]; exact hp
  exact ⟨ad, b, n, c, h1, keep h2, h3, fun bd hbd j x hx => keep (h4 bd hbd j x hx), h5⟩
set_option maxHeartbeats 8000000 in
set_option maxRecDepth 1000000 in
theorem cat_walk (a : Option Addr) (m c : Nat) (L : List (List Int)) (w : World) (hm : L.length = m) (hm2 : m ≤ 100000000) (hb : L.flatten.length ≤ 100000000) (hc : Aside (InRow w a L)) :
    Calls Try.prog 22 #[.slice a m c] w fun e w' => ∃ v, e = .returned v ∧ w'.ownsRow w.heap.size 5 1 v L.flatten.length (L.flatten.map (Value.int .u8)) ∧ Below w.heap.size w w' := by
  obtain ⟨i0, hi, hz0, hz1, hz2⟩ := info_parts infoU
  go_enter Try.func22, Try.ntmps22
  go_wp2
  go_loopw [3, 11] (fun s i wr => wr = w ∧ ∃ k : Nat, k ≤ m ∧ i = .int .i64 k ∧ s = .int .i64 ((L.take k).flatten.length : Nat)) (fun _ i _ => m - (RowKit.intOf i).toNat)
  case atStart => exact ⟨rfl, 0, Nat.zero_le _, rfl, rfl⟩
  case round =>
    obtain ⟨hwr, k, hk, rfl, rfl⟩ := hrel
    have hwr := hwr.symm
    subst hwr
    have hle := take_flat_le L k
    obtain ⟨s, hs⟩ : ∃ s, (L.take k).flatten.length = s := ⟨_, rfl⟩
    rw [hs] at hle ⊢
    by_cases hlt : k < m
    · obtain ⟨l, hl⟩ : ∃ l, L[k]? = some l := ⟨L[k]'(by omega), List.getElem?_eq_getElem (by omega)⟩
      obtain ⟨ad, b, n, c', ha, hcell, hn, _⟩ := hc.out k l hl
      have hs2 : (L.take (k + 1)).flatten.length = s + n := by rw [take_flat hl, List.length_append, hs, hn]
      have hle2 := take_flat_le L (k + 1)
      rw [hs2] at hle2
      subst ha
      go_wp2
      go_roundw
      case rel => exact ⟨trivial, k + 1, by omega, by simp, by rw [hs2]; simp⟩
      case measure => simp [RowKit.intOf]; omega
    · have hkm : k = m := by omega
      subst hkm
      have hall : L.take k = L := List.take_of_length_le (by omega)
      rw [hall] at hs
      go_wp2_with (go_at_call 31; (with_reducible refine (grow_nil s (by omega) _).mono ?_); rintro e w1 ⟨v, rfl, hown, hbel⟩)
      go_loopw [6, 27] (fun v i wr => ∃ j : Nat, j ≤ k ∧ i = .int .i64 j ∧ wr.ownsRow w.heap.size 5 1 v (L.take j).flatten.length ((L.take j).flatten.map (Value.int .u8)) ∧ Below w.heap.size w wr) (fun _ i _ => k - (RowKit.intOf i).toNat)
      case atStart => exact ⟨0, Nat.zero_le _, rfl, by simpa using hown, hbel⟩
      case round =>
        obtain ⟨j, hj, rfl, hown2, hbel2⟩ := hrel
        by_cases hlt2 : j < k
        · obtain ⟨l, hl⟩ : ∃ l, L[j]? = some l := ⟨L[j]'(by omega), List.getElem?_eq_getElem (by omega)⟩
          obtain ⟨ad, b, n, c', ha, hcell, hn, hin, hnil⟩ := hc.out j l hl
          subst ha
          have hs2 : (L.take (j + 1)).flatten = (L.take j).flatten ++ l := take_flat hl
          have hle2 := take_flat_le L (j + 1)
          rw [hs2, List.length_append, hn] at hle2
          have keep : ∀ {p : Addr} {u : Value}, w.cell? p = some u → wr.cell? p = some u := fun {p u} hp => by rw [hbel2.cell (block_lt_of_cell hp)]; exact hp
          have hcell2 := keep hcell
          have B : Aside (Below w.heap.size w wr ∧ wr.ownsRow w.heap.size 5 1 u6 (L.take j).flatten.length ((L.take j).flatten.map (Value.int .u8)) ∧ (∀ bd, b = some bd → ∀ (i : Nat) y, l[i]? = some y → wr.cell? (bd.add i) = some (.int .u8 y)) ∧ (b = none → l = []) ∧ l.length = n ∧ (L.take (j + 1)).flatten = (L.take j).flatten ++ l ∧ (L.take j).flatten.length + n ≤ 1000000000) := ⟨hbel2, hown2, fun bd hbd i y hy => keep (hin bd hbd i y hy), hnil, hn, hs2, by omega⟩
          clear hbel2 hown2 hin hnil hs2 hle2 keep hcell hown hbel hs hall
          go_wp2_with (at_builtin; refine wpList_app_any rfl _ _ 22 rfl w.heap.size 5 i0 (.int .u8 0) Try.underlying22 hi hz0 hz1 hz2 rfl _ _ _ rfl B.out.2.1 b n c' l rfl B.out.2.2.2.2.1 B.out.2.2.1 B.out.2.2.2.1 B.out.2.2.2.2.2.2 B.out.1.size ?_; intro v2 w2 hown3 hbel3)
          go_roundw
          case rel =>
            refine ⟨j + 1, by omega, by simp, ?_, B.out.1.trans hbel3⟩
            rw [B.out.2.2.2.2.2.1, List.length_append, List.map_append, B.out.2.2.2.2.1]
            exact hown3
          case measure => simp [RowKit.intOf]; omega
        · have hjk : j = k := by omega
          subst hjk
          rw [hall] at hown2
          go_wp2
          go_ret
          rw [hs] at hown2 ⊢
          exact ⟨_, rfl, hown2, hbel2⟩
/-- Slices of bytes, as a contract meets them. -/
theorem inRow_of {w : World} {C : Com} {L : List (List Int)} {cs : List Value} (h : RepD w C (.sl (.sl (.int .u8))) L cs) : ∃ a m c, cs = [.slice a m c] ∧ L.length = m ∧ InRow w a L ∧ ∀ l ∈ L, ∀ x ∈ l, (Lit.int .u8 x).wf = true := by
  obtain ⟨a, n, c, e0, e1, e2, e3, e4⟩ := h
  have key : ∀ (i : Nat) (l : List Int), L[i]? = some l → (∃ ad b n c, a = some ad ∧ w.cell? (ad.add i) = some (.slice b n c) ∧ l.length = n ∧ (∀ bd, b = some bd → ∀ (j : Nat) x, l[j]? = some x → w.cell? (bd.add j) = some (.int .u8 x)) ∧ (b = none → l = [])) ∧ ∀ x ∈ l, (Lit.int .u8 x).wf = true := fun i l hl => by
    obtain ⟨ad, us, h1, h2, h3, h4⟩ := e4 i l hl
    obtain ⟨b, n', c', f0, f1, f2, f3, f4, f5, f6⟩ := ints_of h4
    have := (h3 0 (.slice b n' c') (by rw [f0]; rfl)).1
    rw [show (Ty.sl (Ty.int .u8)).size = 1 from rfl, Nat.mul_one, Nat.add_zero] at this
    exact ⟨⟨ad, b, n', c', h1, this, f1, f5, f6⟩, f4⟩
  refine ⟨a, n, c, e0, e1, fun i l hl => (key i l hl).1, fun l hl x hx => ?_⟩
  obtain ⟨i, hi⟩ := List.mem_iff_getElem?.1 hl
  exact (key i l hi).2 x hx
theorem F_slices_Concat_byte_byte_sound {T : Tab} : SoundFn Try.prog T 22 F_slices_Concat_byte_byte_sig ⟨F_slices_Concat_byte_byte⟩ := by
  refine sound_of rfl fun F g O xs ls y tmf w args hT hw hlim hls happ hsz hr => ?_
  obtain ⟨(L : List (List Int)), xs', rfl, h2⟩ := appF_inv_c (ts := []) happ
  obtain ⟨rfl, h3⟩ := appF_inv_n h2
  have hls' : some [Leaf.d (.sl (.sl (.int .u8))) L] = some ls := hls
  injection hls' with hls'
  subst hls'
  obtain ⟨a, m, c, e0, e1, e2, e3⟩ := inRow_of (rel_leaf.1 (hr 0))
  have e0 : args.getD 0 undef = .slice a m c := by injection e0
  rw [args_1 hsz, e0]
  have h3 : cond (Nat.ble L.flatten.length 100000000 && Nat.ble L.length 100000000) (some L.flatten) none = some y := h3
  cases hb : (Nat.ble L.flatten.length 100000000 && Nat.ble L.length 100000000) with
  | false => rw [hb] at h3; cases h3
  | true =>
    rw [hb] at h3
    have hy : L.flatten = y := by injection h3
    rw [Bool.and_eq_true] at hb
    have b1 := Nat.le_of_ble_eq_true hb.1
    have b2 := Nat.le_of_ble_eq_true hb.2
    subst hy
    refine (cat_walk a m c L w e1 (by omega) b1 e2).mono ?_
    rintro e w' ⟨v, rfl, h1, h2⟩
    exact own_row (l := L.flatten) hw hlim h2 h1 (fun x hx => by obtain ⟨l, hl, hx⟩ := List.mem_flatten.1 hx; exact e3 l hl x hx) rfl rfl
end Go.Proofs.Ytgcgdfjldeihkaa
