/- Pure evaluation of the model's code: operations that only compute. -/
import Derived.Test.YtgcgdfjldeihkaaPo
import Derived.Great.BuildSlice
import Derived.Laws.BytesArg
import Derived.Laws.Strings
namespace Go.Proofs.Ytgcgdfjldeihkaa
namespace Pv
set_option linter.unusedVariables false

/-! ### strings -/
theorem bytes_len (s : ByteArray) : (bytesL s).length = s.size := by simp [bytesL]
theorem bytes_get (s : ByteArray) (j : Nat) : (bytesL s)[j]? = s[j]?.map byteI := by
  have : s[j]? = s.data.toList[j]? := by
    simp only [getElem?_def]
    rfl
  rw [this]; simp [bytesL]
theorem data_extract (s : ByteArray) (i j : Nat) : (s.extract i j).data = s.data.extract i j := by simp
theorem bytes_extract (s : ByteArray) (i j : Nat) : bytesL (s.extract i j) = ((bytesL s).take j).drop i := by
  simp only [bytesL, data_extract, Array.toList_extract, List.map_drop, List.map_take]
  rw [List.drop_take]
theorem bytes_append (x y : ByteArray) : bytesL (x ++ y) = bytesL x ++ bytesL y := by simp [bytesL]
theorem byteI_inj {a b : UInt8} (h : byteI a = byteI b) : a = b := by
  have : a.toNat = b.toNat := by unfold byteI at h; omega
  exact UInt8.toNat_inj.1 this
theorem map_inj : ∀ {x y : List UInt8}, x.map byteI = y.map byteI → x = y
  | [], [], _ => rfl
  | [], _ :: _, h => by cases h
  | _ :: _, [], h => by cases h
  | a :: x, b :: y, h => by
    simp only [List.map_cons, List.cons.injEq] at h
    rw [byteI_inj h.1, map_inj h.2]
theorem toList_data (s : ByteArray) : s.toList = s.data.toList := ByteArray.toList_eq s
theorem bytes_eq (x y : ByteArray) : (x.toList == y.toList) = (bytesL x == bytesL y) := by
  rw [toList_data, toList_data, Bool.eq_iff_iff, beq_iff_eq, beq_iff_eq]
  exact ⟨fun h => by unfold bytesL; rw [h], map_inj⟩
theorem less_bytes : ∀ (x y : List UInt8), Op.bytesLess x y = lessL (x.map byteI) (y.map byteI)
  | [], [] => rfl
  | [], _ :: _ => rfl
  | _ :: _, [] => rfl
  | a :: x, b :: y => by
    show (decide (a < b) || (a == b && Op.bytesLess x y)) = (decide (byteI a < byteI b) || (byteI a == byteI b && lessL (x.map byteI) (y.map byteI)))
    rw [less_bytes x y]
    have h1 : decide (a < b) = decide (byteI a < byteI b) := by
      rw [decide_eq_decide, UInt8.lt_iff_toNat_lt]; unfold byteI; omega
    have h2 : (a == b) = (byteI a == byteI b) := by
      rw [Bool.eq_iff_iff, beq_iff_eq, beq_iff_eq]
      exact ⟨fun e => by rw [e], byteI_inj⟩
    rw [h1, h2]
theorem bytes_less (x y : ByteArray) : Op.bytesLess x.toList y.toList = lessL (bytesL x) (bytesL y) := by
  rw [toList_data, toList_data]; exact less_bytes _ _
theorem byte_wf (c : UInt8) : (Lit.int .u8 (byteI c)).wf = true := by
  have := UInt8.toNat_lt c
  simp [Lit.wf, IntKind.min, IntKind.max, IntKind.signed, IntKind.bits, byteI]
  omega
theorem wf_range {k : IntKind} {n : Int} : (Lit.int k n).wf = true ↔ k.min ≤ n ∧ n ≤ k.max := by simp [Lit.wf]
theorem tmod_wf {k : IntKind} {x y : Int} (hx : (Lit.int k x).wf = true) : (Lit.int k (x.tmod y)).wf = true := by
  rw [wf_range] at *
  have h0 : k.min ≤ 0 ∧ 0 ≤ k.max := by cases k <;> simp [IntKind.min, IntKind.max, IntKind.signed, IntKind.bits]
  rcases Int.le_total 0 x with h | h
  · have h1 := Int.tmod_nonneg y h
    have h2 : x.tmod y ≤ x := by
      rw [Int.tmod_def]
      have := Int.mul_tdiv_self_le h (k := y)
      have h3 : 0 ≤ y * x.tdiv y := by
        rcases Int.le_total 0 y with hy | hy
        · exact Int.mul_nonneg hy (Int.tdiv_nonneg h hy)
        · exact Int.mul_nonneg_of_nonpos_of_nonpos hy (Int.tdiv_nonpos_of_nonneg_of_nonpos h hy)
      omega
    omega
  · have e : x.tmod y = -((-x).tmod y) := by rw [Int.neg_tmod]; omega
    have h1 := Int.tmod_nonneg y (show 0 ≤ -x by omega)
    have h2 : (-x).tmod y ≤ -x := by
      rw [Int.tmod_def]
      have h3 : 0 ≤ y * (-x).tdiv y := by
        rcases Int.le_total 0 y with hy | hy
        · exact Int.mul_nonneg hy (Int.tdiv_nonneg (by omega) hy)
        · exact Int.mul_nonneg_of_nonpos_of_nonpos hy (Int.tdiv_nonpos_of_nonneg_of_nonpos (by omega) hy)
      omega
    omega
theorem fdiv_pow_wf {k : IntKind} {x : Int} (n : Nat) (hx : (Lit.int k x).wf = true) : (Lit.int k (x.fdiv (2 ^ n))).wf = true := by
  rw [wf_range] at *
  have hp : (0 : Int) < 2 ^ n := Int.pow_pos (by omega)
  have e : x.fdiv (2 ^ n) = x / 2 ^ n := by rw [Int.fdiv_eq_ediv_of_nonneg x (by omega)]
  rw [e]
  rcases Int.le_total 0 x with h | h
  · have h1 := Int.ediv_nonneg h (show (0 : Int) ≤ 2 ^ n by omega)
    have h2 := Int.ediv_le_self (2 ^ n) h
    have h0 : k.min ≤ 0 := by cases k <;> simp [IntKind.min, IntKind.signed, IntKind.bits]
    omega
  · have h0 : 0 ≤ k.max := by cases k <;> simp [IntKind.max, IntKind.signed, IntKind.bits]
    have h1 : x ≤ x / 2 ^ n := by
      rw [Int.le_ediv_iff_mul_le hp]
      have := Int.mul_nonneg (show 0 ≤ -x by omega) (show (0 : Int) ≤ 2 ^ n - 1 by omega)
      rw [Int.neg_mul, Int.mul_sub, Int.mul_one] at this
      omega
    have h2 : x / 2 ^ n ≤ 0 := by
      have := Int.ediv_le_ediv hp h
      simpa using this
    omega
theorem len_wf {n : Nat} (h : n ≤ maxLen) : (Lit.int .i64 (n : Int)).wf = true := by
  unfold maxLen at h
  simp [Lit.wf, IntKind.min, IntKind.max, IntKind.signed, IntKind.bits]
  omega

section
variable {E : Env} {F : Fr} {g : Gh} {st : PSt} {a : Act} {w : World} {o : Oper} {R : Type} {C : Upd → Option R} {r : R} {tmf : Nat → Value} {O : Tok → Bool} {P : Program}
theorem go_move (h : MRel F g st (tm a) w) {x : Operand} (hop : o.op = .move x ∨ o.op = .assign x) (hv : pvU E o st (evK st.kn st.φ) C = some r) : Goes E F g st a w o C r := by
  have hx := norm_rel (P := E.P) (ty := o.type) h.blk0 (ev_rel h x)
  have hns := norm_nospec (P := E.P) (ty := o.type) (ev_nospec (kn := st.kn) (φ := st.φ) x)
  have hrun : (execOp a.eval o).run E.P w = .ok (.value (a.eval x)) w := by rcases hop with ho | ho <;> simp [execOp, ho]
  rcases hop with ho | ho
  · simp only [pvU, ho] at hv
    split at hv
    · cases hv
    · cases hv
    · exact goes_same h hrun hx hns hv
  · simp only [pvU, ho] at hv
    split at hv
    · cases hv
    · cases hv
    · exact goes_same h hrun hx hns hv
theorem go_indexS (h : MRel F g st (tm a) w) {t : TypeId} {x i : Operand} (hop : o.op = .index t x i) (hus : E.P.underlying t = some .string) (hv : pvU E o st (evK st.kn st.φ) C = some r) : Goes E F g st a w o C r := by
  simp only [pvU, hop] at hv
  have hx := ev_rel h x
  have hi := ev_rel h i
  split at hv
  · rename_i l j hu he hj
    rw [he] at hx
    obtain ⟨ik, hi', _⟩ := int_rel hj hi
    obtain ⟨s, hs, hl, hsz⟩ := rel_str hx
    obtain ⟨c, hc, hv⟩ := Option.bind_eq_some_iff.1 hv
    obtain ⟨h0, hget, hlt⟩ := getI_some hc
    have hget' : (bytesL s)[j.toNat]? = some c := by rw [hl]; exact hget
    rw [bytes_get] at hget'
    obtain ⟨c8, hc8, rfl⟩ := Option.map_eq_some_iff.1 hget'
    exact goes_same h (v := .int .u8 (byteI c8)) (p := pint .u8 (byteI c8)) (by simp [execOp, hop, hs, hi', Instr.index, asIntOf, run_underlying hu, h0, hc8, byteI]) (mk_int (byte_wf c8)) (fun _ _ _ _ e => by cases e) hv
  · rename_i hu _ _; rw [hu] at hus; cases hus
  · cases hv
theorem run_bound {P : Program} {w : World} (k : IntKind) (i : Int) (y : Nat) (code : BoundsCode) (h0 : 0 ≤ i) (h1 : i ≤ y) : (Instr.sliceBound (.int k i) y code).run P w = .ok i.toNat w := run_sliceBound w k i y code h0 h1
theorem bound_rel (h : MRel F g st (tm a) w) {x : Option Operand} {d l : Int} (hb : boundP (evK st.kn st.φ) x d = some l) : (x = none ∧ l = d) ∨ ∃ y k, x = some y ∧ a.eval y = .int k l := by
  unfold boundP at hb
  split at hb
  · exact .inl ⟨rfl, (Option.some.inj hb).symm⟩
  · rename_i y
    obtain ⟨k, hk, _⟩ := int_rel hb (ev_rel h y)
    exact .inr ⟨y, k, rfl, hk⟩
theorem cutI_some {α : Type} {l r : List α} {lo hi : Int} (h : cutI l lo hi = some r) : 0 ≤ lo ∧ lo ≤ hi ∧ hi ≤ (l.length : Int) ∧ r = (l.take hi.toNat).drop lo.toNat := by
  unfold cutI at h
  cases hc : (decide (0 ≤ lo) && decide (lo ≤ hi) && decide (hi ≤ (l.length : Int))) with
  | false => rw [hc] at h; cases h
  | true =>
    rw [hc] at h
    simp only [Bool.and_eq_true, decide_eq_true_eq] at hc
    exact ⟨hc.1.1, hc.1.2, hc.2, (Option.some.inj h).symm⟩
theorem go_slice (h : MRel F g st (tm a) w) {t : TypeId} {x : Operand} {lo hi mx : Option Operand} (hop : o.op = .slice t x lo hi mx) (hv : pvU E o st (evK st.kn st.φ) C = some r) : Goes E F g st a w o C r := by
  simp only [pvU, hop] at hv
  have hx := ev_rel h x
  split at hv
  · rename_i hu
    split at hv
    · rename_i l he
      rw [he] at hx
      obtain ⟨s, hs, hl, hsz⟩ := rel_str hx
      split at hv
      · rename_i lo' hi' hlo hhi
        obtain ⟨q, hq, hv⟩ := Option.bind_eq_some_iff.1 hv
        obtain ⟨h0, h1, h2, rfl⟩ := cutI_some hq
        have hlen : (List.length (α := Int) l : Int) = (s.size : Int) := by rw [← hl, bytes_len]
        rw [hlen] at h2
        have hlen' : ((l : List Int).length : Int) = (s.size : Int) := hlen
        refine goes_same h (v := .string (s.extract lo'.toNat hi'.toNat)) (p := pstr _) ?_ (mk_str (by rw [bytes_extract, hl]) (by simp; omega)) (fun _ _ _ _ e => by cases e) hv
        have hb : (Instr.sliceBounds false s.size s.size (lo.map a.eval) (hi.map a.eval) none).run E.P w = .ok (lo'.toNat, hi'.toNat, s.size) w := by
          rcases bound_rel h hlo with ⟨rfl, rfl⟩ | ⟨y, k, rfl, hy⟩ <;> rcases bound_rel h hhi with ⟨rfl, rfl⟩ | ⟨y', k', rfl, hy'⟩
          · simp [Instr.sliceBounds]; omega
          · simp [Instr.sliceBounds, hy', run_bound k' hi' s.size _ (by omega) h2]
          · have h3 : lo' ≤ (s.size : Int) := by omega
            simp [Instr.sliceBounds, hy, run_bound k lo' s.size _ h0 h3]; omega
          · have h3 : lo' ≤ ((hi'.toNat : Nat) : Int) := by omega
            simp [Instr.sliceBounds, hy, hy', run_bound k' hi' s.size _ (by omega) h2, run_bound k lo' hi'.toNat _ h0 h3]
        simp [execOp, hop, hs, Instr.sliceAt, Instr.slice, run_underlying hu, hb]
      · cases hv
    · cases hv
  · rename_i e hu
    split at hv
    · rename_i ty l n hsl hn
      split at hv
      · rename_i lo' hi' hnt hlo hhi
        have hnt' : n = ty.size := by simpa using hnt
        obtain ⟨q, hq, hv⟩ := Option.bind_eq_some_iff.1 hv
        obtain ⟨h0, h1, h2, rfl⟩ := cutI_some hq
        obtain ⟨sa, sn, sc, e1, e2, e3, e4, e5⟩ := slP_rep hsl hx
        have hxv : a.eval x = .slice sa sn sc := by simpa using e1
        have hlen : (l.length : Int) = (sn : Int) := by rw [show l.length = sn from e2]
        rw [hlen] at h2
        refine goes_same h (v := .slice (if sc = lo'.toNat then sa else sa.map (·.add (lo'.toNat * n))) (hi'.toNat - lo'.toNat) (sc - lo'.toNat)) (p := .w false [.d (.sl ty) ((l.take hi'.toNat).drop lo'.toNat)]) ?_ (rel_leaf.2 ⟨_, _, _, rfl, ?_, by omega, by omega, fun i y hy => ?_⟩) (fun _ _ _ _ e => by cases e) hv
        · have hb : (Instr.sliceBounds true sn sc (lo.map a.eval) (hi.map a.eval) none).run E.P w = .ok (lo'.toNat, hi'.toNat, sc) w := by
            rcases bound_rel h hlo with ⟨rfl, rfl⟩ | ⟨y, k, rfl, hy⟩ <;> rcases bound_rel h hhi with ⟨rfl, rfl⟩ | ⟨y', k', rfl, hy'⟩
            · simp [Instr.sliceBounds]; omega
            · simp [Instr.sliceBounds, hy', run_bound k' hi' sc _ (by omega) (by omega)]
            · have h3 : lo' ≤ (sn : Int) := by omega
              simp [Instr.sliceBounds, hy, run_bound k lo' sn _ h0 h3]; omega
            · have h3 : lo' ≤ ((hi'.toNat : Nat) : Int) := by omega
              simp [Instr.sliceBounds, hy, hy', run_bound k' hi' sc _ (by omega) (by omega), run_bound k lo' hi'.toNat _ h0 h3]
          simp [execOp, hop, hxv, Instr.sliceAt, Instr.slice, run_underlying hu, hb, run_sizeOf hn]
        · show ((l.take hi'.toNat).drop lo'.toNat).length = _
          rw [List.length_drop, List.length_take]
          omega
        · have hy' : ((l.take hi'.toNat).drop lo'.toNat)[i]? = some y := hy
          rw [List.getElem?_drop, List.getElem?_take] at hy'
          split at hy'
          · rename_i hlt
            obtain ⟨ad, us, rfl, e6, e7, e8⟩ := e5 (lo'.toNat + i) y hy'
            have hne : ¬ sc = lo'.toNat := by omega
            refine ⟨ad.add (lo'.toNat * n), us, by rw [if_neg hne]; rfl, e6, fun j u hj => ?_, e8⟩
            have := e7 j u hj
            rw [add_add, add_block, add_off, Nat.add_assoc, hnt', show lo'.toNat * ty.size + (i * ty.size + j) = (lo'.toNat + i) * ty.size + j by rw [Nat.add_mul]; omega]
            exact this
          · cases hy'
      · cases hv
    · cases hv
  · rename_i e m hu
    split at hv
    · rename_i ty l hsl hlo hhi hm
      obtain ⟨sa, sn, sc, e1, e2, e3, e4, e5⟩ := slP_rep hsl hx
      have hxv : a.eval x = .slice sa sn sc := by simpa using e1
      obtain ⟨mk, hmk, _⟩ := int_rel hm (ev_rel h m)
      obtain ⟨y, rfl, hhi'⟩ := Option.bind_eq_some_iff.1 hhi
      obtain ⟨hk, hhk, _⟩ := int_rel hhi' (ev_rel h y)
      have hb : (Instr.sliceBounds true sn sc (lo.map a.eval) (some (a.eval y)) (some (a.eval m))).run E.P w = .ok (0, 0, 0) w := by
        rcases bound_rel h hlo with ⟨rfl, _⟩ | ⟨z, k, rfl, hz⟩
        · simp [Instr.sliceBounds, hmk, hhk, run_bound mk 0 sc _ (Int.le_refl 0) (by omega), run_bound hk 0 0 _ (Int.le_refl 0) (by omega)]
        · simp [Instr.sliceBounds, hmk, hhk, hz, run_bound mk 0 sc _ (Int.le_refl 0) (by omega), run_bound hk 0 0 _ (Int.le_refl 0) (by omega), run_bound k 0 0 _ (Int.le_refl 0) (by omega)]
      split at hv
      case h_2 => cases hv
      rename_i n hn
      refine goes_same h (v := .slice sa 0 0) (p := .w false [.own .zero e ty []]) ?_ ⟨_, repLs_single.2 ⟨⟨sa, 0, 0, rfl, rfl, Nat.le_refl _, by omega, fun i x hx => by simp at hx⟩, fun _ => ⟨_, rfl, .inl ⟨sa, rfl, rfl, h.blk0⟩⟩⟩, rfl⟩ (fun _ _ _ _ e => by cases e) hv
      simp [execOp, hop, hxv, Instr.sliceAt, Instr.slice, run_underlying hu, hb, run_sizeOf hn]
    · cases hv
  · cases hv
end
end Pv
end Go.Proofs.Ytgcgdfjldeihkaa
