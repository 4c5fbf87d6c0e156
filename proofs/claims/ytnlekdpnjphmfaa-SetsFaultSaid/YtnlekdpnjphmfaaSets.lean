/- Settings: what Apply and the reference's Apply compute. -/
import Derived.Test.YtnlekdpnjphmfaaGSets
import Derived.Test.YtnlekdpnjphmfaaVco
import Derived.Laws.BitsLemmas
namespace Go.Proofs.Ytnlekdpnjphmfaa
open Vc
set_option linter.unusedVariables false
abbrev S6 := Int × Int × Int × Int × Int × Int
def encS : S6 → Value | (a, b, c, d, e, f) => .agg #[.int .i64 a, .int .i64 b, .int .i64 c, .int .i64 d, .int .i64 e, .int .i64 f]
abbrev R9 := S6 × Bool × Bool × Int
def encR : R9 → Value | (s, p, q, i) => .tuple #[encS s, .agg #[.bool p, .bool q, .int .i64 i]]
def cap31 (i : Int) : Int := if 2147483647 < i then 2147483647 else i
def stepA (s : S6) (x : Int × Int) : S6 := match s with
  | (a, b, c, d, e, f) => cond (x.1 == 1) (cap31 x.2, b, c, d, e, f) (cond (x.1 == 2) (a, x.2, c, d, e, f) (cond (x.1 == 3) (a, b, cap31 x.2, d, e, f)
      (cond (x.1 == 4) (a, b, c, x.2, e, f) (cond (x.1 == 5) (a, b, c, d, x.2, f) (cond (x.1 == 6) (a, b, c, d, e, cap31 x.2) (a, b, c, d, e, f))))))
def zeroS : S6 := (0, 0, 0, 0, 0, 0)
def wrongA (x : Int × Int) : Int := F_sets_wrong x.1 x.2
def runA : S6 → List (Int × Int) → R9
  | s, [] => (s, false, false, 0)
  | s, x :: l => cond (wrongA x != 0) (zeroS, true, true, wrongA x) (runA (stepA s x) l)
theorem wrap1 {k n : Nat} (h : k < n) (hn : n ≤ 2 ^ 62) : IntKind.i64.wrap ((k : Int) + 1) = ((k + 1 : Nat) : Int) := by
  rw [IntKind.wrap_i64]; omega
theorem drop_at {α : Type} {l : List α} {k : Nat} {x : α} (h : l[k]? = some x) : l.drop k = x :: l.drop (k + 1) := by
  obtain ⟨hlt, rfl⟩ := List.getElem?_eq_some_iff.1 h
  exact List.drop_eq_getElem_cons hlt
theorem get_some {α : Type} {l : List α} {k : Nat} (h : k < l.length) : ∃ x, l[k]? = some x := ⟨l[k], by simp [h]⟩
theorem c_Apply (s : S6) (l : List (Int × Int)) (a : Option Addr) (n c : Nat) (v : World) (hl : l.length = n) (hn : n ≤ 2 ^ 62) (hr : RowsAt v a 2 (l.map enc2)) :
    CallsV Try.prog 21 #[encS s, .slice a n c] v fun r v' => r = encR (runA s l) ∧ Pad v v' := by
  obtain ⟨i1, i2, i3, i4, i5, i6⟩ := s
  refine fn_sound (E := E) Try.func21 (Eq.mpr (t_sets_Apply i1 i2 i3 i4 i5 i6 a n c v _) ?_)
  refine ⟨fun i a1 a2 a3 a4 a5 a6 z1 z2 z3 z4 z5 z6 b1 b2 z7 v1 => 0 ≤ i ∧ i ≤ n ∧ (z1 = 0 ∧ z2 = 0 ∧ z3 = 0 ∧ z4 = 0 ∧ z5 = 0 ∧ z6 = 0 ∧ b1 = false ∧ b2 = false ∧ z7 = 0) ∧ Pad v v1 ∧ runA (i1, i2, i3, i4, i5, i6) l = runA (a1, a2, a3, a4, a5, a6) (l.drop i.toNat),
    fun i _ _ _ _ _ _ _ _ _ _ _ _ _ _ _ _ => ((n : Int) - i).toNat, ⟨by omega, by omega, ⟨rfl, rfl, rfl, rfl, rfl, rfl, rfl, rfl, rfl⟩, (Pad.refl : Pad v v).hv.hv.hv, by simp⟩, ?_⟩
  rintro i a1 a2 a3 a4 a5 a6 z1 z2 z3 z4 z5 z6 b1 b2 z7 v1 ⟨h0, h1, ⟨rfl, rfl, rfl, rfl, rfl, rfl, rfl, rfl, rfl⟩, hp, he⟩
  obtain ⟨k, rfl⟩ : ∃ k : Nat, i = k := ⟨i.toNat, by omega⟩
  rw [Int.toNat_natCast] at he ⊢
  refine bcase_of (fun h => ?_) (fun h => ?_)
  · have hlt : k < n := by simpa using h
    obtain ⟨x, hx⟩ := get_some (l := l) (k := k) (by omega)
    obtain ⟨ad, ha, hc⟩ := hr.ext hp.ext k (enc2 x) (by simp [hx])
    have hrow := hr.ext hp.ext
    refine ⟨ad, ha, h0, by omega, x.1, hrow.at ha (i := k) (cs := enc2 x) (by simp [hx]) (j := 0) rfl, x.2, hrow.at ha (i := k) (cs := enc2 x) (by simp [hx]) (j := 1) rfl, ?_⟩
    refine (c_sets_wrong x.1 x.2 _).mono ?_
    rintro r v2 ⟨rfl, hx2⟩
    refine ⟨_, rfl, ?_⟩
    rw [drop_at hx] at he
    have hp2 : Pad v v2 := hp.hv.trans hx2
    refine bcase_of (fun hw => ?_) (fun hw => ?_)
    · refine ⟨?_, hp2⟩
      rw [he]
      have hw' : (wrongA x != 0) = true := hw
      simp only [runA, hw', cond_true]
      rfl
    · have hw' : (wrongA x != 0) = false := hw
      simp only [runA, hw', cond_false] at he
      have next : ∀ q1 q2 q3 q4 q5 q6, stepA (a1, a2, a3, a4, a5, a6) x = (q1, q2, q3, q4, q5, q6) →
          (0 ≤ IntKind.i64.wrap ((k : Int) + 1) ∧ IntKind.i64.wrap ((k : Int) + 1) ≤ n ∧ ((0 : Int) = 0 ∧ (0 : Int) = 0 ∧ (0 : Int) = 0 ∧ (0 : Int) = 0 ∧ (0 : Int) = 0 ∧ (0 : Int) = 0 ∧ false = false ∧ false = false ∧ (0 : Int) = 0) ∧ Pad v v2 ∧
            runA (i1, i2, i3, i4, i5, i6) l = runA (q1, q2, q3, q4, q5, q6) (l.drop (IntKind.i64.wrap ((k : Int) + 1)).toNat)) ∧ ((n : Int) - IntKind.i64.wrap ((k : Int) + 1)).toNat < ((n : Int) - (k : Int)).toNat := fun q1 q2 q3 q4 q5 q6 hq => by
        rw [wrap1 hlt hn, he, hq]
        exact ⟨⟨by omega, by omega, ⟨rfl, rfl, rfl, rfl, rfl, rfl, rfl, rfl, rfl⟩, hp2, by rw [Int.toNat_natCast]⟩, by omega⟩
      refine bcase_of (fun g1 => next _ _ _ _ _ _ (by simp [stepA, g1]; rfl)) (fun g1 => ?_)
      refine bcase_of (fun g2 => next _ _ _ _ _ _ (by simp [stepA, g1, g2])) (fun g2 => ?_)
      refine bcase_of (fun g3 => next _ _ _ _ _ _ (by simp [stepA, g1, g2, g3]; rfl)) (fun g3 => ?_)
      refine bcase_of (fun g4 => next _ _ _ _ _ _ (by simp [stepA, g1, g2, g3, g4])) (fun g4 => ?_)
      refine bcase_of (fun g5 => next _ _ _ _ _ _ (by simp [stepA, g1, g2, g3, g4, g5])) (fun g5 => ?_)
      refine bcase_of (fun g6 => next _ _ _ _ _ _ (by simp [stepA, g1, g2, g3, g4, g5, g6]; rfl)) (fun g6 => ?_)
      exact next _ _ _ _ _ _ (by simp [stepA, g1, g2, g3, g4, g5, g6])
  · have hge : ¬ k < n := by simpa using h
    refine ⟨?_, hp⟩
    rw [he, List.drop_eq_nil_of_le (by omega)]
    rfl
theorem c_Ref (s : S6) (l : List (Int × Int)) (a : Option Addr) (n c : Nat) (v : World) (hl : l.length = n) (hn : n ≤ 2 ^ 62) (hr : RowsAt v a 2 (l.map enc2)) :
    CallsV Try.prog 22 #[encS s, .slice a n c] v fun r v' => r = encR (runA s l) ∧ Pad v v' := by
  obtain ⟨i1, i2, i3, i4, i5, i6⟩ := s
  refine fn_sound (E := E) Try.func22 (Eq.mpr (t_wlvref10_Apply i1 i2 i3 i4 i5 i6 a n c v _) ?_)
  refine ⟨fun i a1 a2 a3 a4 a5 a6 z1 z2 z3 z4 z5 z6 b1 b2 z7 v1 => 0 ≤ i ∧ i ≤ n ∧ (z1 = 0 ∧ z2 = 0 ∧ z3 = 0 ∧ z4 = 0 ∧ z5 = 0 ∧ z6 = 0 ∧ b1 = false ∧ b2 = false ∧ z7 = 0) ∧ Pad v v1 ∧ runA (i1, i2, i3, i4, i5, i6) l = runA (a1, a2, a3, a4, a5, a6) (l.drop i.toNat),
    fun i _ _ _ _ _ _ _ _ _ _ _ _ _ _ _ _ => ((n : Int) - i).toNat, ⟨by omega, by omega, ⟨rfl, rfl, rfl, rfl, rfl, rfl, rfl, rfl, rfl⟩, (Pad.refl : Pad v v).hv.hv.hv, by simp⟩, ?_⟩
  rintro i a1 a2 a3 a4 a5 a6 z1 z2 z3 z4 z5 z6 b1 b2 z7 v1 ⟨h0, h1, ⟨rfl, rfl, rfl, rfl, rfl, rfl, rfl, rfl, rfl⟩, hp, he⟩
  obtain ⟨k, rfl⟩ : ∃ k : Nat, i = k := ⟨i.toNat, by omega⟩
  rw [Int.toNat_natCast] at he ⊢
  refine bcase_of (fun h => ?_) (fun h => ?_)
  · have hlt : k < n := by simpa using h
    obtain ⟨x, hx⟩ := get_some (l := l) (k := k) (by omega)
    have hrow := hr.ext hp.ext
    obtain ⟨ad, ha, hc⟩ := hrow k (enc2 x) (by simp [hx])
    have g0 := hrow.at ha (i := k) (cs := enc2 x) (by simp [hx]) (j := 0) rfl
    have g1 := hrow.at ha (i := k) (cs := enc2 x) (by simp [hx]) (j := 1) rfl
    refine ⟨ad, ha, h0, by omega, x.2, by simpa only [Addr.add_zero'] using g1, ad, ha, h0, by omega, x.1, by simpa only [Addr.add_zero'] using g0, ?_⟩
    rw [drop_at hx] at he
    have next : ∀ q1 q2 q3 q4 q5 q6, wrongA x = 0 → stepA (a1, a2, a3, a4, a5, a6) x = (q1, q2, q3, q4, q5, q6) →
        (0 ≤ IntKind.i64.wrap ((k : Int) + 1) ∧ IntKind.i64.wrap ((k : Int) + 1) ≤ n ∧ ((0 : Int) = 0 ∧ (0 : Int) = 0 ∧ (0 : Int) = 0 ∧ (0 : Int) = 0 ∧ (0 : Int) = 0 ∧ (0 : Int) = 0 ∧ false = false ∧ false = false ∧ (0 : Int) = 0) ∧ Pad v v1 ∧
          runA (i1, i2, i3, i4, i5, i6) l = runA (q1, q2, q3, q4, q5, q6) (l.drop (IntKind.i64.wrap ((k : Int) + 1)).toNat)) ∧ ((n : Int) - IntKind.i64.wrap ((k : Int) + 1)).toNat < ((n : Int) - (k : Int)).toNat := fun q1 q2 q3 q4 q5 q6 hw hq => by
      simp only [runA, hw] at he
      rw [wrap1 hlt hn, he, hq]
      exact ⟨⟨by omega, by omega, ⟨rfl, rfl, rfl, rfl, rfl, rfl, rfl, rfl, rfl⟩, hp, by rw [Int.toNat_natCast]; rfl⟩, by omega⟩
    have stop : ∀ k : Int, wrongA x = k → k ≠ 0 → runA (i1, i2, i3, i4, i5, i6) l = (zeroS, true, true, k) := fun k hw hk => by
      rw [he]
      simp only [runA, hw]
      rw [show (k != 0) = true from by simpa using hk]
      rfl
    obtain ⟨x1, x2⟩ := x
    dsimp only
    refine bcase_of (fun g1 => ?_) (fun g1 => ?_)
    · obtain rfl : x1 = 1 := by simpa using g1
      exact next _ _ _ _ _ _ (by simp [wrongA, F_sets_wrong]) (by simp [stepA]; rfl)
    refine bcase_of (fun g2 => ?_) (fun g2 => ?_)
    · obtain rfl : x1 = 2 := by simpa using g2
      refine bcase_of (fun hb => ?_) (fun hb => ?_)
      · have hb' : x2 ≠ 0 ∧ x2 ≠ 1 := by simp at hb; omega
        have q0 : (x2 != 0) = true := by simpa using hb'.1
        have q1 : (x2 != 1) = true := by simpa using hb'.2
        refine (c_wlvref10_fault 1 true _).mono ?_
        rintro r v2 ⟨rfl, hx2⟩
        refine ⟨true, true, 1, rfl, ?_, hp.trans hx2⟩
        rw [stop 1 (by simp only [wrongA, F_sets_wrong, q0, q1]; rfl) (by decide)]
        rfl
      · have hb' : x2 = 0 ∨ x2 = 1 := by simp at hb; omega
        refine next _ _ _ _ _ _ ?_ (by simp [stepA])
        rcases hb' with rfl | rfl <;> simp [wrongA, F_sets_wrong]
    refine bcase_of (fun g3 => ?_) (fun g3 => ?_)
    · obtain rfl : x1 = 3 := by simpa using g3
      exact next _ _ _ _ _ _ (by simp [wrongA, F_sets_wrong]) (by simp [stepA]; rfl)
    refine bcase_of (fun g4 => ?_) (fun g4 => ?_)
    · obtain rfl : x1 = 4 := by simpa using g4
      refine bcase_of (fun hb => ?_) (fun hb => ?_)
      · refine (c_wlvref10_fault 3 true _).mono ?_
        rintro r v2 ⟨rfl, hx2⟩
        refine ⟨true, true, 3, rfl, ?_, hp.trans hx2⟩
        rw [stop 3 (by simp only [wrongA, F_sets_wrong, hb]; rfl) (by decide)]
        rfl
      · exact next _ _ _ _ _ _ (by simp only [wrongA, F_sets_wrong, hb]; rfl) (by simp [stepA])
    refine bcase_of (fun g5 => ?_) (fun g5 => ?_)
    · obtain rfl : x1 = 5 := by simpa using g5
      refine bcase_of (fun hb => ?_) (fun hb => ?_)
      · refine (c_wlvref10_fault 1 true _).mono ?_
        rintro r v2 ⟨rfl, hx2⟩
        refine ⟨true, true, 1, rfl, ?_, hp.trans hx2⟩
        rw [stop 1 (by simp only [wrongA, F_sets_wrong, hb]; rfl) (by decide)]
        rfl
      · exact next _ _ _ _ _ _ (by simp only [wrongA, F_sets_wrong, hb]; rfl) (by simp [stepA])
    have hz : wrongA (x1, x2) = 0 := by simp only [wrongA, F_sets_wrong, g2, g4, g5]; rfl
    refine bcase_of (fun g6 => next _ _ _ _ _ _ hz (by simp [stepA, g1, g2, g3, g4, g5, g6]; rfl)) (fun g6 => ?_)
    exact next _ _ _ _ _ _ hz (by simp [stepA, g1, g2, g3, g4, g5, g6])
  · have hge : ¬ k < n := by simpa using h
    refine ⟨?_, hp⟩
    rw [he, List.drop_eq_nil_of_le (by omega)]
    rfl
def s0 : S6 := (4096, 1, 2147483647, 65535, 16384, 2147483647)
theorem c_first13 (v : World) : CallsV Try.prog 20 #[] v fun r v' => r = .bool true ∧ Pad v v' := by
  refine fn_sound (E := E) Try.func20 (Eq.mpr (t_wlvlaw13_first v _) ?_)
  refine (c_sets_First v).mono ?_
  rintro r v1 ⟨rfl, h1⟩
  refine ⟨4096, 1, 2147483647, 65535, 16384, 2147483647, rfl, ?_⟩
  refine (c_Apply s0 [] none 0 0 v1 rfl (by omega) RowsAt.nil).mono ?_
  rintro r v2 ⟨rfl, h2⟩
  refine ⟨4096, 1, 2147483647, 65535, 16384, 2147483647, false, false, 0, rfl, ?_⟩
  exact ⟨4096, 1, 2147483647, 65535, 16384, 2147483647, fun _ w _ => c_sets_First w, fun v3 h3 => ⟨rfl, (h1.trans h2).hv.hv.trans h3⟩⟩
theorem c_SetsTells (s : S6) (l : List (Int × Int)) (a : Option Addr) (n c : Nat) (v : World) (hl : l.length = n) (hr : RowsAt v a 2 (l.map enc2)) :
    CallsV Try.prog 4 #[encS s, .slice a n c] v fun r v' => r = .bool true ∧ Ext v v' := by
  obtain ⟨i1, i2, i3, i4, i5, i6⟩ := s
  refine fn_sound (E := E) Try.func4 (Eq.mpr (t_wlvlaw13_SetsTells i1 i2 i3 i4 i5 i6 a n c v _) ?_)
  refine (c_first13 _).mono ?_
  rintro r v1 ⟨rfl, h1⟩
  refine ⟨true, rfl, ?_⟩
  have e1 : Pad v v1 := (Pad.refl : Pad v v).hv.trans h1
  refine bcase_of (fun h => by cases h) (fun _ => ?_)
  refine bcase_of (fun h => ?_) (fun h => ?_)
  · refine (c_first13 _).mono ?_
    rintro r v2 ⟨rfl, h2⟩
    exact ⟨true, rfl, rfl, (e1.trans h2).ext⟩
  have hn : n ≤ 300 := by simp at h; omega
  refine (c_Apply (i1, i2, i3, i4, i5, i6) l a n c v1 hl (by omega) (hr.ext e1.ext)).mono ?_
  rintro r v3 ⟨rfl, h3⟩
  have e3 := e1.trans h3
  rcases hq : runA (i1, i2, i3, i4, i5, i6) l with ⟨⟨q1, q2, q3, q4, q5, q6⟩, p1, p2, p3⟩
  refine ⟨q1, q2, q3, q4, q5, q6, p1, p2, p3, rfl, ?_⟩
  refine (c_Ref (i1, i2, i3, i4, i5, i6) l a n c _ hl (by omega) (hr.ext e3.hv.hv.ext)).mono ?_
  rintro r v4 ⟨rfl, h4⟩
  rw [hq]
  refine ⟨q1, q2, q3, q4, q5, q6, p1, p2, p3, rfl, ?_⟩
  have e4 := e3.hv.hv.trans h4
  refine (c_first13 _).mono ?_
  rintro r v5 ⟨rfl, h5⟩
  refine ⟨true, rfl, ?_⟩
  have e5 := e4.hv.hv.trans h5
  refine bcase_of (fun _ => ?_) (fun h => by cases h)
  refine (c_sets_First _).mono ?_
  rintro r v6 ⟨rfl, h6⟩
  refine ⟨4096, 1, 2147483647, 65535, 16384, 2147483647, rfl, ?_⟩
  refine (c_wlvref10_First _).mono ?_
  rintro r v7 ⟨rfl, h7⟩
  refine ⟨4096, 1, 2147483647, 65535, 16384, 2147483647, rfl, ?_, ((e5.trans h6).trans h7).ext⟩
  simp
end Go.Proofs.Ytnlekdpnjphmfaa
