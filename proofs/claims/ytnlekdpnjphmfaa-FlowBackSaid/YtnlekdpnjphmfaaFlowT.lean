/- Windows: FlowTops, FlowBelow. -/
import Derived.Test.YtnlekdpnjphmfaaFlow
namespace Go.Proofs.Ytnlekdpnjphmfaa
open Vc
set_option linter.unusedVariables false
theorem c_FlowTops (i1 i2 i3 i4 : Int) (v : World) : CallsV Try.prog 8 #[.int .i64 i1, .int .i64 i2, .int .i64 i3, .int .i64 i4] v fun r v' => r = .bool true ∧ Ext v v' := by
  refine fn_sound (E := E) Try.func8 (Eq.mpr (t_wlvlaw12_FlowTops i1 i2 i3 i4 v _) ?_)
  refine (c_first12 v).mono ?_
  rintro r v1 ⟨rfl, h1⟩
  refine ⟨true, rfl, ?_⟩
  refine bcase_of (fun h => by cases h) (fun _ => ?_)
  refine bcase_of (fun h => ?_) (fun h => ?_)
  · refine (c_first12 v1).mono ?_
    rintro r v2 ⟨rfl, h2⟩
    exact ⟨true, rfl, rfl, (h1.trans h2).ext⟩
  have hh : In i1 ∧ In i2 ∧ (In i3 ∧ 0 ≤ i3) ∧ In i4 ∧ 0 ≤ i4 := by simp at h; unfold In; omega
  obtain ⟨g1, g2, ⟨g3, p3⟩, g4, p4⟩ := hh
  refine (c_Windows i1 i2 v1).mono ?_
  rintro r v3 ⟨rfl, h3⟩
  rw [cut_in g1, cut_in g2]
  refine ⟨fl i1, fl i2, rfl, ?_⟩
  have g0 : In 0 := by unfold In; omega
  refine (c_Grant g1 g2 g0 g0 (Int.le_refl 0) (Int.le_refl 0) v3).mono ?_
  rintro r v4 ⟨rfl, h4⟩
  have e0 : grantF i1 i2 0 0 = (fl i1, fl i2, false, false, 0) := by
    unfold In at g1 g2
    rw [grantF, if_neg (by omega), if_neg (by omega), Int.add_zero, Int.add_zero]
  rw [e0]
  refine ⟨fl i1, fl i2, false, false, 0, rfl, ?_⟩
  refine (c_Grant g1 g2 g3 g4 p3 p4 (hv v4)).mono ?_
  rintro r v5 ⟨rfl, h5⟩
  have e5 : Pad v (hv v5) := ((((h1.trans h3).trans h4).hv).trans h5).hv
  rw [o_eq g1.two g1.two, o_eq g2.two g2.two, wr (x := 2147483647 - i4) (by unfold In at g4; omega), wr (x := 2147483647 - i3) (by unfold In at g3; omega), wr (x := i1 + i3) (by unfold In at g1 g3; omega), wr (x := i2 + i4) (by unfold In at g2 g4; omega)]
  by_cases k1 : i2 + i4 > 2147483647
  · have hd : decide (i2 > 2147483647 - i4) = true := by simp; omega
    rw [grantF, if_pos k1]
    refine ⟨0, 0, true, true, 3, rfl, ?_⟩
    rw [hd]
    refine bcase_of (fun h => by simp at h) (fun _ => ?_)
    refine bcase_of (fun h => by simp at h) (fun _ => ?_)
    refine bcase_of (fun _ => ?_) (fun h => by cases h)
    refine bcase_of (fun h => ?_) (fun _ => ?_)
    · exfalso
      rw [show (FloatKind.f64.format.order 0 0 == some .eq) = true from by have := o_eq g0.two g0.two; rw [← c00] at this; simpa using this] at h
      simp at h
    · refine (c_first12 _).mono ?_
      rintro r v6 ⟨rfl, h6⟩
      refine ⟨true, rfl, ?_⟩
      refine bcase_of (fun _ => ?_) (fun h => by cases h)
      exact bcase_of (fun _ => ⟨rfl, (e5.trans h6).ext⟩) (fun h => by cases h)
  · have hd : decide (i2 > 2147483647 - i4) = false := by simp; omega
    by_cases k2 : i1 + i3 > 2147483647
    · have hd2 : decide (i1 > 2147483647 - i3) = true := by simp; omega
      rw [grantF, if_neg k1, if_pos k2]
      refine ⟨0, 0, true, false, 3, rfl, ?_⟩
      rw [hd, hd2]
      refine bcase_of (fun h => by simp at h) (fun _ => ?_)
      refine bcase_of (fun h => by simp at h) (fun _ => ?_)
      refine bcase_of (fun _ => ?_) (fun h => by cases h)
      refine bcase_of (fun h => ?_) (fun _ => ?_)
      · exfalso
        rw [show (FloatKind.f64.format.order 0 0 == some .eq) = true from by have := o_eq g0.two g0.two; rw [← c00] at this; simpa using this] at h
        simp at h
      · refine (c_first12 _).mono ?_
        rintro r v6 ⟨rfl, h6⟩
        refine ⟨true, rfl, ?_⟩
        refine bcase_of (fun _ => ?_) (fun h => by cases h)
        exact bcase_of (fun _ => ⟨rfl, (e5.trans h6).ext⟩) (fun h => by cases h)
    · have hd2 : decide (i1 > 2147483647 - i3) = false := by simp; omega
      rw [grantF, if_neg k1, if_neg k2]
      refine ⟨fl (i1 + i3), fl (i2 + i4), false, false, 0, rfl, ?_⟩
      rw [hd, hd2]
      have q1 : In (i1 + i3) := by unfold In at *; omega
      have q2 : In (i2 + i4) := by unfold In at *; omega
      refine bcase_of (fun h => by simp at h) (fun _ => ?_)
      refine bcase_of (fun h => by simp at h) (fun _ => ?_)
      refine bcase_of (fun h => by cases h) (fun _ => ?_)
      refine (c_first12 _).mono ?_
      rintro r v9 ⟨rfl, h9⟩
      refine ⟨true, rfl, ?_⟩
      refine bcase_of (fun _ => ?_) (fun h => by cases h)
      refine bcase_of (fun h => by cases h) (fun _ => ?_)
      refine (c_Stream q1 q2 _).mono ?_
      rintro r v10 ⟨rfl, h10⟩
      refine ⟨i1 + i3, rfl, ?_⟩
      refine bcase_of (fun _ => ?_) (fun h => by simp at h)
      refine (c_Conn q1 q2 _).mono ?_
      rintro r v11 ⟨rfl, h11⟩
      exact ⟨i2 + i4, rfl, by simp, (((e5.trans h9).trans h10).trans h11).ext⟩
theorem c_FlowBelow (i1 i2 i3 : Int) (v : World) : CallsV Try.prog 10 #[.int .i64 i1, .int .i64 i2, .int .i64 i3] v fun r v' => r = .bool true ∧ Ext v v' := by
  refine fn_sound (E := E) Try.func10 (Eq.mpr (t_wlvlaw12_FlowBelow i1 i2 i3 v _) ?_)
  refine (c_first12 v).mono ?_
  rintro r v1 ⟨rfl, h1⟩
  refine ⟨true, rfl, ?_⟩
  refine bcase_of (fun h => by cases h) (fun _ => ?_)
  refine bcase_of (fun h => ?_) (fun h => ?_)
  · refine (c_first12 v1).mono ?_
    rintro r v2 ⟨rfl, h2⟩
    exact ⟨true, rfl, rfl, (h1.trans h2).ext⟩
  have hh : 0 ≤ i1 ∧ i1 ≤ 2147483647 ∧ 1 ≤ i2 ∧ i2 ≤ 2147483647 ∧ 1 ≤ i3 ∧ i3 ≤ 2147483647 := by simp at h; omega
  have g1 : In i1 := by unfold In; omega
  have g2 : In i2 := by unfold In; omega
  have g3 : In (0 - i3) := by unfold In; omega
  have g4 : In (i1 - i3) := by unfold In; omega
  have g0 : In 0 := by unfold In; omega
  refine (c_Windows i1 i2 v1).mono ?_
  rintro r v3 ⟨rfl, h3⟩
  rw [cut_in g1, cut_in g2]
  refine ⟨fl i1, fl i2, rfl, ?_⟩
  rw [wr (x := 0 - i3) (by omega), wr (x := i1 - i3) (by omega), wr (x := i3 - i1) (by omega)]
  refine (c_Shift g1 g2 g3 v3).mono ?_
  rintro r v4 ⟨rfl, h4⟩
  rw [shiftF, if_neg (by omega), show i1 + (0 - i3) = i1 - i3 by omega, cut_in g4]
  refine ⟨fl (i1 - i3), fl i2, false, false, 0, rfl, ?_⟩
  have e4 : Pad v (hv v4) := ((h1.trans h3).trans h4).hv
  refine bcase_of (fun h => by cases h) (fun _ => ?_)
  refine (c_Stream g4 g2 _).mono ?_
  rintro r v5 ⟨rfl, h5⟩
  refine ⟨i1 - i3, rfl, ?_⟩
  refine bcase_of (fun h => by simp at h) (fun _ => ?_)
  refine (c_Conn g4 g2 _).mono ?_
  rintro r v6 ⟨rfl, h6⟩
  refine ⟨i2, rfl, ?_⟩
  have e6 : Pad v v6 := (e4.trans h5).trans h6
  refine bcase_of (fun h => by simp at h) (fun _ => ?_)
  refine bcase_of (fun hge => ?_) (fun hlt => ?_)
  · refine (c_first12 _).mono ?_
    rintro r v7 ⟨rfl, h7⟩
    refine ⟨true, rfl, ?_⟩
    refine bcase_of (fun _ => ?_) (fun h => by cases h)
    refine (c_May g4 g2 _).mono ?_
    rintro r v8 ⟨rfl, h8⟩
    refine ⟨may (i1 - i3) i2, rfl, ?_, ((e6.trans h7).trans h8).ext⟩
    have hge : i1 ≥ i3 := by simpa using hge
    have : may (i1 - i3) i2 = (if i2 < i1 - i3 then i2 else i1 - i3) := by unfold may; split <;> split at * <;> omega
    rw [this]
    simp
  have hlt : i1 < i3 := by simpa using hlt
  have m0 : may (i1 - i3) i2 = 0 := by unfold may; split <;> split at * <;> omega
  refine (c_Spend g4 g2 1 _).mono ?_
  rintro r v9 ⟨rfl, h9⟩
  rw [spendF, if_neg (by rw [m0]; omega)]
  refine ⟨0, 0, 1, rfl, ?_⟩
  refine (c_Spend g4 g2 0 _).mono ?_
  rintro r v10 ⟨rfl, h10⟩
  rw [spendF, if_pos (by rw [m0]; omega), Int.sub_zero, Int.sub_zero]
  refine ⟨fl (i1 - i3), fl i2, 0, rfl, ?_⟩
  have g5 : In (i3 - i1) := by unfold In; omega
  refine (c_Grant g4 g2 g5 g0 (by omega) (Int.le_refl 0) _).mono ?_
  rintro r v11 ⟨rfl, h11⟩
  rw [grantF, if_neg (by omega), if_neg (by omega), show i1 - i3 + (i3 - i1) = 0 by omega, Int.add_zero]
  refine ⟨fl 0, fl i2, false, false, 0, rfl, ?_⟩
  have e11 : Pad v (hv v11) := (((e6.trans h9).trans h10).trans h11).hv
  refine (c_first12 _).mono ?_
  rintro r v12 ⟨rfl, h12⟩
  refine ⟨true, rfl, ?_⟩
  refine bcase_of (fun _ => ?_) (fun h => by cases h)
  refine (c_May g4 g2 _).mono ?_
  rintro r v13 ⟨rfl, h13⟩
  rw [m0]
  refine ⟨0, rfl, ?_⟩
  rw [o_eq g4.two g4.two, o_eq g2.two g2.two]
  refine bcase_of (fun _ => ?_) (fun h => by simp at h)
  refine (c_Stream g0 g2 _).mono ?_
  rintro r v14 ⟨rfl, h14⟩
  refine ⟨0, rfl, ?_⟩
  refine bcase_of (fun _ => ?_) (fun h => by simp at h)
  refine (c_May g0 g2 _).mono ?_
  rintro r v15 ⟨rfl, h15⟩
  have m1 : may 0 i2 = 0 := by unfold may; rw [if_neg (show ¬ i2 < 0 by omega)]; rfl
  rw [m1]
  exact ⟨0, rfl, by simp, ((((e11.trans h12).trans h13).trans h14).trans h15).ext⟩
end Go.Proofs.Ytnlekdpnjphmfaa
