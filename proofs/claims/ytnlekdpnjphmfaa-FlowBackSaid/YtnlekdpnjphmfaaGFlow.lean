/- The conditions of functions of the program, written by a program of ours and held by the kernel; contracts of those that have no loop. -/
import Derived.Test.YtnlekdpnjphmfaaProg
import Derived.Test.YtnlekdpnjphmfaaVcb
namespace Go.Proofs.Ytnlekdpnjphmfaa
open Vc
set_option linter.unusedVariables false
theorem t_flow_cut (i1 : Int) (v : World) (R : Value → World → Prop) : vcFn E [] Try.f32 [(.int .i64 i1)] v R =
  (R (.int .i64 (if 2147483647 < (if (-2147483647) > i1 then (-2147483647) else i1) then 2147483647 else (if (-2147483647) > i1 then (-2147483647) else i1))) v) := by kernel_rfl
def F_flow_cut (i1 : Int) : Int :=
  (if 2147483647 < (if (-2147483647) > i1 then (-2147483647) else i1) then 2147483647 else (if (-2147483647) > i1 then (-2147483647) else i1))
def enc_flow_cut : Int → Value
  | i1 => (.int .i64 i1)
theorem c_flow_cut (i1 : Int) (v : World) : CallsV Try.prog 32 #[(.int .i64 i1)] v fun r v' => r = enc_flow_cut (F_flow_cut i1) ∧ Pad v v' := by
  refine fn_sound (E := E) (A := []) Try.func32 ?_
  rw [t_flow_cut]
  obtain ⟨z, hz⟩ : ∃ z, z = F_flow_cut i1 := ⟨_, rfl⟩
  rw [← hz]
  unfold F_flow_cut at hz
  exact ⟨by subst hz; rfl, (Pad.refl : Pad v v)⟩
theorem t_flow_Windows (i1 : Int) (i2 : Int) (v : World) (R : Value → World → Prop) : vcFn E [] Try.f15 [(.int .i64 i1), (.int .i64 i2)] v R =
  (CallsV Try.prog 32 #[(.int .i64 i1)] v fun r v1 => ∃ (i3 : Int), r = (.int .i64 i3) ∧
  (CallsV Try.prog 32 #[(.int .i64 i2)] v1 fun r v2 => ∃ (i4 : Int), r = (.int .i64 i4) ∧
    (R (.complex .f64 (FloatKind.f64.nearest i3) (FloatKind.f64.nearest i4)) v2))) := by kernel_rfl
def F_flow_Windows (i1 : Int) (i2 : Int) : Nat × Nat :=
  (fun i3 => (fun i4 => ((FloatKind.f64.nearest i3), (FloatKind.f64.nearest i4))) (F_flow_cut i2)) (F_flow_cut i1)
def enc_flow_Windows : Nat × Nat → Value
  | (re1, im2) => (.complex .f64 re1 im2)
theorem c_flow_Windows (i1 : Int) (i2 : Int) (v : World) : CallsV Try.prog 15 #[(.int .i64 i1), (.int .i64 i2)] v fun r v' => r = enc_flow_Windows (F_flow_Windows i1 i2) ∧ Pad v v' := by
  refine fn_sound (E := E) (A := []) Try.func15 ?_
  rw [t_flow_Windows]
  obtain ⟨z, hz⟩ : ∃ z, z = F_flow_Windows i1 i2 := ⟨_, rfl⟩
  rw [← hz]
  unfold F_flow_Windows at hz
  refine (c_flow_cut i1 _).mono ?_
  rintro r v1 ⟨rfl, hx⟩
  have e_v1 := (Pad.refl : Pad v v).trans hx; clear hx
  obtain ⟨i3, hq_v1⟩ : ∃ q, F_flow_cut i1 = q := ⟨_, rfl⟩
  rw [hq_v1] at hz ⊢
  refine ⟨i3, rfl, ?_⟩
  refine (c_flow_cut i2 _).mono ?_
  rintro r v2 ⟨rfl, hx⟩
  have e_v2 := e_v1.trans hx; clear hx
  obtain ⟨i4, hq_v2⟩ : ∃ q, F_flow_cut i2 = q := ⟨_, rfl⟩
  rw [hq_v2] at hz ⊢
  refine ⟨i4, rfl, ?_⟩
  exact ⟨by subst hz; rfl, e_v2⟩
theorem t_flow_part (q1 : Nat) (v : World) (R : Value → World → Prop) : vcFn E [] Try.f40 [(.float .f64 q1)] v R =
  (bcase (!(((FloatKind.f64.format.order q1 13970166044099084288) == some .gt || (FloatKind.f64.format.order q1 13970166044099084288) == some .eq) && ((FloatKind.f64.format.order q1 4746794007244308480) == some .lt || (FloatKind.f64.format.order q1 4746794007244308480) == some .eq)))
  (R (.tuple #[(.int .i64 0), (.bool false)]) v)
  (∃ (i2 : Int), (FloatKind.f64.decode q1).toInt .zero = some i2 ∧ IntKind.i64.min ≤ i2 ∧ i2 ≤ IntKind.i64.max ∧
    (∃ (i3 : Int), (FloatKind.f64.decode q1).toInt .zero = some i3 ∧ IntKind.i64.min ≤ i3 ∧ i3 ≤ IntKind.i64.max ∧
      (R (.tuple #[(.int .i64 i2), (.bool ((FloatKind.f64.format.order (FloatKind.f64.nearest i3) q1) == some .eq))]) v)))) := by kernel_rfl
theorem t_flow_parts (re1 : Nat) (im2 : Nat) (v : World) (R : Value → World → Prop) : vcFn E [] Try.f33 [(.complex .f64 re1 im2)] v R =
  (CallsV Try.prog 40 #[(.float .f64 re1)] v fun r v1 => ∃ (i3 : Int) (b4 : Bool), r = (.tuple #[(.int .i64 i3), (.bool b4)]) ∧
  (CallsV Try.prog 40 #[(.float .f64 im2)] v1 fun r v2 => ∃ (i5 : Int) (b6 : Bool), r = (.tuple #[(.int .i64 i5), (.bool b6)]) ∧
    (bcase ((!b4) || (!b6))
      (R (.tuple #[(.int .i64 0), (.int .i64 0), (.bool false)]) v2)
      (R (.tuple #[(.int .i64 i3), (.int .i64 i5), (.bool true)]) v2)))) := by kernel_rfl
theorem t_flow_Stream (re1 : Nat) (im2 : Nat) (v : World) (R : Value → World → Prop) : vcFn E [] Try.f18 [(.complex .f64 re1 im2)] v R =
  (CallsV Try.prog 33 #[(.complex .f64 re1 im2)] v fun r v1 => ∃ (i3 : Int) (i4 : Int) (b5 : Bool), r = (.tuple #[(.int .i64 i3), (.int .i64 i4), (.bool b5)]) ∧
  (R (.int .i64 i3) v1)) := by kernel_rfl
theorem t_flow_Conn (re1 : Nat) (im2 : Nat) (v : World) (R : Value → World → Prop) : vcFn E [] Try.f19 [(.complex .f64 re1 im2)] v R =
  (CallsV Try.prog 33 #[(.complex .f64 re1 im2)] v fun r v1 => ∃ (i3 : Int) (i4 : Int) (b5 : Bool), r = (.tuple #[(.int .i64 i3), (.int .i64 i4), (.bool b5)]) ∧
  (R (.int .i64 i4) v1)) := by kernel_rfl
theorem t_flow_May (re1 : Nat) (im2 : Nat) (v : World) (R : Value → World → Prop) : vcFn E [] Try.f17 [(.complex .f64 re1 im2)] v R =
  (CallsV Try.prog 18 #[(.complex .f64 re1 im2)] v fun r v1 => ∃ (i3 : Int), r = (.int .i64 i3) ∧
  (CallsV Try.prog 19 #[(.complex .f64 re1 im2)] v1 fun r v2 => ∃ (i4 : Int), r = (.int .i64 i4) ∧
    (R (.int .i64 (if 0 > (if i4 < i3 then i4 else i3) then 0 else (if i4 < i3 then i4 else i3))) v2))) := by kernel_rfl
theorem t_wlvlaw12_first  (v : World) (R : Value → World → Prop) : vcFn E [] Try.f14 [] v R =
  (CallsV Try.prog 15 #[(.int .i64 10), (.int .i64 4)] v fun r v1 => ∃ (re1 : Nat) (im2 : Nat), r = (.complex .f64 re1 im2) ∧
  (bcase ((FloatKind.f64.format.order re1 4621819117588971520 == some .eq) && (FloatKind.f64.format.order im2 4616189618054758400 == some .eq))
    (CallsV Try.prog 17 #[(.complex .f64 re1 im2)] v1 fun r v2 => ∃ (i3 : Int), r = (.int .i64 i3) ∧
      (bcase (i3 == 4)
        (CallsV Try.prog 18 #[(.complex .f64 re1 im2)] v2 fun r v3 => ∃ (i4 : Int), r = (.int .i64 i4) ∧
          (bcase (i4 == 10)
            (CallsV Try.prog 19 #[(.complex .f64 re1 im2)] v3 fun r v4 => ∃ (i5 : Int), r = (.int .i64 i5) ∧
              (R (.bool (i5 == 4)) v4))
            (R (.bool false) v3)))
        (R (.bool false) v2)))
    (R (.bool false) v1))) := by kernel_rfl
theorem t_flow_Spend (re1 : Nat) (im2 : Nat) (i3 : Int) (v : World) (R : Value → World → Prop) : vcFn E [] Try.f16 [(.complex .f64 re1 im2), (.int .i64 i3)] v R =
  (CallsV Try.prog 33 #[(.complex .f64 re1 im2)] v fun r v1 => ∃ (i4 : Int) (i5 : Int) (b6 : Bool), r = (.tuple #[(.int .i64 i4), (.int .i64 i5), (.bool b6)]) ∧
  (bcase ((!b6) || (decide (i3 < 0)))
    (R (.tuple #[(.complex .f64 0 0), (.int .i64 1)]) v1)
    (CallsV Try.prog 17 #[(.complex .f64 re1 im2)] v1 fun r v2 => ∃ (i7 : Int), r = (.int .i64 i7) ∧
      (bcase (decide (i3 > i7))
        (R (.tuple #[(.complex .f64 0 0), (.int .i64 1)]) v2)
        (∃ (re8 : Nat) (im9 : Nat), floatR .sub .f64 re1 (FloatKind.f64.nearest i3) = some re8 ∧ floatR .sub .f64 im2 (FloatKind.f64.nearest i3) = some im9 ∧
          (R (.tuple #[(.complex .f64 re8 im9), (.int .i64 0)]) v2)))))) := by kernel_rfl
theorem t_wlvlaw12_FlowMany (i1 : Int) (i2 : Int) (a3 : Option Addr) (n4 : Nat) (c5 : Nat) (v : World) (R : Value → World → Prop) : vcFn E [(11, ⟨[(7, Kd.cplx .f64), (8, Kd.int .i64), (9, Kd.int .i64)], [], [6, 10, 11, 39, 40, 41, 42, 43, 44, 45, 46, 47, 48, 49, 50, 51, 52, 53, 54, 55, 56, 57, 58, 59, 60, 61, 62, 63, 64, 65, 66, 67, 68, 69, 70, 71, 72, 73, 74, 75, 76, 77, 78, 79, 80, 81, 82, 83, 84, 85, 86, 87, 88, 89, 90, 91, 92, 93, 94, 95, 96, 97, 98, 99, 100], []⟩)] Try.f3 [(.int .i64 i1), (.int .i64 i2), (.slice a3 n4 c5)] v R =
  (CallsV Try.prog 14 #[] v fun r v1 => ∃ (b6 : Bool), r = (.bool b6) ∧
  (bcase (!b6)
    (R (.bool false) v1)
    (bcase (((((decide (i1 < 0)) || (decide (i1 > 2147483647))) || (decide (i2 < 0))) || (decide (i2 > 2147483647))) || (decide ((n4 : Int) > 100)))
      (CallsV Try.prog 14 #[] v1 fun r v2 => ∃ (b7 : Bool), r = (.bool b7) ∧
        (R (.bool b7) v2))
      (CallsV Try.prog 15 #[(.int .i64 i1), (.int .i64 i2)] v1 fun r v3 => ∃ (re8 : Nat) (im9 : Nat), r = (.complex .f64 re8 im9) ∧
        (∃ (Inv10 : Nat → Nat → Int → Int → World → Prop) (mu11 : Nat → Nat → Int → Int → World → Nat), Inv10 re8 im9 0 0 v3 ∧
          ∀ (re12 : Nat) (im13 : Nat) (i14 : Int) (i15 : Int) (v4 : World), Inv10 re12 im13 i14 i15 v4 →
          (bcase (decide (i15 < (n4 : Int)))
            (∃ (ad16 : Addr), a3 = some ad16 ∧
              (0 ≤ i15 ∧ i15 < (n4 : Int) ∧ 
                (∃ (i17 : Int), v4.cell? ((ad16.add ((i15).toNat * 1)).add 0) = some (.int .i64 i17) ∧ 
                  (CallsV Try.prog 16 #[(.complex .f64 re12 im13), (.int .i64 i17)] v4 fun r v5 => ∃ (re18 : Nat) (im19 : Nat) (i20 : Int), r = (.tuple #[(.complex .f64 re18 im19), (.int .i64 i20)]) ∧
                    (bcase (i20 != 0)
                      (∃ (ad21 : Addr), (a3 = some ad21 ∧ 0 ≤ i15 ∧ i15 < (n4 : Int)) ∧
                        (∃ (i22 : Int), (v5.cell? ((ad21.add ((i15).toNat * 1)).add 0) = some (.int .i64 i22) ∧ True) ∧
                          (∃ (ad23 : Addr), ((decide (i22 ≥ 0)) = true → (a3 = some ad23 ∧ 0 ≤ i15 ∧ i15 < (n4 : Int))) ∧
                            (∃ (i24 : Int), ((decide (i22 ≥ 0)) = true → (v5.cell? ((ad23.add ((i15).toNat * 1)).add 0) = some (.int .i64 i24) ∧ True)) ∧
                              (∃ (i25 : Int), ((decide (i22 ≥ 0)) = true → (∀ w, Pad v5 w → CallsV Try.prog 17 #[(.complex .f64 re12 im13)] w fun r w' => r = (.int .i64 i25) ∧ Pad w w')) ∧
                                (∀ v6, Pad v5 v6 →
                                  (bcase ((decide (i22 ≥ 0)) && (decide (i24 ≤ i25)))
                                    (R (.bool false) v6)
                                    ((Inv10 re12 im13 i14 (IntKind.i64.wrap (i15 + 1)) v6 ∧ mu11 re12 im13 i14 (IntKind.i64.wrap (i15 + 1)) v6 < mu11 re12 im13 i14 i15 v4)))))))))
                      (∃ (ad26 : Addr), a3 = some ad26 ∧
                        (0 ≤ i15 ∧ i15 < (n4 : Int) ∧ 
                          (∃ (i27 : Int), v5.cell? ((ad26.add ((i15).toNat * 1)).add 0) = some (.int .i64 i27) ∧ 
                            (CallsV Try.prog 18 #[(.complex .f64 re18 im19)] v5 fun r v7 => ∃ (i28 : Int), r = (.int .i64 i28) ∧
                              (bcase (i28 != (IntKind.i64.wrap (i1 - (IntKind.i64.wrap (i14 + i27)))))
                                (R (.bool false) v7)
                                (CallsV Try.prog 19 #[(.complex .f64 re18 im19)] v7 fun r v8 => ∃ (i29 : Int), r = (.int .i64 i29) ∧
                                  (bcase (i29 != (IntKind.i64.wrap (i2 - (IntKind.i64.wrap (i14 + i27)))))
                                    (R (.bool false) v8)
                                    (CallsV Try.prog 18 #[(.complex .f64 re18 im19)] v8 fun r v9 => ∃ (i30 : Int), r = (.int .i64 i30) ∧
                                      (bcase (decide (i30 < 0))
                                        (R (.bool false) v9)
                                        (CallsV Try.prog 19 #[(.complex .f64 re18 im19)] v9 fun r v10 => ∃ (i31 : Int), r = (.int .i64 i31) ∧
                                          (bcase (decide (i31 < 0))
                                            (R (.bool false) v10)
                                            ((Inv10 re18 im19 (IntKind.i64.wrap (i14 + i27)) (IntKind.i64.wrap (i15 + 1)) v10 ∧ mu11 re18 im19 (IntKind.i64.wrap (i14 + i27)) (IntKind.i64.wrap (i15 + 1)) v10 < mu11 re12 im13 i14 i15 v4))))))))))))))))))
            (CallsV Try.prog 15 #[(.int .i64 i1), (.int .i64 i2)] v4 fun r v11 => ∃ (re32 : Nat) (im33 : Nat), r = (.complex .f64 re32 im33) ∧
              (CallsV Try.prog 16 #[(.complex .f64 re32 im33), (.int .i64 i14)] v11 fun r v12 => ∃ (re34 : Nat) (im35 : Nat) (i36 : Int), r = (.tuple #[(.complex .f64 re34 im35), (.int .i64 i36)]) ∧
                (CallsV Try.prog 14 #[] v12 fun r v13 => ∃ (b37 : Bool), r = (.bool b37) ∧
                  (R (.bool ((b37 && (i36 == 0)) && ((FloatKind.f64.format.order re34 re12 == some .eq) && (FloatKind.f64.format.order im35 im13 == some .eq)))) v13)))))))))) := by kernel_rfl
theorem t_flow_fault (i1 : Int) (b2 : Bool) (v : World) (R : Value → World → Prop) : vcFn E [] Try.f36 [(.int .i64 i1), (.bool b2)] v R =
  (R (.tuple #[(.complex .f64 0 0), (.agg #[(.bool true), (.bool b2), (.int .i64 i1)])]) (hv v)) := by kernel_rfl
def F_flow_fault (i1 : Int) (b2 : Bool) : Nat × Nat × Bool × Bool × Int :=
  (0, 0, true, b2, i1)
def enc_flow_fault : Nat × Nat × Bool × Bool × Int → Value
  | (re1, im2, b3, b4, i5) => (.tuple #[(.complex .f64 re1 im2), (.agg #[(.bool b3), (.bool b4), (.int .i64 i5)])])
theorem c_flow_fault (i1 : Int) (b2 : Bool) (v : World) : CallsV Try.prog 36 #[(.int .i64 i1), (.bool b2)] v fun r v' => r = enc_flow_fault (F_flow_fault i1 b2) ∧ Pad v v' := by
  refine fn_sound (E := E) (A := []) Try.func36 ?_
  rw [t_flow_fault]
  obtain ⟨z, hz⟩ : ∃ z, z = F_flow_fault i1 b2 := ⟨_, rfl⟩
  rw [← hz]
  unfold F_flow_fault at hz
  exact ⟨by subst hz; rfl, (Pad.refl : Pad v v).hv⟩
theorem t_flow_Grant (re1 : Nat) (im2 : Nat) (i3 : Int) (i4 : Int) (v : World) (R : Value → World → Prop) : vcFn E [] Try.f25 [(.complex .f64 re1 im2), (.int .i64 i3), (.int .i64 i4)] v R =
  (CallsV Try.prog 33 #[(.complex .f64 re1 im2)] (hv v) fun r v1 => ∃ (i5 : Int) (i6 : Int) (b7 : Bool), r = (.tuple #[(.int .i64 i5), (.int .i64 i6), (.bool b7)]) ∧
  (bcase (((((!b7) || (decide (i3 < 0))) || (decide (i3 > 2147483647))) || (decide (i4 < 0))) || (decide (i4 > 2147483647)))
    (CallsV Try.prog 36 #[(.int .i64 1), (.bool true)] v1 fun r v2 => ∃ (re8 : Nat) (im9 : Nat) (b10 : Bool) (b11 : Bool) (i12 : Int), r = (.tuple #[(.complex .f64 re8 im9), (.agg #[(.bool b10), (.bool b11), (.int .i64 i12)])]) ∧
      (R (.tuple #[(.complex .f64 re8 im9), (.agg #[(.bool b10), (.bool b11), (.int .i64 i12)])]) v2))
    (∃ (re13 : Nat) (im14 : Nat), floatR .add .f64 re1 (FloatKind.f64.nearest i3) = some re13 ∧ floatR .add .f64 im2 (FloatKind.f64.nearest i4) = some im14 ∧
      (bcase ((FloatKind.f64.format.order im14 4746794007244308480) == some .gt)
        (CallsV Try.prog 36 #[(.int .i64 3), (.bool true)] v1 fun r v3 => ∃ (re15 : Nat) (im16 : Nat) (b17 : Bool) (b18 : Bool) (i19 : Int), r = (.tuple #[(.complex .f64 re15 im16), (.agg #[(.bool b17), (.bool b18), (.int .i64 i19)])]) ∧
          (R (.tuple #[(.complex .f64 re15 im16), (.agg #[(.bool b17), (.bool b18), (.int .i64 i19)])]) v3))
        (bcase ((FloatKind.f64.format.order re13 4746794007244308480) == some .gt)
          (CallsV Try.prog 36 #[(.int .i64 3), (.bool false)] v1 fun r v4 => ∃ (re20 : Nat) (im21 : Nat) (b22 : Bool) (b23 : Bool) (i24 : Int), r = (.tuple #[(.complex .f64 re20 im21), (.agg #[(.bool b22), (.bool b23), (.int .i64 i24)])]) ∧
            (R (.tuple #[(.complex .f64 re20 im21), (.agg #[(.bool b22), (.bool b23), (.int .i64 i24)])]) v4))
          (R (.tuple #[(.complex .f64 re13 im14), (.agg #[(.bool false), (.bool false), (.int .i64 0)])]) v1)))))) := by kernel_rfl
theorem t_wlvlaw12_FlowTops (i1 : Int) (i2 : Int) (i3 : Int) (i4 : Int) (v : World) (R : Value → World → Prop) : vcFn E [] Try.f8 [(.int .i64 i1), (.int .i64 i2), (.int .i64 i3), (.int .i64 i4)] v R =
  (CallsV Try.prog 14 #[] v fun r v1 => ∃ (b5 : Bool), r = (.bool b5) ∧
  (bcase (!b5)
    (R (.bool false) v1)
    (bcase ((((((((decide (i1 < (-2147483647))) || (decide (i1 > 2147483647))) || (decide (i2 < (-2147483647)))) || (decide (i2 > 2147483647))) || (decide (i3 < 0))) || (decide (i3 > 2147483647))) || (decide (i4 < 0))) || (decide (i4 > 2147483647)))
      (CallsV Try.prog 14 #[] v1 fun r v2 => ∃ (b6 : Bool), r = (.bool b6) ∧
        (R (.bool b6) v2))
      (CallsV Try.prog 15 #[(.int .i64 i1), (.int .i64 i2)] v1 fun r v3 => ∃ (re7 : Nat) (im8 : Nat), r = (.complex .f64 re7 im8) ∧
        (CallsV Try.prog 25 #[(.complex .f64 re7 im8), (.int .i64 0), (.int .i64 0)] v3 fun r v4 => ∃ (re9 : Nat) (im10 : Nat) (b11 : Bool) (b12 : Bool) (i13 : Int), r = (.tuple #[(.complex .f64 re9 im10), (.agg #[(.bool b11), (.bool b12), (.int .i64 i13)])]) ∧
          (CallsV Try.prog 25 #[(.complex .f64 re7 im8), (.int .i64 i3), (.int .i64 i4)] (hv v4) fun r v5 => ∃ (re14 : Nat) (im15 : Nat) (b16 : Bool) (b17 : Bool) (i18 : Int), r = (.tuple #[(.complex .f64 re14 im15), (.agg #[(.bool b16), (.bool b17), (.int .i64 i18)])]) ∧
            (bcase (b11 || (!((FloatKind.f64.format.order re9 re7 == some .eq) && (FloatKind.f64.format.order im10 im8 == some .eq))))
              (R (.bool false) (hv v5))
              (bcase (!(b16 == ((decide (i2 > (IntKind.i64.wrap (2147483647 - i4)))) || (decide (i1 > (IntKind.i64.wrap (2147483647 - i3)))))))
                (R (.bool false) (hv v5))
                (bcase b16
                  (bcase (((i18 != 3) || (!(b17 == (decide (i2 > (IntKind.i64.wrap (2147483647 - i4))))))) || (!((FloatKind.f64.format.order re14 0 == some .eq) && (FloatKind.f64.format.order im15 0 == some .eq))))
                    (R (.bool false) (hv v5))
                    (CallsV Try.prog 14 #[] (hv v5) fun r v6 => ∃ (b19 : Bool), r = (.bool b19) ∧
                      (bcase b19
                        (bcase b16
                          (R (.bool true) v6)
                          (CallsV Try.prog 18 #[(.complex .f64 re14 im15)] v6 fun r v7 => ∃ (i20 : Int), r = (.int .i64 i20) ∧
                            (bcase (i20 == (IntKind.i64.wrap (i1 + i3)))
                              (CallsV Try.prog 19 #[(.complex .f64 re14 im15)] v7 fun r v8 => ∃ (i21 : Int), r = (.int .i64 i21) ∧
                                (R (.bool (i21 == (IntKind.i64.wrap (i2 + i4)))) v8))
                              (R (.bool false) v7))))
                        (R (.bool false) v6))))
                  (CallsV Try.prog 14 #[] (hv v5) fun r v9 => ∃ (b22 : Bool), r = (.bool b22) ∧
                    (bcase b22
                      (bcase b16
                        (R (.bool true) v9)
                        (CallsV Try.prog 18 #[(.complex .f64 re14 im15)] v9 fun r v10 => ∃ (i23 : Int), r = (.int .i64 i23) ∧
                          (bcase (i23 == (IntKind.i64.wrap (i1 + i3)))
                            (CallsV Try.prog 19 #[(.complex .f64 re14 im15)] v10 fun r v11 => ∃ (i24 : Int), r = (.int .i64 i24) ∧
                              (R (.bool (i24 == (IntKind.i64.wrap (i2 + i4)))) v11))
                            (R (.bool false) v10))))
                      (R (.bool false) v9)))))))))))) := by kernel_rfl
theorem t_flow_Shift (re1 : Nat) (im2 : Nat) (i3 : Int) (v : World) (R : Value → World → Prop) : vcFn E [] Try.f26 [(.complex .f64 re1 im2), (.int .i64 i3)] v R =
  (CallsV Try.prog 33 #[(.complex .f64 re1 im2)] (hv v) fun r v1 => ∃ (i4 : Int) (i5 : Int) (b6 : Bool), r = (.tuple #[(.int .i64 i4), (.int .i64 i5), (.bool b6)]) ∧
  (bcase (!b6)
    (CallsV Try.prog 36 #[(.int .i64 1), (.bool true)] v1 fun r v2 => ∃ (re7 : Nat) (im8 : Nat) (b9 : Bool) (b10 : Bool) (i11 : Int), r = (.tuple #[(.complex .f64 re7 im8), (.agg #[(.bool b9), (.bool b10), (.int .i64 i11)])]) ∧
      (R (.tuple #[(.complex .f64 re7 im8), (.agg #[(.bool b9), (.bool b10), (.int .i64 i11)])]) v2))
    (CallsV Try.prog 32 #[(.int .i64 i3)] v1 fun r v3 => ∃ (i12 : Int), r = (.int .i64 i12) ∧
      (bcase (i3 != i12)
        (CallsV Try.prog 36 #[(.int .i64 1), (.bool true)] v3 fun r v4 => ∃ (re13 : Nat) (im14 : Nat) (b15 : Bool) (b16 : Bool) (i17 : Int), r = (.tuple #[(.complex .f64 re13 im14), (.agg #[(.bool b15), (.bool b16), (.int .i64 i17)])]) ∧
          (R (.tuple #[(.complex .f64 re13 im14), (.agg #[(.bool b15), (.bool b16), (.int .i64 i17)])]) v4))
        (CallsV Try.prog 18 #[(.complex .f64 re1 im2)] v3 fun r v5 => ∃ (i18 : Int), r = (.int .i64 i18) ∧
          (bcase (decide ((IntKind.i64.wrap (i18 + i3)) > 2147483647))
            (CallsV Try.prog 36 #[(.int .i64 3), (.bool true)] v5 fun r v6 => ∃ (re19 : Nat) (im20 : Nat) (b21 : Bool) (b22 : Bool) (i23 : Int), r = (.tuple #[(.complex .f64 re19 im20), (.agg #[(.bool b21), (.bool b22), (.int .i64 i23)])]) ∧
              (R (.tuple #[(.complex .f64 re19 im20), (.agg #[(.bool b21), (.bool b22), (.int .i64 i23)])]) v6))
            (CallsV Try.prog 18 #[(.complex .f64 re1 im2)] v5 fun r v7 => ∃ (i24 : Int), r = (.int .i64 i24) ∧
              (CallsV Try.prog 19 #[(.complex .f64 re1 im2)] v7 fun r v8 => ∃ (i25 : Int), r = (.int .i64 i25) ∧
                (CallsV Try.prog 15 #[(.int .i64 (IntKind.i64.wrap (i24 + i3))), (.int .i64 i25)] v8 fun r v9 => ∃ (re26 : Nat) (im27 : Nat), r = (.complex .f64 re26 im27) ∧
                  (R (.tuple #[(.complex .f64 re26 im27), (.agg #[(.bool false), (.bool false), (.int .i64 0)])]) v9)))))))))) := by kernel_rfl
theorem t_wlvlaw12_FlowBack (i1 : Int) (i2 : Int) (i3 : Int) (i4 : Int) (v : World) (R : Value → World → Prop) : vcFn E [] Try.f9 [(.int .i64 i1), (.int .i64 i2), (.int .i64 i3), (.int .i64 i4)] v R =
  (CallsV Try.prog 14 #[] v fun r v1 => ∃ (b5 : Bool), r = (.bool b5) ∧
  (bcase (!b5)
    (R (.bool false) v1)
    (bcase ((((((decide (i1 < (-2147483647))) || (decide (i1 > 2147483647))) || (decide (i2 < (-2147483647)))) || (decide (i2 > 2147483647))) || (decide (i4 < (-2147483647)))) || (decide (i4 > 2147483647)))
      (CallsV Try.prog 14 #[] v1 fun r v2 => ∃ (b6 : Bool), r = (.bool b6) ∧
        (R (.bool b6) v2))
      (CallsV Try.prog 15 #[(.int .i64 i1), (.int .i64 i2)] v1 fun r v3 => ∃ (re7 : Nat) (im8 : Nat), r = (.complex .f64 re7 im8) ∧
        (CallsV Try.prog 18 #[(.complex .f64 re7 im8)] v3 fun r v4 => ∃ (i9 : Int), r = (.int .i64 i9) ∧
          (bcase (i9 != i1)
            (R (.bool false) v4)
            (CallsV Try.prog 19 #[(.complex .f64 re7 im8)] v4 fun r v5 => ∃ (i10 : Int), r = (.int .i64 i10) ∧
              (bcase (i10 != i2)
                (R (.bool false) v5)
                (CallsV Try.prog 17 #[(.complex .f64 re7 im8)] v5 fun r v6 => ∃ (i11 : Int), r = (.int .i64 i11) ∧
                  (bcase (i11 != (if 0 > (if i2 < i1 then i2 else i1) then 0 else (if i2 < i1 then i2 else i1)))
                    (R (.bool false) v6)
                    (CallsV Try.prog 16 #[(.complex .f64 re7 im8), (.int .i64 i3)] v6 fun r v7 => ∃ (re12 : Nat) (im13 : Nat) (i14 : Int), r = (.tuple #[(.complex .f64 re12 im13), (.int .i64 i14)]) ∧
                      (bcase (decide (i3 ≥ 0))
                        (CallsV Try.prog 17 #[(.complex .f64 re7 im8)] v7 fun r v8 => ∃ (i15 : Int), r = (.int .i64 i15) ∧
                          (bcase (!((i14 == 0) == (decide (i3 ≤ i15))))
                            (R (.bool false) v8)
                            (bcase (i14 == 0)
                              (CallsV Try.prog 25 #[(.complex .f64 re12 im13), (.int .i64 i3), (.int .i64 i3)] v8 fun r v9 => ∃ (re16 : Nat) (im17 : Nat) (b18 : Bool) (b19 : Bool) (i20 : Int), r = (.tuple #[(.complex .f64 re16 im17), (.agg #[(.bool b18), (.bool b19), (.int .i64 i20)])]) ∧
                                (bcase (b18 || (!((FloatKind.f64.format.order re16 re7 == some .eq) && (FloatKind.f64.format.order im17 im8 == some .eq))))
                                  (R (.bool false) (hv v9))
                                  (CallsV Try.prog 18 #[(.complex .f64 re12 im13)] (hv v9) fun r v10 => ∃ (i21 : Int), r = (.int .i64 i21) ∧
                                    (bcase (i21 != (IntKind.i64.wrap (i1 - i3)))
                                      (R (.bool false) v10)
                                      (CallsV Try.prog 19 #[(.complex .f64 re12 im13)] v10 fun r v11 => ∃ (i22 : Int), r = (.int .i64 i22) ∧
                                        (bcase (i22 != (IntKind.i64.wrap (i2 - i3)))
                                          (R (.bool false) v11)
                                          (CallsV Try.prog 26 #[(.complex .f64 re7 im8), (.int .i64 i4)] v11 fun r v12 => ∃ (re23 : Nat) (im24 : Nat) (b25 : Bool) (b26 : Bool) (i27 : Int), r = (.tuple #[(.complex .f64 re23 im24), (.agg #[(.bool b25), (.bool b26), (.int .i64 i27)])]) ∧
                                            (bcase b25
                                              (CallsV Try.prog 14 #[] (hv v12) fun r v13 => ∃ (b28 : Bool), r = (.bool b28) ∧
                                                (R (.bool (((b28 && (decide ((IntKind.i64.wrap (i1 + i4)) > 2147483647))) && b26) && (i27 == 3))) v13))
                                              (CallsV Try.prog 14 #[] (hv v12) fun r v14 => ∃ (b29 : Bool), r = (.bool b29) ∧
                                                (bcase (b29 && (decide ((IntKind.i64.wrap (i1 + i4)) ≤ 2147483647)))
                                                  (CallsV Try.prog 18 #[(.complex .f64 re23 im24)] v14 fun r v15 => ∃ (i30 : Int), r = (.int .i64 i30) ∧
                                                    (bcase (i30 == (if (-2147483647) > (IntKind.i64.wrap (i1 + i4)) then (-2147483647) else (IntKind.i64.wrap (i1 + i4))))
                                                      (CallsV Try.prog 19 #[(.complex .f64 re23 im24)] v15 fun r v16 => ∃ (i31 : Int), r = (.int .i64 i31) ∧
                                                        (R (.bool (i31 == i2)) v16))
                                                      (R (.bool false) v15)))
                                                  (R (.bool false) v14)))))))))))
                              (CallsV Try.prog 26 #[(.complex .f64 re7 im8), (.int .i64 i4)] v8 fun r v17 => ∃ (re32 : Nat) (im33 : Nat) (b34 : Bool) (b35 : Bool) (i36 : Int), r = (.tuple #[(.complex .f64 re32 im33), (.agg #[(.bool b34), (.bool b35), (.int .i64 i36)])]) ∧
                                (bcase b34
                                  (CallsV Try.prog 14 #[] (hv v17) fun r v18 => ∃ (b37 : Bool), r = (.bool b37) ∧
                                    (R (.bool (((b37 && (decide ((IntKind.i64.wrap (i1 + i4)) > 2147483647))) && b35) && (i36 == 3))) v18))
                                  (CallsV Try.prog 14 #[] (hv v17) fun r v19 => ∃ (b38 : Bool), r = (.bool b38) ∧
                                    (bcase (b38 && (decide ((IntKind.i64.wrap (i1 + i4)) ≤ 2147483647)))
                                      (CallsV Try.prog 18 #[(.complex .f64 re32 im33)] v19 fun r v20 => ∃ (i39 : Int), r = (.int .i64 i39) ∧
                                        (bcase (i39 == (if (-2147483647) > (IntKind.i64.wrap (i1 + i4)) then (-2147483647) else (IntKind.i64.wrap (i1 + i4))))
                                          (CallsV Try.prog 19 #[(.complex .f64 re32 im33)] v20 fun r v21 => ∃ (i40 : Int), r = (.int .i64 i40) ∧
                                            (R (.bool (i40 == i2)) v21))
                                          (R (.bool false) v20)))
                                      (R (.bool false) v19))))))))
                        (bcase (!((i14 == 0) == false))
                          (R (.bool false) v7)
                          (bcase (i14 == 0)
                            (CallsV Try.prog 25 #[(.complex .f64 re12 im13), (.int .i64 i3), (.int .i64 i3)] v7 fun r v22 => ∃ (re41 : Nat) (im42 : Nat) (b43 : Bool) (b44 : Bool) (i45 : Int), r = (.tuple #[(.complex .f64 re41 im42), (.agg #[(.bool b43), (.bool b44), (.int .i64 i45)])]) ∧
                              (bcase (b43 || (!((FloatKind.f64.format.order re41 re7 == some .eq) && (FloatKind.f64.format.order im42 im8 == some .eq))))
                                (R (.bool false) (hv v22))
                                (CallsV Try.prog 18 #[(.complex .f64 re12 im13)] (hv v22) fun r v23 => ∃ (i46 : Int), r = (.int .i64 i46) ∧
                                  (bcase (i46 != (IntKind.i64.wrap (i1 - i3)))
                                    (R (.bool false) v23)
                                    (CallsV Try.prog 19 #[(.complex .f64 re12 im13)] v23 fun r v24 => ∃ (i47 : Int), r = (.int .i64 i47) ∧
                                      (bcase (i47 != (IntKind.i64.wrap (i2 - i3)))
                                        (R (.bool false) v24)
                                        (CallsV Try.prog 26 #[(.complex .f64 re7 im8), (.int .i64 i4)] v24 fun r v25 => ∃ (re48 : Nat) (im49 : Nat) (b50 : Bool) (b51 : Bool) (i52 : Int), r = (.tuple #[(.complex .f64 re48 im49), (.agg #[(.bool b50), (.bool b51), (.int .i64 i52)])]) ∧
                                          (bcase b50
                                            (CallsV Try.prog 14 #[] (hv v25) fun r v26 => ∃ (b53 : Bool), r = (.bool b53) ∧
                                              (R (.bool (((b53 && (decide ((IntKind.i64.wrap (i1 + i4)) > 2147483647))) && b51) && (i52 == 3))) v26))
                                            (CallsV Try.prog 14 #[] (hv v25) fun r v27 => ∃ (b54 : Bool), r = (.bool b54) ∧
                                              (bcase (b54 && (decide ((IntKind.i64.wrap (i1 + i4)) ≤ 2147483647)))
                                                (CallsV Try.prog 18 #[(.complex .f64 re48 im49)] v27 fun r v28 => ∃ (i55 : Int), r = (.int .i64 i55) ∧
                                                  (bcase (i55 == (if (-2147483647) > (IntKind.i64.wrap (i1 + i4)) then (-2147483647) else (IntKind.i64.wrap (i1 + i4))))
                                                    (CallsV Try.prog 19 #[(.complex .f64 re48 im49)] v28 fun r v29 => ∃ (i56 : Int), r = (.int .i64 i56) ∧
                                                      (R (.bool (i56 == i2)) v29))
                                                    (R (.bool false) v28)))
                                                (R (.bool false) v27)))))))))))
                            (CallsV Try.prog 26 #[(.complex .f64 re7 im8), (.int .i64 i4)] v7 fun r v30 => ∃ (re57 : Nat) (im58 : Nat) (b59 : Bool) (b60 : Bool) (i61 : Int), r = (.tuple #[(.complex .f64 re57 im58), (.agg #[(.bool b59), (.bool b60), (.int .i64 i61)])]) ∧
                              (bcase b59
                                (CallsV Try.prog 14 #[] (hv v30) fun r v31 => ∃ (b62 : Bool), r = (.bool b62) ∧
                                  (R (.bool (((b62 && (decide ((IntKind.i64.wrap (i1 + i4)) > 2147483647))) && b60) && (i61 == 3))) v31))
                                (CallsV Try.prog 14 #[] (hv v30) fun r v32 => ∃ (b63 : Bool), r = (.bool b63) ∧
                                  (bcase (b63 && (decide ((IntKind.i64.wrap (i1 + i4)) ≤ 2147483647)))
                                    (CallsV Try.prog 18 #[(.complex .f64 re57 im58)] v32 fun r v33 => ∃ (i64 : Int), r = (.int .i64 i64) ∧
                                      (bcase (i64 == (if (-2147483647) > (IntKind.i64.wrap (i1 + i4)) then (-2147483647) else (IntKind.i64.wrap (i1 + i4))))
                                        (CallsV Try.prog 19 #[(.complex .f64 re57 im58)] v33 fun r v34 => ∃ (i65 : Int), r = (.int .i64 i65) ∧
                                          (R (.bool (i65 == i2)) v34))
                                        (R (.bool false) v33)))
                                    (R (.bool false) v32))))))))))))))))))) := by kernel_rfl
theorem t_wlvlaw12_FlowBelow (i1 : Int) (i2 : Int) (i3 : Int) (v : World) (R : Value → World → Prop) : vcFn E [] Try.f10 [(.int .i64 i1), (.int .i64 i2), (.int .i64 i3)] v R =
  (CallsV Try.prog 14 #[] v fun r v1 => ∃ (b4 : Bool), r = (.bool b4) ∧
  (bcase (!b4)
    (R (.bool false) v1)
    (bcase ((((((decide (i1 < 0)) || (decide (i1 > 2147483647))) || (decide (i2 < 1))) || (decide (i2 > 2147483647))) || (decide (i3 < 1))) || (decide (i3 > 2147483647)))
      (CallsV Try.prog 14 #[] v1 fun r v2 => ∃ (b5 : Bool), r = (.bool b5) ∧
        (R (.bool b5) v2))
      (CallsV Try.prog 15 #[(.int .i64 i1), (.int .i64 i2)] v1 fun r v3 => ∃ (re6 : Nat) (im7 : Nat), r = (.complex .f64 re6 im7) ∧
        (CallsV Try.prog 26 #[(.complex .f64 re6 im7), (.int .i64 (IntKind.i64.wrap (0 - i3)))] v3 fun r v4 => ∃ (re8 : Nat) (im9 : Nat) (b10 : Bool) (b11 : Bool) (i12 : Int), r = (.tuple #[(.complex .f64 re8 im9), (.agg #[(.bool b10), (.bool b11), (.int .i64 i12)])]) ∧
          (bcase b10
            (R (.bool false) (hv v4))
            (CallsV Try.prog 18 #[(.complex .f64 re8 im9)] (hv v4) fun r v5 => ∃ (i13 : Int), r = (.int .i64 i13) ∧
              (bcase (i13 != (IntKind.i64.wrap (i1 - i3)))
                (R (.bool false) v5)
                (CallsV Try.prog 19 #[(.complex .f64 re8 im9)] v5 fun r v6 => ∃ (i14 : Int), r = (.int .i64 i14) ∧
                  (bcase (i14 != i2)
                    (R (.bool false) v6)
                    (bcase (decide (i1 ≥ i3))
                      (CallsV Try.prog 14 #[] v6 fun r v7 => ∃ (b15 : Bool), r = (.bool b15) ∧
                        (bcase b15
                          (CallsV Try.prog 17 #[(.complex .f64 re8 im9)] v7 fun r v8 => ∃ (i16 : Int), r = (.int .i64 i16) ∧
                            (R (.bool (i16 == (if i2 < (IntKind.i64.wrap (i1 - i3)) then i2 else (IntKind.i64.wrap (i1 - i3))))) v8))
                          (R (.bool false) v7)))
                      (CallsV Try.prog 16 #[(.complex .f64 re8 im9), (.int .i64 1)] v6 fun r v9 => ∃ (re17 : Nat) (im18 : Nat) (i19 : Int), r = (.tuple #[(.complex .f64 re17 im18), (.int .i64 i19)]) ∧
                        (CallsV Try.prog 16 #[(.complex .f64 re8 im9), (.int .i64 0)] v9 fun r v10 => ∃ (re20 : Nat) (im21 : Nat) (i22 : Int), r = (.tuple #[(.complex .f64 re20 im21), (.int .i64 i22)]) ∧
                          (CallsV Try.prog 25 #[(.complex .f64 re8 im9), (.int .i64 (IntKind.i64.wrap (i3 - i1))), (.int .i64 0)] v10 fun r v11 => ∃ (re23 : Nat) (im24 : Nat) (b25 : Bool) (b26 : Bool) (i27 : Int), r = (.tuple #[(.complex .f64 re23 im24), (.agg #[(.bool b25), (.bool b26), (.int .i64 i27)])]) ∧
                            (CallsV Try.prog 14 #[] (hv v11) fun r v12 => ∃ (b28 : Bool), r = (.bool b28) ∧
                              (bcase b28
                                (CallsV Try.prog 17 #[(.complex .f64 re8 im9)] v12 fun r v13 => ∃ (i29 : Int), r = (.int .i64 i29) ∧
                                  (bcase (((((i29 == 0) && (i19 == 1)) && (i22 == 0)) && ((FloatKind.f64.format.order re20 re8 == some .eq) && (FloatKind.f64.format.order im21 im9 == some .eq))) && (!b25))
                                    (CallsV Try.prog 18 #[(.complex .f64 re23 im24)] v13 fun r v14 => ∃ (i30 : Int), r = (.int .i64 i30) ∧
                                      (bcase (i30 == 0)
                                        (CallsV Try.prog 17 #[(.complex .f64 re23 im24)] v14 fun r v15 => ∃ (i31 : Int), r = (.int .i64 i31) ∧
                                          (R (.bool (i31 == 0)) v15))
                                        (R (.bool false) v14)))
                                    (R (.bool false) v13)))
                                (R (.bool false) v12))))))))))))))))) := by kernel_rfl
end Go.Proofs.Ytnlekdpnjphmfaa
