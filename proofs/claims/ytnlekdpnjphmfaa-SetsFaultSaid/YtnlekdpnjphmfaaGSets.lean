/- The conditions of functions of the program, written by a program of ours and held by the kernel; contracts of those that have no loop. -/
import Derived.Test.YtnlekdpnjphmfaaProg
import Derived.Test.YtnlekdpnjphmfaaVcb
namespace Go.Proofs.Ytnlekdpnjphmfaa
open Vc
set_option linter.unusedVariables false
theorem t_sets_wrong (i1 : Int) (i2 : Int) (v : World) (R : Value → World → Prop) : vcFn E [] Try.f34 [(.agg #[(.int .i64 i1), (.int .i64 i2)])] v R =
  (bcase (((i1 == 2) && (i2 != 0)) && (i2 != 1))
  (R (.int .i64 1) (hv v))
  (bcase (i1 == 5)
    (bcase ((decide (i2 < 16384)) || (decide (i2 > 16777215)))
      (R (.int .i64 1) (hv v))
      (bcase ((i1 == 4) && (decide (i2 > 2147483647)))
        (R (.int .i64 3) (hv v))
        (R (.int .i64 0) (hv v))))
    (bcase ((i1 == 4) && (decide (i2 > 2147483647)))
      (R (.int .i64 3) (hv v))
      (R (.int .i64 0) (hv v))))) := by kernel_rfl
def F_sets_wrong (i1 : Int) (i2 : Int) : Int :=
  cond (((i1 == 2) && (i2 != 0)) && (i2 != 1))
  (1)
  (cond (i1 == 5)
    (cond ((decide (i2 < 16384)) || (decide (i2 > 16777215)))
      (1)
      (cond ((i1 == 4) && (decide (i2 > 2147483647)))
        (3)
        (0)))
    (cond ((i1 == 4) && (decide (i2 > 2147483647)))
      (3)
      (0)))
def enc_sets_wrong : Int → Value
  | i1 => (.int .i64 i1)
theorem c_sets_wrong (i1 : Int) (i2 : Int) (v : World) : CallsV Try.prog 34 #[(.agg #[(.int .i64 i1), (.int .i64 i2)])] v fun r v' => r = enc_sets_wrong (F_sets_wrong i1 i2) ∧ Pad v v' := by
  refine fn_sound (E := E) (A := []) Try.func34 ?_
  rw [t_sets_wrong]
  obtain ⟨z, hz⟩ : ∃ z, z = F_sets_wrong i1 i2 := ⟨_, rfl⟩
  rw [← hz]
  unfold F_sets_wrong at hz
  refine bcase_of (fun h => ?_) (fun h => ?_)
  · have hz := cond_t h hz; clear h
    exact ⟨by subst hz; rfl, (Pad.refl : Pad v v).hv⟩
  · have hz := cond_f h hz; clear h
    refine bcase_of (fun h => ?_) (fun h => ?_)
    · have hz := cond_t h hz; clear h
      refine bcase_of (fun h => ?_) (fun h => ?_)
      · have hz := cond_t h hz; clear h
        exact ⟨by subst hz; rfl, (Pad.refl : Pad v v).hv⟩
      · have hz := cond_f h hz; clear h
        refine bcase_of (fun h => ?_) (fun h => ?_)
        · have hz := cond_t h hz; clear h
          exact ⟨by subst hz; rfl, (Pad.refl : Pad v v).hv⟩
        · have hz := cond_f h hz; clear h
          exact ⟨by subst hz; rfl, (Pad.refl : Pad v v).hv⟩
    · have hz := cond_f h hz; clear h
      refine bcase_of (fun h => ?_) (fun h => ?_)
      · have hz := cond_t h hz; clear h
        exact ⟨by subst hz; rfl, (Pad.refl : Pad v v).hv⟩
      · have hz := cond_f h hz; clear h
        exact ⟨by subst hz; rfl, (Pad.refl : Pad v v).hv⟩
theorem t_sets_Apply (i1 : Int) (i2 : Int) (i3 : Int) (i4 : Int) (i5 : Int) (i6 : Int) (a7 : Option Addr) (n8 : Nat) (c9 : Nat) (v : World) (R : Value → World → Prop) : vcFn E [(3, ⟨[(11, Kd.int .i64)], [(2, [Kd.int .i64, Kd.int .i64, Kd.int .i64, Kd.int .i64, Kd.int .i64, Kd.int .i64]), (4, [Kd.int .i64, Kd.int .i64, Kd.int .i64, Kd.int .i64, Kd.int .i64, Kd.int .i64]), (5, [Kd.bool, Kd.bool, Kd.int .i64])], [7, 8, 12, 13, 14, 15, 16, 17, 18, 19, 20, 21, 22, 23, 24, 25, 26, 27, 28, 29, 30, 31, 32, 33, 34, 35, 36, 37, 38, 39, 40, 41, 42, 43, 44, 45, 46, 47, 48, 49, 50, 51, 52, 53, 54, 55, 56, 57], []⟩)] Try.f21 [(.agg #[(.int .i64 i1), (.int .i64 i2), (.int .i64 i3), (.int .i64 i4), (.int .i64 i5), (.int .i64 i6)]), (.slice a7 n8 c9)] v R =
  (∃ (Inv10 : Int → Int → Int → Int → Int → Int → Int → Int → Int → Int → Int → Int → Int → Bool → Bool → Int → World → Prop) (mu11 : Int → Int → Int → Int → Int → Int → Int → Int → Int → Int → Int → Int → Int → Bool → Bool → Int → World → Nat), Inv10 0 i1 i2 i3 i4 i5 i6 0 0 0 0 0 0 false false 0 (hv (hv (hv v))) ∧
  ∀ (i12 : Int) (i13 : Int) (i14 : Int) (i15 : Int) (i16 : Int) (i17 : Int) (i18 : Int) (i19 : Int) (i20 : Int) (i21 : Int) (i22 : Int) (i23 : Int) (i24 : Int) (b25 : Bool) (b26 : Bool) (i27 : Int) (v1 : World), Inv10 i12 i13 i14 i15 i16 i17 i18 i19 i20 i21 i22 i23 i24 b25 b26 i27 v1 →
  (bcase (decide (i12 < (n8 : Int)))
    (∃ (ad28 : Addr), a7 = some ad28 ∧
      (0 ≤ i12 ∧ i12 < (n8 : Int) ∧ 
        (∃ (i29 : Int), v1.cell? ((ad28.add ((i12).toNat * 2)).add 0) = some (.int .i64 i29) ∧ ∃ (i30 : Int), v1.cell? ((ad28.add ((i12).toNat * 2)).add 1) = some (.int .i64 i30) ∧ 
          (CallsV Try.prog 34 #[(.agg #[(.int .i64 i29), (.int .i64 i30)])] (hv v1) fun r v2 => ∃ (i31 : Int), r = (.int .i64 i31) ∧
            (bcase (i31 != 0)
              (R (.tuple #[(.agg #[(.int .i64 0), (.int .i64 0), (.int .i64 0), (.int .i64 0), (.int .i64 0), (.int .i64 0)]), (.agg #[(.bool true), (.bool true), (.int .i64 i31)])]) v2)
              (bcase (i29 == 1)
                ((Inv10 (IntKind.i64.wrap (i12 + 1)) (if 2147483647 < i30 then 2147483647 else i30) i14 i15 i16 i17 i18 i19 i20 i21 i22 i23 i24 b25 b26 i27 v2 ∧ mu11 (IntKind.i64.wrap (i12 + 1)) (if 2147483647 < i30 then 2147483647 else i30) i14 i15 i16 i17 i18 i19 i20 i21 i22 i23 i24 b25 b26 i27 v2 < mu11 i12 i13 i14 i15 i16 i17 i18 i19 i20 i21 i22 i23 i24 b25 b26 i27 v1))
                (bcase (i29 == 2)
                  ((Inv10 (IntKind.i64.wrap (i12 + 1)) i13 i30 i15 i16 i17 i18 i19 i20 i21 i22 i23 i24 b25 b26 i27 v2 ∧ mu11 (IntKind.i64.wrap (i12 + 1)) i13 i30 i15 i16 i17 i18 i19 i20 i21 i22 i23 i24 b25 b26 i27 v2 < mu11 i12 i13 i14 i15 i16 i17 i18 i19 i20 i21 i22 i23 i24 b25 b26 i27 v1))
                  (bcase (i29 == 3)
                    ((Inv10 (IntKind.i64.wrap (i12 + 1)) i13 i14 (if 2147483647 < i30 then 2147483647 else i30) i16 i17 i18 i19 i20 i21 i22 i23 i24 b25 b26 i27 v2 ∧ mu11 (IntKind.i64.wrap (i12 + 1)) i13 i14 (if 2147483647 < i30 then 2147483647 else i30) i16 i17 i18 i19 i20 i21 i22 i23 i24 b25 b26 i27 v2 < mu11 i12 i13 i14 i15 i16 i17 i18 i19 i20 i21 i22 i23 i24 b25 b26 i27 v1))
                    (bcase (i29 == 4)
                      ((Inv10 (IntKind.i64.wrap (i12 + 1)) i13 i14 i15 i30 i17 i18 i19 i20 i21 i22 i23 i24 b25 b26 i27 v2 ∧ mu11 (IntKind.i64.wrap (i12 + 1)) i13 i14 i15 i30 i17 i18 i19 i20 i21 i22 i23 i24 b25 b26 i27 v2 < mu11 i12 i13 i14 i15 i16 i17 i18 i19 i20 i21 i22 i23 i24 b25 b26 i27 v1))
                      (bcase (i29 == 5)
                        ((Inv10 (IntKind.i64.wrap (i12 + 1)) i13 i14 i15 i16 i30 i18 i19 i20 i21 i22 i23 i24 b25 b26 i27 v2 ∧ mu11 (IntKind.i64.wrap (i12 + 1)) i13 i14 i15 i16 i30 i18 i19 i20 i21 i22 i23 i24 b25 b26 i27 v2 < mu11 i12 i13 i14 i15 i16 i17 i18 i19 i20 i21 i22 i23 i24 b25 b26 i27 v1))
                        (bcase (i29 == 6)
                          ((Inv10 (IntKind.i64.wrap (i12 + 1)) i13 i14 i15 i16 i17 (if 2147483647 < i30 then 2147483647 else i30) i19 i20 i21 i22 i23 i24 b25 b26 i27 v2 ∧ mu11 (IntKind.i64.wrap (i12 + 1)) i13 i14 i15 i16 i17 (if 2147483647 < i30 then 2147483647 else i30) i19 i20 i21 i22 i23 i24 b25 b26 i27 v2 < mu11 i12 i13 i14 i15 i16 i17 i18 i19 i20 i21 i22 i23 i24 b25 b26 i27 v1))
                          ((Inv10 (IntKind.i64.wrap (i12 + 1)) i13 i14 i15 i16 i17 i18 i19 i20 i21 i22 i23 i24 b25 b26 i27 v2 ∧ mu11 (IntKind.i64.wrap (i12 + 1)) i13 i14 i15 i16 i17 i18 i19 i20 i21 i22 i23 i24 b25 b26 i27 v2 < mu11 i12 i13 i14 i15 i16 i17 i18 i19 i20 i21 i22 i23 i24 b25 b26 i27 v1)))))))))))))
    (R (.tuple #[(.agg #[(.int .i64 i13), (.int .i64 i14), (.int .i64 i15), (.int .i64 i16), (.int .i64 i17), (.int .i64 i18)]), (.agg #[(.bool false), (.bool false), (.int .i64 0)])]) v1))) := by kernel_rfl
theorem t_sets_First  (v : World) (R : Value → World → Prop) : vcFn E [] Try.f23 [] v R =
  (R (.agg #[(.int .i64 4096), (.int .i64 1), (.int .i64 2147483647), (.int .i64 65535), (.int .i64 16384), (.int .i64 2147483647)]) (hv v)) := by kernel_rfl
def F_sets_First  : Int × Int × Int × Int × Int × Int :=
  (4096, 1, 2147483647, 65535, 16384, 2147483647)
def enc_sets_First : Int × Int × Int × Int × Int × Int → Value
  | (i1, i2, i3, i4, i5, i6) => (.agg #[(.int .i64 i1), (.int .i64 i2), (.int .i64 i3), (.int .i64 i4), (.int .i64 i5), (.int .i64 i6)])
theorem c_sets_First  (v : World) : CallsV Try.prog 23 #[] v fun r v' => r = enc_sets_First (F_sets_First ) ∧ Pad v v' := by
  refine fn_sound (E := E) (A := []) Try.func23 ?_
  rw [t_sets_First]
  obtain ⟨z, hz⟩ : ∃ z, z = F_sets_First  := ⟨_, rfl⟩
  rw [← hz]
  unfold F_sets_First at hz
  exact ⟨by subst hz; rfl, (Pad.refl : Pad v v).hv⟩
theorem t_wlvlaw13_first  (v : World) (R : Value → World → Prop) : vcFn E [] Try.f20 [] v R =
  (CallsV Try.prog 23 #[] v fun r v1 => ∃ (i1 : Int) (i2 : Int) (i3 : Int) (i4 : Int) (i5 : Int) (i6 : Int), r = (.agg #[(.int .i64 i1), (.int .i64 i2), (.int .i64 i3), (.int .i64 i4), (.int .i64 i5), (.int .i64 i6)]) ∧
  (CallsV Try.prog 21 #[(.agg #[(.int .i64 i1), (.int .i64 i2), (.int .i64 i3), (.int .i64 i4), (.int .i64 i5), (.int .i64 i6)]), (.slice none 0 0)] v1 fun r v2 => ∃ (i7 : Int) (i8 : Int) (i9 : Int) (i10 : Int) (i11 : Int) (i12 : Int) (b13 : Bool) (b14 : Bool) (i15 : Int), r = (.tuple #[(.agg #[(.int .i64 i7), (.int .i64 i8), (.int .i64 i9), (.int .i64 i10), (.int .i64 i11), (.int .i64 i12)]), (.agg #[(.bool b13), (.bool b14), (.int .i64 i15)])]) ∧
    (∃ (i16 : Int) (i17 : Int) (i18 : Int) (i19 : Int) (i20 : Int) (i21 : Int), ((!b13) = true → (∀ w, Pad (hv (hv v2)) w → CallsV Try.prog 23 #[] w fun r w' => r = (.agg #[(.int .i64 i16), (.int .i64 i17), (.int .i64 i18), (.int .i64 i19), (.int .i64 i20), (.int .i64 i21)]) ∧ Pad w w')) ∧
      (∀ v3, Pad (hv (hv v2)) v3 →
        (R (.bool ((((!b13) && ((i7 == i16) && ((i8 == i17) && ((i9 == i18) && ((i10 == i19) && ((i11 == i20) && ((i12 == i21) && true))))))) && (i10 == 65535)) && (i11 == 16384))) v3))))) := by kernel_rfl
theorem t_wlvref10_fault (i1 : Int) (b2 : Bool) (v : World) (R : Value → World → Prop) : vcFn E [] Try.f35 [(.int .i64 i1), (.bool b2)] v R =
  (R (.agg #[(.bool true), (.bool b2), (.int .i64 i1)]) (hv v)) := by kernel_rfl
def F_wlvref10_fault (i1 : Int) (b2 : Bool) : Bool × Bool × Int :=
  (true, b2, i1)
def enc_wlvref10_fault : Bool × Bool × Int → Value
  | (b1, b2, i3) => (.agg #[(.bool b1), (.bool b2), (.int .i64 i3)])
theorem c_wlvref10_fault (i1 : Int) (b2 : Bool) (v : World) : CallsV Try.prog 35 #[(.int .i64 i1), (.bool b2)] v fun r v' => r = enc_wlvref10_fault (F_wlvref10_fault i1 b2) ∧ Pad v v' := by
  refine fn_sound (E := E) (A := []) Try.func35 ?_
  rw [t_wlvref10_fault]
  obtain ⟨z, hz⟩ : ∃ z, z = F_wlvref10_fault i1 b2 := ⟨_, rfl⟩
  rw [← hz]
  unfold F_wlvref10_fault at hz
  exact ⟨by subst hz; rfl, (Pad.refl : Pad v v).hv⟩
theorem t_wlvref10_Apply (i1 : Int) (i2 : Int) (i3 : Int) (i4 : Int) (i5 : Int) (i6 : Int) (a7 : Option Addr) (n8 : Nat) (c9 : Nat) (v : World) (R : Value → World → Prop) : vcFn E [(3, ⟨[(6, Kd.int .i64)], [(2, [Kd.int .i64, Kd.int .i64, Kd.int .i64, Kd.int .i64, Kd.int .i64, Kd.int .i64]), (4, [Kd.int .i64, Kd.int .i64, Kd.int .i64, Kd.int .i64, Kd.int .i64, Kd.int .i64]), (5, [Kd.bool, Kd.bool, Kd.int .i64])], [7, 8, 9, 10, 11, 12, 13, 14, 15, 16, 17, 18, 19, 20, 21, 22, 23, 24, 25, 26, 27, 28, 29, 30, 31, 32, 33, 34, 35, 36, 37, 38, 39, 40, 41, 42, 43, 44, 45, 46, 47, 48, 49, 50, 51, 52, 53, 54, 55, 56, 57, 58, 59, 60, 61, 62, 63, 64, 65, 66, 67, 68, 69, 70], []⟩)] Try.f22 [(.agg #[(.int .i64 i1), (.int .i64 i2), (.int .i64 i3), (.int .i64 i4), (.int .i64 i5), (.int .i64 i6)]), (.slice a7 n8 c9)] v R =
  (∃ (Inv10 : Int → Int → Int → Int → Int → Int → Int → Int → Int → Int → Int → Int → Int → Bool → Bool → Int → World → Prop) (mu11 : Int → Int → Int → Int → Int → Int → Int → Int → Int → Int → Int → Int → Int → Bool → Bool → Int → World → Nat), Inv10 0 i1 i2 i3 i4 i5 i6 0 0 0 0 0 0 false false 0 (hv (hv (hv v))) ∧
  ∀ (i12 : Int) (i13 : Int) (i14 : Int) (i15 : Int) (i16 : Int) (i17 : Int) (i18 : Int) (i19 : Int) (i20 : Int) (i21 : Int) (i22 : Int) (i23 : Int) (i24 : Int) (b25 : Bool) (b26 : Bool) (i27 : Int) (v1 : World), Inv10 i12 i13 i14 i15 i16 i17 i18 i19 i20 i21 i22 i23 i24 b25 b26 i27 v1 →
  (bcase (decide (i12 < (n8 : Int)))
    (∃ (ad28 : Addr), a7 = some ad28 ∧
      (0 ≤ i12 ∧ i12 < (n8 : Int) ∧ 
        (∃ (i29 : Int), v1.cell? (((ad28.add ((i12).toNat * 2)).add 1).add 0) = some (.int .i64 i29) ∧ 
          (∃ (ad30 : Addr), a7 = some ad30 ∧
            (0 ≤ i12 ∧ i12 < (n8 : Int) ∧ 
              (∃ (i31 : Int), v1.cell? (((ad30.add ((i12).toNat * 2)).add 0).add 0) = some (.int .i64 i31) ∧ 
                (bcase (i31 == 1)
                  ((Inv10 (IntKind.i64.wrap (i12 + 1)) (if 2147483647 < i29 then 2147483647 else i29) i14 i15 i16 i17 i18 i19 i20 i21 i22 i23 i24 b25 b26 i27 v1 ∧ mu11 (IntKind.i64.wrap (i12 + 1)) (if 2147483647 < i29 then 2147483647 else i29) i14 i15 i16 i17 i18 i19 i20 i21 i22 i23 i24 b25 b26 i27 v1 < mu11 i12 i13 i14 i15 i16 i17 i18 i19 i20 i21 i22 i23 i24 b25 b26 i27 v1))
                  (bcase (i31 == 2)
                    (bcase ((decide (i29 < 0)) || (decide (i29 > 1)))
                      (CallsV Try.prog 35 #[(.int .i64 1), (.bool true)] v1 fun r v2 => ∃ (b32 : Bool) (b33 : Bool) (i34 : Int), r = (.agg #[(.bool b32), (.bool b33), (.int .i64 i34)]) ∧
                        (R (.tuple #[(.agg #[(.int .i64 0), (.int .i64 0), (.int .i64 0), (.int .i64 0), (.int .i64 0), (.int .i64 0)]), (.agg #[(.bool b32), (.bool b33), (.int .i64 i34)])]) v2))
                      ((Inv10 (IntKind.i64.wrap (i12 + 1)) i13 i29 i15 i16 i17 i18 i19 i20 i21 i22 i23 i24 b25 b26 i27 v1 ∧ mu11 (IntKind.i64.wrap (i12 + 1)) i13 i29 i15 i16 i17 i18 i19 i20 i21 i22 i23 i24 b25 b26 i27 v1 < mu11 i12 i13 i14 i15 i16 i17 i18 i19 i20 i21 i22 i23 i24 b25 b26 i27 v1)))
                    (bcase (i31 == 3)
                      ((Inv10 (IntKind.i64.wrap (i12 + 1)) i13 i14 (if 2147483647 < i29 then 2147483647 else i29) i16 i17 i18 i19 i20 i21 i22 i23 i24 b25 b26 i27 v1 ∧ mu11 (IntKind.i64.wrap (i12 + 1)) i13 i14 (if 2147483647 < i29 then 2147483647 else i29) i16 i17 i18 i19 i20 i21 i22 i23 i24 b25 b26 i27 v1 < mu11 i12 i13 i14 i15 i16 i17 i18 i19 i20 i21 i22 i23 i24 b25 b26 i27 v1))
                      (bcase (i31 == 4)
                        (bcase (decide (i29 > 2147483647))
                          (CallsV Try.prog 35 #[(.int .i64 3), (.bool true)] v1 fun r v3 => ∃ (b35 : Bool) (b36 : Bool) (i37 : Int), r = (.agg #[(.bool b35), (.bool b36), (.int .i64 i37)]) ∧
                            (R (.tuple #[(.agg #[(.int .i64 0), (.int .i64 0), (.int .i64 0), (.int .i64 0), (.int .i64 0), (.int .i64 0)]), (.agg #[(.bool b35), (.bool b36), (.int .i64 i37)])]) v3))
                          ((Inv10 (IntKind.i64.wrap (i12 + 1)) i13 i14 i15 i29 i17 i18 i19 i20 i21 i22 i23 i24 b25 b26 i27 v1 ∧ mu11 (IntKind.i64.wrap (i12 + 1)) i13 i14 i15 i29 i17 i18 i19 i20 i21 i22 i23 i24 b25 b26 i27 v1 < mu11 i12 i13 i14 i15 i16 i17 i18 i19 i20 i21 i22 i23 i24 b25 b26 i27 v1)))
                        (bcase (i31 == 5)
                          (bcase ((decide (i29 < 16384)) || (decide (i29 > 16777215)))
                            (CallsV Try.prog 35 #[(.int .i64 1), (.bool true)] v1 fun r v4 => ∃ (b38 : Bool) (b39 : Bool) (i40 : Int), r = (.agg #[(.bool b38), (.bool b39), (.int .i64 i40)]) ∧
                              (R (.tuple #[(.agg #[(.int .i64 0), (.int .i64 0), (.int .i64 0), (.int .i64 0), (.int .i64 0), (.int .i64 0)]), (.agg #[(.bool b38), (.bool b39), (.int .i64 i40)])]) v4))
                            ((Inv10 (IntKind.i64.wrap (i12 + 1)) i13 i14 i15 i16 i29 i18 i19 i20 i21 i22 i23 i24 b25 b26 i27 v1 ∧ mu11 (IntKind.i64.wrap (i12 + 1)) i13 i14 i15 i16 i29 i18 i19 i20 i21 i22 i23 i24 b25 b26 i27 v1 < mu11 i12 i13 i14 i15 i16 i17 i18 i19 i20 i21 i22 i23 i24 b25 b26 i27 v1)))
                          (bcase (i31 == 6)
                            ((Inv10 (IntKind.i64.wrap (i12 + 1)) i13 i14 i15 i16 i17 (if 2147483647 < i29 then 2147483647 else i29) i19 i20 i21 i22 i23 i24 b25 b26 i27 v1 ∧ mu11 (IntKind.i64.wrap (i12 + 1)) i13 i14 i15 i16 i17 (if 2147483647 < i29 then 2147483647 else i29) i19 i20 i21 i22 i23 i24 b25 b26 i27 v1 < mu11 i12 i13 i14 i15 i16 i17 i18 i19 i20 i21 i22 i23 i24 b25 b26 i27 v1))
                            ((Inv10 (IntKind.i64.wrap (i12 + 1)) i13 i14 i15 i16 i17 i18 i19 i20 i21 i22 i23 i24 b25 b26 i27 v1 ∧ mu11 (IntKind.i64.wrap (i12 + 1)) i13 i14 i15 i16 i17 i18 i19 i20 i21 i22 i23 i24 b25 b26 i27 v1 < mu11 i12 i13 i14 i15 i16 i17 i18 i19 i20 i21 i22 i23 i24 b25 b26 i27 v1))))))))))))))
    (R (.tuple #[(.agg #[(.int .i64 i13), (.int .i64 i14), (.int .i64 i15), (.int .i64 i16), (.int .i64 i17), (.int .i64 i18)]), (.agg #[(.bool false), (.bool false), (.int .i64 0)])]) v1))) := by kernel_rfl
theorem t_wlvref10_First  (v : World) (R : Value → World → Prop) : vcFn E [] Try.f24 [] v R =
  (R (.agg #[(.int .i64 4096), (.int .i64 1), (.int .i64 2147483647), (.int .i64 65535), (.int .i64 16384), (.int .i64 2147483647)]) (hv v)) := by kernel_rfl
def F_wlvref10_First  : Int × Int × Int × Int × Int × Int :=
  (4096, 1, 2147483647, 65535, 16384, 2147483647)
def enc_wlvref10_First : Int × Int × Int × Int × Int × Int → Value
  | (i1, i2, i3, i4, i5, i6) => (.agg #[(.int .i64 i1), (.int .i64 i2), (.int .i64 i3), (.int .i64 i4), (.int .i64 i5), (.int .i64 i6)])
theorem c_wlvref10_First  (v : World) : CallsV Try.prog 24 #[] v fun r v' => r = enc_wlvref10_First (F_wlvref10_First ) ∧ Pad v v' := by
  refine fn_sound (E := E) (A := []) Try.func24 ?_
  rw [t_wlvref10_First]
  obtain ⟨z, hz⟩ : ∃ z, z = F_wlvref10_First  := ⟨_, rfl⟩
  rw [← hz]
  unfold F_wlvref10_First at hz
  exact ⟨by subst hz; rfl, (Pad.refl : Pad v v).hv⟩
theorem t_wlvlaw13_SetsTells (i1 : Int) (i2 : Int) (i3 : Int) (i4 : Int) (i5 : Int) (i6 : Int) (a7 : Option Addr) (n8 : Nat) (c9 : Nat) (v : World) (R : Value → World → Prop) : vcFn E [] Try.f4 [(.agg #[(.int .i64 i1), (.int .i64 i2), (.int .i64 i3), (.int .i64 i4), (.int .i64 i5), (.int .i64 i6)]), (.slice a7 n8 c9)] v R =
  (CallsV Try.prog 20 #[] (hv v) fun r v1 => ∃ (b10 : Bool), r = (.bool b10) ∧
  (bcase (!b10)
    (R (.bool false) v1)
    (bcase (decide ((n8 : Int) > 300))
      (CallsV Try.prog 20 #[] v1 fun r v2 => ∃ (b11 : Bool), r = (.bool b11) ∧
        (R (.bool b11) v2))
      (CallsV Try.prog 21 #[(.agg #[(.int .i64 i1), (.int .i64 i2), (.int .i64 i3), (.int .i64 i4), (.int .i64 i5), (.int .i64 i6)]), (.slice a7 n8 c9)] v1 fun r v3 => ∃ (i12 : Int) (i13 : Int) (i14 : Int) (i15 : Int) (i16 : Int) (i17 : Int) (b18 : Bool) (b19 : Bool) (i20 : Int), r = (.tuple #[(.agg #[(.int .i64 i12), (.int .i64 i13), (.int .i64 i14), (.int .i64 i15), (.int .i64 i16), (.int .i64 i17)]), (.agg #[(.bool b18), (.bool b19), (.int .i64 i20)])]) ∧
        (CallsV Try.prog 22 #[(.agg #[(.int .i64 i1), (.int .i64 i2), (.int .i64 i3), (.int .i64 i4), (.int .i64 i5), (.int .i64 i6)]), (.slice a7 n8 c9)] (hv (hv v3)) fun r v4 => ∃ (i21 : Int) (i22 : Int) (i23 : Int) (i24 : Int) (i25 : Int) (i26 : Int) (b27 : Bool) (b28 : Bool) (i29 : Int), r = (.tuple #[(.agg #[(.int .i64 i21), (.int .i64 i22), (.int .i64 i23), (.int .i64 i24), (.int .i64 i25), (.int .i64 i26)]), (.agg #[(.bool b27), (.bool b28), (.int .i64 i29)])]) ∧
          (CallsV Try.prog 20 #[] (hv (hv v4)) fun r v5 => ∃ (b30 : Bool), r = (.bool b30) ∧
            (bcase b30
              (CallsV Try.prog 23 #[] v5 fun r v6 => ∃ (i31 : Int) (i32 : Int) (i33 : Int) (i34 : Int) (i35 : Int) (i36 : Int), r = (.agg #[(.int .i64 i31), (.int .i64 i32), (.int .i64 i33), (.int .i64 i34), (.int .i64 i35), (.int .i64 i36)]) ∧
                (CallsV Try.prog 24 #[] v6 fun r v7 => ∃ (i37 : Int) (i38 : Int) (i39 : Int) (i40 : Int) (i41 : Int) (i42 : Int), r = (.agg #[(.int .i64 i37), (.int .i64 i38), (.int .i64 i39), (.int .i64 i40), (.int .i64 i41), (.int .i64 i42)]) ∧
                  (R (.bool ((((i31 == i37) && ((i32 == i38) && ((i33 == i39) && ((i34 == i40) && ((i35 == i41) && ((i36 == i42) && true)))))) && ((i12 == i21) && ((i13 == i22) && ((i14 == i23) && ((i15 == i24) && ((i16 == i25) && ((i17 == i26) && true))))))) && ((b18 == b27) && ((b19 == b28) && ((i20 == i29) && true))))) v7)))
              (R (.bool false) v5)))))))) := by kernel_rfl
theorem t_wlvlaw13_SetsLast (a1 : Option Addr) (n2 : Nat) (c3 : Nat) (i4 : Int) (v : World) (R : Value → World → Prop) : vcFn E [(22, ⟨[(11, Kd.slice), (12, Kd.int .i64)], [], [13, 14, 83, 84, 85, 86, 87, 88, 89, 90, 91, 92, 93, 94, 95, 96, 97, 98, 99, 100, 101, 102, 103, 104, 105, 106, 107, 108, 109, 110, 111, 112, 113, 114, 115, 116, 117, 118, 119, 120, 121, 122, 123, 124, 125, 126, 127, 128, 129, 130, 131, 132], [5]⟩), (29, ⟨[(13, Kd.bool), (14, Kd.int .i64)], [], [105, 106, 107, 108, 109, 110, 111, 112, 113, 114, 115, 116, 117, 118, 119, 120, 121, 122, 123, 124], [5]⟩)] Try.f5 [(.slice a1 n2 c3), (.int .i64 i4)] v R =
  (CallsV Try.prog 20 #[] v fun r v1 => ∃ (b5 : Bool), r = (.bool b5) ∧
  (bcase (!b5)
    (R (.bool false) v1)
    (bcase (((decide ((n2 : Int) > 300)) || (decide (i4 < 0))) || (decide (i4 > (n2 : Int))))
      (CallsV Try.prog 20 #[] v1 fun r v2 => ∃ (b6 : Bool), r = (.bool b6) ∧
        (R (.bool b6) v2))
      (CallsV Try.prog 23 #[] v1 fun r v3 => ∃ (i7 : Int) (i8 : Int) (i9 : Int) (i10 : Int) (i11 : Int) (i12 : Int), r = (.agg #[(.int .i64 i7), (.int .i64 i8), (.int .i64 i9), (.int .i64 i10), (.int .i64 i11), (.int .i64 i12)]) ∧
        (CallsV Try.prog 21 #[(.agg #[(.int .i64 i7), (.int .i64 i8), (.int .i64 i9), (.int .i64 i10), (.int .i64 i11), (.int .i64 i12)]), (.slice a1 n2 c3)] v3 fun r v4 => ∃ (i13 : Int) (i14 : Int) (i15 : Int) (i16 : Int) (i17 : Int) (i18 : Int) (b19 : Bool) (b20 : Bool) (i21 : Int), r = (.tuple #[(.agg #[(.int .i64 i13), (.int .i64 i14), (.int .i64 i15), (.int .i64 i16), (.int .i64 i17), (.int .i64 i18)]), (.agg #[(.bool b19), (.bool b20), (.int .i64 i21)])]) ∧
          (∃ (i22 : Int) (i23 : Int) (i24 : Int) (i25 : Int) (i26 : Int) (i27 : Int), (∀ w, Pad (hv (hv v4)) w → CallsV Try.prog 23 #[] w fun r w' => r = (.agg #[(.int .i64 i22), (.int .i64 i23), (.int .i64 i24), (.int .i64 i25), (.int .i64 i26), (.int .i64 i27)]) ∧ Pad w w') ∧
            ((0 ≤ (0 : Int) ∧ (0 : Int) ≤ i4 ∧ i4 ≤ (c3 : Int)) ∧ 
              (∃ (i28 : Int) (i29 : Int) (i30 : Int) (i31 : Int) (i32 : Int) (i33 : Int) (b34 : Bool) (b35 : Bool) (i36 : Int), (∀ w, Pad (hv (hv v4)) w → CallsV Try.prog 21 #[(.agg #[(.int .i64 i22), (.int .i64 i23), (.int .i64 i24), (.int .i64 i25), (.int .i64 i26), (.int .i64 i27)]), (.slice (if c3 = ((0 : Int)).toNat then a1 else a1.map (·.add (((0 : Int)).toNat * 2))) ((i4).toNat - ((0 : Int)).toNat) (c3 - ((0 : Int)).toNat))] w fun r w' => r = (.tuple #[(.agg #[(.int .i64 i28), (.int .i64 i29), (.int .i64 i30), (.int .i64 i31), (.int .i64 i32), (.int .i64 i33)]), (.agg #[(.bool b34), (.bool b35), (.int .i64 i36)])]) ∧ Pad w w') ∧
                (∀ v5, Pad (hv (hv v4)) v5 →
                  (bcase b34
                    (CallsV Try.prog 20 #[] v5 fun r v6 => ∃ (b37 : Bool), r = (.bool b37) ∧
                      (R (.bool (((b37 && ((b19 == b34) && ((b20 == b35) && ((i21 == i36) && true)))) && b35) && ((i13 == 0) && ((i14 == 0) && ((i15 == 0) && ((i16 == 0) && ((i17 == 0) && ((i18 == 0) && true)))))))) v6))
                    ((0 ≤ i4 ∧ i4 ≤ (n2 : Int) ∧ (n2 : Int) ≤ (c3 : Int)) ∧ 
                      (∃ (i38 : Int) (i39 : Int) (i40 : Int) (i41 : Int) (i42 : Int) (i43 : Int) (b44 : Bool) (b45 : Bool) (i46 : Int), (∀ w, Pad v5 w → CallsV Try.prog 21 #[(.agg #[(.int .i64 i28), (.int .i64 i29), (.int .i64 i30), (.int .i64 i31), (.int .i64 i32), (.int .i64 i33)]), (.slice (if c3 = (i4).toNat then a1 else a1.map (·.add ((i4).toNat * 2))) (((n2 : Int)).toNat - (i4).toNat) (c3 - (i4).toNat))] w fun r w' => r = (.tuple #[(.agg #[(.int .i64 i38), (.int .i64 i39), (.int .i64 i40), (.int .i64 i41), (.int .i64 i42), (.int .i64 i43)]), (.agg #[(.bool b44), (.bool b45), (.int .i64 i46)])]) ∧ Pad w w') ∧
                        (∀ v7, Pad v5 v7 →
                          (bcase ((!((b44 == b19) && ((b45 == b20) && ((i46 == i21) && true)))) || (!((i38 == i13) && ((i39 == i14) && ((i40 == i15) && ((i41 == i16) && ((i42 == i17) && ((i43 == i18) && true))))))))
                            (R (.bool false) v7)
                            (bcase b19
                              (CallsV Try.prog 20 #[] v7 fun r v8 => ∃ (b47 : Bool), r = (.bool b47) ∧
                                (R (.bool b47) v8))
                              (∃ (Inv48 : Option Addr → Nat → Nat → Int → World → Prop) (mu49 : Option Addr → Nat → Nat → Int → World → Nat), Inv48 none 0 0 0 v7 ∧
                                ∀ (a50 : Option Addr) (n51 : Nat) (c52 : Nat) (i53 : Int) (v9 : World), Inv48 a50 n51 c52 i53 v9 →
                                (bcase (decide (i53 < (n2 : Int)))
                                  (∃ (ad54 : Addr), a1 = some ad54 ∧
                                    (0 ≤ i53 ∧ i53 < (n2 : Int) ∧ 
                                      (∃ (i55 : Int), v9.cell? (((ad54.add ((i53).toNat * 2)).add 0).add 0) = some (.int .i64 i55) ∧ 
                                        (bcase (decide (i55 ≥ 1))
                                          (∃ (ad56 : Addr), a1 = some ad56 ∧
                                            (0 ≤ i53 ∧ i53 < (n2 : Int) ∧ 
                                              (∃ (i57 : Int), v9.cell? (((ad56.add ((i53).toNat * 2)).add 0).add 0) = some (.int .i64 i57) ∧ 
                                                (∃ (Inv58 : Bool → Int → World → Prop) (mu59 : Bool → Int → World → Nat), Inv58 (decide (i57 ≤ 6)) (IntKind.i64.wrap (i53 + 1)) v9 ∧
                                                  ∀ (b60 : Bool) (i61 : Int) (v10 : World), Inv58 b60 i61 v10 →
                                                  (bcase (decide (i61 < (n2 : Int)))
                                                    (∃ (ad62 : Addr), (b60 = true → (a1 = some ad62 ∧ 0 ≤ i61 ∧ i61 < (n2 : Int))) ∧
                                                      (∃ (i63 : Int), (b60 = true → (v10.cell? (((ad62.add ((i61).toNat * 2)).add 0).add 0) = some (.int .i64 i63) ∧ True)) ∧
                                                        (∃ (ad64 : Addr), (b60 = true → (a1 = some ad64 ∧ 0 ≤ i53 ∧ i53 < (n2 : Int))) ∧
                                                          (∃ (i65 : Int), (b60 = true → (v10.cell? (((ad64.add ((i53).toNat * 2)).add 0).add 0) = some (.int .i64 i65) ∧ True)) ∧
                                                            (∀ v11, Pad v10 v11 →
                                                              (((some [(.int .i64 i13), (.int .i64 i14), (.int .i64 i15), (.int .i64 i16), (.int .i64 i17), (.int .i64 i18)] : Option (List Value)) = some [(.int .i64 i13), (.int .i64 i14), (.int .i64 i15), (.int .i64 i16), (.int .i64 i17), (.int .i64 i18)]) ∧ (Inv58 (b60 && (i63 != i65)) (IntKind.i64.wrap (i61 + 1)) v11 ∧ mu59 (b60 && (i63 != i65)) (IntKind.i64.wrap (i61 + 1)) v11 < mu59 b60 i61 v10)))))))
                                                    (bcase b60
                                                      (∃ (ad66 : Addr), a1 = some ad66 ∧
                                                        (0 ≤ i53 ∧ i53 < (n2 : Int) ∧ 
                                                          (∃ (i67 : Int), v10.cell? ((ad66.add ((i53).toNat * 2)).add 0) = some (.int .i64 i67) ∧ ∃ (i68 : Int), v10.cell? ((ad66.add ((i53).toNat * 2)).add 1) = some (.int .i64 i68) ∧ 
                                                            (Runs Try.prog (do pure (Next.value (← Instr.buildSlice 33 1 #[(0, (.agg #[(.int .i64 i67), (.int .i64 i68)]))]))) v10 fun r v12 => ∃ (a69 : Option Addr) (n70 : Nat) (c71 : Nat), r = .value (.slice a69 n70 c71) ∧
                                                              (Runs Try.prog (builtin .append #[33, 33] 33 #[false, false] #[(.slice a50 n51 c52), (.slice a69 n70 c71)]) v12 fun r v13 => ∃ (a72 : Option Addr) (n73 : Nat) (c74 : Nat), r = .value (.slice a72 n73 c74) ∧
                                                                (((some [(.int .i64 i13), (.int .i64 i14), (.int .i64 i15), (.int .i64 i16), (.int .i64 i17), (.int .i64 i18)] : Option (List Value)) = some [(.int .i64 i13), (.int .i64 i14), (.int .i64 i15), (.int .i64 i16), (.int .i64 i17), (.int .i64 i18)]) ∧ (Inv48 a72 n73 c74 (IntKind.i64.wrap (i53 + 1)) v13 ∧ mu49 a72 n73 c74 (IntKind.i64.wrap (i53 + 1)) v13 < mu49 a50 n51 c52 i53 v9)))))))
                                                      (((some [(.int .i64 i13), (.int .i64 i14), (.int .i64 i15), (.int .i64 i16), (.int .i64 i17), (.int .i64 i18)] : Option (List Value)) = some [(.int .i64 i13), (.int .i64 i14), (.int .i64 i15), (.int .i64 i16), (.int .i64 i17), (.int .i64 i18)]) ∧ (Inv48 a50 n51 c52 (IntKind.i64.wrap (i53 + 1)) v10 ∧ mu49 a50 n51 c52 (IntKind.i64.wrap (i53 + 1)) v10 < mu49 a50 n51 c52 i53 v9))))))))
                                          (∃ (Inv75 : Bool → Int → World → Prop) (mu76 : Bool → Int → World → Nat), Inv75 false (IntKind.i64.wrap (i53 + 1)) v9 ∧
                                            ∀ (b77 : Bool) (i78 : Int) (v14 : World), Inv75 b77 i78 v14 →
                                            (bcase (decide (i78 < (n2 : Int)))
                                              (∃ (ad79 : Addr), (b77 = true → (a1 = some ad79 ∧ 0 ≤ i78 ∧ i78 < (n2 : Int))) ∧
                                                (∃ (i80 : Int), (b77 = true → (v14.cell? (((ad79.add ((i78).toNat * 2)).add 0).add 0) = some (.int .i64 i80) ∧ True)) ∧
                                                  (∃ (ad81 : Addr), (b77 = true → (a1 = some ad81 ∧ 0 ≤ i53 ∧ i53 < (n2 : Int))) ∧
                                                    (∃ (i82 : Int), (b77 = true → (v14.cell? (((ad81.add ((i53).toNat * 2)).add 0).add 0) = some (.int .i64 i82) ∧ True)) ∧
                                                      (∀ v15, Pad v14 v15 →
                                                        (((some [(.int .i64 i13), (.int .i64 i14), (.int .i64 i15), (.int .i64 i16), (.int .i64 i17), (.int .i64 i18)] : Option (List Value)) = some [(.int .i64 i13), (.int .i64 i14), (.int .i64 i15), (.int .i64 i16), (.int .i64 i17), (.int .i64 i18)]) ∧ (Inv75 (b77 && (i80 != i82)) (IntKind.i64.wrap (i78 + 1)) v15 ∧ mu76 (b77 && (i80 != i82)) (IntKind.i64.wrap (i78 + 1)) v15 < mu76 b77 i78 v14)))))))
                                              (bcase b77
                                                (∃ (ad83 : Addr), a1 = some ad83 ∧
                                                  (0 ≤ i53 ∧ i53 < (n2 : Int) ∧ 
                                                    (∃ (i84 : Int), v14.cell? ((ad83.add ((i53).toNat * 2)).add 0) = some (.int .i64 i84) ∧ ∃ (i85 : Int), v14.cell? ((ad83.add ((i53).toNat * 2)).add 1) = some (.int .i64 i85) ∧ 
                                                      (Runs Try.prog (do pure (Next.value (← Instr.buildSlice 33 1 #[(0, (.agg #[(.int .i64 i84), (.int .i64 i85)]))]))) v14 fun r v16 => ∃ (a86 : Option Addr) (n87 : Nat) (c88 : Nat), r = .value (.slice a86 n87 c88) ∧
                                                        (Runs Try.prog (builtin .append #[33, 33] 33 #[false, false] #[(.slice a50 n51 c52), (.slice a86 n87 c88)]) v16 fun r v17 => ∃ (a89 : Option Addr) (n90 : Nat) (c91 : Nat), r = .value (.slice a89 n90 c91) ∧
                                                          (((some [(.int .i64 i13), (.int .i64 i14), (.int .i64 i15), (.int .i64 i16), (.int .i64 i17), (.int .i64 i18)] : Option (List Value)) = some [(.int .i64 i13), (.int .i64 i14), (.int .i64 i15), (.int .i64 i16), (.int .i64 i17), (.int .i64 i18)]) ∧ (Inv48 a89 n90 c91 (IntKind.i64.wrap (i53 + 1)) v17 ∧ mu49 a89 n90 c91 (IntKind.i64.wrap (i53 + 1)) v17 < mu49 a50 n51 c52 i53 v9)))))))
                                                (((some [(.int .i64 i13), (.int .i64 i14), (.int .i64 i15), (.int .i64 i16), (.int .i64 i17), (.int .i64 i18)] : Option (List Value)) = some [(.int .i64 i13), (.int .i64 i14), (.int .i64 i15), (.int .i64 i16), (.int .i64 i17), (.int .i64 i18)]) ∧ (Inv48 a50 n51 c52 (IntKind.i64.wrap (i53 + 1)) v14 ∧ mu49 a50 n51 c52 (IntKind.i64.wrap (i53 + 1)) v14 < mu49 a50 n51 c52 i53 v9)))))))))
                                  (CallsV Try.prog 23 #[] v9 fun r v18 => ∃ (i92 : Int) (i93 : Int) (i94 : Int) (i95 : Int) (i96 : Int) (i97 : Int), r = (.agg #[(.int .i64 i92), (.int .i64 i93), (.int .i64 i94), (.int .i64 i95), (.int .i64 i96), (.int .i64 i97)]) ∧
                                    (CallsV Try.prog 21 #[(.agg #[(.int .i64 i92), (.int .i64 i93), (.int .i64 i94), (.int .i64 i95), (.int .i64 i96), (.int .i64 i97)]), (.slice a50 n51 c52)] v18 fun r v19 => ∃ (i98 : Int) (i99 : Int) (i100 : Int) (i101 : Int) (i102 : Int) (i103 : Int) (b104 : Bool) (b105 : Bool) (i106 : Int), r = (.tuple #[(.agg #[(.int .i64 i98), (.int .i64 i99), (.int .i64 i100), (.int .i64 i101), (.int .i64 i102), (.int .i64 i103)]), (.agg #[(.bool b104), (.bool b105), (.int .i64 i106)])]) ∧
                                      (CallsV Try.prog 20 #[] (hv (hv v19)) fun r v20 => ∃ (b107 : Bool), r = (.bool b107) ∧
                                        (R (.bool ((b107 && (!b104)) && ((i98 == i13) && ((i99 == i14) && ((i100 == i15) && ((i101 == i16) && ((i102 == i17) && ((i103 == i18) && true)))))))) v20))))))))))))))))))))) := by kernel_rfl
theorem t_wlvlaw13_SetsEach (i1 : Int) (i2 : Int) (v : World) (R : Value → World → Prop) : vcFn E [] Try.f6 [(.int .i64 i1), (.int .i64 i2)] v R =
  (CallsV Try.prog 20 #[] v fun r v1 => ∃ (b3 : Bool), r = (.bool b3) ∧
  (bcase (!b3)
    (R (.bool false) v1)
    (CallsV Try.prog 23 #[] v1 fun r v2 => ∃ (i4 : Int) (i5 : Int) (i6 : Int) (i7 : Int) (i8 : Int) (i9 : Int), r = (.agg #[(.int .i64 i4), (.int .i64 i5), (.int .i64 i6), (.int .i64 i7), (.int .i64 i8), (.int .i64 i9)]) ∧
      (Runs Try.prog (do pure (Next.value (← Instr.buildSlice 33 1 #[(0, (.agg #[(.int .i64 i1), (.int .i64 i2)]))]))) v2 fun r v3 => ∃ (a10 : Option Addr) (n11 : Nat) (c12 : Nat), r = .value (.slice a10 n11 c12) ∧
        (CallsV Try.prog 21 #[(.agg #[(.int .i64 i4), (.int .i64 i5), (.int .i64 i6), (.int .i64 i7), (.int .i64 i8), (.int .i64 i9)]), (.slice a10 n11 c12)] v3 fun r v4 => ∃ (i13 : Int) (i14 : Int) (i15 : Int) (i16 : Int) (i17 : Int) (i18 : Int) (b19 : Bool) (b20 : Bool) (i21 : Int), r = (.tuple #[(.agg #[(.int .i64 i13), (.int .i64 i14), (.int .i64 i15), (.int .i64 i16), (.int .i64 i17), (.int .i64 i18)]), (.agg #[(.bool b19), (.bool b20), (.int .i64 i21)])]) ∧
          (CallsV Try.prog 23 #[] (hv (hv v4)) fun r v5 => ∃ (i22 : Int) (i23 : Int) (i24 : Int) (i25 : Int) (i26 : Int) (i27 : Int), r = (.agg #[(.int .i64 i22), (.int .i64 i23), (.int .i64 i24), (.int .i64 i25), (.int .i64 i26), (.int .i64 i27)]) ∧
            (bcase (i1 == 1)
              (bcase (decide (0 > 0))
                (CallsV Try.prog 20 #[] (hv v5) fun r v6 => ∃ (b28 : Bool), r = (.bool b28) ∧
                  (R (.bool ((((b28 && b19) && b20) && (i21 == 0)) && ((i13 == 0) && ((i14 == 0) && ((i15 == 0) && ((i16 == 0) && ((i17 == 0) && ((i18 == 0) && true)))))))) v6))
                (CallsV Try.prog 20 #[] (hv v5) fun r v7 => ∃ (b29 : Bool), r = (.bool b29) ∧
                  (R (.bool ((b29 && (!b19)) && ((i13 == (if 2147483647 < i2 then 2147483647 else i2)) && ((i14 == i23) && ((i15 == i24) && ((i16 == i25) && ((i17 == i26) && ((i18 == i27) && true)))))))) v7)))
              (bcase (i1 == 2)
                (bcase ((i2 != 0) && (i2 != 1))
                  (bcase (decide (1 > 0))
                    (CallsV Try.prog 20 #[] (hv v5) fun r v8 => ∃ (b30 : Bool), r = (.bool b30) ∧
                      (R (.bool ((((b30 && b19) && b20) && (i21 == 1)) && ((i13 == 0) && ((i14 == 0) && ((i15 == 0) && ((i16 == 0) && ((i17 == 0) && ((i18 == 0) && true)))))))) v8))
                    (CallsV Try.prog 20 #[] (hv v5) fun r v9 => ∃ (b31 : Bool), r = (.bool b31) ∧
                      (R (.bool ((b31 && (!b19)) && ((i13 == i22) && ((i14 == i2) && ((i15 == i24) && ((i16 == i25) && ((i17 == i26) && ((i18 == i27) && true)))))))) v9)))
                  (bcase (decide (0 > 0))
                    (CallsV Try.prog 20 #[] (hv v5) fun r v10 => ∃ (b32 : Bool), r = (.bool b32) ∧
                      (R (.bool ((((b32 && b19) && b20) && (i21 == 0)) && ((i13 == 0) && ((i14 == 0) && ((i15 == 0) && ((i16 == 0) && ((i17 == 0) && ((i18 == 0) && true)))))))) v10))
                    (CallsV Try.prog 20 #[] (hv v5) fun r v11 => ∃ (b33 : Bool), r = (.bool b33) ∧
                      (R (.bool ((b33 && (!b19)) && ((i13 == i22) && ((i14 == i2) && ((i15 == i24) && ((i16 == i25) && ((i17 == i26) && ((i18 == i27) && true)))))))) v11))))
                (bcase (i1 == 3)
                  (bcase (decide (0 > 0))
                    (CallsV Try.prog 20 #[] (hv v5) fun r v12 => ∃ (b34 : Bool), r = (.bool b34) ∧
                      (R (.bool ((((b34 && b19) && b20) && (i21 == 0)) && ((i13 == 0) && ((i14 == 0) && ((i15 == 0) && ((i16 == 0) && ((i17 == 0) && ((i18 == 0) && true)))))))) v12))
                    (CallsV Try.prog 20 #[] (hv v5) fun r v13 => ∃ (b35 : Bool), r = (.bool b35) ∧
                      (R (.bool ((b35 && (!b19)) && ((i13 == i22) && ((i14 == i23) && ((i15 == (if 2147483647 < i2 then 2147483647 else i2)) && ((i16 == i25) && ((i17 == i26) && ((i18 == i27) && true)))))))) v13)))
                  (bcase (i1 == 4)
                    (bcase (decide (i2 > 2147483647))
                      (bcase (decide (3 > 0))
                        (CallsV Try.prog 20 #[] (hv v5) fun r v14 => ∃ (b36 : Bool), r = (.bool b36) ∧
                          (R (.bool ((((b36 && b19) && b20) && (i21 == 3)) && ((i13 == 0) && ((i14 == 0) && ((i15 == 0) && ((i16 == 0) && ((i17 == 0) && ((i18 == 0) && true)))))))) v14))
                        (CallsV Try.prog 20 #[] (hv v5) fun r v15 => ∃ (b37 : Bool), r = (.bool b37) ∧
                          (R (.bool ((b37 && (!b19)) && ((i13 == i22) && ((i14 == i23) && ((i15 == i24) && ((i16 == i2) && ((i17 == i26) && ((i18 == i27) && true)))))))) v15)))
                      (bcase (decide (0 > 0))
                        (CallsV Try.prog 20 #[] (hv v5) fun r v16 => ∃ (b38 : Bool), r = (.bool b38) ∧
                          (R (.bool ((((b38 && b19) && b20) && (i21 == 0)) && ((i13 == 0) && ((i14 == 0) && ((i15 == 0) && ((i16 == 0) && ((i17 == 0) && ((i18 == 0) && true)))))))) v16))
                        (CallsV Try.prog 20 #[] (hv v5) fun r v17 => ∃ (b39 : Bool), r = (.bool b39) ∧
                          (R (.bool ((b39 && (!b19)) && ((i13 == i22) && ((i14 == i23) && ((i15 == i24) && ((i16 == i2) && ((i17 == i26) && ((i18 == i27) && true)))))))) v17))))
                    (bcase (i1 == 5)
                      (bcase ((decide (i2 < 16384)) || (decide (i2 ≥ 16777216)))
                        (bcase (decide (1 > 0))
                          (CallsV Try.prog 20 #[] (hv v5) fun r v18 => ∃ (b40 : Bool), r = (.bool b40) ∧
                            (R (.bool ((((b40 && b19) && b20) && (i21 == 1)) && ((i13 == 0) && ((i14 == 0) && ((i15 == 0) && ((i16 == 0) && ((i17 == 0) && ((i18 == 0) && true)))))))) v18))
                          (CallsV Try.prog 20 #[] (hv v5) fun r v19 => ∃ (b41 : Bool), r = (.bool b41) ∧
                            (R (.bool ((b41 && (!b19)) && ((i13 == i22) && ((i14 == i23) && ((i15 == i24) && ((i16 == i25) && ((i17 == i2) && ((i18 == i27) && true)))))))) v19)))
                        (bcase (decide (0 > 0))
                          (CallsV Try.prog 20 #[] (hv v5) fun r v20 => ∃ (b42 : Bool), r = (.bool b42) ∧
                            (R (.bool ((((b42 && b19) && b20) && (i21 == 0)) && ((i13 == 0) && ((i14 == 0) && ((i15 == 0) && ((i16 == 0) && ((i17 == 0) && ((i18 == 0) && true)))))))) v20))
                          (CallsV Try.prog 20 #[] (hv v5) fun r v21 => ∃ (b43 : Bool), r = (.bool b43) ∧
                            (R (.bool ((b43 && (!b19)) && ((i13 == i22) && ((i14 == i23) && ((i15 == i24) && ((i16 == i25) && ((i17 == i2) && ((i18 == i27) && true)))))))) v21))))
                      (bcase (i1 == 6)
                        (bcase (decide (0 > 0))
                          (CallsV Try.prog 20 #[] (hv v5) fun r v22 => ∃ (b44 : Bool), r = (.bool b44) ∧
                            (R (.bool ((((b44 && b19) && b20) && (i21 == 0)) && ((i13 == 0) && ((i14 == 0) && ((i15 == 0) && ((i16 == 0) && ((i17 == 0) && ((i18 == 0) && true)))))))) v22))
                          (CallsV Try.prog 20 #[] (hv v5) fun r v23 => ∃ (b45 : Bool), r = (.bool b45) ∧
                            (R (.bool ((b45 && (!b19)) && ((i13 == i22) && ((i14 == i23) && ((i15 == i24) && ((i16 == i25) && ((i17 == i26) && ((i18 == (if 2147483647 < i2 then 2147483647 else i2)) && true)))))))) v23)))
                        (bcase (decide (0 > 0))
                          (CallsV Try.prog 20 #[] (hv v5) fun r v24 => ∃ (b46 : Bool), r = (.bool b46) ∧
                            (R (.bool ((((b46 && b19) && b20) && (i21 == 0)) && ((i13 == 0) && ((i14 == 0) && ((i15 == 0) && ((i16 == 0) && ((i17 == 0) && ((i18 == 0) && true)))))))) v24))
                          (CallsV Try.prog 20 #[] (hv v5) fun r v25 => ∃ (b47 : Bool), r = (.bool b47) ∧
                            (R (.bool ((b47 && (!b19)) && ((i13 == i22) && ((i14 == i23) && ((i15 == i24) && ((i16 == i25) && ((i17 == i26) && ((i18 == i27) && true)))))))) v25))))))))))))))) := by kernel_rfl
end Go.Proofs.Ytnlekdpnjphmfaa
