/- The conditions of functions of the program, written by a program of ours and held by the kernel; contracts of those that have no loop. -/
import Derived.Test.YtnlekdpnjphmfaaProg
import Derived.Test.YtnlekdpnjphmfaaVcb
namespace Go.Proofs.Ytnlekdpnjphmfaa
open Vc
set_option linter.unusedVariables false
theorem t_life_carries (i1 : Int) (v : World) (R : Value → World → Prop) : vcFn E [] Try.f37 [(.int .i64 i1)] v R =
  (R (.bool ((i1 == 0) || (i1 == 1))) v) := by kernel_rfl
def F_life_carries (i1 : Int) : Bool :=
  ((i1 == 0) || (i1 == 1))
def enc_life_carries : Bool → Value
  | b1 => (.bool b1)
theorem c_life_carries (i1 : Int) (v : World) : CallsV Try.prog 37 #[(.int .i64 i1)] v fun r v' => r = enc_life_carries (F_life_carries i1) ∧ Ext v v' := by
  refine fn_sound (E := E) (A := []) Try.func37 ?_
  rw [t_life_carries]
  obtain ⟨z, hz⟩ : ∃ z, z = F_life_carries i1 := ⟨_, rfl⟩
  rw [← hz]
  unfold F_life_carries at hz
  exact ⟨by subst hz; rfl, (Ext.refl v)⟩
theorem t_life_fault (i1 : Int) (b2 : Bool) (v : World) (R : Value → World → Prop) : vcFn E [] Try.f38 [(.int .i64 i1), (.bool b2)] v R =
  (R (.agg #[(.bool true), (.bool b2), (.int .i64 i1)]) (hv v)) := by kernel_rfl
def F_life_fault (i1 : Int) (b2 : Bool) : Bool × Bool × Int :=
  (true, b2, i1)
def enc_life_fault : Bool × Bool × Int → Value
  | (b1, b2, i3) => (.agg #[(.bool b1), (.bool b2), (.int .i64 i3)])
theorem c_life_fault (i1 : Int) (b2 : Bool) (v : World) : CallsV Try.prog 38 #[(.int .i64 i1), (.bool b2)] v fun r v' => r = enc_life_fault (F_life_fault i1 b2) ∧ Ext v v' := by
  refine fn_sound (E := E) (A := []) Try.func38 ?_
  rw [t_life_fault]
  obtain ⟨z, hz⟩ : ∃ z, z = F_life_fault i1 b2 := ⟨_, rfl⟩
  rw [← hz]
  unfold F_life_fault at hz
  exact ⟨by subst hz; rfl, (Ext.refl v).hv⟩
theorem t_life_ended (i1 : Int) (i2 : Int) (v : World) (R : Value → World → Prop) : vcFn E [] Try.f39 [(.int .i64 i1), (.int .i64 i2)] v R =
  (bcase (i1 == 1)
  (R (.int .i64 i2) v)
  (R (.int .i64 4) v)) := by kernel_rfl
def F_life_ended (i1 : Int) (i2 : Int) : Int :=
  cond (i1 == 1)
  (i2)
  (4)
def enc_life_ended : Int → Value
  | i1 => (.int .i64 i1)
theorem c_life_ended (i1 : Int) (i2 : Int) (v : World) : CallsV Try.prog 39 #[(.int .i64 i1), (.int .i64 i2)] v fun r v' => r = enc_life_ended (F_life_ended i1 i2) ∧ Ext v v' := by
  refine fn_sound (E := E) (A := []) Try.func39 ?_
  rw [t_life_ended]
  obtain ⟨z, hz⟩ : ∃ z, z = F_life_ended i1 i2 := ⟨_, rfl⟩
  rw [← hz]
  unfold F_life_ended at hz
  refine bcase_of (fun h => ?_) (fun h => ?_)
  · have hz := cond_t h hz; clear h
    exact ⟨by subst hz; rfl, (Ext.refl v)⟩
  · have hz := cond_f h hz; clear h
    exact ⟨by subst hz; rfl, (Ext.refl v)⟩
set_option maxRecDepth 100000 in
theorem t_life_Recv (i1 : Int) (i2 : Int) (b3 : Bool) (v : World) (R : Value → World → Prop) : vcFn E [] Try.f28 [(.int .i64 i1), (.int .i64 i2), (.bool b3)] v R =
  (bcase (((i2 != 2) && (i2 != 3)) && (i2 != 8))
  (CallsV Try.prog 37 #[(.int .i64 i2)] (hv v) fun r v1 => ∃ (b4 : Bool), r = (.bool b4) ∧
    (bcase (!b4)
      (R (.tuple #[(.int .i64 i1), (.agg #[(.bool false), (.bool false), (.int .i64 0)])]) v1)
      (bcase (i1 == 0)
        (bcase (i2 == 2)
          (R (.tuple #[(.int .i64 0), (.agg #[(.bool false), (.bool false), (.int .i64 0)])]) v1)
          (bcase (i2 != 1)
            (CallsV Try.prog 38 #[(.int .i64 1), (.bool true)] v1 fun r v2 => ∃ (b5 : Bool) (b6 : Bool) (i7 : Int), r = (.agg #[(.bool b5), (.bool b6), (.int .i64 i7)]) ∧
              (R (.tuple #[(.int .i64 0), (.agg #[(.bool b5), (.bool b6), (.int .i64 i7)])]) v2))
            (bcase b3
              (R (.tuple #[(.int .i64 2), (.agg #[(.bool false), (.bool false), (.int .i64 0)])]) v1)
              (R (.tuple #[(.int .i64 1), (.agg #[(.bool false), (.bool false), (.int .i64 0)])]) v1))))
        (bcase (i1 == 1)
          (bcase (i2 == 3)
            (R (.tuple #[(.int .i64 4), (.agg #[(.bool false), (.bool false), (.int .i64 0)])]) v1)
            (CallsV Try.prog 37 #[(.int .i64 i2)] v1 fun r v3 => ∃ (b8 : Bool), r = (.bool b8) ∧
              (bcase (b8 && b3)
                (CallsV Try.prog 39 #[(.int .i64 i1), (.int .i64 2)] v3 fun r v4 => ∃ (i9 : Int), r = (.int .i64 i9) ∧
                  (R (.tuple #[(.int .i64 i9), (.agg #[(.bool false), (.bool false), (.int .i64 0)])]) v4))
                (R (.tuple #[(.int .i64 i1), (.agg #[(.bool false), (.bool false), (.int .i64 0)])]) v3))))
          (bcase (i1 == 3)
            (bcase (i2 == 3)
              (R (.tuple #[(.int .i64 4), (.agg #[(.bool false), (.bool false), (.int .i64 0)])]) v1)
              (CallsV Try.prog 37 #[(.int .i64 i2)] v1 fun r v5 => ∃ (b10 : Bool), r = (.bool b10) ∧
                (bcase (b10 && b3)
                  (CallsV Try.prog 39 #[(.int .i64 i1), (.int .i64 2)] v5 fun r v6 => ∃ (i11 : Int), r = (.int .i64 i11) ∧
                    (R (.tuple #[(.int .i64 i11), (.agg #[(.bool false), (.bool false), (.int .i64 0)])]) v6))
                  (R (.tuple #[(.int .i64 i1), (.agg #[(.bool false), (.bool false), (.int .i64 0)])]) v5))))
            (bcase (i1 == 2)
              (bcase (i2 == 3)
                (R (.tuple #[(.int .i64 4), (.agg #[(.bool false), (.bool false), (.int .i64 0)])]) v1)
                (CallsV Try.prog 37 #[(.int .i64 i2)] v1 fun r v7 => ∃ (b12 : Bool), r = (.bool b12) ∧
                  (bcase b12
                    (CallsV Try.prog 38 #[(.int .i64 5), (.bool false)] v7 fun r v8 => ∃ (b13 : Bool) (b14 : Bool) (i15 : Int), r = (.agg #[(.bool b13), (.bool b14), (.int .i64 i15)]) ∧
                      (R (.tuple #[(.int .i64 2), (.agg #[(.bool b13), (.bool b14), (.int .i64 i15)])]) v8))
                    (R (.tuple #[(.int .i64 2), (.agg #[(.bool false), (.bool false), (.int .i64 0)])]) v7))))
              (bcase (i1 == 4)
                (CallsV Try.prog 37 #[(.int .i64 i2)] v1 fun r v9 => ∃ (b16 : Bool), r = (.bool b16) ∧
                  (bcase b16
                    (CallsV Try.prog 38 #[(.int .i64 5), (.bool true)] v9 fun r v10 => ∃ (b17 : Bool) (b18 : Bool) (i19 : Int), r = (.agg #[(.bool b17), (.bool b18), (.int .i64 i19)]) ∧
                      (R (.tuple #[(.int .i64 4), (.agg #[(.bool b17), (.bool b18), (.int .i64 i19)])]) v10))
                    (R (.tuple #[(.int .i64 4), (.agg #[(.bool false), (.bool false), (.int .i64 0)])]) v9)))
                (bcase (i1 == 5)
                  (R (.tuple #[(.int .i64 5), (.agg #[(.bool false), (.bool false), (.int .i64 0)])]) v1)
                  (CallsV Try.prog 38 #[(.int .i64 1), (.bool true)] v1 fun r v11 => ∃ (b20 : Bool) (b21 : Bool) (i22 : Int), r = (.agg #[(.bool b20), (.bool b21), (.int .i64 i22)]) ∧
                    (R (.tuple #[(.int .i64 i1), (.agg #[(.bool b20), (.bool b21), (.int .i64 i22)])]) v11))))))))))
  (bcase (i1 == 0)
    (bcase (i2 == 2)
      (R (.tuple #[(.int .i64 0), (.agg #[(.bool false), (.bool false), (.int .i64 0)])]) (hv v))
      (bcase (i2 != 1)
        (CallsV Try.prog 38 #[(.int .i64 1), (.bool true)] (hv v) fun r v12 => ∃ (b23 : Bool) (b24 : Bool) (i25 : Int), r = (.agg #[(.bool b23), (.bool b24), (.int .i64 i25)]) ∧
          (R (.tuple #[(.int .i64 0), (.agg #[(.bool b23), (.bool b24), (.int .i64 i25)])]) v12))
        (bcase b3
          (R (.tuple #[(.int .i64 2), (.agg #[(.bool false), (.bool false), (.int .i64 0)])]) (hv v))
          (R (.tuple #[(.int .i64 1), (.agg #[(.bool false), (.bool false), (.int .i64 0)])]) (hv v)))))
    (bcase (i1 == 1)
      (bcase (i2 == 3)
        (R (.tuple #[(.int .i64 4), (.agg #[(.bool false), (.bool false), (.int .i64 0)])]) (hv v))
        (CallsV Try.prog 37 #[(.int .i64 i2)] (hv v) fun r v13 => ∃ (b26 : Bool), r = (.bool b26) ∧
          (bcase (b26 && b3)
            (CallsV Try.prog 39 #[(.int .i64 i1), (.int .i64 2)] v13 fun r v14 => ∃ (i27 : Int), r = (.int .i64 i27) ∧
              (R (.tuple #[(.int .i64 i27), (.agg #[(.bool false), (.bool false), (.int .i64 0)])]) v14))
            (R (.tuple #[(.int .i64 i1), (.agg #[(.bool false), (.bool false), (.int .i64 0)])]) v13))))
      (bcase (i1 == 3)
        (bcase (i2 == 3)
          (R (.tuple #[(.int .i64 4), (.agg #[(.bool false), (.bool false), (.int .i64 0)])]) (hv v))
          (CallsV Try.prog 37 #[(.int .i64 i2)] (hv v) fun r v15 => ∃ (b28 : Bool), r = (.bool b28) ∧
            (bcase (b28 && b3)
              (CallsV Try.prog 39 #[(.int .i64 i1), (.int .i64 2)] v15 fun r v16 => ∃ (i29 : Int), r = (.int .i64 i29) ∧
                (R (.tuple #[(.int .i64 i29), (.agg #[(.bool false), (.bool false), (.int .i64 0)])]) v16))
              (R (.tuple #[(.int .i64 i1), (.agg #[(.bool false), (.bool false), (.int .i64 0)])]) v15))))
        (bcase (i1 == 2)
          (bcase (i2 == 3)
            (R (.tuple #[(.int .i64 4), (.agg #[(.bool false), (.bool false), (.int .i64 0)])]) (hv v))
            (CallsV Try.prog 37 #[(.int .i64 i2)] (hv v) fun r v17 => ∃ (b30 : Bool), r = (.bool b30) ∧
              (bcase b30
                (CallsV Try.prog 38 #[(.int .i64 5), (.bool false)] v17 fun r v18 => ∃ (b31 : Bool) (b32 : Bool) (i33 : Int), r = (.agg #[(.bool b31), (.bool b32), (.int .i64 i33)]) ∧
                  (R (.tuple #[(.int .i64 2), (.agg #[(.bool b31), (.bool b32), (.int .i64 i33)])]) v18))
                (R (.tuple #[(.int .i64 2), (.agg #[(.bool false), (.bool false), (.int .i64 0)])]) v17))))
          (bcase (i1 == 4)
            (CallsV Try.prog 37 #[(.int .i64 i2)] (hv v) fun r v19 => ∃ (b34 : Bool), r = (.bool b34) ∧
              (bcase b34
                (CallsV Try.prog 38 #[(.int .i64 5), (.bool true)] v19 fun r v20 => ∃ (b35 : Bool) (b36 : Bool) (i37 : Int), r = (.agg #[(.bool b35), (.bool b36), (.int .i64 i37)]) ∧
                  (R (.tuple #[(.int .i64 4), (.agg #[(.bool b35), (.bool b36), (.int .i64 i37)])]) v20))
                (R (.tuple #[(.int .i64 4), (.agg #[(.bool false), (.bool false), (.int .i64 0)])]) v19)))
            (bcase (i1 == 5)
              (R (.tuple #[(.int .i64 5), (.agg #[(.bool false), (.bool false), (.int .i64 0)])]) (hv v))
              (CallsV Try.prog 38 #[(.int .i64 1), (.bool true)] (hv v) fun r v21 => ∃ (b38 : Bool) (b39 : Bool) (i40 : Int), r = (.agg #[(.bool b38), (.bool b39), (.int .i64 i40)]) ∧
                (R (.tuple #[(.int .i64 i1), (.agg #[(.bool b38), (.bool b39), (.int .i64 i40)])]) v21))))))))) := by kernel_rfl
def F_life_Recv (i1 : Int) (i2 : Int) (b3 : Bool) : Int × Bool × Bool × Int :=
  cond (((i2 != 2) && (i2 != 3)) && (i2 != 8))
  ((fun b4 => cond (!b4)
    ((i1, false, false, 0))
    (cond (i1 == 0)
      (cond (i2 == 2)
        ((0, false, false, 0))
        (cond (i2 != 1)
          (match F_life_fault 1 true with
            | (b5, b6, i7) =>
                (0, b5, b6, i7))
          (cond b3
            ((2, false, false, 0))
            ((1, false, false, 0)))))
      (cond (i1 == 1)
        (cond (i2 == 3)
          ((4, false, false, 0))
          ((fun b8 => cond (b8 && b3)
            ((fun i9 => (i9, false, false, 0)) (F_life_ended i1 2))
            ((i1, false, false, 0))) (F_life_carries i2)))
        (cond (i1 == 3)
          (cond (i2 == 3)
            ((4, false, false, 0))
            ((fun b10 => cond (b10 && b3)
              ((fun i11 => (i11, false, false, 0)) (F_life_ended i1 2))
              ((i1, false, false, 0))) (F_life_carries i2)))
          (cond (i1 == 2)
            (cond (i2 == 3)
              ((4, false, false, 0))
              ((fun b12 => cond b12
                (match F_life_fault 5 false with
                  | (b13, b14, i15) =>
                      (2, b13, b14, i15))
                ((2, false, false, 0))) (F_life_carries i2)))
            (cond (i1 == 4)
              ((fun b16 => cond b16
                (match F_life_fault 5 true with
                  | (b17, b18, i19) =>
                      (4, b17, b18, i19))
                ((4, false, false, 0))) (F_life_carries i2))
              (cond (i1 == 5)
                ((5, false, false, 0))
                (match F_life_fault 1 true with
                  | (b20, b21, i22) =>
                      (i1, b20, b21, i22))))))))) (F_life_carries i2))
  (cond (i1 == 0)
    (cond (i2 == 2)
      ((0, false, false, 0))
      (cond (i2 != 1)
        (match F_life_fault 1 true with
          | (b23, b24, i25) =>
              (0, b23, b24, i25))
        (cond b3
          ((2, false, false, 0))
          ((1, false, false, 0)))))
    (cond (i1 == 1)
      (cond (i2 == 3)
        ((4, false, false, 0))
        ((fun b26 => cond (b26 && b3)
          ((fun i27 => (i27, false, false, 0)) (F_life_ended i1 2))
          ((i1, false, false, 0))) (F_life_carries i2)))
      (cond (i1 == 3)
        (cond (i2 == 3)
          ((4, false, false, 0))
          ((fun b28 => cond (b28 && b3)
            ((fun i29 => (i29, false, false, 0)) (F_life_ended i1 2))
            ((i1, false, false, 0))) (F_life_carries i2)))
        (cond (i1 == 2)
          (cond (i2 == 3)
            ((4, false, false, 0))
            ((fun b30 => cond b30
              (match F_life_fault 5 false with
                | (b31, b32, i33) =>
                    (2, b31, b32, i33))
              ((2, false, false, 0))) (F_life_carries i2)))
          (cond (i1 == 4)
            ((fun b34 => cond b34
              (match F_life_fault 5 true with
                | (b35, b36, i37) =>
                    (4, b35, b36, i37))
              ((4, false, false, 0))) (F_life_carries i2))
            (cond (i1 == 5)
              ((5, false, false, 0))
              (match F_life_fault 1 true with
                | (b38, b39, i40) =>
                    (i1, b38, b39, i40))))))))
def enc_life_Recv : Int × Bool × Bool × Int → Value
  | (i1, b2, b3, i4) => (.tuple #[(.int .i64 i1), (.agg #[(.bool b2), (.bool b3), (.int .i64 i4)])])
set_option maxRecDepth 100000 in
theorem c_life_Recv (i1 : Int) (i2 : Int) (b3 : Bool) (v : World) : CallsV Try.prog 28 #[(.int .i64 i1), (.int .i64 i2), (.bool b3)] v fun r v' => r = enc_life_Recv (F_life_Recv i1 i2 b3) ∧ Ext v v' := by
  refine fn_sound (E := E) (A := []) Try.func28 ?_
  rw [t_life_Recv]
  obtain ⟨z, hz⟩ : ∃ z, z = F_life_Recv i1 i2 b3 := ⟨_, rfl⟩
  rw [← hz]
  unfold F_life_Recv at hz
  refine bcase_of (fun h => ?_) (fun h => ?_)
  · have hz := cond_t h hz; clear h
    refine (c_life_carries i2 _).mono ?_
    rintro r v1 ⟨rfl, hx⟩
    have e_v1 := (Ext.refl v).hv.trans hx; clear hx
    obtain ⟨b4, hq_v1⟩ : ∃ q, F_life_carries i2 = q := ⟨_, rfl⟩
    rw [hq_v1] at hz ⊢
    refine ⟨b4, rfl, ?_⟩
    refine bcase_of (fun h => ?_) (fun h => ?_)
    · have hz := cond_t h hz; clear h
      exact ⟨by subst hz; rfl, e_v1⟩
    · have hz := cond_f h hz; clear h
      refine bcase_of (fun h => ?_) (fun h => ?_)
      · have hz := cond_t h hz; clear h
        refine bcase_of (fun h => ?_) (fun h => ?_)
        · have hz := cond_t h hz; clear h
          exact ⟨by subst hz; rfl, e_v1⟩
        · have hz := cond_f h hz; clear h
          refine bcase_of (fun h => ?_) (fun h => ?_)
          · have hz := cond_t h hz; clear h
            refine (c_life_fault 1 true _).mono ?_
            rintro r v2 ⟨rfl, hx⟩
            have e_v2 := e_v1.trans hx; clear hx
            obtain ⟨⟨b5, b6, i7⟩, hq_v2⟩ : ∃ q, F_life_fault 1 true = q := ⟨_, rfl⟩
            rw [hq_v2] at hz ⊢
            refine ⟨b5, b6, i7, rfl, ?_⟩
            exact ⟨by subst hz; rfl, e_v2⟩
          · have hz := cond_f h hz; clear h
            refine bcase_of (fun h => ?_) (fun h => ?_)
            · have hz := cond_t h hz; clear h
              exact ⟨by subst hz; rfl, e_v1⟩
            · have hz := cond_f h hz; clear h
              exact ⟨by subst hz; rfl, e_v1⟩
      · have hz := cond_f h hz; clear h
        refine bcase_of (fun h => ?_) (fun h => ?_)
        · have hz := cond_t h hz; clear h
          refine bcase_of (fun h => ?_) (fun h => ?_)
          · have hz := cond_t h hz; clear h
            exact ⟨by subst hz; rfl, e_v1⟩
          · have hz := cond_f h hz; clear h
            refine (c_life_carries i2 _).mono ?_
            rintro r v3 ⟨rfl, hx⟩
            have e_v3 := e_v1.trans hx; clear hx
            rw [hq_v1]
            refine ⟨b4, rfl, ?_⟩
            refine bcase_of (fun h => ?_) (fun h => ?_)
            · have hz := cond_t h hz; clear h
              refine (c_life_ended i1 2 _).mono ?_
              rintro r v4 ⟨rfl, hx⟩
              have e_v4 := e_v3.trans hx; clear hx
              obtain ⟨i9, hq_v4⟩ : ∃ q, F_life_ended i1 2 = q := ⟨_, rfl⟩
              rw [hq_v4] at hz ⊢
              refine ⟨i9, rfl, ?_⟩
              exact ⟨by subst hz; rfl, e_v4⟩
            · have hz := cond_f h hz; clear h
              exact ⟨by subst hz; rfl, e_v3⟩
        · have hz := cond_f h hz; clear h
          refine bcase_of (fun h => ?_) (fun h => ?_)
          · have hz := cond_t h hz; clear h
            refine bcase_of (fun h => ?_) (fun h => ?_)
            · have hz := cond_t h hz; clear h
              exact ⟨by subst hz; rfl, e_v1⟩
            · have hz := cond_f h hz; clear h
              refine (c_life_carries i2 _).mono ?_
              rintro r v5 ⟨rfl, hx⟩
              have e_v5 := e_v1.trans hx; clear hx
              rw [hq_v1]
              refine ⟨b4, rfl, ?_⟩
              refine bcase_of (fun h => ?_) (fun h => ?_)
              · have hz := cond_t h hz; clear h
                refine (c_life_ended i1 2 _).mono ?_
                rintro r v6 ⟨rfl, hx⟩
                have e_v6 := e_v5.trans hx; clear hx
                obtain ⟨i11, hq_v6⟩ : ∃ q, F_life_ended i1 2 = q := ⟨_, rfl⟩
                rw [hq_v6] at hz ⊢
                refine ⟨i11, rfl, ?_⟩
                exact ⟨by subst hz; rfl, e_v6⟩
              · have hz := cond_f h hz; clear h
                exact ⟨by subst hz; rfl, e_v5⟩
          · have hz := cond_f h hz; clear h
            refine bcase_of (fun h => ?_) (fun h => ?_)
            · have hz := cond_t h hz; clear h
              refine bcase_of (fun h => ?_) (fun h => ?_)
              · have hz := cond_t h hz; clear h
                exact ⟨by subst hz; rfl, e_v1⟩
              · have hz := cond_f h hz; clear h
                refine (c_life_carries i2 _).mono ?_
                rintro r v7 ⟨rfl, hx⟩
                have e_v7 := e_v1.trans hx; clear hx
                rw [hq_v1]
                refine ⟨b4, rfl, ?_⟩
                refine bcase_of (fun h => ?_) (fun h => ?_)
                · have hz := cond_t h hz; clear h
                  refine (c_life_fault 5 false _).mono ?_
                  rintro r v8 ⟨rfl, hx⟩
                  have e_v8 := e_v7.trans hx; clear hx
                  obtain ⟨⟨b13, b14, i15⟩, hq_v8⟩ : ∃ q, F_life_fault 5 false = q := ⟨_, rfl⟩
                  rw [hq_v8] at hz ⊢
                  refine ⟨b13, b14, i15, rfl, ?_⟩
                  exact ⟨by subst hz; rfl, e_v8⟩
                · have hz := cond_f h hz; clear h
                  exact ⟨by subst hz; rfl, e_v7⟩
            · have hz := cond_f h hz; clear h
              refine bcase_of (fun h => ?_) (fun h => ?_)
              · have hz := cond_t h hz; clear h
                refine (c_life_carries i2 _).mono ?_
                rintro r v9 ⟨rfl, hx⟩
                have e_v9 := e_v1.trans hx; clear hx
                rw [hq_v1]
                refine ⟨b4, rfl, ?_⟩
                refine bcase_of (fun h => ?_) (fun h => ?_)
                · have hz := cond_t h hz; clear h
                  refine (c_life_fault 5 true _).mono ?_
                  rintro r v10 ⟨rfl, hx⟩
                  have e_v10 := e_v9.trans hx; clear hx
                  obtain ⟨⟨b17, b18, i19⟩, hq_v10⟩ : ∃ q, F_life_fault 5 true = q := ⟨_, rfl⟩
                  rw [hq_v10] at hz ⊢
                  refine ⟨b17, b18, i19, rfl, ?_⟩
                  exact ⟨by subst hz; rfl, e_v10⟩
                · have hz := cond_f h hz; clear h
                  exact ⟨by subst hz; rfl, e_v9⟩
              · have hz := cond_f h hz; clear h
                refine bcase_of (fun h => ?_) (fun h => ?_)
                · have hz := cond_t h hz; clear h
                  exact ⟨by subst hz; rfl, e_v1⟩
                · have hz := cond_f h hz; clear h
                  refine (c_life_fault 1 true _).mono ?_
                  rintro r v11 ⟨rfl, hx⟩
                  have e_v11 := e_v1.trans hx; clear hx
                  obtain ⟨⟨b20, b21, i22⟩, hq_v11⟩ : ∃ q, F_life_fault 1 true = q := ⟨_, rfl⟩
                  rw [hq_v11] at hz ⊢
                  refine ⟨b20, b21, i22, rfl, ?_⟩
                  exact ⟨by subst hz; rfl, e_v11⟩
  · have hz := cond_f h hz; clear h
    refine bcase_of (fun h => ?_) (fun h => ?_)
    · have hz := cond_t h hz; clear h
      refine bcase_of (fun h => ?_) (fun h => ?_)
      · have hz := cond_t h hz; clear h
        exact ⟨by subst hz; rfl, (Ext.refl v).hv⟩
      · have hz := cond_f h hz; clear h
        refine bcase_of (fun h => ?_) (fun h => ?_)
        · have hz := cond_t h hz; clear h
          refine (c_life_fault 1 true _).mono ?_
          rintro r v12 ⟨rfl, hx⟩
          have e_v12 := (Ext.refl v).hv.trans hx; clear hx
          obtain ⟨⟨b23, b24, i25⟩, hq_v12⟩ : ∃ q, F_life_fault 1 true = q := ⟨_, rfl⟩
          rw [hq_v12] at hz ⊢
          refine ⟨b23, b24, i25, rfl, ?_⟩
          exact ⟨by subst hz; rfl, e_v12⟩
        · have hz := cond_f h hz; clear h
          refine bcase_of (fun h => ?_) (fun h => ?_)
          · have hz := cond_t h hz; clear h
            exact ⟨by subst hz; rfl, (Ext.refl v).hv⟩
          · have hz := cond_f h hz; clear h
            exact ⟨by subst hz; rfl, (Ext.refl v).hv⟩
    · have hz := cond_f h hz; clear h
      refine bcase_of (fun h => ?_) (fun h => ?_)
      · have hz := cond_t h hz; clear h
        refine bcase_of (fun h => ?_) (fun h => ?_)
        · have hz := cond_t h hz; clear h
          exact ⟨by subst hz; rfl, (Ext.refl v).hv⟩
        · have hz := cond_f h hz; clear h
          refine (c_life_carries i2 _).mono ?_
          rintro r v13 ⟨rfl, hx⟩
          have e_v13 := (Ext.refl v).hv.trans hx; clear hx
          obtain ⟨b26, hq_v13⟩ : ∃ q, F_life_carries i2 = q := ⟨_, rfl⟩
          rw [hq_v13] at hz ⊢
          refine ⟨b26, rfl, ?_⟩
          refine bcase_of (fun h => ?_) (fun h => ?_)
          · have hz := cond_t h hz; clear h
            refine (c_life_ended i1 2 _).mono ?_
            rintro r v14 ⟨rfl, hx⟩
            have e_v14 := e_v13.trans hx; clear hx
            obtain ⟨i27, hq_v14⟩ : ∃ q, F_life_ended i1 2 = q := ⟨_, rfl⟩
            rw [hq_v14] at hz ⊢
            refine ⟨i27, rfl, ?_⟩
            exact ⟨by subst hz; rfl, e_v14⟩
          · have hz := cond_f h hz; clear h
            exact ⟨by subst hz; rfl, e_v13⟩
      · have hz := cond_f h hz; clear h
        refine bcase_of (fun h => ?_) (fun h => ?_)
        · have hz := cond_t h hz; clear h
          refine bcase_of (fun h => ?_) (fun h => ?_)
          · have hz := cond_t h hz; clear h
            exact ⟨by subst hz; rfl, (Ext.refl v).hv⟩
          · have hz := cond_f h hz; clear h
            refine (c_life_carries i2 _).mono ?_
            rintro r v15 ⟨rfl, hx⟩
            have e_v15 := (Ext.refl v).hv.trans hx; clear hx
            obtain ⟨b28, hq_v15⟩ : ∃ q, F_life_carries i2 = q := ⟨_, rfl⟩
            rw [hq_v15] at hz ⊢
            refine ⟨b28, rfl, ?_⟩
            refine bcase_of (fun h => ?_) (fun h => ?_)
            · have hz := cond_t h hz; clear h
              refine (c_life_ended i1 2 _).mono ?_
              rintro r v16 ⟨rfl, hx⟩
              have e_v16 := e_v15.trans hx; clear hx
              obtain ⟨i29, hq_v16⟩ : ∃ q, F_life_ended i1 2 = q := ⟨_, rfl⟩
              rw [hq_v16] at hz ⊢
              refine ⟨i29, rfl, ?_⟩
              exact ⟨by subst hz; rfl, e_v16⟩
            · have hz := cond_f h hz; clear h
              exact ⟨by subst hz; rfl, e_v15⟩
        · have hz := cond_f h hz; clear h
          refine bcase_of (fun h => ?_) (fun h => ?_)
          · have hz := cond_t h hz; clear h
            refine bcase_of (fun h => ?_) (fun h => ?_)
            · have hz := cond_t h hz; clear h
              exact ⟨by subst hz; rfl, (Ext.refl v).hv⟩
            · have hz := cond_f h hz; clear h
              refine (c_life_carries i2 _).mono ?_
              rintro r v17 ⟨rfl, hx⟩
              have e_v17 := (Ext.refl v).hv.trans hx; clear hx
              obtain ⟨b30, hq_v17⟩ : ∃ q, F_life_carries i2 = q := ⟨_, rfl⟩
              rw [hq_v17] at hz ⊢
              refine ⟨b30, rfl, ?_⟩
              refine bcase_of (fun h => ?_) (fun h => ?_)
              · have hz := cond_t h hz; clear h
                refine (c_life_fault 5 false _).mono ?_
                rintro r v18 ⟨rfl, hx⟩
                have e_v18 := e_v17.trans hx; clear hx
                obtain ⟨⟨b31, b32, i33⟩, hq_v18⟩ : ∃ q, F_life_fault 5 false = q := ⟨_, rfl⟩
                rw [hq_v18] at hz ⊢
                refine ⟨b31, b32, i33, rfl, ?_⟩
                exact ⟨by subst hz; rfl, e_v18⟩
              · have hz := cond_f h hz; clear h
                exact ⟨by subst hz; rfl, e_v17⟩
          · have hz := cond_f h hz; clear h
            refine bcase_of (fun h => ?_) (fun h => ?_)
            · have hz := cond_t h hz; clear h
              refine (c_life_carries i2 _).mono ?_
              rintro r v19 ⟨rfl, hx⟩
              have e_v19 := (Ext.refl v).hv.trans hx; clear hx
              obtain ⟨b34, hq_v19⟩ : ∃ q, F_life_carries i2 = q := ⟨_, rfl⟩
              rw [hq_v19] at hz ⊢
              refine ⟨b34, rfl, ?_⟩
              refine bcase_of (fun h => ?_) (fun h => ?_)
              · have hz := cond_t h hz; clear h
                refine (c_life_fault 5 true _).mono ?_
                rintro r v20 ⟨rfl, hx⟩
                have e_v20 := e_v19.trans hx; clear hx
                obtain ⟨⟨b35, b36, i37⟩, hq_v20⟩ : ∃ q, F_life_fault 5 true = q := ⟨_, rfl⟩
                rw [hq_v20] at hz ⊢
                refine ⟨b35, b36, i37, rfl, ?_⟩
                exact ⟨by subst hz; rfl, e_v20⟩
              · have hz := cond_f h hz; clear h
                exact ⟨by subst hz; rfl, e_v19⟩
            · have hz := cond_f h hz; clear h
              refine bcase_of (fun h => ?_) (fun h => ?_)
              · have hz := cond_t h hz; clear h
                exact ⟨by subst hz; rfl, (Ext.refl v).hv⟩
              · have hz := cond_f h hz; clear h
                refine (c_life_fault 1 true _).mono ?_
                rintro r v21 ⟨rfl, hx⟩
                have e_v21 := (Ext.refl v).hv.trans hx; clear hx
                obtain ⟨⟨b38, b39, i40⟩, hq_v21⟩ : ∃ q, F_life_fault 1 true = q := ⟨_, rfl⟩
                rw [hq_v21] at hz ⊢
                refine ⟨b38, b39, i40, rfl, ?_⟩
                exact ⟨by subst hz; rfl, e_v21⟩
theorem t_wlvlaw14_first  (v : World) (R : Value → World → Prop) : vcFn E [] Try.f27 [] v R =
  (CallsV Try.prog 28 #[(.int .i64 0), (.int .i64 0), (.bool false)] v fun r v1 => ∃ (i1 : Int) (b2 : Bool) (b3 : Bool) (i4 : Int), r = (.tuple #[(.int .i64 i1), (.agg #[(.bool b2), (.bool b3), (.int .i64 i4)])]) ∧
  (R (.bool ((((i1 == 0) && b2) && b3) && (i4 == 1))) (hv v1))) := by kernel_rfl
def F_wlvlaw14_first  : Bool :=
  match F_life_Recv 0 0 false with
  | (i1, b2, b3, i4) =>
      ((((i1 == 0) && b2) && b3) && (i4 == 1))
def enc_wlvlaw14_first : Bool → Value
  | b1 => (.bool b1)
theorem c_wlvlaw14_first  (v : World) : CallsV Try.prog 27 #[] v fun r v' => r = enc_wlvlaw14_first (F_wlvlaw14_first ) ∧ Ext v v' := by
  refine fn_sound (E := E) (A := []) Try.func27 ?_
  rw [t_wlvlaw14_first]
  obtain ⟨z, hz⟩ : ∃ z, z = F_wlvlaw14_first  := ⟨_, rfl⟩
  rw [← hz]
  unfold F_wlvlaw14_first at hz
  refine (c_life_Recv 0 0 false _).mono ?_
  rintro r v1 ⟨rfl, hx⟩
  have e_v1 := (Ext.refl v).trans hx; clear hx
  obtain ⟨⟨i1, b2, b3, i4⟩, hq_v1⟩ : ∃ q, F_life_Recv 0 0 false = q := ⟨_, rfl⟩
  rw [hq_v1] at hz ⊢
  refine ⟨i1, b2, b3, i4, rfl, ?_⟩
  exact ⟨by subst hz; rfl, e_v1.hv⟩
theorem t_wlvref10_fault (i1 : Int) (b2 : Bool) (v : World) (R : Value → World → Prop) : vcFn E [] Try.f35 [(.int .i64 i1), (.bool b2)] v R =
  (R (.agg #[(.bool true), (.bool b2), (.int .i64 i1)]) (hv v)) := by kernel_rfl
def F_wlvref10_fault (i1 : Int) (b2 : Bool) : Bool × Bool × Int :=
  (true, b2, i1)
def enc_wlvref10_fault : Bool × Bool × Int → Value
  | (b1, b2, i3) => (.agg #[(.bool b1), (.bool b2), (.int .i64 i3)])
theorem c_wlvref10_fault (i1 : Int) (b2 : Bool) (v : World) : CallsV Try.prog 35 #[(.int .i64 i1), (.bool b2)] v fun r v' => r = enc_wlvref10_fault (F_wlvref10_fault i1 b2) ∧ Ext v v' := by
  refine fn_sound (E := E) (A := []) Try.func35 ?_
  rw [t_wlvref10_fault]
  obtain ⟨z, hz⟩ : ∃ z, z = F_wlvref10_fault i1 b2 := ⟨_, rfl⟩
  rw [← hz]
  unfold F_wlvref10_fault at hz
  exact ⟨by subst hz; rfl, (Ext.refl v).hv⟩
theorem t_wlvref10_Recv (i1 : Int) (i2 : Int) (b3 : Bool) (v : World) (R : Value → World → Prop) : vcFn E [] Try.f29 [(.int .i64 i1), (.int .i64 i2), (.bool b3)] v R =
  (bcase (((((i2 != 0) && (i2 != 1)) && (i2 != 2)) && (i2 != 3)) && (i2 != 8))
  (R (.tuple #[(.int .i64 i1), (.agg #[(.bool false), (.bool false), (.int .i64 0)])]) (hv v))
  (bcase (i1 == 0)
    (bcase ((i2 == 1) && b3)
      (R (.tuple #[(.int .i64 2), (.agg #[(.bool false), (.bool false), (.int .i64 0)])]) (hv v))
      (bcase (i2 == 1)
        (R (.tuple #[(.int .i64 1), (.agg #[(.bool false), (.bool false), (.int .i64 0)])]) (hv v))
        (bcase (i2 == 2)
          (R (.tuple #[(.int .i64 0), (.agg #[(.bool false), (.bool false), (.int .i64 0)])]) (hv v))
          (CallsV Try.prog 35 #[(.int .i64 1), (.bool true)] (hv v) fun r v1 => ∃ (b4 : Bool) (b5 : Bool) (i6 : Int), r = (.agg #[(.bool b4), (.bool b5), (.int .i64 i6)]) ∧
            (R (.tuple #[(.int .i64 0), (.agg #[(.bool b4), (.bool b5), (.int .i64 i6)])]) v1)))))
    (bcase (i1 == 1)
      (bcase (i2 == 3)
        (R (.tuple #[(.int .i64 4), (.agg #[(.bool false), (.bool false), (.int .i64 0)])]) (hv v))
        (bcase ((((i2 == 0) || (i2 == 1)) && b3) && (i1 == 1))
          (R (.tuple #[(.int .i64 2), (.agg #[(.bool false), (.bool false), (.int .i64 0)])]) (hv v))
          (bcase (((i2 == 0) || (i2 == 1)) && b3)
            (R (.tuple #[(.int .i64 4), (.agg #[(.bool false), (.bool false), (.int .i64 0)])]) (hv v))
            (R (.tuple #[(.int .i64 i1), (.agg #[(.bool false), (.bool false), (.int .i64 0)])]) (hv v)))))
      (bcase (i1 == 3)
        (bcase (i2 == 3)
          (R (.tuple #[(.int .i64 4), (.agg #[(.bool false), (.bool false), (.int .i64 0)])]) (hv v))
          (bcase ((((i2 == 0) || (i2 == 1)) && b3) && (i1 == 1))
            (R (.tuple #[(.int .i64 2), (.agg #[(.bool false), (.bool false), (.int .i64 0)])]) (hv v))
            (bcase (((i2 == 0) || (i2 == 1)) && b3)
              (R (.tuple #[(.int .i64 4), (.agg #[(.bool false), (.bool false), (.int .i64 0)])]) (hv v))
              (R (.tuple #[(.int .i64 i1), (.agg #[(.bool false), (.bool false), (.int .i64 0)])]) (hv v)))))
        (bcase (i1 == 2)
          (bcase ((i2 == 0) || (i2 == 1))
            (CallsV Try.prog 35 #[(.int .i64 5), (.bool false)] (hv v) fun r v2 => ∃ (b7 : Bool) (b8 : Bool) (i9 : Int), r = (.agg #[(.bool b7), (.bool b8), (.int .i64 i9)]) ∧
              (R (.tuple #[(.int .i64 2), (.agg #[(.bool b7), (.bool b8), (.int .i64 i9)])]) v2))
            (bcase (i2 == 3)
              (R (.tuple #[(.int .i64 4), (.agg #[(.bool false), (.bool false), (.int .i64 0)])]) (hv v))
              (R (.tuple #[(.int .i64 2), (.agg #[(.bool false), (.bool false), (.int .i64 0)])]) (hv v))))
          (bcase (i1 == 4)
            (bcase ((i2 == 0) || (i2 == 1))
              (CallsV Try.prog 35 #[(.int .i64 5), (.bool true)] (hv v) fun r v3 => ∃ (b10 : Bool) (b11 : Bool) (i12 : Int), r = (.agg #[(.bool b10), (.bool b11), (.int .i64 i12)]) ∧
                (R (.tuple #[(.int .i64 4), (.agg #[(.bool b10), (.bool b11), (.int .i64 i12)])]) v3))
              (R (.tuple #[(.int .i64 4), (.agg #[(.bool false), (.bool false), (.int .i64 0)])]) (hv v)))
            (bcase (i1 == 5)
              (R (.tuple #[(.int .i64 5), (.agg #[(.bool false), (.bool false), (.int .i64 0)])]) (hv v))
              (CallsV Try.prog 35 #[(.int .i64 1), (.bool true)] (hv v) fun r v4 => ∃ (b13 : Bool) (b14 : Bool) (i15 : Int), r = (.agg #[(.bool b13), (.bool b14), (.int .i64 i15)]) ∧
                (R (.tuple #[(.int .i64 i1), (.agg #[(.bool b13), (.bool b14), (.int .i64 i15)])]) v4))))))))) := by kernel_rfl
def F_wlvref10_Recv (i1 : Int) (i2 : Int) (b3 : Bool) : Int × Bool × Bool × Int :=
  cond (((((i2 != 0) && (i2 != 1)) && (i2 != 2)) && (i2 != 3)) && (i2 != 8))
  ((i1, false, false, 0))
  (cond (i1 == 0)
    (cond ((i2 == 1) && b3)
      ((2, false, false, 0))
      (cond (i2 == 1)
        ((1, false, false, 0))
        (cond (i2 == 2)
          ((0, false, false, 0))
          (match F_wlvref10_fault 1 true with
            | (b4, b5, i6) =>
                (0, b4, b5, i6)))))
    (cond (i1 == 1)
      (cond (i2 == 3)
        ((4, false, false, 0))
        (cond ((((i2 == 0) || (i2 == 1)) && b3) && (i1 == 1))
          ((2, false, false, 0))
          (cond (((i2 == 0) || (i2 == 1)) && b3)
            ((4, false, false, 0))
            ((i1, false, false, 0)))))
      (cond (i1 == 3)
        (cond (i2 == 3)
          ((4, false, false, 0))
          (cond ((((i2 == 0) || (i2 == 1)) && b3) && (i1 == 1))
            ((2, false, false, 0))
            (cond (((i2 == 0) || (i2 == 1)) && b3)
              ((4, false, false, 0))
              ((i1, false, false, 0)))))
        (cond (i1 == 2)
          (cond ((i2 == 0) || (i2 == 1))
            (match F_wlvref10_fault 5 false with
              | (b7, b8, i9) =>
                  (2, b7, b8, i9))
            (cond (i2 == 3)
              ((4, false, false, 0))
              ((2, false, false, 0))))
          (cond (i1 == 4)
            (cond ((i2 == 0) || (i2 == 1))
              (match F_wlvref10_fault 5 true with
                | (b10, b11, i12) =>
                    (4, b10, b11, i12))
              ((4, false, false, 0)))
            (cond (i1 == 5)
              ((5, false, false, 0))
              (match F_wlvref10_fault 1 true with
                | (b13, b14, i15) =>
                    (i1, b13, b14, i15))))))))
def enc_wlvref10_Recv : Int × Bool × Bool × Int → Value
  | (i1, b2, b3, i4) => (.tuple #[(.int .i64 i1), (.agg #[(.bool b2), (.bool b3), (.int .i64 i4)])])
theorem c_wlvref10_Recv (i1 : Int) (i2 : Int) (b3 : Bool) (v : World) : CallsV Try.prog 29 #[(.int .i64 i1), (.int .i64 i2), (.bool b3)] v fun r v' => r = enc_wlvref10_Recv (F_wlvref10_Recv i1 i2 b3) ∧ Ext v v' := by
  refine fn_sound (E := E) (A := []) Try.func29 ?_
  rw [t_wlvref10_Recv]
  obtain ⟨z, hz⟩ : ∃ z, z = F_wlvref10_Recv i1 i2 b3 := ⟨_, rfl⟩
  rw [← hz]
  unfold F_wlvref10_Recv at hz
  refine bcase_of (fun h => ?_) (fun h => ?_)
  · have hz := cond_t h hz; clear h
    exact ⟨by subst hz; rfl, (Ext.refl v).hv⟩
  · have hz := cond_f h hz; clear h
    refine bcase_of (fun h => ?_) (fun h => ?_)
    · have hz := cond_t h hz; clear h
      refine bcase_of (fun h => ?_) (fun h => ?_)
      · have hz := cond_t h hz; clear h
        exact ⟨by subst hz; rfl, (Ext.refl v).hv⟩
      · have hz := cond_f h hz; clear h
        refine bcase_of (fun h => ?_) (fun h => ?_)
        · have hz := cond_t h hz; clear h
          exact ⟨by subst hz; rfl, (Ext.refl v).hv⟩
        · have hz := cond_f h hz; clear h
          refine bcase_of (fun h => ?_) (fun h => ?_)
          · have hz := cond_t h hz; clear h
            exact ⟨by subst hz; rfl, (Ext.refl v).hv⟩
          · have hz := cond_f h hz; clear h
            refine (c_wlvref10_fault 1 true _).mono ?_
            rintro r v1 ⟨rfl, hx⟩
            have e_v1 := (Ext.refl v).hv.trans hx; clear hx
            obtain ⟨⟨b4, b5, i6⟩, hq_v1⟩ : ∃ q, F_wlvref10_fault 1 true = q := ⟨_, rfl⟩
            rw [hq_v1] at hz ⊢
            refine ⟨b4, b5, i6, rfl, ?_⟩
            exact ⟨by subst hz; rfl, e_v1⟩
    · have hz := cond_f h hz; clear h
      refine bcase_of (fun h => ?_) (fun h => ?_)
      · have hz := cond_t h hz; clear h
        refine bcase_of (fun h => ?_) (fun h => ?_)
        · have hz := cond_t h hz; clear h
          exact ⟨by subst hz; rfl, (Ext.refl v).hv⟩
        · have hz := cond_f h hz; clear h
          refine bcase_of (fun h => ?_) (fun h => ?_)
          · have hz := cond_t h hz; clear h
            exact ⟨by subst hz; rfl, (Ext.refl v).hv⟩
          · have hz := cond_f h hz; clear h
            refine bcase_of (fun h => ?_) (fun h => ?_)
            · have hz := cond_t h hz; clear h
              exact ⟨by subst hz; rfl, (Ext.refl v).hv⟩
            · have hz := cond_f h hz; clear h
              exact ⟨by subst hz; rfl, (Ext.refl v).hv⟩
      · have hz := cond_f h hz; clear h
        refine bcase_of (fun h => ?_) (fun h => ?_)
        · have hz := cond_t h hz; clear h
          refine bcase_of (fun h => ?_) (fun h => ?_)
          · have hz := cond_t h hz; clear h
            exact ⟨by subst hz; rfl, (Ext.refl v).hv⟩
          · have hz := cond_f h hz; clear h
            refine bcase_of (fun h => ?_) (fun h => ?_)
            · have hz := cond_t h hz; clear h
              exact ⟨by subst hz; rfl, (Ext.refl v).hv⟩
            · have hz := cond_f h hz; clear h
              refine bcase_of (fun h => ?_) (fun h => ?_)
              · have hz := cond_t h hz; clear h
                exact ⟨by subst hz; rfl, (Ext.refl v).hv⟩
              · have hz := cond_f h hz; clear h
                exact ⟨by subst hz; rfl, (Ext.refl v).hv⟩
        · have hz := cond_f h hz; clear h
          refine bcase_of (fun h => ?_) (fun h => ?_)
          · have hz := cond_t h hz; clear h
            refine bcase_of (fun h => ?_) (fun h => ?_)
            · have hz := cond_t h hz; clear h
              refine (c_wlvref10_fault 5 false _).mono ?_
              rintro r v2 ⟨rfl, hx⟩
              have e_v2 := (Ext.refl v).hv.trans hx; clear hx
              obtain ⟨⟨b7, b8, i9⟩, hq_v2⟩ : ∃ q, F_wlvref10_fault 5 false = q := ⟨_, rfl⟩
              rw [hq_v2] at hz ⊢
              refine ⟨b7, b8, i9, rfl, ?_⟩
              exact ⟨by subst hz; rfl, e_v2⟩
            · have hz := cond_f h hz; clear h
              refine bcase_of (fun h => ?_) (fun h => ?_)
              · have hz := cond_t h hz; clear h
                exact ⟨by subst hz; rfl, (Ext.refl v).hv⟩
              · have hz := cond_f h hz; clear h
                exact ⟨by subst hz; rfl, (Ext.refl v).hv⟩
          · have hz := cond_f h hz; clear h
            refine bcase_of (fun h => ?_) (fun h => ?_)
            · have hz := cond_t h hz; clear h
              refine bcase_of (fun h => ?_) (fun h => ?_)
              · have hz := cond_t h hz; clear h
                refine (c_wlvref10_fault 5 true _).mono ?_
                rintro r v3 ⟨rfl, hx⟩
                have e_v3 := (Ext.refl v).hv.trans hx; clear hx
                obtain ⟨⟨b10, b11, i12⟩, hq_v3⟩ : ∃ q, F_wlvref10_fault 5 true = q := ⟨_, rfl⟩
                rw [hq_v3] at hz ⊢
                refine ⟨b10, b11, i12, rfl, ?_⟩
                exact ⟨by subst hz; rfl, e_v3⟩
              · have hz := cond_f h hz; clear h
                exact ⟨by subst hz; rfl, (Ext.refl v).hv⟩
            · have hz := cond_f h hz; clear h
              refine bcase_of (fun h => ?_) (fun h => ?_)
              · have hz := cond_t h hz; clear h
                exact ⟨by subst hz; rfl, (Ext.refl v).hv⟩
              · have hz := cond_f h hz; clear h
                refine (c_wlvref10_fault 1 true _).mono ?_
                rintro r v4 ⟨rfl, hx⟩
                have e_v4 := (Ext.refl v).hv.trans hx; clear hx
                obtain ⟨⟨b13, b14, i15⟩, hq_v4⟩ : ∃ q, F_wlvref10_fault 1 true = q := ⟨_, rfl⟩
                rw [hq_v4] at hz ⊢
                refine ⟨b13, b14, i15, rfl, ?_⟩
                exact ⟨by subst hz; rfl, e_v4⟩
theorem t_life_Send (i1 : Int) (i2 : Int) (b3 : Bool) (v : World) (R : Value → World → Prop) : vcFn E [] Try.f30 [(.int .i64 i1), (.int .i64 i2), (.bool b3)] v R =
  (CallsV Try.prog 37 #[(.int .i64 i2)] v fun r v1 => ∃ (b4 : Bool), r = (.bool b4) ∧
  (bcase b4
    (bcase (((i1 == 1) || (i1 == 2)) && b3)
      (CallsV Try.prog 39 #[(.int .i64 i1), (.int .i64 3)] v1 fun r v2 => ∃ (i5 : Int), r = (.int .i64 i5) ∧
        (R (.tuple #[(.int .i64 i5), (.bool true)]) v2))
      (R (.tuple #[(.int .i64 i1), (.bool ((i1 == 1) || (i1 == 2)))]) v1))
    (bcase (i2 == 3)
      (bcase (((i1 == 1) || (i1 == 2)) || (i1 == 3))
        (R (.tuple #[(.int .i64 5), (.bool true)]) v1)
        (R (.tuple #[(.int .i64 i1), (.bool false)]) v1))
      (bcase (i2 == 8)
        (R (.tuple #[(.int .i64 i1), (.bool ((i1 == 1) || (i1 == 3)))]) v1)
        (R (.tuple #[(.int .i64 i1), (.bool true)]) v1))))) := by kernel_rfl
def F_life_Send (i1 : Int) (i2 : Int) (b3 : Bool) : Int × Bool :=
  (fun b4 => cond b4
  (cond (((i1 == 1) || (i1 == 2)) && b3)
    ((fun i5 => (i5, true)) (F_life_ended i1 3))
    ((i1, ((i1 == 1) || (i1 == 2)))))
  (cond (i2 == 3)
    (cond (((i1 == 1) || (i1 == 2)) || (i1 == 3))
      ((5, true))
      ((i1, false)))
    (cond (i2 == 8)
      ((i1, ((i1 == 1) || (i1 == 3))))
      ((i1, true))))) (F_life_carries i2)
def enc_life_Send : Int × Bool → Value
  | (i1, b2) => (.tuple #[(.int .i64 i1), (.bool b2)])
theorem c_life_Send (i1 : Int) (i2 : Int) (b3 : Bool) (v : World) : CallsV Try.prog 30 #[(.int .i64 i1), (.int .i64 i2), (.bool b3)] v fun r v' => r = enc_life_Send (F_life_Send i1 i2 b3) ∧ Ext v v' := by
  refine fn_sound (E := E) (A := []) Try.func30 ?_
  rw [t_life_Send]
  obtain ⟨z, hz⟩ : ∃ z, z = F_life_Send i1 i2 b3 := ⟨_, rfl⟩
  rw [← hz]
  unfold F_life_Send at hz
  refine (c_life_carries i2 _).mono ?_
  rintro r v1 ⟨rfl, hx⟩
  have e_v1 := (Ext.refl v).trans hx; clear hx
  obtain ⟨b4, hq_v1⟩ : ∃ q, F_life_carries i2 = q := ⟨_, rfl⟩
  rw [hq_v1] at hz ⊢
  refine ⟨b4, rfl, ?_⟩
  refine bcase_of (fun h => ?_) (fun h => ?_)
  · have hz := cond_t h hz; clear h
    refine bcase_of (fun h => ?_) (fun h => ?_)
    · have hz := cond_t h hz; clear h
      refine (c_life_ended i1 3 _).mono ?_
      rintro r v2 ⟨rfl, hx⟩
      have e_v2 := e_v1.trans hx; clear hx
      obtain ⟨i5, hq_v2⟩ : ∃ q, F_life_ended i1 3 = q := ⟨_, rfl⟩
      rw [hq_v2] at hz ⊢
      refine ⟨i5, rfl, ?_⟩
      exact ⟨by subst hz; rfl, e_v2⟩
    · have hz := cond_f h hz; clear h
      exact ⟨by subst hz; rfl, e_v1⟩
  · have hz := cond_f h hz; clear h
    refine bcase_of (fun h => ?_) (fun h => ?_)
    · have hz := cond_t h hz; clear h
      refine bcase_of (fun h => ?_) (fun h => ?_)
      · have hz := cond_t h hz; clear h
        exact ⟨by subst hz; rfl, e_v1⟩
      · have hz := cond_f h hz; clear h
        exact ⟨by subst hz; rfl, e_v1⟩
    · have hz := cond_f h hz; clear h
      refine bcase_of (fun h => ?_) (fun h => ?_)
      · have hz := cond_t h hz; clear h
        exact ⟨by subst hz; rfl, e_v1⟩
      · have hz := cond_f h hz; clear h
        exact ⟨by subst hz; rfl, e_v1⟩
theorem t_wlvref10_Send (i1 : Int) (i2 : Int) (b3 : Bool) (v : World) (R : Value → World → Prop) : vcFn E [] Try.f31 [(.int .i64 i1), (.int .i64 i2), (.bool b3)] v R =
  (bcase (i2 == 0)
  (bcase ((i1 != 1) && (i1 != 2))
    (R (.tuple #[(.int .i64 i1), (.bool false)]) v)
    (bcase (!b3)
      (R (.tuple #[(.int .i64 i1), (.bool true)]) v)
      (bcase (i1 == 1)
        (R (.tuple #[(.int .i64 3), (.bool true)]) v)
        (R (.tuple #[(.int .i64 4), (.bool true)]) v))))
  (bcase (i2 == 1)
    (bcase ((i1 != 1) && (i1 != 2))
      (R (.tuple #[(.int .i64 i1), (.bool false)]) v)
      (bcase (!b3)
        (R (.tuple #[(.int .i64 i1), (.bool true)]) v)
        (bcase (i1 == 1)
          (R (.tuple #[(.int .i64 3), (.bool true)]) v)
          (R (.tuple #[(.int .i64 4), (.bool true)]) v))))
    (bcase (i2 == 3)
      (bcase (((i1 == 1) || (i1 == 2)) || (i1 == 3))
        (R (.tuple #[(.int .i64 5), (.bool true)]) v)
        (R (.tuple #[(.int .i64 i1), (.bool false)]) v))
      (bcase (i2 == 8)
        (R (.tuple #[(.int .i64 i1), (.bool ((i1 == 1) || (i1 == 3)))]) v)
        (R (.tuple #[(.int .i64 i1), (.bool true)]) v))))) := by kernel_rfl
def F_wlvref10_Send (i1 : Int) (i2 : Int) (b3 : Bool) : Int × Bool :=
  cond (i2 == 0)
  (cond ((i1 != 1) && (i1 != 2))
    ((i1, false))
    (cond (!b3)
      ((i1, true))
      (cond (i1 == 1)
        ((3, true))
        ((4, true)))))
  (cond (i2 == 1)
    (cond ((i1 != 1) && (i1 != 2))
      ((i1, false))
      (cond (!b3)
        ((i1, true))
        (cond (i1 == 1)
          ((3, true))
          ((4, true)))))
    (cond (i2 == 3)
      (cond (((i1 == 1) || (i1 == 2)) || (i1 == 3))
        ((5, true))
        ((i1, false)))
      (cond (i2 == 8)
        ((i1, ((i1 == 1) || (i1 == 3))))
        ((i1, true)))))
def enc_wlvref10_Send : Int × Bool → Value
  | (i1, b2) => (.tuple #[(.int .i64 i1), (.bool b2)])
theorem c_wlvref10_Send (i1 : Int) (i2 : Int) (b3 : Bool) (v : World) : CallsV Try.prog 31 #[(.int .i64 i1), (.int .i64 i2), (.bool b3)] v fun r v' => r = enc_wlvref10_Send (F_wlvref10_Send i1 i2 b3) ∧ Ext v v' := by
  refine fn_sound (E := E) (A := []) Try.func31 ?_
  rw [t_wlvref10_Send]
  obtain ⟨z, hz⟩ : ∃ z, z = F_wlvref10_Send i1 i2 b3 := ⟨_, rfl⟩
  rw [← hz]
  unfold F_wlvref10_Send at hz
  refine bcase_of (fun h => ?_) (fun h => ?_)
  · have hz := cond_t h hz; clear h
    refine bcase_of (fun h => ?_) (fun h => ?_)
    · have hz := cond_t h hz; clear h
      exact ⟨by subst hz; rfl, (Ext.refl v)⟩
    · have hz := cond_f h hz; clear h
      refine bcase_of (fun h => ?_) (fun h => ?_)
      · have hz := cond_t h hz; clear h
        exact ⟨by subst hz; rfl, (Ext.refl v)⟩
      · have hz := cond_f h hz; clear h
        refine bcase_of (fun h => ?_) (fun h => ?_)
        · have hz := cond_t h hz; clear h
          exact ⟨by subst hz; rfl, (Ext.refl v)⟩
        · have hz := cond_f h hz; clear h
          exact ⟨by subst hz; rfl, (Ext.refl v)⟩
  · have hz := cond_f h hz; clear h
    refine bcase_of (fun h => ?_) (fun h => ?_)
    · have hz := cond_t h hz; clear h
      refine bcase_of (fun h => ?_) (fun h => ?_)
      · have hz := cond_t h hz; clear h
        exact ⟨by subst hz; rfl, (Ext.refl v)⟩
      · have hz := cond_f h hz; clear h
        refine bcase_of (fun h => ?_) (fun h => ?_)
        · have hz := cond_t h hz; clear h
          exact ⟨by subst hz; rfl, (Ext.refl v)⟩
        · have hz := cond_f h hz; clear h
          refine bcase_of (fun h => ?_) (fun h => ?_)
          · have hz := cond_t h hz; clear h
            exact ⟨by subst hz; rfl, (Ext.refl v)⟩
          · have hz := cond_f h hz; clear h
            exact ⟨by subst hz; rfl, (Ext.refl v)⟩
    · have hz := cond_f h hz; clear h
      refine bcase_of (fun h => ?_) (fun h => ?_)
      · have hz := cond_t h hz; clear h
        refine bcase_of (fun h => ?_) (fun h => ?_)
        · have hz := cond_t h hz; clear h
          exact ⟨by subst hz; rfl, (Ext.refl v)⟩
        · have hz := cond_f h hz; clear h
          exact ⟨by subst hz; rfl, (Ext.refl v)⟩
      · have hz := cond_f h hz; clear h
        refine bcase_of (fun h => ?_) (fun h => ?_)
        · have hz := cond_t h hz; clear h
          exact ⟨by subst hz; rfl, (Ext.refl v)⟩
        · have hz := cond_f h hz; clear h
          exact ⟨by subst hz; rfl, (Ext.refl v)⟩
theorem t_wlvlaw14_LifeTells (i1 : Int) (i2 : Int) (b3 : Bool) (v : World) (R : Value → World → Prop) : vcFn E [] Try.f11 [(.int .i64 i1), (.int .i64 i2), (.bool b3)] v R =
  (CallsV Try.prog 27 #[] v fun r v1 => ∃ (b4 : Bool), r = (.bool b4) ∧
  (bcase (!b4)
    (R (.bool false) v1)
    (CallsV Try.prog 28 #[(.int .i64 i1), (.int .i64 i2), (.bool b3)] v1 fun r v2 => ∃ (i5 : Int) (b6 : Bool) (b7 : Bool) (i8 : Int), r = (.tuple #[(.int .i64 i5), (.agg #[(.bool b6), (.bool b7), (.int .i64 i8)])]) ∧
      (CallsV Try.prog 29 #[(.int .i64 i1), (.int .i64 i2), (.bool b3)] (hv v2) fun r v3 => ∃ (i9 : Int) (b10 : Bool) (b11 : Bool) (i12 : Int), r = (.tuple #[(.int .i64 i9), (.agg #[(.bool b10), (.bool b11), (.int .i64 i12)])]) ∧
        (CallsV Try.prog 30 #[(.int .i64 i1), (.int .i64 i2), (.bool b3)] (hv v3) fun r v4 => ∃ (i13 : Int) (b14 : Bool), r = (.tuple #[(.int .i64 i13), (.bool b14)]) ∧
          (CallsV Try.prog 31 #[(.int .i64 i1), (.int .i64 i2), (.bool b3)] v4 fun r v5 => ∃ (i15 : Int) (b16 : Bool), r = (.tuple #[(.int .i64 i15), (.bool b16)]) ∧
            (CallsV Try.prog 27 #[] v5 fun r v6 => ∃ (b17 : Bool), r = (.bool b17) ∧
              (R (.bool ((((b17 && (i5 == i9)) && ((b6 == b10) && ((b7 == b11) && ((i8 == i12) && true)))) && (i13 == i15)) && (b14 == b16))) v6)))))))) := by kernel_rfl
def F_wlvlaw14_LifeTells (i1 : Int) (i2 : Int) (b3 : Bool) : Bool :=
  (fun b4 => cond (!b4)
  (false)
  (match F_life_Recv i1 i2 b3 with
    | (i5, b6, b7, i8) =>
        match F_wlvref10_Recv i1 i2 b3 with
          | (i9, b10, b11, i12) =>
              match F_life_Send i1 i2 b3 with
                | (i13, b14) =>
                    match F_wlvref10_Send i1 i2 b3 with
                      | (i15, b16) =>
                          (fun b17 => ((((b17 && (i5 == i9)) && ((b6 == b10) && ((b7 == b11) && ((i8 == i12) && true)))) && (i13 == i15)) && (b14 == b16))) (F_wlvlaw14_first ))) (F_wlvlaw14_first )
def enc_wlvlaw14_LifeTells : Bool → Value
  | b1 => (.bool b1)
theorem c_wlvlaw14_LifeTells (i1 : Int) (i2 : Int) (b3 : Bool) (v : World) : CallsV Try.prog 11 #[(.int .i64 i1), (.int .i64 i2), (.bool b3)] v fun r v' => r = enc_wlvlaw14_LifeTells (F_wlvlaw14_LifeTells i1 i2 b3) ∧ Ext v v' := by
  refine fn_sound (E := E) (A := []) Try.func11 ?_
  rw [t_wlvlaw14_LifeTells]
  obtain ⟨z, hz⟩ : ∃ z, z = F_wlvlaw14_LifeTells i1 i2 b3 := ⟨_, rfl⟩
  rw [← hz]
  unfold F_wlvlaw14_LifeTells at hz
  refine (c_wlvlaw14_first  _).mono ?_
  rintro r v1 ⟨rfl, hx⟩
  have e_v1 := (Ext.refl v).trans hx; clear hx
  obtain ⟨b4, hq_v1⟩ : ∃ q, F_wlvlaw14_first  = q := ⟨_, rfl⟩
  rw [hq_v1] at hz ⊢
  refine ⟨b4, rfl, ?_⟩
  refine bcase_of (fun h => ?_) (fun h => ?_)
  · have hz := cond_t h hz; clear h
    exact ⟨by subst hz; rfl, e_v1⟩
  · have hz := cond_f h hz; clear h
    refine (c_life_Recv i1 i2 b3 _).mono ?_
    rintro r v2 ⟨rfl, hx⟩
    have e_v2 := e_v1.trans hx; clear hx
    obtain ⟨⟨i5, b6, b7, i8⟩, hq_v2⟩ : ∃ q, F_life_Recv i1 i2 b3 = q := ⟨_, rfl⟩
    rw [hq_v2] at hz ⊢
    refine ⟨i5, b6, b7, i8, rfl, ?_⟩
    refine (c_wlvref10_Recv i1 i2 b3 _).mono ?_
    rintro r v3 ⟨rfl, hx⟩
    have e_v3 := e_v2.hv.trans hx; clear hx
    obtain ⟨⟨i9, b10, b11, i12⟩, hq_v3⟩ : ∃ q, F_wlvref10_Recv i1 i2 b3 = q := ⟨_, rfl⟩
    rw [hq_v3] at hz ⊢
    refine ⟨i9, b10, b11, i12, rfl, ?_⟩
    refine (c_life_Send i1 i2 b3 _).mono ?_
    rintro r v4 ⟨rfl, hx⟩
    have e_v4 := e_v3.hv.trans hx; clear hx
    obtain ⟨⟨i13, b14⟩, hq_v4⟩ : ∃ q, F_life_Send i1 i2 b3 = q := ⟨_, rfl⟩
    rw [hq_v4] at hz ⊢
    refine ⟨i13, b14, rfl, ?_⟩
    refine (c_wlvref10_Send i1 i2 b3 _).mono ?_
    rintro r v5 ⟨rfl, hx⟩
    have e_v5 := e_v4.trans hx; clear hx
    obtain ⟨⟨i15, b16⟩, hq_v5⟩ : ∃ q, F_wlvref10_Send i1 i2 b3 = q := ⟨_, rfl⟩
    rw [hq_v5] at hz ⊢
    refine ⟨i15, b16, rfl, ?_⟩
    refine (c_wlvlaw14_first  _).mono ?_
    rintro r v6 ⟨rfl, hx⟩
    have e_v6 := e_v5.trans hx; clear hx
    rw [hq_v1]
    refine ⟨b4, rfl, ?_⟩
    exact ⟨by subst hz; rfl, e_v6⟩
theorem t_wlvlaw14_LifePairs (b1 : Bool) (b2 : Bool) (i3 : Int) (v : World) (R : Value → World → Prop) : vcFn E [] Try.f13 [(.bool b1), (.bool b2), (.int .i64 i3)] v R =
  (CallsV Try.prog 27 #[] v fun r v1 => ∃ (b4 : Bool), r = (.bool b4) ∧
  (bcase (!b4)
    (R (.bool false) v1)
    (CallsV Try.prog 28 #[(.int .i64 0), (.int .i64 1), (.bool b2)] v1 fun r v2 => ∃ (i5 : Int) (b6 : Bool) (b7 : Bool) (i8 : Int), r = (.tuple #[(.int .i64 i5), (.agg #[(.bool b6), (.bool b7), (.int .i64 i8)])]) ∧
      (bcase (b6 || (!((i5 == 2) == b2)))
        (R (.bool false) (hv v2))
        (bcase ((bits .and .i64 i3 3) == 0)
          (CallsV Try.prog 28 #[(.int .i64 i5), (.int .i64 3), (.bool false)] (hv v2) fun r v3 => ∃ (i9 : Int) (b10 : Bool) (b11 : Bool) (i12 : Int), r = (.tuple #[(.int .i64 i9), (.agg #[(.bool b10), (.bool b11), (.int .i64 i12)])]) ∧
            (CallsV Try.prog 27 #[] (hv v3) fun r v4 => ∃ (b13 : Bool), r = (.bool b13) ∧
              (R (.bool ((b13 && (!b10)) && (i9 == 4))) v4)))
          (bcase ((bits .and .i64 i3 3) == 1)
            (CallsV Try.prog 30 #[(.int .i64 i5), (.int .i64 3), (.bool false)] (hv v2) fun r v5 => ∃ (i14 : Int) (b15 : Bool), r = (.tuple #[(.int .i64 i14), (.bool b15)]) ∧
              (CallsV Try.prog 27 #[] v5 fun r v6 => ∃ (b16 : Bool), r = (.bool b16) ∧
                (R (.bool ((b16 && b15) && (i14 == 5))) v6)))
            (CallsV Try.prog 30 #[(.int .i64 i5), (.int .i64 1), (.bool b1)] (hv v2) fun r v7 => ∃ (i17 : Int) (b18 : Bool), r = (.tuple #[(.int .i64 i17), (.bool b18)]) ∧
              (bcase (!b18)
                (R (.bool false) v7)
                (bcase b1
                  (bcase b2
                    (CallsV Try.prog 27 #[] v7 fun r v8 => ∃ (b19 : Bool), r = (.bool b19) ∧
                      (R (.bool (b19 && (i17 == 4))) v8))
                    (CallsV Try.prog 28 #[(.int .i64 i17), (.int .i64 0), (.bool true)] v7 fun r v9 => ∃ (i20 : Int) (b21 : Bool) (b22 : Bool) (i23 : Int), r = (.tuple #[(.int .i64 i20), (.agg #[(.bool b21), (.bool b22), (.int .i64 i23)])]) ∧
                      (CallsV Try.prog 30 #[(.int .i64 i17), (.int .i64 0), (.bool false)] (hv v9) fun r v10 => ∃ (i24 : Int) (b25 : Bool), r = (.tuple #[(.int .i64 i24), (.bool b25)]) ∧
                        (CallsV Try.prog 27 #[] v10 fun r v11 => ∃ (b26 : Bool), r = (.bool b26) ∧
                          (R (.bool ((((b26 && (i17 == 3)) && (!b21)) && (i20 == 4)) && (!b25))) v11)))))
                  (CallsV Try.prog 30 #[(.int .i64 i17), (.int .i64 0), (.bool true)] v7 fun r v12 => ∃ (i27 : Int) (b28 : Bool), r = (.tuple #[(.int .i64 i27), (.bool b28)]) ∧
                    (bcase b2
                      (CallsV Try.prog 27 #[] v12 fun r v13 => ∃ (b29 : Bool), r = (.bool b29) ∧
                        (R (.bool ((b29 && b28) && (i27 == 4))) v13))
                      (CallsV Try.prog 27 #[] v12 fun r v14 => ∃ (b30 : Bool), r = (.bool b30) ∧
                        (R (.bool ((b30 && b28) && (i27 == 3))) v14))))))))))))) := by kernel_rfl
def F_wlvlaw14_LifePairs (b1 : Bool) (b2 : Bool) (i3 : Int) : Bool :=
  (fun b4 => cond (!b4)
  (false)
  (match F_life_Recv 0 1 b2 with
    | (i5, b6, b7, i8) =>
        cond (b6 || (!((i5 == 2) == b2)))
          (false)
          (cond ((bits .and .i64 i3 3) == 0)
            (match F_life_Recv i5 3 false with
              | (i9, b10, b11, i12) =>
                  (fun b13 => ((b13 && (!b10)) && (i9 == 4))) (F_wlvlaw14_first ))
            (cond ((bits .and .i64 i3 3) == 1)
              (match F_life_Send i5 3 false with
                | (i14, b15) =>
                    (fun b16 => ((b16 && b15) && (i14 == 5))) (F_wlvlaw14_first ))
              (match F_life_Send i5 1 b1 with
                | (i17, b18) =>
                    cond (!b18)
                      (false)
                      (cond b1
                        (cond b2
                          ((fun b19 => (b19 && (i17 == 4))) (F_wlvlaw14_first ))
                          (match F_life_Recv i17 0 true with
                            | (i20, b21, b22, i23) =>
                                match F_life_Send i17 0 false with
                                  | (i24, b25) =>
                                      (fun b26 => ((((b26 && (i17 == 3)) && (!b21)) && (i20 == 4)) && (!b25))) (F_wlvlaw14_first )))
                        (match F_life_Send i17 0 true with
                          | (i27, b28) =>
                              cond b2
                                ((fun b29 => ((b29 && b28) && (i27 == 4))) (F_wlvlaw14_first ))
                                ((fun b30 => ((b30 && b28) && (i27 == 3))) (F_wlvlaw14_first ))))))))) (F_wlvlaw14_first )
def enc_wlvlaw14_LifePairs : Bool → Value
  | b1 => (.bool b1)
theorem c_wlvlaw14_LifePairs (b1 : Bool) (b2 : Bool) (i3 : Int) (v : World) : CallsV Try.prog 13 #[(.bool b1), (.bool b2), (.int .i64 i3)] v fun r v' => r = enc_wlvlaw14_LifePairs (F_wlvlaw14_LifePairs b1 b2 i3) ∧ Ext v v' := by
  refine fn_sound (E := E) (A := []) Try.func13 ?_
  rw [t_wlvlaw14_LifePairs]
  obtain ⟨z, hz⟩ : ∃ z, z = F_wlvlaw14_LifePairs b1 b2 i3 := ⟨_, rfl⟩
  rw [← hz]
  unfold F_wlvlaw14_LifePairs at hz
  refine (c_wlvlaw14_first  _).mono ?_
  rintro r v1 ⟨rfl, hx⟩
  have e_v1 := (Ext.refl v).trans hx; clear hx
  obtain ⟨b4, hq_v1⟩ : ∃ q, F_wlvlaw14_first  = q := ⟨_, rfl⟩
  rw [hq_v1] at hz ⊢
  refine ⟨b4, rfl, ?_⟩
  refine bcase_of (fun h => ?_) (fun h => ?_)
  · have hz := cond_t h hz; clear h
    exact ⟨by subst hz; rfl, e_v1⟩
  · have hz := cond_f h hz; clear h
    refine (c_life_Recv 0 1 b2 _).mono ?_
    rintro r v2 ⟨rfl, hx⟩
    have e_v2 := e_v1.trans hx; clear hx
    obtain ⟨⟨i5, b6, b7, i8⟩, hq_v2⟩ : ∃ q, F_life_Recv 0 1 b2 = q := ⟨_, rfl⟩
    rw [hq_v2] at hz ⊢
    refine ⟨i5, b6, b7, i8, rfl, ?_⟩
    refine bcase_of (fun h => ?_) (fun h => ?_)
    · have hz := cond_t h hz; clear h
      exact ⟨by subst hz; rfl, e_v2.hv⟩
    · have hz := cond_f h hz; clear h
      refine bcase_of (fun h => ?_) (fun h => ?_)
      · have hz := cond_t h hz; clear h
        refine (c_life_Recv i5 3 false _).mono ?_
        rintro r v3 ⟨rfl, hx⟩
        have e_v3 := e_v2.hv.trans hx; clear hx
        obtain ⟨⟨i9, b10, b11, i12⟩, hq_v3⟩ : ∃ q, F_life_Recv i5 3 false = q := ⟨_, rfl⟩
        rw [hq_v3] at hz ⊢
        refine ⟨i9, b10, b11, i12, rfl, ?_⟩
        refine (c_wlvlaw14_first  _).mono ?_
        rintro r v4 ⟨rfl, hx⟩
        have e_v4 := e_v3.hv.trans hx; clear hx
        rw [hq_v1]
        refine ⟨b4, rfl, ?_⟩
        exact ⟨by subst hz; rfl, e_v4⟩
      · have hz := cond_f h hz; clear h
        refine bcase_of (fun h => ?_) (fun h => ?_)
        · have hz := cond_t h hz; clear h
          refine (c_life_Send i5 3 false _).mono ?_
          rintro r v5 ⟨rfl, hx⟩
          have e_v5 := e_v2.hv.trans hx; clear hx
          obtain ⟨⟨i14, b15⟩, hq_v5⟩ : ∃ q, F_life_Send i5 3 false = q := ⟨_, rfl⟩
          rw [hq_v5] at hz ⊢
          refine ⟨i14, b15, rfl, ?_⟩
          refine (c_wlvlaw14_first  _).mono ?_
          rintro r v6 ⟨rfl, hx⟩
          have e_v6 := e_v5.trans hx; clear hx
          rw [hq_v1]
          refine ⟨b4, rfl, ?_⟩
          exact ⟨by subst hz; rfl, e_v6⟩
        · have hz := cond_f h hz; clear h
          refine (c_life_Send i5 1 b1 _).mono ?_
          rintro r v7 ⟨rfl, hx⟩
          have e_v7 := e_v2.hv.trans hx; clear hx
          obtain ⟨⟨i17, b18⟩, hq_v7⟩ : ∃ q, F_life_Send i5 1 b1 = q := ⟨_, rfl⟩
          rw [hq_v7] at hz ⊢
          refine ⟨i17, b18, rfl, ?_⟩
          refine bcase_of (fun h => ?_) (fun h => ?_)
          · have hz := cond_t h hz; clear h
            exact ⟨by subst hz; rfl, e_v7⟩
          · have hz := cond_f h hz; clear h
            refine bcase_of (fun h => ?_) (fun h => ?_)
            · have hz := cond_t h hz; clear h
              refine bcase_of (fun h => ?_) (fun h => ?_)
              · have hz := cond_t h hz; clear h
                refine (c_wlvlaw14_first  _).mono ?_
                rintro r v8 ⟨rfl, hx⟩
                have e_v8 := e_v7.trans hx; clear hx
                rw [hq_v1]
                refine ⟨b4, rfl, ?_⟩
                exact ⟨by subst hz; rfl, e_v8⟩
              · have hz := cond_f h hz; clear h
                refine (c_life_Recv i17 0 true _).mono ?_
                rintro r v9 ⟨rfl, hx⟩
                have e_v9 := e_v7.trans hx; clear hx
                obtain ⟨⟨i20, b21, b22, i23⟩, hq_v9⟩ : ∃ q, F_life_Recv i17 0 true = q := ⟨_, rfl⟩
                rw [hq_v9] at hz ⊢
                refine ⟨i20, b21, b22, i23, rfl, ?_⟩
                refine (c_life_Send i17 0 false _).mono ?_
                rintro r v10 ⟨rfl, hx⟩
                have e_v10 := e_v9.hv.trans hx; clear hx
                obtain ⟨⟨i24, b25⟩, hq_v10⟩ : ∃ q, F_life_Send i17 0 false = q := ⟨_, rfl⟩
                rw [hq_v10] at hz ⊢
                refine ⟨i24, b25, rfl, ?_⟩
                refine (c_wlvlaw14_first  _).mono ?_
                rintro r v11 ⟨rfl, hx⟩
                have e_v11 := e_v10.trans hx; clear hx
                rw [hq_v1]
                refine ⟨b4, rfl, ?_⟩
                exact ⟨by subst hz; rfl, e_v11⟩
            · have hz := cond_f h hz; clear h
              refine (c_life_Send i17 0 true _).mono ?_
              rintro r v12 ⟨rfl, hx⟩
              have e_v12 := e_v7.trans hx; clear hx
              obtain ⟨⟨i27, b28⟩, hq_v12⟩ : ∃ q, F_life_Send i17 0 true = q := ⟨_, rfl⟩
              rw [hq_v12] at hz ⊢
              refine ⟨i27, b28, rfl, ?_⟩
              refine bcase_of (fun h => ?_) (fun h => ?_)
              · have hz := cond_t h hz; clear h
                refine (c_wlvlaw14_first  _).mono ?_
                rintro r v13 ⟨rfl, hx⟩
                have e_v13 := e_v12.trans hx; clear hx
                rw [hq_v1]
                refine ⟨b4, rfl, ?_⟩
                exact ⟨by subst hz; rfl, e_v13⟩
              · have hz := cond_f h hz; clear h
                refine (c_wlvlaw14_first  _).mono ?_
                rintro r v14 ⟨rfl, hx⟩
                have e_v14 := e_v12.trans hx; clear hx
                rw [hq_v1]
                refine ⟨b4, rfl, ?_⟩
                exact ⟨by subst hz; rfl, e_v14⟩
end Go.Proofs.Ytnlekdpnjphmfaa
