/- The conditions of functions of the program, written by a program of ours and held by the kernel; contracts of those that have no loop. -/
import Derived.Test.YtnlekdpnjphmfabProg
import Derived.Test.YtnlekdpnjphmfabVcb
namespace Go.Proofs.Ytnlekdpnjphmfab
open Vc
set_option linter.unusedVariables false
theorem t_life_carries (i1 : Int) (v : World) (R : Value → World → Prop) : vcFn E [] Try.f7 [(.int .i64 i1)] v R =
  (R (.bool ((i1 == 0) || (i1 == 1))) v) := by kernel_rfl
def F_life_carries (i1 : Int) : Bool :=
  ((i1 == 0) || (i1 == 1))
def enc_life_carries : Bool → Value
  | b1 => (.bool b1)
theorem c_life_carries (i1 : Int) (v : World) : CallsV Try.prog 7 #[(.int .i64 i1)] v fun r v' => r = enc_life_carries (F_life_carries i1) ∧ Ext v v' := by
  refine fn_sound (E := E) (A := []) Try.func7 ?_
  rw [t_life_carries]
  obtain ⟨z, hz⟩ : ∃ z, z = F_life_carries i1 := ⟨_, rfl⟩
  rw [← hz]
  unfold F_life_carries at hz
  exact ⟨by subst hz; rfl, (Ext.refl v)⟩
theorem t_life_fault (i1 : Int) (b2 : Bool) (v : World) (R : Value → World → Prop) : vcFn E [] Try.f8 [(.int .i64 i1), (.bool b2)] v R =
  (R (.agg #[(.bool true), (.bool b2), (.int .i64 i1)]) (hv v)) := by kernel_rfl
def F_life_fault (i1 : Int) (b2 : Bool) : Bool × Bool × Int :=
  (true, b2, i1)
def enc_life_fault : Bool × Bool × Int → Value
  | (b1, b2, i3) => (.agg #[(.bool b1), (.bool b2), (.int .i64 i3)])
theorem c_life_fault (i1 : Int) (b2 : Bool) (v : World) : CallsV Try.prog 8 #[(.int .i64 i1), (.bool b2)] v fun r v' => r = enc_life_fault (F_life_fault i1 b2) ∧ Ext v v' := by
  refine fn_sound (E := E) (A := []) Try.func8 ?_
  rw [t_life_fault]
  obtain ⟨z, hz⟩ : ∃ z, z = F_life_fault i1 b2 := ⟨_, rfl⟩
  rw [← hz]
  unfold F_life_fault at hz
  exact ⟨by subst hz; rfl, (Ext.refl v).hv⟩
theorem t_life_ended (i1 : Int) (i2 : Int) (v : World) (R : Value → World → Prop) : vcFn E [] Try.f9 [(.int .i64 i1), (.int .i64 i2)] v R =
  (bcase (i1 == 1)
  (R (.int .i64 i2) v)
  (R (.int .i64 4) v)) := by kernel_rfl
def F_life_ended (i1 : Int) (i2 : Int) : Int :=
  cond (i1 == 1)
  (i2)
  (4)
def enc_life_ended : Int → Value
  | i1 => (.int .i64 i1)
theorem c_life_ended (i1 : Int) (i2 : Int) (v : World) : CallsV Try.prog 9 #[(.int .i64 i1), (.int .i64 i2)] v fun r v' => r = enc_life_ended (F_life_ended i1 i2) ∧ Ext v v' := by
  refine fn_sound (E := E) (A := []) Try.func9 ?_
  rw [t_life_ended]
  obtain ⟨z, hz⟩ : ∃ z, z = F_life_ended i1 i2 := ⟨_, rfl⟩
  rw [← hz]
  unfold F_life_ended at hz
  refine bcase_of (fun h => ?_) (fun h => ?_)
  · have hz := cond_t h hz; clear h
    exact ⟨by subst hz; rfl, (Ext.refl v)⟩
  · have hz := cond_f h hz; clear h
    exact ⟨by subst hz; rfl, (Ext.refl v)⟩
set_option maxRecDepth 100000 in
theorem t_life_Recv (i1 : Int) (i2 : Int) (b3 : Bool) (v : World) (R : Value → World → Prop) : vcFn E [] Try.f5 [(.int .i64 i1), (.int .i64 i2), (.bool b3)] v R =
  (bcase (((i2 != 2) && (i2 != 3)) && (i2 != 8))
  (CallsV Try.prog 7 #[(.int .i64 i2)] (hv v) fun r v1 => ∃ (b4 : Bool), r = (.bool b4) ∧
    (bcase (!b4)
      (R (.tuple #[(.int .i64 i1), (.agg #[(.bool false), (.bool false), (.int .i64 0)])]) v1)
      (bcase (i1 == 0)
        (bcase (i2 == 2)
          (R (.tuple #[(.int .i64 0), (.agg #[(.bool false), (.bool false), (.int .i64 0)])]) v1)
          (bcase (i2 != 1)
            (CallsV Try.prog 8 #[(.int .i64 1), (.bool true)] v1 fun r v2 => ∃ (b5 : Bool) (b6 : Bool) (i7 : Int), r = (.agg #[(.bool b5), (.bool b6), (.int .i64 i7)]) ∧
              (R (.tuple #[(.int .i64 0), (.agg #[(.bool b5), (.bool b6), (.int .i64 i7)])]) v2))
            (bcase b3
              (R (.tuple #[(.int .i64 2), (.agg #[(.bool false), (.bool false), (.int .i64 0)])]) v1)
              (R (.tuple #[(.int .i64 1), (.agg #[(.bool false), (.bool false), (.int .i64 0)])]) v1))))
        (bcase (i1 == 1)
          (bcase (i2 == 3)
            (R (.tuple #[(.int .i64 4), (.agg #[(.bool false), (.bool false), (.int .i64 0)])]) v1)
            (CallsV Try.prog 7 #[(.int .i64 i2)] v1 fun r v3 => ∃ (b8 : Bool), r = (.bool b8) ∧
              (bcase (b8 && b3)
                (CallsV Try.prog 9 #[(.int .i64 i1), (.int .i64 2)] v3 fun r v4 => ∃ (i9 : Int), r = (.int .i64 i9) ∧
                  (R (.tuple #[(.int .i64 i9), (.agg #[(.bool false), (.bool false), (.int .i64 0)])]) v4))
                (R (.tuple #[(.int .i64 i1), (.agg #[(.bool false), (.bool false), (.int .i64 0)])]) v3))))
          (bcase (i1 == 3)
            (bcase (i2 == 3)
              (R (.tuple #[(.int .i64 4), (.agg #[(.bool false), (.bool false), (.int .i64 0)])]) v1)
              (CallsV Try.prog 7 #[(.int .i64 i2)] v1 fun r v5 => ∃ (b10 : Bool), r = (.bool b10) ∧
                (bcase (b10 && b3)
                  (CallsV Try.prog 9 #[(.int .i64 i1), (.int .i64 2)] v5 fun r v6 => ∃ (i11 : Int), r = (.int .i64 i11) ∧
                    (R (.tuple #[(.int .i64 i11), (.agg #[(.bool false), (.bool false), (.int .i64 0)])]) v6))
                  (R (.tuple #[(.int .i64 i1), (.agg #[(.bool false), (.bool false), (.int .i64 0)])]) v5))))
            (bcase (i1 == 2)
              (bcase (i2 == 3)
                (R (.tuple #[(.int .i64 4), (.agg #[(.bool false), (.bool false), (.int .i64 0)])]) v1)
                (CallsV Try.prog 7 #[(.int .i64 i2)] v1 fun r v7 => ∃ (b12 : Bool), r = (.bool b12) ∧
                  (bcase b12
                    (CallsV Try.prog 8 #[(.int .i64 5), (.bool false)] v7 fun r v8 => ∃ (b13 : Bool) (b14 : Bool) (i15 : Int), r = (.agg #[(.bool b13), (.bool b14), (.int .i64 i15)]) ∧
                      (R (.tuple #[(.int .i64 2), (.agg #[(.bool b13), (.bool b14), (.int .i64 i15)])]) v8))
                    (R (.tuple #[(.int .i64 2), (.agg #[(.bool false), (.bool false), (.int .i64 0)])]) v7))))
              (bcase (i1 == 4)
                (CallsV Try.prog 7 #[(.int .i64 i2)] v1 fun r v9 => ∃ (b16 : Bool), r = (.bool b16) ∧
                  (bcase b16
                    (CallsV Try.prog 8 #[(.int .i64 5), (.bool true)] v9 fun r v10 => ∃ (b17 : Bool) (b18 : Bool) (i19 : Int), r = (.agg #[(.bool b17), (.bool b18), (.int .i64 i19)]) ∧
                      (R (.tuple #[(.int .i64 4), (.agg #[(.bool b17), (.bool b18), (.int .i64 i19)])]) v10))
                    (R (.tuple #[(.int .i64 4), (.agg #[(.bool false), (.bool false), (.int .i64 0)])]) v9)))
                (bcase (i1 == 5)
                  (R (.tuple #[(.int .i64 5), (.agg #[(.bool false), (.bool false), (.int .i64 0)])]) v1)
                  (CallsV Try.prog 8 #[(.int .i64 1), (.bool true)] v1 fun r v11 => ∃ (b20 : Bool) (b21 : Bool) (i22 : Int), r = (.agg #[(.bool b20), (.bool b21), (.int .i64 i22)]) ∧
                    (R (.tuple #[(.int .i64 i1), (.agg #[(.bool b20), (.bool b21), (.int .i64 i22)])]) v11))))))))))
  (bcase (i1 == 0)
    (bcase (i2 == 2)
      (R (.tuple #[(.int .i64 0), (.agg #[(.bool false), (.bool false), (.int .i64 0)])]) (hv v))
      (bcase (i2 != 1)
        (CallsV Try.prog 8 #[(.int .i64 1), (.bool true)] (hv v) fun r v12 => ∃ (b23 : Bool) (b24 : Bool) (i25 : Int), r = (.agg #[(.bool b23), (.bool b24), (.int .i64 i25)]) ∧
          (R (.tuple #[(.int .i64 0), (.agg #[(.bool b23), (.bool b24), (.int .i64 i25)])]) v12))
        (bcase b3
          (R (.tuple #[(.int .i64 2), (.agg #[(.bool false), (.bool false), (.int .i64 0)])]) (hv v))
          (R (.tuple #[(.int .i64 1), (.agg #[(.bool false), (.bool false), (.int .i64 0)])]) (hv v)))))
    (bcase (i1 == 1)
      (bcase (i2 == 3)
        (R (.tuple #[(.int .i64 4), (.agg #[(.bool false), (.bool false), (.int .i64 0)])]) (hv v))
        (CallsV Try.prog 7 #[(.int .i64 i2)] (hv v) fun r v13 => ∃ (b26 : Bool), r = (.bool b26) ∧
          (bcase (b26 && b3)
            (CallsV Try.prog 9 #[(.int .i64 i1), (.int .i64 2)] v13 fun r v14 => ∃ (i27 : Int), r = (.int .i64 i27) ∧
              (R (.tuple #[(.int .i64 i27), (.agg #[(.bool false), (.bool false), (.int .i64 0)])]) v14))
            (R (.tuple #[(.int .i64 i1), (.agg #[(.bool false), (.bool false), (.int .i64 0)])]) v13))))
      (bcase (i1 == 3)
        (bcase (i2 == 3)
          (R (.tuple #[(.int .i64 4), (.agg #[(.bool false), (.bool false), (.int .i64 0)])]) (hv v))
          (CallsV Try.prog 7 #[(.int .i64 i2)] (hv v) fun r v15 => ∃ (b28 : Bool), r = (.bool b28) ∧
            (bcase (b28 && b3)
              (CallsV Try.prog 9 #[(.int .i64 i1), (.int .i64 2)] v15 fun r v16 => ∃ (i29 : Int), r = (.int .i64 i29) ∧
                (R (.tuple #[(.int .i64 i29), (.agg #[(.bool false), (.bool false), (.int .i64 0)])]) v16))
              (R (.tuple #[(.int .i64 i1), (.agg #[(.bool false), (.bool false), (.int .i64 0)])]) v15))))
        (bcase (i1 == 2)
          (bcase (i2 == 3)
            (R (.tuple #[(.int .i64 4), (.agg #[(.bool false), (.bool false), (.int .i64 0)])]) (hv v))
            (CallsV Try.prog 7 #[(.int .i64 i2)] (hv v) fun r v17 => ∃ (b30 : Bool), r = (.bool b30) ∧
              (bcase b30
                (CallsV Try.prog 8 #[(.int .i64 5), (.bool false)] v17 fun r v18 => ∃ (b31 : Bool) (b32 : Bool) (i33 : Int), r = (.agg #[(.bool b31), (.bool b32), (.int .i64 i33)]) ∧
                  (R (.tuple #[(.int .i64 2), (.agg #[(.bool b31), (.bool b32), (.int .i64 i33)])]) v18))
                (R (.tuple #[(.int .i64 2), (.agg #[(.bool false), (.bool false), (.int .i64 0)])]) v17))))
          (bcase (i1 == 4)
            (CallsV Try.prog 7 #[(.int .i64 i2)] (hv v) fun r v19 => ∃ (b34 : Bool), r = (.bool b34) ∧
              (bcase b34
                (CallsV Try.prog 8 #[(.int .i64 5), (.bool true)] v19 fun r v20 => ∃ (b35 : Bool) (b36 : Bool) (i37 : Int), r = (.agg #[(.bool b35), (.bool b36), (.int .i64 i37)]) ∧
                  (R (.tuple #[(.int .i64 4), (.agg #[(.bool b35), (.bool b36), (.int .i64 i37)])]) v20))
                (R (.tuple #[(.int .i64 4), (.agg #[(.bool false), (.bool false), (.int .i64 0)])]) v19)))
            (bcase (i1 == 5)
              (R (.tuple #[(.int .i64 5), (.agg #[(.bool false), (.bool false), (.int .i64 0)])]) (hv v))
              (CallsV Try.prog 8 #[(.int .i64 1), (.bool true)] (hv v) fun r v21 => ∃ (b38 : Bool) (b39 : Bool) (i40 : Int), r = (.agg #[(.bool b38), (.bool b39), (.int .i64 i40)]) ∧
                (R (.tuple #[(.int .i64 i1), (.agg #[(.bool b38), (.bool b39), (.int .i64 i40)])]) v21))))))))) := by kernel_rfl
def F_life_Recv (i1 : Int) (i2 : Int) (b3 : Bool) : Int × Bool × Bool × Int :=
  cond (((i2 != 2) && (i2 != 3)) && (i2 != 8))
  ((fun b4 => cond (!b4)
    ((i1, false, false, 0))
    (cond (i1 == 0)
      (cond (i2 == 2)
        ((0, false, false, 0))
        (cond (i2 != 1)
          (match F_life_fault 1 true with
            | (b5, b6, i7) =>
                (0, b5, b6, i7))
          (cond b3
            ((2, false, false, 0))
            ((1, false, false, 0)))))
      (cond (i1 == 1)
        (cond (i2 == 3)
          ((4, false, false, 0))
          ((fun b8 => cond (b8 && b3)
            ((fun i9 => (i9, false, false, 0)) (F_life_ended i1 2))
            ((i1, false, false, 0))) (F_life_carries i2)))
        (cond (i1 == 3)
          (cond (i2 == 3)
            ((4, false, false, 0))
            ((fun b10 => cond (b10 && b3)
              ((fun i11 => (i11, false, false, 0)) (F_life_ended i1 2))
              ((i1, false, false, 0))) (F_life_carries i2)))
          (cond (i1 == 2)
            (cond (i2 == 3)
              ((4, false, false, 0))
              ((fun b12 => cond b12
                (match F_life_fault 5 false with
                  | (b13, b14, i15) =>
                      (2, b13, b14, i15))
                ((2, false, false, 0))) (F_life_carries i2)))
            (cond (i1 == 4)
              ((fun b16 => cond b16
                (match F_life_fault 5 true with
                  | (b17, b18, i19) =>
                      (4, b17, b18, i19))
                ((4, false, false, 0))) (F_life_carries i2))
              (cond (i1 == 5)
                ((5, false, false, 0))
                (match F_life_fault 1 true with
                  | (b20, b21, i22) =>
                      (i1, b20, b21, i22))))))))) (F_life_carries i2))
  (cond (i1 == 0)
    (cond (i2 == 2)
      ((0, false, false, 0))
      (cond (i2 != 1)
        (match F_life_fault 1 true with
          | (b23, b24, i25) =>
              (0, b23, b24, i25))
        (cond b3
          ((2, false, false, 0))
          ((1, false, false, 0)))))
    (cond (i1 == 1)
      (cond (i2 == 3)
        ((4, false, false, 0))
        ((fun b26 => cond (b26 && b3)
          ((fun i27 => (i27, false, false, 0)) (F_life_ended i1 2))
          ((i1, false, false, 0))) (F_life_carries i2)))
      (cond (i1 == 3)
        (cond (i2 == 3)
          ((4, false, false, 0))
          ((fun b28 => cond (b28 && b3)
            ((fun i29 => (i29, false, false, 0)) (F_life_ended i1 2))
            ((i1, false, false, 0))) (F_life_carries i2)))
        (cond (i1 == 2)
          (cond (i2 == 3)
            ((4, false, false, 0))
            ((fun b30 => cond b30
              (match F_life_fault 5 false with
                | (b31, b32, i33) =>
                    (2, b31, b32, i33))
              ((2, false, false, 0))) (F_life_carries i2)))
          (cond (i1 == 4)
            ((fun b34 => cond b34
              (match F_life_fault 5 true with
                | (b35, b36, i37) =>
                    (4, b35, b36, i37))
              ((4, false, false, 0))) (F_life_carries i2))
            (cond (i1 == 5)
              ((5, false, false, 0))
              (match F_life_fault 1 true with
                | (b38, b39, i40) =>
                    (i1, b38, b39, i40))))))))
def enc_life_Recv : Int × Bool × Bool × Int → Value
  | (i1, b2, b3, i4) => (.tuple #[(.int .i64 i1), (.agg #[(.bool b2), (.bool b3), (.int .i64 i4)])])
set_option maxRecDepth 100000 in
theorem c_life_Recv (i1 : Int) (i2 : Int) (b3 : Bool) (v : World) : CallsV Try.prog 5 #[(.int .i64 i1), (.int .i64 i2), (.bool b3)] v fun r v' => r = enc_life_Recv (F_life_Recv i1 i2 b3) ∧ Ext v v' := by
  refine fn_sound (E := E) (A := []) Try.func5 ?_
  rw [t_life_Recv]
  obtain ⟨z, hz⟩ : ∃ z, z = F_life_Recv i1 i2 b3 := ⟨_, rfl⟩
  rw [← hz]
  unfold F_life_Recv at hz
  refine bcase_of (fun h => ?_) (fun h => ?_)
  · have hz := cond_t h hz; clear h
    refine (c_life_carries i2 _).mono ?_
    rintro r v1 ⟨rfl, hx⟩
    have e_v1 := (Ext.refl v).hv.trans hx; clear hx
    obtain ⟨b4, hq_v1⟩ : ∃ q, F_life_carries i2 = q := ⟨_, rfl⟩
    rw [hq_v1] at hz ⊢
    refine ⟨b4, rfl, ?_⟩
    refine bcase_of (fun h => ?_) (fun h => ?_)
    · have hz := cond_t h hz; clear h
      exact ⟨by subst hz; rfl, e_v1⟩
    · have hz := cond_f h hz; clear h
      refine bcase_of (fun h => ?_) (fun h => ?_)
      · have hz := cond_t h hz; clear h
        refine bcase_of (fun h => ?_) (fun h => ?_)
        · have hz := cond_t h hz; clear h
          exact ⟨by subst hz; rfl, e_v1⟩
        · have hz := cond_f h hz; clear h
          refine bcase_of (fun h => ?_) (fun h => ?_)
          · have hz := cond_t h hz; clear h
            refine (c_life_fault 1 true _).mono ?_
            rintro r v2 ⟨rfl, hx⟩
            have e_v2 := e_v1.trans hx; clear hx
            obtain ⟨⟨b5, b6, i7⟩, hq_v2⟩ : ∃ q, F_life_fault 1 true = q := ⟨_, rfl⟩
            rw [hq_v2] at hz ⊢
            refine ⟨b5, b6, i7, rfl, ?_⟩
            exact ⟨by subst hz; rfl, e_v2⟩
          · have hz := cond_f h hz; clear h
            refine bcase_of (fun h => ?_) (fun h => ?_)
            · have hz := cond_t h hz; clear h
              exact ⟨by subst hz; rfl, e_v1⟩
            · have hz := cond_f h hz; clear h
              exact ⟨by subst hz; rfl, e_v1⟩
      · have hz := cond_f h hz; clear h
        refine bcase_of (fun h => ?_) (fun h => ?_)
        · have hz := cond_t h hz; clear h
          refine bcase_of (fun h => ?_) (fun h => ?_)
          · have hz := cond_t h hz; clear h
            exact ⟨by subst hz; rfl, e_v1⟩
          · have hz := cond_f h hz; clear h
            refine (c_life_carries i2 _).mono ?_
            rintro r v3 ⟨rfl, hx⟩
            have e_v3 := e_v1.trans hx; clear hx
            rw [hq_v1]
            refine ⟨b4, rfl, ?_⟩
            refine bcase_of (fun h => ?_) (fun h => ?_)
            · have hz := cond_t h hz; clear h
              refine (c_life_ended i1 2 _).mono ?_
              rintro r v4 ⟨rfl, hx⟩
              have e_v4 := e_v3.trans hx; clear hx
              obtain ⟨i9, hq_v4⟩ : ∃ q, F_life_ended i1 2 = q := ⟨_, rfl⟩
              rw [hq_v4] at hz ⊢
              refine ⟨i9, rfl, ?_⟩
              exact ⟨by subst hz; rfl, e_v4⟩
            · have hz := cond_f h hz; clear h
              exact ⟨by subst hz; rfl, e_v3⟩
        · have hz := cond_f h hz; clear h
          refine bcase_of (fun h => ?_) (fun h => ?_)
          · have hz := cond_t h hz; clear h
            refine bcase_of (fun h => ?_) (fun h => ?_)
            · have hz := cond_t h hz; clear h
              exact ⟨by subst hz; rfl, e_v1⟩
            · have hz := cond_f h hz; clear h
              refine (c_life_carries i2 _).mono ?_
              rintro r v5 ⟨rfl, hx⟩
              have e_v5 := e_v1.trans hx; clear hx
              rw [hq_v1]
              refine ⟨b4, rfl, ?_⟩
              refine bcase_of (fun h => ?_) (fun h => ?_)
              · have hz := cond_t h hz; clear h
                refine (c_life_ended i1 2 _).mono ?_
                rintro r v6 ⟨rfl, hx⟩
                have e_v6 := e_v5.trans hx; clear hx
                obtain ⟨i11, hq_v6⟩ : ∃ q, F_life_ended i1 2 = q := ⟨_, rfl⟩
                rw [hq_v6] at hz ⊢
                refine ⟨i11, rfl, ?_⟩
                exact ⟨by subst hz; rfl, e_v6⟩
              · have hz := cond_f h hz; clear h
                exact ⟨by subst hz; rfl, e_v5⟩
          · have hz := cond_f h hz; clear h
            refine bcase_of (fun h => ?_) (fun h => ?_)
            · have hz := cond_t h hz; clear h
              refine bcase_of (fun h => ?_) (fun h => ?_)
              · have hz := cond_t h hz; clear h
                exact ⟨by subst hz; rfl, e_v1⟩
              · have hz := cond_f h hz; clear h
                refine (c_life_carries i2 _).mono ?_
                rintro r v7 ⟨rfl, hx⟩
                have e_v7 := e_v1.trans hx; clear hx
                rw [hq_v1]
                refine ⟨b4, rfl, ?_⟩
                refine bcase_of (fun h => ?_) (fun h => ?_)
                · have hz := cond_t h hz; clear h
                  refine (c_life_fault 5 false _).mono ?_
                  rintro r v8 ⟨rfl, hx⟩
                  have e_v8 := e_v7.trans hx; clear hx
                  obtain ⟨⟨b13, b14, i15⟩, hq_v8⟩ : ∃ q, F_life_fault 5 false = q := ⟨_, rfl⟩
                  rw [hq_v8] at hz ⊢
                  refine ⟨b13, b14, i15, rfl, ?_⟩
                  exact ⟨by subst hz; rfl, e_v8⟩
                · have hz := cond_f h hz; clear h
                  exact ⟨by subst hz; rfl, e_v7⟩
            · have hz := cond_f h hz; clear h
              refine bcase_of (fun h => ?_) (fun h => ?_)
              · have hz := cond_t h hz; clear h
                refine (c_life_carries i2 _).mono ?_
                rintro r v9 ⟨rfl, hx⟩
                have e_v9 := e_v1.trans hx; clear hx
                rw [hq_v1]
                refine ⟨b4, rfl, ?_⟩
                refine bcase_of (fun h => ?_) (fun h => ?_)
                · have hz := cond_t h hz; clear h
                  refine (c_life_fault 5 true _).mono ?_
                  rintro r v10 ⟨rfl, hx⟩
                  have e_v10 := e_v9.trans hx; clear hx
                  obtain ⟨⟨b17, b18, i19⟩, hq_v10⟩ : ∃ q, F_life_fault 5 true = q := ⟨_, rfl⟩
                  rw [hq_v10] at hz ⊢
                  refine ⟨b17, b18, i19, rfl, ?_⟩
                  exact ⟨by subst hz; rfl, e_v10⟩
                · have hz := cond_f h hz; clear h
                  exact ⟨by subst hz; rfl, e_v9⟩
              · have hz := cond_f h hz; clear h
                refine bcase_of (fun h => ?_) (fun h => ?_)
                · have hz := cond_t h hz; clear h
                  exact ⟨by subst hz; rfl, e_v1⟩
                · have hz := cond_f h hz; clear h
                  refine (c_life_fault 1 true _).mono ?_
                  rintro r v11 ⟨rfl, hx⟩
                  have e_v11 := e_v1.trans hx; clear hx
                  obtain ⟨⟨b20, b21, i22⟩, hq_v11⟩ : ∃ q, F_life_fault 1 true = q := ⟨_, rfl⟩
                  rw [hq_v11] at hz ⊢
                  refine ⟨b20, b21, i22, rfl, ?_⟩
                  exact ⟨by subst hz; rfl, e_v11⟩
  · have hz := cond_f h hz; clear h
    refine bcase_of (fun h => ?_) (fun h => ?_)
    · have hz := cond_t h hz; clear h
      refine bcase_of (fun h => ?_) (fun h => ?_)
      · have hz := cond_t h hz; clear h
        exact ⟨by subst hz; rfl, (Ext.refl v).hv⟩
      · have hz := cond_f h hz; clear h
        refine bcase_of (fun h => ?_) (fun h => ?_)
        · have hz := cond_t h hz; clear h
          refine (c_life_fault 1 true _).mono ?_
          rintro r v12 ⟨rfl, hx⟩
          have e_v12 := (Ext.refl v).hv.trans hx; clear hx
          obtain ⟨⟨b23, b24, i25⟩, hq_v12⟩ : ∃ q, F_life_fault 1 true = q := ⟨_, rfl⟩
          rw [hq_v12] at hz ⊢
          refine ⟨b23, b24, i25, rfl, ?_⟩
          exact ⟨by subst hz; rfl, e_v12⟩
        · have hz := cond_f h hz; clear h
          refine bcase_of (fun h => ?_) (fun h => ?_)
          · have hz := cond_t h hz; clear h
            exact ⟨by subst hz; rfl, (Ext.refl v).hv⟩
          · have hz := cond_f h hz; clear h
            exact ⟨by subst hz; rfl, (Ext.refl v).hv⟩
    · have hz := cond_f h hz; clear h
      refine bcase_of (fun h => ?_) (fun h => ?_)
      · have hz := cond_t h hz; clear h
        refine bcase_of (fun h => ?_) (fun h => ?_)
        · have hz := cond_t h hz; clear h
          exact ⟨by subst hz; rfl, (Ext.refl v).hv⟩
        · have hz := cond_f h hz; clear h
          refine (c_life_carries i2 _).mono ?_
          rintro r v13 ⟨rfl, hx⟩
          have e_v13 := (Ext.refl v).hv.trans hx; clear hx
          obtain ⟨b26, hq_v13⟩ : ∃ q, F_life_carries i2 = q := ⟨_, rfl⟩
          rw [hq_v13] at hz ⊢
          refine ⟨b26, rfl, ?_⟩
          refine bcase_of (fun h => ?_) (fun h => ?_)
          · have hz := cond_t h hz; clear h
            refine (c_life_ended i1 2 _).mono ?_
            rintro r v14 ⟨rfl, hx⟩
            have e_v14 := e_v13.trans hx; clear hx
            obtain ⟨i27, hq_v14⟩ : ∃ q, F_life_ended i1 2 = q := ⟨_, rfl⟩
            rw [hq_v14] at hz ⊢
            refine ⟨i27, rfl, ?_⟩
            exact ⟨by subst hz; rfl, e_v14⟩
          · have hz := cond_f h hz; clear h
            exact ⟨by subst hz; rfl, e_v13⟩
      · have hz := cond_f h hz; clear h
        refine bcase_of (fun h => ?_) (fun h => ?_)
        · have hz := cond_t h hz; clear h
          refine bcase_of (fun h => ?_) (fun h => ?_)
          · have hz := cond_t h hz; clear h
            exact ⟨by subst hz; rfl, (Ext.refl v).hv⟩
          · have hz := cond_f h hz; clear h
            refine (c_life_carries i2 _).mono ?_
            rintro r v15 ⟨rfl, hx⟩
            have e_v15 := (Ext.refl v).hv.trans hx; clear hx
            obtain ⟨b28, hq_v15⟩ : ∃ q, F_life_carries i2 = q := ⟨_, rfl⟩
            rw [hq_v15] at hz ⊢
            refine ⟨b28, rfl, ?_⟩
            refine bcase_of (fun h => ?_) (fun h => ?_)
            · have hz := cond_t h hz; clear h
              refine (c_life_ended i1 2 _).mono ?_
              rintro r v16 ⟨rfl, hx⟩
              have e_v16 := e_v15.trans hx; clear hx
              obtain ⟨i29, hq_v16⟩ : ∃ q, F_life_ended i1 2 = q := ⟨_, rfl⟩
              rw [hq_v16] at hz ⊢
              refine ⟨i29, rfl, ?_⟩
              exact ⟨by subst hz; rfl, e_v16⟩
            · have hz := cond_f h hz; clear h
              exact ⟨by subst hz; rfl, e_v15⟩
        · have hz := cond_f h hz; clear h
          refine bcase_of (fun h => ?_) (fun h => ?_)
          · have hz := cond_t h hz; clear h
            refine bcase_of (fun h => ?_) (fun h => ?_)
            · have hz := cond_t h hz; clear h
              exact ⟨by subst hz; rfl, (Ext.refl v).hv⟩
            · have hz := cond_f h hz; clear h
              refine (c_life_carries i2 _).mono ?_
              rintro r v17 ⟨rfl, hx⟩
              have e_v17 := (Ext.refl v).hv.trans hx; clear hx
              obtain ⟨b30, hq_v17⟩ : ∃ q, F_life_carries i2 = q := ⟨_, rfl⟩
              rw [hq_v17] at hz ⊢
              refine ⟨b30, rfl, ?_⟩
              refine bcase_of (fun h => ?_) (fun h => ?_)
              · have hz := cond_t h hz; clear h
                refine (c_life_fault 5 false _).mono ?_
                rintro r v18 ⟨rfl, hx⟩
                have e_v18 := e_v17.trans hx; clear hx
                obtain ⟨⟨b31, b32, i33⟩, hq_v18⟩ : ∃ q, F_life_fault 5 false = q := ⟨_, rfl⟩
                rw [hq_v18] at hz ⊢
                refine ⟨b31, b32, i33, rfl, ?_⟩
                exact ⟨by subst hz; rfl, e_v18⟩
              · have hz := cond_f h hz; clear h
                exact ⟨by subst hz; rfl, e_v17⟩
          · have hz := cond_f h hz; clear h
            refine bcase_of (fun h => ?_) (fun h => ?_)
            · have hz := cond_t h hz; clear h
              refine (c_life_carries i2 _).mono ?_
              rintro r v19 ⟨rfl, hx⟩
              have e_v19 := (Ext.refl v).hv.trans hx; clear hx
              obtain ⟨b34, hq_v19⟩ : ∃ q, F_life_carries i2 = q := ⟨_, rfl⟩
              rw [hq_v19] at hz ⊢
              refine ⟨b34, rfl, ?_⟩
              refine bcase_of (fun h => ?_) (fun h => ?_)
              · have hz := cond_t h hz; clear h
                refine (c_life_fault 5 true _).mono ?_
                rintro r v20 ⟨rfl, hx⟩
                have e_v20 := e_v19.trans hx; clear hx
                obtain ⟨⟨b35, b36, i37⟩, hq_v20⟩ : ∃ q, F_life_fault 5 true = q := ⟨_, rfl⟩
                rw [hq_v20] at hz ⊢
                refine ⟨b35, b36, i37, rfl, ?_⟩
                exact ⟨by subst hz; rfl, e_v20⟩
              · have hz := cond_f h hz; clear h
                exact ⟨by subst hz; rfl, e_v19⟩
            · have hz := cond_f h hz; clear h
              refine bcase_of (fun h => ?_) (fun h => ?_)
              · have hz := cond_t h hz; clear h
                exact ⟨by subst hz; rfl, (Ext.refl v).hv⟩
              · have hz := cond_f h hz; clear h
                refine (c_life_fault 1 true _).mono ?_
                rintro r v21 ⟨rfl, hx⟩
                have e_v21 := (Ext.refl v).hv.trans hx; clear hx
                obtain ⟨⟨b38, b39, i40⟩, hq_v21⟩ : ∃ q, F_life_fault 1 true = q := ⟨_, rfl⟩
                rw [hq_v21] at hz ⊢
                refine ⟨b38, b39, i40, rfl, ?_⟩
                exact ⟨by subst hz; rfl, e_v21⟩
theorem t_wlvlaw14_first  (v : World) (R : Value → World → Prop) : vcFn E [] Try.f4 [] v R =
  (CallsV Try.prog 5 #[(.int .i64 0), (.int .i64 0), (.bool false)] v fun r v1 => ∃ (i1 : Int) (b2 : Bool) (b3 : Bool) (i4 : Int), r = (.tuple #[(.int .i64 i1), (.agg #[(.bool b2), (.bool b3), (.int .i64 i4)])]) ∧
  (R (.bool ((((i1 == 0) && b2) && b3) && (i4 == 1))) (hv v1))) := by kernel_rfl
def F_wlvlaw14_first  : Bool :=
  match F_life_Recv 0 0 false with
  | (i1, b2, b3, i4) =>
      ((((i1 == 0) && b2) && b3) && (i4 == 1))
def enc_wlvlaw14_first : Bool → Value
  | b1 => (.bool b1)
theorem c_wlvlaw14_first  (v : World) : CallsV Try.prog 4 #[] v fun r v' => r = enc_wlvlaw14_first (F_wlvlaw14_first ) ∧ Ext v v' := by
  refine fn_sound (E := E) (A := []) Try.func4 ?_
  rw [t_wlvlaw14_first]
  obtain ⟨z, hz⟩ : ∃ z, z = F_wlvlaw14_first  := ⟨_, rfl⟩
  rw [← hz]
  unfold F_wlvlaw14_first at hz
  refine (c_life_Recv 0 0 false _).mono ?_
  rintro r v1 ⟨rfl, hx⟩
  have e_v1 := (Ext.refl v).trans hx; clear hx
  obtain ⟨⟨i1, b2, b3, i4⟩, hq_v1⟩ : ∃ q, F_life_Recv 0 0 false = q := ⟨_, rfl⟩
  rw [hq_v1] at hz ⊢
  refine ⟨i1, b2, b3, i4, rfl, ?_⟩
  exact ⟨by subst hz; rfl, e_v1.hv⟩
theorem t_life_Send (i1 : Int) (i2 : Int) (b3 : Bool) (v : World) (R : Value → World → Prop) : vcFn E [] Try.f6 [(.int .i64 i1), (.int .i64 i2), (.bool b3)] v R =
  (CallsV Try.prog 7 #[(.int .i64 i2)] v fun r v1 => ∃ (b4 : Bool), r = (.bool b4) ∧
  (bcase b4
    (bcase (((i1 == 1) || (i1 == 2)) && b3)
      (CallsV Try.prog 9 #[(.int .i64 i1), (.int .i64 3)] v1 fun r v2 => ∃ (i5 : Int), r = (.int .i64 i5) ∧
        (R (.tuple #[(.int .i64 i5), (.bool true)]) v2))
      (R (.tuple #[(.int .i64 i1), (.bool ((i1 == 1) || (i1 == 2)))]) v1))
    (bcase (i2 == 3)
      (bcase (((i1 == 1) || (i1 == 2)) || (i1 == 3))
        (R (.tuple #[(.int .i64 5), (.bool true)]) v1)
        (R (.tuple #[(.int .i64 i1), (.bool false)]) v1))
      (bcase (i2 == 8)
        (R (.tuple #[(.int .i64 i1), (.bool ((i1 == 1) || (i1 == 3)))]) v1)
        (R (.tuple #[(.int .i64 i1), (.bool true)]) v1))))) := by kernel_rfl
def F_life_Send (i1 : Int) (i2 : Int) (b3 : Bool) : Int × Bool :=
  (fun b4 => cond b4
  (cond (((i1 == 1) || (i1 == 2)) && b3)
    ((fun i5 => (i5, true)) (F_life_ended i1 3))
    ((i1, ((i1 == 1) || (i1 == 2)))))
  (cond (i2 == 3)
    (cond (((i1 == 1) || (i1 == 2)) || (i1 == 3))
      ((5, true))
      ((i1, false)))
    (cond (i2 == 8)
      ((i1, ((i1 == 1) || (i1 == 3))))
      ((i1, true))))) (F_life_carries i2)
def enc_life_Send : Int × Bool → Value
  | (i1, b2) => (.tuple #[(.int .i64 i1), (.bool b2)])
theorem c_life_Send (i1 : Int) (i2 : Int) (b3 : Bool) (v : World) : CallsV Try.prog 6 #[(.int .i64 i1), (.int .i64 i2), (.bool b3)] v fun r v' => r = enc_life_Send (F_life_Send i1 i2 b3) ∧ Ext v v' := by
  refine fn_sound (E := E) (A := []) Try.func6 ?_
  rw [t_life_Send]
  obtain ⟨z, hz⟩ : ∃ z, z = F_life_Send i1 i2 b3 := ⟨_, rfl⟩
  rw [← hz]
  unfold F_life_Send at hz
  refine (c_life_carries i2 _).mono ?_
  rintro r v1 ⟨rfl, hx⟩
  have e_v1 := (Ext.refl v).trans hx; clear hx
  obtain ⟨b4, hq_v1⟩ : ∃ q, F_life_carries i2 = q := ⟨_, rfl⟩
  rw [hq_v1] at hz ⊢
  refine ⟨b4, rfl, ?_⟩
  refine bcase_of (fun h => ?_) (fun h => ?_)
  · have hz := cond_t h hz; clear h
    refine bcase_of (fun h => ?_) (fun h => ?_)
    · have hz := cond_t h hz; clear h
      refine (c_life_ended i1 3 _).mono ?_
      rintro r v2 ⟨rfl, hx⟩
      have e_v2 := e_v1.trans hx; clear hx
      obtain ⟨i5, hq_v2⟩ : ∃ q, F_life_ended i1 3 = q := ⟨_, rfl⟩
      rw [hq_v2] at hz ⊢
      refine ⟨i5, rfl, ?_⟩
      exact ⟨by subst hz; rfl, e_v2⟩
    · have hz := cond_f h hz; clear h
      exact ⟨by subst hz; rfl, e_v1⟩
  · have hz := cond_f h hz; clear h
    refine bcase_of (fun h => ?_) (fun h => ?_)
    · have hz := cond_t h hz; clear h
      refine bcase_of (fun h => ?_) (fun h => ?_)
      · have hz := cond_t h hz; clear h
        exact ⟨by subst hz; rfl, e_v1⟩
      · have hz := cond_f h hz; clear h
        exact ⟨by subst hz; rfl, e_v1⟩
    · have hz := cond_f h hz; clear h
      refine bcase_of (fun h => ?_) (fun h => ?_)
      · have hz := cond_t h hz; clear h
        exact ⟨by subst hz; rfl, e_v1⟩
      · have hz := cond_f h hz; clear h
        exact ⟨by subst hz; rfl, e_v1⟩
theorem t_wlvlaw14_LifeIdle (i1 : Int) (b2 : Bool) (v : World) (R : Value → World → Prop) : vcFn E [] Try.f3 [(.int .i64 i1), (.bool b2)] v R =
  (CallsV Try.prog 4 #[] v fun r v1 => ∃ (b3 : Bool), r = (.bool b3) ∧
  (bcase (!b3)
    (R (.bool false) v1)
    (bcase ((decide (i1 < 0)) || (decide (i1 > 9)))
      (CallsV Try.prog 5 #[(.int .i64 1), (.int .i64 i1), (.bool b2)] v1 fun r v2 => ∃ (i4 : Int) (b5 : Bool) (b6 : Bool) (i7 : Int), r = (.tuple #[(.int .i64 i4), (.agg #[(.bool b5), (.bool b6), (.int .i64 i7)])]) ∧
        (CallsV Try.prog 4 #[] (hv v2) fun r v3 => ∃ (b8 : Bool), r = (.bool b8) ∧
          (R (.bool ((b8 && (i4 == 1)) && (!b5))) v3)))
      (CallsV Try.prog 5 #[(.int .i64 0), (.int .i64 i1), (.bool b2)] v1 fun r v4 => ∃ (i9 : Int) (b10 : Bool) (b11 : Bool) (i12 : Int), r = (.tuple #[(.int .i64 i9), (.agg #[(.bool b10), (.bool b11), (.int .i64 i12)])]) ∧
        (CallsV Try.prog 5 #[(.int .i64 4), (.int .i64 i1), (.bool b2)] (hv v4) fun r v5 => ∃ (i13 : Int) (b14 : Bool) (b15 : Bool) (i16 : Int), r = (.tuple #[(.int .i64 i13), (.agg #[(.bool b14), (.bool b15), (.int .i64 i16)])]) ∧
          (CallsV Try.prog 5 #[(.int .i64 5), (.int .i64 i1), (.bool b2)] (hv v5) fun r v6 => ∃ (i17 : Int) (b18 : Bool) (b19 : Bool) (i20 : Int), r = (.tuple #[(.int .i64 i17), (.agg #[(.bool b18), (.bool b19), (.int .i64 i20)])]) ∧
            (CallsV Try.prog 5 #[(.int .i64 2), (.int .i64 i1), (.bool b2)] (hv v6) fun r v7 => ∃ (i21 : Int) (b22 : Bool) (b23 : Bool) (i24 : Int), r = (.tuple #[(.int .i64 i21), (.agg #[(.bool b22), (.bool b23), (.int .i64 i24)])]) ∧
              (CallsV Try.prog 6 #[(.int .i64 0), (.int .i64 i1), (.bool b2)] (hv v7) fun r v8 => ∃ (i25 : Int) (b26 : Bool), r = (.tuple #[(.int .i64 i25), (.bool b26)]) ∧
                (CallsV Try.prog 6 #[(.int .i64 4), (.int .i64 i1), (.bool b2)] v8 fun r v9 => ∃ (i27 : Int) (b28 : Bool), r = (.tuple #[(.int .i64 i27), (.bool b28)]) ∧
                  (CallsV Try.prog 4 #[] v9 fun r v10 => ∃ (b29 : Bool), r = (.bool b29) ∧
                    (bcase b29
                      (bcase ((b10 == (((((((i1 == 0) || (i1 == 1)) || (i1 == 2)) || (i1 == 3)) || (i1 == 8)) && (i1 != 1)) && (i1 != 2))) && (b14 == ((i1 == 0) || (i1 == 1))))
                        (bcase (!((i1 == 0) || (i1 == 1)))
                          (bcase ((!b18) && (b22 == ((i1 == 0) || (i1 == 1))))
                            (bcase (!((i1 == 0) || (i1 == 1)))
                              (R (.bool ((b26 == (!((((i1 == 0) || (i1 == 1)) || (i1 == 3)) || (i1 == 8)))) && (b28 == (!((((i1 == 0) || (i1 == 1)) || (i1 == 3)) || (i1 == 8)))))) v10)
                              (R (.bool ((((!b23) && (i24 == 5)) && (b26 == (!((((i1 == 0) || (i1 == 1)) || (i1 == 3)) || (i1 == 8))))) && (b28 == (!((((i1 == 0) || (i1 == 1)) || (i1 == 3)) || (i1 == 8)))))) v10))
                            (R (.bool false) v10))
                          (bcase (((b15 && (i16 == 5)) && (!b18)) && (b22 == ((i1 == 0) || (i1 == 1))))
                            (bcase (!((i1 == 0) || (i1 == 1)))
                              (R (.bool ((b26 == (!((((i1 == 0) || (i1 == 1)) || (i1 == 3)) || (i1 == 8)))) && (b28 == (!((((i1 == 0) || (i1 == 1)) || (i1 == 3)) || (i1 == 8)))))) v10)
                              (R (.bool ((((!b23) && (i24 == 5)) && (b26 == (!((((i1 == 0) || (i1 == 1)) || (i1 == 3)) || (i1 == 8))))) && (b28 == (!((((i1 == 0) || (i1 == 1)) || (i1 == 3)) || (i1 == 8)))))) v10))
                            (R (.bool false) v10)))
                        (R (.bool false) v10))
                      (R (.bool false) v10)))))))))))) := by kernel_rfl
def F_wlvlaw14_LifeIdle (i1 : Int) (b2 : Bool) : Bool :=
  (fun b3 => cond (!b3)
  (false)
  (cond ((decide (i1 < 0)) || (decide (i1 > 9)))
    (match F_life_Recv 1 i1 b2 with
      | (i4, b5, b6, i7) =>
          (fun b8 => ((b8 && (i4 == 1)) && (!b5))) (F_wlvlaw14_first ))
    (match F_life_Recv 0 i1 b2 with
      | (i9, b10, b11, i12) =>
          match F_life_Recv 4 i1 b2 with
            | (i13, b14, b15, i16) =>
                match F_life_Recv 5 i1 b2 with
                  | (i17, b18, b19, i20) =>
                      match F_life_Recv 2 i1 b2 with
                        | (i21, b22, b23, i24) =>
                            match F_life_Send 0 i1 b2 with
                              | (i25, b26) =>
                                  match F_life_Send 4 i1 b2 with
                                    | (i27, b28) =>
                                        (fun b29 => cond b29
                                          (cond ((b10 == (((((((i1 == 0) || (i1 == 1)) || (i1 == 2)) || (i1 == 3)) || (i1 == 8)) && (i1 != 1)) && (i1 != 2))) && (b14 == ((i1 == 0) || (i1 == 1))))
                                            (cond (!((i1 == 0) || (i1 == 1)))
                                              (cond ((!b18) && (b22 == ((i1 == 0) || (i1 == 1))))
                                                (cond (!((i1 == 0) || (i1 == 1)))
                                                  (((b26 == (!((((i1 == 0) || (i1 == 1)) || (i1 == 3)) || (i1 == 8)))) && (b28 == (!((((i1 == 0) || (i1 == 1)) || (i1 == 3)) || (i1 == 8))))))
                                                  (((((!b23) && (i24 == 5)) && (b26 == (!((((i1 == 0) || (i1 == 1)) || (i1 == 3)) || (i1 == 8))))) && (b28 == (!((((i1 == 0) || (i1 == 1)) || (i1 == 3)) || (i1 == 8)))))))
                                                (false))
                                              (cond (((b15 && (i16 == 5)) && (!b18)) && (b22 == ((i1 == 0) || (i1 == 1))))
                                                (cond (!((i1 == 0) || (i1 == 1)))
                                                  (((b26 == (!((((i1 == 0) || (i1 == 1)) || (i1 == 3)) || (i1 == 8)))) && (b28 == (!((((i1 == 0) || (i1 == 1)) || (i1 == 3)) || (i1 == 8))))))
                                                  (((((!b23) && (i24 == 5)) && (b26 == (!((((i1 == 0) || (i1 == 1)) || (i1 == 3)) || (i1 == 8))))) && (b28 == (!((((i1 == 0) || (i1 == 1)) || (i1 == 3)) || (i1 == 8)))))))
                                                (false)))
                                            (false))
                                          (false)) (F_wlvlaw14_first )))) (F_wlvlaw14_first )
def enc_wlvlaw14_LifeIdle : Bool → Value
  | b1 => (.bool b1)
theorem c_wlvlaw14_LifeIdle (i1 : Int) (b2 : Bool) (v : World) : CallsV Try.prog 3 #[(.int .i64 i1), (.bool b2)] v fun r v' => r = enc_wlvlaw14_LifeIdle (F_wlvlaw14_LifeIdle i1 b2) ∧ Ext v v' := by
  refine fn_sound (E := E) (A := []) Try.func3 ?_
  rw [t_wlvlaw14_LifeIdle]
  obtain ⟨z, hz⟩ : ∃ z, z = F_wlvlaw14_LifeIdle i1 b2 := ⟨_, rfl⟩
  rw [← hz]
  unfold F_wlvlaw14_LifeIdle at hz
  refine (c_wlvlaw14_first  _).mono ?_
  rintro r v1 ⟨rfl, hx⟩
  have e_v1 := (Ext.refl v).trans hx; clear hx
  obtain ⟨b3, hq_v1⟩ : ∃ q, F_wlvlaw14_first  = q := ⟨_, rfl⟩
  rw [hq_v1] at hz ⊢
  refine ⟨b3, rfl, ?_⟩
  refine bcase_of (fun h => ?_) (fun h => ?_)
  · have hz := cond_t h hz; clear h
    exact ⟨by subst hz; rfl, e_v1⟩
  · have hz := cond_f h hz; clear h
    refine bcase_of (fun h => ?_) (fun h => ?_)
    · have hz := cond_t h hz; clear h
      refine (c_life_Recv 1 i1 b2 _).mono ?_
      rintro r v2 ⟨rfl, hx⟩
      have e_v2 := e_v1.trans hx; clear hx
      obtain ⟨⟨i4, b5, b6, i7⟩, hq_v2⟩ : ∃ q, F_life_Recv 1 i1 b2 = q := ⟨_, rfl⟩
      rw [hq_v2] at hz ⊢
      refine ⟨i4, b5, b6, i7, rfl, ?_⟩
      refine (c_wlvlaw14_first  _).mono ?_
      rintro r v3 ⟨rfl, hx⟩
      have e_v3 := e_v2.hv.trans hx; clear hx
      rw [hq_v1]
      refine ⟨b3, rfl, ?_⟩
      exact ⟨by subst hz; rfl, e_v3⟩
    · have hz := cond_f h hz; clear h
      refine (c_life_Recv 0 i1 b2 _).mono ?_
      rintro r v4 ⟨rfl, hx⟩
      have e_v4 := e_v1.trans hx; clear hx
      obtain ⟨⟨i9, b10, b11, i12⟩, hq_v4⟩ : ∃ q, F_life_Recv 0 i1 b2 = q := ⟨_, rfl⟩
      rw [hq_v4] at hz ⊢
      refine ⟨i9, b10, b11, i12, rfl, ?_⟩
      refine (c_life_Recv 4 i1 b2 _).mono ?_
      rintro r v5 ⟨rfl, hx⟩
      have e_v5 := e_v4.hv.trans hx; clear hx
      obtain ⟨⟨i13, b14, b15, i16⟩, hq_v5⟩ : ∃ q, F_life_Recv 4 i1 b2 = q := ⟨_, rfl⟩
      rw [hq_v5] at hz ⊢
      refine ⟨i13, b14, b15, i16, rfl, ?_⟩
      refine (c_life_Recv 5 i1 b2 _).mono ?_
      rintro r v6 ⟨rfl, hx⟩
      have e_v6 := e_v5.hv.trans hx; clear hx
      obtain ⟨⟨i17, b18, b19, i20⟩, hq_v6⟩ : ∃ q, F_life_Recv 5 i1 b2 = q := ⟨_, rfl⟩
      rw [hq_v6] at hz ⊢
      refine ⟨i17, b18, b19, i20, rfl, ?_⟩
      refine (c_life_Recv 2 i1 b2 _).mono ?_
      rintro r v7 ⟨rfl, hx⟩
      have e_v7 := e_v6.hv.trans hx; clear hx
      obtain ⟨⟨i21, b22, b23, i24⟩, hq_v7⟩ : ∃ q, F_life_Recv 2 i1 b2 = q := ⟨_, rfl⟩
      rw [hq_v7] at hz ⊢
      refine ⟨i21, b22, b23, i24, rfl, ?_⟩
      refine (c_life_Send 0 i1 b2 _).mono ?_
      rintro r v8 ⟨rfl, hx⟩
      have e_v8 := e_v7.hv.trans hx; clear hx
      obtain ⟨⟨i25, b26⟩, hq_v8⟩ : ∃ q, F_life_Send 0 i1 b2 = q := ⟨_, rfl⟩
      rw [hq_v8] at hz ⊢
      refine ⟨i25, b26, rfl, ?_⟩
      refine (c_life_Send 4 i1 b2 _).mono ?_
      rintro r v9 ⟨rfl, hx⟩
      have e_v9 := e_v8.trans hx; clear hx
      obtain ⟨⟨i27, b28⟩, hq_v9⟩ : ∃ q, F_life_Send 4 i1 b2 = q := ⟨_, rfl⟩
      rw [hq_v9] at hz ⊢
      refine ⟨i27, b28, rfl, ?_⟩
      refine (c_wlvlaw14_first  _).mono ?_
      rintro r v10 ⟨rfl, hx⟩
      have e_v10 := e_v9.trans hx; clear hx
      rw [hq_v1]
      refine ⟨b3, rfl, ?_⟩
      refine bcase_of (fun h => ?_) (fun h => ?_)
      · have hz := cond_t h hz; clear h
        refine bcase_of (fun h => ?_) (fun h => ?_)
        · have hz := cond_t h hz; clear h
          refine bcase_of (fun h => ?_) (fun h => ?_)
          · have hz := cond_t h hz; clear h
            refine bcase_of (fun h => ?_) (fun h => ?_)
            · have hz := cond_t h hz; clear h
              refine bcase_of (fun h => ?_) (fun h => ?_)
              · have hz := cond_t h hz; clear h
                exact ⟨by subst hz; rfl, e_v10⟩
              · have hz := cond_f h hz; clear h
                exact ⟨by subst hz; rfl, e_v10⟩
            · have hz := cond_f h hz; clear h
              exact ⟨by subst hz; rfl, e_v10⟩
          · have hz := cond_f h hz; clear h
            refine bcase_of (fun h => ?_) (fun h => ?_)
            · have hz := cond_t h hz; clear h
              refine bcase_of (fun h => ?_) (fun h => ?_)
              · have hz := cond_t h hz; clear h
                exact ⟨by subst hz; rfl, e_v10⟩
              · have hz := cond_f h hz; clear h
                exact ⟨by subst hz; rfl, e_v10⟩
            · have hz := cond_f h hz; clear h
              exact ⟨by subst hz; rfl, e_v10⟩
        · have hz := cond_f h hz; clear h
          exact ⟨by subst hz; rfl, e_v10⟩
      · have hz := cond_f h hz; clear h
        exact ⟨by subst hz; rfl, e_v10⟩
end Go.Proofs.Ytnlekdpnjphmfab
