/- The functions of the program as Lean functions, written by a program of ours and held by the kernel. -/
import Derived.Test.YthfidckfnddgbaaProg
import Derived.Test.YthfidckfnddgbaaPw
import Derived.KernelRfl
import Derived.Laws.Bits
namespace Go.Proofs.Ythfidckfnddgbaa
open Pv
set_option linter.unusedVariables false
noncomputable def F_life_carries (i1 : Int) : Option (Bool) :=
  some ((i1 == 0) || (i1 == 1))
def F_life_carries_sig : Sig := ⟨[.v false [.d (.int .i64)]], [(false, [.d .bool])]⟩
def F_life_carries_ann : List (Nat × Ann) := []
noncomputable def F_life_carries_env : Env := ⟨Try.prog, []⟩
set_option maxRecDepth 100000 in
theorem F_life_carries_text : pvFn F_life_carries_env F_life_carries_ann Try.f7 F_life_carries_sig = F_life_carries := by kernel_rfl
noncomputable def F_life_ended (i1 : Int) (i2 : Int) : Option (Int) :=
  cond (i1 == 1)
  (some i2)
  (some 4)
def F_life_ended_sig : Sig := ⟨[.v false [.d (.int .i64)], .v false [.d (.int .i64)]], [(false, [.d (.int .i64)])]⟩
def F_life_ended_ann : List (Nat × Ann) := []
noncomputable def F_life_ended_env : Env := ⟨Try.prog, []⟩
set_option maxRecDepth 100000 in
theorem F_life_ended_text : pvFn F_life_ended_env F_life_ended_ann Try.f8 F_life_ended_sig = F_life_ended := by kernel_rfl
noncomputable def F_life_fault (i1 : Int) (b2 : Bool) : Option (Bool × Bool × Int) :=
  some (true, b2, i1)
def F_life_fault_sig : Sig := ⟨[.v false [.d (.int .i64)], .v false [.d .bool]], [(true, [.d .bool, .d .bool, .d (.int .i64)])]⟩
def F_life_fault_ann : List (Nat × Ann) := []
noncomputable def F_life_fault_env : Env := ⟨Try.prog, []⟩
set_option maxRecDepth 100000 in
theorem F_life_fault_text : pvFn F_life_fault_env F_life_fault_ann Try.f9 F_life_fault_sig = F_life_fault := by kernel_rfl
noncomputable def F_life_Recv (i1 : Int) (i2 : Int) (b3 : Bool) : Option (Int × Bool × Bool × Int) :=
  cond (((i2 != 2) && (i2 != 3)) && (i2 != 8))
  ((F_life_carries i2).bind fun b4 =>
    cond (!b4)
    (some (i1, false, false, 0))
    (cond (i1 == 0)
      (cond (i2 == 2)
        (some (0, false, false, 0))
        (cond (i2 != 1)
          ((F_life_fault 1 true).bind fun x5 =>
            some (0, x5.1, x5.2.1, x5.2.2))
          (cond b3
            (some (2, false, false, 0))
            (some (1, false, false, 0)))))
      (cond (i1 == 1)
        (cond (i1 == 1)
          (cond (i2 == 3)
            (some (4, false, false, 0))
            ((F_life_carries i2).bind fun b6 =>
              cond (b6 && b3)
              ((F_life_ended i1 2).bind fun i7 =>
                some (i7, false, false, 0))
              (some (i1, false, false, 0))))
          (cond (i1 == 2)
            (cond (i2 == 3)
              (some (4, false, false, 0))
              ((F_life_carries i2).bind fun b8 =>
                cond b8
                ((F_life_fault 5 false).bind fun x9 =>
                  some (2, x9.1, x9.2.1, x9.2.2))
                (some (2, false, false, 0))))
            (cond (i1 == 4)
              ((F_life_carries i2).bind fun b10 =>
                cond b10
                ((F_life_fault 5 true).bind fun x11 =>
                  some (4, x11.1, x11.2.1, x11.2.2))
                (some (4, false, false, 0)))
              (cond (i1 == 5)
                (some (5, false, false, 0))
                ((F_life_fault 1 true).bind fun x12 =>
                  some (i1, x12.1, x12.2.1, x12.2.2))))))
        (cond (i1 == 3)
          (cond (i2 == 3)
            (some (4, false, false, 0))
            ((F_life_carries i2).bind fun b13 =>
              cond (b13 && b3)
              ((F_life_ended i1 2).bind fun i14 =>
                some (i14, false, false, 0))
              (some (i1, false, false, 0))))
          (cond (i1 == 2)
            (cond (i2 == 3)
              (some (4, false, false, 0))
              ((F_life_carries i2).bind fun b15 =>
                cond b15
                ((F_life_fault 5 false).bind fun x16 =>
                  some (2, x16.1, x16.2.1, x16.2.2))
                (some (2, false, false, 0))))
            (cond (i1 == 4)
              ((F_life_carries i2).bind fun b17 =>
                cond b17
                ((F_life_fault 5 true).bind fun x18 =>
                  some (4, x18.1, x18.2.1, x18.2.2))
                (some (4, false, false, 0)))
              (cond (i1 == 5)
                (some (5, false, false, 0))
                ((F_life_fault 1 true).bind fun x19 =>
                  some (i1, x19.1, x19.2.1, x19.2.2)))))))))
  (cond (i1 == 0)
    (cond (i2 == 2)
      (some (0, false, false, 0))
      (cond (i2 != 1)
        ((F_life_fault 1 true).bind fun x20 =>
          some (0, x20.1, x20.2.1, x20.2.2))
        (cond b3
          (some (2, false, false, 0))
          (some (1, false, false, 0)))))
    (cond (i1 == 1)
      (cond (i1 == 1)
        (cond (i2 == 3)
          (some (4, false, false, 0))
          ((F_life_carries i2).bind fun b21 =>
            cond (b21 && b3)
            ((F_life_ended i1 2).bind fun i22 =>
              some (i22, false, false, 0))
            (some (i1, false, false, 0))))
        (cond (i1 == 2)
          (cond (i2 == 3)
            (some (4, false, false, 0))
            ((F_life_carries i2).bind fun b23 =>
              cond b23
              ((F_life_fault 5 false).bind fun x24 =>
                some (2, x24.1, x24.2.1, x24.2.2))
              (some (2, false, false, 0))))
          (cond (i1 == 4)
            ((F_life_carries i2).bind fun b25 =>
              cond b25
              ((F_life_fault 5 true).bind fun x26 =>
                some (4, x26.1, x26.2.1, x26.2.2))
              (some (4, false, false, 0)))
            (cond (i1 == 5)
              (some (5, false, false, 0))
              ((F_life_fault 1 true).bind fun x27 =>
                some (i1, x27.1, x27.2.1, x27.2.2))))))
      (cond (i1 == 3)
        (cond (i2 == 3)
          (some (4, false, false, 0))
          ((F_life_carries i2).bind fun b28 =>
            cond (b28 && b3)
            ((F_life_ended i1 2).bind fun i29 =>
              some (i29, false, false, 0))
            (some (i1, false, false, 0))))
        (cond (i1 == 2)
          (cond (i2 == 3)
            (some (4, false, false, 0))
            ((F_life_carries i2).bind fun b30 =>
              cond b30
              ((F_life_fault 5 false).bind fun x31 =>
                some (2, x31.1, x31.2.1, x31.2.2))
              (some (2, false, false, 0))))
          (cond (i1 == 4)
            ((F_life_carries i2).bind fun b32 =>
              cond b32
              ((F_life_fault 5 true).bind fun x33 =>
                some (4, x33.1, x33.2.1, x33.2.2))
              (some (4, false, false, 0)))
            (cond (i1 == 5)
              (some (5, false, false, 0))
              ((F_life_fault 1 true).bind fun x34 =>
                some (i1, x34.1, x34.2.1, x34.2.2))))))))
def F_life_Recv_sig : Sig := ⟨[.v false [.d (.int .i64)], .v false [.d (.int .i64)], .v false [.d .bool]], [(false, [.d (.int .i64)]), (true, [.d .bool, .d .bool, .d (.int .i64)])]⟩
def F_life_Recv_ann : List (Nat × Ann) := []
noncomputable def F_life_Recv_env : Env := ⟨Try.prog, [(7, ⟨F_life_carries_sig, ⟨F_life_carries⟩⟩), (8, ⟨F_life_ended_sig, ⟨F_life_ended⟩⟩), (9, ⟨F_life_fault_sig, ⟨F_life_fault⟩⟩)]⟩
set_option maxRecDepth 100000 in
theorem F_life_Recv_text : pvFn F_life_Recv_env F_life_Recv_ann Try.f6 F_life_Recv_sig = F_life_Recv := by kernel_rfl
noncomputable def F_wlvlaw14_first : Option (Bool) :=
  (F_life_Recv 0 0 false).bind fun x1 =>
  cond (x1.1 == 0)
  (cond x1.2.1
    (cond x1.2.2.1
      (some (x1.2.2.2 == 1))
      (some false))
    (some false))
  (some false)
def F_wlvlaw14_first_sig : Sig := ⟨[], [(false, [.d .bool])]⟩
def F_wlvlaw14_first_ann : List (Nat × Ann) := []
noncomputable def F_wlvlaw14_first_env : Env := ⟨Try.prog, [(6, ⟨F_life_Recv_sig, ⟨F_life_Recv⟩⟩)]⟩
set_option maxRecDepth 100000 in
theorem F_wlvlaw14_first_text : pvFn F_wlvlaw14_first_env F_wlvlaw14_first_ann Try.f4 F_wlvlaw14_first_sig = F_wlvlaw14_first := by kernel_rfl
noncomputable def F_life_Send (i1 : Int) (i2 : Int) (b3 : Bool) : Option (Int × Bool) :=
  (F_life_carries i2).bind fun b4 =>
  cond b4
  (cond (((i1 == 1) || (i1 == 2)) && b3)
    ((F_life_ended i1 3).bind fun i5 =>
      some (i5, true))
    (some (i1, ((i1 == 1) || (i1 == 2)))))
  (cond (i2 == 3)
    (cond (((i1 == 1) || (i1 == 2)) || (i1 == 3))
      (some (5, true))
      (some (i1, false)))
    (cond (i2 == 8)
      (some (i1, ((i1 == 1) || (i1 == 3))))
      (some (i1, true))))
def F_life_Send_sig : Sig := ⟨[.v false [.d (.int .i64)], .v false [.d (.int .i64)], .v false [.d .bool]], [(false, [.d (.int .i64)]), (false, [.d .bool])]⟩
def F_life_Send_ann : List (Nat × Ann) := []
noncomputable def F_life_Send_env : Env := ⟨Try.prog, [(7, ⟨F_life_carries_sig, ⟨F_life_carries⟩⟩), (8, ⟨F_life_ended_sig, ⟨F_life_ended⟩⟩)]⟩
set_option maxRecDepth 100000 in
theorem F_life_Send_text : pvFn F_life_Send_env F_life_Send_ann Try.f5 F_life_Send_sig = F_life_Send := by kernel_rfl
noncomputable def F_wlvlaw14_LifeEnds_L11 (l1 : List Int) (s : Int × Bool × Bool × Bool × Int) : Option (((Bool) ⊕ (Unit)) ⊕ (Int × Bool × Bool × Bool × Int)) :=
  let i4 := s.1; let b5 := s.2.1; let b6 := s.2.2.1; let b7 := s.2.2.2.1; let i8 := s.2.2.2.2
  cond (decide (i8 < (l1.length : Int)))
  ((getI l1 i8).bind fun i9 =>
    cond (decide (i9 < 0))
    ((F_wlvlaw14_first).bind fun b10 =>
      some (.inl (.inl b10)))
    ((getI l1 i8).bind fun i11 =>
      (getI ([0, 1, 3, 8, 2] : List Int) (Int.tmod i11 5)).bind fun i12 =>
      (getI l1 i8).bind fun i13 =>
      (getI l1 i8).bind fun i14 =>
      cond ((Int.tmod (IntKind.i64.wrap (Int.tdiv i13 5)) 2) == 1)
      ((F_life_Send i4 i12 ((Int.tmod (IntKind.i64.wrap (Int.tdiv i14 10)) 2) == 1)).bind fun x15 =>
        cond (((i12 == 0) || (i12 == 1)) && x15.2)
        (cond ((b6 || b7) || (i4 == 0))
          (some (.inl (.inl false)))
          (cond ((!x15.2) && (x15.1 != i4))
            (some (.inl (.inl false)))
            (cond b6
              (cond b7
                (cond (((i4 == 4) || (i4 == 5)) && (x15.1 != i4))
                  (cond true
                    (some (.inl (.inl false)))
                    (cond (((b5 && true) && (x15.1 != 4)) && (x15.1 != 5))
                      (some (.inl (.inl false)))
                      (some (.inr (x15.1, b5, true, true, (IntKind.i64.wrap (i8 + 1)))))))
                  (cond ((i4 != 0) && (x15.1 == 0))
                    (some (.inl (.inl false)))
                    (cond (((b5 && true) && (x15.1 != 4)) && (x15.1 != 5))
                      (some (.inl (.inl false)))
                      (some (.inr (x15.1, b5, true, true, (IntKind.i64.wrap (i8 + 1))))))))
                (cond (((i4 == 4) || (i4 == 5)) && (x15.1 != i4))
                  (cond true
                    (some (.inl (.inl false)))
                    (cond (((b5 && true) && (x15.1 != 4)) && (x15.1 != 5))
                      (some (.inl (.inl false)))
                      (some (.inr (x15.1, b5, true, ((i12 == 3) && x15.2), (IntKind.i64.wrap (i8 + 1)))))))
                  (cond ((i4 != 0) && (x15.1 == 0))
                    (some (.inl (.inl false)))
                    (cond (((b5 && true) && (x15.1 != 4)) && (x15.1 != 5))
                      (some (.inl (.inl false)))
                      (some (.inr (x15.1, b5, true, ((i12 == 3) && x15.2), (IntKind.i64.wrap (i8 + 1)))))))))
              (cond b7
                (cond (((i4 == 4) || (i4 == 5)) && (x15.1 != i4))
                  (cond true
                    (some (.inl (.inl false)))
                    (cond (((b5 && ((((i12 == 0) || (i12 == 1)) && x15.2) && ((Int.tmod (IntKind.i64.wrap (Int.tdiv i14 10)) 2) == 1))) && (x15.1 != 4)) && (x15.1 != 5))
                      (some (.inl (.inl false)))
                      (some (.inr (x15.1, b5, ((((i12 == 0) || (i12 == 1)) && x15.2) && ((Int.tmod (IntKind.i64.wrap (Int.tdiv i14 10)) 2) == 1)), true, (IntKind.i64.wrap (i8 + 1)))))))
                  (cond ((i4 != 0) && (x15.1 == 0))
                    (some (.inl (.inl false)))
                    (cond (((b5 && ((((i12 == 0) || (i12 == 1)) && x15.2) && ((Int.tmod (IntKind.i64.wrap (Int.tdiv i14 10)) 2) == 1))) && (x15.1 != 4)) && (x15.1 != 5))
                      (some (.inl (.inl false)))
                      (some (.inr (x15.1, b5, ((((i12 == 0) || (i12 == 1)) && x15.2) && ((Int.tmod (IntKind.i64.wrap (Int.tdiv i14 10)) 2) == 1)), true, (IntKind.i64.wrap (i8 + 1))))))))
                (cond (((i4 == 4) || (i4 == 5)) && (x15.1 != i4))
                  (cond true
                    (some (.inl (.inl false)))
                    (cond (((b5 && ((((i12 == 0) || (i12 == 1)) && x15.2) && ((Int.tmod (IntKind.i64.wrap (Int.tdiv i14 10)) 2) == 1))) && (x15.1 != 4)) && (x15.1 != 5))
                      (some (.inl (.inl false)))
                      (some (.inr (x15.1, b5, ((((i12 == 0) || (i12 == 1)) && x15.2) && ((Int.tmod (IntKind.i64.wrap (Int.tdiv i14 10)) 2) == 1)), ((i12 == 3) && x15.2), (IntKind.i64.wrap (i8 + 1)))))))
                  (cond ((i4 != 0) && (x15.1 == 0))
                    (some (.inl (.inl false)))
                    (cond (((b5 && ((((i12 == 0) || (i12 == 1)) && x15.2) && ((Int.tmod (IntKind.i64.wrap (Int.tdiv i14 10)) 2) == 1))) && (x15.1 != 4)) && (x15.1 != 5))
                      (some (.inl (.inl false)))
                      (some (.inr (x15.1, b5, ((((i12 == 0) || (i12 == 1)) && x15.2) && ((Int.tmod (IntKind.i64.wrap (Int.tdiv i14 10)) 2) == 1)), ((i12 == 3) && x15.2), (IntKind.i64.wrap (i8 + 1))))))))))))
        (cond false
          (some (.inl (.inl false)))
          (cond ((!x15.2) && (x15.1 != i4))
            (some (.inl (.inl false)))
            (cond b6
              (cond b7
                (cond (((i4 == 4) || (i4 == 5)) && (x15.1 != i4))
                  (cond true
                    (some (.inl (.inl false)))
                    (cond (((b5 && true) && (x15.1 != 4)) && (x15.1 != 5))
                      (some (.inl (.inl false)))
                      (some (.inr (x15.1, b5, true, true, (IntKind.i64.wrap (i8 + 1)))))))
                  (cond ((i4 != 0) && (x15.1 == 0))
                    (some (.inl (.inl false)))
                    (cond (((b5 && true) && (x15.1 != 4)) && (x15.1 != 5))
                      (some (.inl (.inl false)))
                      (some (.inr (x15.1, b5, true, true, (IntKind.i64.wrap (i8 + 1))))))))
                (cond (((i4 == 4) || (i4 == 5)) && (x15.1 != i4))
                  (cond true
                    (some (.inl (.inl false)))
                    (cond (((b5 && true) && (x15.1 != 4)) && (x15.1 != 5))
                      (some (.inl (.inl false)))
                      (some (.inr (x15.1, b5, true, ((i12 == 3) && x15.2), (IntKind.i64.wrap (i8 + 1)))))))
                  (cond ((i4 != 0) && (x15.1 == 0))
                    (some (.inl (.inl false)))
                    (cond (((b5 && true) && (x15.1 != 4)) && (x15.1 != 5))
                      (some (.inl (.inl false)))
                      (some (.inr (x15.1, b5, true, ((i12 == 3) && x15.2), (IntKind.i64.wrap (i8 + 1)))))))))
              (cond b7
                (cond (((i4 == 4) || (i4 == 5)) && (x15.1 != i4))
                  (cond true
                    (some (.inl (.inl false)))
                    (cond (((b5 && ((((i12 == 0) || (i12 == 1)) && x15.2) && ((Int.tmod (IntKind.i64.wrap (Int.tdiv i14 10)) 2) == 1))) && (x15.1 != 4)) && (x15.1 != 5))
                      (some (.inl (.inl false)))
                      (some (.inr (x15.1, b5, ((((i12 == 0) || (i12 == 1)) && x15.2) && ((Int.tmod (IntKind.i64.wrap (Int.tdiv i14 10)) 2) == 1)), true, (IntKind.i64.wrap (i8 + 1)))))))
                  (cond ((i4 != 0) && (x15.1 == 0))
                    (some (.inl (.inl false)))
                    (cond (((b5 && ((((i12 == 0) || (i12 == 1)) && x15.2) && ((Int.tmod (IntKind.i64.wrap (Int.tdiv i14 10)) 2) == 1))) && (x15.1 != 4)) && (x15.1 != 5))
                      (some (.inl (.inl false)))
                      (some (.inr (x15.1, b5, ((((i12 == 0) || (i12 == 1)) && x15.2) && ((Int.tmod (IntKind.i64.wrap (Int.tdiv i14 10)) 2) == 1)), true, (IntKind.i64.wrap (i8 + 1))))))))
                (cond (((i4 == 4) || (i4 == 5)) && (x15.1 != i4))
                  (cond true
                    (some (.inl (.inl false)))
                    (cond (((b5 && ((((i12 == 0) || (i12 == 1)) && x15.2) && ((Int.tmod (IntKind.i64.wrap (Int.tdiv i14 10)) 2) == 1))) && (x15.1 != 4)) && (x15.1 != 5))
                      (some (.inl (.inl false)))
                      (some (.inr (x15.1, b5, ((((i12 == 0) || (i12 == 1)) && x15.2) && ((Int.tmod (IntKind.i64.wrap (Int.tdiv i14 10)) 2) == 1)), ((i12 == 3) && x15.2), (IntKind.i64.wrap (i8 + 1)))))))
                  (cond ((i4 != 0) && (x15.1 == 0))
                    (some (.inl (.inl false)))
                    (cond (((b5 && ((((i12 == 0) || (i12 == 1)) && x15.2) && ((Int.tmod (IntKind.i64.wrap (Int.tdiv i14 10)) 2) == 1))) && (x15.1 != 4)) && (x15.1 != 5))
                      (some (.inl (.inl false)))
                      (some (.inr (x15.1, b5, ((((i12 == 0) || (i12 == 1)) && x15.2) && ((Int.tmod (IntKind.i64.wrap (Int.tdiv i14 10)) 2) == 1)), ((i12 == 3) && x15.2), (IntKind.i64.wrap (i8 + 1)))))))))))))
      ((F_life_Recv i4 i12 ((Int.tmod (IntKind.i64.wrap (Int.tdiv i14 10)) 2) == 1)).bind fun x16 =>
        cond (x16.2.1 && (x16.1 != i4))
        (some (.inl (.inl false)))
        (cond ((i12 == 0) || (i12 == 1))
          (cond (((!x16.2.1) && b5) && (i4 != 5))
            (some (.inl (.inl false)))
            (cond b5
              (cond b7
                (cond (((i4 == 4) || (i4 == 5)) && (x16.1 != i4))
                  (cond true
                    (some (.inl (.inl false)))
                    (cond ((b6 && (x16.1 != 4)) && (x16.1 != 5))
                      (some (.inl (.inl false)))
                      (some (.inr (x16.1, true, b6, true, (IntKind.i64.wrap (i8 + 1)))))))
                  (cond ((i4 != 0) && (x16.1 == 0))
                    (some (.inl (.inl false)))
                    (cond ((b6 && (x16.1 != 4)) && (x16.1 != 5))
                      (some (.inl (.inl false)))
                      (some (.inr (x16.1, true, b6, true, (IntKind.i64.wrap (i8 + 1))))))))
                (cond (((i4 == 4) || (i4 == 5)) && (x16.1 != i4))
                  (cond true
                    (some (.inl (.inl false)))
                    (cond ((b6 && (x16.1 != 4)) && (x16.1 != 5))
                      (some (.inl (.inl false)))
                      (some (.inr (x16.1, true, b6, ((i12 == 3) && (x16.1 == 4)), (IntKind.i64.wrap (i8 + 1)))))))
                  (cond ((i4 != 0) && (x16.1 == 0))
                    (some (.inl (.inl false)))
                    (cond ((b6 && (x16.1 != 4)) && (x16.1 != 5))
                      (some (.inl (.inl false)))
                      (some (.inr (x16.1, true, b6, ((i12 == 3) && (x16.1 == 4)), (IntKind.i64.wrap (i8 + 1)))))))))
              (cond ((i12 == 0) || (i12 == 1))
                (cond b7
                  (cond (((i4 == 4) || (i4 == 5)) && (x16.1 != i4))
                    (cond true
                      (some (.inl (.inl false)))
                      (cond ((((((!x16.2.1) && ((Int.tmod (IntKind.i64.wrap (Int.tdiv i14 10)) 2) == 1)) && (i4 != 5)) && b6) && (x16.1 != 4)) && (x16.1 != 5))
                        (some (.inl (.inl false)))
                        (some (.inr (x16.1, (((!x16.2.1) && ((Int.tmod (IntKind.i64.wrap (Int.tdiv i14 10)) 2) == 1)) && (i4 != 5)), b6, true, (IntKind.i64.wrap (i8 + 1)))))))
                    (cond ((i4 != 0) && (x16.1 == 0))
                      (some (.inl (.inl false)))
                      (cond ((((((!x16.2.1) && ((Int.tmod (IntKind.i64.wrap (Int.tdiv i14 10)) 2) == 1)) && (i4 != 5)) && b6) && (x16.1 != 4)) && (x16.1 != 5))
                        (some (.inl (.inl false)))
                        (some (.inr (x16.1, (((!x16.2.1) && ((Int.tmod (IntKind.i64.wrap (Int.tdiv i14 10)) 2) == 1)) && (i4 != 5)), b6, true, (IntKind.i64.wrap (i8 + 1))))))))
                  (cond (((i4 == 4) || (i4 == 5)) && (x16.1 != i4))
                    (cond true
                      (some (.inl (.inl false)))
                      (cond ((((((!x16.2.1) && ((Int.tmod (IntKind.i64.wrap (Int.tdiv i14 10)) 2) == 1)) && (i4 != 5)) && b6) && (x16.1 != 4)) && (x16.1 != 5))
                        (some (.inl (.inl false)))
                        (some (.inr (x16.1, (((!x16.2.1) && ((Int.tmod (IntKind.i64.wrap (Int.tdiv i14 10)) 2) == 1)) && (i4 != 5)), b6, ((i12 == 3) && (x16.1 == 4)), (IntKind.i64.wrap (i8 + 1)))))))
                    (cond ((i4 != 0) && (x16.1 == 0))
                      (some (.inl (.inl false)))
                      (cond ((((((!x16.2.1) && ((Int.tmod (IntKind.i64.wrap (Int.tdiv i14 10)) 2) == 1)) && (i4 != 5)) && b6) && (x16.1 != 4)) && (x16.1 != 5))
                        (some (.inl (.inl false)))
                        (some (.inr (x16.1, (((!x16.2.1) && ((Int.tmod (IntKind.i64.wrap (Int.tdiv i14 10)) 2) == 1)) && (i4 != 5)), b6, ((i12 == 3) && (x16.1 == 4)), (IntKind.i64.wrap (i8 + 1)))))))))
                (cond b7
                  (cond (((i4 == 4) || (i4 == 5)) && (x16.1 != i4))
                    (cond true
                      (some (.inl (.inl false)))
                      (some (.inr (x16.1, false, b6, true, (IntKind.i64.wrap (i8 + 1))))))
                    (cond ((i4 != 0) && (x16.1 == 0))
                      (some (.inl (.inl false)))
                      (some (.inr (x16.1, false, b6, true, (IntKind.i64.wrap (i8 + 1)))))))
                  (cond (((i4 == 4) || (i4 == 5)) && (x16.1 != i4))
                    (cond true
                      (some (.inl (.inl false)))
                      (some (.inr (x16.1, false, b6, ((i12 == 3) && (x16.1 == 4)), (IntKind.i64.wrap (i8 + 1))))))
                    (cond ((i4 != 0) && (x16.1 == 0))
                      (some (.inl (.inl false)))
                      (some (.inr (x16.1, false, b6, ((i12 == 3) && (x16.1 == 4)), (IntKind.i64.wrap (i8 + 1)))))))))))
          (cond b5
            (cond b7
              (cond (((i4 == 4) || (i4 == 5)) && (x16.1 != i4))
                (cond true
                  (some (.inl (.inl false)))
                  (cond ((b6 && (x16.1 != 4)) && (x16.1 != 5))
                    (some (.inl (.inl false)))
                    (some (.inr (x16.1, true, b6, true, (IntKind.i64.wrap (i8 + 1)))))))
                (cond ((i4 != 0) && (x16.1 == 0))
                  (some (.inl (.inl false)))
                  (cond ((b6 && (x16.1 != 4)) && (x16.1 != 5))
                    (some (.inl (.inl false)))
                    (some (.inr (x16.1, true, b6, true, (IntKind.i64.wrap (i8 + 1))))))))
              (cond (((i4 == 4) || (i4 == 5)) && (x16.1 != i4))
                (cond true
                  (some (.inl (.inl false)))
                  (cond ((b6 && (x16.1 != 4)) && (x16.1 != 5))
                    (some (.inl (.inl false)))
                    (some (.inr (x16.1, true, b6, ((i12 == 3) && (x16.1 == 4)), (IntKind.i64.wrap (i8 + 1)))))))
                (cond ((i4 != 0) && (x16.1 == 0))
                  (some (.inl (.inl false)))
                  (cond ((b6 && (x16.1 != 4)) && (x16.1 != 5))
                    (some (.inl (.inl false)))
                    (some (.inr (x16.1, true, b6, ((i12 == 3) && (x16.1 == 4)), (IntKind.i64.wrap (i8 + 1)))))))))
            (cond ((i12 == 0) || (i12 == 1))
              (cond b7
                (cond (((i4 == 4) || (i4 == 5)) && (x16.1 != i4))
                  (cond true
                    (some (.inl (.inl false)))
                    (cond ((((((!x16.2.1) && ((Int.tmod (IntKind.i64.wrap (Int.tdiv i14 10)) 2) == 1)) && (i4 != 5)) && b6) && (x16.1 != 4)) && (x16.1 != 5))
                      (some (.inl (.inl false)))
                      (some (.inr (x16.1, (((!x16.2.1) && ((Int.tmod (IntKind.i64.wrap (Int.tdiv i14 10)) 2) == 1)) && (i4 != 5)), b6, true, (IntKind.i64.wrap (i8 + 1)))))))
                  (cond ((i4 != 0) && (x16.1 == 0))
                    (some (.inl (.inl false)))
                    (cond ((((((!x16.2.1) && ((Int.tmod (IntKind.i64.wrap (Int.tdiv i14 10)) 2) == 1)) && (i4 != 5)) && b6) && (x16.1 != 4)) && (x16.1 != 5))
                      (some (.inl (.inl false)))
                      (some (.inr (x16.1, (((!x16.2.1) && ((Int.tmod (IntKind.i64.wrap (Int.tdiv i14 10)) 2) == 1)) && (i4 != 5)), b6, true, (IntKind.i64.wrap (i8 + 1))))))))
                (cond (((i4 == 4) || (i4 == 5)) && (x16.1 != i4))
                  (cond true
                    (some (.inl (.inl false)))
                    (cond ((((((!x16.2.1) && ((Int.tmod (IntKind.i64.wrap (Int.tdiv i14 10)) 2) == 1)) && (i4 != 5)) && b6) && (x16.1 != 4)) && (x16.1 != 5))
                      (some (.inl (.inl false)))
                      (some (.inr (x16.1, (((!x16.2.1) && ((Int.tmod (IntKind.i64.wrap (Int.tdiv i14 10)) 2) == 1)) && (i4 != 5)), b6, ((i12 == 3) && (x16.1 == 4)), (IntKind.i64.wrap (i8 + 1)))))))
                  (cond ((i4 != 0) && (x16.1 == 0))
                    (some (.inl (.inl false)))
                    (cond ((((((!x16.2.1) && ((Int.tmod (IntKind.i64.wrap (Int.tdiv i14 10)) 2) == 1)) && (i4 != 5)) && b6) && (x16.1 != 4)) && (x16.1 != 5))
                      (some (.inl (.inl false)))
                      (some (.inr (x16.1, (((!x16.2.1) && ((Int.tmod (IntKind.i64.wrap (Int.tdiv i14 10)) 2) == 1)) && (i4 != 5)), b6, ((i12 == 3) && (x16.1 == 4)), (IntKind.i64.wrap (i8 + 1)))))))))
              (cond b7
                (cond (((i4 == 4) || (i4 == 5)) && (x16.1 != i4))
                  (cond true
                    (some (.inl (.inl false)))
                    (some (.inr (x16.1, false, b6, true, (IntKind.i64.wrap (i8 + 1))))))
                  (cond ((i4 != 0) && (x16.1 == 0))
                    (some (.inl (.inl false)))
                    (some (.inr (x16.1, false, b6, true, (IntKind.i64.wrap (i8 + 1)))))))
                (cond (((i4 == 4) || (i4 == 5)) && (x16.1 != i4))
                  (cond true
                    (some (.inl (.inl false)))
                    (some (.inr (x16.1, false, b6, ((i12 == 3) && (x16.1 == 4)), (IntKind.i64.wrap (i8 + 1))))))
                  (cond ((i4 != 0) && (x16.1 == 0))
                    (some (.inl (.inl false)))
                    (some (.inr (x16.1, false, b6, ((i12 == 3) && (x16.1 == 4)), (IntKind.i64.wrap (i8 + 1))))))))))))))
  (some (.inl (.inr ())))
noncomputable def F_wlvlaw14_LifeEnds_J9 (s : Unit) : Option (Bool) :=
  (F_wlvlaw14_first).bind fun b17 =>
  some b17
noncomputable def F_wlvlaw14_LifeEnds (l1 : List Int) : Option (Bool) :=
  (F_wlvlaw14_first).bind fun b2 =>
  cond (!b2)
  (some false)
  (cond (decide ((l1.length : Int) > 300))
    ((F_wlvlaw14_first).bind fun b3 =>
      some b3)
    (joinC (S := Unit) (R := Bool)
      (loopC (S := Int × Bool × Bool × Bool × Int) (R := (Bool) ⊕ (Unit)) (F_wlvlaw14_LifeEnds_L11 l1) (0, false, false, false, 0))
      (F_wlvlaw14_LifeEnds_J9)))
def F_wlvlaw14_LifeEnds_sig : Sig := ⟨[.v false [.d (.sl (.int .i64))]], [(false, [.d .bool])]⟩
def F_wlvlaw14_LifeEnds_ann : List (Nat × Ann) := [(9, ⟨10, [], [], [2, 3, 4, 5, 6, 7, 8, 9, 10, 11, 12, 13, 14, 15, 16, 23, 24, 25, 26, 27, 28, 29, 30, 31, 32, 33, 34, 35, 36, 37, 38, 39, 40, 41, 42, 43, 44, 45, 46, 47, 48, 49, 50, 51, 52, 53, 54, 55, 56, 57, 58, 59, 60, 61, 62, 63, 64, 65, 66, 67, 68, 69, 70, 71, 72, 73, 74, 75, 76, 77, 78, 79, 80, 81, 82, 83, 84, 85, 86, 87, 88, 89, 90, 91, 92, 93, 94, 95, 96, 97, 98, 99, 100, 101, 102, 103, 104, 105, 106, 107, 108, 109, 110, 111, 112, 113, 114, 115, 116, 117, 118, 119, 120, 121, 122, 123, 124, 125, 126, 127, 128, 129, 130, 131, 132, 133, 134, 135, 136, 137, 138, 139, 140, 141, 142, 143, 144, 145, 146, 147, 148, 149, 150, 151, 152, 153, 154, 155, 156, 157, 158, 159, 160, 161, 162, 163, 164, 165, 166, 167, 168, 169, 170, 171, 172, 173, 174, 175, 176, 177, 178, 179, 180, 181, 182, 183, 184, 185, 186, 187, 188, 189, 190, 191, 192, 193, 194, 195, 196, 197, 198, 199, 200, 201], []⟩), (11, ⟨12, [(3, false, [.d (.int .i64)]), (4, false, [.d .bool]), (5, false, [.d .bool]), (6, false, [.d .bool]), (7, false, [.d (.int .i64)])], [], [2, 8, 9, 10, 11, 12, 13, 14, 15, 16, 23, 24, 25, 26, 27, 28, 29, 30, 31, 32, 33, 34, 35, 36, 37, 38, 39, 40, 41, 42, 43, 44, 45, 46, 47, 48, 49, 50, 51, 52, 53, 54, 55, 56, 57, 58, 59, 60, 61, 62, 63, 64, 65, 66, 67, 68, 69, 70, 71, 72, 73, 74, 75, 76, 77, 78, 79, 80, 81, 82, 83, 84, 85, 86, 87, 88, 89, 90, 91, 92, 93, 94, 95, 96, 97, 98, 99, 100, 101, 102, 103, 104, 105, 106, 107, 108, 109, 110, 111, 112, 113, 114, 115, 116, 117, 118, 119, 120, 121, 122, 123, 124, 125, 126, 127, 128, 129, 130, 131, 132, 133, 134, 135, 136, 137, 138, 139, 140, 141, 142, 143, 144, 145, 146, 147, 148, 149, 150, 151, 152, 153, 154, 155, 156, 157, 158, 159, 160, 161, 162, 163, 164, 165, 166, 167, 168, 169, 170, 171, 172, 173, 174, 175, 176, 177, 178, 179, 180, 181, 182, 183, 184, 185, 186, 187, 188, 189, 190, 191, 192, 193, 194, 195, 196, 197, 198, 199, 200, 201], []⟩)]
noncomputable def F_wlvlaw14_LifeEnds_env : Env := ⟨Try.prog, [(4, ⟨F_wlvlaw14_first_sig, ⟨F_wlvlaw14_first⟩⟩), (5, ⟨F_life_Send_sig, ⟨F_life_Send⟩⟩), (6, ⟨F_life_Recv_sig, ⟨F_life_Recv⟩⟩)]⟩
set_option maxRecDepth 100000 in
theorem F_wlvlaw14_LifeEnds_text : pvFn F_wlvlaw14_LifeEnds_env F_wlvlaw14_LifeEnds_ann Try.f3 F_wlvlaw14_LifeEnds_sig = F_wlvlaw14_LifeEnds := by kernel_rfl
end Go.Proofs.Ythfidckfnddgbaa
