/- The functions of the program as Lean functions, written by a program of ours and held by the kernel. -/
import Derived.Test.YtgcgdfjldeihkaaDoorProg
import Derived.Test.YtgcgdfjldeihkaaDoorQB64d
import Derived.Test.YtgcgdfjldeihkaaDoorQB64
import Derived.Test.YtgcgdfjldeihkaaDoorPw
import Derived.KernelRfl
import Derived.Laws.Bits
namespace Go.Proofs.YtgcgdfjldeihkaaDoor
open Pv
set_option linter.unusedVariables false
noncomputable def F_wlvref1_sign (i1 : Int) : Option (Int) :=
  (getI ([65, 66, 67, 68, 69, 70, 71, 72, 73, 74, 75, 76, 77, 78, 79, 80, 81, 82, 83, 84, 85, 86, 87, 88, 89, 90, 97, 98, 99, 100, 101, 102, 103, 104, 105, 106, 107, 108, 109, 110, 111, 112, 113, 114, 115, 116, 117, 118, 119, 120, 121, 122, 48, 49, 50, 51, 52, 53, 54, 55, 56, 57, 43, 47] : List Int) (bits .and .i64 i1 63)).bind fun i2 =>
  some i2
def F_wlvref1_sign_sig : Sig := ⟨[.v false [.d (.int .i64)]], [(false, [.d (.int .u8)])]⟩
def F_wlvref1_sign_ann : List (Nat × Ann) := []
noncomputable def F_wlvref1_sign_env : Env := ⟨Tryd.prog, [], []⟩
set_option maxRecDepth 100000 in
theorem F_wlvref1_sign_text : pvFn F_wlvref1_sign_env F_wlvref1_sign_ann Tryd.f29 F_wlvref1_sign_sig = F_wlvref1_sign := by kernel_rfl
noncomputable def F_wlvref1_value_L3 (i1 : Int) (s : Int) : Option (((Int) ⊕ (Unit)) ⊕ (Int)) :=
  let i2 := s
  cond (decide (i2 < 64))
  ((F_wlvref1_sign i2).bind fun i3 =>
    cond (i3 == i1)
    (some (.inl (.inl i2)))
    (some (.inr (IntKind.i64.wrap (i2 + 1)))))
  (some (.inl (.inr ())))
noncomputable def F_wlvref1_value_J1 (s : Unit) : Option (Int) :=
  some (-1)
noncomputable def F_wlvref1_value (i1 : Int) : Option (Int) :=
  joinC (S := Unit) (R := Int)
  (loopC (S := Int) (R := (Int) ⊕ (Unit)) (F_wlvref1_value_L3 i1) 0)
  (F_wlvref1_value_J1)
def F_wlvref1_value_sig : Sig := ⟨[.v false [.d (.int .u8)]], [(false, [.d (.int .i64)])]⟩
def F_wlvref1_value_ann : List (Nat × Ann) := [(1, ⟨2, [], [], [2, 3, 4, 5, 6, 7, 8, 9, 10, 11, 12], []⟩), (3, ⟨4, [(3, false, [.d (.int .i64)])], [], [2, 4, 5, 6, 7, 8, 9, 10, 11, 12], []⟩)]
noncomputable def F_wlvref1_value_env : Env := ⟨Tryd.prog, [(29, ⟨F_wlvref1_sign_sig, ⟨F_wlvref1_sign⟩⟩)], []⟩
set_option maxRecDepth 100000 in
theorem F_wlvref1_value_text : pvFn F_wlvref1_value_env F_wlvref1_value_ann Tryd.f26 F_wlvref1_value_sig = F_wlvref1_value := by kernel_rfl
noncomputable def F_wlvref1_Decode_L14 (s1 : List Int) (i3 : Int) (s : List Int × Int × Int × Int) : Option ((((((List Int × Int) ⊕ (List Int)) ⊕ (List Int × Int)) ⊕ (List Int)) ⊕ (List Int × Int × Int)) ⊕ (List Int × Int × Int × Int)) :=
  let l4 := s.1; let i5 := s.2.1; let i6 := s.2.2.1; let i7 := s.2.2.2
  cond (decide (i7 < 4))
  ((getI s1 (IntKind.i64.wrap (i3 + i7))).bind fun i8 =>
    (F_wlvref1_value i8).bind fun i9 =>
    cond (decide (i9 < 0))
    (some (.inr (l4, (bits .or .i64 (IntKind.i64.wrap (i5 * 2 ^ 6)) 0), (minI i6 i7), (IntKind.i64.wrap (i7 + 1)))))
    (some (.inr (l4, (bits .or .i64 (IntKind.i64.wrap (i5 * 2 ^ 6)) i9), i6, (IntKind.i64.wrap (i7 + 1))))))
  (some (.inl (.inr (l4, i5, i6))))
noncomputable def F_wlvref1_Decode_J12 (s : List Int × Int × Int) : Option ((((List Int × Int) ⊕ (List Int)) ⊕ (List Int × Int)) ⊕ (List Int)) :=
  let l10 := s.1; let i11 := s.2.1; let i12 := s.2.2
  cond (decide (i12 < 2))
  (some (.inl (.inl (.inl ([], 2)))))
  ((cutI ([(IntKind.u8.wrap (Int.fdiv i11 (2 ^ 16))), (IntKind.u8.wrap (Int.fdiv i11 (2 ^ 8))), (IntKind.u8.wrap i11)] : List Int) 0 (IntKind.i64.wrap (i12 - 1))).bind fun l13 =>
    chk (decide ((l10.length + l13.length) * 1 ≤ 140737488355328) && decide (l10.length + l13.length ≤ maxLen))
    (some (.inr (l10 ++ l13))))
noncomputable def F_wlvref1_Decode_J10 (i3 : Int) (s : List Int) : Option (((List Int × Int) ⊕ (List Int)) ⊕ (List Int × Int)) :=
  let l14 := s
  some (.inr (l14, (IntKind.i64.wrap (i3 + 4))))
noncomputable def F_wlvref1_Decode_L7 (s1 : List Int) (s : List Int × Int) : Option (((List Int × Int) ⊕ (List Int)) ⊕ (List Int × Int)) :=
  let l2 := s.1; let i3 := s.2
  cond (decide (i3 < (s1.length : Int)))
  (joinC (S := List Int) (R := ((List Int × Int) ⊕ (List Int)) ⊕ (List Int × Int))
    (joinC (S := List Int × Int × Int) (R := (((List Int × Int) ⊕ (List Int)) ⊕ (List Int × Int)) ⊕ (List Int))
      (loopC (S := List Int × Int × Int × Int) (R := ((((List Int × Int) ⊕ (List Int)) ⊕ (List Int × Int)) ⊕ (List Int)) ⊕ (List Int × Int × Int)) (F_wlvref1_Decode_L14 s1 i3) (l2, 0, 4, 0))
      (F_wlvref1_Decode_J12))
    (F_wlvref1_Decode_J10 i3))
  (some (.inl (.inr l2)))
noncomputable def F_wlvref1_Decode_J5 (s1 : List Int) (s : List Int) : Option (List Int × Int) :=
  let l15 := s
  (F_wlvref1_Encode l15).bind fun s16 =>
  cond (!(s16 == s1))
  (some ([], 2))
  (some (l15, 0))
noncomputable def F_wlvref1_Decode (s1 : List Int) : Option (List Int × Int) :=
  cond ((Int.tmod (s1.length : Int) 4) != 0)
  (some ([], 2))
  (joinC (S := List Int) (R := List Int × Int)
    (loopC (S := List Int × Int) (R := (List Int × Int) ⊕ (List Int)) (F_wlvref1_Decode_L7 s1) ([], 0))
    (F_wlvref1_Decode_J5 s1))
def F_wlvref1_Decode_sig : Sig := ⟨[.v false [.d .str]], [(false, [.own 5 (.int .u8)]), (false, [.d (.int .i64)])]⟩
def F_wlvref1_Decode_ann : List (Nat × Ann) := [(5, ⟨6, [(4, false, [.own 5 (.int .u8)])], [], [2, 3, 5, 6, 7, 8, 9, 14, 15, 16, 17, 18, 19, 20, 21, 22, 23, 24, 25, 26, 27, 28, 29, 30, 31, 32, 33, 34, 35, 36, 37, 38, 39, 40, 41, 42, 43, 44, 45, 46, 47, 48, 49, 50, 51, 52, 53, 54], []⟩), (7, ⟨8, [(4, false, [.own 5 (.int .u8)]), (5, false, [.d (.int .i64)])], [], [2, 3, 6, 7, 8, 9, 14, 15, 16, 17, 18, 19, 20, 21, 22, 23, 24, 25, 26, 27, 28, 29, 30, 31, 32, 33, 34, 35, 36, 37, 38, 39, 40, 41, 42, 43, 44, 45, 46, 47, 48, 49, 50, 51, 52, 53, 54], []⟩), (10, ⟨11, [(4, false, [.own 5 (.int .u8)])], [], [2, 3, 6, 7, 8, 9, 20, 21, 22, 23, 24, 25, 26, 27, 28, 29, 30, 31, 32, 33, 34, 35, 36, 37, 38, 39, 40, 41, 42, 43, 44, 45, 46, 47, 48, 49, 50, 51, 52, 53, 54], []⟩), (12, ⟨13, [(4, false, [.own 5 (.int .u8)]), (6, false, [.d (.int .i64)]), (7, false, [.d (.int .i64)])], [], [8, 9, 20, 21, 22, 23, 24, 25, 26, 27, 28, 29, 30, 31, 32, 33, 34, 35, 36, 37, 38], []⟩), (14, ⟨15, [(4, false, [.own 5 (.int .u8)]), (6, false, [.d (.int .i64)]), (7, false, [.d (.int .i64)]), (8, false, [.d (.int .i64)])], [], [9, 20, 21, 22, 23, 24, 25, 26, 27, 28, 29, 30, 31, 32, 33, 34, 35, 36, 37, 38], []⟩)]
noncomputable def F_wlvref1_Decode_env : Env := ⟨Tryd.prog, [(15, ⟨F_wlvref1_Encode_sig, ⟨F_wlvref1_Encode⟩⟩), (26, ⟨F_wlvref1_value_sig, ⟨F_wlvref1_value⟩⟩)], []⟩
set_option maxRecDepth 100000 in
theorem F_wlvref1_Decode_text : pvFn F_wlvref1_Decode_env F_wlvref1_Decode_ann Tryd.f13 F_wlvref1_Decode_sig = F_wlvref1_Decode := by kernel_rfl
noncomputable def F_wlvlaw2_B64Tells (l1 : List Int) (s2 : List Int) : Option (Bool) :=
  (F_wlvlaw2_first).bind fun b3 =>
  cond (!b3)
  (some false)
  (cond ((decide ((l1.length : Int) > 3000)) || (decide ((s2.length : Int) > 3000)))
    ((F_wlvlaw2_first).bind fun b4 =>
      some b4)
    ((F_b64_Decode s2).bind fun x5 =>
      (F_wlvref1_Decode s2).bind fun x6 =>
      (F_wlvlaw2_first).bind fun b7 =>
      cond b7
      ((F_b64_Encode l1).bind fun s8 =>
        (F_wlvref1_Encode l1).bind fun s9 =>
        cond ((s8 == s9) && (x5.2 == x6.2))
        ((F_wlvref_Bytes x5.1 x6.1).bind fun b10 =>
          some b10)
        (some false))
      (some false)))
def F_wlvlaw2_B64Tells_sig : Sig := ⟨[.v false [.d (.sl (.int .u8))], .v false [.d .str]], [(false, [.d .bool])]⟩
def F_wlvlaw2_B64Tells_ann : List (Nat × Ann) := []
noncomputable def F_wlvlaw2_B64Tells_env : Env := ⟨Tryd.prog, [(11, ⟨F_wlvlaw2_first_sig, ⟨F_wlvlaw2_first⟩⟩), (12, ⟨F_b64_Decode_sig, ⟨F_b64_Decode⟩⟩), (13, ⟨F_wlvref1_Decode_sig, ⟨F_wlvref1_Decode⟩⟩), (14, ⟨F_b64_Encode_sig, ⟨F_b64_Encode⟩⟩), (15, ⟨F_wlvref1_Encode_sig, ⟨F_wlvref1_Encode⟩⟩), (16, ⟨F_wlvref_Bytes_sig, ⟨F_wlvref_Bytes⟩⟩)], []⟩
set_option maxRecDepth 100000 in
theorem F_wlvlaw2_B64Tells_text : pvFn F_wlvlaw2_B64Tells_env F_wlvlaw2_B64Tells_ann Tryd.f3 F_wlvlaw2_B64Tells_sig = F_wlvlaw2_B64Tells := by kernel_rfl
end Go.Proofs.YtgcgdfjldeihkaaDoor
