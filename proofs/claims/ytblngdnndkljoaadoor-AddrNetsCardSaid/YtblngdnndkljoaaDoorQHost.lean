/- The functions of the program as Lean functions, written by a program of ours and held by the kernel. -/
import Derived.Test.YtblngdnndkljoaaDoorProg
import Derived.Test.YtblngdnndkljoaaDoorQCon
import Derived.Test.YtblngdnndkljoaaDoorQItoa
import Derived.Test.YtblngdnndkljoaaDoorQIns
import Derived.Test.YtblngdnndkljoaaDoorPw
import Derived.KernelRfl
import Derived.Laws.Bits
namespace Go.Proofs.YtblngdnndkljoaaDoor
open Pv
set_option linter.unusedVariables false
noncomputable def F_addr_decimal (s1 : List Int) (i2 : Int) : Option (Int × Bool) :=
  (F_strconv_Atoi s1).bind fun x3 =>
  cond (((notB x3.2) && (decide (x3.1 ≥ 0))) && (decide (x3.1 ≤ i2)))
  ((F_strconv_Itoa x3.1).bind fun s4 =>
    some (x3.1, (s4 == s1)))
  (some (x3.1, false))
def F_addr_decimal_sig : Sig := ⟨[.v false [.d .str], .v false [.d (.int .i64)]], [(false, [.d (.int .i64)]), (false, [.d .bool])]⟩
def F_addr_decimal_ann : List (Nat × Ann) := []
noncomputable def F_addr_decimal_env : Env := ⟨Tryd.prog, [(64, ⟨F_strconv_Atoi_sig, ⟨F_strconv_Atoi⟩⟩), (66, ⟨F_strconv_Itoa_sig, ⟨F_strconv_Itoa⟩⟩)], []⟩
set_option maxRecDepth 100000 in
theorem F_addr_decimal_text : pvFn F_addr_decimal_env F_addr_decimal_ann Tryd.f73 F_addr_decimal_sig = F_addr_decimal := by kernel_rfl
noncomputable def F_addr_dotted_L8 (l2 : List (List Int)) (s : List Int × List (List Int) × Int) : Option (((List Int × Bool) ⊕ (List Int)) ⊕ (List Int × List (List Int) × Int)) :=
  let l3 := s.1; let l4 := s.2.1; let i5 := s.2.2
  cond (decide (i5 < (l2.length : Int)))
  ((getI l4 i5).bind fun s6 =>
    (F_addr_decimal s6 255).bind fun x7 =>
    cond (!x7.2)
    (some (.inl (.inl (([] : List Int), false))))
    (chk (decide ((l3.length + ([(IntKind.u8.wrap x7.1)] : List Int).length) * 1 ≤ 140737488355328) && decide (l3.length + ([(IntKind.u8.wrap x7.1)] : List Int).length ≤ maxLen))
      (some (.inr ((l3 ++ ([(IntKind.u8.wrap x7.1)] : List Int)), l4, (IntKind.i64.wrap (i5 + 1)))))))
  (some (.inl (.inr l3)))
noncomputable def F_addr_dotted_J6 (s : List Int) : Option (List Int × Bool) :=
  let l8 := s
  some (l8, true)
noncomputable def F_addr_dotted (s1 : List Int) : Option (List Int × Bool) :=
  (F_strings_Split s1 ([46] : List Int)).bind fun l2 =>
  cond ((l2.length : Int) != 4)
  (some (([] : List Int), false))
  (joinC (S := List Int) (R := List Int × Bool)
    (loopC (S := List Int × List (List Int) × Int) (R := (List Int × Bool) ⊕ (List Int)) (F_addr_dotted_L8 l2) (([] : List Int), l2, 0))
    (F_addr_dotted_J6))
def F_addr_dotted_sig : Sig := ⟨[.v false [.d .str]], [(false, [.d .str]), (false, [.d .bool])]⟩
def F_addr_dotted_ann : List (Nat × Ann) := [(6, ⟨7, [(5, false, [.own 5 (.int .u8)])], [], [2, 3, 7, 8, 9, 15, 16, 17, 18, 19, 20, 21, 22, 23, 24, 25, 26, 27, 28, 29, 30, 31, 32, 33], []⟩), (8, ⟨9, [(5, false, [.own 5 (.int .u8)]), (15, false, [.own 9 .str]), (17, false, [.d (.int .i64)])], [], [2, 3, 7, 8, 9, 18, 19, 20, 21, 22, 23, 24, 25, 26, 27, 28, 29, 30, 31, 32, 33], []⟩)]
noncomputable def F_addr_dotted_env : Env := ⟨Tryd.prog, [(73, ⟨F_addr_decimal_sig, ⟨F_addr_decimal⟩⟩), (90, ⟨F_strings_Split_sig, ⟨F_strings_Split⟩⟩)], []⟩
set_option maxRecDepth 100000 in
theorem F_addr_dotted_text : pvFn F_addr_dotted_env F_addr_dotted_ann Tryd.f59 F_addr_dotted_sig = F_addr_dotted := by kernel_rfl
noncomputable def F_internal_stringslite_HasPrefix (s1 : List Int) (s2 : List Int) : Option (Bool) :=
  cond (decide ((s1.length : Int) ≥ (s2.length : Int)))
  ((cutI s1 0 (s2.length : Int)).bind fun s3 =>
    some (s3 == s2))
  (some false)
def F_internal_stringslite_HasPrefix_sig : Sig := ⟨[.v false [.d .str], .v false [.d .str]], [(false, [.d .bool])]⟩
def F_internal_stringslite_HasPrefix_ann : List (Nat × Ann) := []
noncomputable def F_internal_stringslite_HasPrefix_env : Env := ⟨Tryd.prog, [], []⟩
set_option maxRecDepth 100000 in
theorem F_internal_stringslite_HasPrefix_text : pvFn F_internal_stringslite_HasPrefix_env F_internal_stringslite_HasPrefix_ann Tryd.f125 F_internal_stringslite_HasPrefix_sig = F_internal_stringslite_HasPrefix := by kernel_rfl
noncomputable def F_strings_HasPrefix (s1 : List Int) (s2 : List Int) : Option (Bool) :=
  (F_internal_stringslite_HasPrefix s1 s2).bind fun b3 =>
  some b3
def F_strings_HasPrefix_sig : Sig := ⟨[.v false [.d .str], .v false [.d .str]], [(false, [.d .bool])]⟩
def F_strings_HasPrefix_ann : List (Nat × Ann) := []
noncomputable def F_strings_HasPrefix_env : Env := ⟨Tryd.prog, [(125, ⟨F_internal_stringslite_HasPrefix_sig, ⟨F_internal_stringslite_HasPrefix⟩⟩)], []⟩
set_option maxRecDepth 100000 in
theorem F_strings_HasPrefix_text : pvFn F_strings_HasPrefix_env F_strings_HasPrefix_ann Tryd.f91 F_strings_HasPrefix_sig = F_strings_HasPrefix := by kernel_rfl
noncomputable def F_addr_digit (i1 : Int) : Option (Int) :=
  cond ((decide (i1 ≥ 48)) && (decide (i1 ≤ 57)))
  (some (IntKind.i64.wrap (IntKind.u8.wrap (i1 - 48))))
  (cond ((decide (i1 ≥ 97)) && (decide (i1 ≤ 102)))
    (some (IntKind.i64.wrap ((IntKind.i64.wrap (IntKind.u8.wrap (i1 - 97))) + 10)))
    (cond ((decide (i1 ≥ 65)) && (decide (i1 ≤ 70)))
      (some (IntKind.i64.wrap ((IntKind.i64.wrap (IntKind.u8.wrap (i1 - 65))) + 10)))
      (some (-1))))
def F_addr_digit_sig : Sig := ⟨[.v false [.d (.int .u8)]], [(false, [.d (.int .i64)])]⟩
def F_addr_digit_ann : List (Nat × Ann) := []
noncomputable def F_addr_digit_env : Env := ⟨Tryd.prog, [], []⟩
set_option maxRecDepth 100000 in
theorem F_addr_digit_text : pvFn F_addr_digit_env F_addr_digit_ann Tryd.f92 F_addr_digit_sig = F_addr_digit := by kernel_rfl
noncomputable def F_addr_coloned_G1_1 (s1 : List Int) (s : List Int × Int × Int × Int × Int) : Option ((List Int × Bool) ⊕ (Nat × List Int × Int × Int × Int × Int)) :=
  let l11 := s.1; let i12 := s.2.1; let i13 := s.2.2.1; let i14 := s.2.2.2.1; let i15 := s.2.2.2.2
  cond (decide (i13 < (s1.length : Int)))
  ((getI s1 i13).bind fun i16 =>
    (F_addr_digit i16).bind fun i17 =>
    cond ((decide (i17 ≥ 0)) && (decide ((0 : Int) < 4)))
    ((getI s1 i13).bind fun i18 =>
      (F_addr_digit i18).bind fun i19 =>
      some (.inr (2, (l11, i12, (IntKind.i64.wrap (i13 + 1)), (bits .or .i64 (IntKind.i64.wrap (0 * 2 ^ 4)) i19), (IntKind.i64.wrap (0 + 1))))))
    (some (.inl (([] : List Int), false))))
  (some (.inl (([] : List Int), false)))
noncomputable def F_addr_coloned_G1_2 (s1 : List Int) (s : List Int × Int × Int × Int × Int) : Option ((List Int × Bool) ⊕ (Nat × List Int × Int × Int × Int × Int)) :=
  let l11 := s.1; let i12 := s.2.1; let i13 := s.2.2.1; let i14 := s.2.2.2.1; let i15 := s.2.2.2.2
  cond (decide (i13 < (s1.length : Int)))
  ((getI s1 i13).bind fun i20 =>
    (F_addr_digit i20).bind fun i21 =>
    cond ((decide (i21 ≥ 0)) && (decide (i15 < 4)))
    ((getI s1 i13).bind fun i22 =>
      (F_addr_digit i22).bind fun i23 =>
      some (.inr (2, (l11, i12, (IntKind.i64.wrap (i13 + 1)), (bits .or .i64 (IntKind.i64.wrap (i14 * 2 ^ 4)) i23), (IntKind.i64.wrap (i15 + 1))))))
    (cond (i15 == 0)
      (some (.inl (([] : List Int), false)))
      (chk (decide ((l11.length + ([(IntKind.u8.wrap (Int.fdiv i14 (2 ^ 8))), (IntKind.u8.wrap i14)] : List Int).length) * 1 ≤ 140737488355328) && decide (l11.length + ([(IntKind.u8.wrap (Int.fdiv i14 (2 ^ 8))), (IntKind.u8.wrap i14)] : List Int).length ≤ maxLen))
        (cond (i13 == (s1.length : Int))
          (some (.inr (0, ((l11 ++ ([(IntKind.u8.wrap (Int.fdiv i14 (2 ^ 8))), (IntKind.u8.wrap i14)] : List Int)), i12, i13, i14, i15))))
          ((getI s1 i13).bind fun i24 =>
            cond ((i24 != 58) || (((l11 ++ ([(IntKind.u8.wrap (Int.fdiv i14 (2 ^ 8))), (IntKind.u8.wrap i14)] : List Int)).length : Int) == 16))
            (some (.inl (([] : List Int), false)))
            (cond ((IntKind.i64.wrap (i13 + 1)) == (s1.length : Int))
              (some (.inr (1, ((l11 ++ ([(IntKind.u8.wrap (Int.fdiv i14 (2 ^ 8))), (IntKind.u8.wrap i14)] : List Int)), i12, (IntKind.i64.wrap (i13 + 1)), i14, i15))))
              ((getI s1 (IntKind.i64.wrap (i13 + 1))).bind fun i25 =>
                cond (i25 != 58)
                (some (.inr (1, ((l11 ++ ([(IntKind.u8.wrap (Int.fdiv i14 (2 ^ 8))), (IntKind.u8.wrap i14)] : List Int)), i12, (IntKind.i64.wrap (i13 + 1)), i14, i15))))
                (cond (decide (i12 ≥ 0))
                  (some (.inl (([] : List Int), false)))
                  (cond (decide ((IntKind.i64.wrap ((IntKind.i64.wrap (i13 + 1)) + 1)) < (s1.length : Int)))
                    (some (.inr (1, ((l11 ++ ([(IntKind.u8.wrap (Int.fdiv i14 (2 ^ 8))), (IntKind.u8.wrap i14)] : List Int)), ((l11 ++ ([(IntKind.u8.wrap (Int.fdiv i14 (2 ^ 8))), (IntKind.u8.wrap i14)] : List Int)).length : Int), (IntKind.i64.wrap ((IntKind.i64.wrap (i13 + 1)) + 1)), i14, i15))))
                    (cond (decide (((l11 ++ ([(IntKind.u8.wrap (Int.fdiv i14 (2 ^ 8))), (IntKind.u8.wrap i14)] : List Int)).length : Int) < 0))
                      (some (.inl ((l11 ++ ([(IntKind.u8.wrap (Int.fdiv i14 (2 ^ 8))), (IntKind.u8.wrap i14)] : List Int)), (((l11 ++ ([(IntKind.u8.wrap (Int.fdiv i14 (2 ^ 8))), (IntKind.u8.wrap i14)] : List Int)).length : Int) == 16))))
                      (cond (decide (((l11 ++ ([(IntKind.u8.wrap (Int.fdiv i14 (2 ^ 8))), (IntKind.u8.wrap i14)] : List Int)).length : Int) ≥ 16))
                        (some (.inl (([] : List Int), false)))
                        (chk (insOk (l11 ++ ([(IntKind.u8.wrap (Int.fdiv i14 (2 ^ 8))), (IntKind.u8.wrap i14)] : List Int)) ((l11 ++ ([(IntKind.u8.wrap (Int.fdiv i14 (2 ^ 8))), (IntKind.u8.wrap i14)] : List Int)).length : Int))
                          (some (.inl ((insZ (l11 ++ ([(IntKind.u8.wrap (Int.fdiv i14 (2 ^ 8))), (IntKind.u8.wrap i14)] : List Int)) ((l11 ++ ([(IntKind.u8.wrap (Int.fdiv i14 (2 ^ 8))), (IntKind.u8.wrap i14)] : List Int)).length : Int).toNat), true)))))))))))))))
  (cond (i15 == 0)
    (some (.inl (([] : List Int), false)))
    (chk (decide ((l11.length + ([(IntKind.u8.wrap (Int.fdiv i14 (2 ^ 8))), (IntKind.u8.wrap i14)] : List Int).length) * 1 ≤ 140737488355328) && decide (l11.length + ([(IntKind.u8.wrap (Int.fdiv i14 (2 ^ 8))), (IntKind.u8.wrap i14)] : List Int).length ≤ maxLen))
      (cond (i13 == (s1.length : Int))
        (some (.inr (0, ((l11 ++ ([(IntKind.u8.wrap (Int.fdiv i14 (2 ^ 8))), (IntKind.u8.wrap i14)] : List Int)), i12, i13, i14, i15))))
        ((getI s1 i13).bind fun i26 =>
          cond ((i26 != 58) || (((l11 ++ ([(IntKind.u8.wrap (Int.fdiv i14 (2 ^ 8))), (IntKind.u8.wrap i14)] : List Int)).length : Int) == 16))
          (some (.inl (([] : List Int), false)))
          (cond ((IntKind.i64.wrap (i13 + 1)) == (s1.length : Int))
            (some (.inr (1, ((l11 ++ ([(IntKind.u8.wrap (Int.fdiv i14 (2 ^ 8))), (IntKind.u8.wrap i14)] : List Int)), i12, (IntKind.i64.wrap (i13 + 1)), i14, i15))))
            ((getI s1 (IntKind.i64.wrap (i13 + 1))).bind fun i27 =>
              cond (i27 != 58)
              (some (.inr (1, ((l11 ++ ([(IntKind.u8.wrap (Int.fdiv i14 (2 ^ 8))), (IntKind.u8.wrap i14)] : List Int)), i12, (IntKind.i64.wrap (i13 + 1)), i14, i15))))
              (cond (decide (i12 ≥ 0))
                (some (.inl (([] : List Int), false)))
                (cond (decide ((IntKind.i64.wrap ((IntKind.i64.wrap (i13 + 1)) + 1)) < (s1.length : Int)))
                  (some (.inr (1, ((l11 ++ ([(IntKind.u8.wrap (Int.fdiv i14 (2 ^ 8))), (IntKind.u8.wrap i14)] : List Int)), ((l11 ++ ([(IntKind.u8.wrap (Int.fdiv i14 (2 ^ 8))), (IntKind.u8.wrap i14)] : List Int)).length : Int), (IntKind.i64.wrap ((IntKind.i64.wrap (i13 + 1)) + 1)), i14, i15))))
                  (cond (decide (((l11 ++ ([(IntKind.u8.wrap (Int.fdiv i14 (2 ^ 8))), (IntKind.u8.wrap i14)] : List Int)).length : Int) < 0))
                    (some (.inl ((l11 ++ ([(IntKind.u8.wrap (Int.fdiv i14 (2 ^ 8))), (IntKind.u8.wrap i14)] : List Int)), (((l11 ++ ([(IntKind.u8.wrap (Int.fdiv i14 (2 ^ 8))), (IntKind.u8.wrap i14)] : List Int)).length : Int) == 16))))
                    (cond (decide (((l11 ++ ([(IntKind.u8.wrap (Int.fdiv i14 (2 ^ 8))), (IntKind.u8.wrap i14)] : List Int)).length : Int) ≥ 16))
                      (some (.inl (([] : List Int), false)))
                      (chk (insOk (l11 ++ ([(IntKind.u8.wrap (Int.fdiv i14 (2 ^ 8))), (IntKind.u8.wrap i14)] : List Int)) ((l11 ++ ([(IntKind.u8.wrap (Int.fdiv i14 (2 ^ 8))), (IntKind.u8.wrap i14)] : List Int)).length : Int))
                        (some (.inl ((insZ (l11 ++ ([(IntKind.u8.wrap (Int.fdiv i14 (2 ^ 8))), (IntKind.u8.wrap i14)] : List Int)) ((l11 ++ ([(IntKind.u8.wrap (Int.fdiv i14 (2 ^ 8))), (IntKind.u8.wrap i14)] : List Int)).length : Int).toNat), true))))))))))))))
noncomputable def F_addr_coloned_G1_0 (s : List Int × Int × Int × Int × Int) : Option ((List Int × Bool) ⊕ (Nat × List Int × Int × Int × Int × Int)) :=
  let l11 := s.1; let i12 := s.2.1; let i13 := s.2.2.1; let i14 := s.2.2.2.1; let i15 := s.2.2.2.2
  cond (decide (i12 < 0))
  (some (.inl (l11, ((l11.length : Int) == 16))))
  (cond (decide ((l11.length : Int) ≥ 16))
    (some (.inl (([] : List Int), false)))
    (chk (insOk l11 i12)
      (some (.inl ((insZ l11 i12.toNat), true)))))
noncomputable def F_addr_coloned_G1 (s1 : List Int) (p : Nat × List Int × Int × Int × Int × Int) : Option ((List Int × Bool) ⊕ (Nat × List Int × Int × Int × Int × Int)) :=
  cond (hasN [1] p.1) (F_addr_coloned_G1_1 s1 p.2) (cond (hasN [2] p.1) (F_addr_coloned_G1_2 s1 p.2) (cond (hasN [0] p.1) (F_addr_coloned_G1_0 p.2) (none)))
noncomputable def F_addr_coloned (s1 : List Int) : Option (List Int × Bool) :=
  joinC (S := Nat × List Int × Int × Int × Int × Int) (R := List Int × Bool)
  ((F_strings_HasPrefix s1 ([58, 58] : List Int)).bind fun b2 =>
    cond b2
    (cond (2 == (s1.length : Int))
      (some (.inr (0, (([] : List Int), 0, 2, 0, 0))))
      (cond (decide ((2 : Int) < (s1.length : Int)))
        ((getI s1 2).bind fun i3 =>
          (F_addr_digit i3).bind fun i4 =>
          cond ((decide (i4 ≥ 0)) && (decide ((0 : Int) < 4)))
          ((getI s1 2).bind fun i5 =>
            (F_addr_digit i5).bind fun i6 =>
            some (.inr (2, (([] : List Int), 0, (IntKind.i64.wrap (2 + 1)), (bits .or .i64 (IntKind.i64.wrap (0 * 2 ^ 4)) i6), (IntKind.i64.wrap (0 + 1))))))
          (some (.inl (([] : List Int), false))))
        (some (.inl (([] : List Int), false)))))
    (cond (decide ((0 : Int) < (s1.length : Int)))
      ((getI s1 0).bind fun i7 =>
        (F_addr_digit i7).bind fun i8 =>
        cond ((decide (i8 ≥ 0)) && (decide ((0 : Int) < 4)))
        ((getI s1 0).bind fun i9 =>
          (F_addr_digit i9).bind fun i10 =>
          some (.inr (2, (([] : List Int), (-1), (IntKind.i64.wrap (0 + 1)), (bits .or .i64 (IntKind.i64.wrap (0 * 2 ^ 4)) i10), (IntKind.i64.wrap (0 + 1))))))
        (some (.inl (([] : List Int), false))))
      (some (.inl (([] : List Int), false)))))
  (fun p => loopC (S := Nat × List Int × Int × Int × Int × Int) (R := List Int × Bool) (F_addr_coloned_G1 s1) p)
def F_addr_coloned_sig : Sig := ⟨[.v false [.d .str]], [(false, [.d .str]), (false, [.d .bool])]⟩
def F_addr_coloned_ann : List (Nat × Ann) := [(1, ⟨2, [(4, false, [.own 5 (.int .u8)]), (5, false, [.d (.int .i64)]), (6, false, [.d (.int .i64)]), (7, false, [.d (.int .i64)]), (8, false, [.d (.int .i64)])], [], [2, 3, 9, 10, 11, 12, 13, 14, 15, 16, 17, 18, 19, 20, 21, 22, 23, 24, 25, 26, 27, 28, 29, 30, 31, 32, 33, 34, 35, 36, 37, 38, 39, 40, 41, 42, 43, 44, 45, 46, 47, 48, 49, 50, 51, 52, 53, 54, 55, 56, 57, 58, 59, 60, 61, 62, 63, 64, 65, 66, 67, 68, 69, 70, 71, 72, 73, 74, 75, 76, 77, 78, 79, 80, 81, 82, 83, 84, 85, 86, 87, 88, 89, 90, 91, 92, 93, 94, 95, 96, 97, 98, 99, 100, 101, 102, 103, 104, 105], []⟩)]
noncomputable def F_addr_coloned_env : Env := ⟨Tryd.prog, [(91, ⟨F_strings_HasPrefix_sig, ⟨F_strings_HasPrefix⟩⟩), (92, ⟨F_addr_digit_sig, ⟨F_addr_digit⟩⟩)], []⟩
set_option maxRecDepth 100000 in
theorem F_addr_coloned_text : pvFnH 29 insTail F_addr_coloned_env F_addr_coloned_ann Tryd.f60 F_addr_coloned_sig = F_addr_coloned := by kernel_rfl
noncomputable def F_internal_stringslite_TrimPrefix (s1 : List Int) (s2 : List Int) : Option (List Int) :=
  (F_internal_stringslite_HasPrefix s1 s2).bind fun b3 =>
  cond b3
  ((cutI s1 (s2.length : Int) (s1.length : Int)).bind fun s4 =>
    some s4)
  (some s1)
def F_internal_stringslite_TrimPrefix_sig : Sig := ⟨[.v false [.d .str], .v false [.d .str]], [(false, [.d .str])]⟩
def F_internal_stringslite_TrimPrefix_ann : List (Nat × Ann) := []
noncomputable def F_internal_stringslite_TrimPrefix_env : Env := ⟨Tryd.prog, [(125, ⟨F_internal_stringslite_HasPrefix_sig, ⟨F_internal_stringslite_HasPrefix⟩⟩)], []⟩
set_option maxRecDepth 100000 in
theorem F_internal_stringslite_TrimPrefix_text : pvFn F_internal_stringslite_TrimPrefix_env F_internal_stringslite_TrimPrefix_ann Tryd.f128 F_internal_stringslite_TrimPrefix_sig = F_internal_stringslite_TrimPrefix := by kernel_rfl
noncomputable def F_strings_TrimPrefix (s1 : List Int) (s2 : List Int) : Option (List Int) :=
  (F_internal_stringslite_TrimPrefix s1 s2).bind fun s3 =>
  some s3
def F_strings_TrimPrefix_sig : Sig := ⟨[.v false [.d .str], .v false [.d .str]], [(false, [.d .str])]⟩
def F_strings_TrimPrefix_ann : List (Nat × Ann) := []
noncomputable def F_strings_TrimPrefix_env : Env := ⟨Tryd.prog, [(128, ⟨F_internal_stringslite_TrimPrefix_sig, ⟨F_internal_stringslite_TrimPrefix⟩⟩)], []⟩
set_option maxRecDepth 100000 in
theorem F_strings_TrimPrefix_text : pvFn F_strings_TrimPrefix_env F_strings_TrimPrefix_ann Tryd.f94 F_strings_TrimPrefix_sig = F_strings_TrimPrefix := by kernel_rfl
noncomputable def F_addr_Plain (s1 : List Int) : Option (List Int) :=
  (F_strings_TrimPrefix s1 ([0, 0, 0, 0, 0, 0, 0, 0, 0, 0, 255, 255] : List Int)).bind fun s2 =>
  some s2
def F_addr_Plain_sig : Sig := ⟨[.v false [.d .str]], [(false, [.d .str])]⟩
def F_addr_Plain_ann : List (Nat × Ann) := []
noncomputable def F_addr_Plain_env : Env := ⟨Tryd.prog, [(94, ⟨F_strings_TrimPrefix_sig, ⟨F_strings_TrimPrefix⟩⟩)], []⟩
set_option maxRecDepth 100000 in
theorem F_addr_Plain_text : pvFn F_addr_Plain_env F_addr_Plain_ann Tryd.f61 F_addr_Plain_sig = F_addr_Plain := by kernel_rfl
noncomputable def F_addr_Parse (s1 : List Int) : Option (List Int × Int) :=
  (F_addr_dotted s1).bind fun x2 =>
  cond (!x2.2)
  ((F_addr_coloned s1).bind fun x3 =>
    (F_addr_Plain x3.1).bind fun s4 =>
    cond (!x3.2)
    (some (([] : List Int), 2))
    (some (s4, 0)))
  (cond (!x2.2)
    (some (([] : List Int), 2))
    (some (x2.1, 0)))
def F_addr_Parse_sig : Sig := ⟨[.v false [.d .str]], [(false, [.d .str]), (false, [.d (.int .i64)])]⟩
def F_addr_Parse_ann : List (Nat × Ann) := []
noncomputable def F_addr_Parse_env : Env := ⟨Tryd.prog, [(59, ⟨F_addr_dotted_sig, ⟨F_addr_dotted⟩⟩), (60, ⟨F_addr_coloned_sig, ⟨F_addr_coloned⟩⟩), (61, ⟨F_addr_Plain_sig, ⟨F_addr_Plain⟩⟩)], []⟩
set_option maxRecDepth 100000 in
theorem F_addr_Parse_text : pvFn F_addr_Parse_env F_addr_Parse_ann Tryd.f26 F_addr_Parse_sig = F_addr_Parse := by kernel_rfl
noncomputable def F_wlvlaw15_first : Option (Bool) :=
  (F_addr_Parse ([58, 58, 102, 102, 102, 102, 58, 49, 48, 46, 48, 46, 48, 46, 49] : List Int)).bind fun x1 =>
  (F_addr_Parse ([58, 58, 102, 102, 102, 102, 58, 97, 48, 48, 58, 49] : List Int)).bind fun x2 =>
  some (((x1.2 == 2) && (x2.2 == 0)) && (x2.1 == ([10, 0, 0, 1] : List Int)))
def F_wlvlaw15_first_sig : Sig := ⟨[], [(false, [.d .bool])]⟩
def F_wlvlaw15_first_ann : List (Nat × Ann) := []
noncomputable def F_wlvlaw15_first_env : Env := ⟨Tryd.prog, [(26, ⟨F_addr_Parse_sig, ⟨F_addr_Parse⟩⟩)], []⟩
set_option maxRecDepth 100000 in
theorem F_wlvlaw15_first_text : pvFn F_wlvlaw15_first_env F_wlvlaw15_first_ann Tryd.f24 F_wlvlaw15_first_sig = F_wlvlaw15_first := by kernel_rfl
noncomputable def F_wlvlaw15_hex (i1 : Int) (s2 : List Int) : Option (List Int) :=
  (getI s2 (bits .and .i64 (Int.fdiv i1 (2 ^ 12)) 15)).bind fun i3 =>
  (getI s2 (bits .and .i64 (Int.fdiv i1 (2 ^ 8)) 15)).bind fun i4 =>
  (getI s2 (bits .and .i64 (Int.fdiv i1 (2 ^ 4)) 15)).bind fun i5 =>
  (getI s2 (bits .and .i64 i1 15)).bind fun i6 =>
  some ([i3, i4, i5, i6] : List Int)
def F_wlvlaw15_hex_sig : Sig := ⟨[.v false [.d (.int .i64)], .v false [.d .str]], [(false, [.d .str])]⟩
def F_wlvlaw15_hex_ann : List (Nat × Ann) := []
noncomputable def F_wlvlaw15_hex_env : Env := ⟨Tryd.prog, [], []⟩
set_option maxRecDepth 100000 in
theorem F_wlvlaw15_hex_text : pvFn F_wlvlaw15_hex_env F_wlvlaw15_hex_ann Tryd.f25 F_wlvlaw15_hex_sig = F_wlvlaw15_hex := by kernel_rfl
noncomputable def F_wlvref15_Mapped (s1 : List Int) : Option (Bool) :=
  cond ((s1.length : Int) == 16)
  ((cutI s1 0 12).bind fun s2 =>
    chk (decide (0 ≤ (10 : Int)) && decide ((10 : Int) ≤ (10 : Int)) && decide ((10 : Int) * 1 ≤ 140737488355328) && decide ((10 : Int) ≤ maxLen))
    (chk (Nat.ble ((List.replicate ((10 : Int)).toNat 0).length + ([255, 255] : List Int).length) maxLen)
      (some (s2 == ((List.replicate ((10 : Int)).toNat 0) ++ ([255, 255] : List Int))))))
  (some false)
def F_wlvref15_Mapped_sig : Sig := ⟨[.v false [.d .str]], [(false, [.d .bool])]⟩
def F_wlvref15_Mapped_ann : List (Nat × Ann) := []
noncomputable def F_wlvref15_Mapped_env : Env := ⟨Tryd.prog, [], []⟩
set_option maxRecDepth 100000 in
theorem F_wlvref15_Mapped_text : pvFn F_wlvref15_Mapped_env F_wlvref15_Mapped_ann Tryd.f27 F_wlvref15_Mapped_sig = F_wlvref15_Mapped := by kernel_rfl
noncomputable def F_wlvlaw15_AddrShort_L11 (l1 : List Int) (i2 : Int) (i3 : Int) (s : List Int × List Int × List Int × Int) : Option (((Bool) ⊕ (List Int × List Int × List Int)) ⊕ (List Int × List Int × List Int × Int)) :=
  let l6 := s.1; let s7 := s.2.1; let s8 := s.2.2.1; let i9 := s.2.2.2
  cond (decide (i9 < 8))
  ((getI l1 i9).bind fun i10 =>
    cond (decide (i10 < 0))
    ((F_wlvlaw15_first).bind fun b11 =>
      some (.inl (.inl b11)))
    ((getI l1 i9).bind fun i12 =>
      cond (decide (i12 > 65535))
      ((F_wlvlaw15_first).bind fun b13 =>
        some (.inl (.inl b13)))
      ((getI l1 i9).bind fun i14 =>
        cond ((decide (i9 ≥ i2)) && (decide (i9 < i3)))
        (chk (decide ((l6.length + ([(IntKind.u8.wrap (Int.fdiv 0 (2 ^ 8))), (IntKind.u8.wrap 0)] : List Int).length) * 1 ≤ 140737488355328) && decide (l6.length + ([(IntKind.u8.wrap (Int.fdiv 0 (2 ^ 8))), (IntKind.u8.wrap 0)] : List Int).length ≤ maxLen))
          (cond (decide (i9 > 0))
            (chk (Nat.ble (s7.length + ([58] : List Int).length) maxLen)
              (chk (Nat.ble (s8.length + ([58] : List Int).length) maxLen)
                ((F_wlvlaw15_hex 0 ([48, 49, 50, 51, 52, 53, 54, 55, 56, 57, 97, 98, 99, 100, 101, 102] : List Int)).bind fun s15 =>
                  chk (Nat.ble ((s7 ++ ([58] : List Int)).length + s15.length) maxLen)
                  ((F_wlvlaw15_hex 0 ([48, 49, 50, 51, 52, 53, 54, 55, 56, 57, 65, 66, 67, 68, 69, 70] : List Int)).bind fun s16 =>
                    chk (Nat.ble ((s8 ++ ([58] : List Int)).length + s16.length) maxLen)
                    (some (.inr ((l6 ++ ([(IntKind.u8.wrap (Int.fdiv 0 (2 ^ 8))), (IntKind.u8.wrap 0)] : List Int)), ((s7 ++ ([58] : List Int)) ++ s15), ((s8 ++ ([58] : List Int)) ++ s16), (IntKind.i64.wrap (i9 + 1)))))))))
            ((F_wlvlaw15_hex 0 ([48, 49, 50, 51, 52, 53, 54, 55, 56, 57, 97, 98, 99, 100, 101, 102] : List Int)).bind fun s17 =>
              chk (Nat.ble (s7.length + s17.length) maxLen)
              ((F_wlvlaw15_hex 0 ([48, 49, 50, 51, 52, 53, 54, 55, 56, 57, 65, 66, 67, 68, 69, 70] : List Int)).bind fun s18 =>
                chk (Nat.ble (s8.length + s18.length) maxLen)
                (some (.inr ((l6 ++ ([(IntKind.u8.wrap (Int.fdiv 0 (2 ^ 8))), (IntKind.u8.wrap 0)] : List Int)), (s7 ++ s17), (s8 ++ s18), (IntKind.i64.wrap (i9 + 1)))))))))
        (chk (decide ((l6.length + ([(IntKind.u8.wrap (Int.fdiv i14 (2 ^ 8))), (IntKind.u8.wrap i14)] : List Int).length) * 1 ≤ 140737488355328) && decide (l6.length + ([(IntKind.u8.wrap (Int.fdiv i14 (2 ^ 8))), (IntKind.u8.wrap i14)] : List Int).length ≤ maxLen))
          (cond (decide (i9 > 0))
            (chk (Nat.ble (s7.length + ([58] : List Int).length) maxLen)
              (chk (Nat.ble (s8.length + ([58] : List Int).length) maxLen)
                ((F_wlvlaw15_hex i14 ([48, 49, 50, 51, 52, 53, 54, 55, 56, 57, 97, 98, 99, 100, 101, 102] : List Int)).bind fun s19 =>
                  chk (Nat.ble ((s7 ++ ([58] : List Int)).length + s19.length) maxLen)
                  ((F_wlvlaw15_hex i14 ([48, 49, 50, 51, 52, 53, 54, 55, 56, 57, 65, 66, 67, 68, 69, 70] : List Int)).bind fun s20 =>
                    chk (Nat.ble ((s8 ++ ([58] : List Int)).length + s20.length) maxLen)
                    (some (.inr ((l6 ++ ([(IntKind.u8.wrap (Int.fdiv i14 (2 ^ 8))), (IntKind.u8.wrap i14)] : List Int)), ((s7 ++ ([58] : List Int)) ++ s19), ((s8 ++ ([58] : List Int)) ++ s20), (IntKind.i64.wrap (i9 + 1)))))))))
            ((F_wlvlaw15_hex i14 ([48, 49, 50, 51, 52, 53, 54, 55, 56, 57, 97, 98, 99, 100, 101, 102] : List Int)).bind fun s21 =>
              chk (Nat.ble (s7.length + s21.length) maxLen)
              ((F_wlvlaw15_hex i14 ([48, 49, 50, 51, 52, 53, 54, 55, 56, 57, 65, 66, 67, 68, 69, 70] : List Int)).bind fun s22 =>
                chk (Nat.ble (s8.length + s22.length) maxLen)
                (some (.inr ((l6 ++ ([(IntKind.u8.wrap (Int.fdiv i14 (2 ^ 8))), (IntKind.u8.wrap i14)] : List Int)), (s7 ++ s21), (s8 ++ s22), (IntKind.i64.wrap (i9 + 1))))))))))))
  (some (.inl (.inr (l6, s7, s8))))
noncomputable def F_wlvlaw15_AddrShort_L29 (l1 : List Int) (i2 : Int) (i3 : Int) (s : List Int × List Int × Int) : Option (((Bool) ⊕ (List Int × List Int)) ⊕ (List Int × List Int × Int)) :=
  let l26 := s.1; let s27 := s.2.1; let i28 := s.2.2
  cond (decide (i28 < 8))
  (cond (i28 == i2)
    (chk (Nat.ble (s27.length + ([58, 58] : List Int).length) maxLen)
      (cond ((decide (i28 ≥ i2)) && (decide (i28 < i3)))
        (some (.inr (l26, (s27 ++ ([58, 58] : List Int)), (IntKind.i64.wrap (i28 + 1)))))
        (cond ((decide (i28 > 0)) && (i28 != i3))
          (chk (Nat.ble ((s27 ++ ([58, 58] : List Int)).length + ([58] : List Int).length) maxLen)
            ((getI l1 i28).bind fun i29 =>
              (F_wlvlaw15_hex i29 ([48, 49, 50, 51, 52, 53, 54, 55, 56, 57, 97, 98, 99, 100, 101, 102] : List Int)).bind fun s30 =>
              chk (Nat.ble (((s27 ++ ([58, 58] : List Int)) ++ ([58] : List Int)).length + s30.length) maxLen)
              (some (.inr (l26, (((s27 ++ ([58, 58] : List Int)) ++ ([58] : List Int)) ++ s30), (IntKind.i64.wrap (i28 + 1)))))))
          ((getI l1 i28).bind fun i31 =>
            (F_wlvlaw15_hex i31 ([48, 49, 50, 51, 52, 53, 54, 55, 56, 57, 97, 98, 99, 100, 101, 102] : List Int)).bind fun s32 =>
            chk (Nat.ble ((s27 ++ ([58, 58] : List Int)).length + s32.length) maxLen)
            (some (.inr (l26, ((s27 ++ ([58, 58] : List Int)) ++ s32), (IntKind.i64.wrap (i28 + 1)))))))))
    (cond ((decide (i28 ≥ i2)) && (decide (i28 < i3)))
      (some (.inr (l26, s27, (IntKind.i64.wrap (i28 + 1)))))
      (cond ((decide (i28 > 0)) && (i28 != i3))
        (chk (Nat.ble (s27.length + ([58] : List Int).length) maxLen)
          ((getI l1 i28).bind fun i33 =>
            (F_wlvlaw15_hex i33 ([48, 49, 50, 51, 52, 53, 54, 55, 56, 57, 97, 98, 99, 100, 101, 102] : List Int)).bind fun s34 =>
            chk (Nat.ble ((s27 ++ ([58] : List Int)).length + s34.length) maxLen)
            (some (.inr (l26, ((s27 ++ ([58] : List Int)) ++ s34), (IntKind.i64.wrap (i28 + 1)))))))
        ((getI l1 i28).bind fun i35 =>
          (F_wlvlaw15_hex i35 ([48, 49, 50, 51, 52, 53, 54, 55, 56, 57, 97, 98, 99, 100, 101, 102] : List Int)).bind fun s36 =>
          chk (Nat.ble (s27.length + s36.length) maxLen)
          (some (.inr (l26, (s27 ++ s36), (IntKind.i64.wrap (i28 + 1)))))))))
  (some (.inl (.inr (l26, s27))))
noncomputable def F_wlvlaw15_AddrShort_J27 (s24 : List Int) (s25 : List Int) (s : List Int × List Int) : Option (Bool) :=
  let l37 := s.1; let s38 := s.2
  (F_addr_Parse s24).bind fun x39 =>
  (F_addr_Parse s25).bind fun x40 =>
  (F_addr_Parse s38).bind fun x41 =>
  chk (Nat.ble (s24.length + ([58, 48] : List Int).length) maxLen)
  ((F_addr_Parse (s24 ++ ([58, 48] : List Int))).bind fun x42 =>
    chk (Nat.ble (s38.length + ([58, 58] : List Int).length) maxLen)
    ((F_addr_Parse (s38 ++ ([58, 58] : List Int))).bind fun x43 =>
      (F_wlvref15_Mapped l37).bind fun b44 =>
      cond b44
      ((cutI l37 12 (l37.length : Int)).bind fun s45 =>
        (F_wlvlaw15_first).bind fun b46 =>
        some ((((((((b46 && (x39.2 == 0)) && (x40.2 == 0)) && (x41.2 == 0)) && (x39.1 == s45)) && (x40.1 == s45)) && (x41.1 == s45)) && (x42.2 == 2)) && (x43.2 == 2)))
      ((F_wlvlaw15_first).bind fun b47 =>
        some ((((((((b47 && (x39.2 == 0)) && (x40.2 == 0)) && (x41.2 == 0)) && (x39.1 == l37)) && (x40.1 == l37)) && (x41.1 == l37)) && (x42.2 == 2)) && (x43.2 == 2)))))
noncomputable def F_wlvlaw15_AddrShort_J9 (l1 : List Int) (i2 : Int) (i3 : Int) (s : List Int × List Int × List Int) : Option (Bool) :=
  let l23 := s.1; let s24 := s.2.1; let s25 := s.2.2
  joinC (S := List Int × List Int) (R := Bool)
  (loopC (S := List Int × List Int × Int) (R := (Bool) ⊕ (List Int × List Int)) (F_wlvlaw15_AddrShort_L29 l1 i2 i3) (l23, ([] : List Int), 0))
  (F_wlvlaw15_AddrShort_J27 s24 s25)
noncomputable def F_wlvlaw15_AddrShort (l1 : List Int) (i2 : Int) (i3 : Int) : Option (Bool) :=
  (F_wlvlaw15_first).bind fun b4 =>
  cond (!b4)
  (some false)
  (cond (((((l1.length : Int) != 8) || (decide (i2 < 0))) || (decide (i3 ≤ i2))) || (decide (i3 > 8)))
    ((F_wlvlaw15_first).bind fun b5 =>
      some b5)
    (joinC (S := List Int × List Int × List Int) (R := Bool)
      (loopC (S := List Int × List Int × List Int × Int) (R := (Bool) ⊕ (List Int × List Int × List Int)) (F_wlvlaw15_AddrShort_L11 l1 i2 i3) (([] : List Int), ([] : List Int), ([] : List Int), 0))
      (F_wlvlaw15_AddrShort_J9 l1 i2 i3)))
def F_wlvlaw15_AddrShort_sig : Sig := ⟨[.v false [.d (.sl (.int .i64))], .v false [.d (.int .i64)], .v false [.d (.int .i64)]], [(false, [.d .bool])]⟩
def F_wlvlaw15_AddrShort_ann : List (Nat × Ann) := [(9, ⟨10, [(7, false, [.own 5 (.int .u8)]), (8, false, [.d .str]), (9, false, [.d .str])], [], [6, 10, 11, 44, 45, 46, 47, 48, 49, 50, 51, 52, 53, 54, 55, 56, 57, 58, 59, 60, 61, 62, 63, 64, 65, 66, 67, 68, 69, 70, 71, 72, 73, 74, 75, 76, 77, 78, 79, 80, 81, 82, 83, 84, 85, 86, 87, 88, 89, 90, 91, 92, 93, 94], []⟩), (11, ⟨12, [(7, false, [.own 5 (.int .u8)]), (8, false, [.d .str]), (9, false, [.d .str]), (10, false, [.d (.int .i64)])], [], [6, 11, 44, 45, 46, 47, 48, 49, 50, 51, 52, 53, 54, 55, 56, 57, 58, 59, 60, 61, 62, 63, 64, 65, 66, 67, 68, 69, 70, 71, 72, 73, 74, 75, 76, 77, 78, 79, 80, 81, 82, 83, 84, 85, 86, 87, 88, 89, 90, 91, 92, 93, 94], []⟩), (27, ⟨28, [(7, false, [.own 5 (.int .u8)]), (12, false, [.d .str])], [], [13, 95, 96, 97, 98, 99, 100, 101, 102, 103, 104, 105, 106, 107, 108, 109, 110, 111, 112, 113, 114, 115, 116, 117, 118, 119, 120, 121, 122, 123, 124, 125, 126, 127], []⟩), (29, ⟨30, [(7, false, [.own 5 (.int .u8)]), (12, false, [.d .str]), (13, false, [.d (.int .i64)])], [], [95, 96, 97, 98, 99, 100, 101, 102, 103, 104, 105, 106, 107, 108, 109, 110, 111, 112, 113, 114, 115, 116, 117, 118, 119, 120, 121, 122, 123, 124, 125, 126, 127], []⟩)]
noncomputable def F_wlvlaw15_AddrShort_env : Env := ⟨Tryd.prog, [(24, ⟨F_wlvlaw15_first_sig, ⟨F_wlvlaw15_first⟩⟩), (25, ⟨F_wlvlaw15_hex_sig, ⟨F_wlvlaw15_hex⟩⟩), (26, ⟨F_addr_Parse_sig, ⟨F_addr_Parse⟩⟩), (27, ⟨F_wlvref15_Mapped_sig, ⟨F_wlvref15_Mapped⟩⟩)], []⟩
set_option maxRecDepth 100000 in
theorem F_wlvlaw15_AddrShort_text : pvFn F_wlvlaw15_AddrShort_env F_wlvlaw15_AddrShort_ann Tryd.f6 F_wlvlaw15_AddrShort_sig = F_wlvlaw15_AddrShort := by kernel_rfl
noncomputable def F_addr_kept_L4 (s1 : List Int) (i2 : Int) (s : Int × List Int) : Option (((List Int) ⊕ (List Int)) ⊕ (Int × List Int)) :=
  let i3 := s.1; let l4 := s.2
  cond (decide (i3 < (s1.length : Int)))
  (chk (decide (0 ≤ i3) && decide (i3 < (s1.length : Int)))
    ((getI l4 i3).bind fun i5 =>
      chk (decide (0 ≤ (minI (maxI (IntKind.i64.wrap (i2 - (IntKind.i64.wrap (8 * i3)))) 0) 8)))
      (chk (decide (0 ≤ i3) && decide (i3 < (s1.length : Int)))
        (chk (decide (i3 < (l4.length : Int)))
          (some (.inr ((IntKind.i64.wrap (i3 + 1)), (l4.set (i3).toNat (bits .and .u8 i5 (IntKind.u8.wrap (Int.fdiv 65280 (2 ^ (min ((minI (maxI (IntKind.i64.wrap (i2 - (IntKind.i64.wrap (8 * i3)))) 0) 8)).toNat 64)))))))))))))
  (some (.inl (.inr l4)))
noncomputable def F_addr_kept_J2 (s1 : List Int) (s : List Int) : Option (List Int) :=
  let l6 := s
  chk (Nat.ble s1.length (List.length l6))
  (some (List.take s1.length l6))
noncomputable def F_addr_kept (s1 : List Int) (i2 : Int) : Option (List Int) :=
  joinC (S := List Int) (R := List Int)
  (loopC (S := Int × List Int) (R := (List Int) ⊕ (List Int)) (F_addr_kept_L4 s1 i2) (0, s1))
  (F_addr_kept_J2 s1)
def F_addr_kept_sig : Sig := ⟨[.v false [.d .str], .v false [.d (.int .i64)]], [(false, [.d .str])]⟩
def F_addr_kept_ann : List (Nat × Ann) := [(2, ⟨3, [], [(9, [.row (.int .u8)])], [6, 7, 10, 11, 12, 13, 14, 15, 16, 17, 18, 19, 20, 21, 22, 23, 24, 25, 26, 27, 28, 29, 30], []⟩), (4, ⟨5, [(12, false, [.d (.int .i64)])], [(9, [.row (.int .u8)])], [6, 7, 13, 14, 15, 16, 17, 18, 19, 20, 21, 22, 23, 24, 25, 26, 27, 28, 29, 30], []⟩)]
noncomputable def F_addr_kept_env : Env := ⟨Tryd.prog, [], [9]⟩
set_option maxRecDepth 100000 in
theorem F_addr_kept_text : pvFn F_addr_kept_env F_addr_kept_ann Tryd.f62 F_addr_kept_sig = F_addr_kept := by kernel_rfl
noncomputable def F_addr_In (s1 : List Int) (i2 : Int) (s3 : List Int) : Option (Bool) :=
  cond ((s1.length : Int) == 4)
  (cond ((s3.length : Int) == (s1.length : Int))
    (cond (decide (i2 ≥ 0))
      (cond (decide (i2 ≤ (IntKind.i64.wrap (8 * (s3.length : Int)))))
        ((F_addr_kept s3 i2).bind fun s4 =>
          (F_addr_kept s1 i2).bind fun s5 =>
          some (s4 == s5))
        (some false))
      (some false))
    (some false))
  (cond ((s1.length : Int) == 16)
    (cond ((s3.length : Int) == (s1.length : Int))
      (cond (decide (i2 ≥ 0))
        (cond (decide (i2 ≤ (IntKind.i64.wrap (8 * (s3.length : Int)))))
          ((F_addr_kept s3 i2).bind fun s6 =>
            (F_addr_kept s1 i2).bind fun s7 =>
            some (s6 == s7))
          (some false))
        (some false))
      (some false))
    (some false))
def F_addr_In_sig : Sig := ⟨[.v true [.d .str, .d (.int .i64)], .v false [.d .str]], [(false, [.d .bool])]⟩
def F_addr_In_ann : List (Nat × Ann) := []
noncomputable def F_addr_In_env : Env := ⟨Tryd.prog, [(62, ⟨F_addr_kept_sig, ⟨F_addr_kept⟩⟩)], []⟩
set_option maxRecDepth 100000 in
theorem F_addr_In_text : pvFn F_addr_In_env F_addr_In_ann Tryd.f28 F_addr_In_sig = F_addr_In := by kernel_rfl
noncomputable def F_wlvlaw15_AddrNets_L10 (s1 : List Int) (s2 : List Int) (s : Int × List Int × Int × List Int × Int) : Option (((Bool) ⊕ (Int × List Int × Int × List Int × Int)) ⊕ (Int × List Int × Int × List Int × Int)) :=
  let i7 := s.1; let s8 := s.2.1; let i9 := s.2.2.1; let s10 := s.2.2.2.1; let i11 := s.2.2.2.2
  cond (decide (i7 < (IntKind.i64.wrap (8 * (s1.length : Int)))))
  ((getI s1 (IntKind.i64.wrap (Int.tdiv i7 8))).bind fun i12 =>
    (getI s2 (IntKind.i64.wrap (Int.tdiv i7 8))).bind fun i13 =>
    chk (decide (0 ≤ (IntKind.u64.wrap (IntKind.i64.wrap (7 - (Int.tmod i7 8))))))
    (cond ((bits .and .u8 (Int.fdiv (bits .xor .u8 i12 i13) (2 ^ (min ((IntKind.u64.wrap (IntKind.i64.wrap (7 - (Int.tmod i7 8))))).toNat 8))) 1) == 0)
      (some (.inr ((IntKind.i64.wrap (i7 + 1)), s8, i9, s10, i11)))
      (some (.inl (.inr (i7, s8, i9, s10, i11))))))
  (some (.inl (.inr (i7, s8, i9, s10, i11))))
noncomputable def F_wlvlaw15_AddrNets_J9 (s1 : List Int) (s2 : List Int) (i3 : Int) (i4 : Int) (s : Int × List Int × Int × List Int × Int) : Option (Bool) :=
  let i14 := s.1; let s15 := s.2.1; let i16 := s.2.2.1; let s17 := s.2.2.2.1; let i18 := s.2.2.2.2
  (F_addr_In s17 i18 s2).bind fun b19 =>
  cond b19
  ((F_addr_In s15 i16 s2).bind fun b20 =>
    cond (!b20)
    (some false)
    ((F_addr_In s15 i16 s2).bind fun b21 =>
      cond (!(bEq b21 (decide (i14 ≥ i3))))
      (some false)
      ((F_addr_In s17 i18 s2).bind fun b22 =>
        cond (!(bEq b22 (decide (i14 ≥ i4))))
        (some false)
        ((F_wlvlaw15_first).bind fun b23 =>
          cond b23
          ((cutI s2 0 3).bind fun s24 =>
            (F_addr_In s15 i16 s24).bind fun b25 =>
            cond (!b25)
            ((F_addr_In s1 (-1) s1).bind fun b26 =>
              cond (!b26)
              ((F_addr_In s1 (IntKind.i64.wrap ((IntKind.i64.wrap (8 * (s1.length : Int))) + 1)) s1).bind fun b27 =>
                cond (!b27)
                ((F_addr_In s1 0 s2).bind fun b28 =>
                  some b28)
                (some false))
              (some false))
            (some false))
          (some false)))))
  ((F_addr_In s15 i16 s2).bind fun b29 =>
    cond (!(bEq b29 (decide (i14 ≥ i3))))
    (some false)
    ((F_addr_In s17 i18 s2).bind fun b30 =>
      cond (!(bEq b30 (decide (i14 ≥ i4))))
      (some false)
      ((F_wlvlaw15_first).bind fun b31 =>
        cond b31
        ((cutI s2 0 3).bind fun s32 =>
          (F_addr_In s15 i16 s32).bind fun b33 =>
          cond (!b33)
          ((F_addr_In s1 (-1) s1).bind fun b34 =>
            cond (!b34)
            ((F_addr_In s1 (IntKind.i64.wrap ((IntKind.i64.wrap (8 * (s1.length : Int))) + 1)) s1).bind fun b35 =>
              cond (!b35)
              ((F_addr_In s1 0 s2).bind fun b36 =>
                some b36)
              (some false))
            (some false))
          (some false))
        (some false))))
noncomputable def F_wlvlaw15_AddrNets (s1 : List Int) (s2 : List Int) (i3 : Int) (i4 : Int) : Option (Bool) :=
  (F_wlvlaw15_first).bind fun b5 =>
  cond (!b5)
  (some false)
  (cond (((((((s1.length : Int) != 4) && ((s1.length : Int) != 16)) || ((s2.length : Int) != (s1.length : Int))) || (decide (i3 < 0))) || (decide (i4 < i3))) || (decide (i4 > (IntKind.i64.wrap (8 * (s1.length : Int))))))
    ((F_wlvlaw15_first).bind fun b6 =>
      some b6)
    (joinC (S := Int × List Int × Int × List Int × Int) (R := Bool)
      (loopC (S := Int × List Int × Int × List Int × Int) (R := (Bool) ⊕ (Int × List Int × Int × List Int × Int)) (F_wlvlaw15_AddrNets_L10 s1 s2) (0, s1, i3, s1, i4))
      (F_wlvlaw15_AddrNets_J9 s1 s2 i3 i4)))
def F_wlvlaw15_AddrNets_sig : Sig := ⟨[.v false [.d .str], .v false [.d .str], .v false [.d (.int .i64)], .v false [.d (.int .i64)]], [(false, [.d .bool])]⟩
def F_wlvlaw15_AddrNets_ann : List (Nat × Ann) := [(9, ⟨10, [(11, false, [.d (.int .i64)])], [(9, [.d .str, .d (.int .i64)]), (10, [.d .str, .d (.int .i64)])], [52, 53, 54, 55, 56, 57, 58, 59, 60, 61, 62, 63, 64, 65, 66, 67, 68, 69, 70, 71, 72, 73, 74, 75, 76], []⟩), (10, ⟨11, [(11, false, [.d (.int .i64)])], [(9, [.d .str, .d (.int .i64)]), (10, [.d .str, .d (.int .i64)])], [52, 53, 54, 55, 56, 57, 58, 59, 60, 61, 62, 63, 64, 65, 66, 67, 68, 69, 70, 71, 72, 73, 74, 75, 76], []⟩)]
noncomputable def F_wlvlaw15_AddrNets_env : Env := ⟨Tryd.prog, [(24, ⟨F_wlvlaw15_first_sig, ⟨F_wlvlaw15_first⟩⟩), (28, ⟨F_addr_In_sig, ⟨F_addr_In⟩⟩)], []⟩
set_option maxRecDepth 100000 in
theorem F_wlvlaw15_AddrNets_text : pvFn F_wlvlaw15_AddrNets_env F_wlvlaw15_AddrNets_ann Tryd.f7 F_wlvlaw15_AddrNets_sig = F_wlvlaw15_AddrNets := by kernel_rfl
noncomputable def F_host_sign (i1 : Int) : Option (Int) :=
  cond ((decide (i1 ≥ 65)) && (decide (i1 ≤ 90)))
  (some (IntKind.u8.wrap ((IntKind.u8.wrap (i1 + 97)) - 65)))
  (cond ((decide (i1 ≥ 97)) && (decide (i1 ≤ 122)))
    (cond ((decide (i1 ≥ 97)) && (decide (i1 ≤ 122)))
      (some i1)
      (some 0))
    (cond ((decide (i1 ≥ 48)) && (decide (i1 ≤ 57)))
      (cond ((decide (i1 ≥ 48)) && (decide (i1 ≤ 57)))
        (some i1)
        (some 0))
      (cond (i1 == 45)
        (cond (i1 == 45)
          (some i1)
          (some 0))
        (cond (i1 == 95)
          (some i1)
          (some 0)))))
def F_host_sign_sig : Sig := ⟨[.v false [.d (.int .u8)]], [(false, [.d (.int .u8)])]⟩
def F_host_sign_ann : List (Nat × Ann) := []
noncomputable def F_host_sign_env : Env := ⟨Tryd.prog, [], []⟩
set_option maxRecDepth 100000 in
theorem F_host_sign_text : pvFn F_host_sign_env F_host_sign_ann Tryd.f69 F_host_sign_sig = F_host_sign := by kernel_rfl
noncomputable def F_host_Name_G1_2 (s1 : List Int) (s : List Int × Int × Int) : Option ((List Int × Int) ⊕ (Nat × List Int × Int × Int)) :=
  let l5 := s.1; let i6 := s.2.1; let i7 := s.2.2
  cond (i6 == (s1.length : Int))
  (some (.inr (1, (l5, i6, i7))))
  ((getI s1 i6).bind fun i8 =>
    cond (i8 == 46)
    (some (.inr (1, (l5, i6, i7))))
    ((getI s1 i6).bind fun i9 =>
      (F_host_sign i9).bind fun i10 =>
      cond ((i10 == 0) || (i7 == 63))
      (some (.inr (0, (l5, i6, i7))))
      (cond ((i10 == 45) && (i7 == 0))
        (some (.inr (0, (l5, i6, i7))))
        (chk (decide ((l5.length + ([i10] : List Int).length) * 1 ≤ 140737488355328) && decide (l5.length + ([i10] : List Int).length ≤ maxLen))
          (some (.inr (2, ((l5 ++ ([i10] : List Int)), (IntKind.i64.wrap (i6 + 1)), (IntKind.i64.wrap (i7 + 1))))))))))
noncomputable def F_host_Name_G1_1 (s1 : List Int) (s : List Int × Int × Int) : Option ((List Int × Int) ⊕ (Nat × List Int × Int × Int)) :=
  let l5 := s.1; let i6 := s.2.1; let i7 := s.2.2
  cond (i7 == 0)
  (some (.inr (0, (l5, i6, i7))))
  ((getI l5 (IntKind.i64.wrap ((l5.length : Int) - 1))).bind fun i11 =>
    cond (i11 == 45)
    (some (.inr (0, (l5, i6, i7))))
    (cond (i6 == (s1.length : Int))
      (some (.inl (l5, 0)))
      (chk (decide ((l5.length + ([46] : List Int).length) * 1 ≤ 140737488355328) && decide (l5.length + ([46] : List Int).length ≤ maxLen))
        (some (.inr (2, ((l5 ++ ([46] : List Int)), (IntKind.i64.wrap (i6 + 1)), 0)))))))
noncomputable def F_host_Name_G1_0 (s : List Int × Int × Int) : Option ((List Int × Int) ⊕ (Nat × List Int × Int × Int)) :=
  let l5 := s.1; let i6 := s.2.1; let i7 := s.2.2
  some (.inl (([] : List Int), 2))
noncomputable def F_host_Name_G1 (s1 : List Int) (p : Nat × List Int × Int × Int) : Option ((List Int × Int) ⊕ (Nat × List Int × Int × Int)) :=
  cond (hasN [2] p.1) (F_host_Name_G1_2 s1 p.2) (cond (hasN [1] p.1) (F_host_Name_G1_1 s1 p.2) (cond (hasN [0] p.1) (F_host_Name_G1_0 p.2) (none)))
noncomputable def F_host_Name (s1 : List Int) : Option (List Int × Int) :=
  joinC (S := Nat × List Int × Int × Int) (R := List Int × Int)
  (cond (decide ((s1.length : Int) > 253))
    (some (.inr (0, (([] : List Int), 0, 0))))
    (cond (0 == (s1.length : Int))
      (some (.inr (1, (([] : List Int), 0, 0))))
      ((getI s1 0).bind fun i2 =>
        cond (i2 == 46)
        (some (.inr (1, (([] : List Int), 0, 0))))
        ((getI s1 0).bind fun i3 =>
          (F_host_sign i3).bind fun i4 =>
          cond ((i4 == 0) || false)
          (some (.inr (0, (([] : List Int), 0, 0))))
          (cond ((i4 == 45) && true)
            (some (.inr (0, (([] : List Int), 0, 0))))
            (chk (decide ((([] : List Int).length + ([i4] : List Int).length) * 1 ≤ 140737488355328) && decide (([] : List Int).length + ([i4] : List Int).length ≤ maxLen))
              (some (.inr (2, ((([] : List Int) ++ ([i4] : List Int)), (IntKind.i64.wrap (0 + 1)), (IntKind.i64.wrap (0 + 1))))))))))))
  (fun p => loopC (S := Nat × List Int × Int × Int) (R := List Int × Int) (F_host_Name_G1 s1) p)
def F_host_Name_sig : Sig := ⟨[.v false [.d .str]], [(false, [.d .str]), (false, [.d (.int .i64)])]⟩
def F_host_Name_ann : List (Nat × Ann) := [(1, ⟨2, [(4, false, [.own 5 (.int .u8)]), (5, false, [.d (.int .i64)]), (6, false, [.d (.int .i64)])], [], [2, 3, 7, 8, 9, 10, 11, 12, 13, 14, 15, 16, 17, 18, 19, 20, 21, 22, 23, 24, 25, 26, 27, 28, 29, 30, 31, 32, 33, 34, 35, 36, 37, 38, 39, 40, 41, 42, 43, 44, 45, 46, 47, 48, 49, 50, 51, 52, 53, 54, 55, 56, 57, 58, 59, 60, 61, 62, 63, 64, 65, 66, 67, 68], []⟩)]
noncomputable def F_host_Name_env : Env := ⟨Tryd.prog, [(69, ⟨F_host_sign_sig, ⟨F_host_sign⟩⟩)], []⟩
set_option maxRecDepth 100000 in
theorem F_host_Name_text : pvFn F_host_Name_env F_host_Name_ann Tryd.f32 F_host_Name_sig = F_host_Name := by kernel_rfl
noncomputable def F_internal_stringslite_HasSuffix (s1 : List Int) (s2 : List Int) : Option (Bool) :=
  cond (decide ((s1.length : Int) ≥ (s2.length : Int)))
  ((cutI s1 (IntKind.i64.wrap ((s1.length : Int) - (s2.length : Int))) (s1.length : Int)).bind fun s3 =>
    some (s3 == s2))
  (some false)
def F_internal_stringslite_HasSuffix_sig : Sig := ⟨[.v false [.d .str], .v false [.d .str]], [(false, [.d .bool])]⟩
def F_internal_stringslite_HasSuffix_ann : List (Nat × Ann) := []
noncomputable def F_internal_stringslite_HasSuffix_env : Env := ⟨Tryd.prog, [], []⟩
set_option maxRecDepth 100000 in
theorem F_internal_stringslite_HasSuffix_text : pvFn F_internal_stringslite_HasSuffix_env F_internal_stringslite_HasSuffix_ann Tryd.f134 F_internal_stringslite_HasSuffix_sig = F_internal_stringslite_HasSuffix := by kernel_rfl
noncomputable def F_strings_HasSuffix (s1 : List Int) (s2 : List Int) : Option (Bool) :=
  (F_internal_stringslite_HasSuffix s1 s2).bind fun b3 =>
  some b3
def F_strings_HasSuffix_sig : Sig := ⟨[.v false [.d .str], .v false [.d .str]], [(false, [.d .bool])]⟩
def F_strings_HasSuffix_ann : List (Nat × Ann) := []
noncomputable def F_strings_HasSuffix_env : Env := ⟨Tryd.prog, [(134, ⟨F_internal_stringslite_HasSuffix_sig, ⟨F_internal_stringslite_HasSuffix⟩⟩)], []⟩
set_option maxRecDepth 100000 in
theorem F_strings_HasSuffix_text : pvFn F_strings_HasSuffix_env F_strings_HasSuffix_ann Tryd.f98 F_strings_HasSuffix_sig = F_strings_HasSuffix := by kernel_rfl
noncomputable def F_host_place (s1 : List Int) : Option (List Int × List Int × Bool) :=
  (F_strings_HasPrefix s1 ([91] : List Int)).bind fun b2 =>
  cond b2
  ((F_strings_HasSuffix s1 ([93] : List Int)).bind fun b3 =>
    cond b3
    ((F_strings_Contains s1 ([58] : List Int)).bind fun b4 =>
      cond b4
      ((cutI s1 1 (IntKind.i64.wrap ((s1.length : Int) - 1))).bind fun s5 =>
        (F_addr_Parse s5).bind fun x6 =>
        some (([] : List Int), x6.1, (x6.2 == 0)))
      ((F_addr_Parse s1).bind fun x7 =>
        cond ((x7.2 == 0) && ((x7.1.length : Int) == 4))
        ((F_strings_Contains s1 ([58] : List Int)).bind fun b8 =>
          cond (!b8)
          (some (([] : List Int), x7.1, true))
          ((F_host_Name s1).bind fun x9 =>
            some (x9.1, ([] : List Int), (x9.2 == 0))))
        ((F_host_Name s1).bind fun x10 =>
          some (x10.1, ([] : List Int), (x10.2 == 0)))))
    ((F_addr_Parse s1).bind fun x11 =>
      cond ((x11.2 == 0) && ((x11.1.length : Int) == 4))
      ((F_strings_Contains s1 ([58] : List Int)).bind fun b12 =>
        cond (!b12)
        (some (([] : List Int), x11.1, true))
        ((F_host_Name s1).bind fun x13 =>
          some (x13.1, ([] : List Int), (x13.2 == 0))))
      ((F_host_Name s1).bind fun x14 =>
        some (x14.1, ([] : List Int), (x14.2 == 0)))))
  ((F_addr_Parse s1).bind fun x15 =>
    cond ((x15.2 == 0) && ((x15.1.length : Int) == 4))
    ((F_strings_Contains s1 ([58] : List Int)).bind fun b16 =>
      cond (!b16)
      (some (([] : List Int), x15.1, true))
      ((F_host_Name s1).bind fun x17 =>
        some (x17.1, ([] : List Int), (x17.2 == 0))))
    ((F_host_Name s1).bind fun x18 =>
      some (x18.1, ([] : List Int), (x18.2 == 0))))
def F_host_place_sig : Sig := ⟨[.v false [.d .str]], [(true, [.d .str, .d .str]), (false, [.d .bool])]⟩
def F_host_place_ann : List (Nat × Ann) := []
noncomputable def F_host_place_env : Env := ⟨Tryd.prog, [(26, ⟨F_addr_Parse_sig, ⟨F_addr_Parse⟩⟩), (32, ⟨F_host_Name_sig, ⟨F_host_Name⟩⟩), (91, ⟨F_strings_HasPrefix_sig, ⟨F_strings_HasPrefix⟩⟩), (98, ⟨F_strings_HasSuffix_sig, ⟨F_strings_HasSuffix⟩⟩), (99, ⟨F_strings_Contains_sig, ⟨F_strings_Contains⟩⟩)], []⟩
set_option maxRecDepth 100000 in
theorem F_host_place_text : pvFn F_host_place_env F_host_place_ann Tryd.f65 F_host_place_sig = F_host_place := by kernel_rfl
noncomputable def F_host_Authority (s1 : List Int) : Option (List Int × List Int × Int × Int) :=
  (F_strings_LastIndexByte s1 58).bind fun i2 =>
  cond (decide (i2 < 0))
  (some (([] : List Int), ([] : List Int), 0, 2))
  ((cutI s1 (IntKind.i64.wrap (i2 + 1)) (s1.length : Int)).bind fun s3 =>
    (F_strconv_Atoi s3).bind fun x4 =>
    (cutI s1 0 i2).bind fun s5 =>
    (F_host_place s5).bind fun x6 =>
    cond ((((!x6.2.2) || x4.2) || (decide (x4.1 < 1))) || (decide (x4.1 > 65535)))
    (some (([] : List Int), ([] : List Int), 0, 2))
    ((F_strconv_Itoa x4.1).bind fun s7 =>
      (cutI s1 (IntKind.i64.wrap (i2 + 1)) (s1.length : Int)).bind fun s8 =>
      cond (!(s7 == s8))
      (some (([] : List Int), ([] : List Int), 0, 2))
      (some (x6.1, x6.2.1, x4.1, 0))))
def F_host_Authority_sig : Sig := ⟨[.v false [.d .str]], [(true, [.d .str, .d .str]), (false, [.d (.int .i64)]), (false, [.d (.int .i64)])]⟩
def F_host_Authority_ann : List (Nat × Ann) := []
noncomputable def F_host_Authority_env : Env := ⟨Tryd.prog, [(63, ⟨F_strings_LastIndexByte_sig, ⟨F_strings_LastIndexByte⟩⟩), (64, ⟨F_strconv_Atoi_sig, ⟨F_strconv_Atoi⟩⟩), (65, ⟨F_host_place_sig, ⟨F_host_place⟩⟩), (66, ⟨F_strconv_Itoa_sig, ⟨F_strconv_Itoa⟩⟩)], []⟩
set_option maxRecDepth 100000 in
theorem F_host_Authority_text : pvFn F_host_Authority_env F_host_Authority_ann Tryd.f30 F_host_Authority_sig = F_host_Authority := by kernel_rfl
noncomputable def F_wlvlaw16_first : Option (Bool) :=
  (F_host_Authority ([69, 120, 97, 109, 112, 108, 101, 46, 111, 114, 103, 58, 52, 52, 51] : List Int)).bind fun x1 =>
  cond (x1.2.2.2 == 0)
  (cond (x1.1 == ([101, 120, 97, 109, 112, 108, 101, 46, 111, 114, 103] : List Int))
    (some ((x1.2.1 == ([] : List Int)) && (x1.2.2.1 == 443)))
    (some false))
  (some false)
def F_wlvlaw16_first_sig : Sig := ⟨[], [(false, [.d .bool])]⟩
def F_wlvlaw16_first_ann : List (Nat × Ann) := []
noncomputable def F_wlvlaw16_first_env : Env := ⟨Tryd.prog, [(30, ⟨F_host_Authority_sig, ⟨F_host_Authority⟩⟩)], []⟩
set_option maxRecDepth 100000 in
theorem F_wlvlaw16_first_text : pvFn F_wlvlaw16_first_env F_wlvlaw16_first_ann Tryd.f29 F_wlvlaw16_first_sig = F_wlvlaw16_first := by kernel_rfl
noncomputable def F_wlvref_Lower_L4 (s1 : List Int) (s : Int × List Int) : Option (((List Int) ⊕ (List Int)) ⊕ (Int × List Int)) :=
  let i2 := s.1; let l3 := s.2
  cond (decide (i2 < (s1.length : Int)))
  (chk (decide (0 ≤ i2) && decide (i2 < (s1.length : Int)))
    ((getI l3 i2).bind fun i4 =>
      cond (decide (i4 ≥ 65))
      (chk (decide (0 ≤ i2) && decide (i2 < (s1.length : Int)))
        ((getI l3 i2).bind fun i5 =>
          cond (decide (i5 ≤ 90))
          (chk (decide (0 ≤ i2) && decide (i2 < (s1.length : Int)))
            ((getI l3 i2).bind fun i6 =>
              chk (decide (0 ≤ i2) && decide (i2 < (s1.length : Int)))
              (chk (decide (i2 < (l3.length : Int)))
                (some (.inr ((IntKind.i64.wrap (i2 + 1)), (l3.set (i2).toNat (IntKind.u8.wrap (i6 + 32)))))))))
          (some (.inr ((IntKind.i64.wrap (i2 + 1)), l3)))))
      (some (.inr ((IntKind.i64.wrap (i2 + 1)), l3)))))
  (some (.inl (.inr l3)))
noncomputable def F_wlvref_Lower_J2 (s1 : List Int) (s : List Int) : Option (List Int) :=
  let l7 := s
  chk (Nat.ble s1.length (List.length l7))
  (some (List.take s1.length l7))
noncomputable def F_wlvref_Lower (s1 : List Int) : Option (List Int) :=
  joinC (S := List Int) (R := List Int)
  (loopC (S := Int × List Int) (R := (List Int) ⊕ (List Int)) (F_wlvref_Lower_L4 s1) (0, s1))
  (F_wlvref_Lower_J2 s1)
def F_wlvref_Lower_sig : Sig := ⟨[.v false [.d .str]], [(false, [.d .str])]⟩
def F_wlvref_Lower_ann : List (Nat × Ann) := [(2, ⟨3, [], [(6, [.row (.int .u8)])], [4, 7, 8, 9, 10, 11, 12, 13, 14, 15, 16, 17, 18, 19, 20, 21, 22, 23, 24, 25, 26, 27, 28, 29, 30], []⟩), (4, ⟨5, [(4, false, [.d (.int .i64)])], [(6, [.row (.int .u8)])], [7, 8, 9, 10, 11, 12, 13, 14, 15, 16, 17, 18, 19, 20, 21, 22, 23, 24, 25, 26, 27, 28, 29, 30], []⟩)]
noncomputable def F_wlvref_Lower_env : Env := ⟨Tryd.prog, [], [6]⟩
set_option maxRecDepth 100000 in
theorem F_wlvref_Lower_text : pvFn F_wlvref_Lower_env F_wlvref_Lower_ann Tryd.f52 F_wlvref_Lower_sig = F_wlvref_Lower := by kernel_rfl
noncomputable def F_wlvref_Split_L5 (s1 : List Int) (i2 : Int) (s : List (List Int) × Int × Int) : Option (((List (List Int)) ⊕ (List (List Int))) ⊕ (List (List Int) × Int × Int)) :=
  let l3 := s.1; let i4 := s.2.1; let i5 := s.2.2
  cond (decide (i5 ≤ (s1.length : Int)))
  (cond (i5 == (s1.length : Int))
    ((cutI s1 i4 i5).bind fun s6 =>
      chk (decide ((l3.length + ([s6] : List (List Int)).length) * 16 ≤ 140737488355328) && decide (l3.length + ([s6] : List (List Int)).length ≤ maxLen))
      (some (.inr ((l3 ++ ([s6] : List (List Int))), (IntKind.i64.wrap (i5 + 1)), (IntKind.i64.wrap (i5 + 1))))))
    ((getI s1 i5).bind fun i7 =>
      cond (i7 == i2)
      ((cutI s1 i4 i5).bind fun s8 =>
        chk (decide ((l3.length + ([s8] : List (List Int)).length) * 16 ≤ 140737488355328) && decide (l3.length + ([s8] : List (List Int)).length ≤ maxLen))
        (some (.inr ((l3 ++ ([s8] : List (List Int))), (IntKind.i64.wrap (i5 + 1)), (IntKind.i64.wrap (i5 + 1))))))
      (some (.inr (l3, i4, (IntKind.i64.wrap (i5 + 1)))))))
  (some (.inl (.inr l3)))
noncomputable def F_wlvref_Split_J3 (s : List (List Int)) : Option (List (List Int)) :=
  let l9 := s
  some l9
noncomputable def F_wlvref_Split (s1 : List Int) (i2 : Int) : Option (List (List Int)) :=
  joinC (S := List (List Int)) (R := List (List Int))
  (loopC (S := List (List Int) × Int × Int) (R := (List (List Int)) ⊕ (List (List Int))) (F_wlvref_Split_L5 s1 i2) (([] : List (List Int)), 0, 0))
  (F_wlvref_Split_J3)
def F_wlvref_Split_sig : Sig := ⟨[.v false [.d .str], .v false [.d (.int .u8)]], [(false, [.own 9 .str])]⟩
def F_wlvref_Split_ann : List (Nat × Ann) := [(3, ⟨4, [(5, false, [.own 9 .str])], [], [6, 7, 8, 9, 10, 11, 12, 13, 14, 15, 16, 17, 18, 19, 20, 21, 22, 23, 24, 25, 26, 27, 28, 29, 30, 31, 32, 33], []⟩), (5, ⟨6, [(5, false, [.own 9 .str]), (6, false, [.d (.int .i64)]), (7, false, [.d (.int .i64)])], [], [8, 9, 10, 11, 12, 13, 14, 15, 16, 17, 18, 19, 20, 21, 22, 23, 24, 25, 26, 27, 28, 29, 30, 31, 32, 33], []⟩)]
noncomputable def F_wlvref_Split_env : Env := ⟨Tryd.prog, [], []⟩
set_option maxRecDepth 100000 in
theorem F_wlvref_Split_text : pvFn F_wlvref_Split_env F_wlvref_Split_ann Tryd.f70 F_wlvref_Split_sig = F_wlvref_Split := by kernel_rfl
noncomputable def F_wlvref15_Name_L17 (s6 : List Int) (s : List (List Int) × Int) : Option (((((List Int × Int) ⊕ (Unit)) ⊕ (List (List Int) × Int)) ⊕ (List (List Int))) ⊕ (List (List Int) × Int)) :=
  let l9 := s.1; let i10 := s.2
  cond (decide (i10 < (s6.length : Int)))
  ((getI s6 i10).bind fun i11 =>
    cond ((decide (i11 < 97)) || (decide (i11 > 122)))
    (cond ((((decide (i11 < 48)) || (decide (i11 > 57))) && (i11 != 45)) && (i11 != 95))
      (some (.inl (.inl (.inl (.inl (([] : List Int), 2))))))
      (some (.inr (l9, (IntKind.i64.wrap (i10 + 1))))))
    (some (.inr (l9, (IntKind.i64.wrap (i10 + 1))))))
  (some (.inl (.inr l9)))
noncomputable def F_wlvref15_Name_J11 (i5 : Int) (s : List (List Int)) : Option (((List Int × Int) ⊕ (Unit)) ⊕ (List (List Int) × Int)) :=
  let l12 := s
  some (.inr (l12, (IntKind.i64.wrap (i5 + 1))))
noncomputable def F_wlvref15_Name_L8 (s : List (List Int) × Int) : Option (((List Int × Int) ⊕ (Unit)) ⊕ (List (List Int) × Int)) :=
  let l4 := s.1; let i5 := s.2
  cond (decide (i5 < (l4.length : Int)))
  (joinC (S := List (List Int)) (R := ((List Int × Int) ⊕ (Unit)) ⊕ (List (List Int) × Int))
    ((getI l4 i5).bind fun s6 =>
      cond ((decide ((s6.length : Int) < 1)) || (decide ((s6.length : Int) > 63)))
      (some (.inl (.inl (.inl (([] : List Int), 2)))))
      ((getI s6 0).bind fun i7 =>
        cond (i7 == 45)
        (some (.inl (.inl (.inl (([] : List Int), 2)))))
        ((getI s6 (IntKind.i64.wrap ((s6.length : Int) - 1))).bind fun i8 =>
          cond (i8 == 45)
          (some (.inl (.inl (.inl (([] : List Int), 2)))))
          (loopC (S := List (List Int) × Int) (R := (((List Int × Int) ⊕ (Unit)) ⊕ (List (List Int) × Int)) ⊕ (List (List Int))) (F_wlvref15_Name_L17 s6) (l4, 0)))))
    (F_wlvref15_Name_J11 i5))
  (some (.inl (.inr ())))
noncomputable def F_wlvref15_Name_J6 (s2 : List Int) (s : Unit) : Option (List Int × Int) :=
  some (s2, 0)
noncomputable def F_wlvref15_Name (s1 : List Int) : Option (List Int × Int) :=
  cond ((decide ((s1.length : Int) < 1)) || (decide ((s1.length : Int) > 253)))
  (some (([] : List Int), 2))
  ((F_wlvref_Lower s1).bind fun s2 =>
    (F_wlvref_Split s2 46).bind fun l3 =>
    joinC (S := Unit) (R := List Int × Int)
    (loopC (S := List (List Int) × Int) (R := (List Int × Int) ⊕ (Unit)) (F_wlvref15_Name_L8) (l3, 0))
    (F_wlvref15_Name_J6 s2))
def F_wlvref15_Name_sig : Sig := ⟨[.v false [.d .str]], [(false, [.d .str]), (false, [.d (.int .i64)])]⟩
def F_wlvref15_Name_ann : List (Nat × Ann) := [(6, ⟨7, [], [], [2, 3, 5, 6, 7, 8, 21, 22, 23, 24, 25, 26, 27, 28, 29, 30, 31, 32, 33, 34, 35, 36, 37, 38, 39, 40, 41, 42, 43, 44, 45, 46, 47, 48, 49, 50, 51, 52, 53, 54, 55, 56, 57, 58, 59, 60, 61, 62, 63, 64, 65, 66, 67, 68, 69, 70, 71, 72, 73, 74, 75, 76, 77, 78, 79, 80, 81, 82], []⟩), (8, ⟨9, [(4, false, [.own 9 .str]), (5, false, [.d (.int .i64)])], [], [2, 3, 6, 7, 8, 21, 22, 23, 24, 25, 26, 27, 28, 29, 30, 31, 32, 33, 34, 35, 36, 37, 38, 39, 40, 41, 42, 43, 44, 45, 46, 47, 48, 49, 50, 51, 52, 53, 54, 55, 56, 57, 58, 59, 60, 61, 62, 63, 64, 65, 66, 67, 68, 69, 70, 71, 72, 73, 74, 75, 76, 77, 78, 79, 80, 81, 82], []⟩), (11, ⟨12, [(4, false, [.own 9 .str])], [], [2, 3, 6, 7, 8, 27, 28, 29, 30, 31, 32, 33, 34, 35, 36, 37, 38, 39, 40, 41, 42, 43, 44, 45, 46, 47, 48, 49, 50, 51, 52, 53, 54, 55, 56, 57, 58, 59, 60, 61, 62, 63, 64, 65, 66, 67, 68, 69, 70, 71, 72, 73, 74, 75, 76, 77, 78, 79, 80, 81, 82], []⟩), (17, ⟨18, [(4, false, [.own 9 .str]), (7, false, [.d (.int .i64)])], [], [2, 3, 8, 52, 53, 54, 55, 56, 57, 58, 59, 60, 61, 62, 63, 64, 65, 66, 67, 68, 69, 70, 71, 72, 73, 74, 75, 76, 77, 78, 79, 80, 81, 82], []⟩)]
noncomputable def F_wlvref15_Name_env : Env := ⟨Tryd.prog, [(52, ⟨F_wlvref_Lower_sig, ⟨F_wlvref_Lower⟩⟩), (70, ⟨F_wlvref_Split_sig, ⟨F_wlvref_Split⟩⟩)], []⟩
set_option maxRecDepth 100000 in
theorem F_wlvref15_Name_text : pvFn F_wlvref15_Name_env F_wlvref15_Name_ann Tryd.f33 F_wlvref15_Name_sig = F_wlvref15_Name := by kernel_rfl
noncomputable def F_wlvref_Num_L7 (s1 : List Int) (s : Int × Int) : Option (((Int × Bool) ⊕ (Int)) ⊕ (Int × Int)) :=
  let i5 := s.1; let i6 := s.2
  cond (decide (i6 < (s1.length : Int)))
  ((getI s1 i6).bind fun i7 =>
    cond (decide (i7 < 48))
    (some (.inl (.inl (0, false))))
    ((getI s1 i6).bind fun i8 =>
      cond (decide (i8 > 57))
      (some (.inl (.inl (0, false))))
      ((getI s1 i6).bind fun i9 =>
        some (.inr ((IntKind.i64.wrap ((IntKind.i64.wrap (i5 * 10)) + (IntKind.i64.wrap (IntKind.u8.wrap (i9 - 48))))), (IntKind.i64.wrap (i6 + 1)))))))
  (some (.inl (.inr i5)))
noncomputable def F_wlvref_Num_J5 (i2 : Int) (i3 : Int) (s : Int) : Option (Int × Bool) :=
  let i10 := s
  some (i10, ((decide (i10 ≥ i2)) && (decide (i10 ≤ i3))))
noncomputable def F_wlvref_Num (s1 : List Int) (i2 : Int) (i3 : Int) : Option (Int × Bool) :=
  cond ((decide ((s1.length : Int) < 1)) || (decide ((s1.length : Int) > 17)))
  (some (0, false))
  (cond (decide ((s1.length : Int) > 1))
    ((getI s1 0).bind fun i4 =>
      cond (i4 == 48)
      (some (0, false))
      (joinC (S := Int) (R := Int × Bool)
        (loopC (S := Int × Int) (R := (Int × Bool) ⊕ (Int)) (F_wlvref_Num_L7 s1) (0, 0))
        (F_wlvref_Num_J5 i2 i3)))
    (joinC (S := Int) (R := Int × Bool)
      (loopC (S := Int × Int) (R := (Int × Bool) ⊕ (Int)) (F_wlvref_Num_L7 s1) (0, 0))
      (F_wlvref_Num_J5 i2 i3)))
def F_wlvref_Num_sig : Sig := ⟨[.v false [.d .str], .v false [.d (.int .i64)], .v false [.d (.int .i64)]], [(false, [.d (.int .i64)]), (false, [.d .bool])]⟩
def F_wlvref_Num_ann : List (Nat × Ann) := [(5, ⟨6, [(8, false, [.d (.int .i64)])], [], [6, 7, 9, 28, 29, 30, 31, 32, 33, 34, 35, 36, 37, 38, 39, 40, 41, 42, 43, 44, 45, 46, 47, 48, 49, 50, 51], []⟩), (7, ⟨8, [(8, false, [.d (.int .i64)]), (9, false, [.d (.int .i64)])], [], [6, 7, 28, 29, 30, 31, 32, 33, 34, 35, 36, 37, 38, 39, 40, 41, 42, 43, 44, 45, 46, 47, 48, 49, 50, 51], []⟩)]
noncomputable def F_wlvref_Num_env : Env := ⟨Tryd.prog, [], []⟩
set_option maxRecDepth 100000 in
theorem F_wlvref_Num_text : pvFn F_wlvref_Num_env F_wlvref_Num_ann Tryd.f67 F_wlvref_Num_sig = F_wlvref_Num := by kernel_rfl
noncomputable def F_wlvref15_four_L8 (s : List (List Int) × List Int × Int) : Option (((List Int × Bool) ⊕ (List Int)) ⊕ (List (List Int) × List Int × Int)) :=
  let l3 := s.1; let l4 := s.2.1; let i5 := s.2.2
  cond (decide (i5 < 4))
  ((getI l3 i5).bind fun s6 =>
    (F_wlvref_Num s6 0 255).bind fun x7 =>
    cond (!x7.2)
    (some (.inl (.inl (([] : List Int), false))))
    (chk (decide ((l4.length + ([(IntKind.u8.wrap x7.1)] : List Int).length) * 1 ≤ 140737488355328) && decide (l4.length + ([(IntKind.u8.wrap x7.1)] : List Int).length ≤ maxLen))
      (some (.inr (l3, (l4 ++ ([(IntKind.u8.wrap x7.1)] : List Int)), (IntKind.i64.wrap (i5 + 1)))))))
  (some (.inl (.inr l4)))
noncomputable def F_wlvref15_four_J6 (s : List Int) : Option (List Int × Bool) :=
  let l8 := s
  some (l8, true)
noncomputable def F_wlvref15_four (s1 : List Int) : Option (List Int × Bool) :=
  (F_wlvref_Split s1 46).bind fun l2 =>
  cond ((l2.length : Int) != 4)
  (some (([] : List Int), false))
  (joinC (S := List Int) (R := List Int × Bool)
    (loopC (S := List (List Int) × List Int × Int) (R := (List Int × Bool) ⊕ (List Int)) (F_wlvref15_four_L8) (l2, ([] : List Int), 0))
    (F_wlvref15_four_J6))
def F_wlvref15_four_sig : Sig := ⟨[.v false [.d .str]], [(false, [.d .str]), (false, [.d .bool])]⟩
def F_wlvref15_four_ann : List (Nat × Ann) := [(6, ⟨7, [(5, false, [.own 5 (.int .u8)])], [], [2, 3, 6, 7, 8, 14, 15, 16, 17, 18, 19, 20, 21, 22, 23, 24, 25, 26, 27, 28, 29, 30, 31, 32], []⟩), (8, ⟨9, [(4, false, [.own 9 .str]), (5, false, [.own 5 (.int .u8)]), (6, false, [.d (.int .i64)])], [], [2, 3, 7, 8, 14, 15, 16, 17, 18, 19, 20, 21, 22, 23, 24, 25, 26, 27, 28, 29, 30, 31, 32], []⟩)]
noncomputable def F_wlvref15_four_env : Env := ⟨Tryd.prog, [(67, ⟨F_wlvref_Num_sig, ⟨F_wlvref_Num⟩⟩), (70, ⟨F_wlvref_Split_sig, ⟨F_wlvref_Split⟩⟩)], []⟩
set_option maxRecDepth 100000 in
theorem F_wlvref15_four_text : pvFn F_wlvref15_four_env F_wlvref15_four_ann Tryd.f68 F_wlvref15_four_sig = F_wlvref15_four := by kernel_rfl
noncomputable def F_wlvref15_group_L7 (s1 : List Int) (s : Int × Int) : Option (((Int × Bool) ⊕ (Int)) ⊕ (Int × Int)) :=
  let i2 := s.1; let i3 := s.2
  cond (decide (i3 < (s1.length : Int)))
  ((getI s1 i3).bind fun i4 =>
    cond ((decide (i4 ≥ 48)) && (decide (i4 ≤ 57)))
    (some (.inr ((IntKind.i64.wrap ((IntKind.i64.wrap (i2 * 16)) + (IntKind.i64.wrap (IntKind.u8.wrap (i4 - 48))))), (IntKind.i64.wrap (i3 + 1)))))
    (cond ((decide (i4 ≥ 97)) && (decide (i4 ≤ 102)))
      (some (.inr ((IntKind.i64.wrap ((IntKind.i64.wrap ((IntKind.i64.wrap (i2 * 16)) + (IntKind.i64.wrap (IntKind.u8.wrap (i4 - 97))))) + 10)), (IntKind.i64.wrap (i3 + 1)))))
      (cond ((decide (i4 ≥ 65)) && (decide (i4 ≤ 70)))
        (some (.inr ((IntKind.i64.wrap ((IntKind.i64.wrap ((IntKind.i64.wrap (i2 * 16)) + (IntKind.i64.wrap (IntKind.u8.wrap (i4 - 65))))) + 10)), (IntKind.i64.wrap (i3 + 1)))))
        (some (.inl (.inl (0, false)))))))
  (some (.inl (.inr i2)))
noncomputable def F_wlvref15_group_J5 (s : Int) : Option (Int × Bool) :=
  let i5 := s
  some (i5, true)
noncomputable def F_wlvref15_group (s1 : List Int) : Option (Int × Bool) :=
  cond ((decide ((s1.length : Int) < 1)) || (decide ((s1.length : Int) > 4)))
  (some (0, false))
  (joinC (S := Int) (R := Int × Bool)
    (loopC (S := Int × Int) (R := (Int × Bool) ⊕ (Int)) (F_wlvref15_group_L7 s1) (0, 0))
    (F_wlvref15_group_J5))
def F_wlvref15_group_sig : Sig := ⟨[.v false [.d .str]], [(false, [.d (.int .i64)]), (false, [.d .bool])]⟩
def F_wlvref15_group_ann : List (Nat × Ann) := [(5, ⟨6, [(4, false, [.d (.int .i64)])], [], [2, 3, 5, 6, 15, 16, 17, 18, 19, 20, 21, 22, 23, 24, 25, 26, 27, 28, 29, 30, 31, 32, 33, 34, 35, 36, 37, 38, 39, 40, 41, 42, 43, 44, 45, 46, 47, 48, 49, 50, 51, 52, 53, 54, 55, 56, 57, 58, 59, 60, 61, 62, 63, 64], []⟩), (7, ⟨8, [(4, false, [.d (.int .i64)]), (5, false, [.d (.int .i64)])], [], [2, 3, 6, 15, 16, 17, 18, 19, 20, 21, 22, 23, 24, 25, 26, 27, 28, 29, 30, 31, 32, 33, 34, 35, 36, 37, 38, 39, 40, 41, 42, 43, 44, 45, 46, 47, 48, 49, 50, 51, 52, 53, 54, 55, 56, 57, 58, 59, 60, 61, 62, 63, 64], []⟩)]
noncomputable def F_wlvref15_group_env : Env := ⟨Tryd.prog, [], []⟩
set_option maxRecDepth 100000 in
theorem F_wlvref15_group_text : pvFn F_wlvref15_group_env F_wlvref15_group_ann Tryd.f136 F_wlvref15_group_sig = F_wlvref15_group := by kernel_rfl
noncomputable def F_wlvref15_groups_L8 (s : List (List Int) × List Int × Int) : Option (((List Int × Bool) ⊕ (List (List Int) × List Int)) ⊕ (List (List Int) × List Int × Int)) :=
  let l3 := s.1; let l4 := s.2.1; let i5 := s.2.2
  cond ((decide (i5 < (l3.length : Int))) && (decide (i5 < 9)))
  ((getI l3 i5).bind fun s6 =>
    (F_wlvref15_group s6).bind fun x7 =>
    cond (!x7.2)
    (some (.inl (.inl (([] : List Int), false))))
    (chk (decide ((l4.length + ([(IntKind.u8.wrap (Int.fdiv x7.1 (2 ^ 8))), (IntKind.u8.wrap x7.1)] : List Int).length) * 1 ≤ 140737488355328) && decide (l4.length + ([(IntKind.u8.wrap (Int.fdiv x7.1 (2 ^ 8))), (IntKind.u8.wrap x7.1)] : List Int).length ≤ maxLen))
      (some (.inr (l3, (l4 ++ ([(IntKind.u8.wrap (Int.fdiv x7.1 (2 ^ 8))), (IntKind.u8.wrap x7.1)] : List Int)), (IntKind.i64.wrap (i5 + 1)))))))
  (some (.inl (.inr (l3, l4))))
noncomputable def F_wlvref15_groups_J6 (s : List (List Int) × List Int) : Option (List Int × Bool) :=
  let l8 := s.1; let l9 := s.2
  some (l9, (decide ((l8.length : Int) ≤ 8)))
noncomputable def F_wlvref15_groups (s1 : List Int) : Option (List Int × Bool) :=
  cond (s1 == ([] : List Int))
  (some (([] : List Int), true))
  ((F_wlvref_Split s1 58).bind fun l2 =>
    joinC (S := List (List Int) × List Int) (R := List Int × Bool)
    (loopC (S := List (List Int) × List Int × Int) (R := (List Int × Bool) ⊕ (List (List Int) × List Int)) (F_wlvref15_groups_L8) (l2, ([] : List Int), 0))
    (F_wlvref15_groups_J6))
def F_wlvref15_groups_sig : Sig := ⟨[.v false [.d .str]], [(false, [.own 5 (.int .u8)]), (false, [.d .bool])]⟩
def F_wlvref15_groups_ann : List (Nat × Ann) := [(6, ⟨7, [(4, false, [.own 9 .str]), (5, false, [.own 5 (.int .u8)])], [], [2, 3, 6, 7, 8, 13, 14, 15, 16, 17, 18, 19, 20, 21, 22, 23, 24, 25, 26, 27, 28, 29, 30, 31, 32, 33, 34, 35, 36, 37, 38, 39, 40], []⟩), (8, ⟨9, [(4, false, [.own 9 .str]), (5, false, [.own 5 (.int .u8)]), (6, false, [.d (.int .i64)])], [], [2, 3, 7, 8, 13, 14, 15, 16, 17, 18, 19, 20, 21, 22, 23, 24, 25, 26, 27, 28, 29, 30, 31, 32, 33, 34, 35, 36, 37, 38, 39, 40], []⟩)]
noncomputable def F_wlvref15_groups_env : Env := ⟨Tryd.prog, [(70, ⟨F_wlvref_Split_sig, ⟨F_wlvref_Split⟩⟩), (136, ⟨F_wlvref15_group_sig, ⟨F_wlvref15_group⟩⟩)], []⟩
set_option maxRecDepth 100000 in
theorem F_wlvref15_groups_text : pvFn F_wlvref15_groups_env F_wlvref15_groups_ann Tryd.f101 F_wlvref15_groups_sig = F_wlvref15_groups := by kernel_rfl
noncomputable def F_wlvref15_eight_L4 (s1 : List Int) (s : Int × Int) : Option (((List Int × Bool) ⊕ (Int)) ⊕ (Int × Int)) :=
  let i2 := s.1; let i3 := s.2
  cond (decide ((IntKind.i64.wrap (i3 + 1)) < (s1.length : Int)))
  ((getI s1 i3).bind fun i4 =>
    cond (i4 == 58)
    ((getI s1 (IntKind.i64.wrap (i3 + 1))).bind fun i5 =>
      cond ((i5 == 58) && (decide (i2 < 0)))
      (some (.inr (i3, (IntKind.i64.wrap (i3 + 1)))))
      (some (.inr (i2, (IntKind.i64.wrap (i3 + 1))))))
    (some (.inr (i2, (IntKind.i64.wrap (i3 + 1))))))
  (some (.inl (.inr i2)))
noncomputable def F_wlvref15_eight_L20 (s : List Int × List Int) : Option (((List Int × Bool) ⊕ (List Int × List Int)) ⊕ (List Int × List Int)) :=
  let l12 := s.1; let l13 := s.2
  cond (decide ((l13.length : Int) < (IntKind.i64.wrap (16 - (l12.length : Int)))))
  (chk (decide ((l13.length + ([0] : List Int).length) * 1 ≤ 140737488355328) && decide (l13.length + ([0] : List Int).length ≤ maxLen))
    (some (.inr (l12, (l13 ++ ([0] : List Int))))))
  (some (.inl (.inr (l12, l13))))
noncomputable def F_wlvref15_eight_J19 (s : List Int × List Int) : Option (List Int × Bool) :=
  let l14 := s.1; let l15 := s.2
  chk (decide ((l15.length + l14.length) * 1 ≤ 140737488355328) && decide (l15.length + l14.length ≤ maxLen))
  (some ((l15 ++ l14), true))
noncomputable def F_wlvref15_eight_J2 (s1 : List Int) (s : Int) : Option (List Int × Bool) :=
  let i6 := s
  cond (decide (i6 < 0))
  ((F_wlvref15_groups s1).bind fun x7 =>
    some (x7.1, (x7.2 && ((x7.1.length : Int) == 16))))
  ((cutI s1 0 i6).bind fun s8 =>
    (F_wlvref15_groups s8).bind fun x9 =>
    (cutI s1 (IntKind.i64.wrap (i6 + 2)) (s1.length : Int)).bind fun s10 =>
    (F_wlvref15_groups s10).bind fun x11 =>
    cond (((!x9.2) || (!x11.2)) || (decide ((IntKind.i64.wrap ((x9.1.length : Int) + (x11.1.length : Int))) > 14)))
    (some (([] : List Int), false))
    (chk (decide ((([] : List Int).length + x9.1.length) * 1 ≤ 140737488355328) && decide (([] : List Int).length + x9.1.length ≤ maxLen))
      (joinC (S := List Int × List Int) (R := List Int × Bool)
        (loopC (S := List Int × List Int) (R := (List Int × Bool) ⊕ (List Int × List Int)) (F_wlvref15_eight_L20) (x11.1, (([] : List Int) ++ x9.1)))
        (F_wlvref15_eight_J19))))
noncomputable def F_wlvref15_eight (s1 : List Int) : Option (List Int × Bool) :=
  joinC (S := Int) (R := List Int × Bool)
  (loopC (S := Int × Int) (R := (List Int × Bool) ⊕ (Int)) (F_wlvref15_eight_L4 s1) ((-1), 0))
  (F_wlvref15_eight_J2 s1)
def F_wlvref15_eight_sig : Sig := ⟨[.v false [.d .str]], [(false, [.d .str]), (false, [.d .bool])]⟩
def F_wlvref15_eight_ann : List (Nat × Ann) := [(2, ⟨3, [(4, false, [.d (.int .i64)])], [], [5, 13, 14, 15, 16, 17, 18, 19, 20, 21, 22, 23, 24, 25, 26, 27, 28, 29, 30, 31, 32, 33, 34, 35], []⟩), (4, ⟨5, [(4, false, [.d (.int .i64)]), (5, false, [.d (.int .i64)])], [], [13, 14, 15, 16, 17, 18, 19, 20, 21, 22, 23, 24, 25, 26, 27, 28, 29, 30, 31, 32, 33, 34, 35], []⟩), (19, ⟨20, [(10, false, [.own 5 (.int .u8)]), (12, false, [.own 5 (.int .u8)])], [], [83, 84, 85, 86, 87, 88, 89, 90, 91], []⟩), (20, ⟨21, [(10, false, [.own 5 (.int .u8)]), (12, false, [.own 5 (.int .u8)])], [], [83, 84, 85, 86, 87, 88, 89, 90, 91], []⟩)]
noncomputable def F_wlvref15_eight_env : Env := ⟨Tryd.prog, [(101, ⟨F_wlvref15_groups_sig, ⟨F_wlvref15_groups⟩⟩)], []⟩
set_option maxRecDepth 100000 in
theorem F_wlvref15_eight_text : pvFn F_wlvref15_eight_env F_wlvref15_eight_ann Tryd.f71 F_wlvref15_eight_sig = F_wlvref15_eight := by kernel_rfl
noncomputable def F_wlvref15_Parse (s1 : List Int) : Option (List Int × Int) :=
  cond (decide ((s1.length : Int) > 50))
  (some (([] : List Int), 2))
  ((F_wlvref15_four s1).bind fun x2 =>
    cond x2.2
    (some (x2.1, 0))
    ((F_wlvref15_eight s1).bind fun x3 =>
      cond (!x3.2)
      (some (([] : List Int), 2))
      ((F_wlvref15_Mapped x3.1).bind fun b4 =>
        cond b4
        ((cutI x3.1 12 (x3.1.length : Int)).bind fun s5 =>
          some (s5, 0))
        (some (x3.1, 0)))))
def F_wlvref15_Parse_sig : Sig := ⟨[.v false [.d .str]], [(false, [.d .str]), (false, [.d (.int .i64)])]⟩
def F_wlvref15_Parse_ann : List (Nat × Ann) := []
noncomputable def F_wlvref15_Parse_env : Env := ⟨Tryd.prog, [(27, ⟨F_wlvref15_Mapped_sig, ⟨F_wlvref15_Mapped⟩⟩), (68, ⟨F_wlvref15_four_sig, ⟨F_wlvref15_four⟩⟩), (71, ⟨F_wlvref15_eight_sig, ⟨F_wlvref15_eight⟩⟩)], []⟩
set_option maxRecDepth 100000 in
theorem F_wlvref15_Parse_text : pvFn F_wlvref15_Parse_env F_wlvref15_Parse_ann Tryd.f35 F_wlvref15_Parse_sig = F_wlvref15_Parse := by kernel_rfl
noncomputable def F_wlvref15_Authority_L4 (s1 : List Int) (s : Int × Int × List Int × List Int) : Option (((List Int × List Int × Int × Int) ⊕ (Int × List Int × List Int)) ⊕ (Int × Int × List Int × List Int)) :=
  let i2 := s.1; let i3 := s.2.1; let s4 := s.2.2.1; let s5 := s.2.2.2
  cond (decide (i3 < (s1.length : Int)))
  ((getI s1 i3).bind fun i6 =>
    cond (i6 == 58)
    (some (.inr (i3, (IntKind.i64.wrap (i3 + 1)), s4, s5)))
    (some (.inr (i2, (IntKind.i64.wrap (i3 + 1)), s4, s5))))
  (some (.inl (.inr (i2, s4, s5))))
noncomputable def F_wlvref15_Authority_L23 (s15 : List Int) (s : Bool × Int × List Int × List Int) : Option ((((List Int × List Int × Int × Int) ⊕ (List Int × List Int × List Int)) ⊕ (Bool × List Int × List Int)) ⊕ (Bool × Int × List Int × List Int)) :=
  let b16 := s.1; let i17 := s.2.1; let s18 := s.2.2.1; let s19 := s.2.2.2
  cond (decide (i17 < (s15.length : Int)))
  (cond b16
    (some (.inr (true, (IntKind.i64.wrap (i17 + 1)), s18, s19)))
    ((getI s15 i17).bind fun i20 =>
      some (.inr ((i20 == 58), (IntKind.i64.wrap (i17 + 1)), s18, s19))))
  (some (.inl (.inr (b16, s18, s19))))
noncomputable def F_wlvref15_Authority_J21 (x11 : Int × Bool) (s15 : List Int) (s : Bool × List Int × List Int) : Option ((List Int × List Int × Int × Int) ⊕ (List Int × List Int × List Int)) :=
  let b21 := s.1; let s22 := s.2.1; let s23 := s.2.2
  (F_wlvref15_Parse s15).bind fun x24 =>
  cond ((x24.2 != 0) || (!b21))
  (some (.inl (([] : List Int), ([] : List Int), 0, 2)))
  (some (.inl (([] : List Int), x24.1, x11.1, 0)))
noncomputable def F_wlvref15_Authority_J17 (x11 : Int × Bool) (s : List Int × List Int × List Int) : Option (List Int × List Int × Int × Int) :=
  let s25 := s.1; let s26 := s.2.1; let s27 := s.2.2
  (F_wlvref15_four s25).bind fun x28 =>
  cond x28.2
  (some (([] : List Int), x28.1, x11.1, 0))
  ((F_wlvref15_Name s25).bind fun x29 =>
    cond (x29.2 != 0)
    (some (([] : List Int), ([] : List Int), 0, 2))
    (some (x29.1, ([] : List Int), x11.1, 0)))
noncomputable def F_wlvref15_Authority_J2 (s1 : List Int) (s : Int × List Int × List Int) : Option (List Int × List Int × Int × Int) :=
  let i7 := s.1; let s8 := s.2.1; let s9 := s.2.2
  cond (decide (i7 < 0))
  (some (([] : List Int), ([] : List Int), 0, 2))
  ((cutI s1 (IntKind.i64.wrap (i7 + 1)) (s1.length : Int)).bind fun s10 =>
    (F_wlvref_Num s10 1 65535).bind fun x11 =>
    cond (!x11.2)
    (some (([] : List Int), ([] : List Int), 0, 2))
    ((cutI s1 0 i7).bind fun s12 =>
      joinC (S := List Int × List Int × List Int) (R := List Int × List Int × Int × Int)
      (cond (decide ((s12.length : Int) ≥ 2))
        ((getI s12 0).bind fun i13 =>
          cond (i13 == 91)
          ((getI s12 (IntKind.i64.wrap ((s12.length : Int) - 1))).bind fun i14 =>
            cond (i14 == 93)
            ((cutI s12 1 (IntKind.i64.wrap ((s12.length : Int) - 1))).bind fun s15 =>
              joinC (S := Bool × List Int × List Int) (R := (List Int × List Int × Int × Int) ⊕ (List Int × List Int × List Int))
              (loopC (S := Bool × Int × List Int × List Int) (R := ((List Int × List Int × Int × Int) ⊕ (List Int × List Int × List Int)) ⊕ (Bool × List Int × List Int)) (F_wlvref15_Authority_L23 s15) (false, 0, s8, s9))
              (F_wlvref15_Authority_J21 x11 s15))
            (some (.inr (s12, s8, s9))))
          (some (.inr (s12, s8, s9))))
        (some (.inr (s12, s8, s9))))
      (F_wlvref15_Authority_J17 x11)))
noncomputable def F_wlvref15_Authority (s1 : List Int) : Option (List Int × List Int × Int × Int) :=
  joinC (S := Int × List Int × List Int) (R := List Int × List Int × Int × Int)
  (loopC (S := Int × Int × List Int × List Int) (R := (List Int × List Int × Int × Int) ⊕ (Int × List Int × List Int)) (F_wlvref15_Authority_L4 s1) ((-1), 0, ([] : List Int), ([] : List Int)))
  (F_wlvref15_Authority_J2 s1)
def F_wlvref15_Authority_sig : Sig := ⟨[.v false [.d .str]], [(true, [.d .str, .d .str]), (false, [.d (.int .i64)]), (false, [.d (.int .i64)])]⟩
def F_wlvref15_Authority_ann : List (Nat × Ann) := [(2, ⟨3, [(5, false, [.d (.int .i64)])], [(2, [.d .str, .d .str])], [6, 18, 19, 20, 21, 22, 23, 24, 25, 26, 27, 28], []⟩), (4, ⟨5, [(5, false, [.d (.int .i64)]), (6, false, [.d (.int .i64)])], [(2, [.d .str, .d .str])], [18, 19, 20, 21, 22, 23, 24, 25, 26, 27, 28], []⟩), (17, ⟨18, [(9, false, [.d .str])], [(2, [.d .str, .d .str])], [3, 4, 10, 11, 12, 13, 46, 47, 48, 49, 50, 51, 52, 53, 54, 55, 56, 57, 58, 59, 60, 61, 62, 63, 64, 65, 66, 67, 68, 69, 70, 71, 72, 73, 74, 75, 76, 77, 78, 79, 80, 81, 82, 83, 84, 85, 86, 87, 88, 89, 90, 91, 92, 93, 94], []⟩), (21, ⟨22, [(10, false, [.d .bool])], [(2, [.d .str, .d .str])], [11, 67, 68, 69, 70, 71, 72, 73, 74, 75, 76, 77, 78, 79], []⟩), (23, ⟨24, [(10, false, [.d .bool]), (11, false, [.d (.int .i64)])], [(2, [.d .str, .d .str])], [67, 68, 69, 70, 71, 72, 73, 74, 75, 76, 77, 78, 79], []⟩)]
noncomputable def F_wlvref15_Authority_env : Env := ⟨Tryd.prog, [(33, ⟨F_wlvref15_Name_sig, ⟨F_wlvref15_Name⟩⟩), (35, ⟨F_wlvref15_Parse_sig, ⟨F_wlvref15_Parse⟩⟩), (67, ⟨F_wlvref_Num_sig, ⟨F_wlvref_Num⟩⟩), (68, ⟨F_wlvref15_four_sig, ⟨F_wlvref15_four⟩⟩)], []⟩
set_option maxRecDepth 100000 in
theorem F_wlvref15_Authority_text : pvFn F_wlvref15_Authority_env F_wlvref15_Authority_ann Tryd.f31 F_wlvref15_Authority_sig = F_wlvref15_Authority := by kernel_rfl
noncomputable def F_wlvlaw16_HostReads (s1 : List Int) : Option (Bool) :=
  (F_wlvlaw16_first).bind fun b2 =>
  cond (!b2)
  (some false)
  (cond (decide ((s1.length : Int) > 1000))
    ((F_wlvlaw16_first).bind fun b3 =>
      some b3)
    ((F_host_Authority s1).bind fun x4 =>
      (F_wlvref15_Authority s1).bind fun x5 =>
      (F_host_Name s1).bind fun x6 =>
      (F_wlvref15_Name s1).bind fun x7 =>
      (F_wlvlaw16_first).bind fun b8 =>
      cond b8
      (some ((((((eqL x4.1 x5.1) && ((eqL x4.2.1 x5.2.1) && true)) && (x4.2.2.1 == x5.2.2.1)) && (x4.2.2.2 == x5.2.2.2)) && (x6.1 == x7.1)) && (x6.2 == x7.2)))
      (some false)))
def F_wlvlaw16_HostReads_sig : Sig := ⟨[.v false [.d .str]], [(false, [.d .bool])]⟩
def F_wlvlaw16_HostReads_ann : List (Nat × Ann) := []
noncomputable def F_wlvlaw16_HostReads_env : Env := ⟨Tryd.prog, [(29, ⟨F_wlvlaw16_first_sig, ⟨F_wlvlaw16_first⟩⟩), (30, ⟨F_host_Authority_sig, ⟨F_host_Authority⟩⟩), (31, ⟨F_wlvref15_Authority_sig, ⟨F_wlvref15_Authority⟩⟩), (32, ⟨F_host_Name_sig, ⟨F_host_Name⟩⟩), (33, ⟨F_wlvref15_Name_sig, ⟨F_wlvref15_Name⟩⟩)], []⟩
set_option maxRecDepth 100000 in
theorem F_wlvlaw16_HostReads_text : pvFn F_wlvlaw16_HostReads_env F_wlvlaw16_HostReads_ann Tryd.f8 F_wlvlaw16_HostReads_sig = F_wlvlaw16_HostReads := by kernel_rfl
noncomputable def F_wlvref_Dec_step (r0 : Int → Option (List Int)) (i1 : Int) : Option (List Int) :=
  cond (decide (i1 < 10))
  (some ([(IntKind.u8.wrap (IntKind.i64.wrap (48 + (maxI i1 0))))] : List Int))
  ((r0 (IntKind.i64.wrap (Int.tdiv i1 10))).bind fun s2 =>
    chk (Nat.ble (s2.length + ([(IntKind.u8.wrap (IntKind.i64.wrap (48 + (Int.tmod i1 10))))] : List Int).length) maxLen)
    (some (s2 ++ ([(IntKind.u8.wrap (IntKind.i64.wrap (48 + (Int.tmod i1 10))))] : List Int))))
def F_wlvref_Dec_sig : Sig := ⟨[.v false [.d (.int .i64)]], [(false, [.d .str])]⟩
def F_wlvref_Dec_ann : List (Nat × Ann) := []
noncomputable def F_wlvref_Dec_env (r0 : Int → Option (List Int)) : Env := ⟨Tryd.prog, [(34, ⟨F_wlvref_Dec_sig, ⟨r0⟩⟩)], []⟩
set_option maxRecDepth 100000 in
theorem F_wlvref_Dec_text (r0 : Int → Option (List Int)) : pvFn (F_wlvref_Dec_env r0) F_wlvref_Dec_ann Tryd.f34 F_wlvref_Dec_sig = F_wlvref_Dec_step r0 := by kernel_rfl
noncomputable def F_wlvref_Dec_fuel : Nat → Int → Option (List Int)
  | 0 => Pv.botF (α := List Int) [(.int .i64)]
  | k + 1 => F_wlvref_Dec_step (F_wlvref_Dec_fuel k)
noncomputable def F_wlvref_Dec : Int → Option (List Int) := F_wlvref_Dec_fuel 64
noncomputable def F_wlvlaw16_HostPorts (s1 : List Int) (i2 : Int) : Option (Bool) :=
  (F_wlvlaw16_first).bind fun b3 =>
  cond (!b3)
  (some false)
  ((F_host_Name s1).bind fun x4 =>
    cond ((decide ((s1.length : Int) > 500)) || (x4.2 != 0))
    ((F_wlvlaw16_first).bind fun b5 =>
      some b5)
    (chk (Nat.ble (s1.length + ([58] : List Int).length) maxLen)
      ((F_wlvref_Dec i2).bind fun s6 =>
        chk (Nat.ble ((s1 ++ ([58] : List Int)).length + s6.length) maxLen)
        ((F_host_Authority ((s1 ++ ([58] : List Int)) ++ s6)).bind fun x7 =>
          (F_wlvref15_Parse x4.1).bind fun x8 =>
          cond ((decide (i2 < 1)) || (decide (i2 > 65535)))
          ((F_wlvlaw16_first).bind fun b9 =>
            some (b9 && (x7.2.2.2 == 2)))
          ((F_host_Authority s1).bind fun x10 =>
            chk (Nat.ble (s1.length + ([58, 48] : List Int).length) maxLen)
            ((F_wlvref_Dec i2).bind fun s11 =>
              chk (Nat.ble ((s1 ++ ([58, 48] : List Int)).length + s11.length) maxLen)
              ((F_host_Authority ((s1 ++ ([58, 48] : List Int)) ++ s11)).bind fun x12 =>
                chk (Nat.ble (([117, 64] : List Int).length + s1.length) maxLen)
                (chk (Nat.ble ((([117, 64] : List Int) ++ s1).length + ([58, 56, 48] : List Int).length) maxLen)
                  ((F_host_Authority ((([117, 64] : List Int) ++ s1) ++ ([58, 56, 48] : List Int))).bind fun x13 =>
                    cond (((((x7.2.2.2 != 0) || (x7.2.2.1 != i2)) || (x10.2.2.2 != 2)) || (x12.2.2.2 != 2)) || (x13.2.2.2 != 2))
                    (some false)
                    ((F_wlvlaw16_first).bind fun b14 =>
                      cond b14
                      (cond (bEq (x7.1 == x4.1) (x8.2 != 0))
                        (some (bEq (x7.2.1 == ([] : List Int)) (x8.2 != 0)))
                        (some false))
                      (some false)))))))))))
def F_wlvlaw16_HostPorts_sig : Sig := ⟨[.v false [.d .str], .v false [.d (.int .i64)]], [(false, [.d .bool])]⟩
def F_wlvlaw16_HostPorts_ann : List (Nat × Ann) := []
noncomputable def F_wlvlaw16_HostPorts_env : Env := ⟨Tryd.prog, [(29, ⟨F_wlvlaw16_first_sig, ⟨F_wlvlaw16_first⟩⟩), (30, ⟨F_host_Authority_sig, ⟨F_host_Authority⟩⟩), (32, ⟨F_host_Name_sig, ⟨F_host_Name⟩⟩), (34, ⟨F_wlvref_Dec_sig, ⟨F_wlvref_Dec⟩⟩), (35, ⟨F_wlvref15_Parse_sig, ⟨F_wlvref15_Parse⟩⟩)], []⟩
set_option maxRecDepth 100000 in
theorem F_wlvlaw16_HostPorts_text : pvFn F_wlvlaw16_HostPorts_env F_wlvlaw16_HostPorts_ann Tryd.f9 F_wlvlaw16_HostPorts_sig = F_wlvlaw16_HostPorts := by kernel_rfl
noncomputable def F_wlvlaw16_HostNames_L23 (i5 : Int) (i10 : Int) (s : List Int × Int) : Option ((((((Bool) ⊕ (List Int × Bool × Int)) ⊕ (List Int × Bool × Int × Int)) ⊕ (List Int × Bool × Int)) ⊕ (List Int)) ⊕ (List Int × Int)) :=
  let s12 := s.1; let i13 := s.2
  cond (decide (i13 < i10))
  (chk (Nat.ble (s12.length + ([i5] : List Int).length) maxLen)
    (some (.inr ((s12 ++ ([i5] : List Int)), (IntKind.i64.wrap (i13 + 1))))))
  (some (.inl (.inr s12)))
noncomputable def F_wlvlaw16_HostNames_J21 (b7 : Bool) (i8 : Int) (i10 : Int) (s : List Int) : Option ((((Bool) ⊕ (List Int × Bool × Int)) ⊕ (List Int × Bool × Int × Int)) ⊕ (List Int × Bool × Int)) :=
  let s14 := s
  some (.inr (s14, ((b7 && (decide (i10 ≥ 1))) && (decide (i10 ≤ 63))), (IntKind.i64.wrap (i8 + i10))))
noncomputable def F_wlvlaw16_HostNames_J14 (i9 : Int) (s : List Int × Bool × Int) : Option (((Bool) ⊕ (List Int × Bool × Int)) ⊕ (List Int × Bool × Int × Int)) :=
  let s18 := s.1; let b19 := s.2.1; let i20 := s.2.2
  some (.inr (s18, b19, i20, (IntKind.i64.wrap (i9 + 1))))
noncomputable def F_wlvlaw16_HostNames_L11 (l1 : List Int) (i5 : Int) (s : List Int × Bool × Int × Int) : Option (((Bool) ⊕ (List Int × Bool × Int)) ⊕ (List Int × Bool × Int × Int)) :=
  let s6 := s.1; let b7 := s.2.1; let i8 := s.2.2.1; let i9 := s.2.2.2
  cond (decide (i9 < (l1.length : Int)))
  (joinC (S := List Int × Bool × Int) (R := ((Bool) ⊕ (List Int × Bool × Int)) ⊕ (List Int × Bool × Int × Int))
    ((getI l1 i9).bind fun i10 =>
      cond ((decide (i10 < 0)) || (decide (i10 > 70)))
      ((F_wlvlaw16_first).bind fun b11 =>
        some (.inl (.inl (.inl b11))))
      (cond (decide (i9 > 0))
        (chk (Nat.ble (s6.length + ([46] : List Int).length) maxLen)
          (joinC (S := List Int) (R := (((Bool) ⊕ (List Int × Bool × Int)) ⊕ (List Int × Bool × Int × Int)) ⊕ (List Int × Bool × Int))
            (loopC (S := List Int × Int) (R := ((((Bool) ⊕ (List Int × Bool × Int)) ⊕ (List Int × Bool × Int × Int)) ⊕ (List Int × Bool × Int)) ⊕ (List Int)) (F_wlvlaw16_HostNames_L23 i5 i10) ((s6 ++ ([46] : List Int)), 0))
            (F_wlvlaw16_HostNames_J21 b7 i8 i10)))
        (joinC (S := List Int) (R := (((Bool) ⊕ (List Int × Bool × Int)) ⊕ (List Int × Bool × Int × Int)) ⊕ (List Int × Bool × Int))
          (loopC (S := List Int × Int) (R := ((((Bool) ⊕ (List Int × Bool × Int)) ⊕ (List Int × Bool × Int × Int)) ⊕ (List Int × Bool × Int)) ⊕ (List Int)) (F_wlvlaw16_HostNames_L23 i5 i10) (s6, 0))
          (F_wlvlaw16_HostNames_J21 b7 i8 i10))))
    (F_wlvlaw16_HostNames_J14 i9))
  (some (.inl (.inr (s6, b7, i8))))
noncomputable def F_wlvlaw16_HostNames_J9 (s : List Int × Bool × Int) : Option (Bool) :=
  let s21 := s.1; let b22 := s.2.1; let i23 := s.2.2
  (F_host_Name s21).bind fun x24 =>
  chk (Nat.ble (([45] : List Int).length + s21.length) maxLen)
  ((F_host_Name (([45] : List Int) ++ s21)).bind fun x25 =>
    chk (Nat.ble (s21.length + ([45] : List Int).length) maxLen)
    ((F_host_Name (s21 ++ ([45] : List Int))).bind fun x26 =>
      chk (Nat.ble (s21.length + ([46] : List Int).length) maxLen)
      ((F_host_Name (s21 ++ ([46] : List Int))).bind fun x27 =>
        (F_wlvlaw16_first).bind fun b28 =>
        cond (b28 && (bEq (x24.2 == 0) (b22 && (decide (i23 ≤ 253)))))
        (some (((((!(b22 && (decide (i23 ≤ 253)))) || ((x24.1.length : Int) == (s21.length : Int))) && (x25.2 == 2)) && (x26.2 == 2)) && (x27.2 == 2)))
        (some false))))
noncomputable def F_wlvlaw16_HostNames (l1 : List Int) (i2 : Int) : Option (Bool) :=
  (F_wlvlaw16_first).bind fun b3 =>
  cond (!b3)
  (some false)
  (cond ((decide ((l1.length : Int) < 1)) || (decide ((l1.length : Int) > 10)))
    ((F_wlvlaw16_first).bind fun b4 =>
      some b4)
    ((getI ([97, 98, 99, 88, 89, 90, 48, 49, 57, 95] : List Int) (Int.tmod i2 10)).bind fun i5 =>
      joinC (S := List Int × Bool × Int) (R := Bool)
      (loopC (S := List Int × Bool × Int × Int) (R := (Bool) ⊕ (List Int × Bool × Int)) (F_wlvlaw16_HostNames_L11 l1 i5) (([] : List Int), true, (IntKind.i64.wrap ((l1.length : Int) - 1)), 0))
      (F_wlvlaw16_HostNames_J9)))
def F_wlvlaw16_HostNames_sig : Sig := ⟨[.v false [.d (.sl (.int .i64))], .v false [.d (.int .u8)]], [(false, [.d .bool])]⟩
def F_wlvlaw16_HostNames_ann : List (Nat × Ann) := [(9, ⟨10, [(5, false, [.d .str]), (6, false, [.d .bool]), (7, false, [.d (.int .i64)])], [], [4, 9, 10, 11, 37, 38, 39, 40, 41, 42, 43, 44, 45, 46, 47, 48, 49, 50, 51, 52, 53, 54, 55, 56, 57, 58, 59, 60, 61, 62, 63, 64, 65, 66, 67, 68, 69, 70, 71, 72, 73, 74, 75, 76, 77, 78, 79], []⟩), (11, ⟨12, [(5, false, [.d .str]), (6, false, [.d .bool]), (7, false, [.d (.int .i64)]), (9, false, [.d (.int .i64)])], [], [4, 10, 11, 37, 38, 39, 40, 41, 42, 43, 44, 45, 46, 47, 48, 49, 50, 51, 52, 53, 54, 55, 56, 57, 58, 59, 60, 61, 62, 63, 64, 65, 66, 67, 68, 69, 70, 71, 72, 73, 74, 75, 76, 77, 78, 79], []⟩), (14, ⟨15, [(5, false, [.d .str]), (6, false, [.d .bool]), (7, false, [.d (.int .i64)])], [], [4, 10, 11, 43, 44, 45, 46, 47, 48, 49, 50, 51, 52, 53, 54, 55, 56, 57, 58, 59, 60, 61, 62, 63, 64, 65, 66, 67, 68, 69, 70, 71, 72, 73, 74, 75, 76, 77, 78, 79], []⟩), (21, ⟨22, [(5, false, [.d .str])], [], [11, 58, 59, 60, 61, 62, 63, 64, 65, 66, 67], []⟩), (23, ⟨24, [(5, false, [.d .str]), (11, false, [.d (.int .i64)])], [], [58, 59, 60, 61, 62, 63, 64, 65, 66, 67], []⟩)]
noncomputable def F_wlvlaw16_HostNames_env : Env := ⟨Tryd.prog, [(29, ⟨F_wlvlaw16_first_sig, ⟨F_wlvlaw16_first⟩⟩), (32, ⟨F_host_Name_sig, ⟨F_host_Name⟩⟩)], []⟩
set_option maxRecDepth 100000 in
theorem F_wlvlaw16_HostNames_text : pvFn F_wlvlaw16_HostNames_env F_wlvlaw16_HostNames_ann Tryd.f10 F_wlvlaw16_HostNames_sig = F_wlvlaw16_HostNames := by kernel_rfl
end Go.Proofs.YtblngdnndkljoaaDoor
