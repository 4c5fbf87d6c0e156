/- Texts of this claim, one behind the other. -/
import Derived.Test.YtblngdnndkljoaaDoorHostBackM3
import Derived.Test.YtblngdnndkljoaaDoorProg
import Derived.KernelRfl
import Derived.Laws.Bits
import Derived.LoopTactic
import Derived.Handy
import Derived.RegionTactic
import Derived.Laws.BitsLemmas
import Derived.Lib.ItoaMem
/- The functions of the program as Lean functions, written by a program of ours and held by the kernel. -/
namespace Go.Proofs.YtblngdnndkljoaaDoor
open Pv
set_option linter.unusedVariables false
noncomputable def F_addr_decimal (s1 : List Int) (i2 : Int) : Option (Int × Bool) :=
  (F_strconv_Atoi s1).bind fun x3 =>
  cond (((notB x3.2) && (decide (x3.1 ≥ 0))) && (decide (x3.1 ≤ i2)))
  ((F_strconv_Itoa x3.1).bind fun s4 =>
    some (x3.1, (s4 == s1)))
  (some (x3.1, false))
def F_addr_decimal_sig : Sig := ⟨[.v false [.d .str], .v false [.d (.int .i64)]], [(false, [.d (.int .i64)]), (false, [.d .bool])]⟩
def F_addr_decimal_ann : List (Nat × Ann) := []
noncomputable def F_addr_decimal_env : Env := ⟨Tryd.prog, [(64, ⟨F_strconv_Atoi_sig, ⟨F_strconv_Atoi⟩⟩), (66, ⟨F_strconv_Itoa_sig, ⟨F_strconv_Itoa⟩⟩)], []⟩
set_option maxRecDepth 100000 in
theorem F_addr_decimal_text : pvFn F_addr_decimal_env F_addr_decimal_ann Tryd.f73 F_addr_decimal_sig = F_addr_decimal := by kernel_rfl
noncomputable def F_addr_dotted_L8 (l2 : List (List Int)) (s : List Int × List (List Int) × Int) : Option (((List Int × Bool) ⊕ (List Int)) ⊕ (List Int × List (List Int) × Int)) :=
  let l3 := s.1; let l4 := s.2.1; let i5 := s.2.2
  cond (decide (i5 < (l2.length : Int)))
  ((getI l4 i5).bind fun s6 =>
    (F_addr_decimal s6 255).bind fun x7 =>
    cond (!x7.2)
    (some (.inl (.inl (([] : List Int), false))))
    (chk (decide ((l3.length + ([(IntKind.u8.wrap x7.1)] : List Int).length) * 1 ≤ 140737488355328) && decide (l3.length + ([(IntKind.u8.wrap x7.1)] : List Int).length ≤ maxLen))
      (some (.inr ((l3 ++ ([(IntKind.u8.wrap x7.1)] : List Int)), l4, (IntKind.i64.wrap (i5 + 1)))))))
  (some (.inl (.inr l3)))
noncomputable def F_addr_dotted_J6 (s : List Int) : Option (List Int × Bool) :=
  let l8 := s
  some (l8, true)
noncomputable def F_addr_dotted (s1 : List Int) : Option (List Int × Bool) :=
  (F_strings_Split s1 ([46] : List Int)).bind fun l2 =>
  cond ((l2.length : Int) != 4)
  (some (([] : List Int), false))
  (joinC (S := List Int) (R := List Int × Bool)
    (loopC (S := List Int × List (List Int) × Int) (R := (List Int × Bool) ⊕ (List Int)) (F_addr_dotted_L8 l2) (([] : List Int), l2, 0))
    (F_addr_dotted_J6))
def F_addr_dotted_sig : Sig := ⟨[.v false [.d .str]], [(false, [.d .str]), (false, [.d .bool])]⟩
def F_addr_dotted_ann : List (Nat × Ann) := [(6, ⟨7, [(5, false, [.own 5 (.int .u8)])], [], [2, 3, 7, 8, 9, 15, 16, 17, 18, 19, 20, 21, 22, 23, 24, 25, 26, 27, 28, 29, 30, 31, 32, 33], []⟩), (8, ⟨9, [(5, false, [.own 5 (.int .u8)]), (15, false, [.own 9 .str]), (17, false, [.d (.int .i64)])], [], [2, 3, 7, 8, 9, 18, 19, 20, 21, 22, 23, 24, 25, 26, 27, 28, 29, 30, 31, 32, 33], []⟩)]
noncomputable def F_addr_dotted_env : Env := ⟨Tryd.prog, [(73, ⟨F_addr_decimal_sig, ⟨F_addr_decimal⟩⟩), (90, ⟨F_strings_Split_sig, ⟨F_strings_Split⟩⟩)], []⟩
set_option maxRecDepth 100000 in
theorem F_addr_dotted_text : pvFn F_addr_dotted_env F_addr_dotted_ann Tryd.f59 F_addr_dotted_sig = F_addr_dotted := by kernel_rfl
noncomputable def F_internal_stringslite_HasPrefix (s1 : List Int) (s2 : List Int) : Option (Bool) :=
  cond (decide ((s1.length : Int) ≥ (s2.length : Int)))
  ((cutI s1 0 (s2.length : Int)).bind fun s3 =>
    some (s3 == s2))
  (some false)
def F_internal_stringslite_HasPrefix_sig : Sig := ⟨[.v false [.d .str], .v false [.d .str]], [(false, [.d .bool])]⟩
def F_internal_stringslite_HasPrefix_ann : List (Nat × Ann) := []
noncomputable def F_internal_stringslite_HasPrefix_env : Env := ⟨Tryd.prog, [], []⟩
set_option maxRecDepth 100000 in
theorem F_internal_stringslite_HasPrefix_text : pvFn F_internal_stringslite_HasPrefix_env F_internal_stringslite_HasPrefix_ann Tryd.f125 F_internal_stringslite_HasPrefix_sig = F_internal_stringslite_HasPrefix := by kernel_rfl
noncomputable def F_strings_HasPrefix (s1 : List Int) (s2 : List Int) : Option (Bool) :=
  (F_internal_stringslite_HasPrefix s1 s2).bind fun b3 =>
  some b3
def F_strings_HasPrefix_sig : Sig := ⟨[.v false [.d .str], .v false [.d .str]], [(false, [.d .bool])]⟩
def F_strings_HasPrefix_ann : List (Nat × Ann) := []
noncomputable def F_strings_HasPrefix_env : Env := ⟨Tryd.prog, [(125, ⟨F_internal_stringslite_HasPrefix_sig, ⟨F_internal_stringslite_HasPrefix⟩⟩)], []⟩
set_option maxRecDepth 100000 in
theorem F_strings_HasPrefix_text : pvFn F_strings_HasPrefix_env F_strings_HasPrefix_ann Tryd.f91 F_strings_HasPrefix_sig = F_strings_HasPrefix := by kernel_rfl
noncomputable def F_addr_digit (i1 : Int) : Option (Int) :=
  cond ((decide (i1 ≥ 48)) && (decide (i1 ≤ 57)))
  (some (IntKind.i64.wrap (IntKind.u8.wrap (i1 - 48))))
  (cond ((decide (i1 ≥ 97)) && (decide (i1 ≤ 102)))
    (some (IntKind.i64.wrap ((IntKind.i64.wrap (IntKind.u8.wrap (i1 - 97))) + 10)))
    (cond ((decide (i1 ≥ 65)) && (decide (i1 ≤ 70)))
      (some (IntKind.i64.wrap ((IntKind.i64.wrap (IntKind.u8.wrap (i1 - 65))) + 10)))
      (some (-1))))
def F_addr_digit_sig : Sig := ⟨[.v false [.d (.int .u8)]], [(false, [.d (.int .i64)])]⟩
def F_addr_digit_ann : List (Nat × Ann) := []
noncomputable def F_addr_digit_env : Env := ⟨Tryd.prog, [], []⟩
set_option maxRecDepth 100000 in
theorem F_addr_digit_text : pvFn F_addr_digit_env F_addr_digit_ann Tryd.f92 F_addr_digit_sig = F_addr_digit := by kernel_rfl
noncomputable def F_addr_coloned_G1_1 (s1 : List Int) (s : List Int × Int × Int × Int × Int) : Option ((List Int × Bool) ⊕ (Nat × List Int × Int × Int × Int × Int)) :=
  let l11 := s.1; let i12 := s.2.1; let i13 := s.2.2.1; let i14 := s.2.2.2.1; let i15 := s.2.2.2.2
  cond (decide (i13 < (s1.length : Int)))
  ((getI s1 i13).bind fun i16 =>
    (F_addr_digit i16).bind fun i17 =>
    cond ((decide (i17 ≥ 0)) && (decide ((0 : Int) < 4)))
    ((getI s1 i13).bind fun i18 =>
      (F_addr_digit i18).bind fun i19 =>
      some (.inr (2, (l11, i12, (IntKind.i64.wrap (i13 + 1)), (bits .or .i64 (IntKind.i64.wrap (0 * 2 ^ 4)) i19), (IntKind.i64.wrap (0 + 1))))))
    (some (.inl (([] : List Int), false))))
  (some (.inl (([] : List Int), false)))
noncomputable def F_addr_coloned_G1_2 (s1 : List Int) (s : List Int × Int × Int × Int × Int) : Option ((List Int × Bool) ⊕ (Nat × List Int × Int × Int × Int × Int)) :=
  let l11 := s.1; let i12 := s.2.1; let i13 := s.2.2.1; let i14 := s.2.2.2.1; let i15 := s.2.2.2.2
  cond (decide (i13 < (s1.length : Int)))
  ((getI s1 i13).bind fun i20 =>
    (F_addr_digit i20).bind fun i21 =>
    cond ((decide (i21 ≥ 0)) && (decide (i15 < 4)))
    ((getI s1 i13).bind fun i22 =>
      (F_addr_digit i22).bind fun i23 =>
      some (.inr (2, (l11, i12, (IntKind.i64.wrap (i13 + 1)), (bits .or .i64 (IntKind.i64.wrap (i14 * 2 ^ 4)) i23), (IntKind.i64.wrap (i15 + 1))))))
    (cond (i15 == 0)
      (some (.inl (([] : List Int), false)))
      (chk (decide ((l11.length + ([(IntKind.u8.wrap (Int.fdiv i14 (2 ^ 8))), (IntKind.u8.wrap i14)] : List Int).length) * 1 ≤ 140737488355328) && decide (l11.length + ([(IntKind.u8.wrap (Int.fdiv i14 (2 ^ 8))), (IntKind.u8.wrap i14)] : List Int).length ≤ maxLen))
        (cond (i13 == (s1.length : Int))
          (some (.inr (0, ((l11 ++ ([(IntKind.u8.wrap (Int.fdiv i14 (2 ^ 8))), (IntKind.u8.wrap i14)] : List Int)), i12, i13, i14, i15))))
          ((getI s1 i13).bind fun i24 =>
            cond ((i24 != 58) || (((l11 ++ ([(IntKind.u8.wrap (Int.fdiv i14 (2 ^ 8))), (IntKind.u8.wrap i14)] : List Int)).length : Int) == 16))
            (some (.inl (([] : List Int), false)))
            (cond ((IntKind.i64.wrap (i13 + 1)) == (s1.length : Int))
              (some (.inr (1, ((l11 ++ ([(IntKind.u8.wrap (Int.fdiv i14 (2 ^ 8))), (IntKind.u8.wrap i14)] : List Int)), i12, (IntKind.i64.wrap (i13 + 1)), i14, i15))))
              ((getI s1 (IntKind.i64.wrap (i13 + 1))).bind fun i25 =>
                cond (i25 != 58)
                (some (.inr (1, ((l11 ++ ([(IntKind.u8.wrap (Int.fdiv i14 (2 ^ 8))), (IntKind.u8.wrap i14)] : List Int)), i12, (IntKind.i64.wrap (i13 + 1)), i14, i15))))
                (cond (decide (i12 ≥ 0))
                  (some (.inl (([] : List Int), false)))
                  (cond (decide ((IntKind.i64.wrap ((IntKind.i64.wrap (i13 + 1)) + 1)) < (s1.length : Int)))
                    (some (.inr (1, ((l11 ++ ([(IntKind.u8.wrap (Int.fdiv i14 (2 ^ 8))), (IntKind.u8.wrap i14)] : List Int)), ((l11 ++ ([(IntKind.u8.wrap (Int.fdiv i14 (2 ^ 8))), (IntKind.u8.wrap i14)] : List Int)).length : Int), (IntKind.i64.wrap ((IntKind.i64.wrap (i13 + 1)) + 1)), i14, i15))))
                    (cond (decide (((l11 ++ ([(IntKind.u8.wrap (Int.fdiv i14 (2 ^ 8))), (IntKind.u8.wrap i14)] : List Int)).length : Int) < 0))
                      (some (.inl ((l11 ++ ([(IntKind.u8.wrap (Int.fdiv i14 (2 ^ 8))), (IntKind.u8.wrap i14)] : List Int)), (((l11 ++ ([(IntKind.u8.wrap (Int.fdiv i14 (2 ^ 8))), (IntKind.u8.wrap i14)] : List Int)).length : Int) == 16))))
                      (cond (decide (((l11 ++ ([(IntKind.u8.wrap (Int.fdiv i14 (2 ^ 8))), (IntKind.u8.wrap i14)] : List Int)).length : Int) ≥ 16))
                        (some (.inl (([] : List Int), false)))
                        (chk (insOk (l11 ++ ([(IntKind.u8.wrap (Int.fdiv i14 (2 ^ 8))), (IntKind.u8.wrap i14)] : List Int)) ((l11 ++ ([(IntKind.u8.wrap (Int.fdiv i14 (2 ^ 8))), (IntKind.u8.wrap i14)] : List Int)).length : Int))
                          (some (.inl ((insZ (l11 ++ ([(IntKind.u8.wrap (Int.fdiv i14 (2 ^ 8))), (IntKind.u8.wrap i14)] : List Int)) ((l11 ++ ([(IntKind.u8.wrap (Int.fdiv i14 (2 ^ 8))), (IntKind.u8.wrap i14)] : List Int)).length : Int).toNat), true)))))))))))))))
  (cond (i15 == 0)
    (some (.inl (([] : List Int), false)))
    (chk (decide ((l11.length + ([(IntKind.u8.wrap (Int.fdiv i14 (2 ^ 8))), (IntKind.u8.wrap i14)] : List Int).length) * 1 ≤ 140737488355328) && decide (l11.length + ([(IntKind.u8.wrap (Int.fdiv i14 (2 ^ 8))), (IntKind.u8.wrap i14)] : List Int).length ≤ maxLen))
      (cond (i13 == (s1.length : Int))
        (some (.inr (0, ((l11 ++ ([(IntKind.u8.wrap (Int.fdiv i14 (2 ^ 8))), (IntKind.u8.wrap i14)] : List Int)), i12, i13, i14, i15))))
        ((getI s1 i13).bind fun i26 =>
          cond ((i26 != 58) || (((l11 ++ ([(IntKind.u8.wrap (Int.fdiv i14 (2 ^ 8))), (IntKind.u8.wrap i14)] : List Int)).length : Int) == 16))
          (some (.inl (([] : List Int), false)))
          (cond ((IntKind.i64.wrap (i13 + 1)) == (s1.length : Int))
            (some (.inr (1, ((l11 ++ ([(IntKind.u8.wrap (Int.fdiv i14 (2 ^ 8))), (IntKind.u8.wrap i14)] : List Int)), i12, (IntKind.i64.wrap (i13 + 1)), i14, i15))))
            ((getI s1 (IntKind.i64.wrap (i13 + 1))).bind fun i27 =>
              cond (i27 != 58)
              (some (.inr (1, ((l11 ++ ([(IntKind.u8.wrap (Int.fdiv i14 (2 ^ 8))), (IntKind.u8.wrap i14)] : List Int)), i12, (IntKind.i64.wrap (i13 + 1)), i14, i15))))
              (cond (decide (i12 ≥ 0))
                (some (.inl (([] : List Int), false)))
                (cond (decide ((IntKind.i64.wrap ((IntKind.i64.wrap (i13 + 1)) + 1)) < (s1.length : Int)))
                  (some (.inr (1, ((l11 ++ ([(IntKind.u8.wrap (Int.fdiv i14 (2 ^ 8))), (IntKind.u8.wrap i14)] : List Int)), ((l11 ++ ([(IntKind.u8.wrap (Int.fdiv i14 (2 ^ 8))), (IntKind.u8.wrap i14)] : List Int)).length : Int), (IntKind.i64.wrap ((IntKind.i64.wrap (i13 + 1)) + 1)), i14, i15))))
                  (cond (decide (((l11 ++ ([(IntKind.u8.wrap (Int.fdiv i14 (2 ^ 8))), (IntKind.u8.wrap i14)] : List Int)).length : Int) < 0))
                    (some (.inl ((l11 ++ ([(IntKind.u8.wrap (Int.fdiv i14 (2 ^ 8))), (IntKind.u8.wrap i14)] : List Int)), (((l11 ++ ([(IntKind.u8.wrap (Int.fdiv i14 (2 ^ 8))), (IntKind.u8.wrap i14)] : List Int)).length : Int) == 16))))
                    (cond (decide (((l11 ++ ([(IntKind.u8.wrap (Int.fdiv i14 (2 ^ 8))), (IntKind.u8.wrap i14)] : List Int)).length : Int) ≥ 16))
                      (some (.inl (([] : List Int), false)))
                      (chk (insOk (l11 ++ ([(IntKind.u8.wrap (Int.fdiv i14 (2 ^ 8))), (IntKind.u8.wrap i14)] : List Int)) ((l11 ++ ([(IntKind.u8.wrap (Int.fdiv i14 (2 ^ 8))), (IntKind.u8.wrap i14)] : List Int)).length : Int))
                        (some (.inl ((insZ (l11 ++ ([(IntKind.u8.wrap (Int.fdiv i14 (2 ^ 8))), (IntKind.u8.wrap i14)] : List Int)) ((l11 ++ ([(IntKind.u8.wrap (Int.fdiv i14 (2 ^ 8))), (IntKind.u8.wrap i14)] : List Int)).length : Int).toNat), true))))))))))))))
noncomputable def F_addr_coloned_G1_0 (s : List Int × Int × Int × Int × Int) : Option ((List Int × Bool) ⊕ (Nat × List Int × Int × Int × Int × Int)) :=
  let l11 := s.1; let i12 := s.2.1; let i13 := s.2.2.1; let i14 := s.2.2.2.1; let i15 := s.2.2.2.2
  cond (decide (i12 < 0))
  (some (.inl (l11, ((l11.length : Int) == 16))))
  (cond (decide ((l11.length : Int) ≥ 16))
    (some (.inl (([] : List Int), false)))
    (chk (insOk l11 i12)
      (some (.inl ((insZ l11 i12.toNat), true)))))
noncomputable def F_addr_coloned_G1 (s1 : List Int) (p : Nat × List Int × Int × Int × Int × Int) : Option ((List Int × Bool) ⊕ (Nat × List Int × Int × Int × Int × Int)) :=
  cond (hasN [1] p.1) (F_addr_coloned_G1_1 s1 p.2) (cond (hasN [2] p.1) (F_addr_coloned_G1_2 s1 p.2) (cond (hasN [0] p.1) (F_addr_coloned_G1_0 p.2) (none)))
noncomputable def F_addr_coloned (s1 : List Int) : Option (List Int × Bool) :=
  joinC (S := Nat × List Int × Int × Int × Int × Int) (R := List Int × Bool)
  ((F_strings_HasPrefix s1 ([58, 58] : List Int)).bind fun b2 =>
    cond b2
    (cond (2 == (s1.length : Int))
      (some (.inr (0, (([] : List Int), 0, 2, 0, 0))))
      (cond (decide ((2 : Int) < (s1.length : Int)))
        ((getI s1 2).bind fun i3 =>
          (F_addr_digit i3).bind fun i4 =>
          cond ((decide (i4 ≥ 0)) && (decide ((0 : Int) < 4)))
          ((getI s1 2).bind fun i5 =>
            (F_addr_digit i5).bind fun i6 =>
            some (.inr (2, (([] : List Int), 0, (IntKind.i64.wrap (2 + 1)), (bits .or .i64 (IntKind.i64.wrap (0 * 2 ^ 4)) i6), (IntKind.i64.wrap (0 + 1))))))
          (some (.inl (([] : List Int), false))))
        (some (.inl (([] : List Int), false)))))
    (cond (decide ((0 : Int) < (s1.length : Int)))
      ((getI s1 0).bind fun i7 =>
        (F_addr_digit i7).bind fun i8 =>
        cond ((decide (i8 ≥ 0)) && (decide ((0 : Int) < 4)))
        ((getI s1 0).bind fun i9 =>
          (F_addr_digit i9).bind fun i10 =>
          some (.inr (2, (([] : List Int), (-1), (IntKind.i64.wrap (0 + 1)), (bits .or .i64 (IntKind.i64.wrap (0 * 2 ^ 4)) i10), (IntKind.i64.wrap (0 + 1))))))
        (some (.inl (([] : List Int), false))))
      (some (.inl (([] : List Int), false)))))
  (fun p => loopC (S := Nat × List Int × Int × Int × Int × Int) (R := List Int × Bool) (F_addr_coloned_G1 s1) p)
def F_addr_coloned_sig : Sig := ⟨[.v false [.d .str]], [(false, [.d .str]), (false, [.d .bool])]⟩
def F_addr_coloned_ann : List (Nat × Ann) := [(1, ⟨2, [(4, false, [.own 5 (.int .u8)]), (5, false, [.d (.int .i64)]), (6, false, [.d (.int .i64)]), (7, false, [.d (.int .i64)]), (8, false, [.d (.int .i64)])], [], [2, 3, 9, 10, 11, 12, 13, 14, 15, 16, 17, 18, 19, 20, 21, 22, 23, 24, 25, 26, 27, 28, 29, 30, 31, 32, 33, 34, 35, 36, 37, 38, 39, 40, 41, 42, 43, 44, 45, 46, 47, 48, 49, 50, 51, 52, 53, 54, 55, 56, 57, 58, 59, 60, 61, 62, 63, 64, 65, 66, 67, 68, 69, 70, 71, 72, 73, 74, 75, 76, 77, 78, 79, 80, 81, 82, 83, 84, 85, 86, 87, 88, 89, 90, 91, 92, 93, 94, 95, 96, 97, 98, 99, 100, 101, 102, 103, 104, 105], []⟩)]
noncomputable def F_addr_coloned_env : Env := ⟨Tryd.prog, [(91, ⟨F_strings_HasPrefix_sig, ⟨F_strings_HasPrefix⟩⟩), (92, ⟨F_addr_digit_sig, ⟨F_addr_digit⟩⟩)], []⟩
set_option maxRecDepth 100000 in
theorem F_addr_coloned_text : pvFnH 29 insTail F_addr_coloned_env F_addr_coloned_ann Tryd.f60 F_addr_coloned_sig = F_addr_coloned := by kernel_rfl
noncomputable def F_internal_stringslite_TrimPrefix (s1 : List Int) (s2 : List Int) : Option (List Int) :=
  (F_internal_stringslite_HasPrefix s1 s2).bind fun b3 =>
  cond b3
  ((cutI s1 (s2.length : Int) (s1.length : Int)).bind fun s4 =>
    some s4)
  (some s1)
def F_internal_stringslite_TrimPrefix_sig : Sig := ⟨[.v false [.d .str], .v false [.d .str]], [(false, [.d .str])]⟩
def F_internal_stringslite_TrimPrefix_ann : List (Nat × Ann) := []
noncomputable def F_internal_stringslite_TrimPrefix_env : Env := ⟨Tryd.prog, [(125, ⟨F_internal_stringslite_HasPrefix_sig, ⟨F_internal_stringslite_HasPrefix⟩⟩)], []⟩
set_option maxRecDepth 100000 in
theorem F_internal_stringslite_TrimPrefix_text : pvFn F_internal_stringslite_TrimPrefix_env F_internal_stringslite_TrimPrefix_ann Tryd.f128 F_internal_stringslite_TrimPrefix_sig = F_internal_stringslite_TrimPrefix := by kernel_rfl
noncomputable def F_strings_TrimPrefix (s1 : List Int) (s2 : List Int) : Option (List Int) :=
  (F_internal_stringslite_TrimPrefix s1 s2).bind fun s3 =>
  some s3
def F_strings_TrimPrefix_sig : Sig := ⟨[.v false [.d .str], .v false [.d .str]], [(false, [.d .str])]⟩
def F_strings_TrimPrefix_ann : List (Nat × Ann) := []
noncomputable def F_strings_TrimPrefix_env : Env := ⟨Tryd.prog, [(128, ⟨F_internal_stringslite_TrimPrefix_sig, ⟨F_internal_stringslite_TrimPrefix⟩⟩)], []⟩
set_option maxRecDepth 100000 in
theorem F_strings_TrimPrefix_text : pvFn F_strings_TrimPrefix_env F_strings_TrimPrefix_ann Tryd.f94 F_strings_TrimPrefix_sig = F_strings_TrimPrefix := by kernel_rfl
noncomputable def F_addr_Plain (s1 : List Int) : Option (List Int) :=
  (F_strings_TrimPrefix s1 ([0, 0, 0, 0, 0, 0, 0, 0, 0, 0, 255, 255] : List Int)).bind fun s2 =>
  some s2
def F_addr_Plain_sig : Sig := ⟨[.v false [.d .str]], [(false, [.d .str])]⟩
def F_addr_Plain_ann : List (Nat × Ann) := []
noncomputable def F_addr_Plain_env : Env := ⟨Tryd.prog, [(94, ⟨F_strings_TrimPrefix_sig, ⟨F_strings_TrimPrefix⟩⟩)], []⟩
set_option maxRecDepth 100000 in
theorem F_addr_Plain_text : pvFn F_addr_Plain_env F_addr_Plain_ann Tryd.f61 F_addr_Plain_sig = F_addr_Plain := by kernel_rfl
noncomputable def F_addr_Parse (s1 : List Int) : Option (List Int × Int) :=
  (F_addr_dotted s1).bind fun x2 =>
  cond (!x2.2)
  ((F_addr_coloned s1).bind fun x3 =>
    (F_addr_Plain x3.1).bind fun s4 =>
    cond (!x3.2)
    (some (([] : List Int), 2))
    (some (s4, 0)))
  (cond (!x2.2)
    (some (([] : List Int), 2))
    (some (x2.1, 0)))
def F_addr_Parse_sig : Sig := ⟨[.v false [.d .str]], [(false, [.d .str]), (false, [.d (.int .i64)])]⟩
def F_addr_Parse_ann : List (Nat × Ann) := []
noncomputable def F_addr_Parse_env : Env := ⟨Tryd.prog, [(59, ⟨F_addr_dotted_sig, ⟨F_addr_dotted⟩⟩), (60, ⟨F_addr_coloned_sig, ⟨F_addr_coloned⟩⟩), (61, ⟨F_addr_Plain_sig, ⟨F_addr_Plain⟩⟩)], []⟩
set_option maxRecDepth 100000 in
theorem F_addr_Parse_text : pvFn F_addr_Parse_env F_addr_Parse_ann Tryd.f26 F_addr_Parse_sig = F_addr_Parse := by kernel_rfl
noncomputable def F_wlvlaw15_first : Option (Bool) :=
  (F_addr_Parse ([58, 58, 102, 102, 102, 102, 58, 49, 48, 46, 48, 46, 48, 46, 49] : List Int)).bind fun x1 =>
  (F_addr_Parse ([58, 58, 102, 102, 102, 102, 58, 97, 48, 48, 58, 49] : List Int)).bind fun x2 =>
  some (((x1.2 == 2) && (x2.2 == 0)) && (x2.1 == ([10, 0, 0, 1] : List Int)))
def F_wlvlaw15_first_sig : Sig := ⟨[], [(false, [.d .bool])]⟩
def F_wlvlaw15_first_ann : List (Nat × Ann) := []
noncomputable def F_wlvlaw15_first_env : Env := ⟨Tryd.prog, [(26, ⟨F_addr_Parse_sig, ⟨F_addr_Parse⟩⟩)], []⟩
set_option maxRecDepth 100000 in
theorem F_wlvlaw15_first_text : pvFn F_wlvlaw15_first_env F_wlvlaw15_first_ann Tryd.f24 F_wlvlaw15_first_sig = F_wlvlaw15_first := by kernel_rfl
noncomputable def F_wlvlaw15_hex (i1 : Int) (s2 : List Int) : Option (List Int) :=
  (getI s2 (bits .and .i64 (Int.fdiv i1 (2 ^ 12)) 15)).bind fun i3 =>
  (getI s2 (bits .and .i64 (Int.fdiv i1 (2 ^ 8)) 15)).bind fun i4 =>
  (getI s2 (bits .and .i64 (Int.fdiv i1 (2 ^ 4)) 15)).bind fun i5 =>
  (getI s2 (bits .and .i64 i1 15)).bind fun i6 =>
  some ([i3, i4, i5, i6] : List Int)
def F_wlvlaw15_hex_sig : Sig := ⟨[.v false [.d (.int .i64)], .v false [.d .str]], [(false, [.d .str])]⟩
def F_wlvlaw15_hex_ann : List (Nat × Ann) := []
noncomputable def F_wlvlaw15_hex_env : Env := ⟨Tryd.prog, [], []⟩
set_option maxRecDepth 100000 in
theorem F_wlvlaw15_hex_text : pvFn F_wlvlaw15_hex_env F_wlvlaw15_hex_ann Tryd.f25 F_wlvlaw15_hex_sig = F_wlvlaw15_hex := by kernel_rfl
noncomputable def F_wlvref15_Mapped (s1 : List Int) : Option (Bool) :=
  cond ((s1.length : Int) == 16)
  ((cutI s1 0 12).bind fun s2 =>
    chk (decide (0 ≤ (10 : Int)) && decide ((10 : Int) ≤ (10 : Int)) && decide ((10 : Int) * 1 ≤ 140737488355328) && decide ((10 : Int) ≤ maxLen))
    (chk (Nat.ble ((List.replicate ((10 : Int)).toNat 0).length + ([255, 255] : List Int).length) maxLen)
      (some (s2 == ((List.replicate ((10 : Int)).toNat 0) ++ ([255, 255] : List Int))))))
  (some false)
def F_wlvref15_Mapped_sig : Sig := ⟨[.v false [.d .str]], [(false, [.d .bool])]⟩
def F_wlvref15_Mapped_ann : List (Nat × Ann) := []
noncomputable def F_wlvref15_Mapped_env : Env := ⟨Tryd.prog, [], []⟩
set_option maxRecDepth 100000 in
theorem F_wlvref15_Mapped_text : pvFn F_wlvref15_Mapped_env F_wlvref15_Mapped_ann Tryd.f27 F_wlvref15_Mapped_sig = F_wlvref15_Mapped := by kernel_rfl
noncomputable def F_wlvlaw15_AddrShort_L11 (l1 : List Int) (i2 : Int) (i3 : Int) (s : List Int × List Int × List Int × Int) : Option (((Bool) ⊕ (List Int × List Int × List Int)) ⊕ (List Int × List Int × List Int × Int)) :=
  let l6 := s.1; let s7 := s.2.1; let s8 := s.2.2.1; let i9 := s.2.2.2
  cond (decide (i9 < 8))
  ((getI l1 i9).bind fun i10 =>
    cond (decide (i10 < 0))
    ((F_wlvlaw15_first).bind fun b11 =>
      some (.inl (.inl b11)))
    ((getI l1 i9).bind fun i12 =>
      cond (decide (i12 > 65535))
      ((F_wlvlaw15_first).bind fun b13 =>
        some (.inl (.inl b13)))
      ((getI l1 i9).bind fun i14 =>
        cond ((decide (i9 ≥ i2)) && (decide (i9 < i3)))
        (chk (decide ((l6.length + ([(IntKind.u8.wrap (Int.fdiv 0 (2 ^ 8))), (IntKind.u8.wrap 0)] : List Int).length) * 1 ≤ 140737488355328) && decide (l6.length + ([(IntKind.u8.wrap (Int.fdiv 0 (2 ^ 8))), (IntKind.u8.wrap 0)] : List Int).length ≤ maxLen))
          (cond (decide (i9 > 0))
            (chk (Nat.ble (s7.length + ([58] : List Int).length) maxLen)
              (chk (Nat.ble (s8.length + ([58] : List Int).length) maxLen)
                ((F_wlvlaw15_hex 0 ([48, 49, 50, 51, 52, 53, 54, 55, 56, 57, 97, 98, 99, 100, 101, 102] : List Int)).bind fun s15 =>
                  chk (Nat.ble ((s7 ++ ([58] : List Int)).length + s15.length) maxLen)
                  ((F_wlvlaw15_hex 0 ([48, 49, 50, 51, 52, 53, 54, 55, 56, 57, 65, 66, 67, 68, 69, 70] : List Int)).bind fun s16 =>
                    chk (Nat.ble ((s8 ++ ([58] : List Int)).length + s16.length) maxLen)
                    (some (.inr ((l6 ++ ([(IntKind.u8.wrap (Int.fdiv 0 (2 ^ 8))), (IntKind.u8.wrap 0)] : List Int)), ((s7 ++ ([58] : List Int)) ++ s15), ((s8 ++ ([58] : List Int)) ++ s16), (IntKind.i64.wrap (i9 + 1)))))))))
            ((F_wlvlaw15_hex 0 ([48, 49, 50, 51, 52, 53, 54, 55, 56, 57, 97, 98, 99, 100, 101, 102] : List Int)).bind fun s17 =>
              chk (Nat.ble (s7.length + s17.length) maxLen)
              ((F_wlvlaw15_hex 0 ([48, 49, 50, 51, 52, 53, 54, 55, 56, 57, 65, 66, 67, 68, 69, 70] : List Int)).bind fun s18 =>
                chk (Nat.ble (s8.length + s18.length) maxLen)
                (some (.inr ((l6 ++ ([(IntKind.u8.wrap (Int.fdiv 0 (2 ^ 8))), (IntKind.u8.wrap 0)] : List Int)), (s7 ++ s17), (s8 ++ s18), (IntKind.i64.wrap (i9 + 1)))))))))
        (chk (decide ((l6.length + ([(IntKind.u8.wrap (Int.fdiv i14 (2 ^ 8))), (IntKind.u8.wrap i14)] : List Int).length) * 1 ≤ 140737488355328) && decide (l6.length + ([(IntKind.u8.wrap (Int.fdiv i14 (2 ^ 8))), (IntKind.u8.wrap i14)] : List Int).length ≤ maxLen))
          (cond (decide (i9 > 0))
            (chk (Nat.ble (s7.length + ([58] : List Int).length) maxLen)
              (chk (Nat.ble (s8.length + ([58] : List Int).length) maxLen)
                ((F_wlvlaw15_hex i14 ([48, 49, 50, 51, 52, 53, 54, 55, 56, 57, 97, 98, 99, 100, 101, 102] : List Int)).bind fun s19 =>
                  chk (Nat.ble ((s7 ++ ([58] : List Int)).length + s19.length) maxLen)
                  ((F_wlvlaw15_hex i14 ([48, 49, 50, 51, 52, 53, 54, 55, 56, 57, 65, 66, 67, 68, 69, 70] : List Int)).bind fun s20 =>
                    chk (Nat.ble ((s8 ++ ([58] : List Int)).length + s20.length) maxLen)
                    (some (.inr ((l6 ++ ([(IntKind.u8.wrap (Int.fdiv i14 (2 ^ 8))), (IntKind.u8.wrap i14)] : List Int)), ((s7 ++ ([58] : List Int)) ++ s19), ((s8 ++ ([58] : List Int)) ++ s20), (IntKind.i64.wrap (i9 + 1)))))))))
            ((F_wlvlaw15_hex i14 ([48, 49, 50, 51, 52, 53, 54, 55, 56, 57, 97, 98, 99, 100, 101, 102] : List Int)).bind fun s21 =>
              chk (Nat.ble (s7.length + s21.length) maxLen)
              ((F_wlvlaw15_hex i14 ([48, 49, 50, 51, 52, 53, 54, 55, 56, 57, 65, 66, 67, 68, 69, 70] : List Int)).bind fun s22 =>
                chk (Nat.ble (s8.length + s22.length) maxLen)
                (some (.inr ((l6 ++ ([(IntKind.u8.wrap (Int.fdiv i14 (2 ^ 8))), (IntKind.u8.wrap i14)] : List Int)), (s7 ++ s21), (s8 ++ s22), (IntKind.i64.wrap (i9 + 1))))))))))))
  (some (.inl (.inr (l6, s7, s8))))
noncomputable def F_wlvlaw15_AddrShort_L29 (l1 : List Int) (i2 : Int) (i3 : Int) (s : List Int × List Int × Int) : Option (((Bool) ⊕ (List Int × List Int)) ⊕ (List Int × List Int × Int)) :=
  let l26 := s.1; let s27 := s.2.1; let i28 := s.2.2
  cond (decide (i28 < 8))
  (cond (i28 == i2)
    (chk (Nat.ble (s27.length + ([58, 58] : List Int).length) maxLen)
      (cond ((decide (i28 ≥ i2)) && (decide (i28 < i3)))
        (some (.inr (l26, (s27 ++ ([58, 58] : List Int)), (IntKind.i64.wrap (i28 + 1)))))
        (cond ((decide (i28 > 0)) && (i28 != i3))
          (chk (Nat.ble ((s27 ++ ([58, 58] : List Int)).length + ([58] : List Int).length) maxLen)
            ((getI l1 i28).bind fun i29 =>
              (F_wlvlaw15_hex i29 ([48, 49, 50, 51, 52, 53, 54, 55, 56, 57, 97, 98, 99, 100, 101, 102] : List Int)).bind fun s30 =>
              chk (Nat.ble (((s27 ++ ([58, 58] : List Int)) ++ ([58] : List Int)).length + s30.length) maxLen)
              (some (.inr (l26, (((s27 ++ ([58, 58] : List Int)) ++ ([58] : List Int)) ++ s30), (IntKind.i64.wrap (i28 + 1)))))))
          ((getI l1 i28).bind fun i31 =>
            (F_wlvlaw15_hex i31 ([48, 49, 50, 51, 52, 53, 54, 55, 56, 57, 97, 98, 99, 100, 101, 102] : List Int)).bind fun s32 =>
            chk (Nat.ble ((s27 ++ ([58, 58] : List Int)).length + s32.length) maxLen)
            (some (.inr (l26, ((s27 ++ ([58, 58] : List Int)) ++ s32), (IntKind.i64.wrap (i28 + 1)))))))))
    (cond ((decide (i28 ≥ i2)) && (decide (i28 < i3)))
      (some (.inr (l26, s27, (IntKind.i64.wrap (i28 + 1)))))
      (cond ((decide (i28 > 0)) && (i28 != i3))
        (chk (Nat.ble (s27.length + ([58] : List Int).length) maxLen)
          ((getI l1 i28).bind fun i33 =>
            (F_wlvlaw15_hex i33 ([48, 49, 50, 51, 52, 53, 54, 55, 56, 57, 97, 98, 99, 100, 101, 102] : List Int)).bind fun s34 =>
            chk (Nat.ble ((s27 ++ ([58] : List Int)).length + s34.length) maxLen)
            (some (.inr (l26, ((s27 ++ ([58] : List Int)) ++ s34), (IntKind.i64.wrap (i28 + 1)))))))
        ((getI l1 i28).bind fun i35 =>
          (F_wlvlaw15_hex i35 ([48, 49, 50, 51, 52, 53, 54, 55, 56, 57, 97, 98, 99, 100, 101, 102] : List Int)).bind fun s36 =>
          chk (Nat.ble (s27.length + s36.length) maxLen)
          (some (.inr (l26, (s27 ++ s36), (IntKind.i64.wrap (i28 + 1)))))))))
  (some (.inl (.inr (l26, s27))))
noncomputable def F_wlvlaw15_AddrShort_J27 (s24 : List Int) (s25 : List Int) (s : List Int × List Int) : Option (Bool) :=
  let l37 := s.1; let s38 := s.2
  (F_addr_Parse s24).bind fun x39 =>
  (F_addr_Parse s25).bind fun x40 =>
  (F_addr_Parse s38).bind fun x41 =>
  chk (Nat.ble (s24.length + ([58, 48] : List Int).length) maxLen)
  ((F_addr_Parse (s24 ++ ([58, 48] : List Int))).bind fun x42 =>
    chk (Nat.ble (s38.length + ([58, 58] : List Int).length) maxLen)
    ((F_addr_Parse (s38 ++ ([58, 58] : List Int))).bind fun x43 =>
      (F_wlvref15_Mapped l37).bind fun b44 =>
      cond b44
      ((cutI l37 12 (l37.length : Int)).bind fun s45 =>
        (F_wlvlaw15_first).bind fun b46 =>
        some ((((((((b46 && (x39.2 == 0)) && (x40.2 == 0)) && (x41.2 == 0)) && (x39.1 == s45)) && (x40.1 == s45)) && (x41.1 == s45)) && (x42.2 == 2)) && (x43.2 == 2)))
      ((F_wlvlaw15_first).bind fun b47 =>
        some ((((((((b47 && (x39.2 == 0)) && (x40.2 == 0)) && (x41.2 == 0)) && (x39.1 == l37)) && (x40.1 == l37)) && (x41.1 == l37)) && (x42.2 == 2)) && (x43.2 == 2)))))
noncomputable def F_wlvlaw15_AddrShort_J9 (l1 : List Int) (i2 : Int) (i3 : Int) (s : List Int × List Int × List Int) : Option (Bool) :=
  let l23 := s.1; let s24 := s.2.1; let s25 := s.2.2
  joinC (S := List Int × List Int) (R := Bool)
  (loopC (S := List Int × List Int × Int) (R := (Bool) ⊕ (List Int × List Int)) (F_wlvlaw15_AddrShort_L29 l1 i2 i3) (l23, ([] : List Int), 0))
  (F_wlvlaw15_AddrShort_J27 s24 s25)
noncomputable def F_wlvlaw15_AddrShort (l1 : List Int) (i2 : Int) (i3 : Int) : Option (Bool) :=
  (F_wlvlaw15_first).bind fun b4 =>
  cond (!b4)
  (some false)
  (cond (((((l1.length : Int) != 8) || (decide (i2 < 0))) || (decide (i3 ≤ i2))) || (decide (i3 > 8)))
    ((F_wlvlaw15_first).bind fun b5 =>
      some b5)
    (joinC (S := List Int × List Int × List Int) (R := Bool)
      (loopC (S := List Int × List Int × List Int × Int) (R := (Bool) ⊕ (List Int × List Int × List Int)) (F_wlvlaw15_AddrShort_L11 l1 i2 i3) (([] : List Int), ([] : List Int), ([] : List Int), 0))
      (F_wlvlaw15_AddrShort_J9 l1 i2 i3)))
def F_wlvlaw15_AddrShort_sig : Sig := ⟨[.v false [.d (.sl (.int .i64))], .v false [.d (.int .i64)], .v false [.d (.int .i64)]], [(false, [.d .bool])]⟩
def F_wlvlaw15_AddrShort_ann : List (Nat × Ann) := [(9, ⟨10, [(7, false, [.own 5 (.int .u8)]), (8, false, [.d .str]), (9, false, [.d .str])], [], [6, 10, 11, 44, 45, 46, 47, 48, 49, 50, 51, 52, 53, 54, 55, 56, 57, 58, 59, 60, 61, 62, 63, 64, 65, 66, 67, 68, 69, 70, 71, 72, 73, 74, 75, 76, 77, 78, 79, 80, 81, 82, 83, 84, 85, 86, 87, 88, 89, 90, 91, 92, 93, 94], []⟩), (11, ⟨12, [(7, false, [.own 5 (.int .u8)]), (8, false, [.d .str]), (9, false, [.d .str]), (10, false, [.d (.int .i64)])], [], [6, 11, 44, 45, 46, 47, 48, 49, 50, 51, 52, 53, 54, 55, 56, 57, 58, 59, 60, 61, 62, 63, 64, 65, 66, 67, 68, 69, 70, 71, 72, 73, 74, 75, 76, 77, 78, 79, 80, 81, 82, 83, 84, 85, 86, 87, 88, 89, 90, 91, 92, 93, 94], []⟩), (27, ⟨28, [(7, false, [.own 5 (.int .u8)]), (12, false, [.d .str])], [], [13, 95, 96, 97, 98, 99, 100, 101, 102, 103, 104, 105, 106, 107, 108, 109, 110, 111, 112, 113, 114, 115, 116, 117, 118, 119, 120, 121, 122, 123, 124, 125, 126, 127], []⟩), (29, ⟨30, [(7, false, [.own 5 (.int .u8)]), (12, false, [.d .str]), (13, false, [.d (.int .i64)])], [], [95, 96, 97, 98, 99, 100, 101, 102, 103, 104, 105, 106, 107, 108, 109, 110, 111, 112, 113, 114, 115, 116, 117, 118, 119, 120, 121, 122, 123, 124, 125, 126, 127], []⟩)]
noncomputable def F_wlvlaw15_AddrShort_env : Env := ⟨Tryd.prog, [(24, ⟨F_wlvlaw15_first_sig, ⟨F_wlvlaw15_first⟩⟩), (25, ⟨F_wlvlaw15_hex_sig, ⟨F_wlvlaw15_hex⟩⟩), (26, ⟨F_addr_Parse_sig, ⟨F_addr_Parse⟩⟩), (27, ⟨F_wlvref15_Mapped_sig, ⟨F_wlvref15_Mapped⟩⟩)], []⟩
set_option maxRecDepth 100000 in
theorem F_wlvlaw15_AddrShort_text : pvFn F_wlvlaw15_AddrShort_env F_wlvlaw15_AddrShort_ann Tryd.f6 F_wlvlaw15_AddrShort_sig = F_wlvlaw15_AddrShort := by kernel_rfl
noncomputable def F_addr_kept_L4 (s1 : List Int) (i2 : Int) (s : Int × List Int) : Option (((List Int) ⊕ (List Int)) ⊕ (Int × List Int)) :=
  let i3 := s.1; let l4 := s.2
  cond (decide (i3 < (s1.length : Int)))
  (chk (decide (0 ≤ i3) && decide (i3 < (s1.length : Int)))
    ((getI l4 i3).bind fun i5 =>
      chk (decide (0 ≤ (minI (maxI (IntKind.i64.wrap (i2 - (IntKind.i64.wrap (8 * i3)))) 0) 8)))
      (chk (decide (0 ≤ i3) && decide (i3 < (s1.length : Int)))
        (chk (decide (i3 < (l4.length : Int)))
          (some (.inr ((IntKind.i64.wrap (i3 + 1)), (l4.set (i3).toNat (bits .and .u8 i5 (IntKind.u8.wrap (Int.fdiv 65280 (2 ^ (min ((minI (maxI (IntKind.i64.wrap (i2 - (IntKind.i64.wrap (8 * i3)))) 0) 8)).toNat 64)))))))))))))
  (some (.inl (.inr l4)))
noncomputable def F_addr_kept_J2 (s1 : List Int) (s : List Int) : Option (List Int) :=
  let l6 := s
  chk (Nat.ble s1.length (List.length l6))
  (some (List.take s1.length l6))
noncomputable def F_addr_kept (s1 : List Int) (i2 : Int) : Option (List Int) :=
  joinC (S := List Int) (R := List Int)
  (loopC (S := Int × List Int) (R := (List Int) ⊕ (List Int)) (F_addr_kept_L4 s1 i2) (0, s1))
  (F_addr_kept_J2 s1)
def F_addr_kept_sig : Sig := ⟨[.v false [.d .str], .v false [.d (.int .i64)]], [(false, [.d .str])]⟩
def F_addr_kept_ann : List (Nat × Ann) := [(2, ⟨3, [], [(9, [.row (.int .u8)])], [6, 7, 10, 11, 12, 13, 14, 15, 16, 17, 18, 19, 20, 21, 22, 23, 24, 25, 26, 27, 28, 29, 30], []⟩), (4, ⟨5, [(12, false, [.d (.int .i64)])], [(9, [.row (.int .u8)])], [6, 7, 13, 14, 15, 16, 17, 18, 19, 20, 21, 22, 23, 24, 25, 26, 27, 28, 29, 30], []⟩)]
noncomputable def F_addr_kept_env : Env := ⟨Tryd.prog, [], [9]⟩
set_option maxRecDepth 100000 in
theorem F_addr_kept_text : pvFn F_addr_kept_env F_addr_kept_ann Tryd.f62 F_addr_kept_sig = F_addr_kept := by kernel_rfl
noncomputable def F_addr_In (s1 : List Int) (i2 : Int) (s3 : List Int) : Option (Bool) :=
  cond ((s1.length : Int) == 4)
  (cond ((s3.length : Int) == (s1.length : Int))
    (cond (decide (i2 ≥ 0))
      (cond (decide (i2 ≤ (IntKind.i64.wrap (8 * (s3.length : Int)))))
        ((F_addr_kept s3 i2).bind fun s4 =>
          (F_addr_kept s1 i2).bind fun s5 =>
          some (s4 == s5))
        (some false))
      (some false))
    (some false))
  (cond ((s1.length : Int) == 16)
    (cond ((s3.length : Int) == (s1.length : Int))
      (cond (decide (i2 ≥ 0))
        (cond (decide (i2 ≤ (IntKind.i64.wrap (8 * (s3.length : Int)))))
          ((F_addr_kept s3 i2).bind fun s6 =>
            (F_addr_kept s1 i2).bind fun s7 =>
            some (s6 == s7))
          (some false))
        (some false))
      (some false))
    (some false))
def F_addr_In_sig : Sig := ⟨[.v true [.d .str, .d (.int .i64)], .v false [.d .str]], [(false, [.d .bool])]⟩
def F_addr_In_ann : List (Nat × Ann) := []
noncomputable def F_addr_In_env : Env := ⟨Tryd.prog, [(62, ⟨F_addr_kept_sig, ⟨F_addr_kept⟩⟩)], []⟩
set_option maxRecDepth 100000 in
theorem F_addr_In_text : pvFn F_addr_In_env F_addr_In_ann Tryd.f28 F_addr_In_sig = F_addr_In := by kernel_rfl
noncomputable def F_wlvlaw15_AddrNets_L10 (s1 : List Int) (s2 : List Int) (s : Int × List Int × Int × List Int × Int) : Option (((Bool) ⊕ (Int × List Int × Int × List Int × Int)) ⊕ (Int × List Int × Int × List Int × Int)) :=
  let i7 := s.1; let s8 := s.2.1; let i9 := s.2.2.1; let s10 := s.2.2.2.1; let i11 := s.2.2.2.2
  cond (decide (i7 < (IntKind.i64.wrap (8 * (s1.length : Int)))))
  ((getI s1 (IntKind.i64.wrap (Int.tdiv i7 8))).bind fun i12 =>
    (getI s2 (IntKind.i64.wrap (Int.tdiv i7 8))).bind fun i13 =>
    chk (decide (0 ≤ (IntKind.u64.wrap (IntKind.i64.wrap (7 - (Int.tmod i7 8))))))
    (cond ((bits .and .u8 (Int.fdiv (bits .xor .u8 i12 i13) (2 ^ (min ((IntKind.u64.wrap (IntKind.i64.wrap (7 - (Int.tmod i7 8))))).toNat 8))) 1) == 0)
      (some (.inr ((IntKind.i64.wrap (i7 + 1)), s8, i9, s10, i11)))
      (some (.inl (.inr (i7, s8, i9, s10, i11))))))
  (some (.inl (.inr (i7, s8, i9, s10, i11))))
noncomputable def F_wlvlaw15_AddrNets_J9 (s1 : List Int) (s2 : List Int) (i3 : Int) (i4 : Int) (s : Int × List Int × Int × List Int × Int) : Option (Bool) :=
  let i14 := s.1; let s15 := s.2.1; let i16 := s.2.2.1; let s17 := s.2.2.2.1; let i18 := s.2.2.2.2
  (F_addr_In s17 i18 s2).bind fun b19 =>
  cond b19
  ((F_addr_In s15 i16 s2).bind fun b20 =>
    cond (!b20)
    (some false)
    ((F_addr_In s15 i16 s2).bind fun b21 =>
      cond (!(bEq b21 (decide (i14 ≥ i3))))
      (some false)
      ((F_addr_In s17 i18 s2).bind fun b22 =>
        cond (!(bEq b22 (decide (i14 ≥ i4))))
        (some false)
        ((F_wlvlaw15_first).bind fun b23 =>
          cond b23
          ((cutI s2 0 3).bind fun s24 =>
            (F_addr_In s15 i16 s24).bind fun b25 =>
            cond (!b25)
            ((F_addr_In s1 (-1) s1).bind fun b26 =>
              cond (!b26)
              ((F_addr_In s1 (IntKind.i64.wrap ((IntKind.i64.wrap (8 * (s1.length : Int))) + 1)) s1).bind fun b27 =>
                cond (!b27)
                ((F_addr_In s1 0 s2).bind fun b28 =>
                  some b28)
                (some false))
              (some false))
            (some false))
          (some false)))))
  ((F_addr_In s15 i16 s2).bind fun b29 =>
    cond (!(bEq b29 (decide (i14 ≥ i3))))
    (some false)
    ((F_addr_In s17 i18 s2).bind fun b30 =>
      cond (!(bEq b30 (decide (i14 ≥ i4))))
      (some false)
      ((F_wlvlaw15_first).bind fun b31 =>
        cond b31
        ((cutI s2 0 3).bind fun s32 =>
          (F_addr_In s15 i16 s32).bind fun b33 =>
          cond (!b33)
          ((F_addr_In s1 (-1) s1).bind fun b34 =>
            cond (!b34)
            ((F_addr_In s1 (IntKind.i64.wrap ((IntKind.i64.wrap (8 * (s1.length : Int))) + 1)) s1).bind fun b35 =>
              cond (!b35)
              ((F_addr_In s1 0 s2).bind fun b36 =>
                some b36)
              (some false))
            (some false))
          (some false))
        (some false))))
noncomputable def F_wlvlaw15_AddrNets (s1 : List Int) (s2 : List Int) (i3 : Int) (i4 : Int) : Option (Bool) :=
  (F_wlvlaw15_first).bind fun b5 =>
  cond (!b5)
  (some false)
  (cond (((((((s1.length : Int) != 4) && ((s1.length : Int) != 16)) || ((s2.length : Int) != (s1.length : Int))) || (decide (i3 < 0))) || (decide (i4 < i3))) || (decide (i4 > (IntKind.i64.wrap (8 * (s1.length : Int))))))
    ((F_wlvlaw15_first).bind fun b6 =>
      some b6)
    (joinC (S := Int × List Int × Int × List Int × Int) (R := Bool)
      (loopC (S := Int × List Int × Int × List Int × Int) (R := (Bool) ⊕ (Int × List Int × Int × List Int × Int)) (F_wlvlaw15_AddrNets_L10 s1 s2) (0, s1, i3, s1, i4))
      (F_wlvlaw15_AddrNets_J9 s1 s2 i3 i4)))
def F_wlvlaw15_AddrNets_sig : Sig := ⟨[.v false [.d .str], .v false [.d .str], .v false [.d (.int .i64)], .v false [.d (.int .i64)]], [(false, [.d .bool])]⟩
def F_wlvlaw15_AddrNets_ann : List (Nat × Ann) := [(9, ⟨10, [(11, false, [.d (.int .i64)])], [(9, [.d .str, .d (.int .i64)]), (10, [.d .str, .d (.int .i64)])], [52, 53, 54, 55, 56, 57, 58, 59, 60, 61, 62, 63, 64, 65, 66, 67, 68, 69, 70, 71, 72, 73, 74, 75, 76], []⟩), (10, ⟨11, [(11, false, [.d (.int .i64)])], [(9, [.d .str, .d (.int .i64)]), (10, [.d .str, .d (.int .i64)])], [52, 53, 54, 55, 56, 57, 58, 59, 60, 61, 62, 63, 64, 65, 66, 67, 68, 69, 70, 71, 72, 73, 74, 75, 76], []⟩)]
noncomputable def F_wlvlaw15_AddrNets_env : Env := ⟨Tryd.prog, [(24, ⟨F_wlvlaw15_first_sig, ⟨F_wlvlaw15_first⟩⟩), (28, ⟨F_addr_In_sig, ⟨F_addr_In⟩⟩)], []⟩
set_option maxRecDepth 100000 in
theorem F_wlvlaw15_AddrNets_text : pvFn F_wlvlaw15_AddrNets_env F_wlvlaw15_AddrNets_ann Tryd.f7 F_wlvlaw15_AddrNets_sig = F_wlvlaw15_AddrNets := by kernel_rfl
noncomputable def F_host_sign (i1 : Int) : Option (Int) :=
  cond ((decide (i1 ≥ 65)) && (decide (i1 ≤ 90)))
  (some (IntKind.u8.wrap ((IntKind.u8.wrap (i1 + 97)) - 65)))
  (cond ((decide (i1 ≥ 97)) && (decide (i1 ≤ 122)))
    (cond ((decide (i1 ≥ 97)) && (decide (i1 ≤ 122)))
      (some i1)
      (some 0))
    (cond ((decide (i1 ≥ 48)) && (decide (i1 ≤ 57)))
      (cond ((decide (i1 ≥ 48)) && (decide (i1 ≤ 57)))
        (some i1)
        (some 0))
      (cond (i1 == 45)
        (cond (i1 == 45)
          (some i1)
          (some 0))
        (cond (i1 == 95)
          (some i1)
          (some 0)))))
def F_host_sign_sig : Sig := ⟨[.v false [.d (.int .u8)]], [(false, [.d (.int .u8)])]⟩
def F_host_sign_ann : List (Nat × Ann) := []
noncomputable def F_host_sign_env : Env := ⟨Tryd.prog, [], []⟩
set_option maxRecDepth 100000 in
theorem F_host_sign_text : pvFn F_host_sign_env F_host_sign_ann Tryd.f69 F_host_sign_sig = F_host_sign := by kernel_rfl
noncomputable def F_host_Name_G1_2 (s1 : List Int) (s : List Int × Int × Int) : Option ((List Int × Int) ⊕ (Nat × List Int × Int × Int)) :=
  let l5 := s.1; let i6 := s.2.1; let i7 := s.2.2
  cond (i6 == (s1.length : Int))
  (some (.inr (1, (l5, i6, i7))))
  ((getI s1 i6).bind fun i8 =>
    cond (i8 == 46)
    (some (.inr (1, (l5, i6, i7))))
    ((getI s1 i6).bind fun i9 =>
      (F_host_sign i9).bind fun i10 =>
      cond ((i10 == 0) || (i7 == 63))
      (some (.inr (0, (l5, i6, i7))))
      (cond ((i10 == 45) && (i7 == 0))
        (some (.inr (0, (l5, i6, i7))))
        (chk (decide ((l5.length + ([i10] : List Int).length) * 1 ≤ 140737488355328) && decide (l5.length + ([i10] : List Int).length ≤ maxLen))
          (some (.inr (2, ((l5 ++ ([i10] : List Int)), (IntKind.i64.wrap (i6 + 1)), (IntKind.i64.wrap (i7 + 1))))))))))
noncomputable def F_host_Name_G1_1 (s1 : List Int) (s : List Int × Int × Int) : Option ((List Int × Int) ⊕ (Nat × List Int × Int × Int)) :=
  let l5 := s.1; let i6 := s.2.1; let i7 := s.2.2
  cond (i7 == 0)
  (some (.inr (0, (l5, i6, i7))))
  ((getI l5 (IntKind.i64.wrap ((l5.length : Int) - 1))).bind fun i11 =>
    cond (i11 == 45)
    (some (.inr (0, (l5, i6, i7))))
    (cond (i6 == (s1.length : Int))
      (some (.inl (l5, 0)))
      (chk (decide ((l5.length + ([46] : List Int).length) * 1 ≤ 140737488355328) && decide (l5.length + ([46] : List Int).length ≤ maxLen))
        (some (.inr (2, ((l5 ++ ([46] : List Int)), (IntKind.i64.wrap (i6 + 1)), 0)))))))
noncomputable def F_host_Name_G1_0 (s : List Int × Int × Int) : Option ((List Int × Int) ⊕ (Nat × List Int × Int × Int)) :=
  let l5 := s.1; let i6 := s.2.1; let i7 := s.2.2
  some (.inl (([] : List Int), 2))
noncomputable def F_host_Name_G1 (s1 : List Int) (p : Nat × List Int × Int × Int) : Option ((List Int × Int) ⊕ (Nat × List Int × Int × Int)) :=
  cond (hasN [2] p.1) (F_host_Name_G1_2 s1 p.2) (cond (hasN [1] p.1) (F_host_Name_G1_1 s1 p.2) (cond (hasN [0] p.1) (F_host_Name_G1_0 p.2) (none)))
noncomputable def F_host_Name (s1 : List Int) : Option (List Int × Int) :=
  joinC (S := Nat × List Int × Int × Int) (R := List Int × Int)
  (cond (decide ((s1.length : Int) > 253))
    (some (.inr (0, (([] : List Int), 0, 0))))
    (cond (0 == (s1.length : Int))
      (some (.inr (1, (([] : List Int), 0, 0))))
      ((getI s1 0).bind fun i2 =>
        cond (i2 == 46)
        (some (.inr (1, (([] : List Int), 0, 0))))
        ((getI s1 0).bind fun i3 =>
          (F_host_sign i3).bind fun i4 =>
          cond ((i4 == 0) || false)
          (some (.inr (0, (([] : List Int), 0, 0))))
          (cond ((i4 == 45) && true)
            (some (.inr (0, (([] : List Int), 0, 0))))
            (chk (decide ((([] : List Int).length + ([i4] : List Int).length) * 1 ≤ 140737488355328) && decide (([] : List Int).length + ([i4] : List Int).length ≤ maxLen))
              (some (.inr (2, ((([] : List Int) ++ ([i4] : List Int)), (IntKind.i64.wrap (0 + 1)), (IntKind.i64.wrap (0 + 1))))))))))))
  (fun p => loopC (S := Nat × List Int × Int × Int) (R := List Int × Int) (F_host_Name_G1 s1) p)
def F_host_Name_sig : Sig := ⟨[.v false [.d .str]], [(false, [.d .str]), (false, [.d (.int .i64)])]⟩
def F_host_Name_ann : List (Nat × Ann) := [(1, ⟨2, [(4, false, [.own 5 (.int .u8)]), (5, false, [.d (.int .i64)]), (6, false, [.d (.int .i64)])], [], [2, 3, 7, 8, 9, 10, 11, 12, 13, 14, 15, 16, 17, 18, 19, 20, 21, 22, 23, 24, 25, 26, 27, 28, 29, 30, 31, 32, 33, 34, 35, 36, 37, 38, 39, 40, 41, 42, 43, 44, 45, 46, 47, 48, 49, 50, 51, 52, 53, 54, 55, 56, 57, 58, 59, 60, 61, 62, 63, 64, 65, 66, 67, 68], []⟩)]
noncomputable def F_host_Name_env : Env := ⟨Tryd.prog, [(69, ⟨F_host_sign_sig, ⟨F_host_sign⟩⟩)], []⟩
set_option maxRecDepth 100000 in
theorem F_host_Name_text : pvFn F_host_Name_env F_host_Name_ann Tryd.f32 F_host_Name_sig = F_host_Name := by kernel_rfl
noncomputable def F_internal_stringslite_HasSuffix (s1 : List Int) (s2 : List Int) : Option (Bool) :=
  cond (decide ((s1.length : Int) ≥ (s2.length : Int)))
  ((cutI s1 (IntKind.i64.wrap ((s1.length : Int) - (s2.length : Int))) (s1.length : Int)).bind fun s3 =>
    some (s3 == s2))
  (some false)
def F_internal_stringslite_HasSuffix_sig : Sig := ⟨[.v false [.d .str], .v false [.d .str]], [(false, [.d .bool])]⟩
def F_internal_stringslite_HasSuffix_ann : List (Nat × Ann) := []
noncomputable def F_internal_stringslite_HasSuffix_env : Env := ⟨Tryd.prog, [], []⟩
set_option maxRecDepth 100000 in
theorem F_internal_stringslite_HasSuffix_text : pvFn F_internal_stringslite_HasSuffix_env F_internal_stringslite_HasSuffix_ann Tryd.f134 F_internal_stringslite_HasSuffix_sig = F_internal_stringslite_HasSuffix := by kernel_rfl
noncomputable def F_strings_HasSuffix (s1 : List Int) (s2 : List Int) : Option (Bool) :=
  (F_internal_stringslite_HasSuffix s1 s2).bind fun b3 =>
  some b3
def F_strings_HasSuffix_sig : Sig := ⟨[.v false [.d .str], .v false [.d .str]], [(false, [.d .bool])]⟩
def F_strings_HasSuffix_ann : List (Nat × Ann) := []
noncomputable def F_strings_HasSuffix_env : Env := ⟨Tryd.prog, [(134, ⟨F_internal_stringslite_HasSuffix_sig, ⟨F_internal_stringslite_HasSuffix⟩⟩)], []⟩
set_option maxRecDepth 100000 in
theorem F_strings_HasSuffix_text : pvFn F_strings_HasSuffix_env F_strings_HasSuffix_ann Tryd.f98 F_strings_HasSuffix_sig = F_strings_HasSuffix := by kernel_rfl
noncomputable def F_host_place (s1 : List Int) : Option (List Int × List Int × Bool) :=
  (F_strings_HasPrefix s1 ([91] : List Int)).bind fun b2 =>
  cond b2
  ((F_strings_HasSuffix s1 ([93] : List Int)).bind fun b3 =>
    cond b3
    ((F_strings_Contains s1 ([58] : List Int)).bind fun b4 =>
      cond b4
      ((cutI s1 1 (IntKind.i64.wrap ((s1.length : Int) - 1))).bind fun s5 =>
        (F_addr_Parse s5).bind fun x6 =>
        some (([] : List Int), x6.1, (x6.2 == 0)))
      ((F_addr_Parse s1).bind fun x7 =>
        cond ((x7.2 == 0) && ((x7.1.length : Int) == 4))
        ((F_strings_Contains s1 ([58] : List Int)).bind fun b8 =>
          cond (!b8)
          (some (([] : List Int), x7.1, true))
          ((F_host_Name s1).bind fun x9 =>
            some (x9.1, ([] : List Int), (x9.2 == 0))))
        ((F_host_Name s1).bind fun x10 =>
          some (x10.1, ([] : List Int), (x10.2 == 0)))))
    ((F_addr_Parse s1).bind fun x11 =>
      cond ((x11.2 == 0) && ((x11.1.length : Int) == 4))
      ((F_strings_Contains s1 ([58] : List Int)).bind fun b12 =>
        cond (!b12)
        (some (([] : List Int), x11.1, true))
        ((F_host_Name s1).bind fun x13 =>
          some (x13.1, ([] : List Int), (x13.2 == 0))))
      ((F_host_Name s1).bind fun x14 =>
        some (x14.1, ([] : List Int), (x14.2 == 0)))))
  ((F_addr_Parse s1).bind fun x15 =>
    cond ((x15.2 == 0) && ((x15.1.length : Int) == 4))
    ((F_strings_Contains s1 ([58] : List Int)).bind fun b16 =>
      cond (!b16)
      (some (([] : List Int), x15.1, true))
      ((F_host_Name s1).bind fun x17 =>
        some (x17.1, ([] : List Int), (x17.2 == 0))))
    ((F_host_Name s1).bind fun x18 =>
      some (x18.1, ([] : List Int), (x18.2 == 0))))
def F_host_place_sig : Sig := ⟨[.v false [.d .str]], [(true, [.d .str, .d .str]), (false, [.d .bool])]⟩
def F_host_place_ann : List (Nat × Ann) := []
noncomputable def F_host_place_env : Env := ⟨Tryd.prog, [(26, ⟨F_addr_Parse_sig, ⟨F_addr_Parse⟩⟩), (32, ⟨F_host_Name_sig, ⟨F_host_Name⟩⟩), (91, ⟨F_strings_HasPrefix_sig, ⟨F_strings_HasPrefix⟩⟩), (98, ⟨F_strings_HasSuffix_sig, ⟨F_strings_HasSuffix⟩⟩), (99, ⟨F_strings_Contains_sig, ⟨F_strings_Contains⟩⟩)], []⟩
set_option maxRecDepth 100000 in
theorem F_host_place_text : pvFn F_host_place_env F_host_place_ann Tryd.f65 F_host_place_sig = F_host_place := by kernel_rfl
noncomputable def F_host_Authority (s1 : List Int) : Option (List Int × List Int × Int × Int) :=
  (F_strings_LastIndexByte s1 58).bind fun i2 =>
  cond (decide (i2 < 0))
  (some (([] : List Int), ([] : List Int), 0, 2))
  ((cutI s1 (IntKind.i64.wrap (i2 + 1)) (s1.length : Int)).bind fun s3 =>
    (F_strconv_Atoi s3).bind fun x4 =>
    (cutI s1 0 i2).bind fun s5 =>
    (F_host_place s5).bind fun x6 =>
    cond ((((!x6.2.2) || x4.2) || (decide (x4.1 < 1))) || (decide (x4.1 > 65535)))
    (some (([] : List Int), ([] : List Int), 0, 2))
    ((F_strconv_Itoa x4.1).bind fun s7 =>
      (cutI s1 (IntKind.i64.wrap (i2 + 1)) (s1.length : Int)).bind fun s8 =>
      cond (!(s7 == s8))
      (some (([] : List Int), ([] : List Int), 0, 2))
      (some (x6.1, x6.2.1, x4.1, 0))))
def F_host_Authority_sig : Sig := ⟨[.v false [.d .str]], [(true, [.d .str, .d .str]), (false, [.d (.int .i64)]), (false, [.d (.int .i64)])]⟩
def F_host_Authority_ann : List (Nat × Ann) := []
noncomputable def F_host_Authority_env : Env := ⟨Tryd.prog, [(63, ⟨F_strings_LastIndexByte_sig, ⟨F_strings_LastIndexByte⟩⟩), (64, ⟨F_strconv_Atoi_sig, ⟨F_strconv_Atoi⟩⟩), (65, ⟨F_host_place_sig, ⟨F_host_place⟩⟩), (66, ⟨F_strconv_Itoa_sig, ⟨F_strconv_Itoa⟩⟩)], []⟩
set_option maxRecDepth 100000 in
theorem F_host_Authority_text : pvFn F_host_Authority_env F_host_Authority_ann Tryd.f30 F_host_Authority_sig = F_host_Authority := by kernel_rfl
noncomputable def F_wlvlaw16_first : Option (Bool) :=
  (F_host_Authority ([69, 120, 97, 109, 112, 108, 101, 46, 111, 114, 103, 58, 52, 52, 51] : List Int)).bind fun x1 =>
  cond (x1.2.2.2 == 0)
  (cond (x1.1 == ([101, 120, 97, 109, 112, 108, 101, 46, 111, 114, 103] : List Int))
    (some ((x1.2.1 == ([] : List Int)) && (x1.2.2.1 == 443)))
    (some false))
  (some false)
def F_wlvlaw16_first_sig : Sig := ⟨[], [(false, [.d .bool])]⟩
def F_wlvlaw16_first_ann : List (Nat × Ann) := []
noncomputable def F_wlvlaw16_first_env : Env := ⟨Tryd.prog, [(30, ⟨F_host_Authority_sig, ⟨F_host_Authority⟩⟩)], []⟩
set_option maxRecDepth 100000 in
theorem F_wlvlaw16_first_text : pvFn F_wlvlaw16_first_env F_wlvlaw16_first_ann Tryd.f29 F_wlvlaw16_first_sig = F_wlvlaw16_first := by kernel_rfl
noncomputable def F_wlvref_Lower_L4 (s1 : List Int) (s : Int × List Int) : Option (((List Int) ⊕ (List Int)) ⊕ (Int × List Int)) :=
  let i2 := s.1; let l3 := s.2
  cond (decide (i2 < (s1.length : Int)))
  (chk (decide (0 ≤ i2) && decide (i2 < (s1.length : Int)))
    ((getI l3 i2).bind fun i4 =>
      cond (decide (i4 ≥ 65))
      (chk (decide (0 ≤ i2) && decide (i2 < (s1.length : Int)))
        ((getI l3 i2).bind fun i5 =>
          cond (decide (i5 ≤ 90))
          (chk (decide (0 ≤ i2) && decide (i2 < (s1.length : Int)))
            ((getI l3 i2).bind fun i6 =>
              chk (decide (0 ≤ i2) && decide (i2 < (s1.length : Int)))
              (chk (decide (i2 < (l3.length : Int)))
                (some (.inr ((IntKind.i64.wrap (i2 + 1)), (l3.set (i2).toNat (IntKind.u8.wrap (i6 + 32)))))))))
          (some (.inr ((IntKind.i64.wrap (i2 + 1)), l3)))))
      (some (.inr ((IntKind.i64.wrap (i2 + 1)), l3)))))
  (some (.inl (.inr l3)))
noncomputable def F_wlvref_Lower_J2 (s1 : List Int) (s : List Int) : Option (List Int) :=
  let l7 := s
  chk (Nat.ble s1.length (List.length l7))
  (some (List.take s1.length l7))
noncomputable def F_wlvref_Lower (s1 : List Int) : Option (List Int) :=
  joinC (S := List Int) (R := List Int)
  (loopC (S := Int × List Int) (R := (List Int) ⊕ (List Int)) (F_wlvref_Lower_L4 s1) (0, s1))
  (F_wlvref_Lower_J2 s1)
def F_wlvref_Lower_sig : Sig := ⟨[.v false [.d .str]], [(false, [.d .str])]⟩
def F_wlvref_Lower_ann : List (Nat × Ann) := [(2, ⟨3, [], [(6, [.row (.int .u8)])], [4, 7, 8, 9, 10, 11, 12, 13, 14, 15, 16, 17, 18, 19, 20, 21, 22, 23, 24, 25, 26, 27, 28, 29, 30], []⟩), (4, ⟨5, [(4, false, [.d (.int .i64)])], [(6, [.row (.int .u8)])], [7, 8, 9, 10, 11, 12, 13, 14, 15, 16, 17, 18, 19, 20, 21, 22, 23, 24, 25, 26, 27, 28, 29, 30], []⟩)]
noncomputable def F_wlvref_Lower_env : Env := ⟨Tryd.prog, [], [6]⟩
set_option maxRecDepth 100000 in
theorem F_wlvref_Lower_text : pvFn F_wlvref_Lower_env F_wlvref_Lower_ann Tryd.f52 F_wlvref_Lower_sig = F_wlvref_Lower := by kernel_rfl
noncomputable def F_wlvref_Split_L5 (s1 : List Int) (i2 : Int) (s : List (List Int) × Int × Int) : Option (((List (List Int)) ⊕ (List (List Int))) ⊕ (List (List Int) × Int × Int)) :=
  let l3 := s.1; let i4 := s.2.1; let i5 := s.2.2
  cond (decide (i5 ≤ (s1.length : Int)))
  (cond (i5 == (s1.length : Int))
    ((cutI s1 i4 i5).bind fun s6 =>
      chk (decide ((l3.length + ([s6] : List (List Int)).length) * 16 ≤ 140737488355328) && decide (l3.length + ([s6] : List (List Int)).length ≤ maxLen))
      (some (.inr ((l3 ++ ([s6] : List (List Int))), (IntKind.i64.wrap (i5 + 1)), (IntKind.i64.wrap (i5 + 1))))))
    ((getI s1 i5).bind fun i7 =>
      cond (i7 == i2)
      ((cutI s1 i4 i5).bind fun s8 =>
        chk (decide ((l3.length + ([s8] : List (List Int)).length) * 16 ≤ 140737488355328) && decide (l3.length + ([s8] : List (List Int)).length ≤ maxLen))
        (some (.inr ((l3 ++ ([s8] : List (List Int))), (IntKind.i64.wrap (i5 + 1)), (IntKind.i64.wrap (i5 + 1))))))
      (some (.inr (l3, i4, (IntKind.i64.wrap (i5 + 1)))))))
  (some (.inl (.inr l3)))
noncomputable def F_wlvref_Split_J3 (s : List (List Int)) : Option (List (List Int)) :=
  let l9 := s
  some l9
noncomputable def F_wlvref_Split (s1 : List Int) (i2 : Int) : Option (List (List Int)) :=
  joinC (S := List (List Int)) (R := List (List Int))
  (loopC (S := List (List Int) × Int × Int) (R := (List (List Int)) ⊕ (List (List Int))) (F_wlvref_Split_L5 s1 i2) (([] : List (List Int)), 0, 0))
  (F_wlvref_Split_J3)
def F_wlvref_Split_sig : Sig := ⟨[.v false [.d .str], .v false [.d (.int .u8)]], [(false, [.own 9 .str])]⟩
def F_wlvref_Split_ann : List (Nat × Ann) := [(3, ⟨4, [(5, false, [.own 9 .str])], [], [6, 7, 8, 9, 10, 11, 12, 13, 14, 15, 16, 17, 18, 19, 20, 21, 22, 23, 24, 25, 26, 27, 28, 29, 30, 31, 32, 33], []⟩), (5, ⟨6, [(5, false, [.own 9 .str]), (6, false, [.d (.int .i64)]), (7, false, [.d (.int .i64)])], [], [8, 9, 10, 11, 12, 13, 14, 15, 16, 17, 18, 19, 20, 21, 22, 23, 24, 25, 26, 27, 28, 29, 30, 31, 32, 33], []⟩)]
noncomputable def F_wlvref_Split_env : Env := ⟨Tryd.prog, [], []⟩
set_option maxRecDepth 100000 in
theorem F_wlvref_Split_text : pvFn F_wlvref_Split_env F_wlvref_Split_ann Tryd.f70 F_wlvref_Split_sig = F_wlvref_Split := by kernel_rfl
noncomputable def F_wlvref15_Name_L17 (s6 : List Int) (s : List (List Int) × Int) : Option (((((List Int × Int) ⊕ (Unit)) ⊕ (List (List Int) × Int)) ⊕ (List (List Int))) ⊕ (List (List Int) × Int)) :=
  let l9 := s.1; let i10 := s.2
  cond (decide (i10 < (s6.length : Int)))
  ((getI s6 i10).bind fun i11 =>
    cond ((decide (i11 < 97)) || (decide (i11 > 122)))
    (cond ((((decide (i11 < 48)) || (decide (i11 > 57))) && (i11 != 45)) && (i11 != 95))
      (some (.inl (.inl (.inl (.inl (([] : List Int), 2))))))
      (some (.inr (l9, (IntKind.i64.wrap (i10 + 1))))))
    (some (.inr (l9, (IntKind.i64.wrap (i10 + 1))))))
  (some (.inl (.inr l9)))
noncomputable def F_wlvref15_Name_J11 (i5 : Int) (s : List (List Int)) : Option (((List Int × Int) ⊕ (Unit)) ⊕ (List (List Int) × Int)) :=
  let l12 := s
  some (.inr (l12, (IntKind.i64.wrap (i5 + 1))))
noncomputable def F_wlvref15_Name_L8 (s : List (List Int) × Int) : Option (((List Int × Int) ⊕ (Unit)) ⊕ (List (List Int) × Int)) :=
  let l4 := s.1; let i5 := s.2
  cond (decide (i5 < (l4.length : Int)))
  (joinC (S := List (List Int)) (R := ((List Int × Int) ⊕ (Unit)) ⊕ (List (List Int) × Int))
    ((getI l4 i5).bind fun s6 =>
      cond ((decide ((s6.length : Int) < 1)) || (decide ((s6.length : Int) > 63)))
      (some (.inl (.inl (.inl (([] : List Int), 2)))))
      ((getI s6 0).bind fun i7 =>
        cond (i7 == 45)
        (some (.inl (.inl (.inl (([] : List Int), 2)))))
        ((getI s6 (IntKind.i64.wrap ((s6.length : Int) - 1))).bind fun i8 =>
          cond (i8 == 45)
          (some (.inl (.inl (.inl (([] : List Int), 2)))))
          (loopC (S := List (List Int) × Int) (R := (((List Int × Int) ⊕ (Unit)) ⊕ (List (List Int) × Int)) ⊕ (List (List Int))) (F_wlvref15_Name_L17 s6) (l4, 0)))))
    (F_wlvref15_Name_J11 i5))
  (some (.inl (.inr ())))
noncomputable def F_wlvref15_Name_J6 (s2 : List Int) (s : Unit) : Option (List Int × Int) :=
  some (s2, 0)
noncomputable def F_wlvref15_Name (s1 : List Int) : Option (List Int × Int) :=
  cond ((decide ((s1.length : Int) < 1)) || (decide ((s1.length : Int) > 253)))
  (some (([] : List Int), 2))
  ((F_wlvref_Lower s1).bind fun s2 =>
    (F_wlvref_Split s2 46).bind fun l3 =>
    joinC (S := Unit) (R := List Int × Int)
    (loopC (S := List (List Int) × Int) (R := (List Int × Int) ⊕ (Unit)) (F_wlvref15_Name_L8) (l3, 0))
    (F_wlvref15_Name_J6 s2))
def F_wlvref15_Name_sig : Sig := ⟨[.v false [.d .str]], [(false, [.d .str]), (false, [.d (.int .i64)])]⟩
def F_wlvref15_Name_ann : List (Nat × Ann) := [(6, ⟨7, [], [], [2, 3, 5, 6, 7, 8, 21, 22, 23, 24, 25, 26, 27, 28, 29, 30, 31, 32, 33, 34, 35, 36, 37, 38, 39, 40, 41, 42, 43, 44, 45, 46, 47, 48, 49, 50, 51, 52, 53, 54, 55, 56, 57, 58, 59, 60, 61, 62, 63, 64, 65, 66, 67, 68, 69, 70, 71, 72, 73, 74, 75, 76, 77, 78, 79, 80, 81, 82], []⟩), (8, ⟨9, [(4, false, [.own 9 .str]), (5, false, [.d (.int .i64)])], [], [2, 3, 6, 7, 8, 21, 22, 23, 24, 25, 26, 27, 28, 29, 30, 31, 32, 33, 34, 35, 36, 37, 38, 39, 40, 41, 42, 43, 44, 45, 46, 47, 48, 49, 50, 51, 52, 53, 54, 55, 56, 57, 58, 59, 60, 61, 62, 63, 64, 65, 66, 67, 68, 69, 70, 71, 72, 73, 74, 75, 76, 77, 78, 79, 80, 81, 82], []⟩), (11, ⟨12, [(4, false, [.own 9 .str])], [], [2, 3, 6, 7, 8, 27, 28, 29, 30, 31, 32, 33, 34, 35, 36, 37, 38, 39, 40, 41, 42, 43, 44, 45, 46, 47, 48, 49, 50, 51, 52, 53, 54, 55, 56, 57, 58, 59, 60, 61, 62, 63, 64, 65, 66, 67, 68, 69, 70, 71, 72, 73, 74, 75, 76, 77, 78, 79, 80, 81, 82], []⟩), (17, ⟨18, [(4, false, [.own 9 .str]), (7, false, [.d (.int .i64)])], [], [2, 3, 8, 52, 53, 54, 55, 56, 57, 58, 59, 60, 61, 62, 63, 64, 65, 66, 67, 68, 69, 70, 71, 72, 73, 74, 75, 76, 77, 78, 79, 80, 81, 82], []⟩)]
noncomputable def F_wlvref15_Name_env : Env := ⟨Tryd.prog, [(52, ⟨F_wlvref_Lower_sig, ⟨F_wlvref_Lower⟩⟩), (70, ⟨F_wlvref_Split_sig, ⟨F_wlvref_Split⟩⟩)], []⟩
set_option maxRecDepth 100000 in
theorem F_wlvref15_Name_text : pvFn F_wlvref15_Name_env F_wlvref15_Name_ann Tryd.f33 F_wlvref15_Name_sig = F_wlvref15_Name := by kernel_rfl
noncomputable def F_wlvref_Num_L7 (s1 : List Int) (s : Int × Int) : Option (((Int × Bool) ⊕ (Int)) ⊕ (Int × Int)) :=
  let i5 := s.1; let i6 := s.2
  cond (decide (i6 < (s1.length : Int)))
  ((getI s1 i6).bind fun i7 =>
    cond (decide (i7 < 48))
    (some (.inl (.inl (0, false))))
    ((getI s1 i6).bind fun i8 =>
      cond (decide (i8 > 57))
      (some (.inl (.inl (0, false))))
      ((getI s1 i6).bind fun i9 =>
        some (.inr ((IntKind.i64.wrap ((IntKind.i64.wrap (i5 * 10)) + (IntKind.i64.wrap (IntKind.u8.wrap (i9 - 48))))), (IntKind.i64.wrap (i6 + 1)))))))
  (some (.inl (.inr i5)))
noncomputable def F_wlvref_Num_J5 (i2 : Int) (i3 : Int) (s : Int) : Option (Int × Bool) :=
  let i10 := s
  some (i10, ((decide (i10 ≥ i2)) && (decide (i10 ≤ i3))))
noncomputable def F_wlvref_Num (s1 : List Int) (i2 : Int) (i3 : Int) : Option (Int × Bool) :=
  cond ((decide ((s1.length : Int) < 1)) || (decide ((s1.length : Int) > 17)))
  (some (0, false))
  (cond (decide ((s1.length : Int) > 1))
    ((getI s1 0).bind fun i4 =>
      cond (i4 == 48)
      (some (0, false))
      (joinC (S := Int) (R := Int × Bool)
        (loopC (S := Int × Int) (R := (Int × Bool) ⊕ (Int)) (F_wlvref_Num_L7 s1) (0, 0))
        (F_wlvref_Num_J5 i2 i3)))
    (joinC (S := Int) (R := Int × Bool)
      (loopC (S := Int × Int) (R := (Int × Bool) ⊕ (Int)) (F_wlvref_Num_L7 s1) (0, 0))
      (F_wlvref_Num_J5 i2 i3)))
def F_wlvref_Num_sig : Sig := ⟨[.v false [.d .str], .v false [.d (.int .i64)], .v false [.d (.int .i64)]], [(false, [.d (.int .i64)]), (false, [.d .bool])]⟩
def F_wlvref_Num_ann : List (Nat × Ann) := [(5, ⟨6, [(8, false, [.d (.int .i64)])], [], [6, 7, 9, 28, 29, 30, 31, 32, 33, 34, 35, 36, 37, 38, 39, 40, 41, 42, 43, 44, 45, 46, 47, 48, 49, 50, 51], []⟩), (7, ⟨8, [(8, false, [.d (.int .i64)]), (9, false, [.d (.int .i64)])], [], [6, 7, 28, 29, 30, 31, 32, 33, 34, 35, 36, 37, 38, 39, 40, 41, 42, 43, 44, 45, 46, 47, 48, 49, 50, 51], []⟩)]
noncomputable def F_wlvref_Num_env : Env := ⟨Tryd.prog, [], []⟩
set_option maxRecDepth 100000 in
theorem F_wlvref_Num_text : pvFn F_wlvref_Num_env F_wlvref_Num_ann Tryd.f67 F_wlvref_Num_sig = F_wlvref_Num := by kernel_rfl
noncomputable def F_wlvref15_four_L8 (s : List (List Int) × List Int × Int) : Option (((List Int × Bool) ⊕ (List Int)) ⊕ (List (List Int) × List Int × Int)) :=
  let l3 := s.1; let l4 := s.2.1; let i5 := s.2.2
  cond (decide (i5 < 4))
  ((getI l3 i5).bind fun s6 =>
    (F_wlvref_Num s6 0 255).bind fun x7 =>
    cond (!x7.2)
    (some (.inl (.inl (([] : List Int), false))))
    (chk (decide ((l4.length + ([(IntKind.u8.wrap x7.1)] : List Int).length) * 1 ≤ 140737488355328) && decide (l4.length + ([(IntKind.u8.wrap x7.1)] : List Int).length ≤ maxLen))
      (some (.inr (l3, (l4 ++ ([(IntKind.u8.wrap x7.1)] : List Int)), (IntKind.i64.wrap (i5 + 1)))))))
  (some (.inl (.inr l4)))
noncomputable def F_wlvref15_four_J6 (s : List Int) : Option (List Int × Bool) :=
  let l8 := s
  some (l8, true)
noncomputable def F_wlvref15_four (s1 : List Int) : Option (List Int × Bool) :=
  (F_wlvref_Split s1 46).bind fun l2 =>
  cond ((l2.length : Int) != 4)
  (some (([] : List Int), false))
  (joinC (S := List Int) (R := List Int × Bool)
    (loopC (S := List (List Int) × List Int × Int) (R := (List Int × Bool) ⊕ (List Int)) (F_wlvref15_four_L8) (l2, ([] : List Int), 0))
    (F_wlvref15_four_J6))
def F_wlvref15_four_sig : Sig := ⟨[.v false [.d .str]], [(false, [.d .str]), (false, [.d .bool])]⟩
def F_wlvref15_four_ann : List (Nat × Ann) := [(6, ⟨7, [(5, false, [.own 5 (.int .u8)])], [], [2, 3, 6, 7, 8, 14, 15, 16, 17, 18, 19, 20, 21, 22, 23, 24, 25, 26, 27, 28, 29, 30, 31, 32], []⟩), (8, ⟨9, [(4, false, [.own 9 .str]), (5, false, [.own 5 (.int .u8)]), (6, false, [.d (.int .i64)])], [], [2, 3, 7, 8, 14, 15, 16, 17, 18, 19, 20, 21, 22, 23, 24, 25, 26, 27, 28, 29, 30, 31, 32], []⟩)]
noncomputable def F_wlvref15_four_env : Env := ⟨Tryd.prog, [(67, ⟨F_wlvref_Num_sig, ⟨F_wlvref_Num⟩⟩), (70, ⟨F_wlvref_Split_sig, ⟨F_wlvref_Split⟩⟩)], []⟩
set_option maxRecDepth 100000 in
theorem F_wlvref15_four_text : pvFn F_wlvref15_four_env F_wlvref15_four_ann Tryd.f68 F_wlvref15_four_sig = F_wlvref15_four := by kernel_rfl
noncomputable def F_wlvref15_group_L7 (s1 : List Int) (s : Int × Int) : Option (((Int × Bool) ⊕ (Int)) ⊕ (Int × Int)) :=
  let i2 := s.1; let i3 := s.2
  cond (decide (i3 < (s1.length : Int)))
  ((getI s1 i3).bind fun i4 =>
    cond ((decide (i4 ≥ 48)) && (decide (i4 ≤ 57)))
    (some (.inr ((IntKind.i64.wrap ((IntKind.i64.wrap (i2 * 16)) + (IntKind.i64.wrap (IntKind.u8.wrap (i4 - 48))))), (IntKind.i64.wrap (i3 + 1)))))
    (cond ((decide (i4 ≥ 97)) && (decide (i4 ≤ 102)))
      (some (.inr ((IntKind.i64.wrap ((IntKind.i64.wrap ((IntKind.i64.wrap (i2 * 16)) + (IntKind.i64.wrap (IntKind.u8.wrap (i4 - 97))))) + 10)), (IntKind.i64.wrap (i3 + 1)))))
      (cond ((decide (i4 ≥ 65)) && (decide (i4 ≤ 70)))
        (some (.inr ((IntKind.i64.wrap ((IntKind.i64.wrap ((IntKind.i64.wrap (i2 * 16)) + (IntKind.i64.wrap (IntKind.u8.wrap (i4 - 65))))) + 10)), (IntKind.i64.wrap (i3 + 1)))))
        (some (.inl (.inl (0, false)))))))
  (some (.inl (.inr i2)))
noncomputable def F_wlvref15_group_J5 (s : Int) : Option (Int × Bool) :=
  let i5 := s
  some (i5, true)
noncomputable def F_wlvref15_group (s1 : List Int) : Option (Int × Bool) :=
  cond ((decide ((s1.length : Int) < 1)) || (decide ((s1.length : Int) > 4)))
  (some (0, false))
  (joinC (S := Int) (R := Int × Bool)
    (loopC (S := Int × Int) (R := (Int × Bool) ⊕ (Int)) (F_wlvref15_group_L7 s1) (0, 0))
    (F_wlvref15_group_J5))
def F_wlvref15_group_sig : Sig := ⟨[.v false [.d .str]], [(false, [.d (.int .i64)]), (false, [.d .bool])]⟩
def F_wlvref15_group_ann : List (Nat × Ann) := [(5, ⟨6, [(4, false, [.d (.int .i64)])], [], [2, 3, 5, 6, 15, 16, 17, 18, 19, 20, 21, 22, 23, 24, 25, 26, 27, 28, 29, 30, 31, 32, 33, 34, 35, 36, 37, 38, 39, 40, 41, 42, 43, 44, 45, 46, 47, 48, 49, 50, 51, 52, 53, 54, 55, 56, 57, 58, 59, 60, 61, 62, 63, 64], []⟩), (7, ⟨8, [(4, false, [.d (.int .i64)]), (5, false, [.d (.int .i64)])], [], [2, 3, 6, 15, 16, 17, 18, 19, 20, 21, 22, 23, 24, 25, 26, 27, 28, 29, 30, 31, 32, 33, 34, 35, 36, 37, 38, 39, 40, 41, 42, 43, 44, 45, 46, 47, 48, 49, 50, 51, 52, 53, 54, 55, 56, 57, 58, 59, 60, 61, 62, 63, 64], []⟩)]
noncomputable def F_wlvref15_group_env : Env := ⟨Tryd.prog, [], []⟩
set_option maxRecDepth 100000 in
theorem F_wlvref15_group_text : pvFn F_wlvref15_group_env F_wlvref15_group_ann Tryd.f136 F_wlvref15_group_sig = F_wlvref15_group := by kernel_rfl
noncomputable def F_wlvref15_groups_L8 (s : List (List Int) × List Int × Int) : Option (((List Int × Bool) ⊕ (List (List Int) × List Int)) ⊕ (List (List Int) × List Int × Int)) :=
  let l3 := s.1; let l4 := s.2.1; let i5 := s.2.2
  cond ((decide (i5 < (l3.length : Int))) && (decide (i5 < 9)))
  ((getI l3 i5).bind fun s6 =>
    (F_wlvref15_group s6).bind fun x7 =>
    cond (!x7.2)
    (some (.inl (.inl (([] : List Int), false))))
    (chk (decide ((l4.length + ([(IntKind.u8.wrap (Int.fdiv x7.1 (2 ^ 8))), (IntKind.u8.wrap x7.1)] : List Int).length) * 1 ≤ 140737488355328) && decide (l4.length + ([(IntKind.u8.wrap (Int.fdiv x7.1 (2 ^ 8))), (IntKind.u8.wrap x7.1)] : List Int).length ≤ maxLen))
      (some (.inr (l3, (l4 ++ ([(IntKind.u8.wrap (Int.fdiv x7.1 (2 ^ 8))), (IntKind.u8.wrap x7.1)] : List Int)), (IntKind.i64.wrap (i5 + 1)))))))
  (some (.inl (.inr (l3, l4))))
noncomputable def F_wlvref15_groups_J6 (s : List (List Int) × List Int) : Option (List Int × Bool) :=
  let l8 := s.1; let l9 := s.2
  some (l9, (decide ((l8.length : Int) ≤ 8)))
noncomputable def F_wlvref15_groups (s1 : List Int) : Option (List Int × Bool) :=
  cond (s1 == ([] : List Int))
  (some (([] : List Int), true))
  ((F_wlvref_Split s1 58).bind fun l2 =>
    joinC (S := List (List Int) × List Int) (R := List Int × Bool)
    (loopC (S := List (List Int) × List Int × Int) (R := (List Int × Bool) ⊕ (List (List Int) × List Int)) (F_wlvref15_groups_L8) (l2, ([] : List Int), 0))
    (F_wlvref15_groups_J6))
def F_wlvref15_groups_sig : Sig := ⟨[.v false [.d .str]], [(false, [.own 5 (.int .u8)]), (false, [.d .bool])]⟩
def F_wlvref15_groups_ann : List (Nat × Ann) := [(6, ⟨7, [(4, false, [.own 9 .str]), (5, false, [.own 5 (.int .u8)])], [], [2, 3, 6, 7, 8, 13, 14, 15, 16, 17, 18, 19, 20, 21, 22, 23, 24, 25, 26, 27, 28, 29, 30, 31, 32, 33, 34, 35, 36, 37, 38, 39, 40], []⟩), (8, ⟨9, [(4, false, [.own 9 .str]), (5, false, [.own 5 (.int .u8)]), (6, false, [.d (.int .i64)])], [], [2, 3, 7, 8, 13, 14, 15, 16, 17, 18, 19, 20, 21, 22, 23, 24, 25, 26, 27, 28, 29, 30, 31, 32, 33, 34, 35, 36, 37, 38, 39, 40], []⟩)]
noncomputable def F_wlvref15_groups_env : Env := ⟨Tryd.prog, [(70, ⟨F_wlvref_Split_sig, ⟨F_wlvref_Split⟩⟩), (136, ⟨F_wlvref15_group_sig, ⟨F_wlvref15_group⟩⟩)], []⟩
set_option maxRecDepth 100000 in
theorem F_wlvref15_groups_text : pvFn F_wlvref15_groups_env F_wlvref15_groups_ann Tryd.f101 F_wlvref15_groups_sig = F_wlvref15_groups := by kernel_rfl
noncomputable def F_wlvref15_eight_L4 (s1 : List Int) (s : Int × Int) : Option (((List Int × Bool) ⊕ (Int)) ⊕ (Int × Int)) :=
  let i2 := s.1; let i3 := s.2
  cond (decide ((IntKind.i64.wrap (i3 + 1)) < (s1.length : Int)))
  ((getI s1 i3).bind fun i4 =>
    cond (i4 == 58)
    ((getI s1 (IntKind.i64.wrap (i3 + 1))).bind fun i5 =>
      cond ((i5 == 58) && (decide (i2 < 0)))
      (some (.inr (i3, (IntKind.i64.wrap (i3 + 1)))))
      (some (.inr (i2, (IntKind.i64.wrap (i3 + 1))))))
    (some (.inr (i2, (IntKind.i64.wrap (i3 + 1))))))
  (some (.inl (.inr i2)))
noncomputable def F_wlvref15_eight_L20 (s : List Int × List Int) : Option (((List Int × Bool) ⊕ (List Int × List Int)) ⊕ (List Int × List Int)) :=
  let l12 := s.1; let l13 := s.2
  cond (decide ((l13.length : Int) < (IntKind.i64.wrap (16 - (l12.length : Int)))))
  (chk (decide ((l13.length + ([0] : List Int).length) * 1 ≤ 140737488355328) && decide (l13.length + ([0] : List Int).length ≤ maxLen))
    (some (.inr (l12, (l13 ++ ([0] : List Int))))))
  (some (.inl (.inr (l12, l13))))
noncomputable def F_wlvref15_eight_J19 (s : List Int × List Int) : Option (List Int × Bool) :=
  let l14 := s.1; let l15 := s.2
  chk (decide ((l15.length + l14.length) * 1 ≤ 140737488355328) && decide (l15.length + l14.length ≤ maxLen))
  (some ((l15 ++ l14), true))
noncomputable def F_wlvref15_eight_J2 (s1 : List Int) (s : Int) : Option (List Int × Bool) :=
  let i6 := s
  cond (decide (i6 < 0))
  ((F_wlvref15_groups s1).bind fun x7 =>
    some (x7.1, (x7.2 && ((x7.1.length : Int) == 16))))
  ((cutI s1 0 i6).bind fun s8 =>
    (F_wlvref15_groups s8).bind fun x9 =>
    (cutI s1 (IntKind.i64.wrap (i6 + 2)) (s1.length : Int)).bind fun s10 =>
    (F_wlvref15_groups s10).bind fun x11 =>
    cond (((!x9.2) || (!x11.2)) || (decide ((IntKind.i64.wrap ((x9.1.length : Int) + (x11.1.length : Int))) > 14)))
    (some (([] : List Int), false))
    (chk (decide ((([] : List Int).length + x9.1.length) * 1 ≤ 140737488355328) && decide (([] : List Int).length + x9.1.length ≤ maxLen))
      (joinC (S := List Int × List Int) (R := List Int × Bool)
        (loopC (S := List Int × List Int) (R := (List Int × Bool) ⊕ (List Int × List Int)) (F_wlvref15_eight_L20) (x11.1, (([] : List Int) ++ x9.1)))
        (F_wlvref15_eight_J19))))
noncomputable def F_wlvref15_eight (s1 : List Int) : Option (List Int × Bool) :=
  joinC (S := Int) (R := List Int × Bool)
  (loopC (S := Int × Int) (R := (List Int × Bool) ⊕ (Int)) (F_wlvref15_eight_L4 s1) ((-1), 0))
  (F_wlvref15_eight_J2 s1)
def F_wlvref15_eight_sig : Sig := ⟨[.v false [.d .str]], [(false, [.d .str]), (false, [.d .bool])]⟩
def F_wlvref15_eight_ann : List (Nat × Ann) := [(2, ⟨3, [(4, false, [.d (.int .i64)])], [], [5, 13, 14, 15, 16, 17, 18, 19, 20, 21, 22, 23, 24, 25, 26, 27, 28, 29, 30, 31, 32, 33, 34, 35], []⟩), (4, ⟨5, [(4, false, [.d (.int .i64)]), (5, false, [.d (.int .i64)])], [], [13, 14, 15, 16, 17, 18, 19, 20, 21, 22, 23, 24, 25, 26, 27, 28, 29, 30, 31, 32, 33, 34, 35], []⟩), (19, ⟨20, [(10, false, [.own 5 (.int .u8)]), (12, false, [.own 5 (.int .u8)])], [], [83, 84, 85, 86, 87, 88, 89, 90, 91], []⟩), (20, ⟨21, [(10, false, [.own 5 (.int .u8)]), (12, false, [.own 5 (.int .u8)])], [], [83, 84, 85, 86, 87, 88, 89, 90, 91], []⟩)]
noncomputable def F_wlvref15_eight_env : Env := ⟨Tryd.prog, [(101, ⟨F_wlvref15_groups_sig, ⟨F_wlvref15_groups⟩⟩)], []⟩
set_option maxRecDepth 100000 in
theorem F_wlvref15_eight_text : pvFn F_wlvref15_eight_env F_wlvref15_eight_ann Tryd.f71 F_wlvref15_eight_sig = F_wlvref15_eight := by kernel_rfl
noncomputable def F_wlvref15_Parse (s1 : List Int) : Option (List Int × Int) :=
  cond (decide ((s1.length : Int) > 50))
  (some (([] : List Int), 2))
  ((F_wlvref15_four s1).bind fun x2 =>
    cond x2.2
    (some (x2.1, 0))
    ((F_wlvref15_eight s1).bind fun x3 =>
      cond (!x3.2)
      (some (([] : List Int), 2))
      ((F_wlvref15_Mapped x3.1).bind fun b4 =>
        cond b4
        ((cutI x3.1 12 (x3.1.length : Int)).bind fun s5 =>
          some (s5, 0))
        (some (x3.1, 0)))))
def F_wlvref15_Parse_sig : Sig := ⟨[.v false [.d .str]], [(false, [.d .str]), (false, [.d (.int .i64)])]⟩
def F_wlvref15_Parse_ann : List (Nat × Ann) := []
noncomputable def F_wlvref15_Parse_env : Env := ⟨Tryd.prog, [(27, ⟨F_wlvref15_Mapped_sig, ⟨F_wlvref15_Mapped⟩⟩), (68, ⟨F_wlvref15_four_sig, ⟨F_wlvref15_four⟩⟩), (71, ⟨F_wlvref15_eight_sig, ⟨F_wlvref15_eight⟩⟩)], []⟩
set_option maxRecDepth 100000 in
theorem F_wlvref15_Parse_text : pvFn F_wlvref15_Parse_env F_wlvref15_Parse_ann Tryd.f35 F_wlvref15_Parse_sig = F_wlvref15_Parse := by kernel_rfl
noncomputable def F_wlvref15_Authority_L4 (s1 : List Int) (s : Int × Int × List Int × List Int) : Option (((List Int × List Int × Int × Int) ⊕ (Int × List Int × List Int)) ⊕ (Int × Int × List Int × List Int)) :=
  let i2 := s.1; let i3 := s.2.1; let s4 := s.2.2.1; let s5 := s.2.2.2
  cond (decide (i3 < (s1.length : Int)))
  ((getI s1 i3).bind fun i6 =>
    cond (i6 == 58)
    (some (.inr (i3, (IntKind.i64.wrap (i3 + 1)), s4, s5)))
    (some (.inr (i2, (IntKind.i64.wrap (i3 + 1)), s4, s5))))
  (some (.inl (.inr (i2, s4, s5))))
noncomputable def F_wlvref15_Authority_L23 (s15 : List Int) (s : Bool × Int × List Int × List Int) : Option ((((List Int × List Int × Int × Int) ⊕ (List Int × List Int × List Int)) ⊕ (Bool × List Int × List Int)) ⊕ (Bool × Int × List Int × List Int)) :=
  let b16 := s.1; let i17 := s.2.1; let s18 := s.2.2.1; let s19 := s.2.2.2
  cond (decide (i17 < (s15.length : Int)))
  (cond b16
    (some (.inr (true, (IntKind.i64.wrap (i17 + 1)), s18, s19)))
    ((getI s15 i17).bind fun i20 =>
      some (.inr ((i20 == 58), (IntKind.i64.wrap (i17 + 1)), s18, s19))))
  (some (.inl (.inr (b16, s18, s19))))
noncomputable def F_wlvref15_Authority_J21 (x11 : Int × Bool) (s15 : List Int) (s : Bool × List Int × List Int) : Option ((List Int × List Int × Int × Int) ⊕ (List Int × List Int × List Int)) :=
  let b21 := s.1; let s22 := s.2.1; let s23 := s.2.2
  (F_wlvref15_Parse s15).bind fun x24 =>
  cond ((x24.2 != 0) || (!b21))
  (some (.inl (([] : List Int), ([] : List Int), 0, 2)))
  (some (.inl (([] : List Int), x24.1, x11.1, 0)))
noncomputable def F_wlvref15_Authority_J17 (x11 : Int × Bool) (s : List Int × List Int × List Int) : Option (List Int × List Int × Int × Int) :=
  let s25 := s.1; let s26 := s.2.1; let s27 := s.2.2
  (F_wlvref15_four s25).bind fun x28 =>
  cond x28.2
  (some (([] : List Int), x28.1, x11.1, 0))
  ((F_wlvref15_Name s25).bind fun x29 =>
    cond (x29.2 != 0)
    (some (([] : List Int), ([] : List Int), 0, 2))
    (some (x29.1, ([] : List Int), x11.1, 0)))
noncomputable def F_wlvref15_Authority_J2 (s1 : List Int) (s : Int × List Int × List Int) : Option (List Int × List Int × Int × Int) :=
  let i7 := s.1; let s8 := s.2.1; let s9 := s.2.2
  cond (decide (i7 < 0))
  (some (([] : List Int), ([] : List Int), 0, 2))
  ((cutI s1 (IntKind.i64.wrap (i7 + 1)) (s1.length : Int)).bind fun s10 =>
    (F_wlvref_Num s10 1 65535).bind fun x11 =>
    cond (!x11.2)
    (some (([] : List Int), ([] : List Int), 0, 2))
    ((cutI s1 0 i7).bind fun s12 =>
      joinC (S := List Int × List Int × List Int) (R := List Int × List Int × Int × Int)
      (cond (decide ((s12.length : Int) ≥ 2))
        ((getI s12 0).bind fun i13 =>
          cond (i13 == 91)
          ((getI s12 (IntKind.i64.wrap ((s12.length : Int) - 1))).bind fun i14 =>
            cond (i14 == 93)
            ((cutI s12 1 (IntKind.i64.wrap ((s12.length : Int) - 1))).bind fun s15 =>
              joinC (S := Bool × List Int × List Int) (R := (List Int × List Int × Int × Int) ⊕ (List Int × List Int × List Int))
              (loopC (S := Bool × Int × List Int × List Int) (R := ((List Int × List Int × Int × Int) ⊕ (List Int × List Int × List Int)) ⊕ (Bool × List Int × List Int)) (F_wlvref15_Authority_L23 s15) (false, 0, s8, s9))
              (F_wlvref15_Authority_J21 x11 s15))
            (some (.inr (s12, s8, s9))))
          (some (.inr (s12, s8, s9))))
        (some (.inr (s12, s8, s9))))
      (F_wlvref15_Authority_J17 x11)))
noncomputable def F_wlvref15_Authority (s1 : List Int) : Option (List Int × List Int × Int × Int) :=
  joinC (S := Int × List Int × List Int) (R := List Int × List Int × Int × Int)
  (loopC (S := Int × Int × List Int × List Int) (R := (List Int × List Int × Int × Int) ⊕ (Int × List Int × List Int)) (F_wlvref15_Authority_L4 s1) ((-1), 0, ([] : List Int), ([] : List Int)))
  (F_wlvref15_Authority_J2 s1)
def F_wlvref15_Authority_sig : Sig := ⟨[.v false [.d .str]], [(true, [.d .str, .d .str]), (false, [.d (.int .i64)]), (false, [.d (.int .i64)])]⟩
def F_wlvref15_Authority_ann : List (Nat × Ann) := [(2, ⟨3, [(5, false, [.d (.int .i64)])], [(2, [.d .str, .d .str])], [6, 18, 19, 20, 21, 22, 23, 24, 25, 26, 27, 28], []⟩), (4, ⟨5, [(5, false, [.d (.int .i64)]), (6, false, [.d (.int .i64)])], [(2, [.d .str, .d .str])], [18, 19, 20, 21, 22, 23, 24, 25, 26, 27, 28], []⟩), (17, ⟨18, [(9, false, [.d .str])], [(2, [.d .str, .d .str])], [3, 4, 10, 11, 12, 13, 46, 47, 48, 49, 50, 51, 52, 53, 54, 55, 56, 57, 58, 59, 60, 61, 62, 63, 64, 65, 66, 67, 68, 69, 70, 71, 72, 73, 74, 75, 76, 77, 78, 79, 80, 81, 82, 83, 84, 85, 86, 87, 88, 89, 90, 91, 92, 93, 94], []⟩), (21, ⟨22, [(10, false, [.d .bool])], [(2, [.d .str, .d .str])], [11, 67, 68, 69, 70, 71, 72, 73, 74, 75, 76, 77, 78, 79], []⟩), (23, ⟨24, [(10, false, [.d .bool]), (11, false, [.d (.int .i64)])], [(2, [.d .str, .d .str])], [67, 68, 69, 70, 71, 72, 73, 74, 75, 76, 77, 78, 79], []⟩)]
noncomputable def F_wlvref15_Authority_env : Env := ⟨Tryd.prog, [(33, ⟨F_wlvref15_Name_sig, ⟨F_wlvref15_Name⟩⟩), (35, ⟨F_wlvref15_Parse_sig, ⟨F_wlvref15_Parse⟩⟩), (67, ⟨F_wlvref_Num_sig, ⟨F_wlvref_Num⟩⟩), (68, ⟨F_wlvref15_four_sig, ⟨F_wlvref15_four⟩⟩)], []⟩
set_option maxRecDepth 100000 in
theorem F_wlvref15_Authority_text : pvFn F_wlvref15_Authority_env F_wlvref15_Authority_ann Tryd.f31 F_wlvref15_Authority_sig = F_wlvref15_Authority := by kernel_rfl
noncomputable def F_wlvlaw16_HostReads (s1 : List Int) : Option (Bool) :=
  (F_wlvlaw16_first).bind fun b2 =>
  cond (!b2)
  (some false)
  (cond (decide ((s1.length : Int) > 1000))
    ((F_wlvlaw16_first).bind fun b3 =>
      some b3)
    ((F_host_Authority s1).bind fun x4 =>
      (F_wlvref15_Authority s1).bind fun x5 =>
      (F_host_Name s1).bind fun x6 =>
      (F_wlvref15_Name s1).bind fun x7 =>
      (F_wlvlaw16_first).bind fun b8 =>
      cond b8
      (some ((((((eqL x4.1 x5.1) && ((eqL x4.2.1 x5.2.1) && true)) && (x4.2.2.1 == x5.2.2.1)) && (x4.2.2.2 == x5.2.2.2)) && (x6.1 == x7.1)) && (x6.2 == x7.2)))
      (some false)))
def F_wlvlaw16_HostReads_sig : Sig := ⟨[.v false [.d .str]], [(false, [.d .bool])]⟩
def F_wlvlaw16_HostReads_ann : List (Nat × Ann) := []
noncomputable def F_wlvlaw16_HostReads_env : Env := ⟨Tryd.prog, [(29, ⟨F_wlvlaw16_first_sig, ⟨F_wlvlaw16_first⟩⟩), (30, ⟨F_host_Authority_sig, ⟨F_host_Authority⟩⟩), (31, ⟨F_wlvref15_Authority_sig, ⟨F_wlvref15_Authority⟩⟩), (32, ⟨F_host_Name_sig, ⟨F_host_Name⟩⟩), (33, ⟨F_wlvref15_Name_sig, ⟨F_wlvref15_Name⟩⟩)], []⟩
set_option maxRecDepth 100000 in
theorem F_wlvlaw16_HostReads_text : pvFn F_wlvlaw16_HostReads_env F_wlvlaw16_HostReads_ann Tryd.f8 F_wlvlaw16_HostReads_sig = F_wlvlaw16_HostReads := by kernel_rfl
noncomputable def F_wlvref_Dec_step (r0 : Int → Option (List Int)) (i1 : Int) : Option (List Int) :=
  cond (decide (i1 < 10))
  (some ([(IntKind.u8.wrap (IntKind.i64.wrap (48 + (maxI i1 0))))] : List Int))
  ((r0 (IntKind.i64.wrap (Int.tdiv i1 10))).bind fun s2 =>
    chk (Nat.ble (s2.length + ([(IntKind.u8.wrap (IntKind.i64.wrap (48 + (Int.tmod i1 10))))] : List Int).length) maxLen)
    (some (s2 ++ ([(IntKind.u8.wrap (IntKind.i64.wrap (48 + (Int.tmod i1 10))))] : List Int))))
def F_wlvref_Dec_sig : Sig := ⟨[.v false [.d (.int .i64)]], [(false, [.d .str])]⟩
def F_wlvref_Dec_ann : List (Nat × Ann) := []
noncomputable def F_wlvref_Dec_env (r0 : Int → Option (List Int)) : Env := ⟨Tryd.prog, [(34, ⟨F_wlvref_Dec_sig, ⟨r0⟩⟩)], []⟩
set_option maxRecDepth 100000 in
theorem F_wlvref_Dec_text (r0 : Int → Option (List Int)) : pvFn (F_wlvref_Dec_env r0) F_wlvref_Dec_ann Tryd.f34 F_wlvref_Dec_sig = F_wlvref_Dec_step r0 := by kernel_rfl
noncomputable def F_wlvref_Dec_fuel : Nat → Int → Option (List Int)
  | 0 => Pv.botF (α := List Int) [(.int .i64)]
  | k + 1 => F_wlvref_Dec_step (F_wlvref_Dec_fuel k)
noncomputable def F_wlvref_Dec : Int → Option (List Int) := F_wlvref_Dec_fuel 64
noncomputable def F_wlvlaw16_HostPorts (s1 : List Int) (i2 : Int) : Option (Bool) :=
  (F_wlvlaw16_first).bind fun b3 =>
  cond (!b3)
  (some false)
  ((F_host_Name s1).bind fun x4 =>
    cond ((decide ((s1.length : Int) > 500)) || (x4.2 != 0))
    ((F_wlvlaw16_first).bind fun b5 =>
      some b5)
    (chk (Nat.ble (s1.length + ([58] : List Int).length) maxLen)
      ((F_wlvref_Dec i2).bind fun s6 =>
        chk (Nat.ble ((s1 ++ ([58] : List Int)).length + s6.length) maxLen)
        ((F_host_Authority ((s1 ++ ([58] : List Int)) ++ s6)).bind fun x7 =>
          (F_wlvref15_Parse x4.1).bind fun x8 =>
          cond ((decide (i2 < 1)) || (decide (i2 > 65535)))
          ((F_wlvlaw16_first).bind fun b9 =>
            some (b9 && (x7.2.2.2 == 2)))
          ((F_host_Authority s1).bind fun x10 =>
            chk (Nat.ble (s1.length + ([58, 48] : List Int).length) maxLen)
            ((F_wlvref_Dec i2).bind fun s11 =>
              chk (Nat.ble ((s1 ++ ([58, 48] : List Int)).length + s11.length) maxLen)
              ((F_host_Authority ((s1 ++ ([58, 48] : List Int)) ++ s11)).bind fun x12 =>
                chk (Nat.ble (([117, 64] : List Int).length + s1.length) maxLen)
                (chk (Nat.ble ((([117, 64] : List Int) ++ s1).length + ([58, 56, 48] : List Int).length) maxLen)
                  ((F_host_Authority ((([117, 64] : List Int) ++ s1) ++ ([58, 56, 48] : List Int))).bind fun x13 =>
                    cond (((((x7.2.2.2 != 0) || (x7.2.2.1 != i2)) || (x10.2.2.2 != 2)) || (x12.2.2.2 != 2)) || (x13.2.2.2 != 2))
                    (some false)
                    ((F_wlvlaw16_first).bind fun b14 =>
                      cond b14
                      (cond (bEq (x7.1 == x4.1) (x8.2 != 0))
                        (some (bEq (x7.2.1 == ([] : List Int)) (x8.2 != 0)))
                        (some false))
                      (some false)))))))))))
def F_wlvlaw16_HostPorts_sig : Sig := ⟨[.v false [.d .str], .v false [.d (.int .i64)]], [(false, [.d .bool])]⟩
def F_wlvlaw16_HostPorts_ann : List (Nat × Ann) := []
noncomputable def F_wlvlaw16_HostPorts_env : Env := ⟨Tryd.prog, [(29, ⟨F_wlvlaw16_first_sig, ⟨F_wlvlaw16_first⟩⟩), (30, ⟨F_host_Authority_sig, ⟨F_host_Authority⟩⟩), (32, ⟨F_host_Name_sig, ⟨F_host_Name⟩⟩), (34, ⟨F_wlvref_Dec_sig, ⟨F_wlvref_Dec⟩⟩), (35, ⟨F_wlvref15_Parse_sig, ⟨F_wlvref15_Parse⟩⟩)], []⟩
set_option maxRecDepth 100000 in
theorem F_wlvlaw16_HostPorts_text : pvFn F_wlvlaw16_HostPorts_env F_wlvlaw16_HostPorts_ann Tryd.f9 F_wlvlaw16_HostPorts_sig = F_wlvlaw16_HostPorts := by kernel_rfl
noncomputable def F_wlvlaw16_HostNames_L23 (i5 : Int) (i10 : Int) (s : List Int × Int) : Option ((((((Bool) ⊕ (List Int × Bool × Int)) ⊕ (List Int × Bool × Int × Int)) ⊕ (List Int × Bool × Int)) ⊕ (List Int)) ⊕ (List Int × Int)) :=
  let s12 := s.1; let i13 := s.2
  cond (decide (i13 < i10))
  (chk (Nat.ble (s12.length + ([i5] : List Int).length) maxLen)
    (some (.inr ((s12 ++ ([i5] : List Int)), (IntKind.i64.wrap (i13 + 1))))))
  (some (.inl (.inr s12)))
noncomputable def F_wlvlaw16_HostNames_J21 (b7 : Bool) (i8 : Int) (i10 : Int) (s : List Int) : Option ((((Bool) ⊕ (List Int × Bool × Int)) ⊕ (List Int × Bool × Int × Int)) ⊕ (List Int × Bool × Int)) :=
  let s14 := s
  some (.inr (s14, ((b7 && (decide (i10 ≥ 1))) && (decide (i10 ≤ 63))), (IntKind.i64.wrap (i8 + i10))))
noncomputable def F_wlvlaw16_HostNames_J14 (i9 : Int) (s : List Int × Bool × Int) : Option (((Bool) ⊕ (List Int × Bool × Int)) ⊕ (List Int × Bool × Int × Int)) :=
  let s18 := s.1; let b19 := s.2.1; let i20 := s.2.2
  some (.inr (s18, b19, i20, (IntKind.i64.wrap (i9 + 1))))
noncomputable def F_wlvlaw16_HostNames_L11 (l1 : List Int) (i5 : Int) (s : List Int × Bool × Int × Int) : Option (((Bool) ⊕ (List Int × Bool × Int)) ⊕ (List Int × Bool × Int × Int)) :=
  let s6 := s.1; let b7 := s.2.1; let i8 := s.2.2.1; let i9 := s.2.2.2
  cond (decide (i9 < (l1.length : Int)))
  (joinC (S := List Int × Bool × Int) (R := ((Bool) ⊕ (List Int × Bool × Int)) ⊕ (List Int × Bool × Int × Int))
    ((getI l1 i9).bind fun i10 =>
      cond ((decide (i10 < 0)) || (decide (i10 > 70)))
      ((F_wlvlaw16_first).bind fun b11 =>
        some (.inl (.inl (.inl b11))))
      (cond (decide (i9 > 0))
        (chk (Nat.ble (s6.length + ([46] : List Int).length) maxLen)
          (joinC (S := List Int) (R := (((Bool) ⊕ (List Int × Bool × Int)) ⊕ (List Int × Bool × Int × Int)) ⊕ (List Int × Bool × Int))
            (loopC (S := List Int × Int) (R := ((((Bool) ⊕ (List Int × Bool × Int)) ⊕ (List Int × Bool × Int × Int)) ⊕ (List Int × Bool × Int)) ⊕ (List Int)) (F_wlvlaw16_HostNames_L23 i5 i10) ((s6 ++ ([46] : List Int)), 0))
            (F_wlvlaw16_HostNames_J21 b7 i8 i10)))
        (joinC (S := List Int) (R := (((Bool) ⊕ (List Int × Bool × Int)) ⊕ (List Int × Bool × Int × Int)) ⊕ (List Int × Bool × Int))
          (loopC (S := List Int × Int) (R := ((((Bool) ⊕ (List Int × Bool × Int)) ⊕ (List Int × Bool × Int × Int)) ⊕ (List Int × Bool × Int)) ⊕ (List Int)) (F_wlvlaw16_HostNames_L23 i5 i10) (s6, 0))
          (F_wlvlaw16_HostNames_J21 b7 i8 i10))))
    (F_wlvlaw16_HostNames_J14 i9))
  (some (.inl (.inr (s6, b7, i8))))
noncomputable def F_wlvlaw16_HostNames_J9 (s : List Int × Bool × Int) : Option (Bool) :=
  let s21 := s.1; let b22 := s.2.1; let i23 := s.2.2
  (F_host_Name s21).bind fun x24 =>
  chk (Nat.ble (([45] : List Int).length + s21.length) maxLen)
  ((F_host_Name (([45] : List Int) ++ s21)).bind fun x25 =>
    chk (Nat.ble (s21.length + ([45] : List Int).length) maxLen)
    ((F_host_Name (s21 ++ ([45] : List Int))).bind fun x26 =>
      chk (Nat.ble (s21.length + ([46] : List Int).length) maxLen)
      ((F_host_Name (s21 ++ ([46] : List Int))).bind fun x27 =>
        (F_wlvlaw16_first).bind fun b28 =>
        cond (b28 && (bEq (x24.2 == 0) (b22 && (decide (i23 ≤ 253)))))
        (some (((((!(b22 && (decide (i23 ≤ 253)))) || ((x24.1.length : Int) == (s21.length : Int))) && (x25.2 == 2)) && (x26.2 == 2)) && (x27.2 == 2)))
        (some false))))
noncomputable def F_wlvlaw16_HostNames (l1 : List Int) (i2 : Int) : Option (Bool) :=
  (F_wlvlaw16_first).bind fun b3 =>
  cond (!b3)
  (some false)
  (cond ((decide ((l1.length : Int) < 1)) || (decide ((l1.length : Int) > 10)))
    ((F_wlvlaw16_first).bind fun b4 =>
      some b4)
    ((getI ([97, 98, 99, 88, 89, 90, 48, 49, 57, 95] : List Int) (Int.tmod i2 10)).bind fun i5 =>
      joinC (S := List Int × Bool × Int) (R := Bool)
      (loopC (S := List Int × Bool × Int × Int) (R := (Bool) ⊕ (List Int × Bool × Int)) (F_wlvlaw16_HostNames_L11 l1 i5) (([] : List Int), true, (IntKind.i64.wrap ((l1.length : Int) - 1)), 0))
      (F_wlvlaw16_HostNames_J9)))
def F_wlvlaw16_HostNames_sig : Sig := ⟨[.v false [.d (.sl (.int .i64))], .v false [.d (.int .u8)]], [(false, [.d .bool])]⟩
def F_wlvlaw16_HostNames_ann : List (Nat × Ann) := [(9, ⟨10, [(5, false, [.d .str]), (6, false, [.d .bool]), (7, false, [.d (.int .i64)])], [], [4, 9, 10, 11, 37, 38, 39, 40, 41, 42, 43, 44, 45, 46, 47, 48, 49, 50, 51, 52, 53, 54, 55, 56, 57, 58, 59, 60, 61, 62, 63, 64, 65, 66, 67, 68, 69, 70, 71, 72, 73, 74, 75, 76, 77, 78, 79], []⟩), (11, ⟨12, [(5, false, [.d .str]), (6, false, [.d .bool]), (7, false, [.d (.int .i64)]), (9, false, [.d (.int .i64)])], [], [4, 10, 11, 37, 38, 39, 40, 41, 42, 43, 44, 45, 46, 47, 48, 49, 50, 51, 52, 53, 54, 55, 56, 57, 58, 59, 60, 61, 62, 63, 64, 65, 66, 67, 68, 69, 70, 71, 72, 73, 74, 75, 76, 77, 78, 79], []⟩), (14, ⟨15, [(5, false, [.d .str]), (6, false, [.d .bool]), (7, false, [.d (.int .i64)])], [], [4, 10, 11, 43, 44, 45, 46, 47, 48, 49, 50, 51, 52, 53, 54, 55, 56, 57, 58, 59, 60, 61, 62, 63, 64, 65, 66, 67, 68, 69, 70, 71, 72, 73, 74, 75, 76, 77, 78, 79], []⟩), (21, ⟨22, [(5, false, [.d .str])], [], [11, 58, 59, 60, 61, 62, 63, 64, 65, 66, 67], []⟩), (23, ⟨24, [(5, false, [.d .str]), (11, false, [.d (.int .i64)])], [], [58, 59, 60, 61, 62, 63, 64, 65, 66, 67], []⟩)]
noncomputable def F_wlvlaw16_HostNames_env : Env := ⟨Tryd.prog, [(29, ⟨F_wlvlaw16_first_sig, ⟨F_wlvlaw16_first⟩⟩), (32, ⟨F_host_Name_sig, ⟨F_host_Name⟩⟩)], []⟩
set_option maxRecDepth 100000 in
theorem F_wlvlaw16_HostNames_text : pvFn F_wlvlaw16_HostNames_env F_wlvlaw16_HostNames_ann Tryd.f10 F_wlvlaw16_HostNames_sig = F_wlvlaw16_HostNames := by kernel_rfl
end Go.Proofs.YtblngdnndkljoaaDoor

/- The end of addr.coloned, walked by hand. -/
namespace Go.Proofs.YtblngdnndkljoaaDoor
open Go.RowKit Go.Shelf Go.Lib Pv
set_option linter.unusedVariables false
theorem tmps_eq {a : Act} {n : Nat} (hs : a.tmps.size = n) : a.tmps = ((List.range n).map (tm a)).toArray := by
  apply Array.ext
  · simp [hs]
  · intro i h1 h2
    simp only [List.getElem_toArray, List.getElem_map, List.getElem_range]
    unfold tm
    rw [Array.getD_eq_getD_getElem?, Array.getElem?_eq_getElem h1]; rfl
noncomputable def colHands : List (Code × (PSt → Option (Bool × PSt))) := match Tryd.f60.body with
  | some c => match annot F_addr_coloned_ann c 0 with
    | some (ac, _) => (ac.withHand 29 insTail).hands
    | none => []
  | none => []
theorem list_range106 (f : Nat → Value) : (List.range 106).map f = [f 0, f 1, f 2, f 3, f 4, f 5, f 6, f 7, f 8, f 9, f 10, f 11, f 12, f 13, f 14, f 15, f 16, f 17, f 18, f 19, f 20, f 21, f 22, f 23, f 24, f 25, f 26, f 27, f 28, f 29, f 30, f 31, f 32, f 33, f 34, f 35, f 36, f 37, f 38, f 39, f 40, f 41, f 42, f 43, f 44, f 45, f 46, f 47, f 48, f 49, f 50, f 51, f 52, f 53, f 54, f 55, f 56, f 57, f 58, f 59, f 60, f 61, f 62, f 63, f 64, f 65, f 66, f 67, f 68, f 69, f 70, f 71, f 72, f 73, f 74, f 75, f 76, f 77, f 78, f 79, f 80, f 81, f 82, f 83, f 84, f 85, f 86, f 87, f 88, f 89, f 90, f 91, f 92, f 93, f 94, f 95, f 96, f 97, f 98, f 99, f 100, f 101, f 102, f 103, f 104, f 105] := rfl
set_option maxRecDepth 1000000 in
set_option maxHeartbeats 4000000 in
theorem col_walk (w0 : World) (C : Com) : ∃ c, colHands = [(c, insTail)] ∧ HandS Tryd.prog (F01 106 w0 C) c insTail := by
  refine ⟨_, rfl, ?_⟩
  intro g st st' a w hAR hst
  unfold insTail at hst
  split at hst
  case h_2 => cases hst
  rename_i k E l gg h4 h5
  split at hst
  case h_2 => cases hst
  rename_i hk
  simp only [Bool.and_eq_true] at hk
  injection hst with hst
  injection hst with hok hst
  have hs4 := hAR.rel.slots 4
  have hs5 := hAR.rel.slots 5
  rw [h4] at hs4
  rw [h5] at hs5
  obtain ⟨h5v, h5w⟩ := rel_int hs5
  obtain ⟨cs, hcs, hcs1⟩ := hs4
  obtain ⟨hrd, hown⟩ := repLs_single.1 hcs
  obtain ⟨v4, hv4, hO⟩ := hown hk.1
  have h4v : tm a 4 = v4 := by
    have h := hcs1.symm.trans hv4
    simpa using h
  have hE : E = 5 := Nat.eq_of_beq_eq_true hk.2
  subst hE
  unfold insOk at hok
  simp only [Bool.and_eq_true, decide_eq_true_eq] at hok
  obtain ⟨⟨hg0, hg1⟩, hn⟩ := hok
  have hn : List.length l < 16 := by
    have : Nat.blt (List.length l) 16 = true := hn
    rwa [Nat.blt_eq] at this
  obtain ⟨n, hnl⟩ : ∃ n, List.length l = n := ⟨_, rfl⟩
  obtain ⟨gN, rfl⟩ : ∃ gN : Nat, gg = (gN : Int) := ⟨Int.toNat gg, (Int.toNat_of_nonneg hg0).symm⟩
  obtain ⟨m, hm⟩ : ∃ m, n + m = 16 := ⟨16 - n, by omega⟩
  have hfr := hAR.rel.fr
  have hN : w0.heap.size ≤ w.heap.size := hfr.size
  have hin : ∀ (w1 : World) (hb : Below w.heap.size w w1), InRow w1 w0.heap.size l w.heap.size v4 := fun w1 hb => by
    rcases hO with ⟨ad, rfl, hl, _⟩ | ⟨b, cap, cur, rfl, hblk, hcell, hlc, hcm, hcs, hel, hC, hW⟩
    · exact .inl ⟨ad, rfl, hl⟩
    · have hbw : b < w.heap.size := (Array.getElem?_eq_some_iff.1 hcell).1
      refine .inr ⟨b, cap, cur, rfl, ?_, by omega, by rw [hb.block b hbw]; exact hcell, hlc, hcm, by rw [hcs]; exact Nat.mul_one _, fun i x hx => ?_⟩
      · rcases hW _ (Nat.le_refl _) with h | h
        · exact h
        · exact h.elim
      · obtain ⟨h1, _⟩ := hel i x hx
        have hi : i < List.length l := (List.getElem?_eq_some_iff.1 hx).1
        rw [show (Ty.int .u8).size = 1 from rfl, Nat.mul_one] at h1
        have hlt : i < cur.size := by rw [hcs, show (Ty.int .u8).size = 1 from rfl]; omega
        rw [List.drop_eq_getElem_cons (by simpa using hlt)] at h1
        simp only [List.take_succ_cons, List.take_zero, List.cons.injEq, and_true, Array.getElem_toList] at h1
        rw [Array.getElem?_eq_getElem hlt, h1]
  have hwf : ∀ x ∈ (show List Int from l), (Lit.int .u8 x).wf = true := fun x hx => by
    obtain ⟨i, hi⟩ := List.mem_iff_getElem?.1 hx
    obtain ⟨ad, nn, c, _, _, _, _, h⟩ := hrd
    obtain ⟨_, us, _, _, _, h1⟩ := h i x hi
    exact h1.2
  have hsv : ∃ a4 c4, v4 = .slice a4 n c4 := by
    rcases hO with ⟨ad, rfl, hl, _⟩ | ⟨b, cap, cur, rfl, _⟩
    · exact ⟨ad, 0, by rw [← hnl, hl]; rfl⟩
    · exact ⟨_, cap, by rw [hnl]⟩
  obtain ⟨a4, c4, rfl⟩ := hsv
  obtain ⟨f, hf⟩ : ∃ f, tm a = f := ⟨_, rfl⟩
  have ha : a = { tmps := #[f 0, f 1, f 2, f 3, f 4, f 5, f 6, f 7, f 8, f 9, f 10, f 11, f 12, f 13, f 14, f 15, f 16, f 17, f 18, f 19, f 20, f 21, f 22, f 23, f 24, f 25, f 26, f 27, f 28, f 29, f 30, f 31, f 32, f 33, f 34, f 35, f 36, f 37, f 38, f 39, f 40, f 41, f 42, f 43, f 44, f 45, f 46, f 47, f 48, f 49, f 50, f 51, f 52, f 53, f 54, f 55, f 56, f 57, f 58, f 59, f 60, f 61, f 62, f 63, f 64, f 65, f 66, f 67, f 68, f 69, f 70, f 71, f 72, f 73, f 74, f 75, f 76, f 77, f 78, f 79, f 80, f 81, f 82, f 83, f 84, f 85, f 86, f 87, f 88, f 89, f 90, f 91, f 92, f 93, f 94, f 95, f 96, f 97, f 98, f 99, f 100, f 101, f 102, f 103, f 104, f 105], defers := [] } := by
    have h1 := tmps_eq hAR.size
    have h2 := hAR.defers
    obtain ⟨t, d⟩ := a
    rw [hf] at h1
    have h1 : t = ((List.range 106).map f).toArray := h1
    have h2 : d = [] := h2
    rw [h1, h2, list_range106]
  rw [hf] at h4v h5v
  rw [ha]
  dsimp only [AC.erase]
  rw [h4v, h5v]
  have hsub : (16 : Int) - (n : Int) = (m : Int) := by omega
  have hmm : (m : Int) ≤ 16 := by omega
  have hm0 : 0 < m := by omega
  have hgn' : (gN : Int) ≤ (n : Int) := by rw [← hnl]; exact hg1
  have hgn : gN ≤ n := by omega
  obtain ⟨i0, hi5, hz0, hz1, hz2⟩ := info_parts infoU
  have hmade : madeCells (Value.int .u8 0).cells (m * i0.size) = (zs m).toArray := by
    rw [hz1, Nat.mul_one]
    apply Array.ext
    · simp [madeCells, zs_len]
    · intro i h1 h2
      simp [madeCells, zs, bv, Value.cells, Nat.mod_one]
  have hmk : (Instr.makeSlice 27 (.int .i64 (m : Int)) (.int .i64 (m : Int))).run Tryd.prog w = .ok (.slice (some ⟨w.heap.size, 0, none⟩) m m) (w.alloc (.cells (zs m).toArray 5)) := by
    have h := run_make (P := Tryd.prog) w 27 5 i0 _ Tryd.underlying27 hi5 hz0 .i64 .i64 (m : Int) (m : Int) (by omega) (Int.le_refl _) (by rw [hz2]; omega) (by omega)
    rw [Int.toNat_natCast, hmade] at h
    exact h
  have hbel0 : Below w.heap.size w (w.alloc (.cells (zs m).toArray 5)) := (Below.refl _ _).alloc (Nat.le_refl _) _
  have hcall := insert_calls l gN m ((congrArg (· + m) hnl).trans hm) hm0 (Nat.le_trans hgn (Nat.le_of_eq hnl.symm)) (w.alloc (.cells (zs m).toArray 5)) w0.heap.size w.heap.size (by rw [World.size_alloc]; omega) (heap_alloc_new w _) (.slice a4 n c4) (hin _ hbel0)
  go_wp2_with (first | (simp only [hmk]) | (go_at_call 93; refine hcall.mono ?_; rintro e w' ⟨B, cap, rfl, hc1, hc2, hbel, hres⟩))
  have hlen16 : (insZ l gN).length = 16 := insZ_len (Nat.le_trans hgn (Nat.le_of_eq hnl.symm)) hn
  have hwfz : ∀ x ∈ insZ l gN, (Lit.int .u8 x).wf = true := fun x hx => by
    unfold insZ at hx
    rcases List.mem_append.1 hx with hx | hx
    · rcases List.mem_append.1 hx with hx | hx
      · exact hwf x (List.mem_of_mem_take hx)
      · rw [(List.mem_replicate.1 hx).2]; rfl
    · exact hwf x (List.mem_of_mem_drop hx)
  have hrep : RepD w' (fun _ _ => True) (.sl (.int .u8)) (insZ l gN) [.slice (some ⟨B, 0, none⟩) 16 cap] := by
    refine ⟨_, _, _, rfl, hlen16, hc1, hc2, fun i x hx => ⟨⟨B, 0, none⟩, [.int .u8 x], rfl, rfl, fun j u hj => ?_, rfl, hwfz x (List.mem_of_getElem? hx)⟩⟩
    obtain ⟨hj0, rfl⟩ : j = 0 ∧ u = .int .u8 x := by
      match j, hj with
      | 0, hj => simp at hj; exact ⟨rfl, hj.symm⟩
    subst hj0
    refine ⟨?_, trivial⟩
    rw [add_at, show (Ty.int .u8).size = 1 from rfl, Nat.mul_one, Nat.add_zero, Nat.zero_add]
    exact hres i x hx
  obtain ⟨s, hrun, hs, hss⟩ := bytes_run (P := Tryd.prog) Tryd.underlying27 Tryd.underlying5 Tryd.underlying9 hrep
  simp only [hrun]
  go_wp2
  refine ⟨⟨C, fun _ => none, g.ρ, fun _ _ => []⟩, ⟨rfl, rfl, ?_⟩, rfl⟩
  rw [← hst]
  have hold : ∀ b, b < w0.heap.size → w'.heap[b]? = w0.heap[b]? := fun b hb => by
    rw [hbel.block b hb, hbel0.block b (by omega)]
    exact hfr.old b hb fun _ h => h
  have hsz' : w.heap.size ≤ w'.heap.size := Nat.le_trans hbel0.size hbel.size
  refine ⟨⟨Nat.le_trans hN hsz', (hbel.os.trans hbel0.os).trans hfr.os, (hbel.tape.trans hbel0.tape).trans hfr.tape, (hbel.output.trans hbel0.output).trans hfr.output, fun b hb _ => hold b hb, fun b cs T fr hb hc => ⟨cs, fr, by rw [hold b hb]; exact hc, rfl, fun _ _ => rfl⟩, fun _ _ _ _ => Iff.rfl, fun _ _ h => h, fun b o h => Nat.lt_of_lt_of_le (hfr.lim b o (hfr.mono b o h)) hsz'⟩, fun i => ?_, fun k σ ls hl => (by cases hl), fun k σ ls hl => (by cases hl), fun t b hk => (by cases hk), fun i t want ag ls hi => ?_, fun d hd => (by cases hd), fun i k hk => ?_, rfl, fun k k' b _ _ h => (by cases h), fun k b j x _ h => (by cases h), fun k b _ h => (by cases h), fun k b _ h => (by cases h), fun j j' x x' hj => (by cases hj)⟩
  · show RelP _ _ w' _ _ _ (match Nat.beq i 2 with | true => pstr (insZ l gN) | false => match Nat.beq i 3 with | true => pbool true | false => .dead)
    cases h2 : Nat.beq i 2 with
    | true =>
      have := Nat.eq_of_beq_eq_true h2
      subst this
      exact ⟨_, ⟨_, [], rfl, ⟨s, rfl, hs, hss⟩, rfl⟩, rfl⟩
    | false =>
      cases h3 : Nat.beq i 3 with
      | true =>
        have := Nat.eq_of_beq_eq_true h3
        subst this
        exact ⟨_, ⟨_, [], rfl, rfl, rfl⟩, rfl⟩
      | false => trivial
  · have hi : (match Nat.beq i 2 with | true => pstr (insZ l gN) | false => match Nat.beq i 3 with | true => pbool true | false => .dead) = .spec t want ag ls := hi
    split at hi
    · cases hi
    · split at hi <;> cases hi
  · have hk : k ∈ keyP (match Nat.beq i 2 with | true => pstr (insZ l gN) | false => match Nat.beq i 3 with | true => pbool true | false => .dead) := hk
    split at hk
    · cases hk
    · split at hk <;> cases hk
theorem F_addr_coloned_hand : ∀ (w : World) (C : Com) (c : Code) (ac : AC) (k : Nat), Tryd.f60.body = some c → annot F_addr_coloned_ann c 0 = some (ac, k) → ∀ p ∈ (ac.withHand 29 insTail).hands, HandS Tryd.prog (F01 Tryd.f60.ntmps w C) p.1 p.2 := by
  intro w C c ac k hc hac p hp
  obtain ⟨c0, h1, h2⟩ := col_walk w C
  have h3 : colHands = (ac.withHand 29 insTail).hands := by
    unfold colHands
    rw [hc]
    show (match annot F_addr_coloned_ann c 0 with | some (ac, _) => (ac.withHand 29 insTail).hands | none => []) = _
    rw [hac]
  rw [← h3, h1] at hp
  obtain rfl := List.mem_singleton.1 hp
  exact h2
end Go.Proofs.YtblngdnndkljoaaDoor

/- The functions compute what their Lean functions tell. -/
namespace Go.Proofs.YtblngdnndkljoaaDoor
open Pv
theorem F_addr_decimal_sound {T : Tab} (h_errs : has_errs T) (h_pow10 : tab_pow10 ∈ T) : SoundFn Tryd.prog T 73 F_addr_decimal_sig ⟨F_addr_decimal⟩ := by
  have h := fn_sound (T := T) (E := F_addr_decimal_env) (by unfold Env.ok; exact List.forall_mem_cons.2 ⟨F_strconv_Atoi_sound h_errs, List.forall_mem_cons.2 ⟨F_strconv_Itoa_sound h_pow10, fun p h => by cases h⟩⟩) (A := F_addr_decimal_ann) (f := 73) (fn := Tryd.f73) (s := F_addr_decimal_sig) Tryd.func73
  rw [F_addr_decimal_text] at h
  exact h
theorem F_addr_dotted_sound {T : Tab} (h_errs : has_errs T) (h_pow10 : tab_pow10 ∈ T) (h_maxlen : has_maxlen T) : SoundFn Tryd.prog T 59 F_addr_dotted_sig ⟨F_addr_dotted⟩ := by
  have h := fn_sound (T := T) (E := F_addr_dotted_env) (by unfold Env.ok; exact List.forall_mem_cons.2 ⟨F_addr_decimal_sound h_errs h_pow10, List.forall_mem_cons.2 ⟨F_strings_Split_sound h_maxlen, fun p h => by cases h⟩⟩) (A := F_addr_dotted_ann) (f := 59) (fn := Tryd.f59) (s := F_addr_dotted_sig) Tryd.func59
  rw [F_addr_dotted_text] at h
  exact h
theorem F_internal_stringslite_HasPrefix_sound {T : Tab} : SoundFn Tryd.prog T 125 F_internal_stringslite_HasPrefix_sig ⟨F_internal_stringslite_HasPrefix⟩ := by
  have h := fn_sound (T := T) (E := F_internal_stringslite_HasPrefix_env) (by unfold Env.ok; exact fun p h => by cases h) (A := F_internal_stringslite_HasPrefix_ann) (f := 125) (fn := Tryd.f125) (s := F_internal_stringslite_HasPrefix_sig) Tryd.func125
  rw [F_internal_stringslite_HasPrefix_text] at h
  exact h
theorem F_strings_HasPrefix_sound {T : Tab} : SoundFn Tryd.prog T 91 F_strings_HasPrefix_sig ⟨F_strings_HasPrefix⟩ := by
  have h := fn_sound (T := T) (E := F_strings_HasPrefix_env) (by unfold Env.ok; exact List.forall_mem_cons.2 ⟨F_internal_stringslite_HasPrefix_sound, fun p h => by cases h⟩) (A := F_strings_HasPrefix_ann) (f := 91) (fn := Tryd.f91) (s := F_strings_HasPrefix_sig) Tryd.func91
  rw [F_strings_HasPrefix_text] at h
  exact h
theorem F_addr_digit_sound {T : Tab} : SoundFn Tryd.prog T 92 F_addr_digit_sig ⟨F_addr_digit⟩ := by
  have h := fn_sound (T := T) (E := F_addr_digit_env) (by unfold Env.ok; exact fun p h => by cases h) (A := F_addr_digit_ann) (f := 92) (fn := Tryd.f92) (s := F_addr_digit_sig) Tryd.func92
  rw [F_addr_digit_text] at h
  exact h
theorem F_addr_coloned_sound {T : Tab} : SoundFn Tryd.prog T 60 F_addr_coloned_sig ⟨F_addr_coloned⟩ := by
  have h := fn_soundH (T := T) (E := F_addr_coloned_env) (by unfold Env.ok; exact List.forall_mem_cons.2 ⟨F_strings_HasPrefix_sound, List.forall_mem_cons.2 ⟨F_addr_digit_sound, fun p h => by cases h⟩⟩) (r := 29) (h := insTail) (A := F_addr_coloned_ann) (f := 60) (fn := Tryd.f60) (s := F_addr_coloned_sig) Tryd.func60 rfl rfl rfl F_addr_coloned_hand
  rw [F_addr_coloned_text] at h
  exact h
theorem F_internal_stringslite_TrimPrefix_sound {T : Tab} : SoundFn Tryd.prog T 128 F_internal_stringslite_TrimPrefix_sig ⟨F_internal_stringslite_TrimPrefix⟩ := by
  have h := fn_sound (T := T) (E := F_internal_stringslite_TrimPrefix_env) (by unfold Env.ok; exact List.forall_mem_cons.2 ⟨F_internal_stringslite_HasPrefix_sound, fun p h => by cases h⟩) (A := F_internal_stringslite_TrimPrefix_ann) (f := 128) (fn := Tryd.f128) (s := F_internal_stringslite_TrimPrefix_sig) Tryd.func128
  rw [F_internal_stringslite_TrimPrefix_text] at h
  exact h
theorem F_strings_TrimPrefix_sound {T : Tab} : SoundFn Tryd.prog T 94 F_strings_TrimPrefix_sig ⟨F_strings_TrimPrefix⟩ := by
  have h := fn_sound (T := T) (E := F_strings_TrimPrefix_env) (by unfold Env.ok; exact List.forall_mem_cons.2 ⟨F_internal_stringslite_TrimPrefix_sound, fun p h => by cases h⟩) (A := F_strings_TrimPrefix_ann) (f := 94) (fn := Tryd.f94) (s := F_strings_TrimPrefix_sig) Tryd.func94
  rw [F_strings_TrimPrefix_text] at h
  exact h
theorem F_addr_Plain_sound {T : Tab} : SoundFn Tryd.prog T 61 F_addr_Plain_sig ⟨F_addr_Plain⟩ := by
  have h := fn_sound (T := T) (E := F_addr_Plain_env) (by unfold Env.ok; exact List.forall_mem_cons.2 ⟨F_strings_TrimPrefix_sound, fun p h => by cases h⟩) (A := F_addr_Plain_ann) (f := 61) (fn := Tryd.f61) (s := F_addr_Plain_sig) Tryd.func61
  rw [F_addr_Plain_text] at h
  exact h
theorem F_addr_Parse_sound {T : Tab} (h_errs : has_errs T) (h_pow10 : tab_pow10 ∈ T) (h_maxlen : has_maxlen T) : SoundFn Tryd.prog T 26 F_addr_Parse_sig ⟨F_addr_Parse⟩ := by
  have h := fn_sound (T := T) (E := F_addr_Parse_env) (by unfold Env.ok; exact List.forall_mem_cons.2 ⟨F_addr_dotted_sound h_errs h_pow10 h_maxlen, List.forall_mem_cons.2 ⟨F_addr_coloned_sound, List.forall_mem_cons.2 ⟨F_addr_Plain_sound, fun p h => by cases h⟩⟩⟩) (A := F_addr_Parse_ann) (f := 26) (fn := Tryd.f26) (s := F_addr_Parse_sig) Tryd.func26
  rw [F_addr_Parse_text] at h
  exact h
theorem F_wlvlaw15_first_sound {T : Tab} (h_errs : has_errs T) (h_pow10 : tab_pow10 ∈ T) (h_maxlen : has_maxlen T) : SoundFn Tryd.prog T 24 F_wlvlaw15_first_sig ⟨F_wlvlaw15_first⟩ := by
  have h := fn_sound (T := T) (E := F_wlvlaw15_first_env) (by unfold Env.ok; exact List.forall_mem_cons.2 ⟨F_addr_Parse_sound h_errs h_pow10 h_maxlen, fun p h => by cases h⟩) (A := F_wlvlaw15_first_ann) (f := 24) (fn := Tryd.f24) (s := F_wlvlaw15_first_sig) Tryd.func24
  rw [F_wlvlaw15_first_text] at h
  exact h
theorem F_wlvlaw15_hex_sound {T : Tab} : SoundFn Tryd.prog T 25 F_wlvlaw15_hex_sig ⟨F_wlvlaw15_hex⟩ := by
  have h := fn_sound (T := T) (E := F_wlvlaw15_hex_env) (by unfold Env.ok; exact fun p h => by cases h) (A := F_wlvlaw15_hex_ann) (f := 25) (fn := Tryd.f25) (s := F_wlvlaw15_hex_sig) Tryd.func25
  rw [F_wlvlaw15_hex_text] at h
  exact h
theorem F_wlvref15_Mapped_sound {T : Tab} : SoundFn Tryd.prog T 27 F_wlvref15_Mapped_sig ⟨F_wlvref15_Mapped⟩ := by
  have h := fn_sound (T := T) (E := F_wlvref15_Mapped_env) (by unfold Env.ok; exact fun p h => by cases h) (A := F_wlvref15_Mapped_ann) (f := 27) (fn := Tryd.f27) (s := F_wlvref15_Mapped_sig) Tryd.func27
  rw [F_wlvref15_Mapped_text] at h
  exact h
theorem F_wlvlaw15_AddrShort_sound {T : Tab} (h_errs : has_errs T) (h_pow10 : tab_pow10 ∈ T) (h_maxlen : has_maxlen T) : SoundFn Tryd.prog T 6 F_wlvlaw15_AddrShort_sig ⟨F_wlvlaw15_AddrShort⟩ := by
  have h := fn_sound (T := T) (E := F_wlvlaw15_AddrShort_env) (by unfold Env.ok; exact List.forall_mem_cons.2 ⟨F_wlvlaw15_first_sound h_errs h_pow10 h_maxlen, List.forall_mem_cons.2 ⟨F_wlvlaw15_hex_sound, List.forall_mem_cons.2 ⟨F_addr_Parse_sound h_errs h_pow10 h_maxlen, List.forall_mem_cons.2 ⟨F_wlvref15_Mapped_sound, fun p h => by cases h⟩⟩⟩⟩) (A := F_wlvlaw15_AddrShort_ann) (f := 6) (fn := Tryd.f6) (s := F_wlvlaw15_AddrShort_sig) Tryd.func6
  rw [F_wlvlaw15_AddrShort_text] at h
  exact h
theorem F_addr_kept_sound {T : Tab} : SoundFn Tryd.prog T 62 F_addr_kept_sig ⟨F_addr_kept⟩ := by
  have h := fn_sound (T := T) (E := F_addr_kept_env) (by unfold Env.ok; exact fun p h => by cases h) (A := F_addr_kept_ann) (f := 62) (fn := Tryd.f62) (s := F_addr_kept_sig) Tryd.func62
  rw [F_addr_kept_text] at h
  exact h
theorem F_addr_In_sound {T : Tab} : SoundFn Tryd.prog T 28 F_addr_In_sig ⟨F_addr_In⟩ := by
  have h := fn_sound (T := T) (E := F_addr_In_env) (by unfold Env.ok; exact List.forall_mem_cons.2 ⟨F_addr_kept_sound, fun p h => by cases h⟩) (A := F_addr_In_ann) (f := 28) (fn := Tryd.f28) (s := F_addr_In_sig) Tryd.func28
  rw [F_addr_In_text] at h
  exact h
theorem F_wlvlaw15_AddrNets_sound {T : Tab} (h_errs : has_errs T) (h_pow10 : tab_pow10 ∈ T) (h_maxlen : has_maxlen T) : SoundFn Tryd.prog T 7 F_wlvlaw15_AddrNets_sig ⟨F_wlvlaw15_AddrNets⟩ := by
  have h := fn_sound (T := T) (E := F_wlvlaw15_AddrNets_env) (by unfold Env.ok; exact List.forall_mem_cons.2 ⟨F_wlvlaw15_first_sound h_errs h_pow10 h_maxlen, List.forall_mem_cons.2 ⟨F_addr_In_sound, fun p h => by cases h⟩⟩) (A := F_wlvlaw15_AddrNets_ann) (f := 7) (fn := Tryd.f7) (s := F_wlvlaw15_AddrNets_sig) Tryd.func7
  rw [F_wlvlaw15_AddrNets_text] at h
  exact h
theorem F_host_sign_sound {T : Tab} : SoundFn Tryd.prog T 69 F_host_sign_sig ⟨F_host_sign⟩ := by
  have h := fn_sound (T := T) (E := F_host_sign_env) (by unfold Env.ok; exact fun p h => by cases h) (A := F_host_sign_ann) (f := 69) (fn := Tryd.f69) (s := F_host_sign_sig) Tryd.func69
  rw [F_host_sign_text] at h
  exact h
theorem F_host_Name_sound {T : Tab} : SoundFn Tryd.prog T 32 F_host_Name_sig ⟨F_host_Name⟩ := by
  have h := fn_sound (T := T) (E := F_host_Name_env) (by unfold Env.ok; exact List.forall_mem_cons.2 ⟨F_host_sign_sound, fun p h => by cases h⟩) (A := F_host_Name_ann) (f := 32) (fn := Tryd.f32) (s := F_host_Name_sig) Tryd.func32
  rw [F_host_Name_text] at h
  exact h
theorem F_internal_stringslite_HasSuffix_sound {T : Tab} : SoundFn Tryd.prog T 134 F_internal_stringslite_HasSuffix_sig ⟨F_internal_stringslite_HasSuffix⟩ := by
  have h := fn_sound (T := T) (E := F_internal_stringslite_HasSuffix_env) (by unfold Env.ok; exact fun p h => by cases h) (A := F_internal_stringslite_HasSuffix_ann) (f := 134) (fn := Tryd.f134) (s := F_internal_stringslite_HasSuffix_sig) Tryd.func134
  rw [F_internal_stringslite_HasSuffix_text] at h
  exact h
theorem F_strings_HasSuffix_sound {T : Tab} : SoundFn Tryd.prog T 98 F_strings_HasSuffix_sig ⟨F_strings_HasSuffix⟩ := by
  have h := fn_sound (T := T) (E := F_strings_HasSuffix_env) (by unfold Env.ok; exact List.forall_mem_cons.2 ⟨F_internal_stringslite_HasSuffix_sound, fun p h => by cases h⟩) (A := F_strings_HasSuffix_ann) (f := 98) (fn := Tryd.f98) (s := F_strings_HasSuffix_sig) Tryd.func98
  rw [F_strings_HasSuffix_text] at h
  exact h
theorem F_host_place_sound {T : Tab} (h_errs : has_errs T) (h_pow10 : tab_pow10 ∈ T) (h_maxlen : has_maxlen T) : SoundFn Tryd.prog T 65 F_host_place_sig ⟨F_host_place⟩ := by
  have h := fn_sound (T := T) (E := F_host_place_env) (by unfold Env.ok; exact List.forall_mem_cons.2 ⟨F_addr_Parse_sound h_errs h_pow10 h_maxlen, List.forall_mem_cons.2 ⟨F_host_Name_sound, List.forall_mem_cons.2 ⟨F_strings_HasPrefix_sound, List.forall_mem_cons.2 ⟨F_strings_HasSuffix_sound, List.forall_mem_cons.2 ⟨F_strings_Contains_sound, fun p h => by cases h⟩⟩⟩⟩⟩) (A := F_host_place_ann) (f := 65) (fn := Tryd.f65) (s := F_host_place_sig) Tryd.func65
  rw [F_host_place_text] at h
  exact h
theorem F_host_Authority_sound {T : Tab} (h_errs : has_errs T) (h_pow10 : tab_pow10 ∈ T) (h_maxlen : has_maxlen T) : SoundFn Tryd.prog T 30 F_host_Authority_sig ⟨F_host_Authority⟩ := by
  have h := fn_sound (T := T) (E := F_host_Authority_env) (by unfold Env.ok; exact List.forall_mem_cons.2 ⟨F_strings_LastIndexByte_sound, List.forall_mem_cons.2 ⟨F_strconv_Atoi_sound h_errs, List.forall_mem_cons.2 ⟨F_host_place_sound h_errs h_pow10 h_maxlen, List.forall_mem_cons.2 ⟨F_strconv_Itoa_sound h_pow10, fun p h => by cases h⟩⟩⟩⟩) (A := F_host_Authority_ann) (f := 30) (fn := Tryd.f30) (s := F_host_Authority_sig) Tryd.func30
  rw [F_host_Authority_text] at h
  exact h
theorem F_wlvlaw16_first_sound {T : Tab} (h_errs : has_errs T) (h_pow10 : tab_pow10 ∈ T) (h_maxlen : has_maxlen T) : SoundFn Tryd.prog T 29 F_wlvlaw16_first_sig ⟨F_wlvlaw16_first⟩ := by
  have h := fn_sound (T := T) (E := F_wlvlaw16_first_env) (by unfold Env.ok; exact List.forall_mem_cons.2 ⟨F_host_Authority_sound h_errs h_pow10 h_maxlen, fun p h => by cases h⟩) (A := F_wlvlaw16_first_ann) (f := 29) (fn := Tryd.f29) (s := F_wlvlaw16_first_sig) Tryd.func29
  rw [F_wlvlaw16_first_text] at h
  exact h
theorem F_wlvref_Lower_sound {T : Tab} : SoundFn Tryd.prog T 52 F_wlvref_Lower_sig ⟨F_wlvref_Lower⟩ := by
  have h := fn_sound (T := T) (E := F_wlvref_Lower_env) (by unfold Env.ok; exact fun p h => by cases h) (A := F_wlvref_Lower_ann) (f := 52) (fn := Tryd.f52) (s := F_wlvref_Lower_sig) Tryd.func52
  rw [F_wlvref_Lower_text] at h
  exact h
theorem F_wlvref_Split_sound {T : Tab} : SoundFn Tryd.prog T 70 F_wlvref_Split_sig ⟨F_wlvref_Split⟩ := by
  have h := fn_sound (T := T) (E := F_wlvref_Split_env) (by unfold Env.ok; exact fun p h => by cases h) (A := F_wlvref_Split_ann) (f := 70) (fn := Tryd.f70) (s := F_wlvref_Split_sig) Tryd.func70
  rw [F_wlvref_Split_text] at h
  exact h
theorem F_wlvref15_Name_sound {T : Tab} : SoundFn Tryd.prog T 33 F_wlvref15_Name_sig ⟨F_wlvref15_Name⟩ := by
  have h := fn_sound (T := T) (E := F_wlvref15_Name_env) (by unfold Env.ok; exact List.forall_mem_cons.2 ⟨F_wlvref_Lower_sound, List.forall_mem_cons.2 ⟨F_wlvref_Split_sound, fun p h => by cases h⟩⟩) (A := F_wlvref15_Name_ann) (f := 33) (fn := Tryd.f33) (s := F_wlvref15_Name_sig) Tryd.func33
  rw [F_wlvref15_Name_text] at h
  exact h
theorem F_wlvref_Num_sound {T : Tab} : SoundFn Tryd.prog T 67 F_wlvref_Num_sig ⟨F_wlvref_Num⟩ := by
  have h := fn_sound (T := T) (E := F_wlvref_Num_env) (by unfold Env.ok; exact fun p h => by cases h) (A := F_wlvref_Num_ann) (f := 67) (fn := Tryd.f67) (s := F_wlvref_Num_sig) Tryd.func67
  rw [F_wlvref_Num_text] at h
  exact h
theorem F_wlvref15_four_sound {T : Tab} : SoundFn Tryd.prog T 68 F_wlvref15_four_sig ⟨F_wlvref15_four⟩ := by
  have h := fn_sound (T := T) (E := F_wlvref15_four_env) (by unfold Env.ok; exact List.forall_mem_cons.2 ⟨F_wlvref_Num_sound, List.forall_mem_cons.2 ⟨F_wlvref_Split_sound, fun p h => by cases h⟩⟩) (A := F_wlvref15_four_ann) (f := 68) (fn := Tryd.f68) (s := F_wlvref15_four_sig) Tryd.func68
  rw [F_wlvref15_four_text] at h
  exact h
theorem F_wlvref15_group_sound {T : Tab} : SoundFn Tryd.prog T 136 F_wlvref15_group_sig ⟨F_wlvref15_group⟩ := by
  have h := fn_sound (T := T) (E := F_wlvref15_group_env) (by unfold Env.ok; exact fun p h => by cases h) (A := F_wlvref15_group_ann) (f := 136) (fn := Tryd.f136) (s := F_wlvref15_group_sig) Tryd.func136
  rw [F_wlvref15_group_text] at h
  exact h
theorem F_wlvref15_groups_sound {T : Tab} : SoundFn Tryd.prog T 101 F_wlvref15_groups_sig ⟨F_wlvref15_groups⟩ := by
  have h := fn_sound (T := T) (E := F_wlvref15_groups_env) (by unfold Env.ok; exact List.forall_mem_cons.2 ⟨F_wlvref_Split_sound, List.forall_mem_cons.2 ⟨F_wlvref15_group_sound, fun p h => by cases h⟩⟩) (A := F_wlvref15_groups_ann) (f := 101) (fn := Tryd.f101) (s := F_wlvref15_groups_sig) Tryd.func101
  rw [F_wlvref15_groups_text] at h
  exact h
theorem F_wlvref15_eight_sound {T : Tab} : SoundFn Tryd.prog T 71 F_wlvref15_eight_sig ⟨F_wlvref15_eight⟩ := by
  have h := fn_sound (T := T) (E := F_wlvref15_eight_env) (by unfold Env.ok; exact List.forall_mem_cons.2 ⟨F_wlvref15_groups_sound, fun p h => by cases h⟩) (A := F_wlvref15_eight_ann) (f := 71) (fn := Tryd.f71) (s := F_wlvref15_eight_sig) Tryd.func71
  rw [F_wlvref15_eight_text] at h
  exact h
theorem F_wlvref15_Parse_sound {T : Tab} : SoundFn Tryd.prog T 35 F_wlvref15_Parse_sig ⟨F_wlvref15_Parse⟩ := by
  have h := fn_sound (T := T) (E := F_wlvref15_Parse_env) (by unfold Env.ok; exact List.forall_mem_cons.2 ⟨F_wlvref15_Mapped_sound, List.forall_mem_cons.2 ⟨F_wlvref15_four_sound, List.forall_mem_cons.2 ⟨F_wlvref15_eight_sound, fun p h => by cases h⟩⟩⟩) (A := F_wlvref15_Parse_ann) (f := 35) (fn := Tryd.f35) (s := F_wlvref15_Parse_sig) Tryd.func35
  rw [F_wlvref15_Parse_text] at h
  exact h
theorem F_wlvref15_Authority_sound {T : Tab} : SoundFn Tryd.prog T 31 F_wlvref15_Authority_sig ⟨F_wlvref15_Authority⟩ := by
  have h := fn_sound (T := T) (E := F_wlvref15_Authority_env) (by unfold Env.ok; exact List.forall_mem_cons.2 ⟨F_wlvref15_Name_sound, List.forall_mem_cons.2 ⟨F_wlvref15_Parse_sound, List.forall_mem_cons.2 ⟨F_wlvref_Num_sound, List.forall_mem_cons.2 ⟨F_wlvref15_four_sound, fun p h => by cases h⟩⟩⟩⟩) (A := F_wlvref15_Authority_ann) (f := 31) (fn := Tryd.f31) (s := F_wlvref15_Authority_sig) Tryd.func31
  rw [F_wlvref15_Authority_text] at h
  exact h
theorem F_wlvlaw16_HostReads_sound {T : Tab} (h_errs : has_errs T) (h_pow10 : tab_pow10 ∈ T) (h_maxlen : has_maxlen T) : SoundFn Tryd.prog T 8 F_wlvlaw16_HostReads_sig ⟨F_wlvlaw16_HostReads⟩ := by
  have h := fn_sound (T := T) (E := F_wlvlaw16_HostReads_env) (by unfold Env.ok; exact List.forall_mem_cons.2 ⟨F_wlvlaw16_first_sound h_errs h_pow10 h_maxlen, List.forall_mem_cons.2 ⟨F_host_Authority_sound h_errs h_pow10 h_maxlen, List.forall_mem_cons.2 ⟨F_wlvref15_Authority_sound, List.forall_mem_cons.2 ⟨F_host_Name_sound, List.forall_mem_cons.2 ⟨F_wlvref15_Name_sound, fun p h => by cases h⟩⟩⟩⟩⟩) (A := F_wlvlaw16_HostReads_ann) (f := 8) (fn := Tryd.f8) (s := F_wlvlaw16_HostReads_sig) Tryd.func8
  rw [F_wlvlaw16_HostReads_text] at h
  exact h
theorem F_wlvref_Dec_fuel_sound {T : Tab} : ∀ k : Nat, SoundFn Tryd.prog T 34 F_wlvref_Dec_sig ⟨F_wlvref_Dec_fuel k⟩
  | 0 => by
    intro F g st xs y tmf w args _ _ happ
    have e : none = some y := (appF_bot (α := (F_wlvref_Dec_sig).out.D) ((parsT (F_wlvref_Dec_sig).ps).map LT.ty) xs).symm.trans happ
    cases e
  | k + 1 => by
    have ih := F_wlvref_Dec_fuel_sound (T := T) k
    have h := fn_sound (T := T) (E := F_wlvref_Dec_env (F_wlvref_Dec_fuel k)) (by unfold Env.ok; exact List.forall_mem_cons.2 ⟨ih, fun p h => by cases h⟩) (A := F_wlvref_Dec_ann) (f := 34) (fn := Tryd.f34) (s := F_wlvref_Dec_sig) Tryd.func34
    rw [F_wlvref_Dec_text] at h
    exact h
theorem F_wlvref_Dec_sound {T : Tab} : SoundFn Tryd.prog T 34 F_wlvref_Dec_sig ⟨F_wlvref_Dec⟩ := F_wlvref_Dec_fuel_sound 64
theorem F_wlvlaw16_HostPorts_sound {T : Tab} (h_errs : has_errs T) (h_pow10 : tab_pow10 ∈ T) (h_maxlen : has_maxlen T) : SoundFn Tryd.prog T 9 F_wlvlaw16_HostPorts_sig ⟨F_wlvlaw16_HostPorts⟩ := by
  have h := fn_sound (T := T) (E := F_wlvlaw16_HostPorts_env) (by unfold Env.ok; exact List.forall_mem_cons.2 ⟨F_wlvlaw16_first_sound h_errs h_pow10 h_maxlen, List.forall_mem_cons.2 ⟨F_host_Authority_sound h_errs h_pow10 h_maxlen, List.forall_mem_cons.2 ⟨F_host_Name_sound, List.forall_mem_cons.2 ⟨F_wlvref_Dec_sound, List.forall_mem_cons.2 ⟨F_wlvref15_Parse_sound, fun p h => by cases h⟩⟩⟩⟩⟩) (A := F_wlvlaw16_HostPorts_ann) (f := 9) (fn := Tryd.f9) (s := F_wlvlaw16_HostPorts_sig) Tryd.func9
  rw [F_wlvlaw16_HostPorts_text] at h
  exact h
theorem F_wlvlaw16_HostNames_sound {T : Tab} (h_errs : has_errs T) (h_pow10 : tab_pow10 ∈ T) (h_maxlen : has_maxlen T) : SoundFn Tryd.prog T 10 F_wlvlaw16_HostNames_sig ⟨F_wlvlaw16_HostNames⟩ := by
  have h := fn_sound (T := T) (E := F_wlvlaw16_HostNames_env) (by unfold Env.ok; exact List.forall_mem_cons.2 ⟨F_wlvlaw16_first_sound h_errs h_pow10 h_maxlen, List.forall_mem_cons.2 ⟨F_host_Name_sound, fun p h => by cases h⟩⟩) (A := F_wlvlaw16_HostNames_ann) (f := 10) (fn := Tryd.f10) (s := F_wlvlaw16_HostNames_sig) Tryd.func10
  rw [F_wlvlaw16_HostNames_text] at h
  exact h
end Go.Proofs.YtblngdnndkljoaaDoor

/- The hex digits of a number below 65536, in plain words. -/
namespace Go.Proofs.YtblngdnndkljoaaDoor
set_option linter.unusedVariables false
def hexd (n : Nat) : Int := if n < 10 then 48 + (n : Int) else 87 + (n : Int)
def hexF : Nat → Nat → List Int
  | 0, _ => []
  | k + 1, n => if n < 16 then [hexd n] else hexF k (n / 16) ++ [hexd (n % 16)]
def hexI (n : Nat) : List Int := hexF 17 n
theorem hexF_more : ∀ (k n : Nat), n < 16 ^ k → hexF (k + 1) n = hexF k n ∨ k = 0
  | 0, _, _ => .inr rfl
  | k + 1, n, h => by
    left
    show (if n < 16 then [hexd n] else hexF (k + 1) (n / 16) ++ [hexd (n % 16)]) = (if n < 16 then [hexd n] else hexF k (n / 16) ++ [hexd (n % 16)])
    by_cases h16 : n < 16
    · rw [if_pos h16, if_pos h16]
    · rw [if_neg h16, if_neg h16]
      have : n / 16 < 16 ^ k := by rw [Nat.pow_succ] at h; omega
      rcases hexF_more k (n / 16) this with e | e
      · rw [e]
      · subst e; omega
theorem hexI_step {n : Nat} (h : ¬ n < 16) (hn : n < 65536) : hexI n = hexI (n / 16) ++ [hexd (n % 16)] := by
  have e : hexI n = hexF 16 (n / 16) ++ [hexd (n % 16)] := if_neg h
  rw [e]
  unfold hexI
  rcases hexF_more 16 (n / 16) (by have : (16 : Nat) ^ 16 = 18446744073709551616 := rfl
                                   omega) with e | e
  · rw [e]
  · cases e
theorem hexI_one {n : Nat} (h : n < 16) : hexI n = [hexd n] := if_pos h
theorem hexd_in {q : Nat} (h : q < 16) : (48 ≤ hexd q ∧ hexd q ≤ 57) ∨ (97 ≤ hexd q ∧ hexd q ≤ 102) := by
  unfold hexd
  split <;> omega
theorem hex_len : ∀ (k n : Nat), n < 16 ^ (k + 1) → n < 65536 → 1 ≤ (hexI n).length ∧ (hexI n).length ≤ k + 1
  | 0, n, h, _ => by
    have h : n < 16 := by simpa using h
    rw [hexI_one h]; simp
  | k + 1, n, h, h2 => by
    by_cases h16 : n < 16
    · rw [hexI_one h16]; simp
    · obtain ⟨a, b⟩ := hex_len k (n / 16) (by rw [Nat.pow_succ] at h; omega) (by omega)
      rw [hexI_step h16 h2, List.length_append]
      simp; omega
theorem hex_mem : ∀ (k n : Nat), n < 16 ^ (k + 1) → n < 65536 → ∀ c ∈ hexI n, (48 ≤ c ∧ c ≤ 57) ∨ (97 ≤ c ∧ c ≤ 102)
  | 0, n, h, _ => by
    have h : n < 16 := by simpa using h
    rw [hexI_one h]
    intro c hc
    rw [List.mem_singleton.1 hc]
    exact hexd_in h
  | k + 1, n, h, h2 => by
    by_cases h16 : n < 16
    · rw [hexI_one h16]
      intro c hc
      rw [List.mem_singleton.1 hc]
      exact hexd_in h16
    · rw [hexI_step h16 h2]
      intro c hc
      rcases List.mem_append.1 hc with hc | hc
      · exact hex_mem k (n / 16) (by rw [Nat.pow_succ] at h; omega) (by omega) c hc
      · rw [List.mem_singleton.1 hc]
        exact hexd_in (by omega)
end Go.Proofs.YtblngdnndkljoaaDoor

/- The contracts' functions: FormatInt at base sixteen, and the first place of a byte. -/
namespace Go.Proofs.YtblngdnndkljoaaDoor
open Pv
set_option linter.unusedVariables false
def F_strconv_FormatInt_sig : Sig := ⟨[.v false [.d (.int .i64)], .v false [.d (.int .i64)]], [(false, [.d .str])]⟩
def F_strconv_FormatInt (n b : Int) : Option (List Int) := cond (b == 16 && decide (0 ≤ n) && decide (n < 65536)) (some (hexI n.toNat)) none
def idxI : List Int → Int → Int
  | [], _ => -1
  | x :: r, c => cond (x == c) 0 (cond (idxI r c == -1) (-1) (idxI r c + 1))
def F_internal_stringslite_Index_sig : Sig := ⟨[.v false [.d .str], .v false [.d .str]], [(false, [.d (.int .i64)])]⟩
def F_internal_stringslite_Index (s t : List Int) : Option Int := match t with
  | [c] => some (idxI s c)
  | _ => none
end Go.Proofs.YtblngdnndkljoaaDoor

/- The functions of the program as Lean functions, written by a program of ours and held by the kernel. -/
namespace Go.Proofs.YtblngdnndkljoaaDoor
open Pv
set_option linter.unusedVariables false
noncomputable def F_wlvref15_bit (s1 : List Int) (i2 : Int) : Option (Int) :=
  (getI s1 (IntKind.i64.wrap (Int.tdiv i2 8))).bind fun i3 =>
  chk (decide (0 ≤ (IntKind.u64.wrap (IntKind.i64.wrap (7 - (Int.tmod i2 8))))))
  (some (bits .and .i64 (Int.fdiv (IntKind.i64.wrap i3) (2 ^ (min ((IntKind.u64.wrap (IntKind.i64.wrap (7 - (Int.tmod i2 8))))).toNat 64))) 1))
def F_wlvref15_bit_sig : Sig := ⟨[.v false [.d .str], .v false [.d (.int .i64)]], [(false, [.d (.int .i64)])]⟩
def F_wlvref15_bit_ann : List (Nat × Ann) := []
noncomputable def F_wlvref15_bit_env : Env := ⟨Tryd.prog, [], []⟩
set_option maxRecDepth 100000 in
theorem F_wlvref15_bit_text : pvFn F_wlvref15_bit_env F_wlvref15_bit_ann Tryd.f72 F_wlvref15_bit_sig = F_wlvref15_bit := by kernel_rfl
noncomputable def F_wlvref15_In_L6 (s1 : List Int) (i2 : Int) (s3 : List Int) (s : Int) : Option (((Bool) ⊕ (Unit)) ⊕ (Int)) :=
  let i4 := s
  cond (decide (i4 < i2))
  ((F_wlvref15_bit s3 i4).bind fun i5 =>
    (F_wlvref15_bit s1 i4).bind fun i6 =>
    cond (i5 != i6)
    (some (.inl (.inl false)))
    (some (.inr (IntKind.i64.wrap (i4 + 1)))))
  (some (.inl (.inr ())))
noncomputable def F_wlvref15_In_J4 (s : Unit) : Option (Bool) :=
  some true
noncomputable def F_wlvref15_In (s1 : List Int) (i2 : Int) (s3 : List Int) : Option (Bool) :=
  cond ((s1.length : Int) != 4)
  (cond ((s1.length : Int) != 16)
    (some false)
    (cond ((s3.length : Int) != (s1.length : Int))
      (some false)
      (cond (decide (i2 < 0))
        (some false)
        (cond (decide (i2 > (IntKind.i64.wrap (8 * (s1.length : Int)))))
          (some false)
          (joinC (S := Unit) (R := Bool)
            (loopC (S := Int) (R := (Bool) ⊕ (Unit)) (F_wlvref15_In_L6 s1 i2 s3) 0)
            (F_wlvref15_In_J4))))))
  (cond ((s3.length : Int) != (s1.length : Int))
    (some false)
    (cond (decide (i2 < 0))
      (some false)
      (cond (decide (i2 > (IntKind.i64.wrap (8 * (s1.length : Int)))))
        (some false)
        (joinC (S := Unit) (R := Bool)
          (loopC (S := Int) (R := (Bool) ⊕ (Unit)) (F_wlvref15_In_L6 s1 i2 s3) 0)
          (F_wlvref15_In_J4)))))
def F_wlvref15_In_sig : Sig := ⟨[.v true [.d .str, .d (.int .i64)], .v false [.d .str]], [(false, [.d .bool])]⟩
def F_wlvref15_In_ann : List (Nat × Ann) := [(4, ⟨5, [], [], [4, 5, 38, 39, 40, 41, 42, 43, 44, 45, 46, 47, 48, 49, 50, 51], []⟩), (6, ⟨7, [(5, false, [.d (.int .i64)])], [], [4, 38, 39, 40, 41, 42, 43, 44, 45, 46, 47, 48, 49, 50, 51], [2]⟩)]
noncomputable def F_wlvref15_In_env : Env := ⟨Tryd.prog, [(72, ⟨F_wlvref15_bit_sig, ⟨F_wlvref15_bit⟩⟩)], []⟩
set_option maxRecDepth 100000 in
theorem F_wlvref15_In_text : pvFn F_wlvref15_In_env F_wlvref15_In_ann Tryd.f36 F_wlvref15_In_sig = F_wlvref15_In := by kernel_rfl
noncomputable def F_addr_Print_L7 (s1 : List Int) (s : List (List Int) × Int) : Option ((((List Int) ⊕ (Unit)) ⊕ (List (List Int))) ⊕ (List (List Int) × Int)) :=
  let l2 := s.1; let i3 := s.2
  cond (decide (i3 < 4))
  ((getI s1 i3).bind fun i4 =>
    (F_strconv_Itoa (IntKind.i64.wrap i4)).bind fun s5 =>
    chk (decide ((l2.length + ([s5] : List (List Int)).length) * 16 ≤ 140737488355328) && decide (l2.length + ([s5] : List (List Int)).length ≤ maxLen))
    (some (.inr ((l2 ++ ([s5] : List (List Int))), (IntKind.i64.wrap (i3 + 1))))))
  (some (.inl (.inr l2)))
noncomputable def F_addr_Print_J5 (s : List (List Int)) : Option ((List Int) ⊕ (Unit)) :=
  let l6 := s
  (F_strings_Join l6 ([46] : List Int)).bind fun s7 =>
  some (.inl s7)
noncomputable def F_addr_Print_L16 (s1 : List Int) (s : List (List Int) × Int) : Option ((((List Int) ⊕ (Unit)) ⊕ (List (List Int))) ⊕ (List (List Int) × Int)) :=
  let l8 := s.1; let i9 := s.2
  cond (decide (i9 < 8))
  ((getI s1 (IntKind.i64.wrap (2 * i9))).bind fun i10 =>
    (getI s1 (IntKind.i64.wrap ((IntKind.i64.wrap (2 * i9)) + 1))).bind fun i11 =>
    (F_strconv_FormatInt (bits .or .i64 (IntKind.i64.wrap ((IntKind.i64.wrap i10) * 2 ^ 8)) (IntKind.i64.wrap i11)) 16).bind fun s12 =>
    chk (decide ((l8.length + ([s12] : List (List Int)).length) * 16 ≤ 140737488355328) && decide (l8.length + ([s12] : List (List Int)).length ≤ maxLen))
    (some (.inr ((l8 ++ ([s12] : List (List Int))), (IntKind.i64.wrap (i9 + 1))))))
  (some (.inl (.inr l8)))
noncomputable def F_addr_Print_J14 (s : List (List Int)) : Option ((List Int) ⊕ (Unit)) :=
  let l13 := s
  (F_strings_Join l13 ([58] : List Int)).bind fun s14 =>
  some (.inl s14)
noncomputable def F_addr_Print_J2 (s : Unit) : Option (List Int) :=
  some ([] : List Int)
noncomputable def F_addr_Print (s1 : List Int) : Option (List Int) :=
  joinC (S := Unit) (R := List Int)
  (cond ((s1.length : Int) == 4)
    (joinC (S := List (List Int)) (R := (List Int) ⊕ (Unit))
      (loopC (S := List (List Int) × Int) (R := ((List Int) ⊕ (Unit)) ⊕ (List (List Int))) (F_addr_Print_L7 s1) (([] : List (List Int)), 0))
      (F_addr_Print_J5))
    (cond ((s1.length : Int) == 16)
      (joinC (S := List (List Int)) (R := (List Int) ⊕ (Unit))
        (loopC (S := List (List Int) × Int) (R := ((List Int) ⊕ (Unit)) ⊕ (List (List Int))) (F_addr_Print_L16 s1) (([] : List (List Int)), 0))
        (F_addr_Print_J14))
      (some (.inr ()))))
  (F_addr_Print_J2)
def F_addr_Print_sig : Sig := ⟨[.v false [.d .str]], [(false, [.d .str])]⟩
def F_addr_Print_ann : List (Nat × Ann) := [(2, ⟨3, [], [], [2, 3, 4, 5, 6, 7, 8, 9, 10, 11, 12, 13, 14, 15, 16, 17, 18, 19, 20, 21, 22, 23, 24, 25, 26, 27, 28, 29, 30, 31, 32, 33, 34, 35, 36, 37, 38, 39, 40, 41, 42, 43, 44, 45, 46, 47, 48], []⟩), (5, ⟨6, [(3, false, [.own 9 .str])], [], [4, 10, 11, 12, 13, 14, 15, 16, 17, 18, 19, 20, 21], []⟩), (7, ⟨8, [(3, false, [.own 9 .str]), (10, false, [.d (.int .i64)])], [], [4, 11, 12, 13, 14, 15, 16, 17, 18, 19, 20, 21], []⟩), (14, ⟨15, [(3, false, [.own 9 .str])], [], [5, 26, 27, 28, 29, 30, 31, 32, 33, 34, 35, 36, 37, 38, 39, 40, 41, 42, 43, 44, 45, 46], []⟩), (16, ⟨17, [(3, false, [.own 9 .str]), (26, false, [.d (.int .i64)])], [], [5, 27, 28, 29, 30, 31, 32, 33, 34, 35, 36, 37, 38, 39, 40, 41, 42, 43, 44, 45, 46], []⟩)]
noncomputable def F_addr_Print_env : Env := ⟨Tryd.prog, [(66, ⟨F_strconv_Itoa_sig, ⟨F_strconv_Itoa⟩⟩), (74, ⟨F_strings_Join_sig, ⟨F_strings_Join⟩⟩), (75, ⟨F_strconv_FormatInt_sig, ⟨F_strconv_FormatInt⟩⟩)], []⟩
set_option maxRecDepth 100000 in
theorem F_addr_Print_text : pvFn F_addr_Print_env F_addr_Print_ann Tryd.f41 F_addr_Print_sig = F_addr_Print := by kernel_rfl
noncomputable def F_addr_PrintNet (s1 : List Int) (i2 : Int) : Option (List Int) :=
  (F_addr_Print s1).bind fun s3 =>
  chk (Nat.ble (s3.length + ([47] : List Int).length) maxLen)
  ((F_strconv_Itoa i2).bind fun s4 =>
    chk (Nat.ble ((s3 ++ ([47] : List Int)).length + s4.length) maxLen)
    (some ((s3 ++ ([47] : List Int)) ++ s4)))
def F_addr_PrintNet_sig : Sig := ⟨[.v true [.d .str, .d (.int .i64)]], [(false, [.d .str])]⟩
def F_addr_PrintNet_ann : List (Nat × Ann) := []
noncomputable def F_addr_PrintNet_env : Env := ⟨Tryd.prog, [(41, ⟨F_addr_Print_sig, ⟨F_addr_Print⟩⟩), (66, ⟨F_strconv_Itoa_sig, ⟨F_strconv_Itoa⟩⟩)], []⟩
set_option maxRecDepth 100000 in
theorem F_addr_PrintNet_text : pvFn F_addr_PrintNet_env F_addr_PrintNet_ann Tryd.f37 F_addr_PrintNet_sig = F_addr_PrintNet := by kernel_rfl
noncomputable def F_wlvref15_hex_step (r0 : Int → Option (List Int)) (i1 : Int) : Option (List Int) :=
  (cutI ([48, 49, 50, 51, 52, 53, 54, 55, 56, 57, 97, 98, 99, 100, 101, 102] : List Int) (bits .and .i64 i1 15) (IntKind.i64.wrap ((bits .and .i64 i1 15) + 1))).bind fun s2 =>
  cond (decide (i1 < 16))
  (some s2)
  ((r0 (Int.fdiv i1 (2 ^ 4))).bind fun s3 =>
    chk (Nat.ble (s3.length + s2.length) maxLen)
    (some (s3 ++ s2)))
def F_wlvref15_hex_sig : Sig := ⟨[.v false [.d (.int .i64)]], [(false, [.d .str])]⟩
def F_wlvref15_hex_ann : List (Nat × Ann) := []
noncomputable def F_wlvref15_hex_env (r0 : Int → Option (List Int)) : Env := ⟨Tryd.prog, [(76, ⟨F_wlvref15_hex_sig, ⟨r0⟩⟩)], []⟩
set_option maxRecDepth 100000 in
theorem F_wlvref15_hex_text (r0 : Int → Option (List Int)) : pvFn (F_wlvref15_hex_env r0) F_wlvref15_hex_ann Tryd.f76 F_wlvref15_hex_sig = F_wlvref15_hex_step r0 := by kernel_rfl
noncomputable def F_wlvref15_hex_fuel : Nat → Int → Option (List Int)
  | 0 => Pv.botF (α := List Int) [(.int .i64)]
  | k + 1 => F_wlvref15_hex_step (F_wlvref15_hex_fuel k)
noncomputable def F_wlvref15_hex : Int → Option (List Int) := F_wlvref15_hex_fuel 64
noncomputable def F_wlvref15_Print_L6 (s1 : List Int) (s : List Int × Int) : Option (((List Int) ⊕ (List Int)) ⊕ (List Int × Int)) :=
  let s2 := s.1; let i3 := s.2
  cond (decide (i3 < 4))
  (cond (decide (i3 > 0))
    (chk (Nat.ble (s2.length + ([46] : List Int).length) maxLen)
      ((getI s1 i3).bind fun i4 =>
        (F_wlvref_Dec (IntKind.i64.wrap i4)).bind fun s5 =>
        chk (Nat.ble ((s2 ++ ([46] : List Int)).length + s5.length) maxLen)
        (some (.inr (((s2 ++ ([46] : List Int)) ++ s5), (IntKind.i64.wrap (i3 + 1)))))))
    ((getI s1 i3).bind fun i6 =>
      (F_wlvref_Dec (IntKind.i64.wrap i6)).bind fun s7 =>
      chk (Nat.ble (s2.length + s7.length) maxLen)
      (some (.inr ((s2 ++ s7), (IntKind.i64.wrap (i3 + 1)))))))
  (some (.inl (.inr s2)))
noncomputable def F_wlvref15_Print_L14 (s1 : List Int) (s : List Int × Int) : Option (((List Int) ⊕ (List Int)) ⊕ (List Int × Int)) :=
  let s8 := s.1; let i9 := s.2
  cond (decide (i9 < 16))
  (cond (decide (i9 > 0))
    (chk (Nat.ble (s8.length + ([58] : List Int).length) maxLen)
      ((getI s1 i9).bind fun i10 =>
        (getI s1 (IntKind.i64.wrap (i9 + 1))).bind fun i11 =>
        (F_wlvref15_hex (bits .or .i64 (IntKind.i64.wrap ((IntKind.i64.wrap i10) * 2 ^ 8)) (IntKind.i64.wrap i11))).bind fun s12 =>
        chk (Nat.ble ((s8 ++ ([58] : List Int)).length + s12.length) maxLen)
        (some (.inr (((s8 ++ ([58] : List Int)) ++ s12), (IntKind.i64.wrap (i9 + 2)))))))
    ((getI s1 i9).bind fun i13 =>
      (getI s1 (IntKind.i64.wrap (i9 + 1))).bind fun i14 =>
      (F_wlvref15_hex (bits .or .i64 (IntKind.i64.wrap ((IntKind.i64.wrap i13) * 2 ^ 8)) (IntKind.i64.wrap i14))).bind fun s15 =>
      chk (Nat.ble (s8.length + s15.length) maxLen)
      (some (.inr ((s8 ++ s15), (IntKind.i64.wrap (i9 + 2)))))))
  (some (.inl (.inr s8)))
noncomputable def F_wlvref15_Print_J2 (s : List Int) : Option (List Int) :=
  let s16 := s
  some s16
noncomputable def F_wlvref15_Print (s1 : List Int) : Option (List Int) :=
  joinC (S := List Int) (R := List Int)
  (cond ((s1.length : Int) == 4)
    (loopC (S := List Int × Int) (R := (List Int) ⊕ (List Int)) (F_wlvref15_Print_L6 s1) (([] : List Int), 0))
    (cond ((s1.length : Int) == 16)
      (loopC (S := List Int × Int) (R := (List Int) ⊕ (List Int)) (F_wlvref15_Print_L14 s1) (([] : List Int), 0))
      (some (.inr ([] : List Int)))))
  (F_wlvref15_Print_J2)
def F_wlvref15_Print_sig : Sig := ⟨[.v false [.d .str]], [(false, [.d .str])]⟩
def F_wlvref15_Print_ann : List (Nat × Ann) := [(2, ⟨3, [(3, false, [.d .str])], [], [4, 5, 6, 7, 8, 9, 10, 11, 12, 13, 14, 15, 16, 17, 18, 19, 20, 21, 22, 23, 24, 25, 26, 27, 28, 29, 30, 31, 32, 33, 34, 35, 36, 37, 38, 39, 40, 41, 42, 43, 44, 45, 46, 47, 48], []⟩), (6, ⟨7, [(3, false, [.d .str]), (4, false, [.d (.int .i64)])], [], [10, 11, 12, 13, 14, 15, 16, 17, 18, 19, 20, 21, 22, 23, 24], []⟩), (14, ⟨15, [(3, false, [.d .str]), (5, false, [.d (.int .i64)])], [], [27, 28, 29, 30, 31, 32, 33, 34, 35, 36, 37, 38, 39, 40, 41, 42, 43, 44, 45, 46, 47, 48], []⟩)]
noncomputable def F_wlvref15_Print_env : Env := ⟨Tryd.prog, [(34, ⟨F_wlvref_Dec_sig, ⟨F_wlvref_Dec⟩⟩), (76, ⟨F_wlvref15_hex_sig, ⟨F_wlvref15_hex⟩⟩)], []⟩
set_option maxRecDepth 100000 in
theorem F_wlvref15_Print_text : pvFn F_wlvref15_Print_env F_wlvref15_Print_ann Tryd.f42 F_wlvref15_Print_sig = F_wlvref15_Print := by kernel_rfl
noncomputable def F_wlvref15_PrintNet (s1 : List Int) (i2 : Int) : Option (List Int) :=
  (F_wlvref15_Print s1).bind fun s3 =>
  chk (Nat.ble (s3.length + ([47] : List Int).length) maxLen)
  ((F_wlvref_Dec i2).bind fun s4 =>
    chk (Nat.ble ((s3 ++ ([47] : List Int)).length + s4.length) maxLen)
    (some ((s3 ++ ([47] : List Int)) ++ s4)))
def F_wlvref15_PrintNet_sig : Sig := ⟨[.v true [.d .str, .d (.int .i64)]], [(false, [.d .str])]⟩
def F_wlvref15_PrintNet_ann : List (Nat × Ann) := []
noncomputable def F_wlvref15_PrintNet_env : Env := ⟨Tryd.prog, [(34, ⟨F_wlvref_Dec_sig, ⟨F_wlvref_Dec⟩⟩), (42, ⟨F_wlvref15_Print_sig, ⟨F_wlvref15_Print⟩⟩)], []⟩
set_option maxRecDepth 100000 in
theorem F_wlvref15_PrintNet_text : pvFn F_wlvref15_PrintNet_env F_wlvref15_PrintNet_ann Tryd.f38 F_wlvref15_PrintNet_sig = F_wlvref15_PrintNet := by kernel_rfl
noncomputable def F_wlvlaw15_AddrIn (s1 : List Int) (i2 : Int) (s3 : List Int) : Option (Bool) :=
  (F_wlvlaw15_first).bind fun b4 =>
  cond (!b4)
  (some false)
  (cond ((decide ((s1.length : Int) > 1000)) || (decide ((s3.length : Int) > 1000)))
    ((F_wlvlaw15_first).bind fun b5 =>
      some b5)
    ((F_wlvlaw15_first).bind fun b6 =>
      cond b6
      ((F_addr_In s1 i2 s3).bind fun b7 =>
        (F_wlvref15_In s1 i2 s3).bind fun b8 =>
        cond (bEq b7 b8)
        (cond ((s1.length : Int) != 4)
          (cond ((s1.length : Int) != 16)
            (some true)
            (cond (decide (i2 < 0))
              (some true)
              ((F_addr_PrintNet s1 i2).bind fun s9 =>
                (F_wlvref15_PrintNet s1 i2).bind fun s10 =>
                some (s9 == s10))))
          (cond (decide (i2 < 0))
            (some true)
            ((F_addr_PrintNet s1 i2).bind fun s11 =>
              (F_wlvref15_PrintNet s1 i2).bind fun s12 =>
              some (s11 == s12))))
        (some false))
      (some false)))
def F_wlvlaw15_AddrIn_sig : Sig := ⟨[.v true [.d .str, .d (.int .i64)], .v false [.d .str]], [(false, [.d .bool])]⟩
def F_wlvlaw15_AddrIn_ann : List (Nat × Ann) := []
noncomputable def F_wlvlaw15_AddrIn_env : Env := ⟨Tryd.prog, [(24, ⟨F_wlvlaw15_first_sig, ⟨F_wlvlaw15_first⟩⟩), (28, ⟨F_addr_In_sig, ⟨F_addr_In⟩⟩), (36, ⟨F_wlvref15_In_sig, ⟨F_wlvref15_In⟩⟩), (37, ⟨F_addr_PrintNet_sig, ⟨F_addr_PrintNet⟩⟩), (38, ⟨F_wlvref15_PrintNet_sig, ⟨F_wlvref15_PrintNet⟩⟩)], []⟩
set_option maxRecDepth 100000 in
theorem F_wlvlaw15_AddrIn_text : pvFn F_wlvlaw15_AddrIn_env F_wlvlaw15_AddrIn_ann Tryd.f11 F_wlvlaw15_AddrIn_sig = F_wlvlaw15_AddrIn := by kernel_rfl
noncomputable def F_internal_stringslite_Cut (s1 : List Int) (s2 : List Int) : Option (List Int × List Int × Bool) :=
  (F_internal_stringslite_Index s1 s2).bind fun i3 =>
  cond (decide (i3 ≥ 0))
  ((cutI s1 0 i3).bind fun s4 =>
    (cutI s1 (IntKind.i64.wrap (i3 + (s2.length : Int))) (s1.length : Int)).bind fun s5 =>
    some (s4, s5, true))
  (some (s1, ([] : List Int), false))
def F_internal_stringslite_Cut_sig : Sig := ⟨[.v false [.d .str], .v false [.d .str]], [(false, [.d .str]), (false, [.d .str]), (false, [.d .bool])]⟩
def F_internal_stringslite_Cut_ann : List (Nat × Ann) := []
noncomputable def F_internal_stringslite_Cut_env : Env := ⟨Tryd.prog, [(113, ⟨F_internal_stringslite_Index_sig, ⟨F_internal_stringslite_Index⟩⟩)], []⟩
set_option maxRecDepth 100000 in
theorem F_internal_stringslite_Cut_text : pvFn F_internal_stringslite_Cut_env F_internal_stringslite_Cut_ann Tryd.f81 F_internal_stringslite_Cut_sig = F_internal_stringslite_Cut := by kernel_rfl
noncomputable def F_strings_Cut (s1 : List Int) (s2 : List Int) : Option (List Int × List Int × Bool) :=
  (F_internal_stringslite_Cut s1 s2).bind fun x3 =>
  some (x3.1, x3.2.1, x3.2.2)
def F_strings_Cut_sig : Sig := ⟨[.v false [.d .str], .v false [.d .str]], [(false, [.d .str]), (false, [.d .str]), (false, [.d .bool])]⟩
def F_strings_Cut_ann : List (Nat × Ann) := []
noncomputable def F_strings_Cut_env : Env := ⟨Tryd.prog, [(81, ⟨F_internal_stringslite_Cut_sig, ⟨F_internal_stringslite_Cut⟩⟩)], []⟩
set_option maxRecDepth 100000 in
theorem F_strings_Cut_text : pvFn F_strings_Cut_env F_strings_Cut_ann Tryd.f48 F_strings_Cut_sig = F_strings_Cut := by kernel_rfl
noncomputable def F_addr_ParseNet (s1 : List Int) : Option (List Int × Int × Int) :=
  (F_strings_Cut s1 ([47] : List Int)).bind fun x2 =>
  (F_addr_Parse x2.1).bind fun x3 =>
  cond (x3.2 != 0)
  (some (([] : List Int), 0, x3.2))
  (cond x2.2.2
    ((F_addr_decimal x2.2.1 (IntKind.i64.wrap (8 * (x3.1.length : Int)))).bind fun x4 =>
      cond (!x4.2)
      (some (([] : List Int), 0, 2))
      ((F_addr_kept x3.1 x4.1).bind fun s5 =>
        cond (!(s5 == x3.1))
        (some (([] : List Int), 0, 2))
        (some (x3.1, x4.1, 0))))
    (some (x3.1, (IntKind.i64.wrap (8 * (x3.1.length : Int))), 0)))
def F_addr_ParseNet_sig : Sig := ⟨[.v false [.d .str]], [(true, [.d .str, .d (.int .i64)]), (false, [.d (.int .i64)])]⟩
def F_addr_ParseNet_ann : List (Nat × Ann) := []
noncomputable def F_addr_ParseNet_env : Env := ⟨Tryd.prog, [(26, ⟨F_addr_Parse_sig, ⟨F_addr_Parse⟩⟩), (48, ⟨F_strings_Cut_sig, ⟨F_strings_Cut⟩⟩), (62, ⟨F_addr_kept_sig, ⟨F_addr_kept⟩⟩), (73, ⟨F_addr_decimal_sig, ⟨F_addr_decimal⟩⟩)], []⟩
set_option maxRecDepth 100000 in
theorem F_addr_ParseNet_text : pvFn F_addr_ParseNet_env F_addr_ParseNet_ann Tryd.f39 F_addr_ParseNet_sig = F_addr_ParseNet := by kernel_rfl
noncomputable def F_wlvref15_ParseNet_L15 (x4 : List Int × Int) (s : Int × List Int × Int × List Int × Int) : Option (((List Int × Int × Int) ⊕ (List Int × Int × List Int × Int)) ⊕ (Int × List Int × Int × List Int × Int)) :=
  let i7 := s.1; let s8 := s.2.1; let i9 := s.2.2.1; let s10 := s.2.2.2.1; let i11 := s.2.2.2.2
  cond (decide (i7 < (IntKind.i64.wrap (8 * (x4.1.length : Int)))))
  ((F_wlvref15_bit x4.1 i7).bind fun i12 =>
    cond (i12 != 0)
    (some (.inl (.inl (([] : List Int), 0, 2))))
    (some (.inr ((IntKind.i64.wrap (i7 + 1)), s8, i9, s10, i11))))
  (some (.inl (.inr (s8, i9, s10, i11))))
noncomputable def F_wlvref15_ParseNet_J13 (s : List Int × Int × List Int × Int) : Option (List Int × Int × Int) :=
  let s13 := s.1; let i14 := s.2.1; let s15 := s.2.2.1; let i16 := s.2.2.2
  some (s15, i16, 0)
noncomputable def F_wlvref15_ParseNet (s1 : List Int) : Option (List Int × Int × Int) :=
  (F_wlvref_Split s1 47).bind fun l2 =>
  (getI l2 0).bind fun s3 =>
  (F_wlvref15_Parse s3).bind fun x4 =>
  cond ((x4.2 != 0) || (decide ((l2.length : Int) > 2)))
  (some (([] : List Int), 0, 2))
  (cond ((l2.length : Int) == 2)
    ((getI l2 1).bind fun s5 =>
      (F_wlvref_Num s5 0 (IntKind.i64.wrap (8 * (x4.1.length : Int)))).bind fun x6 =>
      cond (!x6.2)
      (some (([] : List Int), 0, 2))
      (joinC (S := List Int × Int × List Int × Int) (R := List Int × Int × Int)
        (loopC (S := Int × List Int × Int × List Int × Int) (R := (List Int × Int × Int) ⊕ (List Int × Int × List Int × Int)) (F_wlvref15_ParseNet_L15 x4) (x6.1, ([] : List Int), 0, x4.1, x6.1))
        (F_wlvref15_ParseNet_J13)))
    (joinC (S := List Int × Int × List Int × Int) (R := List Int × Int × Int)
      (loopC (S := Int × List Int × Int × List Int × Int) (R := (List Int × Int × Int) ⊕ (List Int × Int × List Int × Int)) (F_wlvref15_ParseNet_L15 x4) ((IntKind.i64.wrap (8 * (x4.1.length : Int))), ([] : List Int), 0, x4.1, (IntKind.i64.wrap (8 * (x4.1.length : Int)))))
      (F_wlvref15_ParseNet_J13)))
def F_wlvref15_ParseNet_sig : Sig := ⟨[.v false [.d .str]], [(true, [.d .str, .d (.int .i64)]), (false, [.d (.int .i64)])]⟩
def F_wlvref15_ParseNet_ann : List (Nat × Ann) := [(13, ⟨14, [], [(2, [.d .str, .d (.int .i64)]), (7, [.d .str, .d (.int .i64)])], [3, 10, 51, 52, 53, 54, 55, 56, 57, 58, 59, 60, 61, 62, 63, 64], []⟩), (15, ⟨16, [(10, false, [.d (.int .i64)])], [(2, [.d .str, .d (.int .i64)]), (7, [.d .str, .d (.int .i64)])], [3, 53, 54, 55, 56, 57, 58, 59, 60, 61, 62, 63, 64], []⟩)]
noncomputable def F_wlvref15_ParseNet_env : Env := ⟨Tryd.prog, [(35, ⟨F_wlvref15_Parse_sig, ⟨F_wlvref15_Parse⟩⟩), (67, ⟨F_wlvref_Num_sig, ⟨F_wlvref_Num⟩⟩), (70, ⟨F_wlvref_Split_sig, ⟨F_wlvref_Split⟩⟩), (72, ⟨F_wlvref15_bit_sig, ⟨F_wlvref15_bit⟩⟩)], []⟩
set_option maxRecDepth 100000 in
theorem F_wlvref15_ParseNet_text : pvFn F_wlvref15_ParseNet_env F_wlvref15_ParseNet_ann Tryd.f40 F_wlvref15_ParseNet_sig = F_wlvref15_ParseNet := by kernel_rfl
noncomputable def F_wlvlaw15_AddrReads (s1 : List Int) (s2 : List Int) : Option (Bool) :=
  (F_wlvlaw15_first).bind fun b3 =>
  cond (!b3)
  (some false)
  (cond ((decide ((s1.length : Int) > 1000)) || (decide ((s2.length : Int) > 1000)))
    ((F_wlvlaw15_first).bind fun b4 =>
      some b4)
    ((F_addr_Parse s1).bind fun x5 =>
      (F_wlvref15_Parse s1).bind fun x6 =>
      (F_addr_ParseNet s1).bind fun x7 =>
      (F_wlvref15_ParseNet s1).bind fun x8 =>
      (F_wlvlaw15_first).bind fun b9 =>
      cond ((b9 && (x5.1 == x6.1)) && (x5.2 == x6.2))
      (cond (((eqL x7.1 x8.1) && ((eqI x7.2.1 x8.2.1) && true)) && (x7.2.2 == x8.2.2))
        ((F_addr_Print s2).bind fun s10 =>
          (F_wlvref15_Print s2).bind fun s11 =>
          some (s10 == s11))
        (some false))
      (some false)))
def F_wlvlaw15_AddrReads_sig : Sig := ⟨[.v false [.d .str], .v false [.d .str]], [(false, [.d .bool])]⟩
def F_wlvlaw15_AddrReads_ann : List (Nat × Ann) := []
noncomputable def F_wlvlaw15_AddrReads_env : Env := ⟨Tryd.prog, [(24, ⟨F_wlvlaw15_first_sig, ⟨F_wlvlaw15_first⟩⟩), (26, ⟨F_addr_Parse_sig, ⟨F_addr_Parse⟩⟩), (35, ⟨F_wlvref15_Parse_sig, ⟨F_wlvref15_Parse⟩⟩), (39, ⟨F_addr_ParseNet_sig, ⟨F_addr_ParseNet⟩⟩), (40, ⟨F_wlvref15_ParseNet_sig, ⟨F_wlvref15_ParseNet⟩⟩), (41, ⟨F_addr_Print_sig, ⟨F_addr_Print⟩⟩), (42, ⟨F_wlvref15_Print_sig, ⟨F_wlvref15_Print⟩⟩)], []⟩
set_option maxRecDepth 100000 in
theorem F_wlvlaw15_AddrReads_text : pvFn F_wlvlaw15_AddrReads_env F_wlvlaw15_AddrReads_ann Tryd.f12 F_wlvlaw15_AddrReads_sig = F_wlvlaw15_AddrReads := by kernel_rfl
noncomputable def F_wlvlaw15_turned (s1 : List Int) (i2 : Int) : Option (List Int) :=
  chk (decide (0 ≤ (IntKind.i64.wrap (Int.tdiv i2 8))) && decide ((IntKind.i64.wrap (Int.tdiv i2 8)) < (s1.length : Int)))
  ((getI s1 (IntKind.i64.wrap (Int.tdiv i2 8))).bind fun i3 =>
    chk (decide (0 ≤ (IntKind.u64.wrap (Int.tmod i2 8))))
    (chk (decide (0 ≤ (IntKind.i64.wrap (Int.tdiv i2 8))) && decide ((IntKind.i64.wrap (Int.tdiv i2 8)) < (s1.length : Int)))
      (chk (decide ((IntKind.i64.wrap (Int.tdiv i2 8)) < (s1.length : Int)))
        (chk (Nat.ble s1.length (List.length (s1.set ((IntKind.i64.wrap (Int.tdiv i2 8))).toNat (bits .xor .u8 i3 (Int.fdiv 128 (2 ^ (min ((IntKind.u64.wrap (Int.tmod i2 8))).toNat 8)))))))
          (some (List.take s1.length (s1.set ((IntKind.i64.wrap (Int.tdiv i2 8))).toNat (bits .xor .u8 i3 (Int.fdiv 128 (2 ^ (min ((IntKind.u64.wrap (Int.tmod i2 8))).toNat 8)))))))))))
def F_wlvlaw15_turned_sig : Sig := ⟨[.v false [.d .str], .v false [.d (.int .i64)]], [(false, [.d .str])]⟩
def F_wlvlaw15_turned_ann : List (Nat × Ann) := []
noncomputable def F_wlvlaw15_turned_env : Env := ⟨Tryd.prog, [], [7]⟩
set_option maxRecDepth 100000 in
theorem F_wlvlaw15_turned_text : pvFn F_wlvlaw15_turned_env F_wlvlaw15_turned_ann Tryd.f43 F_wlvlaw15_turned_sig = F_wlvlaw15_turned := by kernel_rfl
noncomputable def F_wlvlaw15_AddrBack_L14 (s1 : List Int) (s : Int × List Int) : Option (((Bool) ⊕ (List Int)) ⊕ (Int × List Int)) :=
  let i11 := s.1; let l12 := s.2
  cond (decide (i11 < (IntKind.i64.wrap (8 * (s1.length : Int)))))
  (chk (decide (0 ≤ (IntKind.i64.wrap (Int.tdiv i11 8))) && decide ((IntKind.i64.wrap (Int.tdiv i11 8)) < (s1.length : Int)))
    ((getI l12 (IntKind.i64.wrap (Int.tdiv i11 8))).bind fun i13 =>
      chk (decide (0 ≤ (IntKind.u64.wrap (Int.tmod i11 8))))
      (chk (decide (0 ≤ (IntKind.i64.wrap (Int.tdiv i11 8))) && decide ((IntKind.i64.wrap (Int.tdiv i11 8)) < (s1.length : Int)))
        (chk (decide ((IntKind.i64.wrap (Int.tdiv i11 8)) < (l12.length : Int)))
          (some (.inr ((IntKind.i64.wrap (i11 + 1)), (l12.set ((IntKind.i64.wrap (Int.tdiv i11 8))).toNat (bits .andNot .u8 i13 (Int.fdiv 128 (2 ^ (min ((IntKind.u64.wrap (Int.tmod i11 8))).toNat 8))))))))))))
  (some (.inl (.inr l12)))
noncomputable def F_wlvlaw15_AddrBack_L28 (s1 : List Int) (i2 : Int) (s : Int × List Int × Int) : Option (((Bool) ⊕ (List Int × Int)) ⊕ (Int × List Int × Int)) :=
  let i20 := s.1; let s21 := s.2.1; let i22 := s.2.2
  cond (decide (i20 ≤ i2))
  ((F_addr_In s21 i20 s1).bind fun b23 =>
    cond (!b23)
    (some (.inl (.inl false)))
    (some (.inr ((IntKind.i64.wrap (i20 + 1)), s21, i22))))
  (some (.inl (.inr (s21, i22))))
noncomputable def F_wlvlaw15_AddrBack_J26 (s1 : List Int) (i2 : Int) (s : List Int × Int) : Option (Bool) :=
  let s24 := s.1; let i25 := s.2
  (F_wlvlaw15_first).bind fun b26 =>
  cond b26
  (chk (Nat.ble (s1.length + ([120] : List Int).length) maxLen)
    ((F_addr_In s24 i25 (s1 ++ ([120] : List Int))).bind fun b27 =>
      cond (!b27)
      (cond (i2 == 0)
        (some true)
        ((F_wlvlaw15_turned s1 (IntKind.i64.wrap (i2 - 1))).bind fun s28 =>
          (F_addr_In s24 i25 s28).bind fun b29 =>
          some (!b29)))
      (some false)))
  (cond false
    (cond (i2 == 0)
      (some true)
      ((F_wlvlaw15_turned s1 (IntKind.i64.wrap (i2 - 1))).bind fun s30 =>
        (F_addr_In s24 i25 s30).bind fun b31 =>
        some (!b31)))
    (some false))
noncomputable def F_wlvlaw15_AddrBack_J12 (s1 : List Int) (i2 : Int) (s : List Int) : Option (Bool) :=
  let l14 := s
  chk (Nat.ble s1.length (List.length l14))
  ((F_wlvref15_Mapped (List.take s1.length l14)).bind fun b15 =>
    cond b15
    ((F_wlvlaw15_first).bind fun b16 =>
      some b16)
    ((F_addr_PrintNet (List.take s1.length l14) i2).bind fun s17 =>
      (F_addr_ParseNet s17).bind fun x18 =>
      cond (x18.2.2 != 0)
      (some false)
      (cond (!((eqL x18.1 (List.take s1.length l14)) && ((eqI x18.2.1 i2) && true)))
        (some false)
        ((F_addr_In (List.take s1.length l14) i2 s1).bind fun b19 =>
          cond (!b19)
          (some false)
          (joinC (S := List Int × Int) (R := Bool)
            (loopC (S := Int × List Int × Int) (R := (Bool) ⊕ (List Int × Int)) (F_wlvlaw15_AddrBack_L28 s1 i2) (0, (List.take s1.length l14), i2))
            (F_wlvlaw15_AddrBack_J26 s1 i2))))))
noncomputable def F_wlvlaw15_AddrBack (s1 : List Int) (i2 : Int) : Option (Bool) :=
  (F_wlvlaw15_first).bind fun b3 =>
  cond (!b3)
  (some false)
  (cond (((s1.length : Int) != 4) && ((s1.length : Int) != 16))
    ((F_wlvlaw15_first).bind fun b4 =>
      cond b4
      (cond (((s1.length : Int) == 4) || ((s1.length : Int) == 16))
        (some true)
        ((F_addr_Print s1).bind fun s5 =>
          some (s5 == ([] : List Int))))
      (some false))
    ((F_wlvref15_Mapped s1).bind fun b6 =>
      cond ((b6 || (decide (i2 < 0))) || (decide (i2 > (IntKind.i64.wrap (8 * (s1.length : Int))))))
      ((F_wlvlaw15_first).bind fun b7 =>
        cond b7
        (cond (((s1.length : Int) == 4) || ((s1.length : Int) == 16))
          (some true)
          ((F_addr_Print s1).bind fun s8 =>
            some (s8 == ([] : List Int))))
        (some false))
      ((F_addr_Print s1).bind fun s9 =>
        (F_addr_Parse s9).bind fun x10 =>
        cond ((x10.2 != 0) || (!(x10.1 == s1)))
        (some false)
        (joinC (S := List Int) (R := Bool)
          (loopC (S := Int × List Int) (R := (Bool) ⊕ (List Int)) (F_wlvlaw15_AddrBack_L14 s1) (i2, s1))
          (F_wlvlaw15_AddrBack_J12 s1 i2)))))
def F_wlvlaw15_AddrBack_sig : Sig := ⟨[.v false [.d .str], .v false [.d (.int .i64)]], [(false, [.d .bool])]⟩
def F_wlvlaw15_AddrBack_ann : List (Nat × Ann) := [(12, ⟨13, [], [(68, [.row (.int .u8)])], [8, 69, 70, 71, 72, 73, 74, 75, 76, 77, 78, 79, 80, 81, 82, 83, 84, 85, 86, 87], []⟩), (14, ⟨15, [(8, false, [.d (.int .i64)])], [(68, [.row (.int .u8)])], [70, 71, 72, 73, 74, 75, 76, 77, 78, 79, 80, 81, 82, 83, 84, 85, 86, 87], []⟩), (26, ⟨27, [], [(9, [.d .str, .d (.int .i64)])], [4, 12, 115, 116, 117, 118, 119, 120, 121, 122, 123, 124, 125, 126], []⟩), (28, ⟨29, [(12, false, [.d (.int .i64)])], [(9, [.d .str, .d (.int .i64)])], [4, 115, 116, 117, 118, 119, 120, 121, 122, 123, 124, 125, 126], []⟩)]
noncomputable def F_wlvlaw15_AddrBack_env : Env := ⟨Tryd.prog, [(24, ⟨F_wlvlaw15_first_sig, ⟨F_wlvlaw15_first⟩⟩), (26, ⟨F_addr_Parse_sig, ⟨F_addr_Parse⟩⟩), (27, ⟨F_wlvref15_Mapped_sig, ⟨F_wlvref15_Mapped⟩⟩), (28, ⟨F_addr_In_sig, ⟨F_addr_In⟩⟩), (37, ⟨F_addr_PrintNet_sig, ⟨F_addr_PrintNet⟩⟩), (39, ⟨F_addr_ParseNet_sig, ⟨F_addr_ParseNet⟩⟩), (41, ⟨F_addr_Print_sig, ⟨F_addr_Print⟩⟩), (43, ⟨F_wlvlaw15_turned_sig, ⟨F_wlvlaw15_turned⟩⟩)], [68]⟩
set_option maxRecDepth 100000 in
theorem F_wlvlaw15_AddrBack_text : pvFn F_wlvlaw15_AddrBack_env F_wlvlaw15_AddrBack_ann Tryd.f13 F_wlvlaw15_AddrBack_sig = F_wlvlaw15_AddrBack := by kernel_rfl
noncomputable def F_host_Print (s1 : List Int) (s2 : List Int) (i3 : Int) : Option (List Int) :=
  (F_addr_Print s2).bind fun s4 =>
  cond (s4 == ([] : List Int))
  (chk (Nat.ble (s1.length + ([58] : List Int).length) maxLen)
    ((F_strconv_Itoa i3).bind fun s5 =>
      chk (Nat.ble ((s1 ++ ([58] : List Int)).length + s5.length) maxLen)
      (some ((s1 ++ ([58] : List Int)) ++ s5))))
  (cond (decide ((s2.length : Int) > 4))
    (chk (Nat.ble (([91] : List Int).length + s4.length) maxLen)
      (chk (Nat.ble ((([91] : List Int) ++ s4).length + ([93] : List Int).length) maxLen)
        (chk (Nat.ble (((([91] : List Int) ++ s4) ++ ([93] : List Int)).length + ([58] : List Int).length) maxLen)
          ((F_strconv_Itoa i3).bind fun s6 =>
            chk (Nat.ble ((((([91] : List Int) ++ s4) ++ ([93] : List Int)) ++ ([58] : List Int)).length + s6.length) maxLen)
            (some ((((([91] : List Int) ++ s4) ++ ([93] : List Int)) ++ ([58] : List Int)) ++ s6))))))
    (chk (Nat.ble (s4.length + ([58] : List Int).length) maxLen)
      ((F_strconv_Itoa i3).bind fun s7 =>
        chk (Nat.ble ((s4 ++ ([58] : List Int)).length + s7.length) maxLen)
        (some ((s4 ++ ([58] : List Int)) ++ s7)))))
def F_host_Print_sig : Sig := ⟨[.v true [.d .str, .d .str], .v false [.d (.int .i64)]], [(false, [.d .str])]⟩
def F_host_Print_ann : List (Nat × Ann) := []
noncomputable def F_host_Print_env : Env := ⟨Tryd.prog, [(41, ⟨F_addr_Print_sig, ⟨F_addr_Print⟩⟩), (66, ⟨F_strconv_Itoa_sig, ⟨F_strconv_Itoa⟩⟩)], []⟩
set_option maxRecDepth 100000 in
theorem F_host_Print_text : pvFn F_host_Print_env F_host_Print_ann Tryd.f44 F_host_Print_sig = F_host_Print := by kernel_rfl
noncomputable def F_wlvref15_PrintHost (s1 : List Int) (s2 : List Int) (i3 : Int) : Option (List Int) :=
  cond ((s2.length : Int) == 4)
  ((F_wlvref15_Print s2).bind fun s4 =>
    cond ((s2.length : Int) == 16)
    ((F_wlvref15_Print s2).bind fun s5 =>
      chk (Nat.ble (([91] : List Int).length + s5.length) maxLen)
      (chk (Nat.ble ((([91] : List Int) ++ s5).length + ([93] : List Int).length) maxLen)
        (chk (Nat.ble (((([91] : List Int) ++ s5) ++ ([93] : List Int)).length + ([58] : List Int).length) maxLen)
          ((F_wlvref_Dec i3).bind fun s6 =>
            chk (Nat.ble ((((([91] : List Int) ++ s5) ++ ([93] : List Int)) ++ ([58] : List Int)).length + s6.length) maxLen)
            (some ((((([91] : List Int) ++ s5) ++ ([93] : List Int)) ++ ([58] : List Int)) ++ s6))))))
    (chk (Nat.ble (s4.length + ([58] : List Int).length) maxLen)
      ((F_wlvref_Dec i3).bind fun s7 =>
        chk (Nat.ble ((s4 ++ ([58] : List Int)).length + s7.length) maxLen)
        (some ((s4 ++ ([58] : List Int)) ++ s7)))))
  (cond ((s2.length : Int) == 16)
    ((F_wlvref15_Print s2).bind fun s8 =>
      chk (Nat.ble (([91] : List Int).length + s8.length) maxLen)
      (chk (Nat.ble ((([91] : List Int) ++ s8).length + ([93] : List Int).length) maxLen)
        (chk (Nat.ble (((([91] : List Int) ++ s8) ++ ([93] : List Int)).length + ([58] : List Int).length) maxLen)
          ((F_wlvref_Dec i3).bind fun s9 =>
            chk (Nat.ble ((((([91] : List Int) ++ s8) ++ ([93] : List Int)) ++ ([58] : List Int)).length + s9.length) maxLen)
            (some ((((([91] : List Int) ++ s8) ++ ([93] : List Int)) ++ ([58] : List Int)) ++ s9))))))
    (chk (Nat.ble (s1.length + ([58] : List Int).length) maxLen)
      ((F_wlvref_Dec i3).bind fun s10 =>
        chk (Nat.ble ((s1 ++ ([58] : List Int)).length + s10.length) maxLen)
        (some ((s1 ++ ([58] : List Int)) ++ s10)))))
def F_wlvref15_PrintHost_sig : Sig := ⟨[.v true [.d .str, .d .str], .v false [.d (.int .i64)]], [(false, [.d .str])]⟩
def F_wlvref15_PrintHost_ann : List (Nat × Ann) := []
noncomputable def F_wlvref15_PrintHost_env : Env := ⟨Tryd.prog, [(34, ⟨F_wlvref_Dec_sig, ⟨F_wlvref_Dec⟩⟩), (42, ⟨F_wlvref15_Print_sig, ⟨F_wlvref15_Print⟩⟩)], []⟩
set_option maxRecDepth 100000 in
theorem F_wlvref15_PrintHost_text : pvFn F_wlvref15_PrintHost_env F_wlvref15_PrintHost_ann Tryd.f45 F_wlvref15_PrintHost_sig = F_wlvref15_PrintHost := by kernel_rfl
noncomputable def F_wlvlaw16_HostBack_L17 (s : Int × List Int × List Int) : Option (((Bool) ⊕ (List Int × List Int)) ⊕ (Int × List Int × List Int)) :=
  let i8 := s.1; let s9 := s.2.1; let s10 := s.2.2
  cond (decide (i8 < (s9.length : Int)))
  ((getI s9 i8).bind fun i11 =>
    cond (decide (i11 ≥ 65))
    ((getI s9 i8).bind fun i12 =>
      cond (decide (i12 ≤ 90))
      (some (.inl (.inl false)))
      ((getI s9 i8).bind fun i13 =>
        cond (i13 == 58)
        (some (.inl (.inl false)))
        ((getI s9 i8).bind fun i14 =>
          cond (i14 == 64)
          (some (.inl (.inl false)))
          (some (.inr ((IntKind.i64.wrap (i8 + 1)), s9, s10))))))
    ((getI s9 i8).bind fun i15 =>
      cond (i15 == 58)
      (some (.inl (.inl false)))
      ((getI s9 i8).bind fun i16 =>
        cond (i16 == 64)
        (some (.inl (.inl false)))
        (some (.inr ((IntKind.i64.wrap (i8 + 1)), s9, s10))))))
  (some (.inl (.inr (s9, s10))))
noncomputable def F_wlvlaw16_HostBack_J15 (x4 : List Int × List Int × Int × Int) (s : List Int × List Int) : Option (Bool) :=
  let s17 := s.1; let s18 := s.2
  (F_wlvlaw16_first).bind fun b19 =>
  cond b19
  (cond ((s18.length : Int) == 0)
    ((F_host_Print s17 s18 x4.2.2.1).bind fun s20 =>
      (F_wlvref15_PrintHost s17 s18 x4.2.2.1).bind fun s21 =>
      some (s20 == s21))
    (cond ((s18.length : Int) == 4)
      ((F_host_Print s17 s18 x4.2.2.1).bind fun s22 =>
        (F_wlvref15_PrintHost s17 s18 x4.2.2.1).bind fun s23 =>
        some (s22 == s23))
      (cond ((s18.length : Int) == 16)
        ((F_host_Print s17 s18 x4.2.2.1).bind fun s24 =>
          (F_wlvref15_PrintHost s17 s18 x4.2.2.1).bind fun s25 =>
          some (s24 == s25))
        (some false))))
  (some false)
noncomputable def F_wlvlaw16_HostBack (s1 : List Int) : Option (Bool) :=
  (F_wlvlaw16_first).bind fun b2 =>
  cond (!b2)
  (some false)
  (cond (decide ((s1.length : Int) > 1000))
    ((F_wlvlaw16_first).bind fun b3 =>
      some b3)
    ((F_host_Authority s1).bind fun x4 =>
      cond (x4.2.2.2 != 0)
      ((F_wlvlaw16_first).bind fun b5 =>
        cond b5
        (some (((eqL x4.1 ([] : List Int)) && ((eqL x4.2.1 ([] : List Int)) && true)) && (x4.2.2.1 == 0)))
        (some false))
      ((F_host_Print x4.1 x4.2.1 x4.2.2.1).bind fun s6 =>
        (F_host_Authority s6).bind fun x7 =>
        cond (x7.2.2.2 != 0)
        (some false)
        (cond ((((!((eqL x7.1 x4.1) && ((eqL x7.2.1 x4.2.1) && true))) || (x7.2.2.1 != x4.2.2.1)) || (decide (x4.2.2.1 < 1))) || (decide (x4.2.2.1 > 65535)))
          (some false)
          (cond (bEq (x4.1 == ([] : List Int)) (x4.2.1 == ([] : List Int)))
            (some false)
            (joinC (S := List Int × List Int) (R := Bool)
              (loopC (S := Int × List Int × List Int) (R := (Bool) ⊕ (List Int × List Int)) (F_wlvlaw16_HostBack_L17) (0, x4.1, x4.2.1))
              (F_wlvlaw16_HostBack_J15 x4)))))))
def F_wlvlaw16_HostBack_sig : Sig := ⟨[.v false [.d .str]], [(false, [.d .bool])]⟩
def F_wlvlaw16_HostBack_ann : List (Nat × Ann) := [(15, ⟨16, [], [(3, [.d .str, .d .str])], [2, 9, 71, 72, 73, 74, 75, 76, 77, 78, 79, 80, 81, 82, 83, 84, 85, 86, 87, 88, 89, 90, 91, 92, 93, 94, 95, 96, 97, 98, 99, 100, 101, 102, 103], []⟩), (17, ⟨18, [(9, false, [.d (.int .i64)])], [(3, [.d .str, .d .str])], [2, 71, 72, 73, 74, 75, 76, 77, 78, 79, 80, 81, 82, 83, 84, 85, 86, 87, 88, 89, 90, 91, 92, 93, 94, 95, 96, 97, 98, 99, 100, 101, 102, 103], []⟩)]
noncomputable def F_wlvlaw16_HostBack_env : Env := ⟨Tryd.prog, [(29, ⟨F_wlvlaw16_first_sig, ⟨F_wlvlaw16_first⟩⟩), (30, ⟨F_host_Authority_sig, ⟨F_host_Authority⟩⟩), (44, ⟨F_host_Print_sig, ⟨F_host_Print⟩⟩), (45, ⟨F_wlvref15_PrintHost_sig, ⟨F_wlvref15_PrintHost⟩⟩)], []⟩
set_option maxRecDepth 100000 in
theorem F_wlvlaw16_HostBack_text : pvFn F_wlvlaw16_HostBack_env F_wlvlaw16_HostBack_ann Tryd.f14 F_wlvlaw16_HostBack_sig = F_wlvlaw16_HostBack := by kernel_rfl
end Go.Proofs.YtblngdnndkljoaaDoor

/- strconv.FormatInt at base sixteen, for numbers of two bytes: by hand, over the library's own text. -/
namespace Go.Proofs.YtblngdnndkljoaaDoor
open Go.RowKit Go.Shelf Pv
set_option linter.unusedVariables false
def dbTab : List Int := [0, 1, 56, 2, 57, 49, 28, 3, 61, 58, 42, 50, 38, 29, 17, 4, 62, 47, 59, 36, 45, 43, 51, 22, 53, 39, 33, 30, 24, 18, 12, 5, 63, 55, 48, 27, 60, 41, 37, 16, 46, 35, 44, 21, 52, 32, 23, 11, 54, 26, 40, 15, 34, 20, 31, 10, 25, 14, 19, 9, 13, 8, 7, 6]
def tab_db : Nat × Array Value := tabOf 10 .u8 dbTab
theorem db_at : tab_db.2[15]? = some (Value.int .u8 4) := by kernel_rfl
def dgA : ByteArray := ⟨#[48, 49, 50, 51, 52, 53, 54, 55, 56, 57, 97, 98, 99, 100, 101, 102, 103, 104, 105, 106, 107, 108, 109, 110, 111, 112, 113, 114, 115, 116, 117, 118, 119, 120, 121, 122]⟩
theorem dgA_at {q : Nat} (h : q < 16) : ((dgA[q]'(show q < 36 by omega)).toNat : Int) = hexd q := by
  have key : (List.range 16).all (fun q => decide ((((dgA.data.toList.getD q 0).toNat : Nat) : Int) = hexd q)) = true := by kernel_rfl
  have := of_decide_eq_true (List.all_eq_true.1 key q (List.mem_range.2 h))
  rw [← this, List.getD_eq_getElem?_getD, List.getElem?_eq_getElem (show q < dgA.data.toList.length from (show q < 36 by omega))]
  rfl
theorem and15 {n : Nat} (h : n < 65536) : bits .and .u64 (n : Int) 15 = ((n % 16 : Nat) : Int) := by
  have := bits_mask .u64 16 (by decide) (fun m h0 h1 => by
    show m % 18446744073709551616 = m
    have e : (2 : Int) ^ 16 = 65536 := rfl
    omega) 4 (by decide) (n : Int) (by omega) (by have e : (2 : Int) ^ 16 = 65536 := rfl
                                                  omega)
  have e : (2 : Int) ^ 4 - 1 = 15 := rfl
  rw [e] at this
  rw [this]
  have e : (2 : Int) ^ 4 = 16 := rfl
  rw [e]; omega
theorem wf_b {x : Int} (h0 : 0 ≤ x) (h1 : x < 256) : (Lit.int .u8 x).wf = true := by
  simp [Lit.wf, IntKind.min, IntKind.max, IntKind.signed, IntKind.bits]
  omega
def digC (D : List Int) : Array Value := (List.replicate (65 - D.length) (Value.int .u8 0) ++ bv D).toArray
set_option maxHeartbeats 4000000 in
set_option maxRecDepth 1000000 in
theorem tz_walk (w : World) (hdb : w.cell? ⟨10, 15, none⟩ = some (.int .u8 4)) : Calls Tryd.prog 166 #[.int .u64 16] w fun e w' => e = .returned (.int .i64 4) ∧ w' = w := by
  have h1 : bits BinOp.and IntKind.u64 16 (IntKind.u64.wrap (-16)) = 16 := by kernel_rfl
  have h2 : IntKind.u64.wrap 4573923408821661840 = 4573923408821661840 := by kernel_rfl
  go_enter Tryd.func166, Tryd.ntmps166
  go_wp2
  go_ret
  exact ⟨rfl, rfl⟩
set_option maxHeartbeats 4000000 in
set_option maxRecDepth 1000000 in
theorem p2_walk (w : World) : Calls Tryd.prog 165 #[.int .i64 16] w fun e w' => e = .returned (.bool true) ∧ w' = w := by
  have h1 : bits BinOp.and IntKind.i64 16 15 = 0 := by kernel_rfl
  go_enter Tryd.func165, Tryd.ntmps165
  go_wp2
  go_ret
  exact ⟨rfl, rfl⟩
theorem digC_set {D : List Int} {d : Int} {W : World} {A : Nat} {T : TypeId} (h : W.heap[A]? = some (.cells (digC D) T (0, 0))) (hD : D.length ≤ 64) :
    (W.setCell ⟨A, 65 - D.length - 1, none⟩ (.int .u8 d)).heap[A]? = some (.cells (digC (d :: D)) T (0, 0)) := by
  rw [setCell_heap, if_pos rfl, h]
  show some (Obj.cells ((digC D).setIfInBounds (65 - D.length - 1) (.int .u8 d)) T (0, 0)) = _
  congr 2
  unfold digC
  rw [List.length_cons]
  obtain ⟨m, hm⟩ : ∃ m, 65 - D.length = m + 1 := ⟨64 - D.length, by omega⟩
  rw [hm, show m + 1 - 1 = m by omega, show 65 - (D.length + 1) = m by omega]
  apply Array.ext'
  rw [Array.toList_setIfInBounds]
  show (List.replicate (m + 1) (Value.int .u8 0) ++ bv D).set m (Value.int .u8 d) = List.replicate m (Value.int .u8 0) ++ bv (d :: D)
  rw [List.replicate_succ', List.append_assoc, List.set_append_right _ _ (by simp), List.length_replicate, Nat.sub_self]
  rfl
theorem digC_size (D : List Int) (h : D.length ≤ 65) : (digC D).size = 65 := by
  unfold digC
  simp [bv_len]; omega
theorem digC_at {D : List Int} {j : Nat} {x : Int} (hD : D.length ≤ 65) (h : D[j]? = some x) : (digC D)[65 - D.length + j]? = some (.int .u8 x) := by
  unfold digC
  rw [List.getElem?_toArray, List.getElem?_append_right (by simp), List.length_replicate, Nat.add_sub_cancel_left]
  unfold bv
  rw [List.getElem?_map, h]; rfl
theorem zero180 : Tryd.zeroCells180 = digC [] := by kernel_rfl
set_option maxHeartbeats 4000000 in
set_option maxRecDepth 1000000 in
theorem bits_walk (U : Nat) (hU : U < 65536) (w : World) (hdb : w.cell? ⟨10, 15, none⟩ = some (.int .u8 4)) :
    Calls Tryd.prog 141 #[.slice none 0 0, .int .u64 U, .int .i64 16, .bool false, .bool false] w fun e w' => ∃ s : ByteArray, e = .returned (.tuple #[.slice none 0 0, .string s]) ∧ bytesL s = hexI U ∧ s.size ≤ maxLen ∧ Below w.heap.size w w' := by
  have hg : 10 < w.heap.size := cell_lt hdb
  have hdb' : ∀ o, (w.alloc o).cell? ⟨10, 15, none⟩ = some (.int .u8 4) := fun o => by
    rw [World.cell?_alloc_lt _ _ _ hg]; exact hdb
  have h1 : bits BinOp.and IntKind.i64 16 15 = 0 := by kernel_rfl
  go_enter Tryd.func141, Tryd.ntmps141
  go_wp2_with (first | (go_at_call 166; refine (tz_walk _ (hdb' _)).mono ?_; rintro e w' ⟨rfl, rfl⟩) | (go_at_call 165; refine (p2_walk _).mono ?_; rintro e w' ⟨rfl, rfl⟩))
  go_loopw [1, 13] (fun u i wr => ∃ (D : List Int) (uk j : Nat), u = .int .u64 uk ∧ i = .int .i64 ((j : Int) + 1) ∧ j + 1 = 65 - D.length ∧ D.length ≤ 3 ∧ uk < 16 ^ (4 - D.length) ∧ uk < 65536 ∧ hexI U = hexI uk ++ D ∧ wr.heap[w.heap.size]? = some (.cells (digC D) 180 (0, 0)) ∧ Below w.heap.size w wr) (fun u _ _ => (intOf u).toNat)
  case atStart =>
    refine ⟨[], U, 64, rfl, rfl, rfl, by simp, hU, hU, by simp, ?_, (Below.refl _ w).alloc (Nat.le_refl _) _⟩
    rw [← zero180]
    exact heap_alloc_new w _
  case round =>
    obtain ⟨D, uk, j, rfl, rfl, hj, hD, hu, hu6, hhex, hcell, hb⟩ := hrel
    have hsz : (digC D).size = 65 := digC_size D (by omega)
    have hc0 : wr.cell? ⟨w.heap.size, j, none⟩ = some (.int .u8 0) := by
      rw [cell_at hcell]
      unfold digC
      rw [List.getElem?_toArray, List.getElem?_append_left (by simp; omega), List.getElem?_replicate, if_pos (by omega)]
    have hfz : wr.frozen? ⟨w.heap.size, j, none⟩ = false := frozen_at hcell (.inr (Nat.zero_le _))
    have hj0 : (0 : Int) ≤ (j : Int) := by omega
    have hj1 : (j : Int) ≤ 65 := by omega
    have hj2 : (j : Int) < 65 := by omega
    have hj3 : ¬ (65 : Int) < (j : Int) := by omega
    by_cases hge : uk < 16
    · have hnge : ¬ (16 : Int) ≤ (uk : Int) := by omega
      go_wp2
      have hfull : hexI U = hexd uk :: D := by rw [hhex, hexI_one hge]; rfl
      have hcell2 := digC_set (d := hexd uk) hcell (by omega)
      rw [show 65 - D.length - 1 = j by omega] at hcell2
      have hrep : RepD (wr.setCell ⟨w.heap.size, j, none⟩ (.int .u8 (hexd uk))) (fun _ _ => True) (.sl (.int .u8)) (hexd uk :: D) [.slice (some ⟨w.heap.size, j, none⟩) (65 - j) (65 - j)] := by
        refine ⟨_, _, _, rfl, (by show List.length (α := Int) (hexd uk :: D) = _; rw [List.length_cons]; omega), Nat.le_refl _, by unfold maxLen; omega, fun i x hx => ⟨⟨w.heap.size, j, none⟩, [.int .u8 x], rfl, rfl, fun k u hk => ?_, rfl, ?_⟩⟩
        · obtain ⟨hk0, rfl⟩ : k = 0 ∧ u = .int .u8 x := by
            match k, hk with
            | 0, hk => simp at hk; exact ⟨rfl, hk.symm⟩
          subst hk0
          refine ⟨?_, trivial⟩
          rw [add_at, show (Ty.int .u8).size = 1 from rfl, Nat.mul_one, Nat.add_zero, cell_at hcell2]
          have := digC_at (D := hexd uk :: D) (j := i) (by rw [List.length_cons]; omega) hx
          rwa [show 65 - (hexd uk :: D).length = j by rw [List.length_cons]; omega] at this
        · have hm : x ∈ hexI U := by rw [hfull]; exact List.mem_of_getElem? hx
          have := hex_mem 3 U (by simpa using hU) hU x hm
          exact wf_b (by omega) (by omega)
      obtain ⟨s, hrun, hs, hss⟩ := bytes_run (P := Tryd.prog) Tryd.underlying27 Tryd.underlying5 Tryd.underlying9 hrep
      have hd := dgA_at hge
      unfold dgA at hd
      rw [hd, hrun]
      have hb2 : Below w.heap.size w (wr.setCell ⟨w.heap.size, j, none⟩ (.int .u8 (hexd uk))) := hb.trans ⟨rfl, rfl, rfl, by simp [World.setCell], fun k hk => by rw [setCell_heap, if_neg (by show k ≠ w.heap.size; omega)]⟩
      generalize wr.setCell ⟨w.heap.size, j, none⟩ (.int .u8 (hexd uk)) = W at *
      go_wp2
      go_ret2
      exact ⟨s, rfl, hs.trans (by rw [hexI_one hge]; rfl), hss, hb2⟩
    · have hyes : (16 : Int) ≤ (uk : Int) := by omega
      have h15 := and15 hu6
      go_wp2
      have hd := dgA_at (show uk % 16 < 16 by omega)
      unfold dgA at hd
      rw [hd]
      have hcell2 := digC_set (d := hexd (uk % 16)) hcell (by omega)
      rw [show 65 - D.length - 1 = j by omega] at hcell2
      have hb2 : Below w.heap.size w (wr.setCell ⟨w.heap.size, j, none⟩ (.int .u8 (hexd (uk % 16)))) := hb.trans ⟨rfl, rfl, rfl, by simp [World.setCell], fun k hk => by rw [setCell_heap, if_neg (by show k ≠ w.heap.size; omega)]⟩
      have hD3 : D.length ≤ 2 := by
        rcases Nat.lt_or_ge D.length 3 with h | h
        · omega
        · have : D.length = 3 := by omega
          rw [this] at hu
          simp at hu; omega
      obtain ⟨k, hk⟩ : ∃ k, j = k + 1 := ⟨j - 1, by omega⟩
      refine ⟨⟨hexd (uk % 16) :: D, uk / 16, k, by congr 1, by rw [hk]; congr 1, by rw [List.length_cons]; omega, by rw [List.length_cons]; omega, ?_, by omega, ?_, hcell2, hb2⟩, ?_⟩
      · rw [List.length_cons, Nat.div_lt_iff_lt_mul (by decide), ← Nat.pow_succ, show (4 - (D.length + 1)).succ = 4 - D.length by omega]
        exact hu
      · rw [hhex, hexI_step hge hu6, List.append_assoc]; rfl
      · simp [intOf]; omega
set_option maxHeartbeats 4000000 in
set_option maxRecDepth 1000000 in
theorem fmt_walk (n : Nat) (hn : n < 65536) (w : World) (hdb : w.cell? ⟨10, 15, none⟩ = some (.int .u8 4)) :
    Calls Tryd.prog 104 #[.int .i64 n, .int .i64 16] w fun e w' => ∃ s : ByteArray, e = .returned (.string s) ∧ bytesL s = hexI n ∧ s.size ≤ maxLen ∧ Below w.heap.size w w' := by
  have h0 : ¬ (n : Int) < 0 := by omega
  have h1 : IntKind.u64.wrap (n : Int) = (n : Int) := by
    show (n : Int) % 18446744073709551616 = _
    omega
  go_enter Tryd.func104, Tryd.ntmps104
  go_wp2_with (go_at_call 141; refine (bits_walk n hn _ hdb).mono ?_; rintro e w' ⟨s, rfl, h2, h3, h4⟩)
  go_wp2
  go_ret
  exact ⟨s, rfl, h2, h3, h4⟩
set_option maxHeartbeats 4000000 in
set_option maxRecDepth 1000000 in
theorem fmt_call (n : Nat) (hn : n < 65536) (w : World) (hdb : w.cell? ⟨10, 15, none⟩ = some (.int .u8 4)) :
    Calls Tryd.prog 75 #[.int .i64 n, .int .i64 16] w fun e w' => ∃ s : ByteArray, e = .returned (.string s) ∧ bytesL s = hexI n ∧ s.size ≤ maxLen ∧ Below w.heap.size w w' := by
  go_enter Tryd.func75, Tryd.ntmps75
  go_wp2_with (go_at_call 104; refine (fmt_walk n hn _ hdb).mono ?_; rintro e w' ⟨s, rfl, h2, h3, h4⟩)
  go_wp2
  go_ret
  exact ⟨s, rfl, h2, h3, h4⟩
theorem F_strconv_FormatInt_sound {T : Tab} (h_db : tab_db ∈ T) : SoundFn Tryd.prog T 75 F_strconv_FormatInt_sig ⟨F_strconv_FormatInt⟩ := by
  refine sound_d rfl fun F g O xs ls y tmf w args hT hls happ hsz hr => ?_
  obtain ⟨(n : Int), xs', rfl, h2⟩ := appF_inv_c (ts := [.int .i64]) happ
  obtain ⟨(b : Int), xs'', rfl, h2'⟩ := appF_inv_c (ts := []) h2
  obtain ⟨rfl, h3⟩ := appF_inv_n h2'
  have hls' : some [Leaf.d (.int .i64) n, Leaf.d (.int .i64) b] = some ls := hls
  injection hls' with hls'
  subst hls'
  obtain ⟨e0, e1⟩ := rel_int (hr 0)
  obtain ⟨f0, f1⟩ := rel_int (hr 1)
  rw [args_2 hsz, e0, f0]
  have h3 : cond (b == 16 && decide (0 ≤ n) && decide (n < 65536)) (some (hexI n.toNat)) none = some y := h3
  cases hb : (b == 16 && decide (0 ≤ n) && decide (n < 65536)) with
  | false => rw [hb] at h3; cases h3
  | true =>
    rw [hb] at h3
    have hy : hexI n.toNat = y := by injection h3
    simp only [Bool.and_eq_true, beq_iff_eq, decide_eq_true_eq] at hb
    obtain ⟨⟨rfl, h0⟩, h1⟩ := hb
    obtain ⟨m, rfl⟩ := Int.eq_ofNat_of_zero_le h0
    rw [Int.toNat_natCast] at hy
    have hdb : w.cell? ⟨10, 15, none⟩ = some (.int .u8 4) := by
      obtain ⟨ty, fr, hh⟩ := hT _ h_db
      have hh : w.heap[(10 : Nat)]? = some (.cells tab_db.2 ty fr) := hh
      exact (cell_at hh 15).trans db_at
    refine (fmt_call m (by omega) w hdb).mono ?_
    rintro e w' ⟨s, rfl, h2, h3, h4⟩
    refine ⟨[.string s], [.d .str y], rfl, rfl, rfl, h4, fun i hi => ?_⟩
    match i, hi with
    | 0, _ => exact ⟨[.string s], ⟨_, [], rfl, ⟨s, rfl, h2.trans hy, h3⟩, rfl⟩, rfl⟩
/-! ### the first place of a byte -/
theorem idx_lib : ∀ (l : List UInt8) (c : UInt8), Lib.indexByte l c = idxI (l.map byteI) (byteI c)
  | [], _ => rfl
  | b :: l, c => by
    have ih := idx_lib l c
    show (if b == c then 0 else if Lib.indexByte l c == -1 then -1 else Lib.indexByte l c + 1) = cond (byteI b == byteI c) 0 (cond (idxI (l.map byteI) (byteI c) == -1) (-1) (idxI (l.map byteI) (byteI c) + 1))
    rw [ih]
    have e : (byteI b == byteI c) = (b == c) := by
      by_cases h : b = c
      · subst h; simp
      · have : byteI b ≠ byteI c := fun e => h (UInt8.toNat_inj.1 (by unfold byteI at e; exact Int.ofNat.inj e))
        rw [beq_eq_false_iff_ne.2 this, beq_eq_false_iff_ne.2 h]
    rw [e]
    cases b == c
    · cases idxI (l.map byteI) (byteI c) == -1 <;> rfl
    · rfl
theorem idxI_in : ∀ (l : List Int) (c : Int), -1 ≤ idxI l c ∧ idxI l c < l.length
  | [], c => ⟨Int.le_refl _, by show (-1 : Int) < 0; decide⟩
  | x :: l, c => by
    obtain ⟨h1, h2⟩ := idxI_in l c
    unfold idxI
    rw [List.length_cons]
    cases x == c
    · cases h : idxI l c == -1
      · show -1 ≤ idxI l c + 1 ∧ idxI l c + 1 < _
        omega
      · show -1 ≤ (-1 : Int) ∧ (-1 : Int) < _
        omega
    · show -1 ≤ (0 : Int) ∧ (0 : Int) < _
      omega
theorem F_internal_stringslite_Index_sound {T : Tab} : SoundFn Tryd.prog T 113 F_internal_stringslite_Index_sig ⟨F_internal_stringslite_Index⟩ := by
  refine sound_d rfl fun F g O xs ls y tmf w args hT hls happ hsz hr => ?_
  obtain ⟨(l : List Int), xs', rfl, h2⟩ := appF_inv_c (ts := [.str]) happ
  obtain ⟨(m : List Int), xs'', rfl, h2'⟩ := appF_inv_c (ts := []) h2
  obtain ⟨rfl, h3⟩ := appF_inv_n h2'
  have hls' : some [Leaf.d .str l, Leaf.d .str m] = some ls := hls
  injection hls' with hls'
  subst hls'
  obtain ⟨s, e0, e1, e2⟩ := rel_str (hr 0)
  obtain ⟨t, f0, f1, f2⟩ := rel_str (hr 1)
  rw [args_2 hsz, e0, f0]
  have h3 : F_internal_stringslite_Index l m = some y := h3
  obtain ⟨c, rfl⟩ : ∃ c, m = [c] := by
    match m, h3 with
    | [], h3 => cases h3
    | [c], _ => exact ⟨c, rfl⟩
    | _ :: _ :: _, h3 => cases h3
  have hy : idxI l c = y := by
    have h3 : some (idxI l c) = some y := h3
    injection h3
  have htl := bytes_size f1
  obtain ⟨cb, rfl⟩ := Lib.one_byte t htl
  have hcb : byteI cb = c := by
    have : [byteI cb] = [c] := f1
    injection this
  refine (Any.stringslite_Index_one { Tryd.lays144 with } s cb w).mono ?_
  rintro e w' ⟨rfl, rfl⟩
  have hli : Lib.indexByte s.data.toList cb = y := by
    rw [idx_lib, ← hy, hcb, ← e1]; rfl
  have hin := idxI_in l c
  have hlen := bytes_size e1
  have hmx : maxLen = 9223372036854775807 := rfl
  rw [hli]
  refine ⟨[.int .i64 y], [.d (.int .i64) y], rfl, rfl, rfl, Below.refl _ _, fun i hi => ?_⟩
  match i, hi with
  | 0, _ => exact ⟨[.int .i64 y], ⟨_, [], rfl, ⟨rfl, wf_of (by rw [← hy]; omega)⟩, rfl⟩, rfl⟩
end Go.Proofs.YtblngdnndkljoaaDoor

/- The functions compute what their Lean functions tell. -/
namespace Go.Proofs.YtblngdnndkljoaaDoor
open Pv
theorem F_wlvref15_bit_sound {T : Tab} : SoundFn Tryd.prog T 72 F_wlvref15_bit_sig ⟨F_wlvref15_bit⟩ := by
  have h := fn_sound (T := T) (E := F_wlvref15_bit_env) (by unfold Env.ok; exact fun p h => by cases h) (A := F_wlvref15_bit_ann) (f := 72) (fn := Tryd.f72) (s := F_wlvref15_bit_sig) Tryd.func72
  rw [F_wlvref15_bit_text] at h
  exact h
theorem F_wlvref15_In_sound {T : Tab} : SoundFn Tryd.prog T 36 F_wlvref15_In_sig ⟨F_wlvref15_In⟩ := by
  have h := fn_sound (T := T) (E := F_wlvref15_In_env) (by unfold Env.ok; exact List.forall_mem_cons.2 ⟨F_wlvref15_bit_sound, fun p h => by cases h⟩) (A := F_wlvref15_In_ann) (f := 36) (fn := Tryd.f36) (s := F_wlvref15_In_sig) Tryd.func36
  rw [F_wlvref15_In_text] at h
  exact h
theorem F_addr_Print_sound {T : Tab} (h_pow10 : tab_pow10 ∈ T) (h_db : tab_db ∈ T) : SoundFn Tryd.prog T 41 F_addr_Print_sig ⟨F_addr_Print⟩ := by
  have h := fn_sound (T := T) (E := F_addr_Print_env) (by unfold Env.ok; exact List.forall_mem_cons.2 ⟨F_strconv_Itoa_sound h_pow10, List.forall_mem_cons.2 ⟨F_strings_Join_sound, List.forall_mem_cons.2 ⟨F_strconv_FormatInt_sound h_db, fun p h => by cases h⟩⟩⟩) (A := F_addr_Print_ann) (f := 41) (fn := Tryd.f41) (s := F_addr_Print_sig) Tryd.func41
  rw [F_addr_Print_text] at h
  exact h
theorem F_addr_PrintNet_sound {T : Tab} (h_pow10 : tab_pow10 ∈ T) (h_db : tab_db ∈ T) : SoundFn Tryd.prog T 37 F_addr_PrintNet_sig ⟨F_addr_PrintNet⟩ := by
  have h := fn_sound (T := T) (E := F_addr_PrintNet_env) (by unfold Env.ok; exact List.forall_mem_cons.2 ⟨F_addr_Print_sound h_pow10 h_db, List.forall_mem_cons.2 ⟨F_strconv_Itoa_sound h_pow10, fun p h => by cases h⟩⟩) (A := F_addr_PrintNet_ann) (f := 37) (fn := Tryd.f37) (s := F_addr_PrintNet_sig) Tryd.func37
  rw [F_addr_PrintNet_text] at h
  exact h
theorem F_wlvref15_hex_fuel_sound {T : Tab} : ∀ k : Nat, SoundFn Tryd.prog T 76 F_wlvref15_hex_sig ⟨F_wlvref15_hex_fuel k⟩
  | 0 => by
    intro F g st xs y tmf w args _ _ happ
    have e : none = some y := (appF_bot (α := (F_wlvref15_hex_sig).out.D) ((parsT (F_wlvref15_hex_sig).ps).map LT.ty) xs).symm.trans happ
    cases e
  | k + 1 => by
    have ih := F_wlvref15_hex_fuel_sound (T := T) k
    have h := fn_sound (T := T) (E := F_wlvref15_hex_env (F_wlvref15_hex_fuel k)) (by unfold Env.ok; exact List.forall_mem_cons.2 ⟨ih, fun p h => by cases h⟩) (A := F_wlvref15_hex_ann) (f := 76) (fn := Tryd.f76) (s := F_wlvref15_hex_sig) Tryd.func76
    rw [F_wlvref15_hex_text] at h
    exact h
theorem F_wlvref15_hex_sound {T : Tab} : SoundFn Tryd.prog T 76 F_wlvref15_hex_sig ⟨F_wlvref15_hex⟩ := F_wlvref15_hex_fuel_sound 64
theorem F_wlvref15_Print_sound {T : Tab} : SoundFn Tryd.prog T 42 F_wlvref15_Print_sig ⟨F_wlvref15_Print⟩ := by
  have h := fn_sound (T := T) (E := F_wlvref15_Print_env) (by unfold Env.ok; exact List.forall_mem_cons.2 ⟨F_wlvref_Dec_sound, List.forall_mem_cons.2 ⟨F_wlvref15_hex_sound, fun p h => by cases h⟩⟩) (A := F_wlvref15_Print_ann) (f := 42) (fn := Tryd.f42) (s := F_wlvref15_Print_sig) Tryd.func42
  rw [F_wlvref15_Print_text] at h
  exact h
theorem F_wlvref15_PrintNet_sound {T : Tab} : SoundFn Tryd.prog T 38 F_wlvref15_PrintNet_sig ⟨F_wlvref15_PrintNet⟩ := by
  have h := fn_sound (T := T) (E := F_wlvref15_PrintNet_env) (by unfold Env.ok; exact List.forall_mem_cons.2 ⟨F_wlvref_Dec_sound, List.forall_mem_cons.2 ⟨F_wlvref15_Print_sound, fun p h => by cases h⟩⟩) (A := F_wlvref15_PrintNet_ann) (f := 38) (fn := Tryd.f38) (s := F_wlvref15_PrintNet_sig) Tryd.func38
  rw [F_wlvref15_PrintNet_text] at h
  exact h
theorem F_wlvlaw15_AddrIn_sound {T : Tab} (h_errs : has_errs T) (h_pow10 : tab_pow10 ∈ T) (h_maxlen : has_maxlen T) (h_db : tab_db ∈ T) : SoundFn Tryd.prog T 11 F_wlvlaw15_AddrIn_sig ⟨F_wlvlaw15_AddrIn⟩ := by
  have h := fn_sound (T := T) (E := F_wlvlaw15_AddrIn_env) (by unfold Env.ok; exact List.forall_mem_cons.2 ⟨F_wlvlaw15_first_sound h_errs h_pow10 h_maxlen, List.forall_mem_cons.2 ⟨F_addr_In_sound, List.forall_mem_cons.2 ⟨F_wlvref15_In_sound, List.forall_mem_cons.2 ⟨F_addr_PrintNet_sound h_pow10 h_db, List.forall_mem_cons.2 ⟨F_wlvref15_PrintNet_sound, fun p h => by cases h⟩⟩⟩⟩⟩) (A := F_wlvlaw15_AddrIn_ann) (f := 11) (fn := Tryd.f11) (s := F_wlvlaw15_AddrIn_sig) Tryd.func11
  rw [F_wlvlaw15_AddrIn_text] at h
  exact h
theorem F_internal_stringslite_Cut_sound {T : Tab} : SoundFn Tryd.prog T 81 F_internal_stringslite_Cut_sig ⟨F_internal_stringslite_Cut⟩ := by
  have h := fn_sound (T := T) (E := F_internal_stringslite_Cut_env) (by unfold Env.ok; exact List.forall_mem_cons.2 ⟨F_internal_stringslite_Index_sound, fun p h => by cases h⟩) (A := F_internal_stringslite_Cut_ann) (f := 81) (fn := Tryd.f81) (s := F_internal_stringslite_Cut_sig) Tryd.func81
  rw [F_internal_stringslite_Cut_text] at h
  exact h
theorem F_strings_Cut_sound {T : Tab} : SoundFn Tryd.prog T 48 F_strings_Cut_sig ⟨F_strings_Cut⟩ := by
  have h := fn_sound (T := T) (E := F_strings_Cut_env) (by unfold Env.ok; exact List.forall_mem_cons.2 ⟨F_internal_stringslite_Cut_sound, fun p h => by cases h⟩) (A := F_strings_Cut_ann) (f := 48) (fn := Tryd.f48) (s := F_strings_Cut_sig) Tryd.func48
  rw [F_strings_Cut_text] at h
  exact h
theorem F_addr_ParseNet_sound {T : Tab} (h_errs : has_errs T) (h_pow10 : tab_pow10 ∈ T) (h_maxlen : has_maxlen T) : SoundFn Tryd.prog T 39 F_addr_ParseNet_sig ⟨F_addr_ParseNet⟩ := by
  have h := fn_sound (T := T) (E := F_addr_ParseNet_env) (by unfold Env.ok; exact List.forall_mem_cons.2 ⟨F_addr_Parse_sound h_errs h_pow10 h_maxlen, List.forall_mem_cons.2 ⟨F_strings_Cut_sound, List.forall_mem_cons.2 ⟨F_addr_kept_sound, List.forall_mem_cons.2 ⟨F_addr_decimal_sound h_errs h_pow10, fun p h => by cases h⟩⟩⟩⟩) (A := F_addr_ParseNet_ann) (f := 39) (fn := Tryd.f39) (s := F_addr_ParseNet_sig) Tryd.func39
  rw [F_addr_ParseNet_text] at h
  exact h
theorem F_wlvref15_ParseNet_sound {T : Tab} : SoundFn Tryd.prog T 40 F_wlvref15_ParseNet_sig ⟨F_wlvref15_ParseNet⟩ := by
  have h := fn_sound (T := T) (E := F_wlvref15_ParseNet_env) (by unfold Env.ok; exact List.forall_mem_cons.2 ⟨F_wlvref15_Parse_sound, List.forall_mem_cons.2 ⟨F_wlvref_Num_sound, List.forall_mem_cons.2 ⟨F_wlvref_Split_sound, List.forall_mem_cons.2 ⟨F_wlvref15_bit_sound, fun p h => by cases h⟩⟩⟩⟩) (A := F_wlvref15_ParseNet_ann) (f := 40) (fn := Tryd.f40) (s := F_wlvref15_ParseNet_sig) Tryd.func40
  rw [F_wlvref15_ParseNet_text] at h
  exact h
theorem F_wlvlaw15_AddrReads_sound {T : Tab} (h_errs : has_errs T) (h_pow10 : tab_pow10 ∈ T) (h_maxlen : has_maxlen T) (h_db : tab_db ∈ T) : SoundFn Tryd.prog T 12 F_wlvlaw15_AddrReads_sig ⟨F_wlvlaw15_AddrReads⟩ := by
  have h := fn_sound (T := T) (E := F_wlvlaw15_AddrReads_env) (by unfold Env.ok; exact List.forall_mem_cons.2 ⟨F_wlvlaw15_first_sound h_errs h_pow10 h_maxlen, List.forall_mem_cons.2 ⟨F_addr_Parse_sound h_errs h_pow10 h_maxlen, List.forall_mem_cons.2 ⟨F_wlvref15_Parse_sound, List.forall_mem_cons.2 ⟨F_addr_ParseNet_sound h_errs h_pow10 h_maxlen, List.forall_mem_cons.2 ⟨F_wlvref15_ParseNet_sound, List.forall_mem_cons.2 ⟨F_addr_Print_sound h_pow10 h_db, List.forall_mem_cons.2 ⟨F_wlvref15_Print_sound, fun p h => by cases h⟩⟩⟩⟩⟩⟩⟩) (A := F_wlvlaw15_AddrReads_ann) (f := 12) (fn := Tryd.f12) (s := F_wlvlaw15_AddrReads_sig) Tryd.func12
  rw [F_wlvlaw15_AddrReads_text] at h
  exact h
theorem F_wlvlaw15_turned_sound {T : Tab} : SoundFn Tryd.prog T 43 F_wlvlaw15_turned_sig ⟨F_wlvlaw15_turned⟩ := by
  have h := fn_sound (T := T) (E := F_wlvlaw15_turned_env) (by unfold Env.ok; exact fun p h => by cases h) (A := F_wlvlaw15_turned_ann) (f := 43) (fn := Tryd.f43) (s := F_wlvlaw15_turned_sig) Tryd.func43
  rw [F_wlvlaw15_turned_text] at h
  exact h
theorem F_wlvlaw15_AddrBack_sound {T : Tab} (h_errs : has_errs T) (h_pow10 : tab_pow10 ∈ T) (h_maxlen : has_maxlen T) (h_db : tab_db ∈ T) : SoundFn Tryd.prog T 13 F_wlvlaw15_AddrBack_sig ⟨F_wlvlaw15_AddrBack⟩ := by
  have h := fn_sound (T := T) (E := F_wlvlaw15_AddrBack_env) (by unfold Env.ok; exact List.forall_mem_cons.2 ⟨F_wlvlaw15_first_sound h_errs h_pow10 h_maxlen, List.forall_mem_cons.2 ⟨F_addr_Parse_sound h_errs h_pow10 h_maxlen, List.forall_mem_cons.2 ⟨F_wlvref15_Mapped_sound, List.forall_mem_cons.2 ⟨F_addr_In_sound, List.forall_mem_cons.2 ⟨F_addr_PrintNet_sound h_pow10 h_db, List.forall_mem_cons.2 ⟨F_addr_ParseNet_sound h_errs h_pow10 h_maxlen, List.forall_mem_cons.2 ⟨F_addr_Print_sound h_pow10 h_db, List.forall_mem_cons.2 ⟨F_wlvlaw15_turned_sound, fun p h => by cases h⟩⟩⟩⟩⟩⟩⟩⟩) (A := F_wlvlaw15_AddrBack_ann) (f := 13) (fn := Tryd.f13) (s := F_wlvlaw15_AddrBack_sig) Tryd.func13
  rw [F_wlvlaw15_AddrBack_text] at h
  exact h
theorem F_host_Print_sound {T : Tab} (h_pow10 : tab_pow10 ∈ T) (h_db : tab_db ∈ T) : SoundFn Tryd.prog T 44 F_host_Print_sig ⟨F_host_Print⟩ := by
  have h := fn_sound (T := T) (E := F_host_Print_env) (by unfold Env.ok; exact List.forall_mem_cons.2 ⟨F_addr_Print_sound h_pow10 h_db, List.forall_mem_cons.2 ⟨F_strconv_Itoa_sound h_pow10, fun p h => by cases h⟩⟩) (A := F_host_Print_ann) (f := 44) (fn := Tryd.f44) (s := F_host_Print_sig) Tryd.func44
  rw [F_host_Print_text] at h
  exact h
theorem F_wlvref15_PrintHost_sound {T : Tab} : SoundFn Tryd.prog T 45 F_wlvref15_PrintHost_sig ⟨F_wlvref15_PrintHost⟩ := by
  have h := fn_sound (T := T) (E := F_wlvref15_PrintHost_env) (by unfold Env.ok; exact List.forall_mem_cons.2 ⟨F_wlvref_Dec_sound, List.forall_mem_cons.2 ⟨F_wlvref15_Print_sound, fun p h => by cases h⟩⟩) (A := F_wlvref15_PrintHost_ann) (f := 45) (fn := Tryd.f45) (s := F_wlvref15_PrintHost_sig) Tryd.func45
  rw [F_wlvref15_PrintHost_text] at h
  exact h
theorem F_wlvlaw16_HostBack_sound {T : Tab} (h_errs : has_errs T) (h_pow10 : tab_pow10 ∈ T) (h_maxlen : has_maxlen T) (h_db : tab_db ∈ T) : SoundFn Tryd.prog T 14 F_wlvlaw16_HostBack_sig ⟨F_wlvlaw16_HostBack⟩ := by
  have h := fn_sound (T := T) (E := F_wlvlaw16_HostBack_env) (by unfold Env.ok; exact List.forall_mem_cons.2 ⟨F_wlvlaw16_first_sound h_errs h_pow10 h_maxlen, List.forall_mem_cons.2 ⟨F_host_Authority_sound h_errs h_pow10 h_maxlen, List.forall_mem_cons.2 ⟨F_host_Print_sound h_pow10 h_db, List.forall_mem_cons.2 ⟨F_wlvref15_PrintHost_sound, fun p h => by cases h⟩⟩⟩⟩) (A := F_wlvlaw16_HostBack_ann) (f := 14) (fn := Tryd.f14) (s := F_wlvlaw16_HostBack_sig) Tryd.func14
  rw [F_wlvlaw16_HostBack_text] at h
  exact h
end Go.Proofs.YtblngdnndkljoaaDoor

/- Numbers in decimal digits: what the reference and the library tell of them. -/
namespace Go.Proofs.YtblngdnndkljoaaDoor
open Pv
set_option linter.unusedVariables false
def isDig (c : Int) : Bool := decide (48 ≤ c) && decide (c ≤ 57)
def valI (s : List Int) : Int := s.foldl (fun a c => a * 10 + (c - 48)) 0
def canonB (s : List Int) : Bool := s.all isDig && match s with
  | [] => false
  | [_] => true
  | c :: _ => c != 48
theorem valI_snoc (s : List Int) (c : Int) : valI (s ++ [c]) = valI s * 10 + (c - 48) := by
  unfold valI
  rw [List.foldl_append]; rfl
theorem dig_of {c : Int} (h : isDig c = true) : 48 ≤ c ∧ c ≤ 57 := by
  simpa [isDig] using h
theorem valI_nn : ∀ (k : Nat) (s : List Int), s.length = k → s.all isDig = true → 0 ≤ valI s := fun k => by
  induction k with
  | zero => intro s h _; rw [List.length_eq_zero_iff.1 h]; decide
  | succ k ih =>
    intro s h hd
    rcases List.eq_nil_or_concat s with rfl | ⟨s', c, rfl⟩
    · decide
    · rw [List.concat_eq_append] at h hd ⊢
      rw [List.all_append, Bool.and_eq_true] at hd
      have hc := dig_of (c := c) (by simpa using hd.2)
      have := ih s' (by simp at h; omega) hd.1
      rw [valI_snoc]
      omega
def dgs (n : Nat) : List Int := (Lib.decDigits n).map byteI
theorem dgs_one {n : Nat} (h : n < 10) : dgs n = [48 + (n : Int)] := by
  unfold dgs
  rw [Lib.decDigits_one h]
  show [byteI (UInt8.ofNat (48 + n))] = _
  unfold byteI
  rw [UInt8.toNat_ofNat', Nat.mod_eq_of_lt (by omega)]
  congr 1
theorem dgs_more {n : Nat} (h : ¬ n < 10) : dgs n = dgs (n / 10) ++ [48 + ((n % 10 : Nat) : Int)] := by
  unfold dgs
  rw [Lib.decDigits, dif_neg h, List.map_append]
  congr 1
  show [byteI (UInt8.ofNat (48 + n % 10))] = _
  unfold byteI
  rw [UInt8.toNat_ofNat', Nat.mod_eq_of_lt (by omega)]
  congr 1
theorem itoa_dgs (n : Nat) : itoaI (n : Int) = dgs n := by
  unfold itoaI dgs
  rw [Lib.itoa_nonneg]
theorem dgs_spec : ∀ (k n : Nat), n < k → (dgs n).all isDig = true ∧ valI (dgs n) = n ∧ dgs n ≠ [] ∧ (1 ≤ n → (dgs n).head? ≠ some 48) := fun k => by
  induction k with
  | zero => intro n h; omega
  | succ k ih =>
    intro n h
    by_cases h10 : n < 10
    · rw [dgs_one h10]
      refine ⟨by simp [isDig]; omega, by simp [valI]; omega, by simp, fun h1 => ?_⟩
      show some (48 + (n : Int)) ≠ some 48
      intro e
      injection e with e
      omega
    · obtain ⟨a, b, c, d⟩ := ih (n / 10) (by omega)
      rw [dgs_more h10]
      refine ⟨?_, ?_, by simp, fun _ => ?_⟩
      · rw [List.all_append, a]
        simp [isDig]
        omega
      · rw [valI_snoc, b]
        omega
      · cases hq : dgs (n / 10) with
        | nil => exact absurd hq c
        | cons x r =>
          rw [hq] at d
          exact d (by omega)
theorem canon_dgs (n : Nat) : canonB (dgs n) = true := by
  obtain ⟨a, b, c, d⟩ := dgs_spec (n + 1) n (by omega)
  unfold canonB
  rw [a, Bool.true_and]
  by_cases h10 : n < 10
  · rw [dgs_one h10]
  · have hd := d (by omega)
    have hl : 2 ≤ (dgs n).length := by
      rw [dgs_more h10, List.length_append]
      have : 0 < (dgs (n / 10)).length := List.length_pos_iff.2 (dgs_spec (n / 10 + 1) (n / 10) (by omega)).2.2.1
      simp
      omega
    match hs : dgs n, hd, hl with
    | x :: y :: r, hd, _ =>
      show (x != 48) = true
      exact bne_iff_ne.2 fun e => hd (by rw [e]; rfl)
theorem val_pos : ∀ (k : Nat) (s : List Int), s.length = k → s.all isDig = true → (∃ c r, s = c :: r ∧ c ≠ 48) → 1 ≤ valI s := fun k => by
  induction k with
  | zero => intro s h _ ⟨c, r, e, _⟩; subst e; simp at h
  | succ k ih =>
    intro s h hd ⟨c, r, e, hc⟩
    rcases List.eq_nil_or_concat s with rfl | ⟨s', x, e'⟩
    · cases e
    · rw [List.concat_eq_append] at e'
      subst e'
      rw [List.all_append, Bool.and_eq_true] at hd
      have hx := dig_of (c := x) (by simpa using hd.2)
      rw [valI_snoc]
      cases s' with
      | nil =>
        have : x = c := by simpa using congrArg List.head? e
        subst this
        show 1 ≤ (0 : Int) * 10 + (x - 48)
        omega
      | cons c' r' =>
        have : c' = c := by simpa using congrArg List.head? e
        subst this
        have := ih (c' :: r') (by simp at h ⊢; omega) hd.1 ⟨c', r', rfl, hc⟩
        omega
/-- What is written without noughts ahead is how its number is written. -/
theorem canon_eq : ∀ (k : Nat) (s : List Int), s.length = k → canonB s = true → ∃ n : Nat, s = dgs n ∧ valI s = n := fun k => by
  induction k with
  | zero => intro s h hc; rw [List.length_eq_zero_iff.1 h] at hc; cases hc
  | succ k ih =>
    intro s h hc
    have hd : s.all isDig = true := by unfold canonB at hc; exact (Bool.and_eq_true _ _ ▸ hc).1
    rcases List.eq_nil_or_concat s with rfl | ⟨s', x, e'⟩
    · cases hc
    · rw [List.concat_eq_append] at e'
      subst e'
      have hd' := hd
      rw [List.all_append, Bool.and_eq_true] at hd'
      have hx := dig_of (c := x) (by simpa using hd'.2)
      cases s' with
      | nil =>
        refine ⟨(x - 48).toNat, ?_, ?_⟩
        · rw [dgs_one (by omega)]
          show [x] = _
          congr 1
          omega
        · show (0 : Int) * 10 + (x - 48) = _
          omega
      | cons c' r' =>
        have hne : c' ≠ 48 := by
          unfold canonB at hc
          rw [hd, Bool.true_and] at hc
          cases r' with
          | nil => exact bne_iff_ne.1 hc
          | cons => exact bne_iff_ne.1 hc
        have hcan : canonB (c' :: r') = true := by
          unfold canonB
          rw [hd'.1, Bool.true_and]
          cases r' with
          | nil => rfl
          | cons => exact bne_iff_ne.2 hne
        obtain ⟨n, h1, h2⟩ := ih (c' :: r') (by simp at h ⊢; omega) hcan
        have hp := val_pos _ (c' :: r') rfl hd'.1 ⟨c', r', rfl, hne⟩
        refine ⟨n * 10 + (x - 48).toNat, ?_, ?_⟩
        · rw [dgs_more (by omega), show (n * 10 + (x - 48).toNat) / 10 = n by omega, show (n * 10 + (x - 48).toNat) % 10 = (x - 48).toNat by omega, ← h1]
          congr 2
          omega
        · rw [valI_snoc, h2]
          omega
theorem parse_snoc (c : UInt8) : ∀ (l : List UInt8) (acc m : Nat), Lib.parseUint10 acc l = .ok m → Lib.parseUint10 acc (l ++ [c]) = Lib.parseUint10 m [c]
  | [], acc, m, h => by
    have : acc = m := by
      have h : Lib.NumEnd.ok acc = .ok m := h
      injection h
    subst this; rfl
  | x :: l, acc, m, h => by
    rw [List.cons_append]
    unfold Lib.parseUint10 at h ⊢
    split at h
    · rename_i h1
      rw [if_pos h1]
      split at h
      · cases h
      · rename_i h2
        rw [if_neg h2]
        split at h
        · cases h
        · rename_i h3
          rw [if_neg h3]
          rw [parse_snoc c l _ m h]
          rfl
    · cases h
theorem parse_dec : ∀ (k n : Nat), n < k → n < 18446744073709551616 → Lib.parseUint10 0 (Lib.decDigits n) = .ok n := fun k => by
  induction k with
  | zero => intro n h; omega
  | succ k ih =>
    intro n h hn
    have hc : (UInt8.ofNat (48 + n % 10)).toNat = 48 + n % 10 := by rw [UInt8.toNat_ofNat', Nat.mod_eq_of_lt (by omega)]
    have step : ∀ acc, acc = n / 10 → Lib.parseUint10 acc [UInt8.ofNat (48 + n % 10)] = .ok n := fun acc e => by
      unfold Lib.parseUint10
      rw [hc, if_pos (by omega), if_neg (by omega), if_neg (by omega)]
      show Lib.NumEnd.ok _ = _
      congr 1
      omega
    rw [Lib.decDigits]
    by_cases h10 : n < 10
    · rw [dif_pos h10]
      have := step 0 (by omega)
      rwa [Nat.mod_eq_of_lt h10] at this
    · rw [dif_neg h10, parse_snoc _ _ _ _ (ih (n / 10) (by omega) (by omega))]
      exact step _ rfl
theorem dec_cons (n : Nat) : ∃ c r, Lib.decDigits n = c :: r ∧ c.toNat ≠ 43 ∧ c.toNat ≠ 45 := by
  obtain ⟨a, b, c, d⟩ := dgs_spec (n + 1) n (by omega)
  cases h : Lib.decDigits n with
  | nil => exact absurd (by unfold dgs; rw [h]; rfl) c
  | cons x r =>
    refine ⟨x, r, rfl, ?_⟩
    unfold dgs at a
    rw [h, List.map_cons, List.all_cons, Bool.and_eq_true] at a
    have := dig_of a.1
    unfold byteI at this
    omega
theorem toB_dgs (n : Nat) : toB (dgs n) = Lib.decDigits n := by
  unfold toB dgs
  rw [List.map_map]
  conv => rhs; rw [← List.map_id (Lib.decDigits n)]
  apply List.map_congr_left
  intro b _
  show (((b.toNat : Nat) : Int).toNat).toUInt8 = b
  rw [Int.toNat_natCast, Nat.toUInt8_eq, UInt8.ofNat_toNat]
theorem atoi_dgs (n : Nat) (h : n < 9223372036854775808) : atoiP (dgs n) = ((n : Int), false) := by
  unfold atoiP
  rw [toB_dgs]
  obtain ⟨c, r, h1, h2, h3⟩ := dec_cons n
  have hp := parse_dec (n + 1) n (by omega) (by omega)
  have : Lib.atoiAll (Lib.decDigits n) = .ok (n : Int) := by
    rw [h1, Lib.atoiAll_plain c r h2 h3, ← h1]
    unfold Lib.parseMag
    rw [if_neg (by rw [h1]; simp), hp]
    unfold Lib.signless
    simp
    omega
  rw [this]
/-- A number up to a bound, as the library tells it. -/
theorem decimal_law (s : List Int) (most : Int) (hm : most ≤ 9223372036854775807) :
    (canonB s = true ∧ valI s ≤ most → (atoiP s).2 = false ∧ (atoiP s).1 = valI s ∧ itoaI (valI s) = s) ∧
    ((atoiP s).2 = false → 0 ≤ (atoiP s).1 → (atoiP s).1 ≤ most → itoaI (atoiP s).1 = s → canonB s = true ∧ valI s = (atoiP s).1) := by
  refine ⟨fun ⟨hc, hv⟩ => ?_, fun h1 h2 h3 h4 => ?_⟩
  · obtain ⟨n, e1, e2⟩ := canon_eq _ s rfl hc
    rw [e2] at hv ⊢
    rw [itoa_dgs, e1, atoi_dgs n (by omega)]
    exact ⟨rfl, rfl, rfl⟩
  · obtain ⟨n, hn⟩ : ∃ n : Nat, (atoiP s).1 = n := ⟨(atoiP s).1.toNat, by omega⟩
    rw [hn, itoa_dgs] at h4
    rw [hn, ← h4]
    exact ⟨canon_dgs n, (dgs_spec (n + 1) n (by omega)).2.1⟩
theorem dgs_len : ∀ (k n : Nat), n < 10 ^ (k + 1) → (dgs n).length ≤ k + 1 := fun k => by
  induction k with
  | zero => intro n h; rw [dgs_one (by omega)]; simp
  | succ k ih =>
    intro n h
    by_cases h10 : n < 10
    · rw [dgs_one h10]; simp
    · rw [dgs_more h10, List.length_append]
      have := ih (n / 10) (by
        rw [Nat.pow_succ] at h
        omega)
      simp
      omega
end Go.Proofs.YtblngdnndkljoaaDoor

/- Rules for the loops of plain functions. -/
namespace Go.Proofs.YtblngdnndkljoaaDoor
namespace Pv
set_option linter.unusedVariables false
section
variable {S R T : Type} {body : S → Option (R ⊕ S)} {s s' : S} {r r' : R}
theorem iter_uniq : ∀ {n m : Nat} {s : S}, iterC body n s = some r → iterC body m s = some r' → r = r'
  | 0, _, _, h, _ => by cases h
  | _ + 1, 0, _, _, h => by cases h
  | n + 1, m + 1, s, h, k => by
    unfold iterC at h k
    split at h
    · cases h
    · rename_i x hx
      rw [hx] at k
      injection h with h; injection k with k
      exact h.symm.trans k
    · rename_i x hx
      rw [hx] at k
      exact iter_uniq h k
theorem loop_of_iter {n : Nat} (h : iterC body n s = some r) : loopC body s = some r := by
  unfold loopC
  have hex : ∃ r n, iterC body n s = some r := ⟨r, n, h⟩
  rw [dif_pos hex]
  obtain ⟨m, hm⟩ := hex.choose_spec
  rw [iter_uniq hm h]
theorem iter_of_loop' (h : loopC body s = some r) : ∃ n, iterC body n s = some r := by
  unfold loopC at h
  split at h
  · rename_i hex
    injection h with h
    obtain ⟨n, hn⟩ := hex.choose_spec
    exact ⟨n, by rw [hn, h]⟩
  · cases h
theorem loop_inl (h : body s = some (.inl r)) : loopC body s = some r := loop_of_iter (n := 1) (by unfold iterC; rw [h])
theorem loop_inr (h : body s = some (.inr s')) (k : loopC body s' = some r) : loopC body s = some r := by
  obtain ⟨n, hn⟩ := iter_of_loop' k
  exact loop_of_iter (n := n + 1) (by unfold iterC; rw [h]; exact hn)
theorem loop_inv {I : S → Prop} {m : S → Nat} {Q : R → Prop} (h : ∀ s, I s → (∃ r, body s = some (.inl r) ∧ Q r) ∨ ∃ s', body s = some (.inr s') ∧ I s' ∧ m s' < m s) (s : S) (hs : I s) : ∃ r, loopC body s = some r ∧ Q r := by
  have key : ∀ n s, m s < n → I s → ∃ r, loopC body s = some r ∧ Q r := fun n => by
    induction n with
    | zero => intro s hn; omega
    | succ n ih =>
      intro s hn hs
      rcases h s hs with ⟨r, h1, h2⟩ | ⟨s', h1, h2, h3⟩
      · exact ⟨r, loop_inl h1, h2⟩
      · obtain ⟨r, k1, k2⟩ := ih s' (by omega) h2
        exact ⟨r, loop_inr h1 k1, k2⟩
  exact key _ s (Nat.lt_succ_self _) hs
theorem join_inl {A : Option (R ⊕ S)} {B : S → Option R} (h : A = some (.inl r)) : joinC A B = some r := by rw [h]; rfl
theorem join_inr {A : Option (R ⊕ S)} {B : S → Option R} (h : A = some (.inr s)) : joinC A B = B s := by rw [h]; rfl
theorem getI_of {α : Type} {l : List α} {j : Int} (h0 : 0 ≤ j) (h1 : j < l.length) : ∃ x, getI l j = some x ∧ l[j.toNat]? = some x := by
  have hlt : j.toNat < l.length := by omega
  exact ⟨l[j.toNat], by unfold getI; rw [decide_eq_true h0]; simp [hlt], by simp [hlt]⟩
theorem wrap_in {x : Int} (h0 : -9223372036854775808 ≤ x) (h1 : x ≤ 9223372036854775807) : IntKind.i64.wrap x = x := by
  show (if (true && decide (x % 18446744073709551616 ≥ 9223372036854775808)) = true then x % 18446744073709551616 - 18446744073709551616 else x % 18446744073709551616) = x
  simp only [Bool.true_and, decide_eq_true_eq]
  split <;> omega
end
end Pv
end Go.Proofs.YtblngdnndkljoaaDoor

/- Texts in parts and numbers, of the program and of the reference, in plain words. -/
namespace Go.Proofs.YtblngdnndkljoaaDoor
open Pv
set_option linter.unusedVariables false
theorem cutI_nat {α : Type} {s : List α} {a b : Nat} (h1 : a ≤ b) (h2 : b ≤ s.length) : cutI s (a : Int) (b : Int) = some ((s.take b).drop a) := by
  unfold cutI
  rw [decide_eq_true (show (0 : Int) ≤ (a : Int) by omega), decide_eq_true (show (a : Int) ≤ (b : Int) by omega), decide_eq_true (show (b : Int) ≤ (s.length : Int) by omega)]
  rfl
theorem getI_nat {α : Type} {s : List α} {i : Nat} {x : α} (h : s[i]? = some x) : getI s (i : Int) = some x := by
  unfold getI
  rw [decide_eq_true (by omega), cond_true, Int.toNat_natCast, h]
theorem chk16 {a b : Nat} (h : a + b ≤ 10000000) : (decide ((a + b) * 16 ≤ 140737488355328) && decide (a + b ≤ maxLen)) = true := by
  rw [decide_eq_true (by omega), decide_eq_true (by have : maxLen = 9223372036854775807 := rfl; omega)]; rfl
theorem chk1 {a b : Nat} (h : a + b ≤ 10000000) : (decide ((a + b) * 1 ≤ 140737488355328) && decide (a + b ≤ maxLen)) = true := by
  rw [decide_eq_true (by omega), decide_eq_true (by have : maxLen = 9223372036854775807 := rfl; omega)]; rfl
/-! ### parts -/
theorem Split_eq (s : List Int) (c : Int) (hs : s.length ≤ 1000000) : F_wlvref_Split s c = some (splitI s c) := by
  obtain ⟨r, h1, h2⟩ := loop_inv (body := F_wlvref_Split_L5 s c)
    (I := fun st => ∃ (l : List (List Int)) (f i : Nat), st = (l, (f : Int), (i : Int)) ∧ ((i ≤ s.length ∧ f ≤ i ∧ l.length ≤ i ∧ (∀ x ∈ (s.take i).drop f, x ≠ c) ∧ splitI s c = l ++ splitI (s.drop f) c) ∨ (i = s.length + 1 ∧ l = splitI s c)))
    (m := fun st => s.length + 1 - st.2.2.toNat) (Q := fun q => q = .inr (splitI s c)) (fun st ⟨l, f, i, e, h⟩ => by
    subst e
    unfold F_wlvref_Split_L5
    dsimp only
    rcases h with ⟨h1, h2, h3, h4, h5⟩ | ⟨h1, h2⟩
    · rw [decide_eq_true (show (i : Int) ≤ (s.length : Int) by omega), cond_true]
      have hw : IntKind.i64.wrap ((i : Int) + 1) = ((i + 1 : Nat) : Int) := by rw [wrap_in (by omega) (by omega)]; omega
      have hcut := cutI_nat (s := s) h2 h1
      unfold chk
      rw [hw]
      by_cases hl : i = s.length
      · rw [show ((i : Int) == (s.length : Int)) = true from beq_iff_eq.2 (by omega), cond_true, hcut, Option.bind_some, chk16 (by show l.length + 1 ≤ _; omega), cond_true]
        refine .inr ⟨_, rfl, ⟨_, i + 1, i + 1, rfl, .inr ⟨by omega, ?_⟩⟩, ?_⟩
        · rw [List.take_of_length_le (by omega)] at h4 ⊢
          rw [h5, splitI_miss h4]
        · show s.length + 1 - ((i + 1 : Nat) : Int).toNat < s.length + 1 - (i : Int).toNat
          omega
      · have hlt : i < s.length := by omega
        rw [show ((i : Int) == (s.length : Int)) = false from beq_eq_false_iff_ne.2 (by omega), cond_false, getI_nat (List.getElem?_eq_getElem hlt), Option.bind_some]
        have hm : s.length + 1 - ((i + 1 : Nat) : Int).toNat < s.length + 1 - (i : Int).toNat := by omega
        have hsp : s.drop f = (s.take i).drop f ++ s[i] :: s.drop (i + 1) := by
          have e1 : s = s.take i ++ s[i] :: s.drop (i + 1) := by rw [List.getElem_cons_drop, List.take_append_drop]
          conv => lhs; rw [e1]
          rw [List.drop_append_of_le_length (by rw [List.length_take]; omega)]
        by_cases hc : s[i] = c
        · rw [show (s[i] == c) = true from beq_iff_eq.2 hc, cond_true, hcut, Option.bind_some, chk16 (by show l.length + 1 ≤ _; omega), cond_true]
          refine .inr ⟨_, rfl, ⟨_, i + 1, i + 1, rfl, .inl ⟨by omega, by omega, by simp; omega, ?_, ?_⟩⟩, hm⟩
          · rw [List.drop_of_length_le (by rw [List.length_take]; omega)]
            intro x hx; cases hx
          · rw [h5, hsp, hc, splitI_hit h4, List.append_assoc]; rfl
        · rw [show (s[i] == c) = false from beq_eq_false_iff_ne.2 hc, cond_false]
          refine .inr ⟨_, rfl, ⟨l, f, i + 1, rfl, .inl ⟨by omega, by omega, by omega, ?_, h5⟩⟩, hm⟩
          intro x hx
          rw [List.take_add_one, List.getElem?_eq_getElem hlt, List.drop_append_of_le_length (by rw [List.length_take]; omega)] at hx
          rcases List.mem_append.1 hx with hx | hx
          · exact h4 x hx
          · have : x = s[i] := by simpa using hx
            rw [this]; exact hc
    · rw [decide_eq_false (by omega), cond_false]
      exact .inl ⟨_, rfl, by rw [h2]⟩) (([] : List (List Int)), 0, 0) ⟨[], 0, 0, rfl, .inl ⟨by omega, by omega, by simp, by simp, rfl⟩⟩
  subst h2
  unfold F_wlvref_Split
  rw [h1]
  rfl
theorem SplitL_eq (s : List Int) (c : Int) (hs : s.length ≤ 1000000) : F_strings_Split s [c] = some (splitI s c) := by
  show cond (Nat.ble s.length 4000000000) (some (splitI s c)) none = _
  rw [Nat.ble_eq_true_of_le (by omega)]; rfl
/-! ### numbers -/
theorem decimal_eq (s : List Int) (most : Int) (hs : s.length ≤ 1000000) (hm : most ≤ 9223372036854775807) :
    ∃ x, F_addr_decimal s most = some (x, canonB s && decide (valI s ≤ most)) ∧ (canonB s = true → valI s ≤ most → x = valI s) := by
  obtain ⟨k1, k2⟩ := decimal_law s most hm
  unfold F_addr_decimal
  have ha : F_strconv_Atoi s = some (atoiP s) := by
    unfold F_strconv_Atoi
    rw [Nat.ble_eq_true_of_le (by omega)]; rfl
  rw [ha, Option.bind_some]
  refine ⟨(atoiP s).1, ?_, fun h1 h2 => (k1 ⟨h1, h2⟩).2.1⟩
  cases hc : (canonB s && decide (valI s ≤ most)) with
  | true =>
    rw [Bool.and_eq_true, decide_eq_true_iff] at hc
    obtain ⟨q1, q2, q3⟩ := k1 hc
    have hp := valI_nn _ s rfl (by have := hc.1; unfold canonB at this; exact (Bool.and_eq_true _ _ ▸ this).1)
    rw [q1, q2, decide_eq_true (show valI s ≥ 0 from hp), decide_eq_true hc.2]
    rw [show (notB false && true && true) = true from rfl, cond_true]
    unfold F_strconv_Itoa
    rw [Option.bind_some, q3, beq_self_eq_true]
  | false =>
    cases hq : (notB (atoiP s).2 && decide ((atoiP s).1 ≥ 0)) && decide ((atoiP s).1 ≤ most) with
    | false => rfl
    | true =>
      rw [cond_true]
      unfold F_strconv_Itoa
      rw [Option.bind_some]
      have hq' := hq
      rw [Bool.and_eq_true, Bool.and_eq_true, decide_eq_true_iff, decide_eq_true_iff] at hq'
      cases he : itoaI (atoiP s).1 == s with
      | false => rfl
      | true =>
        exfalso
        obtain ⟨r1, r2⟩ := k2 (by
          have := hq'.1.1
          cases hb : (atoiP s).2 with
          | false => rfl
          | true => rw [hb] at this; cases this) hq'.1.2 hq'.2 (beq_iff_eq.1 he)
        rw [r1, r2, decide_eq_true hq'.2] at hc
        cases hc
theorem val_lt : ∀ (k : Nat) (s : List Int), s.length = k → s.all isDig = true → valI s < 10 ^ k := fun k => by
  induction k with
  | zero => intro s h _; rw [List.length_eq_zero_iff.1 h]; decide
  | succ k ih =>
    intro s h hd
    rcases List.eq_nil_or_concat s with rfl | ⟨s', c, rfl⟩
    · simp at h
    · rw [List.concat_eq_append] at h hd ⊢
      rw [List.all_append, Bool.and_eq_true] at hd
      have hc := dig_of (c := c) (by simpa using hd.2)
      have := ih s' (by simp at h; omega) hd.1
      rw [valI_snoc, Int.pow_succ]
      omega
theorem u8_in {x : Int} (h0 : 0 ≤ x) (h1 : x ≤ 255) : IntKind.u8.wrap x = x := by
  show (if (false && decide (x % 256 ≥ 128)) = true then x % 256 - 256 else x % 256) = x
  simp
  omega
theorem Num_loop (s : List Int) (h17 : s.length ≤ 17) : loopC (F_wlvref_Num_L7 s) (0, 0) = some (cond (s.all isDig) (.inr (valI s)) (.inl (0, false))) := by
  obtain ⟨r, h1, h2⟩ := loop_inv (body := F_wlvref_Num_L7 s) (I := fun st => ∃ i : Nat, i ≤ s.length ∧ (s.take i).all isDig = true ∧ st = (valI (s.take i), (i : Int))) (m := fun st => s.length - st.2.toNat) (Q := fun q => q = cond (s.all isDig) (.inr (valI s)) (.inl (0, false))) (fun st ⟨i, hi, hd, e⟩ => by
    subst e
    unfold F_wlvref_Num_L7
    dsimp only
    by_cases hl : i < s.length
    · have hg := getI_nat (List.getElem?_eq_getElem hl)
      rw [decide_eq_true (by omega), cond_true, hg, Option.bind_some]
      have hall : isDig s[i] = false → s.all isDig = false := fun h => by
        rw [List.all_eq_false]
        exact ⟨s[i], List.getElem_mem hl, by rw [h]; decide⟩
      by_cases h48 : s[i] < 48
      · rw [decide_eq_true h48, cond_true, hall (by unfold isDig; rw [decide_eq_false (by omega)]; rfl)]
        exact .inl ⟨_, rfl, rfl⟩
      · rw [decide_eq_false h48, cond_false, Option.bind_some]
        by_cases h57 : s[i] > 57
        · rw [decide_eq_true h57, cond_true, hall (by unfold isDig; rw [decide_eq_false (show ¬ s[i] ≤ 57 by omega), Bool.and_false])]
          exact .inl ⟨_, rfl, rfl⟩
        · rw [decide_eq_false h57, cond_false, Option.bind_some]
          have hv0 := valI_nn _ (s.take i) rfl hd
          have hv1 := val_lt _ (s.take i) rfl hd
          have hv2 : (10 : Int) ^ (s.take i).length ≤ 10 ^ 17 := by
            rw [List.length_take]
            have : (10 : Nat) ^ (min i s.length) ≤ 10 ^ 17 := Nat.pow_le_pow_right (by omega) (by omega)
            exact_mod_cast this
          have hv3 : (10 : Int) ^ 17 = 100000000000000000 := by decide
          have ht : s.take (i + 1) = s.take i ++ [s[i]] := by rw [List.take_add_one, List.getElem?_eq_getElem hl]; rfl
          refine .inr ⟨_, rfl, ⟨i + 1, by omega, ?_, ?_⟩, ?_⟩
          · rw [ht, List.all_append, hd]
            simp [isDig]
            omega
          · rw [ht, valI_snoc, u8_in (by omega) (by omega), wrap_in (x := valI (s.take i) * 10) (by omega) (by omega), wrap_in (x := s[i] - 48) (by omega) (by omega), wrap_in (by omega) (by omega), wrap_in (by omega) (by omega)]
            rfl
          · show s.length - (IntKind.i64.wrap ((i : Int) + 1)).toNat < s.length - (i : Int).toNat
            rw [wrap_in (by omega) (by omega)]
            omega
    · rw [decide_eq_false (by omega), cond_false]
      rw [List.take_of_length_le (by omega)] at hd
      refine .inl ⟨_, rfl, ?_⟩
      rw [hd, cond_true, List.take_of_length_le (by omega)]) (0, 0) ⟨0, by omega, by simp, by simp [valI]⟩
  rw [h1, h2]
theorem Num_eq (s : List Int) (lo hi : Int) :
    ∃ x, F_wlvref_Num s lo hi = some (x, canonB s && decide (s.length ≤ 17) && (decide (lo ≤ valI s) && decide (valI s ≤ hi))) ∧ (canonB s = true → s.length ≤ 17 → x = valI s) := by
  unfold F_wlvref_Num
  match s with
  | [] => exact ⟨0, rfl, fun h => by cases h⟩
  | c :: r =>
    by_cases h17 : (c :: r).length ≤ 17
    · have : (decide (((c :: r).length : Int) < 1) || decide (((c :: r).length : Int) > 17)) = false := by simp at h17 ⊢; omega
      rw [this, cond_false, decide_eq_true h17, Bool.and_true]
      have key : joinC (S := Int) (R := Int × Bool) (loopC (S := Int × Int) (R := (Int × Bool) ⊕ (Int)) (F_wlvref_Num_L7 (c :: r)) (0, 0)) (F_wlvref_Num_J5 lo hi) = some (cond ((c :: r).all isDig) (valI (c :: r), decide (lo ≤ valI (c :: r)) && decide (valI (c :: r) ≤ hi)) (0, false)) := by
        rw [Num_loop _ h17]
        cases (c :: r).all isDig <;> rfl
      cases r with
      | nil =>
        rw [decide_eq_false (by simp), cond_false, key]
        have hcan : canonB [c] = [c].all isDig := by unfold canonB; rw [Bool.and_true]
        rw [hcan]
        cases hd : [c].all isDig with
        | true => exact ⟨_, rfl, fun _ _ => rfl⟩
        | false => exact ⟨_, rfl, fun h => by cases h⟩
      | cons d r =>
        have hcan : canonB (c :: d :: r) = ((c :: d :: r).all isDig && (c != 48)) := rfl
        rw [decide_eq_true (by simp; omega), cond_true, show getI (c :: d :: r) 0 = some c from rfl, Option.bind_some, key, hcan]
        by_cases h48 : c = 48
        · rw [beq_iff_eq.2 h48, cond_true, show (c != 48) = false by rw [h48]; rfl, Bool.and_false]
          exact ⟨_, rfl, fun h => by cases h⟩
        · rw [beq_eq_false_iff_ne.2 h48, cond_false, bne_iff_ne.2 h48, Bool.and_true]
          cases hd : (c :: d :: r).all isDig with
          | true => exact ⟨_, rfl, fun _ _ => rfl⟩
          | false => exact ⟨_, rfl, fun h => by cases h⟩
    · have : (decide (((c :: r).length : Int) < 1) || decide (((c :: r).length : Int) > 17)) = true := by simp at h17 ⊢; omega
      rw [this, cond_true, decide_eq_false h17, Bool.and_false]
      exact ⟨_, rfl, fun _ h => absurd h h17⟩
end Go.Proofs.YtblngdnndkljoaaDoor

/- Addresses of four bytes, and texts without a colon. -/
namespace Go.Proofs.YtblngdnndkljoaaDoor
open Pv
set_option linter.unusedVariables false
def byteB (w : List Int) : Bool := canonB w && decide (valI w ≤ 255)
def fourR (s : List Int) : List Int × Bool := cond (decide ((splitI s 46).length = 4) && (splitI s 46).all byteB) ((splitI s 46).map valI, true) ([], false)
theorem byte_val {w : List Int} (h : byteB w = true) : 0 ≤ valI w ∧ valI w ≤ 255 := by
  unfold byteB at h
  rw [Bool.and_eq_true, decide_eq_true_iff] at h
  have := h.1
  unfold canonB at this
  exact ⟨valI_nn _ w rfl (Bool.and_eq_true _ _ ▸ this).1, h.2⟩
theorem split_mem_len {s w : List Int} {c : Int} (h : w ∈ splitI s c) : w.length ≤ s.length := by
  have h1 := splitI_sum s c
  have h2 : w.length ≤ ((splitI s c).map List.length).sum := mem_sum (List.mem_map.2 ⟨w, h, rfl⟩)
  have h3 : 0 < (splitI s c).length := List.length_pos_iff.2 (splitI_ne s c)
  omega
theorem all_snoc {l : List (List Int)} {i : Nat} {w : List Int} (h : l[i]? = some w) (ha : (l.take i).all byteB = true) (hw : byteB w = true) : (l.take (i + 1)).all byteB = true := by
  rw [List.take_add_one, h, List.all_append, ha]
  simp [hw]
theorem all_bad {l : List (List Int)} {i : Nat} {w : List Int} (h : l[i]? = some w) (hw : byteB w = false) : l.all byteB = false := by
  rw [List.all_eq_false]
  exact ⟨w, List.mem_of_getElem? h, by rw [hw]; decide⟩
theorem map_snoc {l : List (List Int)} {i : Nat} {w : List Int} (h : l[i]? = some w) : (l.take (i + 1)).map valI = (l.take i).map valI ++ [valI w] := by
  rw [List.take_add_one, h, List.map_append]; rfl
theorem dotted_loop (l : List (List Int)) (hl : l.length = 4) (hw : ∀ w ∈ l, w.length ≤ 1000000) : loopC (F_addr_dotted_L8 l) (([] : List Int), l, 0) = some (cond (l.all byteB) (.inr (l.map valI)) (.inl ([], false))) := by
  obtain ⟨r, h1, h2⟩ := loop_inv (body := F_addr_dotted_L8 l) (I := fun st => ∃ i : Nat, i ≤ 4 ∧ (l.take i).all byteB = true ∧ st = ((l.take i).map valI, l, (i : Int))) (m := fun st => 4 - st.2.2.toNat) (Q := fun q => q = cond (l.all byteB) (.inr (l.map valI)) (.inl ([], false))) (fun st ⟨i, hi, hd, e⟩ => by
    subst e
    unfold F_addr_dotted_L8
    dsimp only
    by_cases hlt : i < 4
    · have hg := List.getElem?_eq_getElem (l := l) (i := i) (by omega)
      obtain ⟨x, hx1, hx2⟩ := decimal_eq l[i] 255 (hw _ (List.getElem_mem _)) (by omega)
      rw [show (canonB l[i] && decide (valI l[i] ≤ 255)) = byteB l[i] from rfl] at hx1
      rw [decide_eq_true (by omega), cond_true, getI_nat hg, Option.bind_some, hx1, Option.bind_some]
      cases hb : byteB l[i] with
      | false =>
        rw [all_bad hg hb]
        exact .inl ⟨_, rfl, rfl⟩
      | true =>
        have hv := byte_val hb
        have hxv : x = valI l[i] := by
          unfold byteB at hb
          rw [Bool.and_eq_true, decide_eq_true_iff] at hb
          exact hx2 hb.1 hb.2
        subst hxv
        unfold chk
        rw [Bool.not_true, cond_false, chk1 (by rw [List.length_map, List.length_take]; show _ + 1 ≤ _; omega), cond_true, u8_in hv.1 hv.2, wrap_in (by omega) (by omega)]
        refine .inr ⟨_, rfl, ⟨i + 1, by omega, all_snoc hg hd hb, by rw [map_snoc hg]; rfl⟩, ?_⟩
        show 4 - ((i : Int) + 1).toNat < 4 - (i : Int).toNat
        omega
    · rw [decide_eq_false (by omega), cond_false]
      rw [List.take_of_length_le (by omega)] at hd
      refine .inl ⟨_, rfl, ?_⟩
      rw [hd, cond_true, List.take_of_length_le (by omega)]) (([] : List Int), l, 0) ⟨0, by omega, by simp, by simp⟩
  rw [h1, h2]
theorem dotted_eq (s : List Int) (hs : s.length ≤ 1000000) : F_addr_dotted s = some (fourR s) := by
  unfold F_addr_dotted fourR
  rw [SplitL_eq s 46 hs, Option.bind_some]
  by_cases h4 : (splitI s 46).length = 4
  · rw [show (((splitI s 46).length : Int) != 4) = false by rw [h4]; rfl, cond_false, decide_eq_true h4, Bool.true_and, dotted_loop _ h4 fun w hw => by have := split_mem_len hw; omega]
    cases (splitI s 46).all byteB <;> rfl
  · rw [show (((splitI s 46).length : Int) != 4) = true from bne_iff_ne.2 (by omega), cond_true, decide_eq_false h4]
    rfl
theorem byte_num (w : List Int) : (canonB w && decide (w.length ≤ 17) && (decide (0 ≤ valI w) && decide (valI w ≤ 255))) = byteB w := by
  unfold byteB
  cases hc : canonB w with
  | false => rfl
  | true =>
    by_cases hv : valI w ≤ 255
    · obtain ⟨n, h1, h2⟩ := canon_eq _ w rfl hc
      have := dgs_len 2 n (by omega)
      rw [← h1] at this
      rw [decide_eq_true (show w.length ≤ 17 by omega), decide_eq_true hv, decide_eq_true (by omega)]; rfl
    · rw [decide_eq_false hv]
      simp
theorem four_loop (l : List (List Int)) (hl : l.length = 4) : loopC F_wlvref15_four_L8 (l, ([] : List Int), 0) = some (cond (l.all byteB) (.inr (l.map valI)) (.inl ([], false))) := by
  obtain ⟨r, h1, h2⟩ := loop_inv (body := F_wlvref15_four_L8) (I := fun st => ∃ i : Nat, i ≤ 4 ∧ (l.take i).all byteB = true ∧ st = (l, (l.take i).map valI, (i : Int))) (m := fun st => 4 - st.2.2.toNat) (Q := fun q => q = cond (l.all byteB) (.inr (l.map valI)) (.inl ([], false))) (fun st ⟨i, hi, hd, e⟩ => by
    subst e
    unfold F_wlvref15_four_L8
    dsimp only
    by_cases hlt : i < 4
    · have hg := List.getElem?_eq_getElem (l := l) (i := i) (by omega)
      obtain ⟨x, hx1, hx2⟩ := Num_eq l[i] 0 255
      rw [byte_num] at hx1
      rw [decide_eq_true (by omega), cond_true, getI_nat hg, Option.bind_some, hx1, Option.bind_some]
      cases hb : byteB l[i] with
      | false =>
        rw [all_bad hg hb]
        exact .inl ⟨_, rfl, rfl⟩
      | true =>
        have hv := byte_val hb
        have hxv : x = valI l[i] := by
          have hq := byte_num l[i]
          rw [hb, Bool.and_eq_true, Bool.and_eq_true, decide_eq_true_iff] at hq
          exact hx2 hq.1.1 hq.1.2
        subst hxv
        unfold chk
        rw [Bool.not_true, cond_false, chk1 (by rw [List.length_map, List.length_take]; show _ + 1 ≤ _; omega), cond_true, u8_in hv.1 hv.2, wrap_in (by omega) (by omega)]
        refine .inr ⟨_, rfl, ⟨i + 1, by omega, all_snoc hg hd hb, by rw [map_snoc hg]; rfl⟩, ?_⟩
        show 4 - ((i : Int) + 1).toNat < 4 - (i : Int).toNat
        omega
    · rw [decide_eq_false (by omega), cond_false]
      rw [List.take_of_length_le (by omega)] at hd
      refine .inl ⟨_, rfl, ?_⟩
      rw [hd, cond_true, List.take_of_length_le (by omega)]) (l, ([] : List Int), 0) ⟨0, by omega, by simp, by simp⟩
  rw [h1, h2]
theorem four_eq (s : List Int) (hs : s.length ≤ 1000000) : F_wlvref15_four s = some (fourR s) := by
  unfold F_wlvref15_four fourR
  rw [Split_eq s 46 hs, Option.bind_some]
  by_cases h4 : (splitI s 46).length = 4
  · rw [show (((splitI s 46).length : Int) != 4) = false by rw [h4]; rfl, cond_false, decide_eq_true h4, Bool.true_and, four_loop _ h4]
    cases (splitI s 46).all byteB <;> rfl
  · rw [show (((splitI s 46).length : Int) != 4) = true from bne_iff_ne.2 (by omega), cond_true, decide_eq_false h4]
    rfl
end Go.Proofs.YtblngdnndkljoaaDoor

/- host.Name in plain words; the first input. -/
namespace Go.Proofs.YtblngdnndkljoaaDoor
open Pv
set_option linter.unusedVariables false
theorem cond_ex {b : Bool} {x y : Option Int} (hx : ∃ d, x = some d) (hy : ∃ d, y = some d) : ∃ d, cond b x y = some d := by
  cases b
  · exact hy
  · exact hx
theorem some_ex (x : Int) : ∃ d, some x = some d := ⟨x, rfl⟩
noncomputable def sg (c : Int) : Int := (F_host_sign c).getD 0
theorem sign_eq (c : Int) : F_host_sign c = some (sg c) := by
  have : ∃ d, F_host_sign c = some d := by
    unfold F_host_sign
    repeat' (first | with_reducible exact some_ex _ | with_reducible apply cond_ex)
  obtain ⟨d, hd⟩ := this
  unfold sg
  rw [hd]; rfl
def endsB (out : List Int) (n : Nat) : Bool := n == 0 || out.getLast? == some 45
noncomputable def nameP : List Int → Nat → List Int → Option (List Int)
  | out, n, [] => cond (endsB out n) none (some out)
  | out, n, c :: r => cond (c == 46) (cond (endsB out n) none (nameP (out ++ [46]) 0 r)) (cond (sg c == 0 || n == 63 || (sg c == 45 && n == 0)) none (nameP (out ++ [sg c]) (n + 1) r))
def resN : Option (List Int) → List Int × Int
  | none => ([], 2)
  | some b => (b, 0)
noncomputable def nameR (s : List Int) : List Int × Int := resN (cond (decide (253 < s.length)) none (nameP [] 0 s))
theorem name_wrong (s : List Int) (x : List Int × Int × Int) : loopC (F_host_Name_G1 s) (0, x) = some ([], 2) := loop_inl rfl
theorem last_of {out : List Int} (h : out ≠ []) (hl : out.length ≤ 1000) : ∃ x, getI out (IntKind.i64.wrap ((out.length : Int) - 1)) = some x ∧ out.getLast? = some x := by
  have : 0 < out.length := List.length_pos_iff.2 h
  rw [wrap_in (by omega) (by omega)]
  obtain ⟨x, h1, h2⟩ := getI_of (l := out) (j := (out.length : Int) - 1) (by omega) (by omega)
  refine ⟨x, h1, ?_⟩
  rw [List.getLast?_eq_getElem?, ← h2]
  congr 1
  omega
theorem chk_out {a b : Nat} (h : a + b ≤ 1000000) : (decide ((a + b) * 1 ≤ 140737488355328) && decide (a + b ≤ maxLen)) = true := by
  rw [decide_eq_true (by omega), decide_eq_true (by have : maxLen = 9223372036854775807 := rfl; omega)]; rfl
theorem beq_nat (a b : Nat) : ((a : Int) == (b : Int)) = (a == b) := by
  by_cases h : a = b
  · subst h; simp
  · rw [beq_eq_false_iff_ne.2 h, beq_eq_false_iff_ne.2 (by omega)]
theorem name_end {s out : List Int} {i n : Nat} (hn : n = 0 ∨ out ≠ []) (ho : out.length ≤ 253) :
    (endsB out n = true → loopC (F_host_Name_G1 s) (1, (out, (i : Int), (n : Int))) = some ([], 2)) ∧
    (endsB out n = false → (i = s.length → loopC (F_host_Name_G1 s) (1, (out, (i : Int), (n : Int))) = some (out, 0)) ∧ (i < s.length → i ≤ 253 → ∀ r, loopC (F_host_Name_G1 s) (2, (out ++ [46], ((i + 1 : Nat) : Int), ((0 : Nat) : Int))) = some r → loopC (F_host_Name_G1 s) (1, (out, (i : Int), (n : Int))) = some r)) := by
  have hG : F_host_Name_G1 s (1, (out, (i : Int), (n : Int))) = F_host_Name_G1_1 s (out, (i : Int), (n : Int)) := rfl
  by_cases h0 : n = 0
  · subst h0
    refine ⟨fun _ => loop_inr (s' := (0, (out, (i : Int), 0))) ?_ (name_wrong s _), fun h => by simp [endsB] at h⟩
    rw [hG]; rfl
  · obtain ⟨x, h1, h2⟩ := last_of (hn.resolve_left h0) (by omega)
    have hz : ((n : Int) == 0) = false := beq_eq_false_iff_ne.2 (by omega)
    have hz' : (n == 0) = false := beq_eq_false_iff_ne.2 h0
    by_cases hx : x = 45
    · subst hx
      refine ⟨fun _ => loop_inr (s' := (0, (out, (i : Int), (n : Int)))) ?_ (name_wrong s _), fun h => by simp [endsB, h2] at h⟩
      rw [hG]
      unfold F_host_Name_G1_1
      dsimp only
      rw [hz, cond_false, h1]; rfl
    · have hx' : (x == 45) = false := beq_eq_false_iff_ne.2 hx
      refine ⟨fun h => ?_, fun _ => ⟨fun hi => loop_inl ?_, fun hi hi2 r hr => loop_inr ?_ hr⟩⟩
      · unfold endsB at h
        rw [hz', h2] at h
        simp [hx] at h
      · rw [hG]
        unfold F_host_Name_G1_1
        dsimp only
        rw [hz, cond_false, h1, Option.bind_some, hx', cond_false, beq_nat, hi, beq_self_eq_true, cond_true]
      · rw [hG]
        unfold F_host_Name_G1_1
        dsimp only
        rw [hz, cond_false, h1, Option.bind_some, hx', cond_false, beq_nat, beq_eq_false_iff_ne.2 (by omega), cond_false]
        unfold chk
        rw [chk_out (by show out.length + 1 ≤ _; omega), cond_true, wrap_in (by omega) (by omega)]
        rfl
theorem name_loop (s : List Int) (hs : s.length ≤ 253) : ∀ (r out : List Int) (n i : Nat), s.drop i = r → i ≤ s.length → (n = 0 ∨ out ≠ []) → out.length ≤ i → n ≤ 63 → loopC (F_host_Name_G1 s) (2, (out, (i : Int), (n : Int))) = some (resN (nameP out n r))
  | [], out, n, i, hd, hi, hn, ho, hn2 => by
    have hl : i = s.length := by
      have := congrArg List.length hd
      simp at this
      omega
    have hG : F_host_Name_G1 s (2, (out, (i : Int), (n : Int))) = some (.inr (1, (out, (i : Int), (n : Int)))) := by
      show F_host_Name_G1_2 s (out, (i : Int), (n : Int)) = _
      unfold F_host_Name_G1_2
      dsimp only
      rw [beq_nat, hl, beq_self_eq_true, cond_true]
    have he := name_end (s := s) (i := i) hn (by omega)
    refine loop_inr hG ?_
    unfold nameP
    cases hb : endsB out n with
    | true => exact he.1 hb
    | false => exact (he.2 hb).1 hl
  | c :: r, out, n, i, hd, hi, hn, ho, hn2 => by
    have hlt : i < s.length := by
      have := congrArg List.length hd
      simp at this
      omega
    have hr : s.drop (i + 1) = r := by rw [← List.tail_drop, hd]; rfl
    have hc : s[i]? = some c := by rw [← List.head?_drop, hd]; rfl
    have hg : getI s (i : Int) = some c := by
      unfold getI
      rw [decide_eq_true (by omega), cond_true, Int.toNat_natCast, hc]
    have hG : F_host_Name_G1 s (2, (out, (i : Int), (n : Int))) = cond (c == 46) (some (.inr (1, (out, (i : Int), (n : Int))))) (cond ((sg c == 0) || ((n : Int) == 63)) (some (.inr (0, (out, (i : Int), (n : Int))))) (cond ((sg c == 45) && ((n : Int) == 0)) (some (.inr (0, (out, (i : Int), (n : Int))))) (some (.inr (2, (out ++ [sg c], ((i + 1 : Nat) : Int), ((n + 1 : Nat) : Int))))))) := by
      show F_host_Name_G1_2 s (out, (i : Int), (n : Int)) = _
      unfold F_host_Name_G1_2
      dsimp only
      rw [beq_nat, beq_eq_false_iff_ne.2 (show i ≠ s.length by omega), cond_false, hg, Option.bind_some, Option.bind_some, sign_eq, Option.bind_some]
      unfold chk
      rw [chk_out (by show out.length + 1 ≤ _; omega), cond_true, wrap_in (by omega) (by omega), wrap_in (by omega) (by omega)]
      rfl
    have he := name_end (s := s) (i := i) hn (by omega)
    unfold nameP
    cases h46 : c == 46 with
    | true =>
      rw [h46, cond_true] at hG
      rw [cond_true]
      refine loop_inr hG ?_
      cases hb : endsB out n with
      | true => exact he.1 hb
      | false =>
        refine (he.2 hb).2 hlt (by omega) _ ?_
        exact name_loop s hs r (out ++ [46]) 0 (i + 1) hr (by omega) (.inl rfl) (by simp; omega) (by omega)
    | false =>
      have e63 : ((n : Int) == 63) = (n == 63) := beq_nat n 63
      have e0 : ((n : Int) == 0) = (n == 0) := beq_nat n 0
      rw [h46, cond_false, e63, e0] at hG
      rw [cond_false]
      cases h1 : (sg c == 0) || (n == 63) with
      | true =>
        rw [h1, cond_true] at hG
        rw [Bool.true_or, cond_true]
        exact loop_inr hG (name_wrong s _)
      | false =>
        rw [h1, cond_false] at hG
        rw [Bool.false_or]
        cases h2 : (sg c == 45) && (n == 0) with
        | true =>
          rw [h2, cond_true] at hG
          rw [cond_true]
          exact loop_inr hG (name_wrong s _)
        | false =>
          rw [h2, cond_false] at hG
          rw [cond_false]
          have hne : n ≠ 63 := by
            rcases Bool.or_eq_false_iff.1 h1 with ⟨_, h⟩
            exact beq_eq_false_iff_ne.1 h
          refine loop_inr hG ?_
          exact name_loop s hs r (out ++ [sg c]) (n + 1) (i + 1) hr (by omega) (.inr (by simp)) (by simp; omega) (by omega)
theorem name_form (s : List Int) : F_host_Name s = joinC (S := Nat × List Int × Int × Int) (R := List Int × Int) (cond (decide ((s.length : Int) > 253)) (some (.inr (0, (([] : List Int), 0, 0)))) (F_host_Name_G1_2 s ([], 0, 0))) (fun p => loopC (S := Nat × List Int × Int × Int) (R := List Int × Int) (F_host_Name_G1 s) p) := rfl
theorem name_eq (s : List Int) : F_host_Name s = some (nameR s) := by
  rw [name_form]
  unfold nameR
  by_cases h : 253 < s.length
  · rw [decide_eq_true (show (s.length : Int) > 253 by omega), decide_eq_true h, cond_true, cond_true]
    exact name_wrong s _
  · rw [decide_eq_false (show ¬ (s.length : Int) > 253 by omega), decide_eq_false h, cond_false, cond_false]
    have hl := name_loop s (by omega) s [] 0 0 rfl (by omega) (.inl rfl) (by simp) (by omega)
    obtain ⟨k, hk⟩ := iter_of_loop' hl
    cases k with
    | zero => cases hk
    | succ k =>
      unfold iterC at hk
      have hG : F_host_Name_G1 s (2, (([] : List Int), ((0 : Nat) : Int), ((0 : Nat) : Int))) = F_host_Name_G1_2 s ([], 0, 0) := rfl
      rw [hG] at hk
      split at hk
      · cases hk
      · rename_i r hr
        rw [hr]
        exact hk
      · rename_i x hx
        rw [hx]
        exact loop_of_iter hk
abbrev exO : List Int := [69, 120, 97, 109, 112, 108, 101, 46, 111, 114, 103]
theorem ex_dotted : F_addr_dotted exO = some ([], false) := by kernel_rfl
theorem ex_coloned : F_addr_coloned exO = some ([], false) := by
  unfold F_addr_coloned
  refine (join_inr (s := (2, (([] : List Int), (-1), 1, 14, 1))) (by kernel_rfl)).trans (loop_of_iter (n := 3) (by kernel_rfl))
theorem ex_name : F_host_Name exO = some ([101, 120, 97, 109, 112, 108, 101, 46, 111, 114, 103], 0) := by
  rw [name_eq]
  kernel_rfl
theorem ex_parse : F_addr_Parse exO = some ([], 2) := by
  unfold F_addr_Parse
  rw [ex_dotted, Option.bind_some, Bool.not_false, cond_true, ex_coloned, Option.bind_some]
  kernel_rfl
theorem first16 : F_wlvlaw16_first = some true := by
  have hp : F_host_place exO = some ([101, 120, 97, 109, 112, 108, 101, 46, 111, 114, 103], [], true) := by
    unfold F_host_place
    rw [show F_strings_HasPrefix exO [91] = some false by kernel_rfl, Option.bind_some, cond_false, ex_parse, Option.bind_some, ex_name]
    rfl
  have ha : F_host_Authority ([69, 120, 97, 109, 112, 108, 101, 46, 111, 114, 103, 58, 52, 52, 51] : List Int) = some ([101, 120, 97, 109, 112, 108, 101, 46, 111, 114, 103], [], 443, 0) := by
    unfold F_host_Authority
    rw [show F_strings_LastIndexByte ([69, 120, 97, 109, 112, 108, 101, 46, 111, 114, 103, 58, 52, 52, 51] : List Int) 58 = some 11 by kernel_rfl, Option.bind_some]
    rw [show (decide ((11 : Int) < 0)) = false from rfl, cond_false]
    rw [show cutI ([69, 120, 97, 109, 112, 108, 101, 46, 111, 114, 103, 58, 52, 52, 51] : List Int) (IntKind.i64.wrap (11 + 1)) (([69, 120, 97, 109, 112, 108, 101, 46, 111, 114, 103, 58, 52, 52, 51] : List Int).length : Int) = some [52, 52, 51] by kernel_rfl, Option.bind_some]
    rw [show F_strconv_Atoi ([52, 52, 51] : List Int) = some (443, false) by kernel_rfl, Option.bind_some]
    rw [show cutI ([69, 120, 97, 109, 112, 108, 101, 46, 111, 114, 103, 58, 52, 52, 51] : List Int) 0 11 = some exO by kernel_rfl, Option.bind_some, hp, Option.bind_some]
    kernel_rfl
  unfold F_wlvlaw16_first
  rw [ha]
  rfl
end Go.Proofs.YtblngdnndkljoaaDoor

/- Texts without a colon: the program's and the reference's addresses. -/
namespace Go.Proofs.YtblngdnndkljoaaDoor
open Pv
set_option linter.unusedVariables false
theorem digit_ex (c : Int) : ∃ d, F_addr_digit c = some d := by
  unfold F_addr_digit
  repeat' (first | with_reducible exact some_ex _ | with_reducible apply cond_ex)
theorem prefix_lit (s p : List Int) (hs : s.length ≤ 1000000) : F_strings_HasPrefix s p = some (decide (p.length ≤ s.length) && (s.take p.length == p)) := by
  unfold F_strings_HasPrefix F_internal_stringslite_HasPrefix
  by_cases h : p.length ≤ s.length
  · rw [decide_eq_true (show (s.length : Int) ≥ (p.length : Int) by omega), cond_true, decide_eq_true h, Bool.true_and]
    have := cutI_nat (s := s) (a := 0) (b := p.length) (by omega) h
    rw [show cutI s 0 (p.length : Int) = some (s.take p.length) from this]
    rfl
  · rw [decide_eq_false (show ¬ (s.length : Int) ≥ (p.length : Int) by omega), cond_false, decide_eq_false h]
    rfl
theorem Plain_ex (s : List Int) (hs : s.length ≤ 1000000) : ∃ p, F_addr_Plain s = some p := by
  unfold F_addr_Plain F_strings_TrimPrefix F_internal_stringslite_TrimPrefix
  have hp := prefix_lit s [0, 0, 0, 0, 0, 0, 0, 0, 0, 0, 255, 255] hs
  unfold F_strings_HasPrefix at hp
  have hp2 : F_internal_stringslite_HasPrefix s [0, 0, 0, 0, 0, 0, 0, 0, 0, 0, 255, 255] = some (decide (([0, 0, 0, 0, 0, 0, 0, 0, 0, 0, 255, 255] : List Int).length ≤ s.length) && (s.take ([0, 0, 0, 0, 0, 0, 0, 0, 0, 0, 255, 255] : List Int).length == [0, 0, 0, 0, 0, 0, 0, 0, 0, 0, 255, 255])) := by
    cases hq : F_internal_stringslite_HasPrefix s [0, 0, 0, 0, 0, 0, 0, 0, 0, 0, 255, 255] with
    | none => rw [hq] at hp; cases hp
    | some b => rw [hq] at hp; exact hp
  rw [hp2, Option.bind_some]
  cases hb : (decide (([0, 0, 0, 0, 0, 0, 0, 0, 0, 0, 255, 255] : List Int).length ≤ s.length) && (s.take ([0, 0, 0, 0, 0, 0, 0, 0, 0, 0, 255, 255] : List Int).length == [0, 0, 0, 0, 0, 0, 0, 0, 0, 0, 255, 255])) with
  | false => exact ⟨_, rfl⟩
  | true =>
    rw [Bool.and_eq_true, decide_eq_true_iff] at hb
    have h12 : 12 ≤ s.length := hb.1
    rw [cond_true, show cutI s (([0, 0, 0, 0, 0, 0, 0, 0, 0, 0, 255, 255] : List Int).length : Int) (s.length : Int) = _ from cutI_nat (s := s) (a := 12) (b := s.length) h12 (by omega)]
    exact ⟨_, rfl⟩
theorem coloned_no (s : List Int) (hs : s.length ≤ 1000000) (h58 : ∀ c ∈ s, c ≠ 58) : ∃ b : List Int, F_addr_coloned s = some (b, false) ∧ b.length ≤ 2 := by
  have hpre : F_strings_HasPrefix s [58, 58] = some false := by
    rw [prefix_lit s _ hs]
    match s, h58 with
    | [], _ => rfl
    | [x], _ => rfl
    | x :: y :: r, h58 =>
      have : (x :: y :: r).take ([58, 58] : List Int).length = [x, y] := rfl
      rw [this, show ([x, y] == ([58, 58] : List Int)) = false from beq_eq_false_iff_ne.2 fun e => h58 x (by simp) (by injection e)]
      rw [Bool.and_false]
  have loop : ∀ (i : Nat) (n : Int) (k : Nat), i ≤ s.length → k ≤ 4 → ∃ r, loopC (F_addr_coloned_G1 s) (2, (([] : List Int), (-1), (i : Int), n, (k : Int))) = some r ∧ (r.2 = false ∧ r.1.length ≤ 2) := fun i n k hi hk =>
    loop_inv (body := F_addr_coloned_G1 s)
      (I := fun st => (∃ (i : Nat) (n : Int) (k : Nat), i ≤ s.length ∧ k ≤ 4 ∧ st = (2, (([] : List Int), (-1), (i : Int), n, (k : Int)))) ∨ ∃ (l : List Int) (x : Int × Int × Int), l.length = 2 ∧ st = (0, (l, (-1), x)))
      (m := fun st => cond (st.1 == 0) 0 (s.length + 1 - st.2.2.2.1.toNat)) (Q := fun r => r.2 = false ∧ r.1.length ≤ 2) (fun st h => by
        rcases h with ⟨i, n, k, hi, hk, rfl⟩ | ⟨l, x, hl, rfl⟩
        · show (∃ r, F_addr_coloned_G1_2 s (([] : List Int), (-1), (i : Int), n, (k : Int)) = _ ∧ _) ∨ ∃ s', F_addr_coloned_G1_2 s (([] : List Int), (-1), (i : Int), n, (k : Int)) = _ ∧ _
          unfold F_addr_coloned_G1_2 chk
          dsimp only
          have hck : ∀ a b : Int, (decide ((([] : List Int).length + ([a, b] : List Int).length) * 1 ≤ 140737488355328) && decide (([] : List Int).length + ([a, b] : List Int).length ≤ maxLen)) = true := fun a b => chk1 (by show 0 + 2 ≤ _; omega)
          by_cases hlt : i < s.length
          · obtain ⟨d, hd⟩ := digit_ex s[i]
            have hg := getI_nat (List.getElem?_eq_getElem hlt)
            rw [decide_eq_true (show (i : Int) < (s.length : Int) by omega), cond_true, hg, Option.bind_some, hd, Option.bind_some, Option.bind_some, hd, Option.bind_some]
            by_cases hdk : d ≥ 0 ∧ k < 4
            · rw [decide_eq_true hdk.1, decide_eq_true (show (k : Int) < 4 by omega)]
              rw [show (true && true) = true from rfl, cond_true, wrap_in (x := (i : Int) + 1) (by omega) (by omega), wrap_in (x := (k : Int) + 1) (by omega) (by omega)]
              refine .inr ⟨_, rfl, .inl ⟨i + 1, _, k + 1, by omega, by omega, rfl⟩, ?_⟩
              show s.length + 1 - ((i : Int) + 1).toNat < s.length + 1 - (i : Int).toNat
              omega
            · have : (decide (d ≥ 0) && decide ((k : Int) < 4)) = false := by
                simp
                omega
              rw [this, cond_false, hck, cond_true, show ((i : Int) == (s.length : Int)) = false from beq_eq_false_iff_ne.2 (by omega), cond_false, Option.bind_some]
              rw [show (s[i] != 58) = true from bne_iff_ne.2 (h58 _ (List.getElem_mem _)), Bool.true_or, cond_true]
              cases (k : Int) == 0
              · exact .inl ⟨_, rfl, rfl, by simp⟩
              · exact .inl ⟨_, rfl, rfl, by simp⟩
          · rw [decide_eq_false (show ¬ (i : Int) < (s.length : Int) by omega), cond_false, hck, cond_true, show ((i : Int) == (s.length : Int)) = true from beq_iff_eq.2 (by omega), cond_true]
            cases (k : Int) == 0
            · refine .inr ⟨_, rfl, .inr ⟨_, _, rfl, rfl⟩, ?_⟩
              show 0 < s.length + 1 - (i : Int).toNat
              omega
            · exact .inl ⟨_, rfl, rfl, by simp⟩
        · refine .inl ⟨(l, false), ?_, rfl, by show l.length ≤ 2; omega⟩
          show F_addr_coloned_G1_0 (l, (-1), x) = _
          unfold F_addr_coloned_G1_0
          dsimp only
          rw [show (decide ((-1 : Int) < 0)) = true from rfl, cond_true, show ((l.length : Int) == 16) = false from beq_eq_false_iff_ne.2 (by omega)]) _ (.inl ⟨i, n, k, hi, hk, rfl⟩)
  unfold F_addr_coloned
  rw [hpre, Option.bind_some, cond_false]
  cases s with
  | nil => exact ⟨[], rfl, by simp⟩
  | cons c r =>
    rw [decide_eq_true (show (0 : Int) < ((c :: r).length : Int) by rw [List.length_cons]; omega), cond_true, show getI (c :: r) 0 = some c from rfl, Option.bind_some]
    obtain ⟨d, hd⟩ := digit_ex c
    rw [hd, Option.bind_some, Option.bind_some, hd, Option.bind_some]
    by_cases h0 : d ≥ 0
    · rw [decide_eq_true h0]
      obtain ⟨x, h1, h2, h3⟩ := loop 1 (bits .or .i64 (IntKind.i64.wrap (0 * 2 ^ 4)) d) 1 (by simp) (by omega)
      refine ⟨x.1, ?_, h3⟩
      have : x = (x.1, false) := Prod.ext rfl h2
      rw [← this]
      exact h1
    · rw [decide_eq_false h0]
      exact ⟨[], rfl, by simp⟩
theorem group_ex (s : List Int) : ∃ r, F_wlvref15_group s = some r := by
  unfold F_wlvref15_group
  by_cases h : (s.length : Int) < 1 ∨ (s.length : Int) > 4
  · have : (decide ((s.length : Int) < 1) || decide ((s.length : Int) > 4)) = true := by simpa using h
    rw [this, cond_true]
    exact ⟨_, rfl⟩
  · have : (decide ((s.length : Int) < 1) || decide ((s.length : Int) > 4)) = false := by simp; omega
    rw [this, cond_false]
    obtain ⟨r, h1, _⟩ := loop_inv (body := F_wlvref15_group_L7 s) (I := fun st => ∃ i : Nat, i ≤ s.length ∧ st.2 = (i : Int)) (m := fun st => s.length - st.2.toNat) (Q := fun _ => True) (fun st ⟨i, hi, e⟩ => by
      unfold F_wlvref15_group_L7
      dsimp only
      rw [e]
      by_cases hlt : i < s.length
      · have hg := getI_nat (List.getElem?_eq_getElem hlt)
        rw [decide_eq_true (show (i : Int) < (s.length : Int) by omega), cond_true, hg, Option.bind_some, wrap_in (x := (i : Int) + 1) (by omega) (by omega)]
        have hm : s.length - ((i : Int) + 1).toNat < s.length - (i : Int).toNat := by omega
        cases (decide (s[i] ≥ 48) && decide (s[i] ≤ 57))
        · cases (decide (s[i] ≥ 97) && decide (s[i] ≤ 102))
          · cases (decide (s[i] ≥ 65) && decide (s[i] ≤ 70))
            · exact .inl ⟨_, rfl, trivial⟩
            · exact .inr ⟨_, rfl, ⟨i + 1, by omega, rfl⟩, hm⟩
          · exact .inr ⟨_, rfl, ⟨i + 1, by omega, rfl⟩, hm⟩
        · exact .inr ⟨_, rfl, ⟨i + 1, by omega, rfl⟩, hm⟩
      · rw [decide_eq_false (show ¬ (i : Int) < (s.length : Int) by omega), cond_false]
        exact .inl ⟨_, rfl, trivial⟩) (0, 0) ⟨0, by omega, rfl⟩
    rw [h1]
    cases r with
    | inl r => exact ⟨_, rfl⟩
    | inr r => exact ⟨_, rfl⟩
theorem eight_no (s : List Int) (hs : s.length ≤ 1000000) (h58 : ∀ c ∈ s, c ≠ 58) : ∃ b, F_wlvref15_eight s = some (b, false) := by
  obtain ⟨r, h1, h2⟩ := loop_inv (body := F_wlvref15_eight_L4 s) (I := fun st => ∃ i : Nat, i ≤ s.length ∧ st = ((-1 : Int), (i : Int))) (m := fun st => s.length - st.2.toNat) (Q := fun r => r = .inr (-1)) (fun st ⟨i, hi, e⟩ => by
    subst e
    unfold F_wlvref15_eight_L4
    dsimp only
    rw [wrap_in (x := (i : Int) + 1) (by omega) (by omega)]
    by_cases hlt : i + 1 < s.length
    · have hg := getI_nat (List.getElem?_eq_getElem (l := s) (i := i) (by omega))
      rw [decide_eq_true (show (i : Int) + 1 < (s.length : Int) by omega), cond_true, hg, Option.bind_some, beq_eq_false_iff_ne.2 (h58 _ (List.getElem_mem _)), cond_false]
      refine .inr ⟨_, rfl, ⟨i + 1, by omega, rfl⟩, ?_⟩
      show s.length - ((i : Int) + 1).toNat < s.length - (i : Int).toNat
      omega
    · rw [decide_eq_false (show ¬ (i : Int) + 1 < (s.length : Int) by omega), cond_false]
      exact .inl ⟨_, rfl, rfl⟩) ((-1), 0) ⟨0, by omega, rfl⟩
  subst h2
  unfold F_wlvref15_eight
  rw [h1]
  show ∃ b, F_wlvref15_eight_J2 s (-1) = some (b, false)
  unfold F_wlvref15_eight_J2
  dsimp only
  rw [show (decide ((-1 : Int) < 0)) = true from rfl, cond_true]
  have hgr : ∃ b ok, F_wlvref15_groups s = some (b, ok) ∧ b.length ≤ 2 := by
    unfold F_wlvref15_groups
    cases hse : s == ([] : List Int) with
    | true => exact ⟨_, _, rfl, by simp⟩
    | false =>
      rw [cond_false, Split_eq s 58 hs, splitI_miss h58, Option.bind_some]
      obtain ⟨⟨n, ok⟩, hg⟩ := group_ex s
      have hb1 : F_wlvref15_groups_L8 ([s], ([] : List Int), 0) = cond (!ok) (some (.inl (.inl ([], false)))) (some (.inr ([s], [IntKind.u8.wrap (Int.fdiv n (2 ^ 8)), IntKind.u8.wrap n], 1))) := by
        unfold F_wlvref15_groups_L8
        dsimp only
        rw [show (decide ((0 : Int) < (([s] : List (List Int)).length : Int)) && decide ((0 : Int) < 9)) = true from rfl, cond_true, show getI [s] 0 = some s from rfl, Option.bind_some, hg, Option.bind_some]
        cases ok <;> rfl
      cases ok with
      | false =>
        rw [loop_inl hb1]
        exact ⟨_, _, rfl, by simp⟩
      | true =>
        have hb2 : F_wlvref15_groups_L8 ([s], [IntKind.u8.wrap (Int.fdiv n (2 ^ 8)), IntKind.u8.wrap n], 1) = some (.inl (.inr ([s], [IntKind.u8.wrap (Int.fdiv n (2 ^ 8)), IntKind.u8.wrap n]))) := rfl
        rw [loop_inr hb1 (loop_inl hb2)]
        exact ⟨_, _, rfl, by simp⟩
  obtain ⟨b, ok, h1, h2⟩ := hgr
  rw [h1, Option.bind_some, show ((b.length : Int) == 16) = false from beq_eq_false_iff_ne.2 (by omega), Bool.and_false]
  exact ⟨_, rfl⟩
theorem byte_len {w : List Int} (h : byteB w = true) : w.length ≤ 3 := by
  unfold byteB at h
  rw [Bool.and_eq_true, decide_eq_true_iff] at h
  obtain ⟨n, h1, h2⟩ := canon_eq _ w rfl h.1
  have := dgs_len 2 n (by omega)
  rwa [← h1] at this
theorem four_len {s : List Int} (h : (fourR s).2 = true) : s.length ≤ 15 ∧ (fourR s).1.length = 4 := by
  unfold fourR at h ⊢
  cases hc : (decide ((splitI s 46).length = 4) && (splitI s 46).all byteB) with
  | false => rw [hc] at h; cases h
  | true =>
    rw [Bool.and_eq_true, decide_eq_true_iff] at hc
    have h1 := splitI_sum s 46
    have : ∀ l : List (List Int), l.all byteB = true → (l.map List.length).sum ≤ 3 * l.length := fun l => by
      induction l with
      | nil => intro _; simp
      | cons w l ih =>
        intro h
        rw [List.all_cons, Bool.and_eq_true] at h
        have := byte_len h.1
        have := ih h.2
        simp
        omega
    have := this _ hc.2
    refine ⟨by omega, ?_⟩
    rw [cond_true, List.length_map]
    exact hc.1
theorem refParse_no (s : List Int) (hs : s.length ≤ 1000000) (h58 : ∀ c ∈ s, c ≠ 58) : F_wlvref15_Parse s = some (cond (fourR s).2 ((fourR s).1, 0) ([], 2)) := by
  unfold F_wlvref15_Parse
  by_cases h50 : (s.length : Int) > 50
  · rw [decide_eq_true h50, cond_true]
    cases hf : (fourR s).2 with
    | true => have := (four_len hf).1; omega
    | false => rfl
  · rw [decide_eq_false h50, cond_false, four_eq s hs, Option.bind_some]
    cases hf : (fourR s).2 with
    | true => rfl
    | false =>
      obtain ⟨b, hb⟩ := eight_no s hs h58
      rw [cond_false, hb]
      rfl
theorem Parse_no (s : List Int) (hs : s.length ≤ 1000000) (h58 : ∀ c ∈ s, c ≠ 58) : F_addr_Parse s = some (cond (fourR s).2 ((fourR s).1, 0) ([], 2)) := by
  unfold F_addr_Parse
  rw [dotted_eq s hs, Option.bind_some]
  cases hf : (fourR s).2 with
  | true => rfl
  | false =>
    obtain ⟨b, hb, hl⟩ := coloned_no s hs h58
    obtain ⟨p, hp⟩ := Plain_ex b (by omega)
    rw [Bool.not_false, cond_true, hb, Option.bind_some]
    show (F_addr_Plain b).bind _ = _
    rw [hp]
    rfl
theorem place_no (s : List Int) (hs : s.length ≤ 1000000) (h58 : ∀ c ∈ s, c ≠ 58) (h91 : s.head? ≠ some 91) : F_host_place s = some (cond (fourR s).2 ([], (fourR s).1, true) ((nameR s).1, [], (nameR s).2 == 0)) := by
  have hpre : F_strings_HasPrefix s [91] = some false := by
    rw [prefix_lit s _ hs]
    match s, h91 with
    | [], _ => rfl
    | x :: r, h91 =>
      have : (x :: r).take ([91] : List Int).length = [x] := rfl
      rw [this, show ([x] == ([91] : List Int)) = false from beq_eq_false_iff_ne.2 fun e => h91 (by injection e with e; rw [e]; rfl)]
      rw [Bool.and_false]
  have hcon : F_strings_Contains s [58] = some false := by
    show some (s.contains 58) = some false
    rw [show s.contains 58 = false by
      rw [List.contains_eq_mem]
      exact decide_eq_false fun h => h58 58 h rfl]
  unfold F_host_place
  rw [hpre, Option.bind_some, cond_false, Parse_no s hs h58, Option.bind_some, hcon, name_eq]
  cases hf : (fourR s).2 with
  | true =>
    have := (four_len hf).2
    rw [cond_true, cond_true, show (((fourR s).1.length : Int) == 4) = true from beq_iff_eq.2 (by omega)]
    rfl
  | false => rfl
end Go.Proofs.YtblngdnndkljoaaDoor

/- HostPorts: the plain part. -/
namespace Go.Proofs.YtblngdnndkljoaaDoor
open Pv
set_option linter.unusedVariables false
/-! ### decimal digits of a number -/
theorem maxI0 (n : Int) : maxI n 0 = (n.toNat : Int) := by
  unfold maxI
  by_cases h : (0 : Int) > n
  · rw [decide_eq_true h, cond_true]; omega
  · rw [decide_eq_false h, cond_false]; omega
theorem Dec_fuel_eq : ∀ (k : Nat) (n : Int), n < 10 ^ (k + 1) → n ≤ 9223372036854775807 → F_wlvref_Dec_fuel (k + 1) n = some (dgs n.toNat) := fun k => by
  induction k with
  | zero =>
    intro n h h2
    show F_wlvref_Dec_step (F_wlvref_Dec_fuel 0) n = _
    unfold F_wlvref_Dec_step
    have h : n < 10 := h
    rw [decide_eq_true h, cond_true, dgs_one (by omega)]
    rw [maxI0, wrap_in (by omega) (by omega), u8_in (by omega) (by omega)]
  | succ k ih =>
    intro n h h2
    show F_wlvref_Dec_step (F_wlvref_Dec_fuel (k + 1)) n = _
    unfold F_wlvref_Dec_step
    by_cases h10 : n < 10
    · rw [decide_eq_true h10, cond_true, dgs_one (by omega)]
      rw [maxI0, wrap_in (by omega) (by omega), u8_in (by omega) (by omega)]
    · have e1 : Int.tdiv n 10 = n / 10 := Int.tdiv_eq_ediv_of_nonneg (by omega)
      have e2 : Int.tmod n 10 = n % 10 := Int.tmod_eq_emod_of_nonneg (by omega)
      rw [decide_eq_false h10, cond_false, e1, e2, wrap_in (x := n / 10) (by omega) (by omega)]
      rw [ih (n / 10) (by rw [Int.pow_succ] at h; omega) (by omega), Option.bind_some]
      have hl := dgs_len 18 (n / 10).toNat (by
        have : (10 : Nat) ^ (18 + 1) = 10000000000000000000 := by decide
        omega)
      have hb : ∀ a : Int, Nat.ble ((dgs (n / 10).toNat).length + ([a] : List Int).length) maxLen = true := fun a => Nat.ble_eq_true_of_le (by
        have : maxLen = 9223372036854775807 := rfl
        simp
        omega)
      unfold chk
      rw [hb, cond_true, wrap_in (by omega) (by omega), u8_in (by omega) (by omega), dgs_more (n := n.toNat) (by omega)]
      rw [show (n / 10).toNat = n.toNat / 10 by omega, show n % 10 = ((n.toNat % 10 : Nat) : Int) by omega]
theorem Dec_eq (n : Int) (h2 : n ≤ 9223372036854775807) : F_wlvref_Dec n = some (dgs n.toNat) :=
  Dec_fuel_eq 63 n (by have : (10 : Int) ^ (63 + 1) = 10000000000000000000000000000000000000000000000000000000000000000 := by decide
                       omega) h2
/-! ### a host and a port -/
theorem lastI_none : ∀ {t : List Int} {c : Int}, (∀ x ∈ t, x ≠ c) → lastI t c = -1
  | [], _, _ => rfl
  | x :: t, c, h => by
    unfold lastI
    rw [lastI_none (t := t) fun y hy => h y (by simp [hy]), beq_eq_false_iff_ne.2 (h x (by simp))]
    rfl
theorem lastI_at : ∀ (h : List Int) {t : List Int} {c : Int}, (∀ x ∈ t, x ≠ c) → lastI (h ++ c :: t) c = h.length
  | [], t, c, ht => by
    show cond (lastI t c == -1) (cond (c == c) 0 (-1)) (lastI t c + 1) = _
    rw [lastI_none ht, beq_self_eq_true, beq_self_eq_true]
    rfl
  | x :: h, t, c, ht => by
    show cond (lastI (h ++ c :: t) c == -1) _ (lastI (h ++ c :: t) c + 1) = _
    rw [lastI_at h ht, beq_eq_false_iff_ne.2 (show (h.length : Int) ≠ -1 by omega), cond_false, List.length_cons]
    omega
theorem Auth_none (s : List Int) (hs : s.length ≤ 1000000) (h58 : ∀ c ∈ s, c ≠ 58) : F_host_Authority s = some ([], [], 0, 2) := by
  unfold F_host_Authority
  rw [show F_strings_LastIndexByte s 58 = some (lastI s 58) by
    unfold F_strings_LastIndexByte
    rw [Nat.ble_eq_true_of_le (by omega)]; rfl]
  rw [Option.bind_some, lastI_none h58]
  rfl
theorem Auth_at (h t : List Int) (x : List Int × List Int × Bool) (hh : h.length ≤ 100000) (ht : t.length ≤ 100000) (t58 : ∀ c ∈ t, c ≠ 58) (hp : F_host_place h = some x) :
    F_host_Authority ((h ++ [58]) ++ t) = some (cond (x.2.2 && canonB t && decide (1 ≤ valI t) && decide (valI t ≤ 65535)) (x.1, x.2.1, valI t, 0) ([], [], 0, 2)) := by
  have e0 : (h ++ [58]) ++ t = h ++ 58 :: t := by rw [List.append_assoc]; rfl
  rw [e0]
  have hlen : (h ++ 58 :: t).length = h.length + (t.length + 1) := by rw [List.length_append, List.length_cons]
  unfold F_host_Authority
  rw [show F_strings_LastIndexByte (h ++ 58 :: t) 58 = some (lastI (h ++ 58 :: t) 58) by
    unfold F_strings_LastIndexByte
    rw [Nat.ble_eq_true_of_le (by omega)]; rfl]
  rw [Option.bind_some, lastI_at h t58, decide_eq_false (show ¬ (h.length : Int) < 0 by omega), cond_false, wrap_in (by omega) (by omega)]
  have c1 : cutI (h ++ 58 :: t) ((h.length : Int) + 1) ((h ++ 58 :: t).length : Int) = some t := by
    have := cutI_nat (s := h ++ 58 :: t) (a := h.length + 1) (b := (h ++ 58 :: t).length) (by omega) (by omega)
    rw [show ((h.length + 1 : Nat) : Int) = (h.length : Int) + 1 by omega] at this
    rw [this, List.take_length, List.drop_append, List.drop_of_length_le (by omega), show h.length + 1 - h.length = 1 by omega]
    rfl
  have c2 : cutI (h ++ 58 :: t) 0 (h.length : Int) = some h := by
    have := cutI_nat (s := h ++ 58 :: t) (a := 0) (b := h.length) (by omega) (by omega)
    rw [show ((0 : Nat) : Int) = 0 from rfl] at this
    rw [this, List.take_left]
    rfl
  rw [c1, Option.bind_some, show F_strconv_Atoi t = some (atoiP t) by
    unfold F_strconv_Atoi
    rw [Nat.ble_eq_true_of_le (by omega)]; rfl]
  rw [Option.bind_some, c2, Option.bind_some, hp, Option.bind_some]
  obtain ⟨k1, k2⟩ := decimal_law t 65535 (by omega)
  by_cases hg : canonB t = true ∧ valI t ≤ 65535
  · obtain ⟨q1, q2, q3⟩ := k1 hg
    rw [q1, q2, hg.1, decide_eq_true hg.2]
    unfold F_strconv_Itoa
    rw [q3]
    simp only [Option.bind_some]
    by_cases h1 : 1 ≤ valI t
    · rw [decide_eq_true h1, decide_eq_false (show ¬ valI t < 1 by omega), decide_eq_false (show ¬ valI t > 65535 by omega), beq_self_eq_true]
      cases x.2.2 <;> rfl
    · rw [decide_eq_false h1, decide_eq_true (show valI t < 1 by omega)]
      cases x.2.2 <;> rfl
  · have hf : (x.2.2 && canonB t && decide (1 ≤ valI t) && decide (valI t ≤ 65535)) = false := by
      cases hb : (x.2.2 && canonB t && decide (1 ≤ valI t) && decide (valI t ≤ 65535)) with
      | false => rfl
      | true =>
        simp at hb
        exact absurd ⟨hb.1.1.2, hb.2⟩ hg
    rw [hf, cond_false]
    cases hb : (((!x.2.2) || (atoiP t).2) || (decide ((atoiP t).1 < 1))) || (decide ((atoiP t).1 > 65535)) with
    | true => rfl
    | false =>
      rw [cond_false]
      unfold F_strconv_Itoa
      simp only [Option.bind_some]
      cases he : itoaI (atoiP t).1 == t with
      | false => rfl
      | true =>
        exfalso
        simp at hb
        obtain ⟨r1, r2⟩ := k2 (by
          cases h : (atoiP t).2 with
          | false => rfl
          | true => exact absurd h (by simp [hb.1.1.2])) (by omega) (by omega) (beq_iff_eq.1 he)
        exact hg ⟨r1, by omega⟩
/-! ### what a name is -/
theorem sg_spec (c : Int) : sg c = if 65 ≤ c ∧ c ≤ 90 then c + 32 else if (97 ≤ c ∧ c ≤ 122) ∨ (48 ≤ c ∧ c ≤ 57) ∨ c = 45 ∨ c = 95 then c else 0 := by
  have h := sign_eq c
  unfold F_host_sign at h
  by_cases h1 : 65 ≤ c ∧ c ≤ 90
  · rw [decide_eq_true h1.1, decide_eq_true h1.2, u8_in (x := c + 97) (by omega) (by omega), u8_in (by omega) (by omega)] at h
    have h : some (c + 97 - 65) = some (sg c) := h
    injection h with h
    rw [if_pos h1]
    omega
  · have e1 : (decide (c ≥ 65) && decide (c ≤ 90)) = false := by simp; omega
    rw [e1, cond_false] at h
    rw [if_neg h1]
    by_cases h2 : 97 ≤ c ∧ c ≤ 122
    · rw [decide_eq_true h2.1, decide_eq_true h2.2] at h
      have h : some c = some (sg c) := h
      injection h with h
      rw [if_pos (.inl h2)]
      exact h.symm
    · have e2 : (decide (c ≥ 97) && decide (c ≤ 122)) = false := by simp; omega
      rw [e2, cond_false] at h
      by_cases h3 : 48 ≤ c ∧ c ≤ 57
      · rw [decide_eq_true h3.1, decide_eq_true h3.2] at h
        have h : some c = some (sg c) := h
        injection h with h
        rw [if_pos (.inr (.inl h3))]
        exact h.symm
      · have e3 : (decide (c ≥ 48) && decide (c ≤ 57)) = false := by simp; omega
        rw [e3, cond_false] at h
        by_cases h4 : c = 45
        · subst h4
          exact (by kernel_rfl : sg 45 = 45)
        · rw [beq_eq_false_iff_ne.2 h4, cond_false] at h
          by_cases h5 : c = 95
          · subst h5
            exact (by kernel_rfl : sg 95 = 95)
          · rw [beq_eq_false_iff_ne.2 h5, cond_false] at h
            have h : some (0 : Int) = some (sg c) := h
            injection h with h
            rw [if_neg (by omega)]
            exact h.symm
noncomputable def lowI (c : Int) : Int := cond (c == 46) 46 (sg c)
theorem name_some : ∀ (s out : List Int) (n : Nat) (b : List Int), nameP out n s = some b → b = out ++ s.map lowI ∧ (∀ c ∈ s, c = 46 ∨ sg c ≠ 0) ∧ (n = 0 → s ≠ [])
  | [], out, n, b, h => by
    rw [nameP] at h
    cases he : endsB out n with
    | true => rw [he] at h; cases h
    | false =>
      rw [he] at h
      have h : some out = some b := h
      injection h with h
      refine ⟨by simp [h], by simp, fun h0 => ?_⟩
      subst h0
      cases he
  | c :: s, out, n, b, h => by
    rw [nameP] at h
    cases h46 : c == 46 with
    | true =>
      rw [h46, cond_true] at h
      have hc := beq_iff_eq.1 h46
      cases he : endsB out n with
      | true => rw [he] at h; cases h
      | false =>
        rw [he, cond_false] at h
        obtain ⟨h1, h2, _⟩ := name_some s _ _ _ h
        refine ⟨by rw [h1, List.append_assoc, List.map_cons]; congr 1; show 46 :: _ = lowI c :: _; unfold lowI; rw [h46]; rfl, fun x hx => ?_, fun _ => by simp⟩
        rcases List.mem_cons.1 hx with rfl | hx
        · exact .inl hc
        · exact h2 x hx
    | false =>
      rw [h46, cond_false] at h
      cases hb : (sg c == 0 || n == 63 || (sg c == 45 && n == 0)) with
      | true => rw [hb] at h; cases h
      | false =>
        rw [hb, cond_false] at h
        obtain ⟨h1, h2, _⟩ := name_some s _ _ _ h
        refine ⟨by rw [h1, List.append_assoc, List.map_cons]; congr 1; show sg c :: _ = lowI c :: _; unfold lowI; rw [h46]; rfl, fun x hx => ?_, fun _ => by simp⟩
        rcases List.mem_cons.1 hx with rfl | hx
        · right
          rw [Bool.or_assoc, Bool.or_eq_false_iff] at hb
          exact beq_eq_false_iff_ne.1 hb.1
        · exact h2 x hx
theorem low_46 (c : Int) (h : c = 46 ∨ sg c ≠ 0) : (lowI c == 46) = (c == 46) := by
  unfold lowI
  cases h46 : c == 46 with
  | true => rfl
  | false =>
    rw [cond_false]
    refine beq_eq_false_iff_ne.2 ?_
    have hc := beq_eq_false_iff_ne.1 h46
    rw [sg_spec]
    split
    · omega
    · split <;> omega
theorem split_low : ∀ (s : List Int), (∀ c ∈ s, c = 46 ∨ sg c ≠ 0) → splitI (s.map lowI) 46 = (splitI s 46).map (List.map lowI)
  | [], _ => rfl
  | c :: s, h => by
    have ih := split_low s fun x hx => h x (by simp [hx])
    rw [List.map_cons]
    unfold splitI
    rw [low_46 c (h c (by simp)), ih]
    cases c == 46
    · rw [cond_false, cond_false]
      cases hs : splitI s 46 with
      | nil => exact absurd hs (splitI_ne s 46)
      | cons w r => rfl
    · rfl
theorem split_mem : ∀ (s : List Int) (w : List Int), w ∈ splitI s 46 → ∀ c ∈ w, c ∈ s ∧ c ≠ 46
  | [], w, h, c, hc => by
    rw [List.mem_singleton.1 h] at hc
    cases hc
  | x :: s, w, h, c, hc => by
    unfold splitI at h
    cases hx : x == 46 with
    | true =>
      rw [hx, cond_true] at h
      rcases List.mem_cons.1 h with rfl | h
      · cases hc
      · have := split_mem s w h c hc
        exact ⟨by simp [this.1], this.2⟩
    | false =>
      rw [hx, cond_false] at h
      cases hs : splitI s 46 with
      | nil => exact absurd hs (splitI_ne s 46)
      | cons v r =>
        rw [hs] at h
        rcases List.mem_cons.1 h with rfl | h
        · rcases List.mem_cons.1 hc with rfl | hc
          · exact ⟨by simp, beq_eq_false_iff_ne.1 hx⟩
          · have := split_mem s v (by rw [hs]; simp) c hc
            exact ⟨by simp [this.1], this.2⟩
        · have := split_mem s w (by rw [hs]; simp [h]) c hc
          exact ⟨by simp [this.1], this.2⟩
theorem dig_low (c : Int) (h : sg c ≠ 0) (h46 : c ≠ 46) : isDig (lowI c) = isDig c ∧ (isDig c = true → lowI c = c) := by
  unfold lowI
  rw [beq_eq_false_iff_ne.2 h46, cond_false, sg_spec] at *
  unfold isDig
  split
  · refine ⟨?_, fun hd => by simp at hd; omega⟩
    rw [decide_eq_false (show ¬ c + 32 ≤ 57 by omega), decide_eq_false (show ¬ c ≤ 57 by omega), Bool.and_false, Bool.and_false]
  · split
    · exact ⟨rfl, fun _ => rfl⟩
    · rename_i h1 h2
      rw [if_neg h1, if_neg h2] at h
      exact absurd rfl h
theorem all_same {f g : Int → Bool} : ∀ (l : List Int), (∀ c ∈ l, f c = g c) → l.all f = l.all g
  | [], _ => rfl
  | x :: l, h => by
    rw [List.all_cons, List.all_cons, h x (by simp), all_same l fun c hc => h c (by simp [hc])]
theorem byte_low (w : List Int) (h : ∀ c ∈ w, sg c ≠ 0 ∧ c ≠ 46) : byteB (w.map lowI) = byteB w := by
  have hall : (w.map lowI).all isDig = w.all isDig := by
    rw [List.all_map]
    refine all_same _ fun c hc => ?_
    exact (dig_low c (h c hc).1 (h c hc).2).1
  cases hd : w.all isDig with
  | false =>
    unfold byteB canonB
    rw [hall, hd]
    rfl
  | true =>
    have : w.map lowI = w := by
      conv => rhs; rw [← List.map_id w]
      apply List.map_congr_left
      intro c hc
      exact (dig_low c (h c hc).1 (h c hc).2).2 (List.all_eq_true.1 hd c hc)
    rw [this]
theorem all_low : ∀ (l : List (List Int)), (∀ w ∈ l, ∀ c ∈ w, sg c ≠ 0 ∧ c ≠ 46) → (l.map (List.map lowI)).all byteB = l.all byteB
  | [], _ => rfl
  | w :: l, h => by
    rw [List.map_cons, List.all_cons, List.all_cons, byte_low w (h w (by simp)), all_low l fun v hv => h v (by simp [hv])]
theorem four_low (s : List Int) (h : ∀ c ∈ s, c = 46 ∨ sg c ≠ 0) : (fourR (s.map lowI)).2 = (fourR s).2 := by
  unfold fourR
  rw [split_low s h, List.length_map, all_low _ fun w hw c hc => by
    have := split_mem s w hw c hc
    exact ⟨(h c this.1).resolve_left this.2, this.2⟩]
  cases (decide ((splitI s 46).length = 4) && (splitI s 46).all byteB) <;> rfl
/-! ### the law -/
theorem u_four (s : List Int) : (fourR (117 :: s)).2 = false := by
  unfold fourR
  have : (splitI (117 :: s) 46).all byteB = false := by
    unfold splitI
    rw [show ((117 : Int) == 46) = false from rfl, cond_false]
    cases splitI s 46 with
    | nil => rfl
    | cons w r => rfl
  rw [this, Bool.and_false]
  rfl
theorem u_name (s : List Int) : nameR (117 :: 64 :: s) = ([], 2) := by
  unfold nameR
  have : nameP [] 0 (117 :: 64 :: s) = none := by
    rw [nameP, show ((117 : Int) == 46) = false from rfl, cond_false, show sg 117 = 117 by kernel_rfl]
    rw [show ((117 : Int) == 0 || (0 : Nat) == 63 || ((117 : Int) == 45 && (0 : Nat) == 0)) = false from rfl, cond_false]
    rw [nameP, show ((64 : Int) == 46) = false from rfl, cond_false, show sg 64 = 0 by kernel_rfl]
    rfl
  rw [this]
  generalize decide (253 < (117 :: 64 :: s).length) = z
  cases z <;> rfl
theorem dgs_no58 (n : Nat) : ∀ c ∈ dgs n, c ≠ 58 := fun c hc => by
  have := dig_of (List.all_eq_true.1 (dgs_spec (n + 1) n (by omega)).1 c hc)
  omega
theorem HostPorts_true (s : List Int) (p : Int) (hb : (Lit.int .i64 p).wf = true) : F_wlvlaw16_HostPorts s p = some true := by
  have hw : -9223372036854775808 ≤ p ∧ p ≤ 9223372036854775807 := wf_i64 hb
  unfold F_wlvlaw16_HostPorts
  rw [first16, Option.bind_some, Bool.not_true, cond_false, name_eq, Option.bind_some]
  cases hg : (decide ((s.length : Int) > 500) || (nameR s).2 != 0) with
  | true => rfl
  | false =>
    rw [cond_false]
    rw [Bool.or_eq_false_iff] at hg
    have hl : s.length ≤ 500 := by have := hg.1; simp at this; omega
    have h0 : (nameR s).2 = 0 := by simpa using hg.2
    obtain ⟨b, hnb, hnR⟩ : ∃ b, nameP [] 0 s = some b ∧ nameR s = (b, 0) := by
      unfold nameR at h0 ⊢
      cases hd : decide (253 < s.length) with
      | true => rw [hd] at h0; simp [resN] at h0
      | false =>
        rw [hd] at h0
        rw [cond_false] at h0 ⊢
        cases hp : nameP [] 0 s with
        | none => rw [hp] at h0; cases h0
        | some b => exact ⟨b, rfl, rfl⟩
    obtain ⟨e1, e2, e3⟩ := name_some s [] 0 b hnb
    have e1 : b = s.map lowI := e1
    have hne := e3 rfl
    have bad : ∀ x : Int, x ≠ 46 → sg x = 0 → ∀ c ∈ s, c ≠ x := fun x h1 h2 c hc e => by
      subst e
      rcases e2 c hc with h | h
      · exact h1 h
      · exact h h2
    have n58 := bad 58 (by decide) (by kernel_rfl)
    have n91 := bad 91 (by decide) (by kernel_rfl)
    have hh : s.head? ≠ some 91 := fun e => n91 91 (List.mem_of_head? e) rfl
    have b58 : ∀ c ∈ b, c ≠ 58 := fun c hc => by
      rw [e1] at hc
      obtain ⟨x, hx, rfl⟩ := List.mem_map.1 hc
      unfold lowI
      cases h46 : x == 46 with
      | true => rw [cond_true]; decide
      | false =>
        rw [cond_false, sg_spec]
        have := n58 x hx
        split
        · omega
        · split <;> omega
    have hm : maxLen = 9223372036854775807 := rfl
    have hbl : b.length = s.length := by rw [e1, List.length_map]
    have hbne : b ≠ [] := fun e => hne (List.length_eq_zero_iff.1 (by rw [← hbl, e]; rfl))
    have hdl := dgs_len 18 p.toNat (by
      have : (10 : Nat) ^ (18 + 1) = 10000000000000000000 := by decide
      omega)
    have hpl := place_no s (by omega) n58 hh
    have hf4 : (fourR b).2 = (fourR s).2 := by rw [e1]; exact four_low s e2
    have hcan := canon_dgs p.toNat
    have hval := (dgs_spec (p.toNat + 1) p.toNat (by omega)).2.1
    rw [hnR]
    unfold chk
    rw [Nat.ble_eq_true_of_le (show s.length + ([58] : List Int).length ≤ maxLen by simp; omega), cond_true, Dec_eq p hw.2, Option.bind_some]
    rw [Nat.ble_eq_true_of_le (show (s ++ ([58] : List Int)).length + (dgs p.toNat).length ≤ maxLen by simp; omega), cond_true]
    rw [Auth_at s (dgs p.toNat) _ (by omega) (by omega) (dgs_no58 _) hpl, Option.bind_some, refParse_no b (by omega) b58, Option.bind_some, hcan, hval, hf4, hnR]
    by_cases hr : p < 1 ∨ p > 65535
    · have : (decide (p < 1) || decide (p > 65535)) = true := by simpa using hr
      rw [this, cond_true, Option.bind_some]
      have : (decide (1 ≤ (p.toNat : Int)) && decide ((p.toNat : Int) ≤ 65535)) = false := by simp; omega
      rw [Bool.and_assoc _ (decide (1 ≤ (p.toNat : Int))), this, Bool.and_false]
      rfl
    · have : (decide (p < 1) || decide (p > 65535)) = false := by simp; omega
      rw [this, cond_false, Auth_none s (by omega) n58, Option.bind_some]
      rw [Nat.ble_eq_true_of_le (show s.length + ([58, 48] : List Int).length ≤ maxLen by simp; omega), cond_true, Option.bind_some]
      rw [Nat.ble_eq_true_of_le (show (s ++ ([58, 48] : List Int)).length + (dgs p.toNat).length ≤ maxLen by simp; omega), cond_true]
      have a2 : F_host_Authority ((s ++ [58, 48]) ++ dgs p.toNat) = some ([], [], 0, 2) := by
        have := Auth_at s (48 :: dgs p.toNat) _ (by omega) (by rw [List.length_cons]; omega) (fun c hc => by
          rcases List.mem_cons.1 hc with rfl | hc
          · decide
          · exact dgs_no58 _ c hc) hpl
        have hc48 : canonB (48 :: dgs p.toNat) = false := by
          unfold canonB
          cases hq : dgs p.toNat with
          | nil => exact absurd hq (dgs_spec (p.toNat + 1) p.toNat (by omega)).2.2.1
          | cons x r => exact Bool.and_false _
        rw [hc48, Bool.and_false, Bool.false_and, Bool.false_and, cond_false] at this
        rw [← this]
        congr 1
        simp
      rw [a2, Option.bind_some]
      rw [Nat.ble_eq_true_of_le (show ([117, 64] : List Int).length + s.length ≤ maxLen by simp; omega), cond_true]
      rw [Nat.ble_eq_true_of_le (show (([117, 64] : List Int) ++ s).length + ([58, 56, 48] : List Int).length ≤ maxLen by simp; omega), cond_true]
      have a3 : F_host_Authority ((([117, 64] : List Int) ++ s) ++ [58, 56, 48]) = some ([], [], 0, 2) := by
        have hu := place_no (117 :: 64 :: s) (by simp; omega) (fun c hc => by
          rcases List.mem_cons.1 hc with rfl | hc
          · decide
          · rcases List.mem_cons.1 hc with rfl | hc
            · decide
            · exact n58 c hc) (by simp)
        rw [u_four, cond_false, u_name] at hu
        have := Auth_at (117 :: 64 :: s) [56, 48] _ (by simp; omega) (by simp) (by decide) hu
        rw [show ((2 : Int) == 0) = false from rfl, Bool.false_and, Bool.false_and, Bool.false_and, cond_false] at this
        rw [← this]
        congr 1
        simp
      rw [a3, Option.bind_some, Option.bind_some]
      have hpp : (p.toNat : Int) = p := by omega
      rw [hpp, decide_eq_true (show 1 ≤ p by omega), decide_eq_true (show p ≤ 65535 by omega)]
      cases hf : (fourR s).2 with
      | true =>
        have h4 := (four_len hf).2
        have hb1 : (([] : List Int) == b) = false := beq_eq_false_iff_ne.2 fun e => hbne e.symm
        have hb2 : ((fourR s).1 == ([] : List Int)) = false := beq_eq_false_iff_ne.2 fun e => by rw [e] at h4; cases h4
        simp only [cond_true]
        rw [show (true && true && true && true) = true from rfl]
        simp only [cond_true]
        rw [hb1, hb2, show (p != p) = false by simp]
        rfl
      | false =>
        simp only [cond_false]
        rw [show ((0 : Int) == 0 && true && true && true) = true from rfl]
        simp only [cond_true]
        rw [show (b == b) = true by simp, show (p != p) = false by simp]
        rfl
end Go.Proofs.YtblngdnndkljoaaDoor
