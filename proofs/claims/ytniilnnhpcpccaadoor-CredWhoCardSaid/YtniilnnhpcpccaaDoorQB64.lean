/- The functions of the program as Lean functions, written by a program of ours and held by the kernel. -/
import Derived.Test.YtniilnnhpcpccaaDoorProg
import Derived.Test.YtniilnnhpcpccaaDoorQIdx
import Derived.Test.YtniilnnhpcpccaaDoorPw
import Derived.KernelRfl
import Derived.Laws.Bits
namespace Go.Proofs.YtniilnnhpcpccaaDoor
open Pv
set_option linter.unusedVariables false
noncomputable def F_strings_trimRightByte_L2 (i2 : Int) (s : List Int) : Option (((List Int) ⊕ (List Int)) ⊕ (List Int)) :=
  let s3 := s
  cond (decide ((s3.length : Int) > 0))
  ((getI s3 (IntKind.i64.wrap ((s3.length : Int) - 1))).bind fun i4 =>
    cond (i4 == i2)
    ((cutI s3 0 (IntKind.i64.wrap ((s3.length : Int) - 1))).bind fun s5 =>
      some (.inr s5))
    (some (.inl (.inr s3))))
  (some (.inl (.inr s3)))
noncomputable def F_strings_trimRightByte_J1 (s : List Int) : Option (List Int) :=
  let s6 := s
  some s6
noncomputable def F_strings_trimRightByte (s1 : List Int) (i2 : Int) : Option (List Int) :=
  joinC (S := List Int) (R := List Int)
  (loopC (S := List Int) (R := (List Int) ⊕ (List Int)) (F_strings_trimRightByte_L2 i2) s1)
  (F_strings_trimRightByte_J1)
def F_strings_trimRightByte_sig : Sig := ⟨[.v false [.d .str], .v false [.d (.int .u8)]], [(false, [.d .str])]⟩
def F_strings_trimRightByte_ann : List (Nat × Ann) := [(1, ⟨2, [(0, false, [.d .str])], [], [5, 6, 7, 8, 9, 10, 11, 12, 13, 14, 15, 16, 17, 18, 19, 20, 21], []⟩), (2, ⟨3, [(0, false, [.d .str])], [], [5, 6, 7, 8, 9, 10, 11, 12, 13, 14, 15, 16, 17, 18, 19, 20, 21], []⟩)]
noncomputable def F_strings_trimRightByte_env : Env := ⟨Tryd.prog, []⟩
set_option maxRecDepth 100000 in
theorem F_strings_trimRightByte_text : pvFn F_strings_trimRightByte_env F_strings_trimRightByte_ann Tryd.f23 F_strings_trimRightByte_sig = F_strings_trimRightByte := by kernel_rfl
noncomputable def F_strings_makeASCIISet_L3 (s1 : List Int) (s : Int × List Bool) : Option (((List Bool × Bool) ⊕ (List Bool)) ⊕ (Int × List Bool)) :=
  let i2 := s.1; let a3 := s.2
  cond (decide (i2 < (s1.length : Int)))
  ((getI s1 i2).bind fun i4 =>
    cond (decide (i4 ≥ 128))
    (some (.inl (.inl (a3, false))))
    (chk (decide (0 ≤ i4) && decide (i4 < (256 : Int)))
      (chk (decide (i4 < (256 : Int)))
        (some (.inr ((IntKind.i64.wrap (i2 + 1)), (a3.set (i4).toNat true)))))))
  (some (.inl (.inr a3)))
noncomputable def F_strings_makeASCIISet_J1 (s : List Bool) : Option (List Bool × Bool) :=
  let a5 := s
  some (a5, true)
noncomputable def F_strings_makeASCIISet (s1 : List Int) : Option (List Bool × Bool) :=
  joinC (S := List Bool) (R := List Bool × Bool)
  (loopC (S := Int × List Bool) (R := (List Bool × Bool) ⊕ (List Bool)) (F_strings_makeASCIISet_L3 s1) (0, (List.replicate 256 false)))
  (F_strings_makeASCIISet_J1)
def F_strings_makeASCIISet_sig : Sig := ⟨[.v false [.d .str]], [(true, [.d (.arr 256 .bool)]), (false, [.d .bool])]⟩
def F_strings_makeASCIISet_ann : List (Nat × Ann) := [(1, ⟨2, [], [(2, [.d (.arr 256 .bool)])], [3, 4, 5, 6, 7, 8, 9, 10, 11, 12, 13, 14, 15, 16, 17, 18, 19], []⟩), (3, ⟨4, [(4, false, [.d (.int .i64)])], [(2, [.d (.arr 256 .bool)])], [3, 5, 6, 7, 8, 9, 10, 11, 12, 13, 14, 15, 16, 17, 18, 19], []⟩)]
noncomputable def F_strings_makeASCIISet_env : Env := ⟨Tryd.prog, []⟩
set_option maxRecDepth 100000 in
theorem F_strings_makeASCIISet_text : pvFn F_strings_makeASCIISet_env F_strings_makeASCIISet_ann Tryd.f24 F_strings_makeASCIISet_sig = F_strings_makeASCIISet := by kernel_rfl
noncomputable def F_strings_asciiSet_contains (a1 : List Bool) (i2 : Int) : Option (Bool × List Bool) :=
  chk (decide (0 ≤ i2) && decide (i2 < (256 : Int)))
  ((getI a1 i2).bind fun b3 =>
    some (b3, a1))
def F_strings_asciiSet_contains_sig : Sig := ⟨[.m [.d (.arr 256 .bool)], .v false [.d (.int .u8)]], [(false, [.d .bool])]⟩
def F_strings_asciiSet_contains_ann : List (Nat × Ann) := []
noncomputable def F_strings_asciiSet_contains_env : Env := ⟨Tryd.prog, []⟩
set_option maxRecDepth 100000 in
theorem F_strings_asciiSet_contains_text : pvFn F_strings_asciiSet_contains_env F_strings_asciiSet_contains_ann Tryd.f30 F_strings_asciiSet_contains_sig = F_strings_asciiSet_contains := by kernel_rfl
noncomputable def F_strings_trimRightASCII_L2 (s : List Int × List Bool) : Option (((List Int × List Bool) ⊕ (List Int × List Bool)) ⊕ (List Int × List Bool)) :=
  let s3 := s.1; let a4 := s.2
  cond (decide ((s3.length : Int) > 0))
  ((getI s3 (IntKind.i64.wrap ((s3.length : Int) - 1))).bind fun i5 =>
    (F_strings_asciiSet_contains a4 i5).bind fun x6 =>
    cond (!x6.1)
    (some (.inl (.inr (s3, x6.2))))
    ((cutI s3 0 (IntKind.i64.wrap ((s3.length : Int) - 1))).bind fun s7 =>
      some (.inr (s7, x6.2))))
  (some (.inl (.inr (s3, a4))))
noncomputable def F_strings_trimRightASCII_J1 (s : List Int × List Bool) : Option (List Int × List Bool) :=
  let s8 := s.1; let a9 := s.2
  some (s8, a9)
noncomputable def F_strings_trimRightASCII (s1 : List Int) (a2 : List Bool) : Option (List Int × List Bool) :=
  joinC (S := List Int × List Bool) (R := List Int × List Bool)
  (loopC (S := List Int × List Bool) (R := (List Int × List Bool) ⊕ (List Int × List Bool)) (F_strings_trimRightASCII_L2) (s1, a2))
  (F_strings_trimRightASCII_J1)
def F_strings_trimRightASCII_sig : Sig := ⟨[.v false [.d .str], .m [.d (.arr 256 .bool)]], [(false, [.d .str])]⟩
def F_strings_trimRightASCII_ann : List (Nat × Ann) := [(1, ⟨2, [(0, false, [.d .str])], [(1, [.d (.arr 256 .bool)])], [5, 6, 7, 8, 9, 10, 11, 12, 13, 14, 15, 16, 17, 18, 19, 20], []⟩), (2, ⟨3, [(0, false, [.d .str])], [(1, [.d (.arr 256 .bool)])], [5, 6, 7, 8, 9, 10, 11, 12, 13, 14, 15, 16, 17, 18, 19, 20], []⟩)]
noncomputable def F_strings_trimRightASCII_env : Env := ⟨Tryd.prog, [(30, ⟨F_strings_asciiSet_contains_sig, ⟨F_strings_asciiSet_contains⟩⟩)]⟩
set_option maxRecDepth 100000 in
theorem F_strings_trimRightASCII_text : pvFn F_strings_trimRightASCII_env F_strings_trimRightASCII_ann Tryd.f25 F_strings_trimRightASCII_sig = F_strings_trimRightASCII := by kernel_rfl
noncomputable def F_unicode_utf8_decodeRuneInStringSlow (s1 : List Int) : Option (Int × Int) :=
  cond (decide ((s1.length : Int) < 1))
  (some (65533, 0))
  ((getI s1 0).bind fun i2 =>
    none)
def F_unicode_utf8_decodeRuneInStringSlow_sig : Sig := ⟨[.v false [.d .str]], [(false, [.d (.int .i32)]), (false, [.d (.int .i64)])]⟩
def F_unicode_utf8_decodeRuneInStringSlow_ann : List (Nat × Ann) := []
noncomputable def F_unicode_utf8_decodeRuneInStringSlow_env : Env := ⟨Tryd.prog, []⟩
set_option maxRecDepth 100000 in
theorem F_unicode_utf8_decodeRuneInStringSlow_text : pvFn F_unicode_utf8_decodeRuneInStringSlow_env F_unicode_utf8_decodeRuneInStringSlow_ann Tryd.f20 F_unicode_utf8_decodeRuneInStringSlow_sig = F_unicode_utf8_decodeRuneInStringSlow := by kernel_rfl
noncomputable def F_unicode_utf8_DecodeRuneInString (s1 : List Int) : Option (Int × Int) :=
  cond (!(s1 == ([] : List Int)))
  ((getI s1 0).bind fun i2 =>
    cond (decide (i2 < 128))
    ((getI s1 0).bind fun i3 =>
      some ((IntKind.i32.wrap i3), 1))
    ((F_unicode_utf8_decodeRuneInStringSlow s1).bind fun x4 =>
      some (x4.1, x4.2)))
  ((F_unicode_utf8_decodeRuneInStringSlow s1).bind fun x5 =>
    some (x5.1, x5.2))
def F_unicode_utf8_DecodeRuneInString_sig : Sig := ⟨[.v false [.d .str]], [(false, [.d (.int .i32)]), (false, [.d (.int .i64)])]⟩
def F_unicode_utf8_DecodeRuneInString_ann : List (Nat × Ann) := []
noncomputable def F_unicode_utf8_DecodeRuneInString_env : Env := ⟨Tryd.prog, [(20, ⟨F_unicode_utf8_decodeRuneInStringSlow_sig, ⟨F_unicode_utf8_decodeRuneInStringSlow⟩⟩)]⟩
set_option maxRecDepth 100000 in
theorem F_unicode_utf8_DecodeRuneInString_text : pvFn F_unicode_utf8_DecodeRuneInString_env F_unicode_utf8_DecodeRuneInString_ann Tryd.f14 F_unicode_utf8_DecodeRuneInString_sig = F_unicode_utf8_DecodeRuneInString := by kernel_rfl
noncomputable def F_unicode_utf8_RuneStart (i1 : Int) : Option (Bool) :=
  some ((bits .and .u8 i1 192) != 128)
def F_unicode_utf8_RuneStart_sig : Sig := ⟨[.v false [.d (.int .u8)]], [(false, [.d .bool])]⟩
def F_unicode_utf8_RuneStart_ann : List (Nat × Ann) := []
noncomputable def F_unicode_utf8_RuneStart_env : Env := ⟨Tryd.prog, []⟩
set_option maxRecDepth 100000 in
theorem F_unicode_utf8_RuneStart_text : pvFn F_unicode_utf8_RuneStart_env F_unicode_utf8_RuneStart_ann Tryd.f37 F_unicode_utf8_RuneStart_sig = F_unicode_utf8_RuneStart := by kernel_rfl
noncomputable def F_unicode_utf8_DecodeLastRuneInString_L13 (s1 : List Int) (s : Int) : Option (((Int × Int) ⊕ (Int)) ⊕ (Int)) :=
  let i3 := s
  cond (decide (i3 ≥ (maxI (IntKind.i64.wrap ((s1.length : Int) - 4)) 0)))
  ((getI s1 i3).bind fun i4 =>
    (F_unicode_utf8_RuneStart i4).bind fun b5 =>
    cond b5
    (some (.inl (.inr i3)))
    (some (.inr (IntKind.i64.wrap (i3 - 1)))))
  (some (.inl (.inr i3)))
noncomputable def F_unicode_utf8_DecodeLastRuneInString_J11 (s1 : List Int) (s : Int) : Option (Int × Int) :=
  let i6 := s
  cond (decide (i6 < 0))
  ((cutI s1 0 (s1.length : Int)).bind fun s7 =>
    (F_unicode_utf8_DecodeRuneInString s7).bind fun x8 =>
    cond ((IntKind.i64.wrap (0 + x8.2)) != (s1.length : Int))
    (some (65533, 1))
    (some (x8.1, x8.2)))
  ((cutI s1 i6 (s1.length : Int)).bind fun s9 =>
    (F_unicode_utf8_DecodeRuneInString s9).bind fun x10 =>
    cond ((IntKind.i64.wrap (i6 + x10.2)) != (s1.length : Int))
    (some (65533, 1))
    (some (x10.1, x10.2)))
noncomputable def F_unicode_utf8_DecodeLastRuneInString (s1 : List Int) : Option (Int × Int) :=
  cond ((s1.length : Int) == 0)
  (some (65533, 0))
  ((getI s1 (IntKind.i64.wrap ((s1.length : Int) - 1))).bind fun i2 =>
    cond (decide ((IntKind.i32.wrap i2) < 128))
    (some ((IntKind.i32.wrap i2), 1))
    (joinC (S := Int) (R := Int × Int)
      (loopC (S := Int) (R := (Int × Int) ⊕ (Int)) (F_unicode_utf8_DecodeLastRuneInString_L13 s1) (IntKind.i64.wrap ((IntKind.i64.wrap ((s1.length : Int) - 1)) - 1)))
      (F_unicode_utf8_DecodeLastRuneInString_J11 s1)))
def F_unicode_utf8_DecodeLastRuneInString_sig : Sig := ⟨[.v false [.d .str]], [(false, [.d (.int .i32)]), (false, [.d (.int .i64)])]⟩
def F_unicode_utf8_DecodeLastRuneInString_ann : List (Nat × Ann) := [(11, ⟨12, [(5, false, [.d (.int .i64)])], [], [23, 24, 25, 26, 27, 28, 29, 30, 31, 32, 33], []⟩), (13, ⟨14, [(5, false, [.d (.int .i64)])], [], [25, 26, 27, 28, 29, 30, 31, 32, 33], []⟩)]
noncomputable def F_unicode_utf8_DecodeLastRuneInString_env : Env := ⟨Tryd.prog, [(14, ⟨F_unicode_utf8_DecodeRuneInString_sig, ⟨F_unicode_utf8_DecodeRuneInString⟩⟩), (37, ⟨F_unicode_utf8_RuneStart_sig, ⟨F_unicode_utf8_RuneStart⟩⟩)]⟩
set_option maxRecDepth 100000 in
theorem F_unicode_utf8_DecodeLastRuneInString_text : pvFn F_unicode_utf8_DecodeLastRuneInString_env F_unicode_utf8_DecodeLastRuneInString_ann Tryd.f31 F_unicode_utf8_DecodeLastRuneInString_sig = F_unicode_utf8_DecodeLastRuneInString := by kernel_rfl
noncomputable def F_internal_bytealg_Cutover (i1 : Int) : Option (Int) :=
  some (IntKind.i64.wrap (Int.tdiv (IntKind.i64.wrap (i1 + 16)) 8))
def F_internal_bytealg_Cutover_sig : Sig := ⟨[.v false [.d (.int .i64)]], [(false, [.d (.int .i64)])]⟩
def F_internal_bytealg_Cutover_ann : List (Nat × Ann) := []
noncomputable def F_internal_bytealg_Cutover_env : Env := ⟨Tryd.prog, []⟩
set_option maxRecDepth 100000 in
theorem F_internal_bytealg_Cutover_text : pvFn F_internal_bytealg_Cutover_env F_internal_bytealg_Cutover_ann Tryd.f35 F_internal_bytealg_Cutover_sig = F_internal_bytealg_Cutover := by kernel_rfl
noncomputable def F_unicode_utf8_ValidRune (i1 : Int) : Option (Bool) :=
  cond ((decide ((0 : Int) ≤ i1)) && (decide (i1 < 55296)))
  (some true)
  (cond ((decide ((57343 : Int) < i1)) && (decide (i1 ≤ 1114111)))
    (some true)
    (some false))
def F_unicode_utf8_ValidRune_sig : Sig := ⟨[.v false [.d (.int .i32)]], [(false, [.d .bool])]⟩
def F_unicode_utf8_ValidRune_ann : List (Nat × Ann) := []
noncomputable def F_unicode_utf8_ValidRune_env : Env := ⟨Tryd.prog, []⟩
set_option maxRecDepth 100000 in
theorem F_unicode_utf8_ValidRune_text : pvFn F_unicode_utf8_ValidRune_env F_unicode_utf8_ValidRune_ann Tryd.f40 F_unicode_utf8_ValidRune_sig = F_unicode_utf8_ValidRune := by kernel_rfl
noncomputable def F_strings_ContainsRune (s1 : List Int) (i2 : Int) : Option (Bool) :=
  none
def F_strings_ContainsRune_sig : Sig := ⟨[.v false [.d .str], .v false [.d (.int .i32)]], [(false, [.d .bool])]⟩
def F_strings_ContainsRune_ann : List (Nat × Ann) := []
noncomputable def F_strings_ContainsRune_env : Env := ⟨Tryd.prog, []⟩
set_option maxRecDepth 100000 in
theorem F_strings_ContainsRune_text : pvFn F_strings_ContainsRune_env F_strings_ContainsRune_ann Tryd.f32 F_strings_ContainsRune_sig = F_strings_ContainsRune := by kernel_rfl
noncomputable def F_strings_trimRightUnicode_L2 (s2 : List Int) (s : List Int) : Option (((List Int) ⊕ (List Int)) ⊕ (List Int)) :=
  let s3 := s
  cond (decide ((s3.length : Int) > 0))
  ((getI s3 (IntKind.i64.wrap ((s3.length : Int) - 1))).bind fun i4 =>
    cond (decide ((IntKind.i32.wrap i4) ≥ 128))
    ((F_unicode_utf8_DecodeLastRuneInString s3).bind fun x5 =>
      (F_strings_ContainsRune s2 x5.1).bind fun b6 =>
      cond (!b6)
      (some (.inl (.inr s3)))
      ((cutI s3 0 (IntKind.i64.wrap ((s3.length : Int) - x5.2))).bind fun s7 =>
        some (.inr s7)))
    ((F_strings_ContainsRune s2 (IntKind.i32.wrap i4)).bind fun b8 =>
      cond (!b8)
      (some (.inl (.inr s3)))
      ((cutI s3 0 (IntKind.i64.wrap ((s3.length : Int) - 1))).bind fun s9 =>
        some (.inr s9))))
  (some (.inl (.inr s3)))
noncomputable def F_strings_trimRightUnicode_J1 (s : List Int) : Option (List Int) :=
  let s10 := s
  some s10
noncomputable def F_strings_trimRightUnicode (s1 : List Int) (s2 : List Int) : Option (List Int) :=
  joinC (S := List Int) (R := List Int)
  (loopC (S := List Int) (R := (List Int) ⊕ (List Int)) (F_strings_trimRightUnicode_L2 s2) s1)
  (F_strings_trimRightUnicode_J1)
def F_strings_trimRightUnicode_sig : Sig := ⟨[.v false [.d .str], .v false [.d .str]], [(false, [.d .str])]⟩
def F_strings_trimRightUnicode_ann : List (Nat × Ann) := [(1, ⟨2, [(0, false, [.d .str])], [], [5, 6, 7, 8, 9, 10, 11, 12, 13, 14, 15, 16, 17, 18, 19, 20, 21, 22, 23, 24, 25, 26, 27, 28, 29, 30, 31, 32], []⟩), (2, ⟨3, [(0, false, [.d .str])], [], [5, 6, 7, 8, 9, 10, 11, 12, 13, 14, 15, 16, 17, 18, 19, 20, 21, 22, 23, 24, 25, 26, 27, 28, 29, 30, 31, 32], []⟩)]
noncomputable def F_strings_trimRightUnicode_env : Env := ⟨Tryd.prog, [(31, ⟨F_unicode_utf8_DecodeLastRuneInString_sig, ⟨F_unicode_utf8_DecodeLastRuneInString⟩⟩), (32, ⟨F_strings_ContainsRune_sig, ⟨F_strings_ContainsRune⟩⟩)]⟩
set_option maxRecDepth 100000 in
theorem F_strings_trimRightUnicode_text : pvFn F_strings_trimRightUnicode_env F_strings_trimRightUnicode_ann Tryd.f26 F_strings_trimRightUnicode_sig = F_strings_trimRightUnicode := by kernel_rfl
noncomputable def F_strings_TrimRight (s1 : List Int) (s2 : List Int) : Option (List Int) :=
  cond ((s1 == ([] : List Int)) || (s2 == ([] : List Int)))
  (some s1)
  (cond ((s2.length : Int) == 1)
    ((getI s2 0).bind fun i3 =>
      cond (decide (i3 < 128))
      ((getI s2 0).bind fun i4 =>
        (F_strings_trimRightByte s1 i4).bind fun s5 =>
        some s5)
      ((F_strings_makeASCIISet s2).bind fun x6 =>
        cond x6.2
        ((F_strings_trimRightASCII s1 x6.1).bind fun x7 =>
          some x7.1)
        ((F_strings_trimRightUnicode s1 s2).bind fun s8 =>
          some s8)))
    ((F_strings_makeASCIISet s2).bind fun x9 =>
      cond x9.2
      ((F_strings_trimRightASCII s1 x9.1).bind fun x10 =>
        some x10.1)
      ((F_strings_trimRightUnicode s1 s2).bind fun s11 =>
        some s11)))
def F_strings_TrimRight_sig : Sig := ⟨[.v false [.d .str], .v false [.d .str]], [(false, [.d .str])]⟩
def F_strings_TrimRight_ann : List (Nat × Ann) := []
noncomputable def F_strings_TrimRight_env : Env := ⟨Tryd.prog, [(23, ⟨F_strings_trimRightByte_sig, ⟨F_strings_trimRightByte⟩⟩), (24, ⟨F_strings_makeASCIISet_sig, ⟨F_strings_makeASCIISet⟩⟩), (25, ⟨F_strings_trimRightASCII_sig, ⟨F_strings_trimRightASCII⟩⟩), (26, ⟨F_strings_trimRightUnicode_sig, ⟨F_strings_trimRightUnicode⟩⟩)]⟩
set_option maxRecDepth 100000 in
theorem F_strings_TrimRight_text : pvFn F_strings_TrimRight_env F_strings_TrimRight_ann Tryd.f16 F_strings_TrimRight_sig = F_strings_TrimRight := by kernel_rfl
noncomputable def F_b64_Decode_L6 (s2 : List Int) (s : List Int × Int × Int × Int) : Option (((List Int × Int) ⊕ (List Int)) ⊕ (List Int × Int × Int × Int)) :=
  let l3 := s.1; let i4 := s.2.1; let i5 := s.2.2.1; let i6 := s.2.2.2
  cond (decide (i6 < (s2.length : Int)))
  ((getI s2 i6).bind fun i7 =>
    (F_strings_IndexByte ([65, 66, 67, 68, 69, 70, 71, 72, 73, 74, 75, 76, 77, 78, 79, 80, 81, 82, 83, 84, 85, 86, 87, 88, 89, 90, 97, 98, 99, 100, 101, 102, 103, 104, 105, 106, 107, 108, 109, 110, 111, 112, 113, 114, 115, 116, 117, 118, 119, 120, 121, 122, 48, 49, 50, 51, 52, 53, 54, 55, 56, 57, 43, 47] : List Int) i7).bind fun i8 =>
    cond (decide (i8 < 0))
    (some (.inl (.inl ([], 2))))
    (cond (decide ((IntKind.i64.wrap (i5 + 6)) ≥ 8))
      (chk (decide (0 ≤ (IntKind.i64.wrap ((IntKind.i64.wrap (i5 + 6)) - 8))))
        (chk (decide ((l3.length + ([(IntKind.u8.wrap (Int.fdiv (bits .and .i64 (bits .or .i64 (IntKind.i64.wrap (i4 * 2 ^ 6)) i8) 16383) (2 ^ (min ((IntKind.i64.wrap ((IntKind.i64.wrap (i5 + 6)) - 8))).toNat 64))))] : List Int).length) * 1 ≤ 140737488355328) && decide (l3.length + ([(IntKind.u8.wrap (Int.fdiv (bits .and .i64 (bits .or .i64 (IntKind.i64.wrap (i4 * 2 ^ 6)) i8) 16383) (2 ^ (min ((IntKind.i64.wrap ((IntKind.i64.wrap (i5 + 6)) - 8))).toNat 64))))] : List Int).length ≤ maxLen))
          (some (.inr ((l3 ++ ([(IntKind.u8.wrap (Int.fdiv (bits .and .i64 (bits .or .i64 (IntKind.i64.wrap (i4 * 2 ^ 6)) i8) 16383) (2 ^ (min ((IntKind.i64.wrap ((IntKind.i64.wrap (i5 + 6)) - 8))).toNat 64))))] : List Int)), (bits .and .i64 (bits .or .i64 (IntKind.i64.wrap (i4 * 2 ^ 6)) i8) 16383), (IntKind.i64.wrap ((IntKind.i64.wrap (i5 + 6)) - 8)), (IntKind.i64.wrap (i6 + 1)))))))
      (some (.inr (l3, (bits .and .i64 (bits .or .i64 (IntKind.i64.wrap (i4 * 2 ^ 6)) i8) 16383), (IntKind.i64.wrap (i5 + 6)), (IntKind.i64.wrap (i6 + 1)))))))
  (some (.inl (.inr l3)))
noncomputable def F_b64_Decode_J4 (s1 : List Int) (s : List Int) : Option (List Int × Int) :=
  let l9 := s
  (F_b64_Encode l9).bind fun s10 =>
  cond (!(s10 == s1))
  (some ([], 2))
  (some (l9, 0))
noncomputable def F_b64_Decode (s1 : List Int) : Option (List Int × Int) :=
  (F_strings_TrimRight s1 ([61] : List Int)).bind fun s2 =>
  joinC (S := List Int) (R := List Int × Int)
  (loopC (S := List Int × Int × Int × Int) (R := (List Int × Int) ⊕ (List Int)) (F_b64_Decode_L6 s2) ([], 0, 0, 0))
  (F_b64_Decode_J4 s1)
def F_b64_Decode_sig : Sig := ⟨[.v false [.d .str]], [(false, [.own 5 (.int .u8)]), (false, [.d (.int .i64)])]⟩
def F_b64_Decode_ann : List (Nat × Ann) := [(4, ⟨5, [(5, false, [.own 5 (.int .u8)])], [], [2, 3, 6, 7, 8, 9, 12, 13, 14, 15, 16, 17, 18, 19, 20, 21, 22, 23, 24, 25, 26, 27, 28, 29, 30, 31, 32, 33, 34, 35, 36, 37, 38, 39, 40, 41], []⟩), (6, ⟨7, [(5, false, [.own 5 (.int .u8)]), (6, false, [.d (.int .i64)]), (7, false, [.d (.int .i64)]), (14, false, [.d (.int .i64)])], [], [2, 3, 8, 9, 15, 16, 17, 18, 19, 20, 21, 22, 23, 24, 25, 26, 27, 28, 29, 30, 31, 32, 33, 34, 35, 36, 37, 38, 39, 40, 41], []⟩)]
noncomputable def F_b64_Decode_env : Env := ⟨Tryd.prog, [(7, ⟨F_b64_Encode_sig, ⟨F_b64_Encode⟩⟩), (16, ⟨F_strings_TrimRight_sig, ⟨F_strings_TrimRight⟩⟩), (17, ⟨F_strings_IndexByte_sig, ⟨F_strings_IndexByte⟩⟩)]⟩
set_option maxRecDepth 100000 in
theorem F_b64_Decode_text : pvFn F_b64_Decode_env F_b64_Decode_ann Tryd.f9 F_b64_Decode_sig = F_b64_Decode := by kernel_rfl
noncomputable def F_internal_stringslite_Cut (s1 : List Int) (s2 : List Int) : Option (List Int × List Int × Bool) :=
  (F_internal_stringslite_Index s1 s2).bind fun i3 =>
  cond (decide (i3 ≥ 0))
  ((cutI s1 0 i3).bind fun s4 =>
    (cutI s1 (IntKind.i64.wrap (i3 + (s2.length : Int))) (s1.length : Int)).bind fun s5 =>
    some (s4, s5, true))
  (some (s1, ([] : List Int), false))
def F_internal_stringslite_Cut_sig : Sig := ⟨[.v false [.d .str], .v false [.d .str]], [(false, [.d .str]), (false, [.d .str]), (false, [.d .bool])]⟩
def F_internal_stringslite_Cut_ann : List (Nat × Ann) := []
noncomputable def F_internal_stringslite_Cut_env : Env := ⟨Tryd.prog, [(28, ⟨F_internal_stringslite_Index_sig, ⟨F_internal_stringslite_Index⟩⟩)]⟩
set_option maxRecDepth 100000 in
theorem F_internal_stringslite_Cut_text : pvFn F_internal_stringslite_Cut_env F_internal_stringslite_Cut_ann Tryd.f18 F_internal_stringslite_Cut_sig = F_internal_stringslite_Cut := by kernel_rfl
noncomputable def F_strings_Cut (s1 : List Int) (s2 : List Int) : Option (List Int × List Int × Bool) :=
  (F_internal_stringslite_Cut s1 s2).bind fun x3 =>
  some (x3.1, x3.2.1, x3.2.2)
def F_strings_Cut_sig : Sig := ⟨[.v false [.d .str], .v false [.d .str]], [(false, [.d .str]), (false, [.d .str]), (false, [.d .bool])]⟩
def F_strings_Cut_ann : List (Nat × Ann) := []
noncomputable def F_strings_Cut_env : Env := ⟨Tryd.prog, [(18, ⟨F_internal_stringslite_Cut_sig, ⟨F_internal_stringslite_Cut⟩⟩)]⟩
set_option maxRecDepth 100000 in
theorem F_strings_Cut_text : pvFn F_strings_Cut_env F_strings_Cut_ann Tryd.f10 F_strings_Cut_sig = F_strings_Cut := by kernel_rfl
noncomputable def F_cred_plain_L3 (s1 : List Int) (s : Int) : Option (((Bool) ⊕ (Unit)) ⊕ (Int)) :=
  let i2 := s
  cond (decide (i2 < (s1.length : Int)))
  ((getI s1 i2).bind fun i3 =>
    cond (decide (i3 < 32))
    (some (.inl (.inl false)))
    ((getI s1 i2).bind fun i4 =>
      cond (i4 == 127)
      (some (.inl (.inl false)))
      (some (.inr (IntKind.i64.wrap (i2 + 1))))))
  (some (.inl (.inr ())))
noncomputable def F_cred_plain_J1 (s : Unit) : Option (Bool) :=
  some true
noncomputable def F_cred_plain (s1 : List Int) : Option (Bool) :=
  joinC (S := Unit) (R := Bool)
  (loopC (S := Int) (R := (Bool) ⊕ (Unit)) (F_cred_plain_L3 s1) 0)
  (F_cred_plain_J1)
def F_cred_plain_sig : Sig := ⟨[.v false [.d .str]], [(false, [.d .bool])]⟩
def F_cred_plain_ann : List (Nat × Ann) := [(1, ⟨2, [], [], [2, 3, 4, 5, 6, 7, 8, 9, 10, 11, 12, 13, 14, 15, 16, 17, 18, 19], []⟩), (3, ⟨4, [(6, false, [.d (.int .i64)])], [], [2, 3, 7, 8, 9, 10, 11, 12, 13, 14, 15, 16, 17, 18, 19], []⟩)]
noncomputable def F_cred_plain_env : Env := ⟨Tryd.prog, []⟩
set_option maxRecDepth 100000 in
theorem F_cred_plain_text : pvFn F_cred_plain_env F_cred_plain_ann Tryd.f11 F_cred_plain_sig = F_cred_plain := by kernel_rfl
noncomputable def F_cred_Parse (s1 : List Int) : Option (List Int × List Int × Int) :=
  cond (decide ((s1.length : Int) < 6))
  (some (([] : List Int), ([] : List Int), 2))
  ((cutI s1 0 6).bind fun s2 =>
    (F_strings_EqualFold s2 ([98, 97, 115, 105, 99, 32] : List Int)).bind fun b3 =>
    cond (!b3)
    (some (([] : List Int), ([] : List Int), 2))
    ((cutI s1 6 (s1.length : Int)).bind fun s4 =>
      (F_b64_Decode s4).bind fun x5 =>
      (F_strings_Cut x5.1 ([58] : List Int)).bind fun x6 =>
      cond (((((x5.2 != 0) || (!x6.2.2)) || (x6.1 == ([] : List Int))) || (decide ((x6.1.length : Int) > 64))) || (decide ((x6.2.1.length : Int) > 256)))
      (some (([] : List Int), ([] : List Int), 2))
      (chk (Nat.ble (x6.1.length + x6.2.1.length) maxLen)
        ((F_cred_plain (x6.1 ++ x6.2.1)).bind fun b7 =>
          cond (!b7)
          (some (([] : List Int), ([] : List Int), 2))
          (some (x6.1, x6.2.1, 0))))))
def F_cred_Parse_sig : Sig := ⟨[.v false [.d .str]], [(false, [.d .str]), (false, [.d .str]), (false, [.d (.int .i64)])]⟩
def F_cred_Parse_ann : List (Nat × Ann) := []
noncomputable def F_cred_Parse_env : Env := ⟨Tryd.prog, [(8, ⟨F_strings_EqualFold_sig, ⟨F_strings_EqualFold⟩⟩), (9, ⟨F_b64_Decode_sig, ⟨F_b64_Decode⟩⟩), (10, ⟨F_strings_Cut_sig, ⟨F_strings_Cut⟩⟩), (11, ⟨F_cred_plain_sig, ⟨F_cred_plain⟩⟩)]⟩
set_option maxRecDepth 100000 in
theorem F_cred_Parse_text : pvFn F_cred_Parse_env F_cred_Parse_ann Tryd.f6 F_cred_Parse_sig = F_cred_Parse := by kernel_rfl
noncomputable def F_wlvlaw17_first : Option (Bool) :=
  (F_cred_Parse ([66, 97, 115, 105, 99, 32, 89, 84, 112, 105] : List Int)).bind fun x1 =>
  some (((x1.2.2 == 0) && (x1.1 == ([97] : List Int))) && (x1.2.1 == ([98] : List Int)))
def F_wlvlaw17_first_sig : Sig := ⟨[], [(false, [.d .bool])]⟩
def F_wlvlaw17_first_ann : List (Nat × Ann) := []
noncomputable def F_wlvlaw17_first_env : Env := ⟨Tryd.prog, [(6, ⟨F_cred_Parse_sig, ⟨F_cred_Parse⟩⟩)]⟩
set_option maxRecDepth 100000 in
theorem F_wlvlaw17_first_text : pvFn F_wlvlaw17_first_env F_wlvlaw17_first_ann Tryd.f5 F_wlvlaw17_first_sig = F_wlvlaw17_first := by kernel_rfl
noncomputable def F_wlvlaw17_CredWho_L9 (i1 : Int) (s : List Int) : Option (((Bool) ⊕ (List Int)) ⊕ (List Int)) :=
  let s6 := s
  cond (decide ((s6.length : Int) < i1))
  (chk (Nat.ble (s6.length + ([117] : List Int).length) maxLen)
    (some (.inr (s6 ++ ([117] : List Int)))))
  (some (.inl (.inr s6)))
noncomputable def F_wlvlaw17_CredWho_L13 (i2 : Int) (s : List Int) : Option (((Bool) ⊕ (List Int)) ⊕ (List Int)) :=
  let s8 := s
  cond (decide ((s8.length : Int) < i2))
  (chk (Nat.ble (s8.length + ([119] : List Int).length) maxLen)
    (some (.inr (s8 ++ ([119] : List Int)))))
  (some (.inl (.inr s8)))
noncomputable def F_wlvlaw17_CredWho_L18 (i3 : Int) (s : List Int × Int) : Option (((Bool) ⊕ (List Int)) ⊕ (List Int × Int)) :=
  let s10 := s.1; let i11 := s.2
  cond (decide (i11 < i3))
  (chk (Nat.ble (([58] : List Int).length + s10.length) maxLen)
    (some (.inr ((([58] : List Int) ++ s10), (IntKind.i64.wrap (i11 + 1))))))
  (some (.inl (.inr s10)))
noncomputable def F_wlvlaw17_CredWho_J16 (i1 : Int) (s7 : List Int) (s : List Int) : Option (Bool) :=
  let s12 := s
  chk (Nat.ble (s7.length + ([58] : List Int).length) maxLen)
  (chk (Nat.ble ((s7 ++ ([58] : List Int)).length + s12.length) maxLen)
    ((F_b64_Encode ((s7 ++ ([58] : List Int)) ++ s12)).bind fun s13 =>
      chk (Nat.ble (([66, 97, 115, 105, 99, 32] : List Int).length + s13.length) maxLen)
      ((F_cred_Parse (([66, 97, 115, 105, 99, 32] : List Int) ++ s13)).bind fun x14 =>
        (F_b64_Encode s7).bind fun s15 =>
        chk (Nat.ble (([66, 97, 115, 105, 99, 32] : List Int).length + s15.length) maxLen)
        ((F_cred_Parse (([66, 97, 115, 105, 99, 32] : List Int) ++ s15)).bind fun x16 =>
          (F_wlvlaw17_first).bind fun b17 =>
          cond (b17 && (bEq (x14.2.2 == 0) (((decide (i1 ≥ 1)) && (decide (i1 ≤ 64))) && (decide ((s12.length : Int) ≤ 256)))))
          (cond (!(((decide (i1 ≥ 1)) && (decide (i1 ≤ 64))) && (decide ((s12.length : Int) ≤ 256))))
            (some (x16.2.2 == 2))
            (some (((x14.1 == s7) && (x14.2.1 == s12)) && (x16.2.2 == 2))))
          (some false)))))
noncomputable def F_wlvlaw17_CredWho_J12 (i1 : Int) (i3 : Int) (s7 : List Int) (s : List Int) : Option (Bool) :=
  let s9 := s
  joinC (S := List Int) (R := Bool)
  (loopC (S := List Int × Int) (R := (Bool) ⊕ (List Int)) (F_wlvlaw17_CredWho_L18 i3) (s9, 0))
  (F_wlvlaw17_CredWho_J16 i1 s7)
noncomputable def F_wlvlaw17_CredWho_J8 (i1 : Int) (i2 : Int) (i3 : Int) (s : List Int) : Option (Bool) :=
  let s7 := s
  joinC (S := List Int) (R := Bool)
  (loopC (S := List Int) (R := (Bool) ⊕ (List Int)) (F_wlvlaw17_CredWho_L13 i2) ([] : List Int))
  (F_wlvlaw17_CredWho_J12 i1 i3 s7)
noncomputable def F_wlvlaw17_CredWho (i1 : Int) (i2 : Int) (i3 : Int) : Option (Bool) :=
  (F_wlvlaw17_first).bind fun b4 =>
  cond (!b4)
  (some false)
  (cond ((((((decide (i1 < 0)) || (decide (i1 > 70))) || (decide (i2 < 0))) || (decide (i2 > 260))) || (decide (i3 < 0))) || (decide (i3 > 5)))
    ((F_wlvlaw17_first).bind fun b5 =>
      some b5)
    (joinC (S := List Int) (R := Bool)
      (loopC (S := List Int) (R := (Bool) ⊕ (List Int)) (F_wlvlaw17_CredWho_L9 i1) ([] : List Int))
      (F_wlvlaw17_CredWho_J8 i1 i2 i3)))
def F_wlvlaw17_CredWho_sig : Sig := ⟨[.v false [.d (.int .i64)], .v false [.d (.int .i64)], .v false [.d (.int .i64)]], [(false, [.d .bool])]⟩
def F_wlvlaw17_CredWho_ann : List (Nat × Ann) := [(8, ⟨9, [(7, false, [.d .str])], [], [42, 43, 44, 45, 46, 47], []⟩), (9, ⟨10, [(7, false, [.d .str])], [], [42, 43, 44, 45, 46, 47], []⟩), (12, ⟨13, [(8, false, [.d .str])], [], [48, 49, 50, 51, 52, 53], []⟩), (13, ⟨14, [(8, false, [.d .str])], [], [48, 49, 50, 51, 52, 53], []⟩), (16, ⟨17, [(8, false, [.d .str])], [], [9, 54, 55, 56, 57, 58, 59, 60], []⟩), (18, ⟨19, [(8, false, [.d .str]), (9, false, [.d (.int .i64)])], [], [54, 55, 56, 57, 58, 59, 60], []⟩)]
noncomputable def F_wlvlaw17_CredWho_env : Env := ⟨Tryd.prog, [(5, ⟨F_wlvlaw17_first_sig, ⟨F_wlvlaw17_first⟩⟩), (6, ⟨F_cred_Parse_sig, ⟨F_cred_Parse⟩⟩), (7, ⟨F_b64_Encode_sig, ⟨F_b64_Encode⟩⟩)]⟩
set_option maxRecDepth 100000 in
theorem F_wlvlaw17_CredWho_text : pvFn F_wlvlaw17_CredWho_env F_wlvlaw17_CredWho_ann Tryd.f4 F_wlvlaw17_CredWho_sig = F_wlvlaw17_CredWho := by kernel_rfl
end Go.Proofs.YtniilnnhpcpccaaDoor
