/- The functions of the program as Lean functions, written by a program of ours and held by the kernel. -/
import Derived.Test.YtgcgdfjldeihkaaDoorProg
import Derived.Test.YtgcgdfjldeihkaaDoorQB64c
import Derived.Test.YtgcgdfjldeihkaaDoorPw
import Derived.KernelRfl
import Derived.Laws.Bits
namespace Go.Proofs.YtgcgdfjldeihkaaDoor
open Pv
set_option linter.unusedVariables false
noncomputable def F_strings_trimRightByte_L2 (i2 : Int) (s : List Int) : Option (((List Int) ⊕ (List Int)) ⊕ (List Int)) :=
  let s3 := s
  cond (decide ((s3.length : Int) > 0))
  ((getI s3 (IntKind.i64.wrap ((s3.length : Int) - 1))).bind fun i4 =>
    cond (i4 == i2)
    ((cutI s3 0 (IntKind.i64.wrap ((s3.length : Int) - 1))).bind fun s5 =>
      some (.inr s5))
    (some (.inl (.inr s3))))
  (some (.inl (.inr s3)))
noncomputable def F_strings_trimRightByte_J1 (s : List Int) : Option (List Int) :=
  let s6 := s
  some s6
noncomputable def F_strings_trimRightByte (s1 : List Int) (i2 : Int) : Option (List Int) :=
  joinC (S := List Int) (R := List Int)
  (loopC (S := List Int) (R := (List Int) ⊕ (List Int)) (F_strings_trimRightByte_L2 i2) s1)
  (F_strings_trimRightByte_J1)
def F_strings_trimRightByte_sig : Sig := ⟨[.v false [.d .str], .v false [.d (.int .u8)]], [(false, [.d .str])]⟩
def F_strings_trimRightByte_ann : List (Nat × Ann) := [(1, ⟨2, [(0, false, [.d .str])], [], [5, 6, 7, 8, 9, 10, 11, 12, 13, 14, 15, 16, 17, 18, 19, 20, 21], []⟩), (2, ⟨3, [(0, false, [.d .str])], [], [5, 6, 7, 8, 9, 10, 11, 12, 13, 14, 15, 16, 17, 18, 19, 20, 21], []⟩)]
noncomputable def F_strings_trimRightByte_env : Env := ⟨Tryd.prog, [], []⟩
set_option maxRecDepth 100000 in
theorem F_strings_trimRightByte_text : pvFn F_strings_trimRightByte_env F_strings_trimRightByte_ann Tryd.f36 F_strings_trimRightByte_sig = F_strings_trimRightByte := by kernel_rfl
noncomputable def F_strings_makeASCIISet_L3 (s1 : List Int) (s : Int × List Bool) : Option (((List Bool × Bool) ⊕ (List Bool)) ⊕ (Int × List Bool)) :=
  let i2 := s.1; let a3 := s.2
  cond (decide (i2 < (s1.length : Int)))
  ((getI s1 i2).bind fun i4 =>
    cond (decide (i4 ≥ 128))
    (some (.inl (.inl (a3, false))))
    (chk (decide (0 ≤ i4) && decide (i4 < (256 : Int)))
      (chk (decide (i4 < (256 : Int)))
        (some (.inr ((IntKind.i64.wrap (i2 + 1)), (a3.set (i4).toNat true)))))))
  (some (.inl (.inr a3)))
noncomputable def F_strings_makeASCIISet_J1 (s : List Bool) : Option (List Bool × Bool) :=
  let a5 := s
  some (a5, true)
noncomputable def F_strings_makeASCIISet (s1 : List Int) : Option (List Bool × Bool) :=
  joinC (S := List Bool) (R := List Bool × Bool)
  (loopC (S := Int × List Bool) (R := (List Bool × Bool) ⊕ (List Bool)) (F_strings_makeASCIISet_L3 s1) (0, (List.replicate 256 false)))
  (F_strings_makeASCIISet_J1)
def F_strings_makeASCIISet_sig : Sig := ⟨[.v false [.d .str]], [(true, [.d (.arr 256 .bool)]), (false, [.d .bool])]⟩
def F_strings_makeASCIISet_ann : List (Nat × Ann) := [(1, ⟨2, [], [(2, [.d (.arr 256 .bool)])], [3, 4, 5, 6, 7, 8, 9, 10, 11, 12, 13, 14, 15, 16, 17, 18, 19], []⟩), (3, ⟨4, [(4, false, [.d (.int .i64)])], [(2, [.d (.arr 256 .bool)])], [3, 5, 6, 7, 8, 9, 10, 11, 12, 13, 14, 15, 16, 17, 18, 19], []⟩)]
noncomputable def F_strings_makeASCIISet_env : Env := ⟨Tryd.prog, [], []⟩
set_option maxRecDepth 100000 in
theorem F_strings_makeASCIISet_text : pvFn F_strings_makeASCIISet_env F_strings_makeASCIISet_ann Tryd.f37 F_strings_makeASCIISet_sig = F_strings_makeASCIISet := by kernel_rfl
noncomputable def F_strings_asciiSet_contains (a1 : List Bool) (i2 : Int) : Option (Bool × List Bool) :=
  chk (decide (0 ≤ i2) && decide (i2 < (256 : Int)))
  ((getI a1 i2).bind fun b3 =>
    some (b3, a1))
def F_strings_asciiSet_contains_sig : Sig := ⟨[.m [.d (.arr 256 .bool)], .v false [.d (.int .u8)]], [(false, [.d .bool])]⟩
def F_strings_asciiSet_contains_ann : List (Nat × Ann) := []
noncomputable def F_strings_asciiSet_contains_env : Env := ⟨Tryd.prog, [], []⟩
set_option maxRecDepth 100000 in
theorem F_strings_asciiSet_contains_text : pvFn F_strings_asciiSet_contains_env F_strings_asciiSet_contains_ann Tryd.f46 F_strings_asciiSet_contains_sig = F_strings_asciiSet_contains := by kernel_rfl
noncomputable def F_strings_trimRightASCII_L2 (s : List Int × List Bool) : Option (((List Int × List Bool) ⊕ (List Int × List Bool)) ⊕ (List Int × List Bool)) :=
  let s3 := s.1; let a4 := s.2
  cond (decide ((s3.length : Int) > 0))
  ((getI s3 (IntKind.i64.wrap ((s3.length : Int) - 1))).bind fun i5 =>
    (F_strings_asciiSet_contains a4 i5).bind fun x6 =>
    cond (!x6.1)
    (some (.inl (.inr (s3, x6.2))))
    ((cutI s3 0 (IntKind.i64.wrap ((s3.length : Int) - 1))).bind fun s7 =>
      some (.inr (s7, x6.2))))
  (some (.inl (.inr (s3, a4))))
noncomputable def F_strings_trimRightASCII_J1 (s : List Int × List Bool) : Option (List Int × List Bool) :=
  let s8 := s.1; let a9 := s.2
  some (s8, a9)
noncomputable def F_strings_trimRightASCII (s1 : List Int) (a2 : List Bool) : Option (List Int × List Bool) :=
  joinC (S := List Int × List Bool) (R := List Int × List Bool)
  (loopC (S := List Int × List Bool) (R := (List Int × List Bool) ⊕ (List Int × List Bool)) (F_strings_trimRightASCII_L2) (s1, a2))
  (F_strings_trimRightASCII_J1)
def F_strings_trimRightASCII_sig : Sig := ⟨[.v false [.d .str], .m [.d (.arr 256 .bool)]], [(false, [.d .str])]⟩
def F_strings_trimRightASCII_ann : List (Nat × Ann) := [(1, ⟨2, [(0, false, [.d .str])], [(1, [.d (.arr 256 .bool)])], [5, 6, 7, 8, 9, 10, 11, 12, 13, 14, 15, 16, 17, 18, 19, 20], []⟩), (2, ⟨3, [(0, false, [.d .str])], [(1, [.d (.arr 256 .bool)])], [5, 6, 7, 8, 9, 10, 11, 12, 13, 14, 15, 16, 17, 18, 19, 20], []⟩)]
noncomputable def F_strings_trimRightASCII_env : Env := ⟨Tryd.prog, [(46, ⟨F_strings_asciiSet_contains_sig, ⟨F_strings_asciiSet_contains⟩⟩)], []⟩
set_option maxRecDepth 100000 in
theorem F_strings_trimRightASCII_text : pvFn F_strings_trimRightASCII_env F_strings_trimRightASCII_ann Tryd.f38 F_strings_trimRightASCII_sig = F_strings_trimRightASCII := by kernel_rfl
noncomputable def F_unicode_utf8_RuneStart (i1 : Int) : Option (Bool) :=
  some ((bits .and .u8 i1 192) != 128)
def F_unicode_utf8_RuneStart_sig : Sig := ⟨[.v false [.d (.int .u8)]], [(false, [.d .bool])]⟩
def F_unicode_utf8_RuneStart_ann : List (Nat × Ann) := []
noncomputable def F_unicode_utf8_RuneStart_env : Env := ⟨Tryd.prog, [], []⟩
set_option maxRecDepth 100000 in
theorem F_unicode_utf8_RuneStart_text : pvFn F_unicode_utf8_RuneStart_env F_unicode_utf8_RuneStart_ann Tryd.f58 F_unicode_utf8_RuneStart_sig = F_unicode_utf8_RuneStart := by kernel_rfl
noncomputable def F_unicode_utf8_decodeRuneInStringSlow (s1 : List Int) : Option (Int × Int) :=
  cond (decide ((s1.length : Int) < 1))
  (some (65533, 0))
  ((getI s1 0).bind fun i2 =>
    none)
def F_unicode_utf8_decodeRuneInStringSlow_sig : Sig := ⟨[.v false [.d .str]], [(false, [.d (.int .i32)]), (false, [.d (.int .i64)])]⟩
def F_unicode_utf8_decodeRuneInStringSlow_ann : List (Nat × Ann) := []
noncomputable def F_unicode_utf8_decodeRuneInStringSlow_env : Env := ⟨Tryd.prog, [], []⟩
set_option maxRecDepth 100000 in
theorem F_unicode_utf8_decodeRuneInStringSlow_text : pvFn F_unicode_utf8_decodeRuneInStringSlow_env F_unicode_utf8_decodeRuneInStringSlow_ann Tryd.f67 F_unicode_utf8_decodeRuneInStringSlow_sig = F_unicode_utf8_decodeRuneInStringSlow := by kernel_rfl
noncomputable def F_unicode_utf8_DecodeRuneInString (s1 : List Int) : Option (Int × Int) :=
  cond (!(s1 == ([] : List Int)))
  ((getI s1 0).bind fun i2 =>
    cond (decide (i2 < 128))
    ((getI s1 0).bind fun i3 =>
      some ((IntKind.i32.wrap i3), 1))
    ((F_unicode_utf8_decodeRuneInStringSlow s1).bind fun x4 =>
      some (x4.1, x4.2)))
  ((F_unicode_utf8_decodeRuneInStringSlow s1).bind fun x5 =>
    some (x5.1, x5.2))
def F_unicode_utf8_DecodeRuneInString_sig : Sig := ⟨[.v false [.d .str]], [(false, [.d (.int .i32)]), (false, [.d (.int .i64)])]⟩
def F_unicode_utf8_DecodeRuneInString_ann : List (Nat × Ann) := []
noncomputable def F_unicode_utf8_DecodeRuneInString_env : Env := ⟨Tryd.prog, [(67, ⟨F_unicode_utf8_decodeRuneInStringSlow_sig, ⟨F_unicode_utf8_decodeRuneInStringSlow⟩⟩)], []⟩
set_option maxRecDepth 100000 in
theorem F_unicode_utf8_DecodeRuneInString_text : pvFn F_unicode_utf8_DecodeRuneInString_env F_unicode_utf8_DecodeRuneInString_ann Tryd.f59 F_unicode_utf8_DecodeRuneInString_sig = F_unicode_utf8_DecodeRuneInString := by kernel_rfl
noncomputable def F_unicode_utf8_DecodeLastRuneInString_L13 (s1 : List Int) (s : Int) : Option (((Int × Int) ⊕ (Int)) ⊕ (Int)) :=
  let i3 := s
  cond (decide (i3 ≥ (maxI (IntKind.i64.wrap ((s1.length : Int) - 4)) 0)))
  ((getI s1 i3).bind fun i4 =>
    (F_unicode_utf8_RuneStart i4).bind fun b5 =>
    cond b5
    (some (.inl (.inr i3)))
    (some (.inr (IntKind.i64.wrap (i3 - 1)))))
  (some (.inl (.inr i3)))
noncomputable def F_unicode_utf8_DecodeLastRuneInString_J11 (s1 : List Int) (s : Int) : Option (Int × Int) :=
  let i6 := s
  cond (decide (i6 < 0))
  ((cutI s1 0 (s1.length : Int)).bind fun s7 =>
    (F_unicode_utf8_DecodeRuneInString s7).bind fun x8 =>
    cond ((IntKind.i64.wrap (0 + x8.2)) != (s1.length : Int))
    (some (65533, 1))
    (some (x8.1, x8.2)))
  ((cutI s1 i6 (s1.length : Int)).bind fun s9 =>
    (F_unicode_utf8_DecodeRuneInString s9).bind fun x10 =>
    cond ((IntKind.i64.wrap (i6 + x10.2)) != (s1.length : Int))
    (some (65533, 1))
    (some (x10.1, x10.2)))
noncomputable def F_unicode_utf8_DecodeLastRuneInString (s1 : List Int) : Option (Int × Int) :=
  cond ((s1.length : Int) == 0)
  (some (65533, 0))
  ((getI s1 (IntKind.i64.wrap ((s1.length : Int) - 1))).bind fun i2 =>
    cond (decide ((IntKind.i32.wrap i2) < 128))
    (some ((IntKind.i32.wrap i2), 1))
    (joinC (S := Int) (R := Int × Int)
      (loopC (S := Int) (R := (Int × Int) ⊕ (Int)) (F_unicode_utf8_DecodeLastRuneInString_L13 s1) (IntKind.i64.wrap ((IntKind.i64.wrap ((s1.length : Int) - 1)) - 1)))
      (F_unicode_utf8_DecodeLastRuneInString_J11 s1)))
def F_unicode_utf8_DecodeLastRuneInString_sig : Sig := ⟨[.v false [.d .str]], [(false, [.d (.int .i32)]), (false, [.d (.int .i64)])]⟩
def F_unicode_utf8_DecodeLastRuneInString_ann : List (Nat × Ann) := [(11, ⟨12, [(5, false, [.d (.int .i64)])], [], [23, 24, 25, 26, 27, 28, 29, 30, 31, 32, 33], []⟩), (13, ⟨14, [(5, false, [.d (.int .i64)])], [], [25, 26, 27, 28, 29, 30, 31, 32, 33], []⟩)]
noncomputable def F_unicode_utf8_DecodeLastRuneInString_env : Env := ⟨Tryd.prog, [(58, ⟨F_unicode_utf8_RuneStart_sig, ⟨F_unicode_utf8_RuneStart⟩⟩), (59, ⟨F_unicode_utf8_DecodeRuneInString_sig, ⟨F_unicode_utf8_DecodeRuneInString⟩⟩)], []⟩
set_option maxRecDepth 100000 in
theorem F_unicode_utf8_DecodeLastRuneInString_text : pvFn F_unicode_utf8_DecodeLastRuneInString_env F_unicode_utf8_DecodeLastRuneInString_ann Tryd.f47 F_unicode_utf8_DecodeLastRuneInString_sig = F_unicode_utf8_DecodeLastRuneInString := by kernel_rfl
noncomputable def F_unicode_utf8_ValidRune (i1 : Int) : Option (Bool) :=
  cond ((decide ((0 : Int) ≤ i1)) && (decide (i1 < 55296)))
  (some true)
  (cond ((decide ((57343 : Int) < i1)) && (decide (i1 ≤ 1114111)))
    (some true)
    (some false))
def F_unicode_utf8_ValidRune_sig : Sig := ⟨[.v false [.d (.int .i32)]], [(false, [.d .bool])]⟩
def F_unicode_utf8_ValidRune_ann : List (Nat × Ann) := []
noncomputable def F_unicode_utf8_ValidRune_env : Env := ⟨Tryd.prog, [], []⟩
set_option maxRecDepth 100000 in
theorem F_unicode_utf8_ValidRune_text : pvFn F_unicode_utf8_ValidRune_env F_unicode_utf8_ValidRune_ann Tryd.f68 F_unicode_utf8_ValidRune_sig = F_unicode_utf8_ValidRune := by kernel_rfl
noncomputable def F_internal_bytealg_Cutover (i1 : Int) : Option (Int) :=
  some (IntKind.i64.wrap (Int.tdiv (IntKind.i64.wrap (i1 + 16)) 8))
def F_internal_bytealg_Cutover_sig : Sig := ⟨[.v false [.d (.int .i64)]], [(false, [.d (.int .i64)])]⟩
def F_internal_bytealg_Cutover_ann : List (Nat × Ann) := []
noncomputable def F_internal_bytealg_Cutover_env : Env := ⟨Tryd.prog, [], []⟩
set_option maxRecDepth 100000 in
theorem F_internal_bytealg_Cutover_text : pvFn F_internal_bytealg_Cutover_env F_internal_bytealg_Cutover_ann Tryd.f69 F_internal_bytealg_Cutover_sig = F_internal_bytealg_Cutover := by kernel_rfl
noncomputable def F_strings_ContainsRune (s1 : List Int) (i2 : Int) : Option (Bool) :=
  none
def F_strings_ContainsRune_sig : Sig := ⟨[.v false [.d .str], .v false [.d (.int .i32)]], [(false, [.d .bool])]⟩
def F_strings_ContainsRune_ann : List (Nat × Ann) := []
noncomputable def F_strings_ContainsRune_env : Env := ⟨Tryd.prog, [], []⟩
set_option maxRecDepth 100000 in
theorem F_strings_ContainsRune_text : pvFn F_strings_ContainsRune_env F_strings_ContainsRune_ann Tryd.f48 F_strings_ContainsRune_sig = F_strings_ContainsRune := by kernel_rfl
noncomputable def F_strings_trimRightUnicode_L2 (s2 : List Int) (s : List Int) : Option (((List Int) ⊕ (List Int)) ⊕ (List Int)) :=
  let s3 := s
  cond (decide ((s3.length : Int) > 0))
  ((getI s3 (IntKind.i64.wrap ((s3.length : Int) - 1))).bind fun i4 =>
    cond (decide ((IntKind.i32.wrap i4) ≥ 128))
    ((F_unicode_utf8_DecodeLastRuneInString s3).bind fun x5 =>
      (F_strings_ContainsRune s2 x5.1).bind fun b6 =>
      cond (!b6)
      (some (.inl (.inr s3)))
      ((cutI s3 0 (IntKind.i64.wrap ((s3.length : Int) - x5.2))).bind fun s7 =>
        some (.inr s7)))
    ((F_strings_ContainsRune s2 (IntKind.i32.wrap i4)).bind fun b8 =>
      cond (!b8)
      (some (.inl (.inr s3)))
      ((cutI s3 0 (IntKind.i64.wrap ((s3.length : Int) - 1))).bind fun s9 =>
        some (.inr s9))))
  (some (.inl (.inr s3)))
noncomputable def F_strings_trimRightUnicode_J1 (s : List Int) : Option (List Int) :=
  let s10 := s
  some s10
noncomputable def F_strings_trimRightUnicode (s1 : List Int) (s2 : List Int) : Option (List Int) :=
  joinC (S := List Int) (R := List Int)
  (loopC (S := List Int) (R := (List Int) ⊕ (List Int)) (F_strings_trimRightUnicode_L2 s2) s1)
  (F_strings_trimRightUnicode_J1)
def F_strings_trimRightUnicode_sig : Sig := ⟨[.v false [.d .str], .v false [.d .str]], [(false, [.d .str])]⟩
def F_strings_trimRightUnicode_ann : List (Nat × Ann) := [(1, ⟨2, [(0, false, [.d .str])], [], [5, 6, 7, 8, 9, 10, 11, 12, 13, 14, 15, 16, 17, 18, 19, 20, 21, 22, 23, 24, 25, 26, 27, 28, 29, 30, 31, 32], []⟩), (2, ⟨3, [(0, false, [.d .str])], [], [5, 6, 7, 8, 9, 10, 11, 12, 13, 14, 15, 16, 17, 18, 19, 20, 21, 22, 23, 24, 25, 26, 27, 28, 29, 30, 31, 32], []⟩)]
noncomputable def F_strings_trimRightUnicode_env : Env := ⟨Tryd.prog, [(47, ⟨F_unicode_utf8_DecodeLastRuneInString_sig, ⟨F_unicode_utf8_DecodeLastRuneInString⟩⟩), (48, ⟨F_strings_ContainsRune_sig, ⟨F_strings_ContainsRune⟩⟩)], []⟩
set_option maxRecDepth 100000 in
theorem F_strings_trimRightUnicode_text : pvFn F_strings_trimRightUnicode_env F_strings_trimRightUnicode_ann Tryd.f39 F_strings_trimRightUnicode_sig = F_strings_trimRightUnicode := by kernel_rfl
noncomputable def F_strings_TrimRight (s1 : List Int) (s2 : List Int) : Option (List Int) :=
  cond ((s1 == ([] : List Int)) || (s2 == ([] : List Int)))
  (some s1)
  (cond ((s2.length : Int) == 1)
    ((getI s2 0).bind fun i3 =>
      cond (decide (i3 < 128))
      ((getI s2 0).bind fun i4 =>
        (F_strings_trimRightByte s1 i4).bind fun s5 =>
        some s5)
      ((F_strings_makeASCIISet s2).bind fun x6 =>
        cond x6.2
        ((F_strings_trimRightASCII s1 x6.1).bind fun x7 =>
          some x7.1)
        ((F_strings_trimRightUnicode s1 s2).bind fun s8 =>
          some s8)))
    ((F_strings_makeASCIISet s2).bind fun x9 =>
      cond x9.2
      ((F_strings_trimRightASCII s1 x9.1).bind fun x10 =>
        some x10.1)
      ((F_strings_trimRightUnicode s1 s2).bind fun s11 =>
        some s11)))
def F_strings_TrimRight_sig : Sig := ⟨[.v false [.d .str], .v false [.d .str]], [(false, [.d .str])]⟩
def F_strings_TrimRight_ann : List (Nat × Ann) := []
noncomputable def F_strings_TrimRight_env : Env := ⟨Tryd.prog, [(36, ⟨F_strings_trimRightByte_sig, ⟨F_strings_trimRightByte⟩⟩), (37, ⟨F_strings_makeASCIISet_sig, ⟨F_strings_makeASCIISet⟩⟩), (38, ⟨F_strings_trimRightASCII_sig, ⟨F_strings_trimRightASCII⟩⟩), (39, ⟨F_strings_trimRightUnicode_sig, ⟨F_strings_trimRightUnicode⟩⟩)], []⟩
set_option maxRecDepth 100000 in
theorem F_strings_TrimRight_text : pvFn F_strings_TrimRight_env F_strings_TrimRight_ann Tryd.f24 F_strings_TrimRight_sig = F_strings_TrimRight := by kernel_rfl
noncomputable def F_b64_Decode_L6 (s2 : List Int) (s : List Int × Int × Int × Int) : Option (((List Int × Int) ⊕ (List Int)) ⊕ (List Int × Int × Int × Int)) :=
  let l3 := s.1; let i4 := s.2.1; let i5 := s.2.2.1; let i6 := s.2.2.2
  cond (decide (i6 < (s2.length : Int)))
  ((getI s2 i6).bind fun i7 =>
    (F_strings_IndexByte ([65, 66, 67, 68, 69, 70, 71, 72, 73, 74, 75, 76, 77, 78, 79, 80, 81, 82, 83, 84, 85, 86, 87, 88, 89, 90, 97, 98, 99, 100, 101, 102, 103, 104, 105, 106, 107, 108, 109, 110, 111, 112, 113, 114, 115, 116, 117, 118, 119, 120, 121, 122, 48, 49, 50, 51, 52, 53, 54, 55, 56, 57, 43, 47] : List Int) i7).bind fun i8 =>
    cond (decide (i8 < 0))
    (some (.inl (.inl ([], 2))))
    (cond (decide ((IntKind.i64.wrap (i5 + 6)) ≥ 8))
      (chk (decide (0 ≤ (IntKind.i64.wrap ((IntKind.i64.wrap (i5 + 6)) - 8))))
        (chk (decide ((l3.length + ([(IntKind.u8.wrap (Int.fdiv (bits .and .i64 (bits .or .i64 (IntKind.i64.wrap (i4 * 2 ^ 6)) i8) 16383) (2 ^ (min ((IntKind.i64.wrap ((IntKind.i64.wrap (i5 + 6)) - 8))).toNat 64))))] : List Int).length) * 1 ≤ 140737488355328) && decide (l3.length + ([(IntKind.u8.wrap (Int.fdiv (bits .and .i64 (bits .or .i64 (IntKind.i64.wrap (i4 * 2 ^ 6)) i8) 16383) (2 ^ (min ((IntKind.i64.wrap ((IntKind.i64.wrap (i5 + 6)) - 8))).toNat 64))))] : List Int).length ≤ maxLen))
          (some (.inr ((l3 ++ ([(IntKind.u8.wrap (Int.fdiv (bits .and .i64 (bits .or .i64 (IntKind.i64.wrap (i4 * 2 ^ 6)) i8) 16383) (2 ^ (min ((IntKind.i64.wrap ((IntKind.i64.wrap (i5 + 6)) - 8))).toNat 64))))] : List Int)), (bits .and .i64 (bits .or .i64 (IntKind.i64.wrap (i4 * 2 ^ 6)) i8) 16383), (IntKind.i64.wrap ((IntKind.i64.wrap (i5 + 6)) - 8)), (IntKind.i64.wrap (i6 + 1)))))))
      (some (.inr (l3, (bits .and .i64 (bits .or .i64 (IntKind.i64.wrap (i4 * 2 ^ 6)) i8) 16383), (IntKind.i64.wrap (i5 + 6)), (IntKind.i64.wrap (i6 + 1)))))))
  (some (.inl (.inr l3)))
noncomputable def F_b64_Decode_J4 (s1 : List Int) (s : List Int) : Option (List Int × Int) :=
  let l9 := s
  (F_b64_Encode l9).bind fun s10 =>
  cond (!(s10 == s1))
  (some ([], 2))
  (some (l9, 0))
noncomputable def F_b64_Decode (s1 : List Int) : Option (List Int × Int) :=
  (F_strings_TrimRight s1 ([61] : List Int)).bind fun s2 =>
  joinC (S := List Int) (R := List Int × Int)
  (loopC (S := List Int × Int × Int × Int) (R := (List Int × Int) ⊕ (List Int)) (F_b64_Decode_L6 s2) ([], 0, 0, 0))
  (F_b64_Decode_J4 s1)
def F_b64_Decode_sig : Sig := ⟨[.v false [.d .str]], [(false, [.own 5 (.int .u8)]), (false, [.d (.int .i64)])]⟩
def F_b64_Decode_ann : List (Nat × Ann) := [(4, ⟨5, [(5, false, [.own 5 (.int .u8)])], [], [2, 3, 6, 7, 8, 9, 12, 13, 14, 15, 16, 17, 18, 19, 20, 21, 22, 23, 24, 25, 26, 27, 28, 29, 30, 31, 32, 33, 34, 35, 36, 37, 38, 39, 40, 41], []⟩), (6, ⟨7, [(5, false, [.own 5 (.int .u8)]), (6, false, [.d (.int .i64)]), (7, false, [.d (.int .i64)]), (14, false, [.d (.int .i64)])], [], [2, 3, 8, 9, 15, 16, 17, 18, 19, 20, 21, 22, 23, 24, 25, 26, 27, 28, 29, 30, 31, 32, 33, 34, 35, 36, 37, 38, 39, 40, 41], []⟩)]
noncomputable def F_b64_Decode_env : Env := ⟨Tryd.prog, [(14, ⟨F_b64_Encode_sig, ⟨F_b64_Encode⟩⟩), (24, ⟨F_strings_TrimRight_sig, ⟨F_strings_TrimRight⟩⟩), (25, ⟨F_strings_IndexByte_sig, ⟨F_strings_IndexByte⟩⟩)], []⟩
set_option maxRecDepth 100000 in
theorem F_b64_Decode_text : pvFn F_b64_Decode_env F_b64_Decode_ann Tryd.f12 F_b64_Decode_sig = F_b64_Decode := by kernel_rfl
noncomputable def F_wlvlaw2_first : Option (Bool) :=
  (F_b64_Decode ([89, 84, 112, 105] : List Int)).bind fun x1 =>
  cond (x1.2 == 0)
  (cond (x1.1 == ([97, 58, 98] : List Int))
    ((F_b64_Encode ([97, 58, 98] : List Int)).bind fun s2 =>
      some (s2 == ([89, 84, 112, 105] : List Int)))
    (some false))
  (some false)
def F_wlvlaw2_first_sig : Sig := ⟨[], [(false, [.d .bool])]⟩
def F_wlvlaw2_first_ann : List (Nat × Ann) := []
noncomputable def F_wlvlaw2_first_env : Env := ⟨Tryd.prog, [(12, ⟨F_b64_Decode_sig, ⟨F_b64_Decode⟩⟩), (14, ⟨F_b64_Encode_sig, ⟨F_b64_Encode⟩⟩)], []⟩
set_option maxRecDepth 100000 in
theorem F_wlvlaw2_first_text : pvFn F_wlvlaw2_first_env F_wlvlaw2_first_ann Tryd.f11 F_wlvlaw2_first_sig = F_wlvlaw2_first := by kernel_rfl
noncomputable def F_wlvref_Bytes (l1 : List Int) (l2 : List Int) : Option (Bool) :=
  some (l1 == l2)
def F_wlvref_Bytes_sig : Sig := ⟨[.v false [.d (.sl (.int .u8))], .v false [.d (.sl (.int .u8))]], [(false, [.d .bool])]⟩
def F_wlvref_Bytes_ann : List (Nat × Ann) := []
noncomputable def F_wlvref_Bytes_env : Env := ⟨Tryd.prog, [], []⟩
set_option maxRecDepth 100000 in
theorem F_wlvref_Bytes_text : pvFn F_wlvref_Bytes_env F_wlvref_Bytes_ann Tryd.f16 F_wlvref_Bytes_sig = F_wlvref_Bytes := by kernel_rfl
noncomputable def F_wlvref_Copy (l1 : List Int) : Option (List Int) :=
  chk (decide ((([] : List Int).length + l1.length) * 1 ≤ 140737488355328) && decide (([] : List Int).length + l1.length ≤ maxLen))
  (some (([] : List Int) ++ l1))
def F_wlvref_Copy_sig : Sig := ⟨[.v false [.d (.sl (.int .u8))]], [(false, [.own 5 (.int .u8)])]⟩
def F_wlvref_Copy_ann : List (Nat × Ann) := []
noncomputable def F_wlvref_Copy_env : Env := ⟨Tryd.prog, [], []⟩
set_option maxRecDepth 100000 in
theorem F_wlvref_Copy_text : pvFn F_wlvref_Copy_env F_wlvref_Copy_ann Tryd.f17 F_wlvref_Copy_sig = F_wlvref_Copy := by kernel_rfl
noncomputable def F_wlvlaw2_B64Back (l1 : List Int) (s2 : List Int) : Option (Bool) :=
  (F_wlvlaw2_first).bind fun b3 =>
  cond (!b3)
  (some false)
  (cond ((decide ((l1.length : Int) > 3000)) || (decide ((s2.length : Int) > 3000)))
    ((F_wlvlaw2_first).bind fun b4 =>
      some b4)
    ((F_wlvref_Copy l1).bind fun l5 =>
      (F_b64_Encode l1).bind fun s6 =>
      (F_b64_Decode s6).bind fun x7 =>
      cond (x7.2 != 0)
      (some false)
      ((F_wlvref_Bytes x7.1 l1).bind fun b8 =>
        cond (!b8)
        (some false)
        ((F_wlvref_Bytes l5 l1).bind fun b9 =>
          cond ((!b9) || ((s6.length : Int) != (IntKind.i64.wrap ((IntKind.i64.wrap (Int.tdiv (IntKind.i64.wrap ((l1.length : Int) + 2)) 3)) * 4))))
          (some false)
          ((F_b64_Decode s2).bind fun x10 =>
            (F_wlvlaw2_first).bind fun b11 =>
            cond b11
            (cond (x10.2 != 0)
              (some true)
              ((F_b64_Encode x10.1).bind fun s12 =>
                some (s12 == s2)))
            (some false))))))
def F_wlvlaw2_B64Back_sig : Sig := ⟨[.v false [.d (.sl (.int .u8))], .v false [.d .str]], [(false, [.d .bool])]⟩
def F_wlvlaw2_B64Back_ann : List (Nat × Ann) := []
noncomputable def F_wlvlaw2_B64Back_env : Env := ⟨Tryd.prog, [(11, ⟨F_wlvlaw2_first_sig, ⟨F_wlvlaw2_first⟩⟩), (12, ⟨F_b64_Decode_sig, ⟨F_b64_Decode⟩⟩), (14, ⟨F_b64_Encode_sig, ⟨F_b64_Encode⟩⟩), (16, ⟨F_wlvref_Bytes_sig, ⟨F_wlvref_Bytes⟩⟩), (17, ⟨F_wlvref_Copy_sig, ⟨F_wlvref_Copy⟩⟩)], []⟩
set_option maxRecDepth 100000 in
theorem F_wlvlaw2_B64Back_text : pvFn F_wlvlaw2_B64Back_env F_wlvlaw2_B64Back_ann Tryd.f4 F_wlvlaw2_B64Back_sig = F_wlvlaw2_B64Back := by kernel_rfl
noncomputable def F_wlvlaw2_short (s1 : List Int) : Option (Bool) :=
  (F_b64_Decode s1).bind fun x2 =>
  some (x2.2 == 2)
def F_wlvlaw2_short_sig : Sig := ⟨[.v false [.d .str]], [(false, [.d .bool])]⟩
def F_wlvlaw2_short_ann : List (Nat × Ann) := []
noncomputable def F_wlvlaw2_short_env : Env := ⟨Tryd.prog, [(12, ⟨F_b64_Decode_sig, ⟨F_b64_Decode⟩⟩)], []⟩
set_option maxRecDepth 100000 in
theorem F_wlvlaw2_short_text : pvFn F_wlvlaw2_short_env F_wlvlaw2_short_ann Tryd.f18 F_wlvlaw2_short_sig = F_wlvlaw2_short := by kernel_rfl
noncomputable def F_wlvlaw2_B64Joins (l1 : List Int) (l2 : List Int) : Option (Bool) :=
  (F_wlvlaw2_first).bind fun b3 =>
  cond (!b3)
  (some false)
  (cond ((decide ((l1.length : Int) > 1500)) || (decide ((l2.length : Int) > 1500)))
    ((F_wlvlaw2_first).bind fun b4 =>
      some b4)
    ((cutI l1 0 (IntKind.i64.wrap ((IntKind.i64.wrap (Int.tdiv (l1.length : Int) 3)) * 3))).bind fun l5 =>
      (F_b64_Encode l5).bind fun s6 =>
      (F_b64_Encode l2).bind fun s7 =>
      (cutI l1 0 (IntKind.i64.wrap ((IntKind.i64.wrap (Int.tdiv (l1.length : Int) 3)) * 3))).bind fun l8 =>
      chk (decide ((([] : List Int).length + l8.length) * 1 ≤ 140737488355328) && decide (([] : List Int).length + l8.length ≤ maxLen))
      (chk (decide (((([] : List Int) ++ l8).length + l2.length) * 1 ≤ 140737488355328) && decide ((([] : List Int) ++ l8).length + l2.length ≤ maxLen))
        ((F_b64_Encode ((([] : List Int) ++ l8) ++ l2)).bind fun s9 =>
          chk (Nat.ble (s9.length + ([65] : List Int).length) maxLen)
          ((F_b64_Decode (s9 ++ ([65] : List Int))).bind fun x10 =>
            chk (Nat.ble (([61] : List Int).length + s9.length) maxLen)
            ((F_b64_Decode (([61] : List Int) ++ s9)).bind fun x11 =>
              chk (Nat.ble (s6.length + s7.length) maxLen)
              ((F_b64_Decode (s6 ++ s7)).bind fun x12 =>
                (F_wlvlaw2_first).bind fun b13 =>
                cond b13
                (chk (Nat.ble (s6.length + s7.length) maxLen)
                  (cond (((((s9 == (s6 ++ s7)) && (x10.2 == 2)) && (x11.2 == 2)) && (x12.2 == 0)) && ((x12.1.length : Int) == (IntKind.i64.wrap ((IntKind.i64.wrap ((IntKind.i64.wrap (Int.tdiv (l1.length : Int) 3)) * 3)) + (l2.length : Int)))))
                    (cond ((s9.length : Int) == 0)
                      (some true)
                      ((cutI s9 0 (IntKind.i64.wrap ((s9.length : Int) - 1))).bind fun s14 =>
                        (F_wlvlaw2_short s14).bind fun b15 =>
                        some b15))
                    (some false)))
                (cond false
                  (cond ((s9.length : Int) == 0)
                    (some true)
                    ((cutI s9 0 (IntKind.i64.wrap ((s9.length : Int) - 1))).bind fun s16 =>
                      (F_wlvlaw2_short s16).bind fun b17 =>
                      some b17))
                  (some false)))))))))
def F_wlvlaw2_B64Joins_sig : Sig := ⟨[.v false [.d (.sl (.int .u8))], .v false [.d (.sl (.int .u8))]], [(false, [.d .bool])]⟩
def F_wlvlaw2_B64Joins_ann : List (Nat × Ann) := []
noncomputable def F_wlvlaw2_B64Joins_env : Env := ⟨Tryd.prog, [(11, ⟨F_wlvlaw2_first_sig, ⟨F_wlvlaw2_first⟩⟩), (12, ⟨F_b64_Decode_sig, ⟨F_b64_Decode⟩⟩), (14, ⟨F_b64_Encode_sig, ⟨F_b64_Encode⟩⟩), (18, ⟨F_wlvlaw2_short_sig, ⟨F_wlvlaw2_short⟩⟩)], []⟩
set_option maxRecDepth 100000 in
theorem F_wlvlaw2_B64Joins_text : pvFn F_wlvlaw2_B64Joins_env F_wlvlaw2_B64Joins_ann Tryd.f5 F_wlvlaw2_B64Joins_sig = F_wlvlaw2_B64Joins := by kernel_rfl
noncomputable def F_wlvlaw2_B64Signs_L10 (s6 : List Int) (s : Int) : Option (((Bool) ⊕ (Unit)) ⊕ (Int)) :=
  let i7 := s
  cond (decide (i7 < (s6.length : Int)))
  ((getI s6 i7).bind fun i8 =>
    cond ((decide (i8 ≥ 65)) && (decide (i8 ≤ 90)))
    (cond true
      (cond false
        (cond ((i8 != 61) || (decide (i7 < (IntKind.i64.wrap ((s6.length : Int) - 2)))))
          (some (.inl (.inl false)))
          (some (.inr (IntKind.i64.wrap (i7 + 1)))))
        (some (.inr (IntKind.i64.wrap (i7 + 1)))))
      (cond (!((((decide (i8 ≥ 48)) && (decide (i8 ≤ 57))) || (i8 == 43)) || (i8 == 47)))
        (cond ((i8 != 61) || (decide (i7 < (IntKind.i64.wrap ((s6.length : Int) - 2)))))
          (some (.inl (.inl false)))
          (some (.inr (IntKind.i64.wrap (i7 + 1)))))
        (some (.inr (IntKind.i64.wrap (i7 + 1))))))
    (cond ((decide (i8 ≥ 97)) && (decide (i8 ≤ 122)))
      (cond false
        (cond ((i8 != 61) || (decide (i7 < (IntKind.i64.wrap ((s6.length : Int) - 2)))))
          (some (.inl (.inl false)))
          (some (.inr (IntKind.i64.wrap (i7 + 1)))))
        (some (.inr (IntKind.i64.wrap (i7 + 1)))))
      (cond (!((((decide (i8 ≥ 48)) && (decide (i8 ≤ 57))) || (i8 == 43)) || (i8 == 47)))
        (cond ((i8 != 61) || (decide (i7 < (IntKind.i64.wrap ((s6.length : Int) - 2)))))
          (some (.inl (.inl false)))
          (some (.inr (IntKind.i64.wrap (i7 + 1)))))
        (some (.inr (IntKind.i64.wrap (i7 + 1)))))))
  (some (.inl (.inr ())))
noncomputable def F_wlvlaw2_B64Signs_J8 (i2 : Int) (i3 : Int) (s6 : List Int) (s : Unit) : Option (Bool) :=
  cond ((s6.length : Int) == 0)
  (some false)
  (chk ((s6.length : Int) != 0)
    ((getI ([32, 10, 45, 95, 0, 255] : List Int) (Int.tmod i3 6)).bind fun i9 =>
      chk (decide (0 ≤ (Int.tmod i2 (s6.length : Int))) && decide ((Int.tmod i2 (s6.length : Int)) < (s6.length : Int)))
      (chk (decide ((Int.tmod i2 (s6.length : Int)) < (s6.length : Int)))
        (chk (Nat.ble s6.length (List.length (s6.set ((Int.tmod i2 (s6.length : Int))).toNat i9)))
          ((F_b64_Decode (List.take s6.length (s6.set ((Int.tmod i2 (s6.length : Int))).toNat i9))).bind fun x10 =>
            (F_wlvlaw2_first).bind fun b11 =>
            some ((b11 && (x10.2 == 2)) && ((Int.tmod (s6.length : Int) 4) == 0)))))))
noncomputable def F_wlvlaw2_B64Signs (l1 : List Int) (i2 : Int) (i3 : Int) : Option (Bool) :=
  (F_wlvlaw2_first).bind fun b4 =>
  cond (!b4)
  (some false)
  (cond (((decide ((l1.length : Int) > 1000)) || ((l1.length : Int) == 0)) || (decide (i2 < 0)))
    ((F_wlvlaw2_first).bind fun b5 =>
      some b5)
    ((F_b64_Encode l1).bind fun s6 =>
      joinC (S := Unit) (R := Bool)
      (loopC (S := Int) (R := (Bool) ⊕ (Unit)) (F_wlvlaw2_B64Signs_L10 s6) 0)
      (F_wlvlaw2_B64Signs_J8 i2 i3 s6)))
def F_wlvlaw2_B64Signs_sig : Sig := ⟨[.v false [.d (.sl (.int .u8))], .v false [.d (.int .i64)], .v false [.d (.int .u8)]], [(false, [.d .bool])]⟩
def F_wlvlaw2_B64Signs_ann : List (Nat × Ann) := [(8, ⟨9, [], [], [6, 8, 9, 10, 31, 32, 33, 34, 35, 36, 37, 38, 39, 40, 41, 42, 43, 44, 45, 46, 47, 48, 49, 50, 51, 52, 53, 54, 55, 56, 57, 58, 59, 60, 61, 62, 63, 64, 65, 66, 67, 68, 69, 70, 71, 72, 73, 74, 75, 76, 77, 78, 79, 80, 81, 82], []⟩), (10, ⟨11, [(8, false, [.d (.int .i64)])], [], [6, 9, 10, 31, 32, 33, 34, 35, 36, 37, 38, 39, 40, 41, 42, 43, 44, 45, 46, 47, 48, 49, 50, 51, 52, 53, 54, 55, 56, 57, 58, 59, 60, 61, 62, 63, 64, 65, 66, 67, 68, 69, 70, 71, 72, 73, 74, 75, 76, 77, 78, 79, 80, 81, 82], []⟩)]
noncomputable def F_wlvlaw2_B64Signs_env : Env := ⟨Tryd.prog, [(11, ⟨F_wlvlaw2_first_sig, ⟨F_wlvlaw2_first⟩⟩), (12, ⟨F_b64_Decode_sig, ⟨F_b64_Decode⟩⟩), (14, ⟨F_b64_Encode_sig, ⟨F_b64_Encode⟩⟩)], [87]⟩
set_option maxRecDepth 100000 in
theorem F_wlvlaw2_B64Signs_text : pvFn F_wlvlaw2_B64Signs_env F_wlvlaw2_B64Signs_ann Tryd.f6 F_wlvlaw2_B64Signs_sig = F_wlvlaw2_B64Signs := by kernel_rfl
end Go.Proofs.YtgcgdfjldeihkaaDoor
