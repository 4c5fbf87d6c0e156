/- Texts of this claim, one behind the other. -/
import Derived.Test.YtblngdnndkljoaaDoorCredBackM3
import Derived.Test.YtblngdnndkljoaaDoorProg
import Derived.KernelRfl
import Derived.Laws.Bits
import Derived.LoopTactic
import Derived.Handy
import Derived.RegionTactic
import Derived.ChangeAlike
import Derived.Laws.AppendOwn
import Derived.Laws.CopyOwn
import Derived.Deep.RegionLaw
import Derived.Shelf.Bytes.SlClone
import Derived.WalkKit
import Derived.BigCall
import Derived.Shelf.Spec.SlicesGrow
/- The functions of the program as Lean functions, written by a program of ours and held by the kernel. -/
namespace Go.Proofs.YtblngdnndkljoaaDoor
open Pv
set_option linter.unusedVariables false
noncomputable def F_strings_trimRightByte_L2 (i2 : Int) (s : List Int) : Option (((List Int) ⊕ (List Int)) ⊕ (List Int)) :=
  let s3 := s
  cond (decide ((s3.length : Int) > 0))
  ((getI s3 (IntKind.i64.wrap ((s3.length : Int) - 1))).bind fun i4 =>
    cond (i4 == i2)
    ((cutI s3 0 (IntKind.i64.wrap ((s3.length : Int) - 1))).bind fun s5 =>
      some (.inr s5))
    (some (.inl (.inr s3))))
  (some (.inl (.inr s3)))
noncomputable def F_strings_trimRightByte_J1 (s : List Int) : Option (List Int) :=
  let s6 := s
  some s6
noncomputable def F_strings_trimRightByte (s1 : List Int) (i2 : Int) : Option (List Int) :=
  joinC (S := List Int) (R := List Int)
  (loopC (S := List Int) (R := (List Int) ⊕ (List Int)) (F_strings_trimRightByte_L2 i2) s1)
  (F_strings_trimRightByte_J1)
def F_strings_trimRightByte_sig : Sig := ⟨[.v false [.d .str], .v false [.d (.int .u8)]], [(false, [.d .str])]⟩
def F_strings_trimRightByte_ann : List (Nat × Ann) := [(1, ⟨2, [(0, false, [.d .str])], [], [5, 6, 7, 8, 9, 10, 11, 12, 13, 14, 15, 16, 17, 18, 19, 20, 21], []⟩), (2, ⟨3, [(0, false, [.d .str])], [], [5, 6, 7, 8, 9, 10, 11, 12, 13, 14, 15, 16, 17, 18, 19, 20, 21], []⟩)]
noncomputable def F_strings_trimRightByte_env : Env := ⟨Tryd.prog, [], []⟩
set_option maxRecDepth 100000 in
theorem F_strings_trimRightByte_text : pvFn F_strings_trimRightByte_env F_strings_trimRightByte_ann Tryd.f108 F_strings_trimRightByte_sig = F_strings_trimRightByte := by kernel_rfl
noncomputable def F_strings_makeASCIISet_L3 (s1 : List Int) (s : Int × List Bool) : Option (((List Bool × Bool) ⊕ (List Bool)) ⊕ (Int × List Bool)) :=
  let i2 := s.1; let a3 := s.2
  cond (decide (i2 < (s1.length : Int)))
  ((getI s1 i2).bind fun i4 =>
    cond (decide (i4 ≥ 128))
    (some (.inl (.inl (a3, false))))
    (chk (decide (0 ≤ i4) && decide (i4 < (256 : Int)))
      (chk (decide (i4 < (256 : Int)))
        (some (.inr ((IntKind.i64.wrap (i2 + 1)), (a3.set (i4).toNat true)))))))
  (some (.inl (.inr a3)))
noncomputable def F_strings_makeASCIISet_J1 (s : List Bool) : Option (List Bool × Bool) :=
  let a5 := s
  some (a5, true)
noncomputable def F_strings_makeASCIISet (s1 : List Int) : Option (List Bool × Bool) :=
  joinC (S := List Bool) (R := List Bool × Bool)
  (loopC (S := Int × List Bool) (R := (List Bool × Bool) ⊕ (List Bool)) (F_strings_makeASCIISet_L3 s1) (0, (List.replicate 256 false)))
  (F_strings_makeASCIISet_J1)
def F_strings_makeASCIISet_sig : Sig := ⟨[.v false [.d .str]], [(true, [.d (.arr 256 .bool)]), (false, [.d .bool])]⟩
def F_strings_makeASCIISet_ann : List (Nat × Ann) := [(1, ⟨2, [], [(2, [.d (.arr 256 .bool)])], [3, 4, 5, 6, 7, 8, 9, 10, 11, 12, 13, 14, 15, 16, 17, 18, 19], []⟩), (3, ⟨4, [(4, false, [.d (.int .i64)])], [(2, [.d (.arr 256 .bool)])], [3, 5, 6, 7, 8, 9, 10, 11, 12, 13, 14, 15, 16, 17, 18, 19], []⟩)]
noncomputable def F_strings_makeASCIISet_env : Env := ⟨Tryd.prog, [], []⟩
set_option maxRecDepth 100000 in
theorem F_strings_makeASCIISet_text : pvFn F_strings_makeASCIISet_env F_strings_makeASCIISet_ann Tryd.f109 F_strings_makeASCIISet_sig = F_strings_makeASCIISet := by kernel_rfl
noncomputable def F_strings_asciiSet_contains (a1 : List Bool) (i2 : Int) : Option (Bool × List Bool) :=
  chk (decide (0 ≤ i2) && decide (i2 < (256 : Int)))
  ((getI a1 i2).bind fun b3 =>
    some (b3, a1))
def F_strings_asciiSet_contains_sig : Sig := ⟨[.m [.d (.arr 256 .bool)], .v false [.d (.int .u8)]], [(false, [.d .bool])]⟩
def F_strings_asciiSet_contains_ann : List (Nat × Ann) := []
noncomputable def F_strings_asciiSet_contains_env : Env := ⟨Tryd.prog, [], []⟩
set_option maxRecDepth 100000 in
theorem F_strings_asciiSet_contains_text : pvFn F_strings_asciiSet_contains_env F_strings_asciiSet_contains_ann Tryd.f142 F_strings_asciiSet_contains_sig = F_strings_asciiSet_contains := by kernel_rfl
noncomputable def F_strings_trimRightASCII_L2 (s : List Int × List Bool) : Option (((List Int × List Bool) ⊕ (List Int × List Bool)) ⊕ (List Int × List Bool)) :=
  let s3 := s.1; let a4 := s.2
  cond (decide ((s3.length : Int) > 0))
  ((getI s3 (IntKind.i64.wrap ((s3.length : Int) - 1))).bind fun i5 =>
    (F_strings_asciiSet_contains a4 i5).bind fun x6 =>
    cond (!x6.1)
    (some (.inl (.inr (s3, x6.2))))
    ((cutI s3 0 (IntKind.i64.wrap ((s3.length : Int) - 1))).bind fun s7 =>
      some (.inr (s7, x6.2))))
  (some (.inl (.inr (s3, a4))))
noncomputable def F_strings_trimRightASCII_J1 (s : List Int × List Bool) : Option (List Int × List Bool) :=
  let s8 := s.1; let a9 := s.2
  some (s8, a9)
noncomputable def F_strings_trimRightASCII (s1 : List Int) (a2 : List Bool) : Option (List Int × List Bool) :=
  joinC (S := List Int × List Bool) (R := List Int × List Bool)
  (loopC (S := List Int × List Bool) (R := (List Int × List Bool) ⊕ (List Int × List Bool)) (F_strings_trimRightASCII_L2) (s1, a2))
  (F_strings_trimRightASCII_J1)
def F_strings_trimRightASCII_sig : Sig := ⟨[.v false [.d .str], .m [.d (.arr 256 .bool)]], [(false, [.d .str])]⟩
def F_strings_trimRightASCII_ann : List (Nat × Ann) := [(1, ⟨2, [(0, false, [.d .str])], [(1, [.d (.arr 256 .bool)])], [5, 6, 7, 8, 9, 10, 11, 12, 13, 14, 15, 16, 17, 18, 19, 20], []⟩), (2, ⟨3, [(0, false, [.d .str])], [(1, [.d (.arr 256 .bool)])], [5, 6, 7, 8, 9, 10, 11, 12, 13, 14, 15, 16, 17, 18, 19, 20], []⟩)]
noncomputable def F_strings_trimRightASCII_env : Env := ⟨Tryd.prog, [(142, ⟨F_strings_asciiSet_contains_sig, ⟨F_strings_asciiSet_contains⟩⟩)], []⟩
set_option maxRecDepth 100000 in
theorem F_strings_trimRightASCII_text : pvFn F_strings_trimRightASCII_env F_strings_trimRightASCII_ann Tryd.f110 F_strings_trimRightASCII_sig = F_strings_trimRightASCII := by kernel_rfl
noncomputable def F_unicode_utf8_decodeRuneInStringSlow (s1 : List Int) : Option (Int × Int) :=
  cond (decide ((s1.length : Int) < 1))
  (some (65533, 0))
  ((getI s1 0).bind fun i2 =>
    none)
def F_unicode_utf8_decodeRuneInStringSlow_sig : Sig := ⟨[.v false [.d .str]], [(false, [.d (.int .i32)]), (false, [.d (.int .i64)])]⟩
def F_unicode_utf8_decodeRuneInStringSlow_ann : List (Nat × Ann) := []
noncomputable def F_unicode_utf8_decodeRuneInStringSlow_env : Env := ⟨Tryd.prog, [], []⟩
set_option maxRecDepth 100000 in
theorem F_unicode_utf8_decodeRuneInStringSlow_text : pvFn F_unicode_utf8_decodeRuneInStringSlow_env F_unicode_utf8_decodeRuneInStringSlow_ann Tryd.f105 F_unicode_utf8_decodeRuneInStringSlow_sig = F_unicode_utf8_decodeRuneInStringSlow := by kernel_rfl
noncomputable def F_unicode_utf8_DecodeRuneInString (s1 : List Int) : Option (Int × Int) :=
  cond (!(s1 == ([] : List Int)))
  ((getI s1 0).bind fun i2 =>
    cond (decide (i2 < 128))
    ((getI s1 0).bind fun i3 =>
      some ((IntKind.i32.wrap i3), 1))
    ((F_unicode_utf8_decodeRuneInStringSlow s1).bind fun x4 =>
      some (x4.1, x4.2)))
  ((F_unicode_utf8_decodeRuneInStringSlow s1).bind fun x5 =>
    some (x5.1, x5.2))
def F_unicode_utf8_DecodeRuneInString_sig : Sig := ⟨[.v false [.d .str]], [(false, [.d (.int .i32)]), (false, [.d (.int .i64)])]⟩
def F_unicode_utf8_DecodeRuneInString_ann : List (Nat × Ann) := []
noncomputable def F_unicode_utf8_DecodeRuneInString_env : Env := ⟨Tryd.prog, [(105, ⟨F_unicode_utf8_decodeRuneInStringSlow_sig, ⟨F_unicode_utf8_decodeRuneInStringSlow⟩⟩)], []⟩
set_option maxRecDepth 100000 in
theorem F_unicode_utf8_DecodeRuneInString_text : pvFn F_unicode_utf8_DecodeRuneInString_env F_unicode_utf8_DecodeRuneInString_ann Tryd.f77 F_unicode_utf8_DecodeRuneInString_sig = F_unicode_utf8_DecodeRuneInString := by kernel_rfl
noncomputable def F_unicode_utf8_RuneStart (i1 : Int) : Option (Bool) :=
  some ((bits .and .u8 i1 192) != 128)
def F_unicode_utf8_RuneStart_sig : Sig := ⟨[.v false [.d (.int .u8)]], [(false, [.d .bool])]⟩
def F_unicode_utf8_RuneStart_ann : List (Nat × Ann) := []
noncomputable def F_unicode_utf8_RuneStart_env : Env := ⟨Tryd.prog, [], []⟩
set_option maxRecDepth 100000 in
theorem F_unicode_utf8_RuneStart_text : pvFn F_unicode_utf8_RuneStart_env F_unicode_utf8_RuneStart_ann Tryd.f167 F_unicode_utf8_RuneStart_sig = F_unicode_utf8_RuneStart := by kernel_rfl
noncomputable def F_unicode_utf8_DecodeLastRuneInString_L13 (s1 : List Int) (s : Int) : Option (((Int × Int) ⊕ (Int)) ⊕ (Int)) :=
  let i3 := s
  cond (decide (i3 ≥ (maxI (IntKind.i64.wrap ((s1.length : Int) - 4)) 0)))
  ((getI s1 i3).bind fun i4 =>
    (F_unicode_utf8_RuneStart i4).bind fun b5 =>
    cond b5
    (some (.inl (.inr i3)))
    (some (.inr (IntKind.i64.wrap (i3 - 1)))))
  (some (.inl (.inr i3)))
noncomputable def F_unicode_utf8_DecodeLastRuneInString_J11 (s1 : List Int) (s : Int) : Option (Int × Int) :=
  let i6 := s
  cond (decide (i6 < 0))
  ((cutI s1 0 (s1.length : Int)).bind fun s7 =>
    (F_unicode_utf8_DecodeRuneInString s7).bind fun x8 =>
    cond ((IntKind.i64.wrap (0 + x8.2)) != (s1.length : Int))
    (some (65533, 1))
    (some (x8.1, x8.2)))
  ((cutI s1 i6 (s1.length : Int)).bind fun s9 =>
    (F_unicode_utf8_DecodeRuneInString s9).bind fun x10 =>
    cond ((IntKind.i64.wrap (i6 + x10.2)) != (s1.length : Int))
    (some (65533, 1))
    (some (x10.1, x10.2)))
noncomputable def F_unicode_utf8_DecodeLastRuneInString (s1 : List Int) : Option (Int × Int) :=
  cond ((s1.length : Int) == 0)
  (some (65533, 0))
  ((getI s1 (IntKind.i64.wrap ((s1.length : Int) - 1))).bind fun i2 =>
    cond (decide ((IntKind.i32.wrap i2) < 128))
    (some ((IntKind.i32.wrap i2), 1))
    (joinC (S := Int) (R := Int × Int)
      (loopC (S := Int) (R := (Int × Int) ⊕ (Int)) (F_unicode_utf8_DecodeLastRuneInString_L13 s1) (IntKind.i64.wrap ((IntKind.i64.wrap ((s1.length : Int) - 1)) - 1)))
      (F_unicode_utf8_DecodeLastRuneInString_J11 s1)))
def F_unicode_utf8_DecodeLastRuneInString_sig : Sig := ⟨[.v false [.d .str]], [(false, [.d (.int .i32)]), (false, [.d (.int .i64)])]⟩
def F_unicode_utf8_DecodeLastRuneInString_ann : List (Nat × Ann) := [(11, ⟨12, [(5, false, [.d (.int .i64)])], [], [23, 24, 25, 26, 27, 28, 29, 30, 31, 32, 33], []⟩), (13, ⟨14, [(5, false, [.d (.int .i64)])], [], [25, 26, 27, 28, 29, 30, 31, 32, 33], []⟩)]
noncomputable def F_unicode_utf8_DecodeLastRuneInString_env : Env := ⟨Tryd.prog, [(77, ⟨F_unicode_utf8_DecodeRuneInString_sig, ⟨F_unicode_utf8_DecodeRuneInString⟩⟩), (167, ⟨F_unicode_utf8_RuneStart_sig, ⟨F_unicode_utf8_RuneStart⟩⟩)], []⟩
set_option maxRecDepth 100000 in
theorem F_unicode_utf8_DecodeLastRuneInString_text : pvFn F_unicode_utf8_DecodeLastRuneInString_env F_unicode_utf8_DecodeLastRuneInString_ann Tryd.f143 F_unicode_utf8_DecodeLastRuneInString_sig = F_unicode_utf8_DecodeLastRuneInString := by kernel_rfl
noncomputable def F_strings_ContainsRune (s1 : List Int) (i2 : Int) : Option (Bool) :=
  none
def F_strings_ContainsRune_sig : Sig := ⟨[.v false [.d .str], .v false [.d (.int .i32)]], [(false, [.d .bool])]⟩
def F_strings_ContainsRune_ann : List (Nat × Ann) := []
noncomputable def F_strings_ContainsRune_env : Env := ⟨Tryd.prog, [], []⟩
set_option maxRecDepth 100000 in
theorem F_strings_ContainsRune_text : pvFn F_strings_ContainsRune_env F_strings_ContainsRune_ann Tryd.f144 F_strings_ContainsRune_sig = F_strings_ContainsRune := by kernel_rfl
noncomputable def F_strings_trimRightUnicode_L2 (s2 : List Int) (s : List Int) : Option (((List Int) ⊕ (List Int)) ⊕ (List Int)) :=
  let s3 := s
  cond (decide ((s3.length : Int) > 0))
  ((getI s3 (IntKind.i64.wrap ((s3.length : Int) - 1))).bind fun i4 =>
    cond (decide ((IntKind.i32.wrap i4) ≥ 128))
    ((F_unicode_utf8_DecodeLastRuneInString s3).bind fun x5 =>
      (F_strings_ContainsRune s2 x5.1).bind fun b6 =>
      cond (!b6)
      (some (.inl (.inr s3)))
      ((cutI s3 0 (IntKind.i64.wrap ((s3.length : Int) - x5.2))).bind fun s7 =>
        some (.inr s7)))
    ((F_strings_ContainsRune s2 (IntKind.i32.wrap i4)).bind fun b8 =>
      cond (!b8)
      (some (.inl (.inr s3)))
      ((cutI s3 0 (IntKind.i64.wrap ((s3.length : Int) - 1))).bind fun s9 =>
        some (.inr s9))))
  (some (.inl (.inr s3)))
noncomputable def F_strings_trimRightUnicode_J1 (s : List Int) : Option (List Int) :=
  let s10 := s
  some s10
noncomputable def F_strings_trimRightUnicode (s1 : List Int) (s2 : List Int) : Option (List Int) :=
  joinC (S := List Int) (R := List Int)
  (loopC (S := List Int) (R := (List Int) ⊕ (List Int)) (F_strings_trimRightUnicode_L2 s2) s1)
  (F_strings_trimRightUnicode_J1)
def F_strings_trimRightUnicode_sig : Sig := ⟨[.v false [.d .str], .v false [.d .str]], [(false, [.d .str])]⟩
def F_strings_trimRightUnicode_ann : List (Nat × Ann) := [(1, ⟨2, [(0, false, [.d .str])], [], [5, 6, 7, 8, 9, 10, 11, 12, 13, 14, 15, 16, 17, 18, 19, 20, 21, 22, 23, 24, 25, 26, 27, 28, 29, 30, 31, 32], []⟩), (2, ⟨3, [(0, false, [.d .str])], [], [5, 6, 7, 8, 9, 10, 11, 12, 13, 14, 15, 16, 17, 18, 19, 20, 21, 22, 23, 24, 25, 26, 27, 28, 29, 30, 31, 32], []⟩)]
noncomputable def F_strings_trimRightUnicode_env : Env := ⟨Tryd.prog, [(143, ⟨F_unicode_utf8_DecodeLastRuneInString_sig, ⟨F_unicode_utf8_DecodeLastRuneInString⟩⟩), (144, ⟨F_strings_ContainsRune_sig, ⟨F_strings_ContainsRune⟩⟩)], []⟩
set_option maxRecDepth 100000 in
theorem F_strings_trimRightUnicode_text : pvFn F_strings_trimRightUnicode_env F_strings_trimRightUnicode_ann Tryd.f111 F_strings_trimRightUnicode_sig = F_strings_trimRightUnicode := by kernel_rfl
noncomputable def F_strings_TrimRight (s1 : List Int) (s2 : List Int) : Option (List Int) :=
  cond ((s1 == ([] : List Int)) || (s2 == ([] : List Int)))
  (some s1)
  (cond ((s2.length : Int) == 1)
    ((getI s2 0).bind fun i3 =>
      cond (decide (i3 < 128))
      ((getI s2 0).bind fun i4 =>
        (F_strings_trimRightByte s1 i4).bind fun s5 =>
        some s5)
      ((F_strings_makeASCIISet s2).bind fun x6 =>
        cond x6.2
        ((F_strings_trimRightASCII s1 x6.1).bind fun x7 =>
          some x7.1)
        ((F_strings_trimRightUnicode s1 s2).bind fun s8 =>
          some s8)))
    ((F_strings_makeASCIISet s2).bind fun x9 =>
      cond x9.2
      ((F_strings_trimRightASCII s1 x9.1).bind fun x10 =>
        some x10.1)
      ((F_strings_trimRightUnicode s1 s2).bind fun s11 =>
        some s11)))
def F_strings_TrimRight_sig : Sig := ⟨[.v false [.d .str], .v false [.d .str]], [(false, [.d .str])]⟩
def F_strings_TrimRight_ann : List (Nat × Ann) := []
noncomputable def F_strings_TrimRight_env : Env := ⟨Tryd.prog, [(108, ⟨F_strings_trimRightByte_sig, ⟨F_strings_trimRightByte⟩⟩), (109, ⟨F_strings_makeASCIISet_sig, ⟨F_strings_makeASCIISet⟩⟩), (110, ⟨F_strings_trimRightASCII_sig, ⟨F_strings_trimRightASCII⟩⟩), (111, ⟨F_strings_trimRightUnicode_sig, ⟨F_strings_trimRightUnicode⟩⟩)], []⟩
set_option maxRecDepth 100000 in
theorem F_strings_TrimRight_text : pvFn F_strings_TrimRight_env F_strings_TrimRight_ann Tryd.f79 F_strings_TrimRight_sig = F_strings_TrimRight := by kernel_rfl
noncomputable def F_b64_Decode_L6 (s2 : List Int) (s : List Int × Int × Int × Int) : Option (((List Int × Int) ⊕ (List Int)) ⊕ (List Int × Int × Int × Int)) :=
  let l3 := s.1; let i4 := s.2.1; let i5 := s.2.2.1; let i6 := s.2.2.2
  cond (decide (i6 < (s2.length : Int)))
  ((getI s2 i6).bind fun i7 =>
    (F_strings_IndexByte ([65, 66, 67, 68, 69, 70, 71, 72, 73, 74, 75, 76, 77, 78, 79, 80, 81, 82, 83, 84, 85, 86, 87, 88, 89, 90, 97, 98, 99, 100, 101, 102, 103, 104, 105, 106, 107, 108, 109, 110, 111, 112, 113, 114, 115, 116, 117, 118, 119, 120, 121, 122, 48, 49, 50, 51, 52, 53, 54, 55, 56, 57, 43, 47] : List Int) i7).bind fun i8 =>
    cond (decide (i8 < 0))
    (some (.inl (.inl (([] : List Int), 2))))
    (cond (decide ((IntKind.i64.wrap (i5 + 6)) ≥ 8))
      (chk (decide (0 ≤ (IntKind.i64.wrap ((IntKind.i64.wrap (i5 + 6)) - 8))))
        (chk (decide ((l3.length + ([(IntKind.u8.wrap (Int.fdiv (bits .and .i64 (bits .or .i64 (IntKind.i64.wrap (i4 * 2 ^ 6)) i8) 16383) (2 ^ (min ((IntKind.i64.wrap ((IntKind.i64.wrap (i5 + 6)) - 8))).toNat 64))))] : List Int).length) * 1 ≤ 140737488355328) && decide (l3.length + ([(IntKind.u8.wrap (Int.fdiv (bits .and .i64 (bits .or .i64 (IntKind.i64.wrap (i4 * 2 ^ 6)) i8) 16383) (2 ^ (min ((IntKind.i64.wrap ((IntKind.i64.wrap (i5 + 6)) - 8))).toNat 64))))] : List Int).length ≤ maxLen))
          (some (.inr ((l3 ++ ([(IntKind.u8.wrap (Int.fdiv (bits .and .i64 (bits .or .i64 (IntKind.i64.wrap (i4 * 2 ^ 6)) i8) 16383) (2 ^ (min ((IntKind.i64.wrap ((IntKind.i64.wrap (i5 + 6)) - 8))).toNat 64))))] : List Int)), (bits .and .i64 (bits .or .i64 (IntKind.i64.wrap (i4 * 2 ^ 6)) i8) 16383), (IntKind.i64.wrap ((IntKind.i64.wrap (i5 + 6)) - 8)), (IntKind.i64.wrap (i6 + 1)))))))
      (some (.inr (l3, (bits .and .i64 (bits .or .i64 (IntKind.i64.wrap (i4 * 2 ^ 6)) i8) 16383), (IntKind.i64.wrap (i5 + 6)), (IntKind.i64.wrap (i6 + 1)))))))
  (some (.inl (.inr l3)))
noncomputable def F_b64_Decode_J4 (s1 : List Int) (s : List Int) : Option (List Int × Int) :=
  let l9 := s
  (F_b64_Encode l9).bind fun s10 =>
  cond (!(s10 == s1))
  (some (([] : List Int), 2))
  (some (l9, 0))
noncomputable def F_b64_Decode (s1 : List Int) : Option (List Int × Int) :=
  (F_strings_TrimRight s1 ([61] : List Int)).bind fun s2 =>
  joinC (S := List Int) (R := List Int × Int)
  (loopC (S := List Int × Int × Int × Int) (R := (List Int × Int) ⊕ (List Int)) (F_b64_Decode_L6 s2) (([] : List Int), 0, 0, 0))
  (F_b64_Decode_J4 s1)
def F_b64_Decode_sig : Sig := ⟨[.v false [.d .str]], [(false, [.own 5 (.int .u8)]), (false, [.d (.int .i64)])]⟩
def F_b64_Decode_ann : List (Nat × Ann) := [(4, ⟨5, [(5, false, [.own 5 (.int .u8)])], [], [2, 3, 6, 7, 8, 9, 12, 13, 14, 15, 16, 17, 18, 19, 20, 21, 22, 23, 24, 25, 26, 27, 28, 29, 30, 31, 32, 33, 34, 35, 36, 37, 38, 39, 40, 41], []⟩), (6, ⟨7, [(5, false, [.own 5 (.int .u8)]), (6, false, [.d (.int .i64)]), (7, false, [.d (.int .i64)]), (14, false, [.d (.int .i64)])], [], [2, 3, 8, 9, 15, 16, 17, 18, 19, 20, 21, 22, 23, 24, 25, 26, 27, 28, 29, 30, 31, 32, 33, 34, 35, 36, 37, 38, 39, 40, 41], []⟩)]
noncomputable def F_b64_Decode_env : Env := ⟨Tryd.prog, [(17, ⟨F_b64_Encode_sig, ⟨F_b64_Encode⟩⟩), (79, ⟨F_strings_TrimRight_sig, ⟨F_strings_TrimRight⟩⟩), (80, ⟨F_strings_IndexByte_sig, ⟨F_strings_IndexByte⟩⟩)], []⟩
set_option maxRecDepth 100000 in
theorem F_b64_Decode_text : pvFn F_b64_Decode_env F_b64_Decode_ann Tryd.f47 F_b64_Decode_sig = F_b64_Decode := by kernel_rfl
end Go.Proofs.YtblngdnndkljoaaDoor

/- wlvref1.Encode at this program: by hand. -/
namespace Go.Proofs.YtblngdnndkljoaaDoor
open Go.RowKit Go.Shelf Pv
set_option linter.unusedVariables false
set_option maxHeartbeats 4000000 in
set_option maxRecDepth 1000000 in
theorem sign_walk (x : Int) (q : Nat) (hq : q < 64) (hx : bits BinOp.and IntKind.i64 x 63 = (q : Int)) (w : World) :
    Calls Tryd.prog 115 #[.int .i64 x] w fun e w' => e = .returned (.int .u8 (byteI (sigs.getD q 0))) ∧ w' = w := by
  go_enter Tryd.func115, Tryd.ntmps115
  go_wp2
  go_ret
  rw [sig_at hq]
  exact ⟨rfl, rfl⟩
theorem info5 : (Tryd.prog.info? 5).map (fun i => (i.zero, i.size, i.bytes)) = some (some (.int .u8 0), 1, 1) := by kernel_rfl
theorem drew_below (B : Nat) (w : World) : Below B w w.drew := ⟨rfl, rfl, rfl, Nat.le_refl _, fun _ _ => rfl⟩
theorem own_cell {w : World} {B g cap n j : Nat} {xs : List Value} (h : w.ownsRow B 5 1 (.slice (some ⟨g, 0, none⟩) n cap) n xs) (hj : j < n) : ∃ u, w.cell? ⟨g, j, none⟩ = some u ∧ w.frozen? ⟨g, j, none⟩ = false := by
  obtain ⟨h0, ⟨h1, _⟩ | ⟨g', cap', cur, e, h2, h3, h4, h5, h6, h7⟩⟩ := h
  · cases h1
  · cases e
    have hlt : j < cur.size := by omega
    exact ⟨cur[j], by rw [cell_at h3]; simp [hlt], by simp [World.frozen?, h3]⟩
theorem own_set {w : World} {B g cap n j : Nat} {xs : List Value} (h : w.ownsRow B 5 1 (.slice (some ⟨g, 0, none⟩) n cap) n xs) (hj : j < n) (u : Value) : (w.setCell ⟨g, j, none⟩ u).ownsRow B 5 1 (.slice (some ⟨g, 0, none⟩) n cap) n (xs.set j u) := by
  obtain ⟨h0, ⟨h1, _⟩ | ⟨g', cap', cur, e, h2, h3, h4, h5, h6, h7⟩⟩ := h
  · cases h1
  · cases e
    refine ⟨by simpa using h0, .inr ⟨g, cap, cur.setIfInBounds j u, rfl, h2, ?_, h4, h5, by simpa using h6, ?_⟩⟩
    · rw [setCell_heap, if_pos rfl, h3]; simp
    · rw [← h7]
      simp [List.take_set]
theorem set_below {w : World} {B g j : Nat} (hg : B ≤ g) (u : Value) : Below B w (w.setCell ⟨g, j, none⟩ u) := ⟨rfl, rfl, rfl, by simp [World.setCell], fun k hk => by rw [setCell_heap, if_neg (by show k ≠ g; omega)]⟩
theorem sgn_q {m t q : Nat} {G d : Int} (ht : t ≤ m) (hd : (2 : Int) ^ (6 * (3 - t)) = d) (h : G / d % 64 = (q : Int)) : sgn m G t = sigs.getD q 0 := by
  unfold sgn
  rw [if_neg (by omega), hd, h, Int.toNat_natCast]
theorem str_of {s : ByteArray} {A : List UInt8} (h : bytesL s = A.map byteI) : s = ⟨A.toArray⟩ := by
  obtain ⟨⟨d⟩⟩ := s
  have h' : d.map byteI = A.map byteI := h
  have : d = A := map_inj h'
  rw [this]
theorem own_rep {w : World} {B n : Nat} {v : Value} {A : List UInt8} (h : w.ownsRow B 5 1 v n (Lib.byteCells A)) : RepD w (fun _ _ => True) (.sl (.int .u8)) (A.map byteI) [v] := by
  obtain ⟨h0, ⟨rfl, rfl⟩ | ⟨g, cap, cur, rfl, h2, h3, h4, h5, h6, h7⟩⟩ := h
  · rw [Lib.byteCells_length] at h0
    have : A = [] := List.eq_nil_of_length_eq_zero (by omega)
    subst this
    exact ⟨none, 0, 0, rfl, rfl, Nat.le_refl _, by unfold maxLen; omega, fun i x hi => by cases hi⟩
  · rw [Lib.byteCells_length, Nat.mul_one] at h0
    have hl : List.length (α := Int) (A.map byteI) = n := by rw [List.length_map]; exact h0
    have := repD_row (w := w) (C := fun _ _ => True) (e := .int .u8) (l := A.map byteI) (B := g) (cap := cap) h3 h5 (by rw [show List.length (α := (Ty.int .u8).D) (A.map byteI) = n from hl]; exact h4) (fun _ _ => trivial) (fun i x hi => ?_)
    · rw [show List.length (α := (Ty.int .u8).D) (A.map byteI) = n from hl] at this
      exact this
    · have hi' : (A.map byteI)[i]? = some x := hi
      rw [List.getElem?_map] at hi'
      obtain ⟨c, hc, rfl⟩ := Option.map_eq_some_iff.1 hi'
      have hin : i < n := by rw [← h0]; exact (List.getElem?_eq_some_iff.1 hc).1
      have hcell : cur.toList[i]? = some (.int .u8 (byteI c)) := by
        have e : (cur.toList.take (n * 1))[i]? = some (.int .u8 (byteI c)) := by
          rw [h7]
          unfold Lib.byteCells
          rw [List.getElem?_map, hc]; rfl
        rw [List.getElem?_take] at e
        split at e
        · exact e
        · cases e
      refine ⟨?_, byte_wf c⟩
      rw [show (Ty.int .u8).size = 1 from rfl, Nat.mul_one, List.drop_eq_getElem_cons (List.getElem?_eq_some_iff.1 hcell).1]
      simp [(List.getElem?_eq_some_iff.1 hcell).2]
/-- The next three bytes, nought behind the end. -/
def nx3 (l : List Int) (i : Nat) : List Value := ((l.drop i).take 3).map (Value.int .u8)
theorem nx3_len (l : List Int) (i : Nat) : (nx3 l i).length = min (l.length - i) 3 := by
  unfold nx3
  rw [List.length_map, List.length_take, List.length_drop]
  omega
theorem nx3_get (l : List Int) (i j : Nat) (v : Value) (h : (nx3 l i)[j]? = some v) : j < 3 ∧ ∃ x, l[i + j]? = some x ∧ v = .int .u8 x := by
  unfold nx3 at h
  rw [List.getElem?_map, List.getElem?_take] at h
  split at h
  · rename_i hj
    rw [List.getElem?_drop] at h
    obtain ⟨x, h1, h2⟩ := Option.map_eq_some_iff.1 h
    exact ⟨hj, x, h1, h2.symm⟩
  · cases h
theorem nx3_splice (l : List Int) (i : Nat) : splice [.int .u8 0, .int .u8 0, .int .u8 0] 0 (nx3 l i) = [Value.int .u8 (l.getD i 0), .int .u8 (l.getD (i + 1) 0), .int .u8 (l.getD (i + 2) 0)] := by
  have e : ∀ j, l.getD (i + j) 0 = (l.drop i).getD j 0 := fun j => by
    rw [List.getD_eq_getElem?_getD, List.getD_eq_getElem?_getD, List.getElem?_drop]
  rw [show l.getD i 0 = l.getD (i + 0) 0 from rfl, e, e, e]
  unfold nx3 splice
  match l.drop i with
  | [] => rfl
  | [a] => rfl
  | [a, b] => rfl
  | a :: b :: c :: r => rfl
set_option maxHeartbeats 4000000 in
set_option maxRecDepth 1000000 in
theorem enc2_walk (l : List Int) (hl : ∀ x ∈ l, 0 ≤ x ∧ x < 256) (a : Option Addr) (n c : Nat) (hlen : l.length = n) (hn : n ≤ 1000000) (hnc : n ≤ c) (w : World) (hcells : ∀ i x, l[i]? = some x → ∃ ad, a = some ad ∧ w.cell? (ad.add i) = some (.int .u8 x)) :
    Calls Tryd.prog 84 #[.slice a n c] w fun e w' => e = .returned (.string ⟨(encB l).toArray⟩) ∧ Below w.heap.size w w' := by
  obtain ⟨i0, hi5, hz0, hz1, hz2⟩ := info_parts info5
  go_enter Tryd.func84, Tryd.ntmps84
  go_wp2
  go_loopw [3, 4] (fun out v wr => ∃ (i k : Nat), v = .int .i64 i ∧ 3 * k = i ∧ i ≤ n + 2 ∧ wr.ownsRow w.heap.size 5 1 out (4 * k) (Lib.byteCells (encK l k)) ∧ Below w.heap.size w wr) (fun _ i _ => n + 3 - (intOf i).toNat)
  case atStart =>
    exact ⟨0, 0, rfl, rfl, by omega, World.ownsRow_nil _ _ _ _, Below.refl _ _⟩
  case round =>
    obtain ⟨i, k, rfl, hik, hk, hown, hb⟩ := hrel
    by_cases hlt : i < n
    · obtain ⟨ad, rfl, _⟩ := hcells i _ (List.getElem?_eq_getElem (by omega))
      have hsz : w.heap.size ≤ wr.heap.size := hb.size
      have hsrc : ∀ j v, (nx3 l i)[j]? = some v → wr.cell? ((ad.add i).add j) = some v := fun j v hj => by
        obtain ⟨_, x, hx, rfl⟩ := nx3_get l i j v hj
        obtain ⟨ad', e, h2⟩ := hcells _ _ hx
        cases e
        rw [add_add, hb.cell (cell_lt h2)]; exact h2
      have hone : ∀ v ∈ nx3 l i, v.oneCell' = true := fun v hv => by
        obtain ⟨j, hj⟩ := List.mem_iff_getElem?.1 hv
        obtain ⟨_, x, _, rfl⟩ := nx3_get l i j v hj
        rfl
      have hnl : (nx3 l i).length = Nat.min (n - i) 3 := by rw [nx3_len, hlen]
      have hin : i ≤ n := by omega
      have hci : ¬ c = i := by omega
      clear hcells
      go_wp2
      go_region_law (refine step_copy_splice rfl (.tmp 14) (.tmp 17) 27 27 rfl 5 Tryd.underlying27 (by kernel_rfl) (some ⟨wr.heap.size, 0, none⟩) (some (ad.add i)) 3 3 (n - i) (c - i) (by simp [Act.eval, Act.put]) (by simp [Act.eval, Act.put]) wr.heap.size 0 [.int .u8 0, .int .u8 0, .int .u8 0] 129 (heap_alloc_new wr _) (nx3 l i) hnl (fun _ => ⟨rfl, _, rfl, fun j v hj => (World.cell?_alloc_lt _ _ _ (cell_lt (hsrc j v hj))).trans (hsrc j v hj)⟩) (by rw [hnl]; show 0 + min _ 3 ≤ 3; omega) hone wr.heap.size wr (((Below.refl _ wr).alloc (Nat.le_refl _) _).trans (drew_below _ _)) (Nat.le_refl _) ?_; intro w4 hg4 hb4)
      have hc0 : w4.cell? ⟨wr.heap.size, 0, none⟩ = some (.int .u8 (l.getD i 0)) := by rw [cell_at hg4.out, nx3_splice]; rfl
      have hc1 : w4.cell? ⟨wr.heap.size, 1, none⟩ = some (.int .u8 (l.getD (i + 1) 0)) := by rw [cell_at hg4.out, nx3_splice]; rfl
      have hc2 : w4.cell? ⟨wr.heap.size, 2, none⟩ = some (.int .u8 (l.getD (i + 2) 0)) := by rw [cell_at hg4.out, nx3_splice]; rfl
      have hsz4 : wr.heap.size ≤ w4.heap.size := hb4.size
      have hown4 : w4.ownsRow w.heap.size 5 1 u3 (4 * k) (Lib.byteCells (encK l k)) := hown.kept (row := none) ⟨hb4.os, hb4.tape, hb4.output, hb4.size, fun b hb _ => hb4.block b hb⟩ (by
        obtain ⟨_, ⟨rfl, _⟩ | ⟨g, cap, cur, rfl, _⟩⟩ := hown
        · exact .inl rfl
        · exact .inr (fun e => by cases e))
      have hb04 : Below w.heap.size w w4 := hb.trans (hb4.mono hsz)
      obtain ⟨m, hm⟩ : ∃ m : Nat, (n - i).min 3 = m := ⟨_, rfl⟩
      obtain ⟨y0, hy0⟩ : ∃ y, l.getD i 0 = y := ⟨_, rfl⟩
      obtain ⟨y1, hy1⟩ : ∃ y, l.getD (i + 1) 0 = y := ⟨_, rfl⟩
      obtain ⟨y2, hy2⟩ : ∃ y, l.getD (i + 2) 0 = y := ⟨_, rfl⟩
      have hr0 := getD_in hl i
      have hr1 := getD_in hl (i + 1)
      have hr2 := getD_in hl (i + 2)
      have hgv : gv l i 3 = y0 * 65536 + y1 * 256 + y2 := by
        show ((0 * 256 + l.getD (i + 0) 0) * 256 + l.getD (i + 1) 0) * 256 + l.getD (i + 2) 0 = _
        rw [show i + 0 = i from rfl, hy0, hy1, hy2]; omega
      rw [hy0] at hr0 hc0
      rw [hy1] at hr1 hc1
      rw [hy2] at hr2 hc2
      obtain ⟨G, hG⟩ : ∃ G, gv l i 3 = G := ⟨_, rfl⟩
      rw [hG] at hgv
      have hw0 : wrap64 y0 = y0 := wr64e (by omega) (by omega)
      have hw1 : wrap64 y1 = y1 := wr64e (by omega) (by omega)
      have hw2 : wrap64 y2 = y2 := wr64e (by omega) (by omega)
      have hp0 : wrap64 (y0 * 65536) = y0 * 65536 := wr64e (by omega) (by omega)
      have hp1 : wrap64 (y1 * 256) = y1 * 256 := wr64e (by omega) (by omega)
      obtain ⟨G1, hG1⟩ : ∃ G1, y0 * 65536 + y1 * 256 = G1 := ⟨_, rfl⟩
      have ho1 : bits BinOp.or IntKind.i64 (y0 * 65536) (y1 * 256) = G1 := by
        rw [← hG1]
        exact bits_join .i64 40 (by decide) (fun n h0 h1 => w64 h0 (by rw [← e40]; exact h1)) 16 (y0 * 65536) (y1 * 256) (by omega) (by omega) (by rw [e40]; omega) (by omega) (by omega) (by rw [e40]; omega)
      have ho2 : bits BinOp.or IntKind.i64 G1 y2 = G := by
        rw [or8 (by omega) (by omega) (by omega) (by omega) (by omega)]; omega
      have hGin : 0 ≤ G ∧ G < 16777216 := by omega
      have hsh : ∀ d : Int, 0 < d → ∃ q : Nat, q < 64 ∧ G / d % 64 = (q : Int) ∧ bits BinOp.and IntKind.i64 (G / d) 63 = (q : Int) := fun d hd => by
        have h1 : 0 ≤ G / d := Int.ediv_nonneg hGin.1 (by omega)
        have h2 : G / d ≤ G := Int.ediv_le_self _ hGin.1
        refine ⟨(G / d % 64).toNat, by omega, by omega, ?_⟩
        rw [and63 h1 (by omega)]; omega
      obtain ⟨q0, hq0, hd0, hx0⟩ := hsh 262144 (by decide)
      obtain ⟨q1, hq1, hd1, hx1⟩ := hsh 4096 (by decide)
      obtain ⟨q2, hq2, hd2, hx2⟩ := hsh 64 (by decide)
      obtain ⟨q3, hq3, hd3, hx3⟩ := hsh 1 (by decide)
      rw [Int.ediv_one] at hd3 hx3
      have hgrp : grp l i 4 = [sgn m G 0, sgn m G 1, sgn m G 2, sgn m G 3] := by
        unfold grp
        rw [hG, show min (l.length - i) 3 = m by rw [hlen]; exact hm]
        rfl
      clear hsh hgv hG1 hl hr0 hr1 hr2 hsrc hone hnl hb4 hg4 hown hb
      rw [hm]
      go_wp2_with (first | (go_at_call 115; refine (sign_walk (G / 262144) q0 hq0 hx0 _).mono ?_; rintro e w' ⟨rfl, hw'⟩; rw [hw']) | (go_at_call 115; refine (sign_walk (G / 4096) q1 hq1 hx1 _).mono ?_; rintro e w' ⟨rfl, hw'⟩; rw [hw']) | (go_at_call 115; refine (sign_walk (G / 64) q2 hq2 hx2 _).mono ?_; rintro e w' ⟨rfl, hw'⟩; rw [hw']) | (go_at_call 115; refine (sign_walk G q3 hq3 hx3 _).mono ?_; rintro e w' ⟨rfl, hw'⟩; rw [hw']) | (at_builtin; refine wpList_append_own _ rfl (.tmp 32) (.tmp 44) 27 rfl w.heap.size 5 i0 (.int .u8 0) 1 1 Tryd.underlying27 hi5 hz0 hz1 hz2 rfl (by decide) _ _ _ rfl (hown4.alloc _) ⟨w4.heap.size, 0, none⟩ 4 4 [.int .u8 (byteI (sigs.getD q0 0)), .int .u8 (byteI (sigs.getD q1 0)), .int .u8 (byteI (sigs.getD q2 0)), .int .u8 (byteI (sigs.getD q3 0))] rfl rfl ?c1 ?c2 ?c3 ?c4 ?c5 ?_))
      case c1 =>
        intro j u hj
        match j, hj with
        | 0, hj => simp at hj; subst hj; simp [Addr.add]
        | 1, hj => simp at hj; subst hj; simp [Addr.add]
        | 2, hj => simp at hj; subst hj; simp [Addr.add]
        | 3, hj => simp at hj; subst hj; simp [Addr.add]
      case c2 => intro u hu; simp at hu; rcases hu with rfl | rfl | rfl | rfl <;> rfl
      case c3 => unfold maxLen; omega
      case c4 => omega
      case c5 => have := hb04.size; simp; omega
      · intro v5 w5 hown5 hgrow _
        have hb05 : Below w.heap.size w w5 := (hb04.alloc hb04.size _).grown hgrow (by have := hb04.size; simp; omega) (fun j hj => (hown4.lt j hj).1)
        obtain ⟨g, cap, hv5⟩ : ∃ g cap, v5 = .slice (some ⟨g, 0, none⟩) (4 * k + 4) cap := by
          rcases hown5.2 with ⟨_, h⟩ | ⟨g, cap, _, h, _⟩
          · omega
          · exact ⟨g, cap, h⟩
        subst hv5
        have hm' : min (n - i) 3 = m := hm
        have hk4 : 4 * k + 4 ≤ 9000000 := by omega
        clear hgrow hown4 hb04 hc0 hc1 hc2 hx0 hx1 hx2 hx3 hw0 hw1 hw2 hp0 hp1 ho1 ho2 hm
        have hgB : w.heap.size ≤ g := (hown5.lt g rfl).1
        have hlenA : (Lib.byteCells (encK l k)).length = 4 * k := by rw [Lib.byteCells_length, encK_len]
        have hnext : Lib.byteCells (encK l (k + 1)) = Lib.byteCells (encK l k) ++ Lib.byteCells [sgn m G 0, sgn m G 1, sgn m G 2, sgn m G 3] := by
          show Lib.byteCells (encK l k ++ grp l (3 * k) 4) = _
          rw [Lib.byteCells_append, hik, hgrp]
        have hd3' : G / 1 % 64 = (q3 : Int) := by rw [Int.ediv_one]; exact hd3
        obtain rfl | rfl | rfl : m = 3 ∨ m = 2 ∨ m = 1 := by omega
        · rw [sgn_q (by omega) (by decide) hd0, sgn_q (by omega) (by decide) hd1, sgn_q (by omega) (by decide) hd2, sgn_q (by omega) (by decide) hd3'] at hnext
          go_wp2
          go_roundw
          case rel => exact ⟨i + 3, k + 1, by simp, by omega, by omega, by rw [hnext]; exact hown5, hb05⟩
          case measure => simp [intOf]; omega
        · rw [sgn_q (by omega) (by decide) hd0, sgn_q (by omega) (by decide) hd1, sgn_q (by omega) (by decide) hd2, show sgn 2 G 3 = 61 from rfl] at hnext
          obtain ⟨uA, hcA, hfA⟩ := own_cell hown5 (j := 4 * k + 3) (by omega)
          have hs := own_set hown5 (j := 4 * k + 3) (by omega) (.int .u8 61)
          rw [List.set_append_right _ _ (by omega), hlenA, show 4 * k + 3 - 4 * k = 3 by omega] at hs
          go_wp2
          refine ⟨⟨i + 3, k + 1, by simp, by omega, by omega, by rw [hnext]; exact hs, hb05.trans (set_below hgB _)⟩, ?_⟩
          simp [intOf]; omega
        · rw [sgn_q (by omega) (by decide) hd0, sgn_q (by omega) (by decide) hd1, show sgn 1 G 2 = 61 from rfl, show sgn 1 G 3 = 61 from rfl] at hnext
          obtain ⟨uA, hcA, hfA⟩ := own_cell hown5 (j := 4 * k + 3) (by omega)
          obtain ⟨uB, hcB, hfB⟩ := own_cell hown5 (j := 4 * k + 2) (by omega)
          have hs := own_set (own_set hown5 (j := 4 * k + 3) (by omega) (.int .u8 61)) (j := 4 * k + 2) (by omega) (.int .u8 61)
          rw [List.set_append_right _ _ (by omega), hlenA, show 4 * k + 3 - 4 * k = 3 by omega, List.set_append_right _ _ (by omega), hlenA, show 4 * k + 2 - 4 * k = 2 by omega] at hs
          go_wp2
          refine ⟨⟨i + 3, k + 1, by simp, by omega, by omega, by rw [hnext]; exact hs, (hb05.trans (set_below hgB _)).trans (set_below hgB _)⟩, ?_⟩
          simp [intOf]; omega
    · have e : (l.length + 2) / 3 = k := by omega
      obtain ⟨s, hrun, hs, _⟩ := bytes_run (P := Tryd.prog) Tryd.underlying27 Tryd.underlying5 Tryd.underlying9 (own_rep hown)
      have hstr := str_of hs
      subst hstr
      go_wp2
      go_ret
      unfold encB
      rw [e]
      exact ⟨rfl, hb⟩
end Go.Proofs.YtblngdnndkljoaaDoor

/- wlvref1.Encode by its contract. -/
namespace Go.Proofs.YtblngdnndkljoaaDoor
open Pv Go.RowKit
set_option linter.unusedVariables false
def F_wlvref1_Encode_sig : Sig := ⟨[.v false [.d (.sl (.int .u8))]], [(false, [.d .str])]⟩
def F_wlvref1_Encode (l : List Int) : Option (List Int) := cond (Nat.ble l.length 1000000) (some ((encB l).map byteI)) none
theorem F_wlvref1_Encode_sound {T : Tab} : SoundFn Tryd.prog T 84 F_wlvref1_Encode_sig ⟨F_wlvref1_Encode⟩ := by
  intro F g st xs y tmf w args _ hent happ hrel hw hn hsz htm
  obtain ⟨(l : List Int), xs', rfl, h2⟩ := appF_inv_c (ts := []) happ
  obtain ⟨rfl, h3⟩ := appF_inv_n h2
  have hφ : Option.map (fun st : PSt => st.φ 0) (some st) = _ := (congrArg _ hent).symm.trans (ent_enc l)
  have hφ : some (st.φ 0) = some _ := hφ
  injection hφ with hφ
  have h0 := hrel.slots 0
  rw [hφ, htm 0] at h0
  obtain ⟨a, n, c, e0, e1, e2, e3, e4, e5⟩ := rel_bytes h0
  have ha : args = #[.slice a n c] := by
    obtain ⟨al⟩ := args
    match al, hsz with
    | [v], _ =>
      have : v = .slice a n c := e0
      rw [this]
  subst ha
  have h3 : cond (Nat.ble l.length 1000000) (some ((encB l).map byteI)) none = some y := h3
  cases hb : Nat.ble l.length 1000000 with
  | false => rw [hb] at h3; cases h3
  | true =>
    rw [hb] at h3
    have hy : (encB l).map byteI = y := by injection h3
    have hle : l.length ≤ 1000000 := Nat.le_of_ble_eq_true hb
    obtain ⟨st', x1, x2, x3, x4, x5, x6, x7⟩ := exit_enc y
    refine (enc2_walk l e4 a n c e1 (by rw [← e1]; exact hle) e2 w e5).mono fun e w' ⟨he, hbel⟩ => ⟨[.string ⟨(encB l).toArray⟩], _, st', he, rfl, x1, mrel_out (t := .str) (x := y) hrel hbel ⟨_, rfl, ?_, ?_⟩ x2 x3 x4 x5 x6 x7, fun k hk => ?_⟩
    · rw [← hy]
      show (encB l).toArray.toList.map byteI = _
      rw [List.toList_toArray]
    · show (encB l).toArray.size ≤ maxLen
      rw [List.size_toArray, encB_len]
      unfold maxLen
      omega
    · cases k with
      | zero => cases hk
      | succ k => cases k <;> cases hk
end Go.Proofs.YtblngdnndkljoaaDoor

/- The functions of the program as Lean functions, written by a program of ours and held by the kernel. -/
namespace Go.Proofs.YtblngdnndkljoaaDoor
open Pv
set_option linter.unusedVariables false
noncomputable def F_wlvref1_sign (i1 : Int) : Option (Int) :=
  (getI ([65, 66, 67, 68, 69, 70, 71, 72, 73, 74, 75, 76, 77, 78, 79, 80, 81, 82, 83, 84, 85, 86, 87, 88, 89, 90, 97, 98, 99, 100, 101, 102, 103, 104, 105, 106, 107, 108, 109, 110, 111, 112, 113, 114, 115, 116, 117, 118, 119, 120, 121, 122, 48, 49, 50, 51, 52, 53, 54, 55, 56, 57, 43, 47] : List Int) (bits .and .i64 i1 63)).bind fun i2 =>
  some i2
def F_wlvref1_sign_sig : Sig := ⟨[.v false [.d (.int .i64)]], [(false, [.d (.int .u8)])]⟩
def F_wlvref1_sign_ann : List (Nat × Ann) := []
noncomputable def F_wlvref1_sign_env : Env := ⟨Tryd.prog, [], []⟩
set_option maxRecDepth 100000 in
theorem F_wlvref1_sign_text : pvFn F_wlvref1_sign_env F_wlvref1_sign_ann Tryd.f115 F_wlvref1_sign_sig = F_wlvref1_sign := by kernel_rfl
noncomputable def F_wlvref1_value_L3 (i1 : Int) (s : Int) : Option (((Int) ⊕ (Unit)) ⊕ (Int)) :=
  let i2 := s
  cond (decide (i2 < 64))
  ((F_wlvref1_sign i2).bind fun i3 =>
    cond (i3 == i1)
    (some (.inl (.inl i2)))
    (some (.inr (IntKind.i64.wrap (i2 + 1)))))
  (some (.inl (.inr ())))
noncomputable def F_wlvref1_value_J1 (s : Unit) : Option (Int) :=
  some (-1)
noncomputable def F_wlvref1_value (i1 : Int) : Option (Int) :=
  joinC (S := Unit) (R := Int)
  (loopC (S := Int) (R := (Int) ⊕ (Unit)) (F_wlvref1_value_L3 i1) 0)
  (F_wlvref1_value_J1)
def F_wlvref1_value_sig : Sig := ⟨[.v false [.d (.int .u8)]], [(false, [.d (.int .i64)])]⟩
def F_wlvref1_value_ann : List (Nat × Ann) := [(1, ⟨2, [], [], [2, 3, 4, 5, 6, 7, 8, 9, 10, 11, 12], []⟩), (3, ⟨4, [(3, false, [.d (.int .i64)])], [], [2, 4, 5, 6, 7, 8, 9, 10, 11, 12], []⟩)]
noncomputable def F_wlvref1_value_env : Env := ⟨Tryd.prog, [(115, ⟨F_wlvref1_sign_sig, ⟨F_wlvref1_sign⟩⟩)], []⟩
set_option maxRecDepth 100000 in
theorem F_wlvref1_value_text : pvFn F_wlvref1_value_env F_wlvref1_value_ann Tryd.f83 F_wlvref1_value_sig = F_wlvref1_value := by kernel_rfl
noncomputable def F_wlvref1_Decode_L14 (s1 : List Int) (i3 : Int) (s : List Int × Int × Int × Int) : Option ((((((List Int × Int) ⊕ (List Int)) ⊕ (List Int × Int)) ⊕ (List Int)) ⊕ (List Int × Int × Int)) ⊕ (List Int × Int × Int × Int)) :=
  let l4 := s.1; let i5 := s.2.1; let i6 := s.2.2.1; let i7 := s.2.2.2
  cond (decide (i7 < 4))
  ((getI s1 (IntKind.i64.wrap (i3 + i7))).bind fun i8 =>
    (F_wlvref1_value i8).bind fun i9 =>
    cond (decide (i9 < 0))
    (some (.inr (l4, (bits .or .i64 (IntKind.i64.wrap (i5 * 2 ^ 6)) 0), (minI i6 i7), (IntKind.i64.wrap (i7 + 1)))))
    (some (.inr (l4, (bits .or .i64 (IntKind.i64.wrap (i5 * 2 ^ 6)) i9), i6, (IntKind.i64.wrap (i7 + 1))))))
  (some (.inl (.inr (l4, i5, i6))))
noncomputable def F_wlvref1_Decode_J12 (s : List Int × Int × Int) : Option ((((List Int × Int) ⊕ (List Int)) ⊕ (List Int × Int)) ⊕ (List Int)) :=
  let l10 := s.1; let i11 := s.2.1; let i12 := s.2.2
  cond (decide (i12 < 2))
  (some (.inl (.inl (.inl (([] : List Int), 2)))))
  ((cutI ([(IntKind.u8.wrap (Int.fdiv i11 (2 ^ 16))), (IntKind.u8.wrap (Int.fdiv i11 (2 ^ 8))), (IntKind.u8.wrap i11)] : List Int) 0 (IntKind.i64.wrap (i12 - 1))).bind fun l13 =>
    chk (decide ((l10.length + l13.length) * 1 ≤ 140737488355328) && decide (l10.length + l13.length ≤ maxLen))
    (some (.inr (l10 ++ l13))))
noncomputable def F_wlvref1_Decode_J10 (i3 : Int) (s : List Int) : Option (((List Int × Int) ⊕ (List Int)) ⊕ (List Int × Int)) :=
  let l14 := s
  some (.inr (l14, (IntKind.i64.wrap (i3 + 4))))
noncomputable def F_wlvref1_Decode_L7 (s1 : List Int) (s : List Int × Int) : Option (((List Int × Int) ⊕ (List Int)) ⊕ (List Int × Int)) :=
  let l2 := s.1; let i3 := s.2
  cond (decide (i3 < (s1.length : Int)))
  (joinC (S := List Int) (R := ((List Int × Int) ⊕ (List Int)) ⊕ (List Int × Int))
    (joinC (S := List Int × Int × Int) (R := (((List Int × Int) ⊕ (List Int)) ⊕ (List Int × Int)) ⊕ (List Int))
      (loopC (S := List Int × Int × Int × Int) (R := ((((List Int × Int) ⊕ (List Int)) ⊕ (List Int × Int)) ⊕ (List Int)) ⊕ (List Int × Int × Int)) (F_wlvref1_Decode_L14 s1 i3) (l2, 0, 4, 0))
      (F_wlvref1_Decode_J12))
    (F_wlvref1_Decode_J10 i3))
  (some (.inl (.inr l2)))
noncomputable def F_wlvref1_Decode_J5 (s1 : List Int) (s : List Int) : Option (List Int × Int) :=
  let l15 := s
  (F_wlvref1_Encode l15).bind fun s16 =>
  cond (!(s16 == s1))
  (some (([] : List Int), 2))
  (some (l15, 0))
noncomputable def F_wlvref1_Decode (s1 : List Int) : Option (List Int × Int) :=
  cond ((Int.tmod (s1.length : Int) 4) != 0)
  (some (([] : List Int), 2))
  (joinC (S := List Int) (R := List Int × Int)
    (loopC (S := List Int × Int) (R := (List Int × Int) ⊕ (List Int)) (F_wlvref1_Decode_L7 s1) (([] : List Int), 0))
    (F_wlvref1_Decode_J5 s1))
def F_wlvref1_Decode_sig : Sig := ⟨[.v false [.d .str]], [(false, [.own 5 (.int .u8)]), (false, [.d (.int .i64)])]⟩
def F_wlvref1_Decode_ann : List (Nat × Ann) := [(5, ⟨6, [(4, false, [.own 5 (.int .u8)])], [], [2, 3, 5, 6, 7, 8, 9, 14, 15, 16, 17, 18, 19, 20, 21, 22, 23, 24, 25, 26, 27, 28, 29, 30, 31, 32, 33, 34, 35, 36, 37, 38, 39, 40, 41, 42, 43, 44, 45, 46, 47, 48, 49, 50, 51, 52, 53, 54], []⟩), (7, ⟨8, [(4, false, [.own 5 (.int .u8)]), (5, false, [.d (.int .i64)])], [], [2, 3, 6, 7, 8, 9, 14, 15, 16, 17, 18, 19, 20, 21, 22, 23, 24, 25, 26, 27, 28, 29, 30, 31, 32, 33, 34, 35, 36, 37, 38, 39, 40, 41, 42, 43, 44, 45, 46, 47, 48, 49, 50, 51, 52, 53, 54], []⟩), (10, ⟨11, [(4, false, [.own 5 (.int .u8)])], [], [2, 3, 6, 7, 8, 9, 20, 21, 22, 23, 24, 25, 26, 27, 28, 29, 30, 31, 32, 33, 34, 35, 36, 37, 38, 39, 40, 41, 42, 43, 44, 45, 46, 47, 48, 49, 50, 51, 52, 53, 54], []⟩), (12, ⟨13, [(4, false, [.own 5 (.int .u8)]), (6, false, [.d (.int .i64)]), (7, false, [.d (.int .i64)])], [], [8, 9, 20, 21, 22, 23, 24, 25, 26, 27, 28, 29, 30, 31, 32, 33, 34, 35, 36, 37, 38], []⟩), (14, ⟨15, [(4, false, [.own 5 (.int .u8)]), (6, false, [.d (.int .i64)]), (7, false, [.d (.int .i64)]), (8, false, [.d (.int .i64)])], [], [9, 20, 21, 22, 23, 24, 25, 26, 27, 28, 29, 30, 31, 32, 33, 34, 35, 36, 37, 38], []⟩)]
noncomputable def F_wlvref1_Decode_env : Env := ⟨Tryd.prog, [(83, ⟨F_wlvref1_value_sig, ⟨F_wlvref1_value⟩⟩), (84, ⟨F_wlvref1_Encode_sig, ⟨F_wlvref1_Encode⟩⟩)], []⟩
set_option maxRecDepth 100000 in
theorem F_wlvref1_Decode_text : pvFn F_wlvref1_Decode_env F_wlvref1_Decode_ann Tryd.f53 F_wlvref1_Decode_sig = F_wlvref1_Decode := by kernel_rfl
end Go.Proofs.YtblngdnndkljoaaDoor

/- What the functions that are walked by hand answer (sha, slices of bytes). -/
namespace Go.Proofs.YtblngdnndkljoaaDoor
open Pv
set_option linter.unusedVariables false
def P64N : List Nat := [2, 3, 5, 7, 11, 13, 17, 19, 23, 29, 31, 37, 41, 43, 47, 53, 59, 61, 67, 71, 73, 79, 83, 89, 97, 101, 103, 107, 109, 113, 127, 131, 137, 139, 149, 151, 157, 163, 167, 173, 179, 181, 191, 193, 197, 199, 211, 223, 227, 229, 233, 239, 241, 251, 257, 263, 269, 271, 277, 281, 283, 293, 307, 311]
def P64 : List Int := P64N.map fun (n : Nat) => (n : Int)
def K64 : List Int := [1116352408, 1899447441, 3049323471, 3921009573, 961987163, 1508970993, 2453635748, 2870763221, 3624381080, 310598401, 607225278, 1426881987, 1925078388, 2162078206, 2614888103, 3248222580, 3835390401, 4022224774, 264347078, 604807628, 770255983, 1249150122, 1555081692, 1996064986, 2554220882, 2821834349, 2952996808, 3210313671, 3336571891, 3584528711, 113926993, 338241895, 666307205, 773529912, 1294757372, 1396182291, 1695183700, 1986661051, 2177026350, 2456956037, 2730485921, 2820302411, 3259730800, 3345764771, 3516065817, 3600352804, 4094571909, 275423344, 430227734, 506948616, 659060556, 883997877, 958139571, 1322822218, 1537002063, 1747873779, 1955562222, 2024104815, 2227730452, 2361852424, 2428436474, 2756734187, 3204031479, 3329325298]
def H8 : List Int := [1779033703, 3144134277, 1013904242, 2773480762, 1359893119, 2600822924, 528734635, 1541459225]
/-- How many primes stand below a number; which. -/
def mN (p : Nat) : Nat := (P64N.filter fun q => decide (q < p)).length
def rowP (p : Nat) : List Nat := P64N.take (mN p)
def divs (p : Nat) (l : List Nat) : Bool := l.any fun q => p % q == 0
theorem tabP : (List.range 310).all (fun i => decide (mN (i + 2) < 64) && (cond (divs (i + 2) (rowP (i + 2))) (mN (i + 3) == mN (i + 2)) (P64N[mN (i + 2)]? == some (i + 2) && mN (i + 3) == mN (i + 2) + 1))) = true := by kernel_rfl
theorem p_end : mN 312 = 64 := by kernel_rfl
theorem p_start : mN 2 = 0 := by kernel_rfl
theorem p_step {p : Nat} (h2 : 2 ≤ p) (h : p ≤ 311) : mN p < 64 ∧ (divs p (rowP p) = true → mN (p + 1) = mN p) ∧ (divs p (rowP p) = false → mN (p + 1) = mN p + 1 ∧ rowP (p + 1) = rowP p ++ [p]) := by
  have := List.all_eq_true.1 tabP (p - 2) (List.mem_range.2 (by omega))
  rw [show p - 2 + 2 = p by omega, show p - 2 + 3 = p + 1 by omega, Bool.and_eq_true, decide_eq_true_iff] at this
  obtain ⟨h1, h3⟩ := this
  refine ⟨h1, fun hd => ?_, fun hd => ?_⟩
  · rw [hd, cond_true, beq_iff_eq] at h3
    exact h3
  · rw [hd, cond_false, Bool.and_eq_true, beq_iff_eq, beq_iff_eq] at h3
    refine ⟨h3.2, ?_⟩
    unfold rowP
    rw [h3.2, List.take_add_one, h3.1]; rfl
theorem row_len {p : Nat} (h : p ≤ 312) (h2 : 2 ≤ p) : (rowP p).length = mN p := by
  unfold rowP
  have : mN p ≤ 64 := by
    rcases Nat.lt_or_ge p 312 with hp | hp
    · exact Nat.le_of_lt (p_step h2 (by omega)).1
    · rw [show p = 312 by omega, p_end]; exact Nat.le_refl _
  rw [List.length_take]
  have e : P64N.length = 64 := rfl
  omega
theorem row_pos {p q : Nat} (h : q ∈ rowP p) : 2 ≤ q ∧ q < 312 := by
  have h := List.mem_of_mem_take h
  have key : P64N.all (fun q => decide (2 ≤ q) && decide (q < 312)) = true := by kernel_rfl
  have := List.all_eq_true.1 key q h
  simpa using this
theorem row_end : rowP 312 = P64N := by kernel_rfl
theorem row_start : rowP 2 = [] := by kernel_rfl
def F_sha_primes_sig : Sig := ⟨[.v false [.d (.int .i64)]], [(false, [.own 101 (.int .u64)])]⟩
def F_sha_primes (n : Int) : Option (List Int) := cond (n == 64) (some P64) none
/-- Is the square (the cube) of x at most a prime? -/
def mostN (x p : Nat) (cube : Bool) : Bool :=
  cond (!cube) (decide (x * x / 18446744073709551616 < p))
    (let hi := x * x / 18446744073709551616
     let lo := x * x % 18446744073709551616
     let b := lo * x % 18446744073709551616
     let t := lo * x / 18446744073709551616 + hi * x % 18446744073709551616
     let s := t % 18446744073709551616
     ((hi * x / 18446744073709551616 + t / 18446744073709551616) % 18446744073709551616 == 0) && (decide (s / 4294967296 < p) || ((s / 4294967296 == p) && (s * 4294967296 % 18446744073709551616 == 0) && (b == 0))))
def F_slices_Clone_byte_byte_sig : Sig := ⟨[.v false [.d (.sl (.int .u8))]], [(false, [.own 5 (.int .u8)])]⟩
def F_slices_Clone_byte_byte (l : List Int) : Option (List Int) := cond (Nat.ble l.length 100000000) (some l) none
def F_bytes_Clone_sig : Sig := ⟨[.v false [.d (.sl (.int .u8))]], [(false, [.own 5 (.int .u8)])]⟩
def F_bytes_Clone (l : List Int) : Option (List Int) := cond (Nat.ble l.length 100000000) (some l) none
def F_slices_Concat_byte_byte_sig : Sig := ⟨[.v false [.d (.sl (.sl (.int .u8)))]], [(false, [.own 5 (.int .u8)])]⟩
def F_slices_Concat_byte_byte (l : List (List Int)) : Option (List Int) := cond (Nat.ble l.flatten.length 100000000 && Nat.ble l.length 100000000) (some l.flatten) none
end Go.Proofs.YtblngdnndkljoaaDoor

/- The functions of the program as Lean functions, written by a program of ours and held by the kernel. -/
namespace Go.Proofs.YtblngdnndkljoaaDoor
open Pv
set_option linter.unusedVariables false
noncomputable def F_math_bits_Mul64 (i1 : Int) (i2 : Int) : Option (Int × Int) :=
  some ((IntKind.u64.wrap ((IntKind.u64.wrap ((IntKind.u64.wrap ((Int.fdiv i1 (2 ^ 32)) * (Int.fdiv i2 (2 ^ 32)))) + (Int.fdiv (IntKind.u64.wrap ((IntKind.u64.wrap ((Int.fdiv i1 (2 ^ 32)) * (bits .and .u64 i2 4294967295))) + (Int.fdiv (IntKind.u64.wrap ((bits .and .u64 i1 4294967295) * (bits .and .u64 i2 4294967295))) (2 ^ 32)))) (2 ^ 32)))) + (Int.fdiv (IntKind.u64.wrap ((bits .and .u64 (IntKind.u64.wrap ((IntKind.u64.wrap ((Int.fdiv i1 (2 ^ 32)) * (bits .and .u64 i2 4294967295))) + (Int.fdiv (IntKind.u64.wrap ((bits .and .u64 i1 4294967295) * (bits .and .u64 i2 4294967295))) (2 ^ 32)))) 4294967295) + (IntKind.u64.wrap ((bits .and .u64 i1 4294967295) * (Int.fdiv i2 (2 ^ 32)))))) (2 ^ 32)))), (IntKind.u64.wrap (i1 * i2)))
def F_math_bits_Mul64_sig : Sig := ⟨[.v false [.d (.int .u64)], .v false [.d (.int .u64)]], [(false, [.d (.int .u64)]), (false, [.d (.int .u64)])]⟩
def F_math_bits_Mul64_ann : List (Nat × Ann) := []
noncomputable def F_math_bits_Mul64_env : Env := ⟨Tryd.prog, [], []⟩
set_option maxRecDepth 100000 in
theorem F_math_bits_Mul64_text : pvFn F_math_bits_Mul64_env F_math_bits_Mul64_ann Tryd.f171 F_math_bits_Mul64_sig = F_math_bits_Mul64 := by kernel_rfl
noncomputable def F_sha_most (i1 : Int) (i2 : Int) (b3 : Bool) : Option (Bool) :=
  (F_math_bits_Mul64 i1 i1).bind fun x4 =>
  cond (!b3)
  (some (decide (x4.1 < i2)))
  ((F_math_bits_Mul64 x4.2 i1).bind fun x5 =>
    (F_math_bits_Mul64 x4.1 i1).bind fun x6 =>
    chk (0 == 0)
    (cond ((IntKind.u64.wrap (x6.1 + ((x5.1 + x6.2) / 18446744073709551616))) == 0)
      (cond (decide ((Int.fdiv ((x5.1 + x6.2) % 18446744073709551616) (2 ^ 32)) < i2))
        (some true)
        (some ((((Int.fdiv ((x5.1 + x6.2) % 18446744073709551616) (2 ^ 32)) == i2) && ((IntKind.u64.wrap (((x5.1 + x6.2) % 18446744073709551616) * 2 ^ 32)) == 0)) && (x5.2 == 0))))
      (some false)))
def F_sha_most_sig : Sig := ⟨[.v false [.d (.int .u64)], .v false [.d (.int .u64)], .v false [.d .bool]], [(false, [.d .bool])]⟩
def F_sha_most_ann : List (Nat × Ann) := []
noncomputable def F_sha_most_env : Env := ⟨Tryd.prog, [(171, ⟨F_math_bits_Mul64_sig, ⟨F_math_bits_Mul64⟩⟩)], []⟩
set_option maxRecDepth 100000 in
theorem F_sha_most_text : pvFn F_sha_most_env F_sha_most_ann Tryd.f151 F_sha_most_sig = F_sha_most := by kernel_rfl
noncomputable def F_sha_fraction_L4 (i1 : Int) (b2 : Bool) (s : Int × Int) : Option (((Int) ⊕ (Int)) ⊕ (Int × Int)) :=
  let i3 := s.1; let i4 := s.2
  cond (decide (i4 > 0))
  ((F_sha_most (bits .or .u64 i3 i4) i1 b2).bind fun b5 =>
    cond b5
    (some (.inr ((bits .or .u64 i3 i4), (Int.fdiv i4 (2 ^ 1)))))
    (some (.inr (i3, (Int.fdiv i4 (2 ^ 1))))))
  (some (.inl (.inr i3)))
noncomputable def F_sha_fraction_J2 (s : Int) : Option (Int) :=
  let i6 := s
  some (IntKind.u32.wrap i6)
noncomputable def F_sha_fraction (i1 : Int) (b2 : Bool) : Option (Int) :=
  joinC (S := Int) (R := Int)
  (loopC (S := Int × Int) (R := (Int) ⊕ (Int)) (F_sha_fraction_L4 i1 b2) (0, 68719476736))
  (F_sha_fraction_J2)
def F_sha_fraction_sig : Sig := ⟨[.v false [.d (.int .u64)], .v false [.d .bool]], [(false, [.d (.int .u32)])]⟩
def F_sha_fraction_ann : List (Nat × Ann) := [(2, ⟨3, [(5, false, [.d (.int .u64)])], [], [6, 7, 8, 9, 10, 11, 12, 13, 14, 15, 16, 17, 18, 19], []⟩), (4, ⟨5, [(5, false, [.d (.int .u64)]), (6, false, [.d (.int .u64)])], [], [7, 8, 9, 10, 11, 12, 13, 14, 15, 16, 17, 18, 19], []⟩)]
noncomputable def F_sha_fraction_env : Env := ⟨Tryd.prog, [(151, ⟨F_sha_most_sig, ⟨F_sha_most⟩⟩)], []⟩
set_option maxRecDepth 100000 in
theorem F_sha_fraction_text : pvFn F_sha_fraction_env F_sha_fraction_ann Tryd.f117 F_sha_fraction_sig = F_sha_fraction := by kernel_rfl
noncomputable def F_sha_padded_L3 (s : List Int) : Option (((List Int) ⊕ (List Int)) ⊕ (List Int)) :=
  let l3 := s
  cond ((Int.tmod (l3.length : Int) 64) != 56)
  (chk (decide ((l3.length + ([0] : List Int).length) * 1 ≤ 140737488355328) && decide (l3.length + ([0] : List Int).length ≤ maxLen))
    (some (.inr (l3 ++ ([0] : List Int)))))
  (some (.inl (.inr l3)))
noncomputable def F_sha_padded_L8 (l1 : List Int) (s : List Int × Int) : Option (((List Int) ⊕ (List Int)) ⊕ (List Int × Int)) :=
  let l5 := s.1; let i6 := s.2
  cond (decide (i6 ≥ 0))
  (chk (decide (0 ≤ (IntKind.i64.wrap (8 * i6))))
    (chk (decide ((l5.length + ([(IntKind.u8.wrap (Int.fdiv (IntKind.u64.wrap ((IntKind.u64.wrap (l1.length : Int)) * 8)) (2 ^ (min ((IntKind.i64.wrap (8 * i6))).toNat 64))))] : List Int).length) * 1 ≤ 140737488355328) && decide (l5.length + ([(IntKind.u8.wrap (Int.fdiv (IntKind.u64.wrap ((IntKind.u64.wrap (l1.length : Int)) * 8)) (2 ^ (min ((IntKind.i64.wrap (8 * i6))).toNat 64))))] : List Int).length ≤ maxLen))
      (some (.inr ((l5 ++ ([(IntKind.u8.wrap (Int.fdiv (IntKind.u64.wrap ((IntKind.u64.wrap (l1.length : Int)) * 8)) (2 ^ (min ((IntKind.i64.wrap (8 * i6))).toNat 64))))] : List Int)), (IntKind.i64.wrap (i6 - 1)))))))
  (some (.inl (.inr l5)))
noncomputable def F_sha_padded_J6 (s : List Int) : Option (List Int) :=
  let l7 := s
  some l7
noncomputable def F_sha_padded_J2 (l1 : List Int) (s : List Int) : Option (List Int) :=
  let l4 := s
  joinC (S := List Int) (R := List Int)
  (loopC (S := List Int × Int) (R := (List Int) ⊕ (List Int)) (F_sha_padded_L8 l1) (l4, 7))
  (F_sha_padded_J6)
noncomputable def F_sha_padded (l1 : List Int) : Option (List Int) :=
  (F_slices_Clone_byte_byte l1).bind fun l2 =>
  chk (decide ((l2.length + ([128] : List Int).length) * 1 ≤ 140737488355328) && decide (l2.length + ([128] : List Int).length ≤ maxLen))
  (joinC (S := List Int) (R := List Int)
    (loopC (S := List Int) (R := (List Int) ⊕ (List Int)) (F_sha_padded_L3) (l2 ++ ([128] : List Int)))
    (F_sha_padded_J2 l1))
def F_sha_padded_sig : Sig := ⟨[.v false [.d (.sl (.int .u8))]], [(false, [.own 5 (.int .u8)])]⟩
def F_sha_padded_ann : List (Nat × Ann) := [(2, ⟨3, [(3, false, [.own 5 (.int .u8)])], [], [9, 10, 11, 12, 13, 14, 15], []⟩), (3, ⟨4, [(3, false, [.own 5 (.int .u8)])], [], [9, 10, 11, 12, 13, 14, 15], []⟩), (6, ⟨7, [(3, false, [.own 5 (.int .u8)])], [], [4, 16, 17, 18, 19, 20, 21, 22, 23, 24, 25, 26, 27, 28, 29, 30], []⟩), (8, ⟨9, [(3, false, [.own 5 (.int .u8)]), (4, false, [.d (.int .i64)])], [], [16, 17, 18, 19, 20, 21, 22, 23, 24, 25, 26, 27, 28, 29, 30], []⟩)]
noncomputable def F_sha_padded_env : Env := ⟨Tryd.prog, [(152, ⟨F_slices_Clone_byte_byte_sig, ⟨F_slices_Clone_byte_byte⟩⟩)], []⟩
set_option maxRecDepth 100000 in
theorem F_sha_padded_text : pvFn F_sha_padded_env F_sha_padded_ann Tryd.f118 F_sha_padded_sig = F_sha_padded := by kernel_rfl
noncomputable def F_math_bits_RotateLeft32 (i1 : Int) (i2 : Int) : Option (Int) :=
  chk (decide (0 ≤ (bits .and .u64 (IntKind.u64.wrap i2) 31)))
  (chk (decide (0 ≤ (IntKind.u64.wrap (32 - (bits .and .u64 (IntKind.u64.wrap i2) 31)))))
    (some (bits .or .u32 (IntKind.u32.wrap (i1 * 2 ^ (min ((bits .and .u64 (IntKind.u64.wrap i2) 31)).toNat 32))) (Int.fdiv i1 (2 ^ (min ((IntKind.u64.wrap (32 - (bits .and .u64 (IntKind.u64.wrap i2) 31)))).toNat 32))))))
def F_math_bits_RotateLeft32_sig : Sig := ⟨[.v false [.d (.int .u32)], .v false [.d (.int .i64)]], [(false, [.d (.int .u32)])]⟩
def F_math_bits_RotateLeft32_ann : List (Nat × Ann) := []
noncomputable def F_math_bits_RotateLeft32_env : Env := ⟨Tryd.prog, [], []⟩
set_option maxRecDepth 100000 in
theorem F_math_bits_RotateLeft32_text : pvFn F_math_bits_RotateLeft32_env F_math_bits_RotateLeft32_ann Tryd.f153 F_math_bits_RotateLeft32_sig = F_math_bits_RotateLeft32 := by kernel_rfl
noncomputable def F_sha_state_turned_L3 (l2 : List Int) (s : Int × List Int × List Int) : Option (((List Int) ⊕ (List Int × List Int)) ⊕ (Int × List Int × List Int)) :=
  let i4 := s.1; let a5 := s.2.1; let a6 := s.2.2
  cond (decide (i4 < 64))
  (cond (decide (i4 < 16))
    ((getI l2 (IntKind.i64.wrap (4 * i4))).bind fun i7 =>
      (getI l2 (IntKind.i64.wrap ((IntKind.i64.wrap (4 * i4)) + 1))).bind fun i8 =>
      (getI l2 (IntKind.i64.wrap ((IntKind.i64.wrap (4 * i4)) + 2))).bind fun i9 =>
      (getI l2 (IntKind.i64.wrap ((IntKind.i64.wrap (4 * i4)) + 3))).bind fun i10 =>
      chk (decide (0 ≤ i4) && decide (i4 < (64 : Int)))
      (chk (decide (i4 < (64 : Int)))
        (some (.inr ((IntKind.i64.wrap (i4 + 1)), a5, (a6.set (i4).toNat (bits .or .u32 (bits .or .u32 (bits .or .u32 (IntKind.u32.wrap ((IntKind.u32.wrap i7) * 2 ^ 24)) (IntKind.u32.wrap ((IntKind.u32.wrap i8) * 2 ^ 16))) (IntKind.u32.wrap ((IntKind.u32.wrap i9) * 2 ^ 8))) (IntKind.u32.wrap i10))))))))
    (chk (decide (0 ≤ (IntKind.i64.wrap (i4 - 15))) && decide ((IntKind.i64.wrap (i4 - 15)) < (64 : Int)))
      ((getI a6 (IntKind.i64.wrap (i4 - 15))).bind fun i11 =>
        chk (decide (0 ≤ (IntKind.i64.wrap (i4 - 2))) && decide ((IntKind.i64.wrap (i4 - 2)) < (64 : Int)))
        ((getI a6 (IntKind.i64.wrap (i4 - 2))).bind fun i12 =>
          chk (decide (0 ≤ (IntKind.i64.wrap (i4 - 16))) && decide ((IntKind.i64.wrap (i4 - 16)) < (64 : Int)))
          ((getI a6 (IntKind.i64.wrap (i4 - 16))).bind fun i13 =>
            chk (decide (0 ≤ (IntKind.i64.wrap (i4 - 7))) && decide ((IntKind.i64.wrap (i4 - 7)) < (64 : Int)))
            ((getI a6 (IntKind.i64.wrap (i4 - 7))).bind fun i14 =>
              (F_math_bits_RotateLeft32 i11 (-7)).bind fun i15 =>
              (F_math_bits_RotateLeft32 i11 (-18)).bind fun i16 =>
              (F_math_bits_RotateLeft32 i12 (-17)).bind fun i17 =>
              (F_math_bits_RotateLeft32 i12 (-19)).bind fun i18 =>
              chk (decide (0 ≤ i4) && decide (i4 < (64 : Int)))
              (chk (decide (i4 < (64 : Int)))
                (some (.inr ((IntKind.i64.wrap (i4 + 1)), a5, (a6.set (i4).toNat (IntKind.u32.wrap ((IntKind.u32.wrap ((IntKind.u32.wrap (i13 + i14)) + (bits .xor .u32 (bits .xor .u32 i15 i16) (Int.fdiv i11 (2 ^ 3))))) + (bits .xor .u32 (bits .xor .u32 i17 i18) (Int.fdiv i12 (2 ^ 10))))))))))))))))
  (some (.inl (.inr (a5, a6))))
noncomputable def F_sha_state_turned_L15 (l3 : List Int) (s : Int × List Int × List Int × List Int) : Option (((List Int) ⊕ (List Int × List Int)) ⊕ (Int × List Int × List Int × List Int)) :=
  let i21 := s.1; let a22 := s.2.1; let a23 := s.2.2.1; let a24 := s.2.2.2
  cond (decide (i21 < 64))
  ((getI a24 (4 : Int)).bind fun i25 =>
    (getI a24 (0 : Int)).bind fun i26 =>
    (getI a24 (7 : Int)).bind fun i27 =>
    (F_math_bits_RotateLeft32 i25 (-6)).bind fun i28 =>
    (F_math_bits_RotateLeft32 i25 (-11)).bind fun i29 =>
    (F_math_bits_RotateLeft32 i25 (-25)).bind fun i30 =>
    (getI a24 (6 : Int)).bind fun i31 =>
    (getI a24 (5 : Int)).bind fun i32 =>
    (getI a24 (6 : Int)).bind fun i33 =>
    (getI l3 i21).bind fun i34 =>
    chk (decide (0 ≤ i21) && decide (i21 < (64 : Int)))
    ((getI a23 i21).bind fun i35 =>
      (F_math_bits_RotateLeft32 i26 (-2)).bind fun i36 =>
      (F_math_bits_RotateLeft32 i26 (-13)).bind fun i37 =>
      (F_math_bits_RotateLeft32 i26 (-22)).bind fun i38 =>
      (getI a24 (1 : Int)).bind fun i39 =>
      (getI a24 (2 : Int)).bind fun i40 =>
      (getI a24 (1 : Int)).bind fun i41 =>
      (getI a24 (2 : Int)).bind fun i42 =>
      (getI a24 (1 : Int)).bind fun i43 =>
      (getI a24 (2 : Int)).bind fun i44 =>
      (getI a24 (3 : Int)).bind fun i45 =>
      (getI a24 (5 : Int)).bind fun i46 =>
      (getI a24 (6 : Int)).bind fun i47 =>
      some (.inr ((IntKind.i64.wrap (i21 + 1)), a22, a23, [(IntKind.u32.wrap ((IntKind.u32.wrap ((IntKind.u32.wrap ((IntKind.u32.wrap ((IntKind.u32.wrap (i27 + (bits .xor .u32 (bits .xor .u32 i28 i29) i30))) + (bits .xor .u32 i31 (bits .and .u32 i25 (bits .xor .u32 i32 i33))))) + i34)) + i35)) + (IntKind.u32.wrap ((bits .xor .u32 (bits .xor .u32 i36 i37) i38) + (bits .or .u32 (bits .and .u32 i26 (bits .or .u32 i39 i40)) (bits .and .u32 i41 i42)))))), i26, i43, i44, (IntKind.u32.wrap (i45 + (IntKind.u32.wrap ((IntKind.u32.wrap ((IntKind.u32.wrap ((IntKind.u32.wrap (i27 + (bits .xor .u32 (bits .xor .u32 i28 i29) i30))) + (bits .xor .u32 i31 (bits .and .u32 i25 (bits .xor .u32 i32 i33))))) + i34)) + i35)))), i25, i46, i47]))))
  (some (.inl (.inr (a22, a24))))
noncomputable def F_sha_state_turned_L24 (s : Int × List Int × List Int) : Option ((List Int) ⊕ (Int × List Int × List Int)) :=
  let i50 := s.1; let a51 := s.2.1; let a52 := s.2.2
  cond (decide (i50 < 8))
  (chk (decide (0 ≤ i50) && decide (i50 < (8 : Int)))
    ((getI a51 i50).bind fun i53 =>
      chk (decide (0 ≤ i50) && decide (i50 < (8 : Int)))
      ((getI a52 i50).bind fun i54 =>
        chk (decide (0 ≤ i50) && decide (i50 < (8 : Int)))
        (chk (decide (i50 < (8 : Int)))
          (some (.inr ((IntKind.i64.wrap (i50 + 1)), (a51.set (i50).toNat (IntKind.u32.wrap (i53 + i54))), a52)))))))
  (some (.inl a51))
noncomputable def F_sha_state_turned_J13 (s : List Int × List Int) : Option (List Int) :=
  let a48 := s.1; let a49 := s.2
  loopC (S := Int × List Int × List Int) (R := List Int) (F_sha_state_turned_L24) (0, a48, a49)
noncomputable def F_sha_state_turned_J1 (l3 : List Int) (s : List Int × List Int) : Option (List Int) :=
  let a19 := s.1; let a20 := s.2
  joinC (S := List Int × List Int) (R := List Int)
  (loopC (S := Int × List Int × List Int × List Int) (R := (List Int) ⊕ (List Int × List Int)) (F_sha_state_turned_L15 l3) (0, a19, a20, a19))
  (F_sha_state_turned_J13)
noncomputable def F_sha_state_turned (a1 : List Int) (l2 : List Int) (l3 : List Int) : Option (List Int) :=
  joinC (S := List Int × List Int) (R := List Int)
  (loopC (S := Int × List Int × List Int) (R := (List Int) ⊕ (List Int × List Int)) (F_sha_state_turned_L3 l2) (0, a1, (List.replicate 64 0)))
  (F_sha_state_turned_J1 l3)
def F_sha_state_turned_sig : Sig := ⟨[.m [.d (.arr 8 (.int .u32))], .v false [.d (.sl (.int .u8))], .v false [.d (.sl (.int .u32))]], []⟩
def F_sha_state_turned_ann : List (Nat × Ann) := [(1, ⟨2, [], [(0, [.d (.arr 8 (.int .u32))]), (6, [.d (.arr 64 (.int .u32))])], [7, 8, 9, 17, 18, 19, 20, 21, 22, 23, 24, 25, 26, 27, 28, 29, 30, 31, 32, 33, 34, 35, 36, 37, 38, 39, 40, 41, 42, 43, 44, 45, 46, 47, 48, 49, 50, 51, 52, 53, 54, 55, 56, 57, 58, 59, 60, 61, 62, 63, 64, 65, 66, 67, 68, 69, 70, 71, 72, 73, 74, 75, 76, 77, 78, 79, 80, 81, 82, 83, 84, 85, 86, 87, 88, 89, 90, 91, 92, 93, 94], []⟩), (3, ⟨4, [(17, false, [.d (.int .i64)])], [(0, [.d (.arr 8 (.int .u32))]), (6, [.d (.arr 64 (.int .u32))])], [7, 8, 9, 18, 19, 20, 21, 22, 23, 24, 25, 26, 27, 28, 29, 30, 31, 32, 33, 34, 35, 36, 37, 38, 39, 40, 41, 42, 43, 44, 45, 46, 47, 48, 49, 50, 51, 52, 53, 54, 55, 56, 57, 58, 59, 60, 61, 62, 63, 64, 65, 66, 67, 68, 69, 70, 71, 72, 73, 74, 75, 76, 77, 78, 79, 80, 81, 82, 83, 84, 85, 86, 87, 88, 89, 90, 91, 92, 93, 94], []⟩), (13, ⟨14, [], [(0, [.d (.arr 8 (.int .u32))]), (10, [.d (.arr 8 (.int .u32))])], [11, 12, 13, 14, 15, 98, 99, 100, 101, 102, 103, 104, 105, 106, 107, 108, 109, 110, 111, 112, 113, 114, 115, 116, 117, 118, 119, 120, 121, 122, 123, 124, 125, 126, 127, 128, 129, 130, 131, 132, 133, 134, 135, 136, 137, 138, 139, 140, 141, 142, 143, 144, 145, 146, 147, 148, 149, 150, 151, 152, 153, 154, 155, 156, 157, 158, 159, 160, 161, 162, 163, 164, 165, 166, 167, 168, 169, 170, 171, 172, 173, 174, 175, 176], []⟩), (15, ⟨16, [(98, false, [.d (.int .i64)])], [(0, [.d (.arr 8 (.int .u32))]), (6, [.d (.arr 64 (.int .u32))]), (10, [.d (.arr 8 (.int .u32))])], [11, 12, 13, 14, 15, 99, 100, 101, 102, 103, 104, 105, 106, 107, 108, 109, 110, 111, 112, 113, 114, 115, 116, 117, 118, 119, 120, 121, 122, 123, 124, 125, 126, 127, 128, 129, 130, 131, 132, 133, 134, 135, 136, 137, 138, 139, 140, 141, 142, 143, 144, 145, 146, 147, 148, 149, 150, 151, 152, 153, 154, 155, 156, 157, 158, 159, 160, 161, 162, 163, 164, 165, 166, 167, 168, 169, 170, 171, 172, 173, 174, 175, 176], []⟩), (24, ⟨25, [(177, false, [.d (.int .i64)])], [(0, [.d (.arr 8 (.int .u32))]), (10, [.d (.arr 8 (.int .u32))])], [16, 178, 179, 180, 181, 182, 183, 184, 185, 186, 187, 188, 189, 190, 191], []⟩)]
noncomputable def F_sha_state_turned_env : Env := ⟨Tryd.prog, [(153, ⟨F_math_bits_RotateLeft32_sig, ⟨F_math_bits_RotateLeft32⟩⟩)], []⟩
set_option maxRecDepth 100000 in
theorem F_sha_state_turned_text : pvFn F_sha_state_turned_env F_sha_state_turned_ann Tryd.f119 F_sha_state_turned_sig = F_sha_state_turned := by kernel_rfl
noncomputable def F_sha_One_L5 (l2 : List Int) (s : List Int × List Int × Int × List Int) : Option (((List Int) ⊕ (List Int × List Int)) ⊕ (List Int × List Int × Int × List Int)) :=
  let l3 := s.1; let l4 := s.2.1; let i5 := s.2.2.1; let a6 := s.2.2.2
  cond (decide (i5 < (l2.length : Int)))
  ((getI l4 i5).bind fun i7 =>
    cond (decide (i5 < 8))
    ((F_sha_fraction i7 false).bind fun i8 =>
      chk (decide (0 ≤ i5) && decide (i5 < (8 : Int)))
      (chk (decide (i5 < (8 : Int)))
        ((F_sha_fraction i7 true).bind fun i9 =>
          chk (decide ((l3.length + ([i9] : List Int).length) * 4 ≤ 140737488355328) && decide (l3.length + ([i9] : List Int).length ≤ maxLen))
          (some (.inr ((l3 ++ ([i9] : List Int)), l4, (IntKind.i64.wrap (i5 + 1)), (a6.set (i5).toNat i8)))))))
    ((F_sha_fraction i7 true).bind fun i10 =>
      chk (decide ((l3.length + ([i10] : List Int).length) * 4 ≤ 140737488355328) && decide (l3.length + ([i10] : List Int).length ≤ maxLen))
      (some (.inr ((l3 ++ ([i10] : List Int)), l4, (IntKind.i64.wrap (i5 + 1)), a6)))))
  (some (.inl (.inr (l3, a6))))
noncomputable def F_sha_One_L15 (s : List Int × List Int × Int × List Int) : Option (((List Int) ⊕ (List Int)) ⊕ (List Int × List Int × Int × List Int)) :=
  let l14 := s.1; let l15 := s.2.1; let i16 := s.2.2.1; let a17 := s.2.2.2
  cond (decide (i16 < (l15.length : Int)))
  ((cutI l15 i16 (IntKind.i64.wrap (i16 + 64))).bind fun l18 =>
    (F_sha_state_turned a17 l18 l14).bind fun a19 =>
    some (.inr (l14, l15, (IntKind.i64.wrap (i16 + 64)), a19)))
  (some (.inl (.inr a17)))
noncomputable def F_sha_One_L22 (a20 : List Int) (s : List Int × Int) : Option (((List Int) ⊕ (List Int)) ⊕ (List Int × Int)) :=
  let l21 := s.1; let i22 := s.2
  cond (decide (i22 < 8))
  ((getI a20 i22).bind fun i23 =>
    chk (decide ((l21.length + ([(IntKind.u8.wrap (Int.fdiv i23 (2 ^ 24))), (IntKind.u8.wrap (Int.fdiv i23 (2 ^ 16))), (IntKind.u8.wrap (Int.fdiv i23 (2 ^ 8))), (IntKind.u8.wrap i23)] : List Int).length) * 1 ≤ 140737488355328) && decide (l21.length + ([(IntKind.u8.wrap (Int.fdiv i23 (2 ^ 24))), (IntKind.u8.wrap (Int.fdiv i23 (2 ^ 16))), (IntKind.u8.wrap (Int.fdiv i23 (2 ^ 8))), (IntKind.u8.wrap i23)] : List Int).length ≤ maxLen))
    (some (.inr ((l21 ++ ([(IntKind.u8.wrap (Int.fdiv i23 (2 ^ 24))), (IntKind.u8.wrap (Int.fdiv i23 (2 ^ 16))), (IntKind.u8.wrap (Int.fdiv i23 (2 ^ 8))), (IntKind.u8.wrap i23)] : List Int)), (IntKind.i64.wrap (i22 + 1))))))
  (some (.inl (.inr l21)))
noncomputable def F_sha_One_J20 (s : List Int) : Option (List Int) :=
  let l24 := s
  some l24
noncomputable def F_sha_One_J13 (s : List Int) : Option (List Int) :=
  let a20 := s
  joinC (S := List Int) (R := List Int)
  (loopC (S := List Int × Int) (R := (List Int) ⊕ (List Int)) (F_sha_One_L22 a20) (([] : List Int), 0))
  (F_sha_One_J20)
noncomputable def F_sha_One_J3 (l1 : List Int) (s : List Int × List Int) : Option (List Int) :=
  let l11 := s.1; let a12 := s.2
  (F_sha_padded l1).bind fun l13 =>
  joinC (S := List Int) (R := List Int)
  (loopC (S := List Int × List Int × Int × List Int) (R := (List Int) ⊕ (List Int)) (F_sha_One_L15) (l11, l13, 0, a12))
  (F_sha_One_J13)
noncomputable def F_sha_One (l1 : List Int) : Option (List Int) :=
  joinC (S := List Int × List Int) (R := List Int)
  ((F_sha_primes 64).bind fun l2 =>
    loopC (S := List Int × List Int × Int × List Int) (R := (List Int) ⊕ (List Int × List Int)) (F_sha_One_L5 l2) (([] : List Int), l2, 0, (List.replicate 8 0)))
  (F_sha_One_J3 l1)
def F_sha_One_sig : Sig := ⟨[.v false [.d (.sl (.int .u8))]], [(false, [.own 5 (.int .u8)])]⟩
def F_sha_One_ann : List (Nat × Ann) := [(3, ⟨4, [(4, false, [.own 97 (.int .u32)])], [(3, [.d (.arr 8 (.int .u32))])], [5, 6, 12, 13, 14, 15, 16, 17, 18, 19, 20, 21, 22, 23, 24, 25, 26, 27, 28, 29, 30], []⟩), (5, ⟨6, [(4, false, [.own 97 (.int .u32)]), (12, false, [.own 101 (.int .u64)]), (14, false, [.d (.int .i64)])], [(3, [.d (.arr 8 (.int .u32))])], [5, 6, 15, 16, 17, 18, 19, 20, 21, 22, 23, 24, 25, 26, 27, 28, 29, 30], []⟩), (13, ⟨14, [], [(3, [.d (.arr 8 (.int .u32))])], [8, 33, 34, 35, 36, 37, 38, 39, 40, 41, 42, 43, 44, 45], []⟩), (15, ⟨16, [(4, false, [.own 97 (.int .u32)]), (7, false, [.own 5 (.int .u8)]), (8, false, [.d (.int .i64)])], [(3, [.d (.arr 8 (.int .u32))])], [33, 34, 35, 36, 37, 38, 39, 40, 41, 42, 43, 44, 45], []⟩), (20, ⟨21, [(9, false, [.own 5 (.int .u8)])], [], [11, 46, 47, 48, 49, 50, 51, 52, 53, 54, 55, 56, 57, 58, 59, 60, 61, 62, 63, 64], []⟩), (22, ⟨23, [(9, false, [.own 5 (.int .u8)]), (47, false, [.d (.int .i64)])], [], [11, 48, 49, 50, 51, 52, 53, 54, 55, 56, 57, 58, 59, 60, 61, 62, 63, 64], []⟩)]
noncomputable def F_sha_One_env : Env := ⟨Tryd.prog, [(116, ⟨F_sha_primes_sig, ⟨F_sha_primes⟩⟩), (117, ⟨F_sha_fraction_sig, ⟨F_sha_fraction⟩⟩), (118, ⟨F_sha_padded_sig, ⟨F_sha_padded⟩⟩), (119, ⟨F_sha_state_turned_sig, ⟨F_sha_state_turned⟩⟩)], []⟩
set_option maxRecDepth 100000 in
theorem F_sha_One_text : pvFn F_sha_One_env F_sha_One_ann Tryd.f85 F_sha_One_sig = F_sha_One := by kernel_rfl
noncomputable def F_sha_Equal_L7 (l1 : List Int) (l2 : List Int) (s : Int × Int) : Option (((Bool) ⊕ (Int)) ⊕ (Int × Int)) :=
  let i3 := s.1; let i4 := s.2
  cond (decide (i4 < (l1.length : Int)))
  ((getI l1 i4).bind fun i5 =>
    (getI l2 i4).bind fun i6 =>
    some (.inr ((bits .or .u8 i3 (bits .xor .u8 i5 i6)), (IntKind.i64.wrap (i4 + 1)))))
  (some (.inl (.inr i3)))
noncomputable def F_sha_Equal_J5 (s : Int) : Option (Bool) :=
  let i7 := s
  some (i7 == 0)
noncomputable def F_sha_Equal (l1 : List Int) (l2 : List Int) : Option (Bool) :=
  cond ((l1.length : Int) != (l2.length : Int))
  (some false)
  (joinC (S := Int) (R := Bool)
    (loopC (S := Int × Int) (R := (Bool) ⊕ (Int)) (F_sha_Equal_L7 l1 l2) (0, 0))
    (F_sha_Equal_J5))
def F_sha_Equal_sig : Sig := ⟨[.v false [.d (.sl (.int .u8))], .v false [.d (.sl (.int .u8))]], [(false, [.d .bool])]⟩
def F_sha_Equal_ann : List (Nat × Ann) := [(5, ⟨6, [(5, false, [.d (.int .u8)])], [], [6, 12, 13, 14, 15, 16, 17, 18, 19, 20, 21, 22, 23, 24, 25, 26, 27, 28], []⟩), (7, ⟨8, [(5, false, [.d (.int .u8)]), (14, false, [.d (.int .i64)])], [], [6, 15, 16, 17, 18, 19, 20, 21, 22, 23, 24, 25, 26, 27, 28], []⟩)]
noncomputable def F_sha_Equal_env : Env := ⟨Tryd.prog, [], []⟩
set_option maxRecDepth 100000 in
theorem F_sha_Equal_text : pvFn F_sha_Equal_env F_sha_Equal_ann Tryd.f57 F_sha_Equal_sig = F_sha_Equal := by kernel_rfl
noncomputable def F_sha_Salted (l1 : List Int) (l2 : List Int) : Option (List Int) :=
  (F_slices_Concat_byte_byte ([l1, ([0] : List Int), l2] : List (List Int))).bind fun l3 =>
  (F_sha_One l3).bind fun l4 =>
  some l4
def F_sha_Salted_sig : Sig := ⟨[.v false [.d (.sl (.int .u8))], .v false [.d (.sl (.int .u8))]], [(false, [.own 5 (.int .u8)])]⟩
def F_sha_Salted_ann : List (Nat × Ann) := []
noncomputable def F_sha_Salted_env : Env := ⟨Tryd.prog, [(85, ⟨F_sha_One_sig, ⟨F_sha_One⟩⟩), (86, ⟨F_slices_Concat_byte_byte_sig, ⟨F_slices_Concat_byte_byte⟩⟩)], []⟩
set_option maxRecDepth 100000 in
theorem F_sha_Salted_text : pvFn F_sha_Salted_env F_sha_Salted_ann Tryd.f56 F_sha_Salted_sig = F_sha_Salted := by kernel_rfl
noncomputable def F_wlvref1_primes_L11 (i3 : Int) (s : List Int × Bool × Int) : Option ((((((List Int) ⊕ (List Int)) ⊕ (List Int × Int)) ⊕ (List Int)) ⊕ (List Int × Bool)) ⊕ (List Int × Bool × Int)) :=
  let l4 := s.1; let b5 := s.2.1; let i6 := s.2.2
  cond (decide (i6 < (l4.length : Int)))
  (cond b5
    ((getI l4 i6).bind fun i7 =>
      chk (i7 != 0)
      (some (.inr (l4, ((Int.tmod i3 i7) != 0), (IntKind.i64.wrap (i6 + 1))))))
    (some (.inr (l4, false, (IntKind.i64.wrap (i6 + 1))))))
  (some (.inl (.inr (l4, b5))))
noncomputable def F_wlvref1_primes_J9 (i3 : Int) (s : List Int × Bool) : Option ((((List Int) ⊕ (List Int)) ⊕ (List Int × Int)) ⊕ (List Int)) :=
  let l8 := s.1; let b9 := s.2
  cond b9
  (chk (decide ((l8.length + ([i3] : List Int).length) * 8 ≤ 140737488355328) && decide (l8.length + ([i3] : List Int).length ≤ maxLen))
    (some (.inr (l8 ++ ([i3] : List Int)))))
  (some (.inr l8))
noncomputable def F_wlvref1_primes_J7 (i3 : Int) (s : List Int) : Option (((List Int) ⊕ (List Int)) ⊕ (List Int × Int)) :=
  let l10 := s
  some (.inr (l10, (IntKind.i64.wrap (i3 + 1))))
noncomputable def F_wlvref1_primes_L4 (i1 : Int) (s : List Int × Int) : Option (((List Int) ⊕ (List Int)) ⊕ (List Int × Int)) :=
  let l2 := s.1; let i3 := s.2
  cond (decide ((l2.length : Int) < i1))
  (joinC (S := List Int) (R := ((List Int) ⊕ (List Int)) ⊕ (List Int × Int))
    (joinC (S := List Int × Bool) (R := (((List Int) ⊕ (List Int)) ⊕ (List Int × Int)) ⊕ (List Int))
      (loopC (S := List Int × Bool × Int) (R := ((((List Int) ⊕ (List Int)) ⊕ (List Int × Int)) ⊕ (List Int)) ⊕ (List Int × Bool)) (F_wlvref1_primes_L11 i3) (l2, true, 0))
      (F_wlvref1_primes_J9 i3))
    (F_wlvref1_primes_J7 i3))
  (some (.inl (.inr l2)))
noncomputable def F_wlvref1_primes_J2 (s : List Int) : Option (List Int) :=
  let l11 := s
  some l11
noncomputable def F_wlvref1_primes (i1 : Int) : Option (List Int) :=
  joinC (S := List Int) (R := List Int)
  (loopC (S := List Int × Int) (R := (List Int) ⊕ (List Int)) (F_wlvref1_primes_L4 i1) (([] : List Int), 2))
  (F_wlvref1_primes_J2)
def F_wlvref1_primes_sig : Sig := ⟨[.v false [.d (.int .i64)]], [(false, [.own 3 (.int .i64)])]⟩
def F_wlvref1_primes_ann : List (Nat × Ann) := [(2, ⟨3, [(3, false, [.own 3 (.int .i64)])], [], [4, 5, 6, 7, 8, 9, 10, 11, 12, 13, 14, 15, 16, 17, 18, 19, 20, 21, 22, 23, 24, 25, 26, 27, 28, 29, 30, 31, 32, 33], []⟩), (4, ⟨5, [(3, false, [.own 3 (.int .i64)]), (4, false, [.d (.int .i64)])], [], [5, 6, 7, 8, 9, 10, 11, 12, 13, 14, 15, 16, 17, 18, 19, 20, 21, 22, 23, 24, 25, 26, 27, 28, 29, 30, 31, 32, 33], []⟩), (7, ⟨8, [(3, false, [.own 3 (.int .i64)])], [], [5, 6, 13, 14, 15, 16, 17, 18, 19, 20, 21, 22, 23, 24, 25, 26, 27, 28, 29, 30, 31, 32, 33], []⟩), (9, ⟨10, [(3, false, [.own 3 (.int .i64)]), (5, false, [.d .bool])], [], [6, 13, 14, 15, 16, 17, 18, 19, 20, 21, 22, 23, 24, 25, 26, 27, 28], []⟩), (11, ⟨12, [(3, false, [.own 3 (.int .i64)]), (5, false, [.d .bool]), (6, false, [.d (.int .i64)])], [], [13, 14, 15, 16, 17, 18, 19, 20, 21, 22, 23, 24, 25, 26, 27, 28], []⟩)]
noncomputable def F_wlvref1_primes_env : Env := ⟨Tryd.prog, [], []⟩
set_option maxRecDepth 100000 in
theorem F_wlvref1_primes_text : pvFn F_wlvref1_primes_env F_wlvref1_primes_ann Tryd.f87 F_wlvref1_primes_sig = F_wlvref1_primes := by kernel_rfl
noncomputable def F_wlvref1_below_L4 (l1 : List Int) (i3 : Int) (s : Int × Int) : Option (((Bool) ⊕ (Int)) ⊕ (Int × Int)) :=
  let i4 := s.1; let i5 := s.2
  cond (decide (i5 ≥ (IntKind.i64.wrap (2 * i3))))
  (cond (decide (i4 > 1099511627776))
    (some (.inl (.inl false)))
    ((getI l1 i5).bind fun i6 =>
      some (.inr ((IntKind.u64.wrap ((IntKind.u64.wrap (i4 * 2 ^ 16)) + i6)), (IntKind.i64.wrap (i5 - 1))))))
  (some (.inl (.inr i4)))
noncomputable def F_wlvref1_below_L16 (l1 : List Int) (i3 : Int) (s : Int) : Option (((Bool) ⊕ (Unit)) ⊕ (Int)) :=
  let i8 := s
  cond (decide (i8 < (IntKind.i64.wrap (2 * i3))))
  ((getI l1 i8).bind fun i9 =>
    cond (i9 != 0)
    (some (.inl (.inl false)))
    (some (.inr (IntKind.i64.wrap (i8 + 1)))))
  (some (.inl (.inr ())))
noncomputable def F_wlvref1_below_J14 (s : Unit) : Option (Bool) :=
  some true
noncomputable def F_wlvref1_below_J2 (l1 : List Int) (i2 : Int) (i3 : Int) (s : Int) : Option (Bool) :=
  let i7 := s
  cond (i7 != (IntKind.u64.wrap i2))
  (some (decide (i7 < (IntKind.u64.wrap i2))))
  (joinC (S := Unit) (R := Bool)
    (loopC (S := Int) (R := (Bool) ⊕ (Unit)) (F_wlvref1_below_L16 l1 i3) 0)
    (F_wlvref1_below_J14))
noncomputable def F_wlvref1_below (l1 : List Int) (i2 : Int) (i3 : Int) : Option (Bool) :=
  joinC (S := Int) (R := Bool)
  (loopC (S := Int × Int) (R := (Bool) ⊕ (Int)) (F_wlvref1_below_L4 l1 i3) (0, (IntKind.i64.wrap ((l1.length : Int) - 1))))
  (F_wlvref1_below_J2 l1 i2 i3)
def F_wlvref1_below_sig : Sig := ⟨[.v false [.d (.sl (.int .u64))], .v false [.d (.int .i64)], .v false [.d (.int .i64)]], [(false, [.d .bool])]⟩
def F_wlvref1_below_ann : List (Nat × Ann) := [(2, ⟨3, [(7, false, [.d (.int .u64)])], [], [6, 8, 10, 11, 12, 13, 14, 15, 16, 17, 18, 19, 20, 21, 22, 23, 24, 25, 26, 27], []⟩), (4, ⟨5, [(7, false, [.d (.int .u64)]), (8, false, [.d (.int .i64)])], [], [6, 13, 14, 15, 16, 17, 18, 19, 20, 21, 22, 23, 24, 25, 26, 27], []⟩), (14, ⟨15, [], [], [6, 9, 36, 37, 38, 39, 40, 41, 42, 43, 44, 45, 46], []⟩), (16, ⟨17, [(9, false, [.d (.int .i64)])], [], [6, 36, 37, 38, 39, 40, 41, 42, 43, 44, 45, 46], []⟩)]
noncomputable def F_wlvref1_below_env : Env := ⟨Tryd.prog, [], []⟩
set_option maxRecDepth 100000 in
theorem F_wlvref1_below_text : pvFn F_wlvref1_below_env F_wlvref1_below_ann Tryd.f121 F_wlvref1_below_sig = F_wlvref1_below := by kernel_rfl
noncomputable def F_wlvref1_times_L11 (l1 : List Int) (l2 : List Int) (i3 : Int) (s : Int × Int × List Int) : Option ((((((List Int) ⊕ (List Int)) ⊕ (Int × List Int)) ⊕ (List Int)) ⊕ (Int × List Int)) ⊕ (Int × Int × List Int)) :=
  let i5 := s.1; let i6 := s.2.1; let l7 := s.2.2
  cond (decide (i6 < (l2.length : Int)))
  (chk (decide (0 ≤ (IntKind.i64.wrap (i3 + i6))) && decide ((IntKind.i64.wrap (i3 + i6)) < ((List.length (List.replicate ((IntKind.i64.wrap ((l1.length : Int) + (l2.length : Int)))).toNat (0 : Int))) : Int)))
    ((getI l7 (IntKind.i64.wrap (i3 + i6))).bind fun i8 =>
      (getI l1 i3).bind fun i9 =>
      (getI l2 i6).bind fun i10 =>
      chk (decide (0 ≤ (IntKind.i64.wrap (i3 + i6))) && decide ((IntKind.i64.wrap (i3 + i6)) < ((List.length (List.replicate ((IntKind.i64.wrap ((l1.length : Int) + (l2.length : Int)))).toNat (0 : Int))) : Int)))
      (chk (decide ((IntKind.i64.wrap (i3 + i6)) < (l7.length : Int)))
        (some (.inr ((Int.fdiv (IntKind.u64.wrap ((IntKind.u64.wrap (i8 + (IntKind.u64.wrap (i9 * i10)))) + i5)) (2 ^ 16)), (IntKind.i64.wrap (i6 + 1)), (l7.set ((IntKind.i64.wrap (i3 + i6))).toNat (bits .and .u64 (IntKind.u64.wrap ((IntKind.u64.wrap (i8 + (IntKind.u64.wrap (i9 * i10)))) + i5)) 65535))))))))
  (some (.inl (.inr (i5, l7))))
noncomputable def F_wlvref1_times_J9 (l1 : List Int) (l2 : List Int) (i3 : Int) (s : Int × List Int) : Option ((((List Int) ⊕ (List Int)) ⊕ (Int × List Int)) ⊕ (List Int)) :=
  let i11 := s.1; let l12 := s.2
  chk (decide (0 ≤ (IntKind.i64.wrap (i3 + (l2.length : Int)))) && decide ((IntKind.i64.wrap (i3 + (l2.length : Int))) < ((List.length (List.replicate ((IntKind.i64.wrap ((l1.length : Int) + (l2.length : Int)))).toNat (0 : Int))) : Int)))
  ((getI l12 (IntKind.i64.wrap (i3 + (l2.length : Int)))).bind fun i13 =>
    chk (decide (0 ≤ (IntKind.i64.wrap (i3 + (l2.length : Int)))) && decide ((IntKind.i64.wrap (i3 + (l2.length : Int))) < ((List.length (List.replicate ((IntKind.i64.wrap ((l1.length : Int) + (l2.length : Int)))).toNat (0 : Int))) : Int)))
    (chk (decide ((IntKind.i64.wrap (i3 + (l2.length : Int))) < (l12.length : Int)))
      (some (.inr (l12.set ((IntKind.i64.wrap (i3 + (l2.length : Int)))).toNat (IntKind.u64.wrap (i13 + i11)))))))
noncomputable def F_wlvref1_times_J7 (i3 : Int) (s : List Int) : Option (((List Int) ⊕ (List Int)) ⊕ (Int × List Int)) :=
  let l14 := s
  some (.inr ((IntKind.i64.wrap (i3 + 1)), l14))
noncomputable def F_wlvref1_times_L4 (l1 : List Int) (l2 : List Int) (s : Int × List Int) : Option (((List Int) ⊕ (List Int)) ⊕ (Int × List Int)) :=
  let i3 := s.1; let l4 := s.2
  cond (decide (i3 < (l1.length : Int)))
  (joinC (S := List Int) (R := ((List Int) ⊕ (List Int)) ⊕ (Int × List Int))
    (joinC (S := Int × List Int) (R := (((List Int) ⊕ (List Int)) ⊕ (Int × List Int)) ⊕ (List Int))
      (loopC (S := Int × Int × List Int) (R := ((((List Int) ⊕ (List Int)) ⊕ (Int × List Int)) ⊕ (List Int)) ⊕ (Int × List Int)) (F_wlvref1_times_L11 l1 l2 i3) (0, 0, l4))
      (F_wlvref1_times_J9 l1 l2 i3))
    (F_wlvref1_times_J7 i3))
  (some (.inl (.inr l4)))
noncomputable def F_wlvref1_times_J2 (l1 : List Int) (l2 : List Int) (s : List Int) : Option (List Int) :=
  let l15 := s
  chk ((Nat.ble (List.length (List.replicate ((IntKind.i64.wrap ((l1.length : Int) + (l2.length : Int)))).toNat (0 : Int))) (List.length l15) && true))
  (some (List.take (List.length (List.replicate ((IntKind.i64.wrap ((l1.length : Int) + (l2.length : Int)))).toNat (0 : Int))) l15))
noncomputable def F_wlvref1_times (l1 : List Int) (l2 : List Int) : Option (List Int) :=
  chk (decide (0 ≤ (IntKind.i64.wrap ((l1.length : Int) + (l2.length : Int)))) && decide ((IntKind.i64.wrap ((l1.length : Int) + (l2.length : Int))) ≤ (IntKind.i64.wrap ((l1.length : Int) + (l2.length : Int)))) && decide ((IntKind.i64.wrap ((l1.length : Int) + (l2.length : Int))) * 8 ≤ 140737488355328) && decide ((IntKind.i64.wrap ((l1.length : Int) + (l2.length : Int))) ≤ maxLen))
  (joinC (S := List Int) (R := List Int)
    (loopC (S := Int × List Int) (R := (List Int) ⊕ (List Int)) (F_wlvref1_times_L4 l1 l2) (0, (List.replicate ((IntKind.i64.wrap ((l1.length : Int) + (l2.length : Int)))).toNat (0 : Int))))
    (F_wlvref1_times_J2 l1 l2))
def F_wlvref1_times_sig : Sig := ⟨[.v false [.d (.sl (.int .u64))], .v false [.d (.sl (.int .u64))]], [(false, [.d (.sl (.int .u64))])]⟩
def F_wlvref1_times_ann : List (Nat × Ann) := [(2, ⟨3, [], [(15, [.row (.int .u64)])], [6, 7, 8, 9, 16, 17, 18, 19, 20, 21, 22, 23, 24, 25, 26, 27, 28, 29, 30, 31, 32, 33, 34, 35, 36, 37, 38, 39, 40, 41, 42, 43, 44, 45, 46, 47, 48, 49, 50, 51, 52, 53, 54, 55, 56, 57, 58, 59, 60, 61, 62, 63, 64], []⟩), (4, ⟨5, [(6, false, [.d (.int .i64)])], [(15, [.row (.int .u64)])], [7, 8, 9, 16, 17, 18, 19, 20, 21, 22, 23, 24, 25, 26, 27, 28, 29, 30, 31, 32, 33, 34, 35, 36, 37, 38, 39, 40, 41, 42, 43, 44, 45, 46, 47, 48, 49, 50, 51, 52, 53, 54, 55, 56, 57, 58, 59, 60, 61, 62, 63, 64], []⟩), (7, ⟨8, [], [(15, [.row (.int .u64)])], [7, 8, 9, 22, 23, 24, 25, 26, 27, 28, 29, 30, 31, 32, 33, 34, 35, 36, 37, 38, 39, 40, 41, 42, 43, 44, 45, 46, 47, 48, 49, 50, 51, 52, 53, 54, 55, 56, 57, 58, 59, 60, 61, 62, 63, 64], []⟩), (9, ⟨10, [(7, false, [.d (.int .u64)])], [(15, [.row (.int .u64)])], [8, 9, 22, 23, 24, 25, 26, 27, 28, 29, 30, 31, 32, 33, 34, 35, 36, 37, 38, 39, 40, 41, 42, 43, 44, 45, 46, 47, 48, 49, 50, 51, 52, 53, 54], []⟩), (11, ⟨12, [(7, false, [.d (.int .u64)]), (8, false, [.d (.int .i64)])], [(15, [.row (.int .u64)])], [9, 22, 23, 24, 25, 26, 27, 28, 29, 30, 31, 32, 33, 34, 35, 36, 37, 38, 39, 40, 41, 42, 43, 44, 45, 46, 47, 48, 49, 50, 51, 52, 53, 54], []⟩)]
noncomputable def F_wlvref1_times_env : Env := ⟨Tryd.prog, [], [15]⟩
set_option maxRecDepth 100000 in
theorem F_wlvref1_times_text : pvFn F_wlvref1_times_env F_wlvref1_times_ann Tryd.f154 F_wlvref1_times_sig = F_wlvref1_times := by kernel_rfl
noncomputable def F_wlvref1_power_L5 (i2 : Int) (s : List Int × List Int × Int) : Option (((List Int) ⊕ (List Int)) ⊕ (List Int × List Int × Int)) :=
  let l3 := s.1; let l4 := s.2.1; let i5 := s.2.2
  cond (decide (i5 < i2))
  ((F_wlvref1_times l3 l4).bind fun l6 =>
    some (.inr (l6, l4, (IntKind.i64.wrap (i5 + 1)))))
  (some (.inl (.inr l3)))
noncomputable def F_wlvref1_power_J3 (s : List Int) : Option (List Int) :=
  let l7 := s
  some l7
noncomputable def F_wlvref1_power (i1 : Int) (i2 : Int) : Option (List Int) :=
  joinC (S := List Int) (R := List Int)
  (loopC (S := List Int × List Int × Int) (R := (List Int) ⊕ (List Int)) (F_wlvref1_power_L5 i2) (([1] : List Int), ([(bits .and .u64 i1 65535), (bits .and .u64 (Int.fdiv i1 (2 ^ 16)) 65535), (Int.fdiv i1 (2 ^ 32))] : List Int), 0))
  (F_wlvref1_power_J3)
def F_wlvref1_power_sig : Sig := ⟨[.v false [.d (.int .u64)], .v false [.d (.int .i64)]], [(false, [.d (.sl (.int .u64))])]⟩
def F_wlvref1_power_ann : List (Nat × Ann) := [(3, ⟨4, [(5, false, [.d (.sl (.int .u64))])], [], [7, 17, 18, 19, 20, 21, 22, 23, 24], []⟩), (5, ⟨6, [(5, false, [.d (.sl (.int .u64))]), (6, false, [.own 101 (.int .u64)]), (7, false, [.d (.int .i64)])], [], [17, 18, 19, 20, 21, 22, 23, 24], []⟩)]
noncomputable def F_wlvref1_power_env : Env := ⟨Tryd.prog, [(154, ⟨F_wlvref1_times_sig, ⟨F_wlvref1_times⟩⟩)], []⟩
set_option maxRecDepth 100000 in
theorem F_wlvref1_power_text : pvFn F_wlvref1_power_env F_wlvref1_power_ann Tryd.f122 F_wlvref1_power_sig = F_wlvref1_power := by kernel_rfl
noncomputable def F_wlvref1_root_L4 (i1 : Int) (i2 : Int) (s : Int × Int) : Option (((Int) ⊕ (Int)) ⊕ (Int × Int)) :=
  let i3 := s.1; let i4 := s.2
  cond (decide (i4 ≥ 0))
  (chk (decide (0 ≤ (IntKind.u64.wrap i4)))
    ((F_wlvref1_power (bits .or .u64 i3 (IntKind.u64.wrap (1 * 2 ^ (min ((IntKind.u64.wrap i4)).toNat 64)))) i2).bind fun l5 =>
      (F_wlvref1_below l5 i1 i2).bind fun b6 =>
      cond b6
      (some (.inr ((bits .or .u64 i3 (IntKind.u64.wrap (1 * 2 ^ (min ((IntKind.u64.wrap i4)).toNat 64)))), (IntKind.i64.wrap (i4 - 1)))))
      (some (.inr (i3, (IntKind.i64.wrap (i4 - 1)))))))
  (some (.inl (.inr i3)))
noncomputable def F_wlvref1_root_J2 (s : Int) : Option (Int) :=
  let i7 := s
  some (IntKind.u32.wrap i7)
noncomputable def F_wlvref1_root (i1 : Int) (i2 : Int) : Option (Int) :=
  joinC (S := Int) (R := Int)
  (loopC (S := Int × Int) (R := (Int) ⊕ (Int)) (F_wlvref1_root_L4 i1 i2) (0, 36))
  (F_wlvref1_root_J2)
def F_wlvref1_root_sig : Sig := ⟨[.v false [.d (.int .i64)], .v false [.d (.int .i64)]], [(false, [.d (.int .u32)])]⟩
def F_wlvref1_root_ann : List (Nat × Ann) := [(2, ⟨3, [(5, false, [.d (.int .u64)])], [], [6, 7, 8, 9, 10, 11, 12, 13, 14, 15, 16, 17, 18, 19, 20, 21, 22, 23], []⟩), (4, ⟨5, [(5, false, [.d (.int .u64)]), (6, false, [.d (.int .i64)])], [], [7, 8, 9, 10, 11, 12, 13, 14, 15, 16, 17, 18, 19, 20, 21, 22, 23], []⟩)]
noncomputable def F_wlvref1_root_env : Env := ⟨Tryd.prog, [(121, ⟨F_wlvref1_below_sig, ⟨F_wlvref1_below⟩⟩), (122, ⟨F_wlvref1_power_sig, ⟨F_wlvref1_power⟩⟩)], []⟩
set_option maxRecDepth 100000 in
theorem F_wlvref1_root_text : pvFn F_wlvref1_root_env F_wlvref1_root_ann Tryd.f88 F_wlvref1_root_sig = F_wlvref1_root := by kernel_rfl
noncomputable def F_wlvref1_turn (i1 : Int) (i2 : Int) : Option (Int) :=
  chk (decide (0 ≤ (IntKind.u64.wrap i2)))
  (chk (decide (0 ≤ (IntKind.u64.wrap (IntKind.i64.wrap (32 - i2)))))
    (some (bits .or .u32 (Int.fdiv i1 (2 ^ (min ((IntKind.u64.wrap i2)).toNat 32))) (IntKind.u32.wrap (i1 * 2 ^ (min ((IntKind.u64.wrap (IntKind.i64.wrap (32 - i2)))).toNat 32))))))
def F_wlvref1_turn_sig : Sig := ⟨[.v false [.d (.int .u32)], .v false [.d (.int .i64)]], [(false, [.d (.int .u32)])]⟩
def F_wlvref1_turn_ann : List (Nat × Ann) := []
noncomputable def F_wlvref1_turn_env : Env := ⟨Tryd.prog, [], []⟩
set_option maxRecDepth 100000 in
theorem F_wlvref1_turn_text : pvFn F_wlvref1_turn_env F_wlvref1_turn_ann Tryd.f123 F_wlvref1_turn_sig = F_wlvref1_turn := by kernel_rfl
noncomputable def F_wlvref1_block_L4 (l3 : List Int) (s : Int × List Int × List Int × List Int × List Int) : Option (((List Int) ⊕ (List Int × List Int × List Int × List Int)) ⊕ (Int × List Int × List Int × List Int × List Int)) :=
  let i4 := s.1; let a5 := s.2.1; let a6 := s.2.2.1; let a7 := s.2.2.2.1; let a8 := s.2.2.2.2
  cond (decide (i4 < 64))
  (cond (decide (i4 < 16))
    ((getI l3 (IntKind.i64.wrap (4 * i4))).bind fun i9 =>
      (getI l3 (IntKind.i64.wrap ((IntKind.i64.wrap (4 * i4)) + 1))).bind fun i10 =>
      (getI l3 (IntKind.i64.wrap ((IntKind.i64.wrap (4 * i4)) + 2))).bind fun i11 =>
      (getI l3 (IntKind.i64.wrap ((IntKind.i64.wrap (4 * i4)) + 3))).bind fun i12 =>
      chk (decide (0 ≤ i4) && decide (i4 < (64 : Int)))
      (chk (decide (i4 < (64 : Int)))
        (some (.inr ((IntKind.i64.wrap (i4 + 1)), a5, a6, a7, (a8.set (i4).toNat (bits .or .u32 (bits .or .u32 (bits .or .u32 (IntKind.u32.wrap ((IntKind.u32.wrap i9) * 2 ^ 24)) (IntKind.u32.wrap ((IntKind.u32.wrap i10) * 2 ^ 16))) (IntKind.u32.wrap ((IntKind.u32.wrap i11) * 2 ^ 8))) (IntKind.u32.wrap i12))))))))
    (chk (decide (0 ≤ (IntKind.i64.wrap (i4 - 15))) && decide ((IntKind.i64.wrap (i4 - 15)) < (64 : Int)))
      ((getI a8 (IntKind.i64.wrap (i4 - 15))).bind fun i13 =>
        chk (decide (0 ≤ (IntKind.i64.wrap (i4 - 2))) && decide ((IntKind.i64.wrap (i4 - 2)) < (64 : Int)))
        ((getI a8 (IntKind.i64.wrap (i4 - 2))).bind fun i14 =>
          chk (decide (0 ≤ (IntKind.i64.wrap (i4 - 16))) && decide ((IntKind.i64.wrap (i4 - 16)) < (64 : Int)))
          ((getI a8 (IntKind.i64.wrap (i4 - 16))).bind fun i15 =>
            (F_wlvref1_turn i13 7).bind fun i16 =>
            (F_wlvref1_turn i13 18).bind fun i17 =>
            chk (decide (0 ≤ (IntKind.i64.wrap (i4 - 7))) && decide ((IntKind.i64.wrap (i4 - 7)) < (64 : Int)))
            ((getI a8 (IntKind.i64.wrap (i4 - 7))).bind fun i18 =>
              (F_wlvref1_turn i14 17).bind fun i19 =>
              (F_wlvref1_turn i14 19).bind fun i20 =>
              chk (decide (0 ≤ i4) && decide (i4 < (64 : Int)))
              (chk (decide (i4 < (64 : Int)))
                (some (.inr ((IntKind.i64.wrap (i4 + 1)), a5, a6, a7, (a8.set (i4).toNat (IntKind.u32.wrap ((IntKind.u32.wrap ((IntKind.u32.wrap (i15 + (bits .xor .u32 (bits .xor .u32 i16 i17) (Int.fdiv i13 (2 ^ 3))))) + i18)) + (bits .xor .u32 (bits .xor .u32 i19 i20) (Int.fdiv i14 (2 ^ 10))))))))))))))))
  (some (.inl (.inr (a5, a6, a7, a8))))
noncomputable def F_wlvref1_block_L15 (s : Int × List Int × List Int × List Int × List Int × List Int) : Option (((List Int) ⊕ (List Int × List Int × List Int)) ⊕ (Int × List Int × List Int × List Int × List Int × List Int)) :=
  let i25 := s.1; let a26 := s.2.1; let a27 := s.2.2.1; let a28 := s.2.2.2.1; let a29 := s.2.2.2.2.1; let a30 := s.2.2.2.2.2
  cond (decide (i25 < 64))
  ((getI a30 (0 : Int)).bind fun i31 =>
    (getI a30 (4 : Int)).bind fun i32 =>
    (getI a30 (7 : Int)).bind fun i33 =>
    (F_wlvref1_turn i32 6).bind fun i34 =>
    (F_wlvref1_turn i32 11).bind fun i35 =>
    (F_wlvref1_turn i32 25).bind fun i36 =>
    (getI a30 (5 : Int)).bind fun i37 =>
    (getI a30 (6 : Int)).bind fun i38 =>
    chk (decide (0 ≤ i25) && decide (i25 < (64 : Int)))
    ((getI a27 i25).bind fun i39 =>
      chk (decide (0 ≤ i25) && decide (i25 < (64 : Int)))
      ((getI a29 i25).bind fun i40 =>
        (F_wlvref1_turn i31 2).bind fun i41 =>
        (F_wlvref1_turn i31 13).bind fun i42 =>
        (F_wlvref1_turn i31 22).bind fun i43 =>
        (getI a30 (1 : Int)).bind fun i44 =>
        (getI a30 (2 : Int)).bind fun i45 =>
        (getI a30 (1 : Int)).bind fun i46 =>
        (getI a30 (2 : Int)).bind fun i47 =>
        (getI a30 (1 : Int)).bind fun i48 =>
        (getI a30 (2 : Int)).bind fun i49 =>
        (getI a30 (3 : Int)).bind fun i50 =>
        (getI a30 (5 : Int)).bind fun i51 =>
        (getI a30 (6 : Int)).bind fun i52 =>
        some (.inr ((IntKind.i64.wrap (i25 + 1)), a26, a27, a28, a29, [(IntKind.u32.wrap ((IntKind.u32.wrap ((IntKind.u32.wrap ((IntKind.u32.wrap ((IntKind.u32.wrap (i33 + (bits .xor .u32 (bits .xor .u32 i34 i35) i36))) + (bits .xor .u32 (bits .and .u32 i32 i37) (bits .and .u32 (bits .xor .u32 4294967295 i32) i38)))) + i39)) + i40)) + (IntKind.u32.wrap ((bits .xor .u32 (bits .xor .u32 i41 i42) i43) + (bits .xor .u32 (bits .xor .u32 (bits .and .u32 i31 i44) (bits .and .u32 i31 i45)) (bits .and .u32 i46 i47)))))), i31, i48, i49, (IntKind.u32.wrap (i50 + (IntKind.u32.wrap ((IntKind.u32.wrap ((IntKind.u32.wrap ((IntKind.u32.wrap (i33 + (bits .xor .u32 (bits .xor .u32 i34 i35) i36))) + (bits .xor .u32 (bits .and .u32 i32 i37) (bits .and .u32 (bits .xor .u32 4294967295 i32) i38)))) + i39)) + i40)))), i32, i51, i52])))))
  (some (.inl (.inr (a26, a28, a30))))
noncomputable def F_wlvref1_block_L24 (s : Int × List Int × List Int × List Int) : Option (((List Int) ⊕ (List Int × List Int)) ⊕ (Int × List Int × List Int × List Int)) :=
  let i56 := s.1; let a57 := s.2.1; let a58 := s.2.2.1; let a59 := s.2.2.2
  cond (decide (i56 < 8))
  (chk (decide (0 ≤ i56) && decide (i56 < (8 : Int)))
    ((getI a57 i56).bind fun i60 =>
      chk (decide (0 ≤ i56) && decide (i56 < (8 : Int)))
      ((getI a59 i56).bind fun i61 =>
        chk (decide (0 ≤ i56) && decide (i56 < (8 : Int)))
        (chk (decide (i56 < (8 : Int)))
          (some (.inr ((IntKind.i64.wrap (i56 + 1)), (a57.set (i56).toNat (IntKind.u32.wrap (i60 + i61))), a58, a59)))))))
  (some (.inl (.inr (a57, a58))))
noncomputable def F_wlvref1_block_J22 (s : List Int × List Int) : Option (List Int) :=
  let a62 := s.1; let a63 := s.2
  some a62
noncomputable def F_wlvref1_block_J13 (s : List Int × List Int × List Int) : Option (List Int) :=
  let a53 := s.1; let a54 := s.2.1; let a55 := s.2.2
  joinC (S := List Int × List Int) (R := List Int)
  (loopC (S := Int × List Int × List Int × List Int) (R := (List Int) ⊕ (List Int × List Int)) (F_wlvref1_block_L24) (0, a53, a54, a55))
  (F_wlvref1_block_J22)
noncomputable def F_wlvref1_block_J2 (s : List Int × List Int × List Int × List Int) : Option (List Int) :=
  let a21 := s.1; let a22 := s.2.1; let a23 := s.2.2.1; let a24 := s.2.2.2
  joinC (S := List Int × List Int × List Int) (R := List Int)
  (loopC (S := Int × List Int × List Int × List Int × List Int × List Int) (R := (List Int) ⊕ (List Int × List Int × List Int)) (F_wlvref1_block_L15) (0, a21, a22, a23, a24, a21))
  (F_wlvref1_block_J13)
noncomputable def F_wlvref1_block (a1 : List Int) (a2 : List Int) (l3 : List Int) : Option (List Int) :=
  joinC (S := List Int × List Int × List Int × List Int) (R := List Int)
  (loopC (S := Int × List Int × List Int × List Int × List Int) (R := (List Int) ⊕ (List Int × List Int × List Int × List Int)) (F_wlvref1_block_L4 l3) (0, a1, a2, (List.replicate 8 0), (List.replicate 64 0)))
  (F_wlvref1_block_J2)
def F_wlvref1_block_sig : Sig := ⟨[.v true [.d (.arr 8 (.int .u32))], .v true [.d (.arr 64 (.int .u32))], .v false [.d (.sl (.int .u8))]], [(true, [.d (.arr 8 (.int .u32))])]⟩
def F_wlvref1_block_ann : List (Nat × Ann) := [(2, ⟨3, [], [(3, [.d (.arr 8 (.int .u32))]), (4, [.d (.arr 64 (.int .u32))]), (6, [.d (.arr 8 (.int .u32))]), (7, [.d (.arr 64 (.int .u32))])], [8, 9, 10, 18, 19, 20, 21, 22, 23, 24, 25, 26, 27, 28, 29, 30, 31, 32, 33, 34, 35, 36, 37, 38, 39, 40, 41, 42, 43, 44, 45, 46, 47, 48, 49, 50, 51, 52, 53, 54, 55, 56, 57, 58, 59, 60, 61, 62, 63, 64, 65, 66, 67, 68, 69, 70, 71, 72, 73, 74, 75, 76, 77, 78, 79, 80, 81, 82, 83, 84, 85, 86, 87, 88, 89, 90, 91, 92, 93, 94, 95], []⟩), (4, ⟨5, [(8, false, [.d (.int .i64)])], [(3, [.d (.arr 8 (.int .u32))]), (4, [.d (.arr 64 (.int .u32))]), (6, [.d (.arr 8 (.int .u32))]), (7, [.d (.arr 64 (.int .u32))])], [9, 10, 18, 19, 20, 21, 22, 23, 24, 25, 26, 27, 28, 29, 30, 31, 32, 33, 34, 35, 36, 37, 38, 39, 40, 41, 42, 43, 44, 45, 46, 47, 48, 49, 50, 51, 52, 53, 54, 55, 56, 57, 58, 59, 60, 61, 62, 63, 64, 65, 66, 67, 68, 69, 70, 71, 72, 73, 74, 75, 76, 77, 78, 79, 80, 81, 82, 83, 84, 85, 86, 87, 88, 89, 90, 91, 92, 93, 94, 95], []⟩), (13, ⟨14, [], [(3, [.d (.arr 8 (.int .u32))]), (6, [.d (.arr 8 (.int .u32))]), (11, [.d (.arr 8 (.int .u32))])], [12, 13, 14, 15, 16, 97, 98, 99, 100, 101, 102, 103, 104, 105, 106, 107, 108, 109, 110, 111, 112, 113, 114, 115, 116, 117, 118, 119, 120, 121, 122, 123, 124, 125, 126, 127, 128, 129, 130, 131, 132, 133, 134, 135, 136, 137, 138, 139, 140, 141, 142, 143, 144, 145, 146, 147, 148, 149, 150, 151, 152, 153, 154, 155, 156, 157, 158, 159, 160, 161, 162, 163, 164, 165, 166, 167, 168, 169, 170, 171, 172, 173, 174, 175, 176], []⟩), (15, ⟨16, [(12, false, [.d (.int .i64)])], [(3, [.d (.arr 8 (.int .u32))]), (4, [.d (.arr 64 (.int .u32))]), (6, [.d (.arr 8 (.int .u32))]), (7, [.d (.arr 64 (.int .u32))]), (11, [.d (.arr 8 (.int .u32))])], [13, 14, 15, 16, 97, 98, 99, 100, 101, 102, 103, 104, 105, 106, 107, 108, 109, 110, 111, 112, 113, 114, 115, 116, 117, 118, 119, 120, 121, 122, 123, 124, 125, 126, 127, 128, 129, 130, 131, 132, 133, 134, 135, 136, 137, 138, 139, 140, 141, 142, 143, 144, 145, 146, 147, 148, 149, 150, 151, 152, 153, 154, 155, 156, 157, 158, 159, 160, 161, 162, 163, 164, 165, 166, 167, 168, 169, 170, 171, 172, 173, 174, 175, 176], []⟩), (22, ⟨23, [], [(3, [.d (.arr 8 (.int .u32))]), (6, [.d (.arr 8 (.int .u32))])], [17, 177, 178, 179, 180, 181, 182, 183, 184, 185, 186, 187, 188], []⟩), (24, ⟨25, [(17, false, [.d (.int .i64)])], [(3, [.d (.arr 8 (.int .u32))]), (6, [.d (.arr 8 (.int .u32))]), (11, [.d (.arr 8 (.int .u32))])], [177, 178, 179, 180, 181, 182, 183, 184, 185, 186, 187, 188], []⟩)]
noncomputable def F_wlvref1_block_env : Env := ⟨Tryd.prog, [(123, ⟨F_wlvref1_turn_sig, ⟨F_wlvref1_turn⟩⟩)], []⟩
set_option maxRecDepth 100000 in
theorem F_wlvref1_block_text : pvFn F_wlvref1_block_env F_wlvref1_block_ann Tryd.f89 F_wlvref1_block_sig = F_wlvref1_block := by kernel_rfl
noncomputable def F_wlvref1_One_L6 (s : List Int × Int × List Int × List Int) : Option (((List Int) ⊕ (List Int × List Int × List Int)) ⊕ (List Int × Int × List Int × List Int)) :=
  let l3 := s.1; let i4 := s.2.1; let a5 := s.2.2.1; let a6 := s.2.2.2
  cond (decide (i4 < 64))
  ((getI l3 i4).bind fun i7 =>
    (F_wlvref1_root i7 3).bind fun i8 =>
    chk (decide (0 ≤ i4) && decide (i4 < (64 : Int)))
    (chk (decide (i4 < (64 : Int)))
      (some (.inr (l3, (IntKind.i64.wrap (i4 + 1)), (a5.set (i4).toNat i8), a6)))))
  (some (.inl (.inr (l3, a5, a6))))
noncomputable def F_wlvref1_One_L12 (s : List Int × Int × List Int × List Int) : Option (((List Int) ⊕ (List Int × List Int)) ⊕ (List Int × Int × List Int × List Int)) :=
  let l12 := s.1; let i13 := s.2.1; let a14 := s.2.2.1; let a15 := s.2.2.2
  cond (decide (i13 < 8))
  ((getI l12 i13).bind fun i16 =>
    (F_wlvref1_root i16 2).bind fun i17 =>
    chk (decide (0 ≤ i13) && decide (i13 < (8 : Int)))
    (chk (decide (i13 < (8 : Int)))
      (some (.inr (l12, (IntKind.i64.wrap (i13 + 1)), a14, (a15.set (i13).toNat i17))))))
  (some (.inl (.inr (a14, a15))))
noncomputable def F_wlvref1_One_L18 (s : List Int × List Int × List Int) : Option (((List Int) ⊕ (List Int × List Int × List Int)) ⊕ (List Int × List Int × List Int)) :=
  let l20 := s.1; let a21 := s.2.1; let a22 := s.2.2
  cond ((Int.tmod (l20.length : Int) 64) != 56)
  (chk (decide ((l20.length + ([0] : List Int).length) * 1 ≤ 140737488355328) && decide (l20.length + ([0] : List Int).length ≤ maxLen))
    (some (.inr ((l20 ++ ([0] : List Int)), a21, a22))))
  (some (.inl (.inr (l20, a21, a22))))
noncomputable def F_wlvref1_One_L23 (l1 : List Int) (s : List Int × Int × List Int × List Int) : Option (((List Int) ⊕ (List Int × List Int × List Int)) ⊕ (List Int × Int × List Int × List Int)) :=
  let l26 := s.1; let i27 := s.2.1; let a28 := s.2.2.1; let a29 := s.2.2.2
  cond (decide (i27 ≥ 0))
  (chk (decide (0 ≤ (IntKind.u64.wrap (IntKind.i64.wrap (8 * i27)))))
    (chk (decide ((l26.length + ([(IntKind.u8.wrap (Int.fdiv (IntKind.u64.wrap ((IntKind.u64.wrap (l1.length : Int)) * 8)) (2 ^ (min ((IntKind.u64.wrap (IntKind.i64.wrap (8 * i27)))).toNat 64))))] : List Int).length) * 1 ≤ 140737488355328) && decide (l26.length + ([(IntKind.u8.wrap (Int.fdiv (IntKind.u64.wrap ((IntKind.u64.wrap (l1.length : Int)) * 8)) (2 ^ (min ((IntKind.u64.wrap (IntKind.i64.wrap (8 * i27)))).toNat 64))))] : List Int).length ≤ maxLen))
      (some (.inr ((l26 ++ ([(IntKind.u8.wrap (Int.fdiv (IntKind.u64.wrap ((IntKind.u64.wrap (l1.length : Int)) * 8)) (2 ^ (min ((IntKind.u64.wrap (IntKind.i64.wrap (8 * i27)))).toNat 64))))] : List Int)), (IntKind.i64.wrap (i27 - 1)), a28, a29)))))
  (some (.inl (.inr (l26, a28, a29))))
noncomputable def F_wlvref1_One_L29 (s : List Int × Int × List Int × List Int) : Option (((List Int) ⊕ (List Int)) ⊕ (List Int × Int × List Int × List Int)) :=
  let l33 := s.1; let i34 := s.2.1; let a35 := s.2.2.1; let a36 := s.2.2.2
  cond (decide (i34 < (l33.length : Int)))
  ((cutI l33 i34 (IntKind.i64.wrap (i34 + 64))).bind fun l37 =>
    (F_wlvref1_block a36 a35 l37).bind fun a38 =>
    some (.inr (l33, (IntKind.i64.wrap (i34 + 64)), a35, a38)))
  (some (.inl (.inr a36)))
noncomputable def F_wlvref1_One_L36 (s : List Int × Int × List Int) : Option (((List Int) ⊕ (List Int)) ⊕ (List Int × Int × List Int)) :=
  let l40 := s.1; let i41 := s.2.1; let a42 := s.2.2
  cond (decide (i41 < 8))
  (chk (decide (0 ≤ i41) && decide (i41 < (8 : Int)))
    ((getI a42 i41).bind fun i43 =>
      chk (decide (0 ≤ i41) && decide (i41 < (8 : Int)))
      ((getI a42 i41).bind fun i44 =>
        chk (decide (0 ≤ i41) && decide (i41 < (8 : Int)))
        ((getI a42 i41).bind fun i45 =>
          chk (decide (0 ≤ i41) && decide (i41 < (8 : Int)))
          ((getI a42 i41).bind fun i46 =>
            chk (decide ((l40.length + ([(IntKind.u8.wrap (Int.fdiv i43 (2 ^ 24))), (IntKind.u8.wrap (Int.fdiv i44 (2 ^ 16))), (IntKind.u8.wrap (Int.fdiv i45 (2 ^ 8))), (IntKind.u8.wrap i46)] : List Int).length) * 1 ≤ 140737488355328) && decide (l40.length + ([(IntKind.u8.wrap (Int.fdiv i43 (2 ^ 24))), (IntKind.u8.wrap (Int.fdiv i44 (2 ^ 16))), (IntKind.u8.wrap (Int.fdiv i45 (2 ^ 8))), (IntKind.u8.wrap i46)] : List Int).length ≤ maxLen))
            (some (.inr ((l40 ++ ([(IntKind.u8.wrap (Int.fdiv i43 (2 ^ 24))), (IntKind.u8.wrap (Int.fdiv i44 (2 ^ 16))), (IntKind.u8.wrap (Int.fdiv i45 (2 ^ 8))), (IntKind.u8.wrap i46)] : List Int)), (IntKind.i64.wrap (i41 + 1)), a42))))))))
  (some (.inl (.inr l40)))
noncomputable def F_wlvref1_One_J34 (s : List Int) : Option (List Int) :=
  let l47 := s
  some l47
noncomputable def F_wlvref1_One_J27 (s : List Int) : Option (List Int) :=
  let a39 := s
  joinC (S := List Int) (R := List Int)
  (loopC (S := List Int × Int × List Int) (R := (List Int) ⊕ (List Int)) (F_wlvref1_One_L36) (([] : List Int), 0, a39))
  (F_wlvref1_One_J34)
noncomputable def F_wlvref1_One_J21 (s : List Int × List Int × List Int) : Option (List Int) :=
  let l30 := s.1; let a31 := s.2.1; let a32 := s.2.2
  joinC (S := List Int) (R := List Int)
  (loopC (S := List Int × Int × List Int × List Int) (R := (List Int) ⊕ (List Int)) (F_wlvref1_One_L29) (l30, 0, a31, a32))
  (F_wlvref1_One_J27)
noncomputable def F_wlvref1_One_J17 (l1 : List Int) (s : List Int × List Int × List Int) : Option (List Int) :=
  let l23 := s.1; let a24 := s.2.1; let a25 := s.2.2
  joinC (S := List Int × List Int × List Int) (R := List Int)
  (loopC (S := List Int × Int × List Int × List Int) (R := (List Int) ⊕ (List Int × List Int × List Int)) (F_wlvref1_One_L23 l1) (l23, 7, a24, a25))
  (F_wlvref1_One_J21)
noncomputable def F_wlvref1_One_J10 (l1 : List Int) (s : List Int × List Int) : Option (List Int) :=
  let a18 := s.1; let a19 := s.2
  chk (decide ((([] : List Int).length + l1.length) * 1 ≤ 140737488355328) && decide (([] : List Int).length + l1.length ≤ maxLen))
  (chk (decide (((([] : List Int) ++ l1).length + ([128] : List Int).length) * 1 ≤ 140737488355328) && decide ((([] : List Int) ++ l1).length + ([128] : List Int).length ≤ maxLen))
    (joinC (S := List Int × List Int × List Int) (R := List Int)
      (loopC (S := List Int × List Int × List Int) (R := (List Int) ⊕ (List Int × List Int × List Int)) (F_wlvref1_One_L18) (((([] : List Int) ++ l1) ++ ([128] : List Int)), a18, a19))
      (F_wlvref1_One_J17 l1)))
noncomputable def F_wlvref1_One_J4 (l1 : List Int) (s : List Int × List Int × List Int) : Option (List Int) :=
  let l9 := s.1; let a10 := s.2.1; let a11 := s.2.2
  joinC (S := List Int × List Int) (R := List Int)
  (loopC (S := List Int × Int × List Int × List Int) (R := (List Int) ⊕ (List Int × List Int)) (F_wlvref1_One_L12) (l9, 0, a10, a11))
  (F_wlvref1_One_J10 l1)
noncomputable def F_wlvref1_One (l1 : List Int) : Option (List Int) :=
  (F_wlvref1_primes 64).bind fun l2 =>
  joinC (S := List Int × List Int × List Int) (R := List Int)
  (loopC (S := List Int × Int × List Int × List Int) (R := (List Int) ⊕ (List Int × List Int × List Int)) (F_wlvref1_One_L6) (l2, 0, (List.replicate 64 0), (List.replicate 8 0)))
  (F_wlvref1_One_J4 l1)
def F_wlvref1_One_sig : Sig := ⟨[.v false [.d (.sl (.int .u8))]], [(false, [.own 5 (.int .u8)])]⟩
def F_wlvref1_One_ann : List (Nat × Ann) := [(4, ⟨5, [(3, false, [.own 3 (.int .i64)])], [(4, [.d (.arr 64 (.int .u32))]), (5, [.d (.arr 8 (.int .u32))])], [6, 14, 15, 16, 17, 18, 19, 20, 21, 22, 23, 24], []⟩), (6, ⟨7, [(3, false, [.own 3 (.int .i64)]), (6, false, [.d (.int .i64)])], [(4, [.d (.arr 64 (.int .u32))]), (5, [.d (.arr 8 (.int .u32))])], [14, 15, 16, 17, 18, 19, 20, 21, 22, 23, 24], []⟩), (10, ⟨11, [], [(4, [.d (.arr 64 (.int .u32))]), (5, [.d (.arr 8 (.int .u32))])], [7, 25, 26, 27, 28, 29, 30, 31, 32, 33, 34, 35], []⟩), (12, ⟨13, [(3, false, [.own 3 (.int .i64)]), (7, false, [.d (.int .i64)])], [(4, [.d (.arr 64 (.int .u32))]), (5, [.d (.arr 8 (.int .u32))])], [25, 26, 27, 28, 29, 30, 31, 32, 33, 34, 35], []⟩), (17, ⟨18, [(8, false, [.own 5 (.int .u8)])], [(4, [.d (.arr 64 (.int .u32))]), (5, [.d (.arr 8 (.int .u32))])], [41, 42, 43, 44, 45, 46, 47], []⟩), (18, ⟨19, [(8, false, [.own 5 (.int .u8)])], [(4, [.d (.arr 64 (.int .u32))]), (5, [.d (.arr 8 (.int .u32))])], [41, 42, 43, 44, 45, 46, 47], []⟩), (21, ⟨22, [(8, false, [.own 5 (.int .u8)])], [(4, [.d (.arr 64 (.int .u32))]), (5, [.d (.arr 8 (.int .u32))])], [9, 48, 49, 50, 51, 52, 53, 54, 55, 56, 57, 58, 59, 60, 61, 62, 63], []⟩), (23, ⟨24, [(8, false, [.own 5 (.int .u8)]), (9, false, [.d (.int .i64)])], [(4, [.d (.arr 64 (.int .u32))]), (5, [.d (.arr 8 (.int .u32))])], [48, 49, 50, 51, 52, 53, 54, 55, 56, 57, 58, 59, 60, 61, 62, 63], []⟩), (27, ⟨28, [], [(5, [.d (.arr 8 (.int .u32))])], [10, 64, 65, 66, 67, 68, 69, 70, 71, 72, 73, 74, 75, 76, 77], []⟩), (29, ⟨30, [(8, false, [.own 5 (.int .u8)]), (10, false, [.d (.int .i64)])], [(4, [.d (.arr 64 (.int .u32))]), (5, [.d (.arr 8 (.int .u32))])], [64, 65, 66, 67, 68, 69, 70, 71, 72, 73, 74, 75, 76, 77], []⟩), (34, ⟨35, [(11, false, [.own 5 (.int .u8)])], [], [12, 78, 79, 80, 81, 82, 83, 84, 85, 86, 87, 88, 89, 90, 91, 92, 93, 94, 95, 96, 97, 98, 99, 100, 101, 102, 103], []⟩), (36, ⟨37, [(11, false, [.own 5 (.int .u8)]), (12, false, [.d (.int .i64)])], [(5, [.d (.arr 8 (.int .u32))])], [78, 79, 80, 81, 82, 83, 84, 85, 86, 87, 88, 89, 90, 91, 92, 93, 94, 95, 96, 97, 98, 99, 100, 101, 102, 103], []⟩)]
noncomputable def F_wlvref1_One_env : Env := ⟨Tryd.prog, [(87, ⟨F_wlvref1_primes_sig, ⟨F_wlvref1_primes⟩⟩), (88, ⟨F_wlvref1_root_sig, ⟨F_wlvref1_root⟩⟩), (89, ⟨F_wlvref1_block_sig, ⟨F_wlvref1_block⟩⟩)], []⟩
set_option maxRecDepth 100000 in
theorem F_wlvref1_One_text : pvFn F_wlvref1_One_env F_wlvref1_One_ann Tryd.f58 F_wlvref1_One_sig = F_wlvref1_One := by kernel_rfl
noncomputable def F_wlvref1_Salted (l1 : List Int) (l2 : List Int) : Option (List Int) :=
  chk (decide ((([] : List Int).length + l1.length) * 1 ≤ 140737488355328) && decide (([] : List Int).length + l1.length ≤ maxLen))
  (chk (decide (((([] : List Int) ++ l1).length + ([0] : List Int).length) * 1 ≤ 140737488355328) && decide ((([] : List Int) ++ l1).length + ([0] : List Int).length ≤ maxLen))
    (chk (decide ((((([] : List Int) ++ l1) ++ ([0] : List Int)).length + l2.length) * 1 ≤ 140737488355328) && decide (((([] : List Int) ++ l1) ++ ([0] : List Int)).length + l2.length ≤ maxLen))
      ((F_wlvref1_One (((([] : List Int) ++ l1) ++ ([0] : List Int)) ++ l2)).bind fun l3 =>
        some l3)))
def F_wlvref1_Salted_sig : Sig := ⟨[.v false [.d (.sl (.int .u8))], .v false [.d (.sl (.int .u8))]], [(false, [.own 5 (.int .u8)])]⟩
def F_wlvref1_Salted_ann : List (Nat × Ann) := []
noncomputable def F_wlvref1_Salted_env : Env := ⟨Tryd.prog, [(58, ⟨F_wlvref1_One_sig, ⟨F_wlvref1_One⟩⟩)], []⟩
set_option maxRecDepth 100000 in
theorem F_wlvref1_Salted_text : pvFn F_wlvref1_Salted_env F_wlvref1_Salted_ann Tryd.f23 F_wlvref1_Salted_sig = F_wlvref1_Salted := by kernel_rfl
noncomputable def F_wlvref_Bytes (l1 : List Int) (l2 : List Int) : Option (Bool) :=
  some (l1 == l2)
def F_wlvref_Bytes_sig : Sig := ⟨[.v false [.d (.sl (.int .u8))], .v false [.d (.sl (.int .u8))]], [(false, [.d .bool])]⟩
def F_wlvref_Bytes_ann : List (Nat × Ann) := []
noncomputable def F_wlvref_Bytes_env : Env := ⟨Tryd.prog, [], []⟩
set_option maxRecDepth 100000 in
theorem F_wlvref_Bytes_text : pvFn F_wlvref_Bytes_env F_wlvref_Bytes_ann Tryd.f22 F_wlvref_Bytes_sig = F_wlvref_Bytes := by kernel_rfl
end Go.Proofs.YtblngdnndkljoaaDoor

/- slices.Clone of bytes: by hand. -/
namespace Go.Proofs.YtblngdnndkljoaaDoor
open Go.RowKit Go.Lib Pv
set_option linter.unusedVariables false

set_option maxHeartbeats 4000000 in
set_option maxRecDepth 1000000 in
theorem scl_at (a : Addr) (n c : Nat) (l : List Int) (w : World) (hl : l.length = n) (hbig : n ≤ 140737488355328) (hc : ∀ (i : Nat) x, l[i]? = some x → w.cell? (a.add i) = some (.int .u8 x)) :
    Calls Tryd.prog 152 #[.slice (some a) n c] w fun e w' => ∃ v', e = .returned v' ∧ w'.ownsRow w.heap.size 5 1 v' n (l.map (Value.int .u8)) ∧ Below w.heap.size w w' := by
  obtain ⟨i0, hi, hz0, hz1, hz2⟩ := info_parts infoU
  have q22 : ∀ (w : World) (a : Option Addr) (n c n' c' : Nat), (binOp .eql 27 (.slice a n c) (.slice none n' c')).run Tryd.prog w = .ok (.bool a.isNone) w := fun w a n c n' c' => Lib.run_eql_slice_nil w _ _ a n c n' c' Tryd.underlying27
  have A : Aside (∀ (i : Nat) x, l[i]? = some x → w.cell? (a.add i) = some (.int .u8 x)) := hc
  clear hc
  go_enter Tryd.func152, Tryd.ntmps152
  go_wp2_with (at_builtin; refine wpList_append_own _ rfl _ _ 27 rfl w.heap.size 5 i0 (.int .u8 0) 1 1 Tryd.underlying27 hi hz0 hz1 hz2 rfl (by decide) _ _ _ rfl (World.ownsRow_made w #[] 0 (Nat.le_refl _) (Nat.zero_le _) rfl) a n c (l.map (Value.int .u8)) rfl ?qc1 ?qc2 ?qc3 ?qc4 ?qc5 ?qc6 ?_)
  case qc1 => simp; omega
  case qc2 =>
    intro j u hj
    rw [List.getElem?_map] at hj
    obtain ⟨x, hx, rfl⟩ := Option.map_eq_some_iff.1 hj
    exact Lib.cell?_alloc_some _ (A.out j x hx)
  case qc3 => intro u hu; obtain ⟨x, _, rfl⟩ := List.mem_map.1 hu; rfl
  case qc4 => unfold maxLen; omega
  case qc5 => omega
  case qc6 => simp
  intro v' w1 hown hgrow hnil
  go_wp2
  go_ret
  exact ⟨v', rfl, by simpa using hown, ((Below.refl _ w).alloc (Nat.le_refl _) _).grown hgrow (by simp) (by intro k hk; simp [Value.ownBlock] at hk; omega)⟩
set_option maxHeartbeats 4000000 in
theorem scl_nil (n c : Nat) (w : World) : Calls Tryd.prog 152 #[.slice none n c] w fun e w' => e = .returned (.slice none 0 0) ∧ w' = w := by
  have q22 : ∀ (w : World) (a : Option Addr) (n c n' c' : Nat), (binOp .eql 27 (.slice a n c) (.slice none n' c')).run Tryd.prog w = .ok (.bool a.isNone) w := fun w a n c n' c' => Lib.run_eql_slice_nil w _ _ a n c n' c' Tryd.underlying27
  go_enter Tryd.func152, Tryd.ntmps152
  go_wp2
  go_ret
  exact ⟨rfl, rfl⟩
theorem F_slices_Clone_byte_byte_sound {T : Tab} : SoundFn Tryd.prog T 152 F_slices_Clone_byte_byte_sig ⟨F_slices_Clone_byte_byte⟩ := by
  refine sound_of rfl fun F g O xs ls y tmf w args hT hw hlim hls happ hsz hr => ?_
  obtain ⟨(l : List Int), xs', rfl, h2⟩ := appF_inv_c (ts := []) happ
  obtain ⟨rfl, h3⟩ := appF_inv_n h2
  have hls' : some [Leaf.d (.sl (.int .u8)) l] = some ls := hls
  injection hls' with hls'
  subst hls'
  obtain ⟨a, n, c, e0, e1, e2, e3, e4, e5, e6⟩ := rel_ints (hr 0)
  rw [args_1 hsz, e0]
  have h3 : cond (Nat.ble l.length 100000000) (some l) none = some y := h3
  cases hb : Nat.ble l.length 100000000 with
  | false => rw [hb] at h3; cases h3
  | true =>
    rw [hb] at h3
    have hy : l = y := by injection h3
    have hb := Nat.le_of_ble_eq_true hb
    subst hy
    cases a with
    | none =>
      have hl := e6 rfl
      refine (scl_nil n c w).mono ?_
      rintro e w' ⟨rfl, rfl⟩
      exact own_row (l := l) hw hlim (Below.refl _ _) (by rw [hl]; exact World.ownsRow_nil _ _ _ _) e4 rfl rfl
    | some ad =>
      refine (scl_at ad n c l w e1 (by omega) (e5 ad rfl)).mono ?_
      rintro e w' ⟨v, rfl, h1, h2⟩
      exact own_row (l := l) hw hlim h2 (by rw [e1]; exact h1) e4 rfl rfl

end Go.Proofs.YtblngdnndkljoaaDoor

/- bytes.Clone: by hand. -/
namespace Go.Proofs.YtblngdnndkljoaaDoor
open Go.RowKit Go.Lib Pv
set_option linter.unusedVariables false
set_option maxHeartbeats 4000000 in
set_option maxRecDepth 1000000 in
theorem bcl_at (a : Addr) (n c : Nat) (l : List Int) (w : World) (hl : l.length = n) (hbig : n ≤ 140737488355328) (hc : ∀ (i : Nat) x, l[i]? = some x → w.cell? (a.add i) = some (.int .u8 x)) :
    Calls Tryd.prog 55 #[.slice (some a) n c] w fun e w' => ∃ v', e = .returned v' ∧ w'.ownsRow w.heap.size 5 1 v' n (l.map (Value.int .u8)) ∧ Below w.heap.size w w' := by
  obtain ⟨i0, hi, hz0, hz1, hz2⟩ := info_parts infoU
  have q22 : ∀ (w : World) (a : Option Addr) (n c n' c' : Nat), (binOp .eql 27 (.slice a n c) (.slice none n' c')).run Tryd.prog w = .ok (.bool a.isNone) w := fun w a n c n' c' => Lib.run_eql_slice_nil w _ _ a n c n' c' Tryd.underlying27
  have A : Aside (∀ (i : Nat) x, l[i]? = some x → w.cell? (a.add i) = some (.int .u8 x)) := hc
  clear hc
  go_enter Tryd.func55, Tryd.ntmps55
  go_wp2_with (at_builtin; refine wpList_append_own _ rfl _ _ 27 rfl w.heap.size 5 i0 (.int .u8 0) 1 1 Tryd.underlying27 hi hz0 hz1 hz2 rfl (by decide) _ _ _ rfl (World.ownsRow_made w #[] 0 (Nat.le_refl _) (Nat.zero_le _) rfl) a n c (l.map (Value.int .u8)) rfl ?qc1 ?qc2 ?qc3 ?qc4 ?qc5 ?qc6 ?_)
  case qc1 => simp; omega
  case qc2 =>
    intro j u hj
    rw [List.getElem?_map] at hj
    obtain ⟨x, hx, rfl⟩ := Option.map_eq_some_iff.1 hj
    exact Lib.cell?_alloc_some _ (A.out j x hx)
  case qc3 => intro u hu; obtain ⟨x, _, rfl⟩ := List.mem_map.1 hu; rfl
  case qc4 => unfold maxLen; omega
  case qc5 => omega
  case qc6 => simp
  intro v' w1 hown hgrow hnil
  go_wp2
  go_ret
  exact ⟨v', rfl, by simpa using hown, ((Below.refl _ w).alloc (Nat.le_refl _) _).grown hgrow (by simp) (by intro k hk; simp [Value.ownBlock] at hk; omega)⟩
set_option maxHeartbeats 4000000 in
theorem bcl_nil (n c : Nat) (w : World) : Calls Tryd.prog 55 #[.slice none n c] w fun e w' => e = .returned (.slice none 0 0) ∧ w' = w := by
  have q22 : ∀ (w : World) (a : Option Addr) (n c n' c' : Nat), (binOp .eql 27 (.slice a n c) (.slice none n' c')).run Tryd.prog w = .ok (.bool a.isNone) w := fun w a n c n' c' => Lib.run_eql_slice_nil w _ _ a n c n' c' Tryd.underlying27
  go_enter Tryd.func55, Tryd.ntmps55
  go_wp2
  go_ret
  exact ⟨rfl, rfl⟩
theorem F_bytes_Clone_sound {T : Tab} : SoundFn Tryd.prog T 55 F_bytes_Clone_sig ⟨F_bytes_Clone⟩ := by
  refine sound_of rfl fun F g O xs ls y tmf w args hT hw hlim hls happ hsz hr => ?_
  obtain ⟨(l : List Int), xs', rfl, h2⟩ := appF_inv_c (ts := []) happ
  obtain ⟨rfl, h3⟩ := appF_inv_n h2
  have hls' : some [Leaf.d (.sl (.int .u8)) l] = some ls := hls
  injection hls' with hls'
  subst hls'
  obtain ⟨a, n, c, e0, e1, e2, e3, e4, e5, e6⟩ := rel_ints (hr 0)
  rw [args_1 hsz, e0]
  have h3 : cond (Nat.ble l.length 100000000) (some l) none = some y := h3
  cases hb : Nat.ble l.length 100000000 with
  | false => rw [hb] at h3; cases h3
  | true =>
    rw [hb] at h3
    have hy : l = y := by injection h3
    have hb := Nat.le_of_ble_eq_true hb
    subst hy
    cases a with
    | none =>
      have hl := e6 rfl
      refine (bcl_nil n c w).mono ?_
      rintro e w' ⟨rfl, rfl⟩
      exact own_row (l := l) hw hlim (Below.refl _ _) (by rw [hl]; exact World.ownsRow_nil _ _ _ _) e4 rfl rfl
    | some ad =>
      refine (bcl_at ad n c l w e1 (by omega) (e5 ad rfl)).mono ?_
      rintro e w' ⟨v, rfl, h1, h2⟩
      exact own_row (l := l) hw hlim h2 (by rw [e1]; exact h1) e4 rfl rfl
end Go.Proofs.YtblngdnndkljoaaDoor

/- stringslite.IndexByte by its contract. -/
namespace Go.Proofs.YtblngdnndkljoaaDoor
open Pv Go.RowKit
set_option linter.unusedVariables false
def F_internal_stringslite_IndexByte_sig : Sig := ⟨[.v false [.d .str], .v false [.d (.int .u8)]], [(false, [.d (.int .i64)])]⟩
def F_internal_stringslite_IndexByte (s : List Int) (c : Int) : Option Int := some (idxI s c)
theorem F_internal_stringslite_IndexByte_sound {T : Tab} : SoundFn Tryd.prog T 112 F_internal_stringslite_IndexByte_sig ⟨F_internal_stringslite_IndexByte⟩ := by
  intro F g st xs y tmf w args _ hent happ hrel hw hn hsz htm
  obtain ⟨(l : List Int), xs', rfl, h2⟩ := appF_inv_c (ts := [.int .u8]) happ
  obtain ⟨(c : Int), xs'', rfl, h2'⟩ := appF_inv_c (ts := []) h2
  obtain ⟨rfl, h3⟩ := appF_inv_n h2'
  have hφ : Option.map (fun st : PSt => (st.φ 0, st.φ 1)) (some st) = _ := (congrArg _ hent).symm.trans (ent_ib l c)
  have hφ : some (st.φ 0, st.φ 1) = some _ := hφ
  injection hφ with hφ
  obtain ⟨hφ0, hφ1⟩ := Prod.mk.inj hφ
  have h0 := hrel.slots 0
  rw [hφ0, htm 0] at h0
  have h1 := hrel.slots 1
  rw [hφ1, htm 1] at h1
  obtain ⟨s, e0, e1, e2⟩ := rel_str h0
  obtain ⟨f0, f1⟩ := rel_int h1
  have ha : args = #[.string s, .int .u8 c] := by
    obtain ⟨al⟩ := args
    match al, hsz with
    | [v, u], _ =>
      have h : v = .string s := e0
      have h' : u = .int .u8 c := f0
      rw [h, h']
  subst ha
  have hy : idxI l c = y := by
    have h3 : some (idxI l c) = some y := h3
    injection h3
  have hc : 0 ≤ c ∧ c < 256 := by
    simp [Lit.wf, IntKind.min, IntKind.max, IntKind.signed, IntKind.bits] at f1
    omega
  have hcb : byteI c.toNat.toUInt8 = c := by
    unfold byteI
    rw [Nat.toUInt8_eq, UInt8.toNat_ofNat']
    omega
  have hid : Lib.indexByte s.data.toList c.toNat.toUInt8 = idxI l c := by
    rw [idx_lib, hcb, ← e1]; rfl
  have hin := idxI_in l c
  have hlen : l.length ≤ maxLen := by rw [← e1]; simpa [bytesL] using e2
  have hmx : maxLen = 9223372036854775807 := rfl
  obtain ⟨st', x1, x2, x3, x4, x5, x6, x7⟩ := exit_ib y
  refine (Tryd.stringslite_IndexByte s c w).mono fun e w' ⟨he, hw'⟩ => ⟨[.int .i64 (idxI l c)], _, st', by rw [he, hid]; rfl, rfl, x1, mrel_out (t := .int .i64) (x := y) hrel (by rw [hw']; exact Below.refl _ _) ⟨by rw [hy], ?_⟩ x2 x3 x4 x5 x6 x7, fun k hk => ?_⟩
  · rw [← hy]
    simp [Lit.wf, IntKind.min, IntKind.max, IntKind.signed, IntKind.bits]
    omega
  · match k with
    | 0 => cases hk
    | 1 => cases hk
    | k + 2 => cases k <;> cases hk
end Go.Proofs.YtblngdnndkljoaaDoor

/- internal/stringslite.Index at a sought text of one byte: by hand. -/
namespace Go.Proofs.YtblngdnndkljoaaDoor
open Pv Go.RowKit
set_option linter.unusedVariables false
set_option maxHeartbeats 2000000 in
set_option maxRecDepth 100000 in
theorem index_one (s : ByteArray) (c : UInt8) (w : World) :
    Calls Tryd.prog 113 #[.string s, .string ⟨#[c]⟩] w fun e w' => e = .returned (.int .i64 (Lib.indexByte s.data.toList c)) ∧ Below w.heap.size w w' := by
  have hsz : (⟨#[c]⟩ : ByteArray).size = 1 := rfl
  go_enter Tryd.func113, Tryd.ntmps113
  go_wp2_with (go_at_call 112; refine (Tryd.stringslite_IndexByte s _ _).mono ?_)
  · rename_i hq
    go_ret
    have e : s.data.toList = [c] := by
      rw [ByteArray.toList_eq] at hq
      exact (beq_iff_eq.1 hq).symm
    have e2 : Lib.indexByte s.data.toList c = 0 := by
      rw [e]
      show (if c == c then (0 : Int) else _) = 0
      rw [beq_self_eq_true]; rfl
    exact ⟨by rw [e2]; rfl, Below.refl _ _⟩
  · rintro e w' ⟨rfl, rfl⟩
    go_wp2
    go_ret
    exact ⟨rfl, Below.refl _ _⟩
def F_internal_stringslite_Index_sig : Sig := ⟨[.v false [.d .str], .v false [.d .str]], [(false, [.d (.int .i64)])]⟩
def F_internal_stringslite_Index (s t : List Int) : Option Int := match t with
  | [c] => some (idxI s c)
  | _ => none
theorem ent_ix (l m : List Int) : (entrySt F_internal_stringslite_Index_sig [⟨.str, l⟩, ⟨.str, m⟩]).map (fun st => (st.φ 0, st.φ 1)) = some (.w false [.d .str l], .w false [.d .str m]) := rfl
theorem exit_ix (y : Int) : ∃ st', exitSt F_internal_stringslite_Index_sig y = some st' ∧ st'.φ 0 = .w false [.d (.int .i64) y] ∧ (∀ i, st'.φ (i + 1) = .dead) ∧ (∀ k, st'.L k = none) ∧ (∀ k, st'.O k = true → k = .zero) ∧ st'.kn = [] ∧ st'.fr = [] :=
  ⟨_, rfl, rfl, fun _ => rfl, fun k => by match k with | 0 => rfl | 1 => rfl | _ + 2 => rfl, fun k hk => by
    have hk : hasT [.zero] k = true := hk
    simpa using hasT_iff.1 hk, rfl, rfl⟩
theorem F_internal_stringslite_Index_sound {T : Tab} : SoundFn Tryd.prog T 113 F_internal_stringslite_Index_sig ⟨F_internal_stringslite_Index⟩ := by
  intro F g st xs y tmf w args _ hent happ hrel hw hn hsz htm
  obtain ⟨(l : List Int), xs', rfl, h2⟩ := appF_inv_c (ts := [.str]) happ
  obtain ⟨(m : List Int), xs'', rfl, h2'⟩ := appF_inv_c (ts := []) h2
  obtain ⟨rfl, h3⟩ := appF_inv_n h2'
  have hφ : Option.map (fun st : PSt => (st.φ 0, st.φ 1)) (some st) = _ := (congrArg _ hent).symm.trans (ent_ix l m)
  have hφ : some (st.φ 0, st.φ 1) = some _ := hφ
  injection hφ with hφ
  obtain ⟨hφ0, hφ1⟩ := Prod.mk.inj hφ
  have h0 := hrel.slots 0
  rw [hφ0, htm 0] at h0
  have h1 := hrel.slots 1
  rw [hφ1, htm 1] at h1
  obtain ⟨s, e0, e1, e2⟩ := rel_str h0
  obtain ⟨t, f0, f1, f2⟩ := rel_str h1
  have ha : args = #[.string s, .string t] := by
    obtain ⟨al⟩ := args
    match al, hsz with
    | [v, u], _ =>
      have h : v = .string s := e0
      have h' : u = .string t := f0
      rw [h, h']
  subst ha
  subst e1; subst f1
  have h3 : F_internal_stringslite_Index (bytesL s) (bytesL t) = some y := h3
  obtain ⟨c, hc⟩ : ∃ c, t = ⟨#[c]⟩ := by
    obtain ⟨⟨tl⟩⟩ := t
    match tl with
    | [] => cases h3
    | [c] => exact ⟨c, rfl⟩
    | a :: b :: r => cases h3
  subst hc
  have hy : idxI (bytesL s) (byteI c) = y := by
    have h3 : some (idxI (bytesL s) (byteI c)) = some y := h3
    injection h3
  have hin := idxI_in (bytesL s) (byteI c)
  have hlen : (bytesL s).length ≤ maxLen := by simpa [bytesL] using e2
  have hmx : maxLen = 9223372036854775807 := rfl
  obtain ⟨st', x1, x2, x3, x4, x5, x6, x7⟩ := exit_ix y
  refine (index_one s c w).mono fun e w' ⟨he, hb⟩ => ⟨[.int .i64 (idxI (bytesL s) (byteI c))], _, st', by rw [he, idx_lib]; rfl, rfl, x1, mrel_out (t := .int .i64) (x := y) hrel hb ⟨by rw [hy], ?_⟩ x2 x3 x4 x5 x6 x7, fun k hk => ?_⟩
  · rw [← hy]
    simp [Lit.wf, IntKind.min, IntKind.max, IntKind.signed, IntKind.bits]
    omega
  · match k with
    | 0 => cases hk
    | 1 => cases hk
    | k + 2 => cases k <;> cases hk
end Go.Proofs.YtblngdnndkljoaaDoor

/- The functions of the program as Lean functions, written by a program of ours and held by the kernel. -/
namespace Go.Proofs.YtblngdnndkljoaaDoor
open Pv
set_option linter.unusedVariables false
noncomputable def F_internal_stringslite_Cut (s1 : List Int) (s2 : List Int) : Option (List Int × List Int × Bool) :=
  (F_internal_stringslite_Index s1 s2).bind fun i3 =>
  cond (decide (i3 ≥ 0))
  ((cutI s1 0 i3).bind fun s4 =>
    (cutI s1 (IntKind.i64.wrap (i3 + (s2.length : Int))) (s1.length : Int)).bind fun s5 =>
    some (s4, s5, true))
  (some (s1, ([] : List Int), false))
def F_internal_stringslite_Cut_sig : Sig := ⟨[.v false [.d .str], .v false [.d .str]], [(false, [.d .str]), (false, [.d .str]), (false, [.d .bool])]⟩
def F_internal_stringslite_Cut_ann : List (Nat × Ann) := []
noncomputable def F_internal_stringslite_Cut_env : Env := ⟨Tryd.prog, [(113, ⟨F_internal_stringslite_Index_sig, ⟨F_internal_stringslite_Index⟩⟩)], []⟩
set_option maxRecDepth 100000 in
theorem F_internal_stringslite_Cut_text : pvFn F_internal_stringslite_Cut_env F_internal_stringslite_Cut_ann Tryd.f81 F_internal_stringslite_Cut_sig = F_internal_stringslite_Cut := by kernel_rfl
noncomputable def F_strings_Cut (s1 : List Int) (s2 : List Int) : Option (List Int × List Int × Bool) :=
  (F_internal_stringslite_Cut s1 s2).bind fun x3 =>
  some (x3.1, x3.2.1, x3.2.2)
def F_strings_Cut_sig : Sig := ⟨[.v false [.d .str], .v false [.d .str]], [(false, [.d .str]), (false, [.d .str]), (false, [.d .bool])]⟩
def F_strings_Cut_ann : List (Nat × Ann) := []
noncomputable def F_strings_Cut_env : Env := ⟨Tryd.prog, [(81, ⟨F_internal_stringslite_Cut_sig, ⟨F_internal_stringslite_Cut⟩⟩)], []⟩
set_option maxRecDepth 100000 in
theorem F_strings_Cut_text : pvFn F_strings_Cut_env F_strings_Cut_ann Tryd.f48 F_strings_Cut_sig = F_strings_Cut := by kernel_rfl
noncomputable def F_cred_plain_L3 (s1 : List Int) (s : Int) : Option (((Bool) ⊕ (Unit)) ⊕ (Int)) :=
  let i2 := s
  cond (decide (i2 < (s1.length : Int)))
  ((getI s1 i2).bind fun i3 =>
    cond (decide (i3 < 32))
    (some (.inl (.inl false)))
    ((getI s1 i2).bind fun i4 =>
      cond (i4 == 127)
      (some (.inl (.inl false)))
      (some (.inr (IntKind.i64.wrap (i2 + 1))))))
  (some (.inl (.inr ())))
noncomputable def F_cred_plain_J1 (s : Unit) : Option (Bool) :=
  some true
noncomputable def F_cred_plain (s1 : List Int) : Option (Bool) :=
  joinC (S := Unit) (R := Bool)
  (loopC (S := Int) (R := (Bool) ⊕ (Unit)) (F_cred_plain_L3 s1) 0)
  (F_cred_plain_J1)
def F_cred_plain_sig : Sig := ⟨[.v false [.d .str]], [(false, [.d .bool])]⟩
def F_cred_plain_ann : List (Nat × Ann) := [(1, ⟨2, [], [], [2, 3, 4, 5, 6, 7, 8, 9, 10, 11, 12, 13, 14, 15, 16, 17, 18, 19], []⟩), (3, ⟨4, [(6, false, [.d (.int .i64)])], [], [2, 3, 7, 8, 9, 10, 11, 12, 13, 14, 15, 16, 17, 18, 19], []⟩)]
noncomputable def F_cred_plain_env : Env := ⟨Tryd.prog, [], []⟩
set_option maxRecDepth 100000 in
theorem F_cred_plain_text : pvFn F_cred_plain_env F_cred_plain_ann Tryd.f49 F_cred_plain_sig = F_cred_plain := by kernel_rfl
noncomputable def F_cred_Parse (s1 : List Int) : Option (List Int × List Int × Int) :=
  cond (decide ((s1.length : Int) < 6))
  (some (([] : List Int), ([] : List Int), 2))
  ((cutI s1 0 6).bind fun s2 =>
    (F_strings_EqualFold s2 ([98, 97, 115, 105, 99, 32] : List Int)).bind fun b3 =>
    cond (!b3)
    (some (([] : List Int), ([] : List Int), 2))
    ((cutI s1 6 (s1.length : Int)).bind fun s4 =>
      (F_b64_Decode s4).bind fun x5 =>
      (F_strings_Cut x5.1 ([58] : List Int)).bind fun x6 =>
      cond (((((x5.2 != 0) || (!x6.2.2)) || (x6.1 == ([] : List Int))) || (decide ((x6.1.length : Int) > 64))) || (decide ((x6.2.1.length : Int) > 256)))
      (some (([] : List Int), ([] : List Int), 2))
      (chk (Nat.ble (x6.1.length + x6.2.1.length) maxLen)
        ((F_cred_plain (x6.1 ++ x6.2.1)).bind fun b7 =>
          cond (!b7)
          (some (([] : List Int), ([] : List Int), 2))
          (some (x6.1, x6.2.1, 0))))))
def F_cred_Parse_sig : Sig := ⟨[.v false [.d .str]], [(false, [.d .str]), (false, [.d .str]), (false, [.d (.int .i64)])]⟩
def F_cred_Parse_ann : List (Nat × Ann) := []
noncomputable def F_cred_Parse_env : Env := ⟨Tryd.prog, [(46, ⟨F_strings_EqualFold_sig, ⟨F_strings_EqualFold⟩⟩), (47, ⟨F_b64_Decode_sig, ⟨F_b64_Decode⟩⟩), (48, ⟨F_strings_Cut_sig, ⟨F_strings_Cut⟩⟩), (49, ⟨F_cred_plain_sig, ⟨F_cred_plain⟩⟩)], []⟩
set_option maxRecDepth 100000 in
theorem F_cred_Parse_text : pvFn F_cred_Parse_env F_cred_Parse_ann Tryd.f16 F_cred_Parse_sig = F_cred_Parse := by kernel_rfl
noncomputable def F_wlvlaw17_first : Option (Bool) :=
  (F_cred_Parse ([66, 97, 115, 105, 99, 32, 89, 84, 112, 105] : List Int)).bind fun x1 =>
  some (((x1.2.2 == 0) && (x1.1 == ([97] : List Int))) && (x1.2.1 == ([98] : List Int)))
def F_wlvlaw17_first_sig : Sig := ⟨[], [(false, [.d .bool])]⟩
def F_wlvlaw17_first_ann : List (Nat × Ann) := []
noncomputable def F_wlvlaw17_first_env : Env := ⟨Tryd.prog, [(16, ⟨F_cred_Parse_sig, ⟨F_cred_Parse⟩⟩)], []⟩
set_option maxRecDepth 100000 in
theorem F_wlvlaw17_first_text : pvFn F_wlvlaw17_first_env F_wlvlaw17_first_ann Tryd.f15 F_wlvlaw17_first_sig = F_wlvlaw17_first := by kernel_rfl
noncomputable def F_wlvlaw17_CredOnce (s1 : List Int) : Option (Bool) :=
  (F_wlvlaw17_first).bind fun b2 =>
  cond (!b2)
  (some false)
  (cond (decide ((s1.length : Int) > 1000))
    ((F_wlvlaw17_first).bind fun b3 =>
      some b3)
    ((F_cred_Parse s1).bind fun x4 =>
      cond (x4.2.2 != 0)
      ((F_wlvlaw17_first).bind fun b5 =>
        some ((b5 && (x4.1 == ([] : List Int))) && (x4.2.1 == ([] : List Int))))
      (chk (Nat.ble (x4.1.length + ([58] : List Int).length) maxLen)
        (chk (Nat.ble ((x4.1 ++ ([58] : List Int)).length + x4.2.1.length) maxLen)
          ((F_b64_Encode ((x4.1 ++ ([58] : List Int)) ++ x4.2.1)).bind fun s6 =>
            chk (Nat.ble (([66, 97, 115, 105, 99, 32] : List Int).length + s6.length) maxLen)
            ((F_cred_Parse (([66, 97, 115, 105, 99, 32] : List Int) ++ s6)).bind fun x7 =>
              chk (Nat.ble (s1.length + ([65] : List Int).length) maxLen)
              ((F_cred_Parse (s1 ++ ([65] : List Int))).bind fun x8 =>
                chk (Nat.ble (([88] : List Int).length + s1.length) maxLen)
                ((F_cred_Parse (([88] : List Int) ++ s1)).bind fun x9 =>
                  (cutI s1 1 (s1.length : Int)).bind fun s10 =>
                  (F_cred_Parse s10).bind fun x11 =>
                  (F_wlvlaw17_first).bind fun b12 =>
                  cond (((((((b12 && (decide ((x4.1.length : Int) ≥ 1))) && (decide ((x4.1.length : Int) ≤ 64))) && (decide ((x4.2.1.length : Int) ≤ 256))) && (x7.2.2 == 0)) && (x7.1 == x4.1)) && (x7.2.1 == x4.2.1)) && (((([66, 97, 115, 105, 99, 32] : List Int) ++ s6).length : Int) == (s1.length : Int)))
                  ((cutI (([66, 97, 115, 105, 99, 32] : List Int) ++ s6) 6 ((([66, 97, 115, 105, 99, 32] : List Int) ++ s6).length : Int)).bind fun s13 =>
                    (cutI s1 6 (s1.length : Int)).bind fun s14 =>
                    some ((((s13 == s14) && (x8.2.2 == 2)) && (x9.2.2 == 2)) && (x11.2.2 == 2)))
                  (some false)))))))))
def F_wlvlaw17_CredOnce_sig : Sig := ⟨[.v false [.d .str]], [(false, [.d .bool])]⟩
def F_wlvlaw17_CredOnce_ann : List (Nat × Ann) := []
noncomputable def F_wlvlaw17_CredOnce_env : Env := ⟨Tryd.prog, [(15, ⟨F_wlvlaw17_first_sig, ⟨F_wlvlaw17_first⟩⟩), (16, ⟨F_cred_Parse_sig, ⟨F_cred_Parse⟩⟩), (17, ⟨F_b64_Encode_sig, ⟨F_b64_Encode⟩⟩)], []⟩
set_option maxRecDepth 100000 in
theorem F_wlvlaw17_CredOnce_text : pvFn F_wlvlaw17_CredOnce_env F_wlvlaw17_CredOnce_ann Tryd.f3 F_wlvlaw17_CredOnce_sig = F_wlvlaw17_CredOnce := by kernel_rfl
noncomputable def F_wlvref_Lower_L4 (s1 : List Int) (s : Int × List Int) : Option (((List Int) ⊕ (List Int)) ⊕ (Int × List Int)) :=
  let i2 := s.1; let l3 := s.2
  cond (decide (i2 < (s1.length : Int)))
  (chk (decide (0 ≤ i2) && decide (i2 < (s1.length : Int)))
    ((getI l3 i2).bind fun i4 =>
      cond (decide (i4 ≥ 65))
      (chk (decide (0 ≤ i2) && decide (i2 < (s1.length : Int)))
        ((getI l3 i2).bind fun i5 =>
          cond (decide (i5 ≤ 90))
          (chk (decide (0 ≤ i2) && decide (i2 < (s1.length : Int)))
            ((getI l3 i2).bind fun i6 =>
              chk (decide (0 ≤ i2) && decide (i2 < (s1.length : Int)))
              (chk (decide (i2 < (l3.length : Int)))
                (some (.inr ((IntKind.i64.wrap (i2 + 1)), (l3.set (i2).toNat (IntKind.u8.wrap (i6 + 32)))))))))
          (some (.inr ((IntKind.i64.wrap (i2 + 1)), l3)))))
      (some (.inr ((IntKind.i64.wrap (i2 + 1)), l3)))))
  (some (.inl (.inr l3)))
noncomputable def F_wlvref_Lower_J2 (s1 : List Int) (s : List Int) : Option (List Int) :=
  let l7 := s
  chk (Nat.ble s1.length (List.length l7))
  (some (List.take s1.length l7))
noncomputable def F_wlvref_Lower (s1 : List Int) : Option (List Int) :=
  joinC (S := List Int) (R := List Int)
  (loopC (S := Int × List Int) (R := (List Int) ⊕ (List Int)) (F_wlvref_Lower_L4 s1) (0, s1))
  (F_wlvref_Lower_J2 s1)
def F_wlvref_Lower_sig : Sig := ⟨[.v false [.d .str]], [(false, [.d .str])]⟩
def F_wlvref_Lower_ann : List (Nat × Ann) := [(2, ⟨3, [], [(6, [.row (.int .u8)])], [4, 7, 8, 9, 10, 11, 12, 13, 14, 15, 16, 17, 18, 19, 20, 21, 22, 23, 24, 25, 26, 27, 28, 29, 30], []⟩), (4, ⟨5, [(4, false, [.d (.int .i64)])], [(6, [.row (.int .u8)])], [7, 8, 9, 10, 11, 12, 13, 14, 15, 16, 17, 18, 19, 20, 21, 22, 23, 24, 25, 26, 27, 28, 29, 30], []⟩)]
noncomputable def F_wlvref_Lower_env : Env := ⟨Tryd.prog, [], [6]⟩
set_option maxRecDepth 100000 in
theorem F_wlvref_Lower_text : pvFn F_wlvref_Lower_env F_wlvref_Lower_ann Tryd.f52 F_wlvref_Lower_sig = F_wlvref_Lower := by kernel_rfl
noncomputable def F_wlvref15_plain_L3 (s1 : List Int) (s : Int) : Option (((Bool) ⊕ (Unit)) ⊕ (Int)) :=
  let i2 := s
  cond (decide (i2 < (s1.length : Int)))
  ((getI s1 i2).bind fun i3 =>
    cond (decide (i3 < 32))
    (some (.inl (.inl false)))
    ((getI s1 i2).bind fun i4 =>
      cond (i4 == 127)
      (some (.inl (.inl false)))
      (some (.inr (IntKind.i64.wrap (i2 + 1))))))
  (some (.inl (.inr ())))
noncomputable def F_wlvref15_plain_J1 (s : Unit) : Option (Bool) :=
  some true
noncomputable def F_wlvref15_plain (s1 : List Int) : Option (Bool) :=
  joinC (S := Unit) (R := Bool)
  (loopC (S := Int) (R := (Bool) ⊕ (Unit)) (F_wlvref15_plain_L3 s1) 0)
  (F_wlvref15_plain_J1)
def F_wlvref15_plain_sig : Sig := ⟨[.v false [.d .str]], [(false, [.d .bool])]⟩
def F_wlvref15_plain_ann : List (Nat × Ann) := [(1, ⟨2, [], [], [2, 3, 4, 5, 6, 7, 8, 9, 10, 11, 12, 13, 14, 15, 16, 17, 18, 19], []⟩), (3, ⟨4, [(3, false, [.d (.int .i64)])], [], [2, 4, 5, 6, 7, 8, 9, 10, 11, 12, 13, 14, 15, 16, 17, 18, 19], []⟩)]
noncomputable def F_wlvref15_plain_env : Env := ⟨Tryd.prog, [], []⟩
set_option maxRecDepth 100000 in
theorem F_wlvref15_plain_text : pvFn F_wlvref15_plain_env F_wlvref15_plain_ann Tryd.f54 F_wlvref15_plain_sig = F_wlvref15_plain := by kernel_rfl
noncomputable def F_wlvref15_Cred_L11 (s : List Int × Int × Int) : Option (((List Int × List Int × Int) ⊕ (List Int × Int)) ⊕ (List Int × Int × Int)) :=
  let l6 := s.1; let i7 := s.2.1; let i8 := s.2.2
  cond (decide (i8 ≥ 0))
  ((getI l6 i8).bind fun i9 =>
    cond (i9 == 58)
    (some (.inr (l6, i8, (IntKind.i64.wrap (i8 - 1)))))
    (some (.inr (l6, i7, (IntKind.i64.wrap (i8 - 1))))))
  (some (.inl (.inr (l6, i7))))
noncomputable def F_wlvref15_Cred_J9 (s : List Int × Int) : Option (List Int × List Int × Int) :=
  let l10 := s.1; let i11 := s.2
  cond (((decide (i11 < 1)) || (decide (i11 > 64))) || (decide ((IntKind.i64.wrap ((IntKind.i64.wrap ((l10.length : Int) - i11)) - 1)) > 256)))
  (some (([] : List Int), ([] : List Int), 2))
  ((F_wlvref15_plain l10).bind fun b12 =>
    cond (!b12)
    (some (([] : List Int), ([] : List Int), 2))
    ((cutI l10 0 i11).bind fun l13 =>
      (cutI l10 (IntKind.i64.wrap (i11 + 1)) (l10.length : Int)).bind fun l14 =>
      some (l13, l14, 0)))
noncomputable def F_wlvref15_Cred (s1 : List Int) : Option (List Int × List Int × Int) :=
  cond (decide ((s1.length : Int) < 6))
  (some (([] : List Int), ([] : List Int), 2))
  ((cutI s1 0 6).bind fun s2 =>
    (F_wlvref_Lower s2).bind fun s3 =>
    cond (!(s3 == ([98, 97, 115, 105, 99, 32] : List Int)))
    (some (([] : List Int), ([] : List Int), 2))
    ((cutI s1 6 (s1.length : Int)).bind fun s4 =>
      (F_wlvref1_Decode s4).bind fun x5 =>
      cond (x5.2 != 0)
      (some (([] : List Int), ([] : List Int), 2))
      (joinC (S := List Int × Int) (R := List Int × List Int × Int)
        (loopC (S := List Int × Int × Int) (R := (List Int × List Int × Int) ⊕ (List Int × Int)) (F_wlvref15_Cred_L11) (x5.1, (-1), (IntKind.i64.wrap ((x5.1.length : Int) - 1))))
        (F_wlvref15_Cred_J9))))
def F_wlvref15_Cred_sig : Sig := ⟨[.v false [.d .str]], [(false, [.d .str]), (false, [.d .str]), (false, [.d (.int .i64)])]⟩
def F_wlvref15_Cred_ann : List (Nat × Ann) := [(9, ⟨10, [(5, false, [.own 5 (.int .u8)]), (7, false, [.d (.int .i64)])], [], [8, 26, 27, 28, 29, 30, 31, 32, 33, 34, 35, 36, 37, 38], []⟩), (11, ⟨12, [(5, false, [.own 5 (.int .u8)]), (7, false, [.d (.int .i64)]), (8, false, [.d (.int .i64)])], [], [29, 30, 31, 32, 33, 34, 35, 36, 37, 38], []⟩)]
noncomputable def F_wlvref15_Cred_env : Env := ⟨Tryd.prog, [(52, ⟨F_wlvref_Lower_sig, ⟨F_wlvref_Lower⟩⟩), (53, ⟨F_wlvref1_Decode_sig, ⟨F_wlvref1_Decode⟩⟩), (54, ⟨F_wlvref15_plain_sig, ⟨F_wlvref15_plain⟩⟩)], []⟩
set_option maxRecDepth 100000 in
theorem F_wlvref15_Cred_text : pvFn F_wlvref15_Cred_env F_wlvref15_Cred_ann Tryd.f18 F_wlvref15_Cred_sig = F_wlvref15_Cred := by kernel_rfl
noncomputable def F_cred_Make (l1 : List Int) (s2 : List Int) : Option (List Int × List Int) :=
  (F_bytes_Clone l1).bind fun l3 =>
  (F_sha_Salted l1 s2).bind fun l4 =>
  some (l3, l4)
def F_cred_Make_sig : Sig := ⟨[.v false [.d (.sl (.int .u8))], .v false [.d .str]], [(true, [.own 5 (.int .u8), .own 5 (.int .u8)])]⟩
def F_cred_Make_ann : List (Nat × Ann) := []
noncomputable def F_cred_Make_env : Env := ⟨Tryd.prog, [(55, ⟨F_bytes_Clone_sig, ⟨F_bytes_Clone⟩⟩), (56, ⟨F_sha_Salted_sig, ⟨F_sha_Salted⟩⟩)], []⟩
set_option maxRecDepth 100000 in
theorem F_cred_Make_text : pvFn F_cred_Make_env F_cred_Make_ann Tryd.f19 F_cred_Make_sig = F_cred_Make := by kernel_rfl
noncomputable def F_cred_Check (l1 : List Int) (l2 : List Int) (s3 : List Int) : Option (Bool) :=
  (F_sha_Salted l1 s3).bind fun l4 =>
  (F_sha_Equal l2 l4).bind fun b5 =>
  some b5
def F_cred_Check_sig : Sig := ⟨[.v true [.d (.sl (.int .u8)), .d (.sl (.int .u8))], .v false [.d .str]], [(false, [.d .bool])]⟩
def F_cred_Check_ann : List (Nat × Ann) := []
noncomputable def F_cred_Check_env : Env := ⟨Tryd.prog, [(56, ⟨F_sha_Salted_sig, ⟨F_sha_Salted⟩⟩), (57, ⟨F_sha_Equal_sig, ⟨F_sha_Equal⟩⟩)], []⟩
set_option maxRecDepth 100000 in
theorem F_cred_Check_text : pvFn F_cred_Check_env F_cred_Check_ann Tryd.f20 F_cred_Check_sig = F_cred_Check := by kernel_rfl
noncomputable def F_wlvref15_Check (l1 : List Int) (l2 : List Int) (s3 : List Int) : Option (Bool) :=
  (F_wlvref1_Salted l1 s3).bind fun l4 =>
  (F_wlvref_Bytes l4 l2).bind fun b5 =>
  some b5
def F_wlvref15_Check_sig : Sig := ⟨[.v true [.d (.sl (.int .u8)), .d (.sl (.int .u8))], .v false [.d .str]], [(false, [.d .bool])]⟩
def F_wlvref15_Check_ann : List (Nat × Ann) := []
noncomputable def F_wlvref15_Check_env : Env := ⟨Tryd.prog, [(22, ⟨F_wlvref_Bytes_sig, ⟨F_wlvref_Bytes⟩⟩), (23, ⟨F_wlvref1_Salted_sig, ⟨F_wlvref1_Salted⟩⟩)], []⟩
set_option maxRecDepth 100000 in
theorem F_wlvref15_Check_text : pvFn F_wlvref15_Check_env F_wlvref15_Check_ann Tryd.f21 F_wlvref15_Check_sig = F_wlvref15_Check := by kernel_rfl
noncomputable def F_wlvlaw17_CredReads (s1 : List Int) (l2 : List Int) (l3 : List Int) (s4 : List Int) : Option (Bool) :=
  (F_wlvlaw17_first).bind fun b5 =>
  cond (!b5)
  (some false)
  (cond ((((decide ((s1.length : Int) > 1000)) || (decide ((l2.length : Int) > 1000))) || (decide ((l3.length : Int) > 1000))) || (decide ((s4.length : Int) > 1000)))
    ((F_wlvlaw17_first).bind fun b6 =>
      some b6)
    ((F_cred_Parse s1).bind fun x7 =>
      (F_wlvref15_Cred s1).bind fun x8 =>
      (F_cred_Make l2 s4).bind fun x9 =>
      (F_wlvlaw17_first).bind fun b10 =>
      cond (((b10 && (x7.1 == x8.1)) && (x7.2.1 == x8.2.1)) && (x7.2.2 == x8.2.2))
      ((F_cred_Check l2 l3 s4).bind fun b11 =>
        (F_wlvref15_Check l2 l3 s4).bind fun b12 =>
        cond (bEq b11 b12)
        ((F_wlvref_Bytes x9.1 l2).bind fun b13 =>
          cond b13
          ((F_wlvref1_Salted l2 s4).bind fun l14 =>
            (F_wlvref_Bytes x9.2 l14).bind fun b15 =>
            some b15)
          (some false))
        (some false))
      (some false)))
def F_wlvlaw17_CredReads_sig : Sig := ⟨[.v false [.d .str], .v false [.d (.sl (.int .u8))], .v false [.d (.sl (.int .u8))], .v false [.d .str]], [(false, [.d .bool])]⟩
def F_wlvlaw17_CredReads_ann : List (Nat × Ann) := []
noncomputable def F_wlvlaw17_CredReads_env : Env := ⟨Tryd.prog, [(15, ⟨F_wlvlaw17_first_sig, ⟨F_wlvlaw17_first⟩⟩), (16, ⟨F_cred_Parse_sig, ⟨F_cred_Parse⟩⟩), (18, ⟨F_wlvref15_Cred_sig, ⟨F_wlvref15_Cred⟩⟩), (19, ⟨F_cred_Make_sig, ⟨F_cred_Make⟩⟩), (20, ⟨F_cred_Check_sig, ⟨F_cred_Check⟩⟩), (21, ⟨F_wlvref15_Check_sig, ⟨F_wlvref15_Check⟩⟩), (22, ⟨F_wlvref_Bytes_sig, ⟨F_wlvref_Bytes⟩⟩), (23, ⟨F_wlvref1_Salted_sig, ⟨F_wlvref1_Salted⟩⟩)], []⟩
set_option maxRecDepth 100000 in
theorem F_wlvlaw17_CredReads_text : pvFn F_wlvlaw17_CredReads_env F_wlvlaw17_CredReads_ann Tryd.f4 F_wlvlaw17_CredReads_sig = F_wlvlaw17_CredReads := by kernel_rfl
noncomputable def F_wlvlaw17_CredBack_L10 (s1 : List Int) (s : Bool × Int) : Option (((Bool) ⊕ (Bool)) ⊕ (Bool × Int)) :=
  let b8 := s.1; let i9 := s.2
  cond (decide (i9 < (s1.length : Int)))
  (cond b8
    ((getI s1 i9).bind fun i10 =>
      cond (decide (i10 ≥ 32))
      ((getI s1 i9).bind fun i11 =>
        cond (i11 != 127)
        ((getI s1 i9).bind fun i12 =>
          some (.inr ((i12 != 58), (IntKind.i64.wrap (i9 + 1)))))
        (some (.inr (false, (IntKind.i64.wrap (i9 + 1))))))
      (some (.inr (false, (IntKind.i64.wrap (i9 + 1))))))
    (some (.inr (false, (IntKind.i64.wrap (i9 + 1))))))
  (some (.inl (.inr b8)))
noncomputable def F_wlvlaw17_CredBack_L16 (s2 : List Int) (s : Bool × Int) : Option (((Bool) ⊕ (Bool)) ⊕ (Bool × Int)) :=
  let b14 := s.1; let i15 := s.2
  cond (decide (i15 < (s2.length : Int)))
  (cond b14
    ((getI s2 i15).bind fun i16 =>
      cond (decide (i16 ≥ 32))
      ((getI s2 i15).bind fun i17 =>
        some (.inr ((i17 != 127), (IntKind.i64.wrap (i15 + 1)))))
      (some (.inr (false, (IntKind.i64.wrap (i15 + 1))))))
    (some (.inr (false, (IntKind.i64.wrap (i15 + 1))))))
  (some (.inl (.inr b14)))
noncomputable def F_wlvlaw17_CredBack_L23 (s1 : List Int) (s : Bool × Int) : Option (((Bool) ⊕ (Bool)) ⊕ (Bool × Int)) :=
  let b19 := s.1; let i20 := s.2
  cond (decide (i20 < (s1.length : Int)))
  (cond b19
    (some (.inr (true, (IntKind.i64.wrap (i20 + 1)))))
    ((getI s1 i20).bind fun i21 =>
      some (.inr ((i21 == 58), (IntKind.i64.wrap (i20 + 1))))))
  (some (.inl (.inr b19)))
noncomputable def F_wlvlaw17_CredBack_J21 (s1 : List Int) (s2 : List Int) (s3 : List Int) (l4 : List Int) (b5 : Bool) (b18 : Bool) (s : Bool) : Option (Bool) :=
  let b22 := s
  cond b5
  (chk (Nat.ble (s1.length + ([58] : List Int).length) maxLen)
    (chk (Nat.ble ((s1 ++ ([58] : List Int)).length + s2.length) maxLen)
      ((F_b64_Encode ((s1 ++ ([58] : List Int)) ++ s2)).bind fun s23 =>
        chk (Nat.ble (([66, 97, 83, 73, 67, 32] : List Int).length + s23.length) maxLen)
        ((F_cred_Parse (([66, 97, 83, 73, 67, 32] : List Int) ++ s23)).bind fun x24 =>
          cond ((!b22) && (!(bEq (x24.2.2 == 0) b18)))
          (some false)
          (cond b18
            (cond ((!(x24.1 == s1)) || (!(x24.2.1 == s2)))
              (some false)
              ((F_cred_Make l4 s2).bind fun x25 =>
                (F_wlvref1_Salted l4 s2).bind fun l26 =>
                (F_wlvref1_Salted l4 s3).bind fun l27 =>
                (F_wlvref_Bytes l26 l27).bind fun b28 =>
                chk (Nat.ble (([66, 97, 83, 73, 67, 32] : List Int).length + ([32] : List Int).length) maxLen)
                (chk (Nat.ble (s1.length + ([58] : List Int).length) maxLen)
                  (chk (Nat.ble ((s1 ++ ([58] : List Int)).length + s2.length) maxLen)
                    ((F_b64_Encode ((s1 ++ ([58] : List Int)) ++ s2)).bind fun s29 =>
                      chk (Nat.ble ((([66, 97, 83, 73, 67, 32] : List Int) ++ ([32] : List Int)).length + s29.length) maxLen)
                      ((F_cred_Parse ((([66, 97, 83, 73, 67, 32] : List Int) ++ ([32] : List Int)) ++ s29)).bind fun x30 =>
                        (F_wlvlaw17_first).bind fun b31 =>
                        cond b31
                        ((F_cred_Check x25.1 x25.2 s2).bind fun b32 =>
                          cond b32
                          ((F_cred_Check x25.1 x25.2 s3).bind fun b33 =>
                            some ((bEq b33 b28) && (x30.2.2 == 2)))
                          (some false))
                        (some false)))))))
            ((F_cred_Make l4 s2).bind fun x34 =>
              (F_wlvref1_Salted l4 s2).bind fun l35 =>
              (F_wlvref1_Salted l4 s3).bind fun l36 =>
              (F_wlvref_Bytes l35 l36).bind fun b37 =>
              chk (Nat.ble (([66, 97, 83, 73, 67, 32] : List Int).length + ([32] : List Int).length) maxLen)
              (chk (Nat.ble (s1.length + ([58] : List Int).length) maxLen)
                (chk (Nat.ble ((s1 ++ ([58] : List Int)).length + s2.length) maxLen)
                  ((F_b64_Encode ((s1 ++ ([58] : List Int)) ++ s2)).bind fun s38 =>
                    chk (Nat.ble ((([66, 97, 83, 73, 67, 32] : List Int) ++ ([32] : List Int)).length + s38.length) maxLen)
                    ((F_cred_Parse ((([66, 97, 83, 73, 67, 32] : List Int) ++ ([32] : List Int)) ++ s38)).bind fun x39 =>
                      (F_wlvlaw17_first).bind fun b40 =>
                      cond b40
                      ((F_cred_Check x34.1 x34.2 s2).bind fun b41 =>
                        cond b41
                        ((F_cred_Check x34.1 x34.2 s3).bind fun b42 =>
                          some ((bEq b42 b37) && (x39.2.2 == 2)))
                        (some false))
                      (some false)))))))))))
  (chk (Nat.ble (s1.length + ([58] : List Int).length) maxLen)
    (chk (Nat.ble ((s1 ++ ([58] : List Int)).length + s2.length) maxLen)
      ((F_b64_Encode ((s1 ++ ([58] : List Int)) ++ s2)).bind fun s43 =>
        chk (Nat.ble (([98, 97, 115, 105, 99, 32] : List Int).length + s43.length) maxLen)
        ((F_cred_Parse (([98, 97, 115, 105, 99, 32] : List Int) ++ s43)).bind fun x44 =>
          cond ((!b22) && (!(bEq (x44.2.2 == 0) b18)))
          (some false)
          (cond b18
            (cond ((!(x44.1 == s1)) || (!(x44.2.1 == s2)))
              (some false)
              ((F_cred_Make l4 s2).bind fun x45 =>
                (F_wlvref1_Salted l4 s2).bind fun l46 =>
                (F_wlvref1_Salted l4 s3).bind fun l47 =>
                (F_wlvref_Bytes l46 l47).bind fun b48 =>
                chk (Nat.ble (([98, 97, 115, 105, 99, 32] : List Int).length + ([32] : List Int).length) maxLen)
                (chk (Nat.ble (s1.length + ([58] : List Int).length) maxLen)
                  (chk (Nat.ble ((s1 ++ ([58] : List Int)).length + s2.length) maxLen)
                    ((F_b64_Encode ((s1 ++ ([58] : List Int)) ++ s2)).bind fun s49 =>
                      chk (Nat.ble ((([98, 97, 115, 105, 99, 32] : List Int) ++ ([32] : List Int)).length + s49.length) maxLen)
                      ((F_cred_Parse ((([98, 97, 115, 105, 99, 32] : List Int) ++ ([32] : List Int)) ++ s49)).bind fun x50 =>
                        (F_wlvlaw17_first).bind fun b51 =>
                        cond b51
                        ((F_cred_Check x45.1 x45.2 s2).bind fun b52 =>
                          cond b52
                          ((F_cred_Check x45.1 x45.2 s3).bind fun b53 =>
                            some ((bEq b53 b48) && (x50.2.2 == 2)))
                          (some false))
                        (some false)))))))
            ((F_cred_Make l4 s2).bind fun x54 =>
              (F_wlvref1_Salted l4 s2).bind fun l55 =>
              (F_wlvref1_Salted l4 s3).bind fun l56 =>
              (F_wlvref_Bytes l55 l56).bind fun b57 =>
              chk (Nat.ble (([98, 97, 115, 105, 99, 32] : List Int).length + ([32] : List Int).length) maxLen)
              (chk (Nat.ble (s1.length + ([58] : List Int).length) maxLen)
                (chk (Nat.ble ((s1 ++ ([58] : List Int)).length + s2.length) maxLen)
                  ((F_b64_Encode ((s1 ++ ([58] : List Int)) ++ s2)).bind fun s58 =>
                    chk (Nat.ble ((([98, 97, 115, 105, 99, 32] : List Int) ++ ([32] : List Int)).length + s58.length) maxLen)
                    ((F_cred_Parse ((([98, 97, 115, 105, 99, 32] : List Int) ++ ([32] : List Int)) ++ s58)).bind fun x59 =>
                      (F_wlvlaw17_first).bind fun b60 =>
                      cond b60
                      ((F_cred_Check x54.1 x54.2 s2).bind fun b61 =>
                        cond b61
                        ((F_cred_Check x54.1 x54.2 s3).bind fun b62 =>
                          some ((bEq b62 b57) && (x59.2.2 == 2)))
                        (some false))
                      (some false)))))))))))
noncomputable def F_wlvlaw17_CredBack_J14 (s1 : List Int) (s2 : List Int) (s3 : List Int) (l4 : List Int) (b5 : Bool) (s : Bool) : Option (Bool) :=
  let b18 := s
  joinC (S := Bool) (R := Bool)
  (loopC (S := Bool × Int) (R := (Bool) ⊕ (Bool)) (F_wlvlaw17_CredBack_L23 s1) (false, 0))
  (F_wlvlaw17_CredBack_J21 s1 s2 s3 l4 b5 b18)
noncomputable def F_wlvlaw17_CredBack_J8 (s1 : List Int) (s2 : List Int) (s3 : List Int) (l4 : List Int) (b5 : Bool) (s : Bool) : Option (Bool) :=
  let b13 := s
  joinC (S := Bool) (R := Bool)
  (loopC (S := Bool × Int) (R := (Bool) ⊕ (Bool)) (F_wlvlaw17_CredBack_L16 s2) (b13, 0))
  (F_wlvlaw17_CredBack_J14 s1 s2 s3 l4 b5)
noncomputable def F_wlvlaw17_CredBack (s1 : List Int) (s2 : List Int) (s3 : List Int) (l4 : List Int) (b5 : Bool) : Option (Bool) :=
  (F_wlvlaw17_first).bind fun b6 =>
  cond (!b6)
  (some false)
  (cond ((((decide ((s1.length : Int) > 300)) || (decide ((s2.length : Int) > 300))) || (decide ((s3.length : Int) > 300))) || (decide ((l4.length : Int) > 300)))
    ((F_wlvlaw17_first).bind fun b7 =>
      some b7)
    (joinC (S := Bool) (R := Bool)
      (loopC (S := Bool × Int) (R := (Bool) ⊕ (Bool)) (F_wlvlaw17_CredBack_L10 s1) ((((decide ((s1.length : Int) ≥ 1)) && (decide ((s1.length : Int) ≤ 64))) && (decide ((s2.length : Int) ≤ 256))), 0))
      (F_wlvlaw17_CredBack_J8 s1 s2 s3 l4 b5)))
def F_wlvlaw17_CredBack_sig : Sig := ⟨[.v false [.d .str], .v false [.d .str], .v false [.d .str], .v false [.d (.sl (.int .u8))], .v false [.d .bool]], [(false, [.d .bool])]⟩
def F_wlvlaw17_CredBack_ann : List (Nat × Ann) := [(8, ⟨9, [(11, false, [.d .bool])], [], [12, 59, 60, 61, 62, 63, 64, 65, 66, 67, 68, 69, 70, 71, 72, 73, 74, 75, 76, 77, 78, 79, 80, 81, 82, 83], []⟩), (10, ⟨11, [(11, false, [.d .bool]), (12, false, [.d (.int .i64)])], [], [59, 60, 61, 62, 63, 64, 65, 66, 67, 68, 69, 70, 71, 72, 73, 74, 75, 76, 77, 78, 79, 80, 81, 82, 83], []⟩), (14, ⟨15, [(11, false, [.d .bool])], [], [13, 84, 85, 86, 87, 88, 89, 90, 91, 92, 93, 94, 95, 96, 97, 98, 99, 100, 101, 102], []⟩), (16, ⟨17, [(11, false, [.d .bool]), (13, false, [.d (.int .i64)])], [], [84, 85, 86, 87, 88, 89, 90, 91, 92, 93, 94, 95, 96, 97, 98, 99, 100, 101, 102], []⟩), (21, ⟨22, [(14, false, [.d .bool])], [], [15, 103, 104, 105, 106, 107, 108, 109, 110, 111, 112, 113, 114, 115], []⟩), (23, ⟨24, [(14, false, [.d .bool]), (15, false, [.d (.int .i64)])], [], [103, 104, 105, 106, 107, 108, 109, 110, 111, 112, 113, 114, 115], []⟩)]
noncomputable def F_wlvlaw17_CredBack_env : Env := ⟨Tryd.prog, [(15, ⟨F_wlvlaw17_first_sig, ⟨F_wlvlaw17_first⟩⟩), (16, ⟨F_cred_Parse_sig, ⟨F_cred_Parse⟩⟩), (17, ⟨F_b64_Encode_sig, ⟨F_b64_Encode⟩⟩), (19, ⟨F_cred_Make_sig, ⟨F_cred_Make⟩⟩), (20, ⟨F_cred_Check_sig, ⟨F_cred_Check⟩⟩), (22, ⟨F_wlvref_Bytes_sig, ⟨F_wlvref_Bytes⟩⟩), (23, ⟨F_wlvref1_Salted_sig, ⟨F_wlvref1_Salted⟩⟩)], []⟩
set_option maxRecDepth 100000 in
theorem F_wlvlaw17_CredBack_text : pvFn F_wlvlaw17_CredBack_env F_wlvlaw17_CredBack_ann Tryd.f5 F_wlvlaw17_CredBack_sig = F_wlvlaw17_CredBack := by kernel_rfl
end Go.Proofs.YtblngdnndkljoaaDoor

/- The functions compute what their Lean functions tell. -/
namespace Go.Proofs.YtblngdnndkljoaaDoor
open Pv
theorem F_strings_trimRightByte_sound {T : Tab} : SoundFn Tryd.prog T 108 F_strings_trimRightByte_sig ⟨F_strings_trimRightByte⟩ := by
  have h := fn_sound (T := T) (E := F_strings_trimRightByte_env) (by unfold Env.ok; exact fun p h => by cases h) (A := F_strings_trimRightByte_ann) (f := 108) (fn := Tryd.f108) (s := F_strings_trimRightByte_sig) Tryd.func108
  rw [F_strings_trimRightByte_text] at h
  exact h
theorem F_strings_makeASCIISet_sound {T : Tab} : SoundFn Tryd.prog T 109 F_strings_makeASCIISet_sig ⟨F_strings_makeASCIISet⟩ := by
  have h := fn_sound (T := T) (E := F_strings_makeASCIISet_env) (by unfold Env.ok; exact fun p h => by cases h) (A := F_strings_makeASCIISet_ann) (f := 109) (fn := Tryd.f109) (s := F_strings_makeASCIISet_sig) Tryd.func109
  rw [F_strings_makeASCIISet_text] at h
  exact h
theorem F_strings_asciiSet_contains_sound {T : Tab} : SoundFn Tryd.prog T 142 F_strings_asciiSet_contains_sig ⟨F_strings_asciiSet_contains⟩ := by
  have h := fn_sound (T := T) (E := F_strings_asciiSet_contains_env) (by unfold Env.ok; exact fun p h => by cases h) (A := F_strings_asciiSet_contains_ann) (f := 142) (fn := Tryd.f142) (s := F_strings_asciiSet_contains_sig) Tryd.func142
  rw [F_strings_asciiSet_contains_text] at h
  exact h
theorem F_strings_trimRightASCII_sound {T : Tab} : SoundFn Tryd.prog T 110 F_strings_trimRightASCII_sig ⟨F_strings_trimRightASCII⟩ := by
  have h := fn_sound (T := T) (E := F_strings_trimRightASCII_env) (by unfold Env.ok; exact List.forall_mem_cons.2 ⟨F_strings_asciiSet_contains_sound, fun p h => by cases h⟩) (A := F_strings_trimRightASCII_ann) (f := 110) (fn := Tryd.f110) (s := F_strings_trimRightASCII_sig) Tryd.func110
  rw [F_strings_trimRightASCII_text] at h
  exact h
theorem F_unicode_utf8_decodeRuneInStringSlow_sound {T : Tab} : SoundFn Tryd.prog T 105 F_unicode_utf8_decodeRuneInStringSlow_sig ⟨F_unicode_utf8_decodeRuneInStringSlow⟩ := by
  have h := fn_sound (T := T) (E := F_unicode_utf8_decodeRuneInStringSlow_env) (by unfold Env.ok; exact fun p h => by cases h) (A := F_unicode_utf8_decodeRuneInStringSlow_ann) (f := 105) (fn := Tryd.f105) (s := F_unicode_utf8_decodeRuneInStringSlow_sig) Tryd.func105
  rw [F_unicode_utf8_decodeRuneInStringSlow_text] at h
  exact h
theorem F_unicode_utf8_DecodeRuneInString_sound {T : Tab} : SoundFn Tryd.prog T 77 F_unicode_utf8_DecodeRuneInString_sig ⟨F_unicode_utf8_DecodeRuneInString⟩ := by
  have h := fn_sound (T := T) (E := F_unicode_utf8_DecodeRuneInString_env) (by unfold Env.ok; exact List.forall_mem_cons.2 ⟨F_unicode_utf8_decodeRuneInStringSlow_sound, fun p h => by cases h⟩) (A := F_unicode_utf8_DecodeRuneInString_ann) (f := 77) (fn := Tryd.f77) (s := F_unicode_utf8_DecodeRuneInString_sig) Tryd.func77
  rw [F_unicode_utf8_DecodeRuneInString_text] at h
  exact h
theorem F_unicode_utf8_RuneStart_sound {T : Tab} : SoundFn Tryd.prog T 167 F_unicode_utf8_RuneStart_sig ⟨F_unicode_utf8_RuneStart⟩ := by
  have h := fn_sound (T := T) (E := F_unicode_utf8_RuneStart_env) (by unfold Env.ok; exact fun p h => by cases h) (A := F_unicode_utf8_RuneStart_ann) (f := 167) (fn := Tryd.f167) (s := F_unicode_utf8_RuneStart_sig) Tryd.func167
  rw [F_unicode_utf8_RuneStart_text] at h
  exact h
theorem F_unicode_utf8_DecodeLastRuneInString_sound {T : Tab} : SoundFn Tryd.prog T 143 F_unicode_utf8_DecodeLastRuneInString_sig ⟨F_unicode_utf8_DecodeLastRuneInString⟩ := by
  have h := fn_sound (T := T) (E := F_unicode_utf8_DecodeLastRuneInString_env) (by unfold Env.ok; exact List.forall_mem_cons.2 ⟨F_unicode_utf8_DecodeRuneInString_sound, List.forall_mem_cons.2 ⟨F_unicode_utf8_RuneStart_sound, fun p h => by cases h⟩⟩) (A := F_unicode_utf8_DecodeLastRuneInString_ann) (f := 143) (fn := Tryd.f143) (s := F_unicode_utf8_DecodeLastRuneInString_sig) Tryd.func143
  rw [F_unicode_utf8_DecodeLastRuneInString_text] at h
  exact h
theorem F_strings_ContainsRune_sound {T : Tab} : SoundFn Tryd.prog T 144 F_strings_ContainsRune_sig ⟨F_strings_ContainsRune⟩ := by
  have h := fn_sound (T := T) (E := F_strings_ContainsRune_env) (by unfold Env.ok; exact fun p h => by cases h) (A := F_strings_ContainsRune_ann) (f := 144) (fn := Tryd.f144) (s := F_strings_ContainsRune_sig) Tryd.func144
  rw [F_strings_ContainsRune_text] at h
  exact h
theorem F_strings_trimRightUnicode_sound {T : Tab} : SoundFn Tryd.prog T 111 F_strings_trimRightUnicode_sig ⟨F_strings_trimRightUnicode⟩ := by
  have h := fn_sound (T := T) (E := F_strings_trimRightUnicode_env) (by unfold Env.ok; exact List.forall_mem_cons.2 ⟨F_unicode_utf8_DecodeLastRuneInString_sound, List.forall_mem_cons.2 ⟨F_strings_ContainsRune_sound, fun p h => by cases h⟩⟩) (A := F_strings_trimRightUnicode_ann) (f := 111) (fn := Tryd.f111) (s := F_strings_trimRightUnicode_sig) Tryd.func111
  rw [F_strings_trimRightUnicode_text] at h
  exact h
theorem F_strings_TrimRight_sound {T : Tab} : SoundFn Tryd.prog T 79 F_strings_TrimRight_sig ⟨F_strings_TrimRight⟩ := by
  have h := fn_sound (T := T) (E := F_strings_TrimRight_env) (by unfold Env.ok; exact List.forall_mem_cons.2 ⟨F_strings_trimRightByte_sound, List.forall_mem_cons.2 ⟨F_strings_makeASCIISet_sound, List.forall_mem_cons.2 ⟨F_strings_trimRightASCII_sound, List.forall_mem_cons.2 ⟨F_strings_trimRightUnicode_sound, fun p h => by cases h⟩⟩⟩⟩) (A := F_strings_TrimRight_ann) (f := 79) (fn := Tryd.f79) (s := F_strings_TrimRight_sig) Tryd.func79
  rw [F_strings_TrimRight_text] at h
  exact h
theorem F_b64_Decode_sound {T : Tab} : SoundFn Tryd.prog T 47 F_b64_Decode_sig ⟨F_b64_Decode⟩ := by
  have h := fn_sound (T := T) (E := F_b64_Decode_env) (by unfold Env.ok; exact List.forall_mem_cons.2 ⟨F_b64_Encode_sound, List.forall_mem_cons.2 ⟨F_strings_TrimRight_sound, List.forall_mem_cons.2 ⟨F_strings_IndexByte_sound, fun p h => by cases h⟩⟩⟩) (A := F_b64_Decode_ann) (f := 47) (fn := Tryd.f47) (s := F_b64_Decode_sig) Tryd.func47
  rw [F_b64_Decode_text] at h
  exact h
end Go.Proofs.YtblngdnndkljoaaDoor

/- The functions compute what their Lean functions tell. -/
namespace Go.Proofs.YtblngdnndkljoaaDoor
open Pv
theorem F_wlvref1_sign_sound {T : Tab} : SoundFn Tryd.prog T 115 F_wlvref1_sign_sig ⟨F_wlvref1_sign⟩ := by
  have h := fn_sound (T := T) (E := F_wlvref1_sign_env) (by unfold Env.ok; exact fun p h => by cases h) (A := F_wlvref1_sign_ann) (f := 115) (fn := Tryd.f115) (s := F_wlvref1_sign_sig) Tryd.func115
  rw [F_wlvref1_sign_text] at h
  exact h
theorem F_wlvref1_value_sound {T : Tab} : SoundFn Tryd.prog T 83 F_wlvref1_value_sig ⟨F_wlvref1_value⟩ := by
  have h := fn_sound (T := T) (E := F_wlvref1_value_env) (by unfold Env.ok; exact List.forall_mem_cons.2 ⟨F_wlvref1_sign_sound, fun p h => by cases h⟩) (A := F_wlvref1_value_ann) (f := 83) (fn := Tryd.f83) (s := F_wlvref1_value_sig) Tryd.func83
  rw [F_wlvref1_value_text] at h
  exact h
theorem F_wlvref1_Decode_sound {T : Tab} : SoundFn Tryd.prog T 53 F_wlvref1_Decode_sig ⟨F_wlvref1_Decode⟩ := by
  have h := fn_sound (T := T) (E := F_wlvref1_Decode_env) (by unfold Env.ok; exact List.forall_mem_cons.2 ⟨F_wlvref1_value_sound, List.forall_mem_cons.2 ⟨F_wlvref1_Encode_sound, fun p h => by cases h⟩⟩) (A := F_wlvref1_Decode_ann) (f := 53) (fn := Tryd.f53) (s := F_wlvref1_Decode_sig) Tryd.func53
  rw [F_wlvref1_Decode_text] at h
  exact h
end Go.Proofs.YtblngdnndkljoaaDoor

/- sha.primes of sixty-four: by hand, over its closure. -/
namespace Go.Proofs.YtblngdnndkljoaaDoor
open Go.RowKit Pv
set_option linter.unusedVariables false
def qcell (n : Nat) : Value := .int .u64 (n : Int)
set_option maxHeartbeats 4000000 in
set_option maxRecDepth 1000000 in
theorem idxf_walk (a : Option Addr) (c : Nat) (l : List Nat) (p B : Nat) (w : World) (hp : 2 ≤ p) (hp2 : p ≤ 312) (hpos : ∀ q ∈ l, 2 ≤ q ∧ q < 312) (hl : l.length ≤ 100) (hB : w.cell? ⟨B, 0, none⟩ = some (.int .u64 (p : Int)))
    (hc : ∀ (i : Nat) q, l[i]? = some q → ∃ ad, a = some ad ∧ w.cell? (ad.add i) = some (.int .u64 (q : Int))) :
    Calls Tryd.prog 170 #[.slice a l.length c, .func (.func 150) #[] #[.pointer (some ⟨B, 0, none⟩)]] w fun e w' => ∃ r : Int, e = .returned (.int .i64 r) ∧ (decide (r ≥ 0) = divs p l) ∧ w' = w := by
  obtain ⟨n, hn⟩ : ∃ n, l.length = n := ⟨_, rfl⟩
  rw [hn]
  go_enter Tryd.func170, Tryd.ntmps170
  go_wp2
  go_loop [8] (fun i => ∃ k : Nat, i = .int .i64 k ∧ k ≤ n ∧ ∀ (j : Nat) q, j < k → l[j]? = some q → (p % q == 0) = false) (fun i => n - (intOf i).toNat)
  case atStart => exact ⟨0, rfl, Nat.zero_le _, fun j q hj => absurd hj (Nat.not_lt_zero j)⟩
  case round =>
    obtain ⟨k, rfl, hk, hno⟩ := hrel
    by_cases hlt : k < n
    · obtain ⟨q, hq⟩ : ∃ q, l[k]? = some q := ⟨l[k]'(by omega), List.getElem?_eq_getElem (by omega)⟩
      obtain ⟨ad, rfl, hcell⟩ := hc k q hq
      obtain ⟨q2, q3⟩ := hpos q (List.mem_of_getElem? hq)
      have hq0 : ¬ (q : Int) = 0 := by omega
      have hmod : Int.tmod (p : Int) (q : Int) = ((p % q : Nat) : Int) := rfl
      clear hc
      have hdm : (((p % q : Nat) : Int) == 0) = (p % q == 0) := by
        rw [Bool.eq_iff_iff, beq_iff_eq, beq_iff_eq]; omega
      go_wp2
      · rename_i h _
        have hd : p % q = 0 := by exact_mod_cast (beq_iff_eq.1 h)
        go_ret
        refine ⟨(k : Int), rfl, ?_, rfl⟩
        rw [decide_eq_true (show (k : Int) ≥ 0 by omega)]
        exact (List.any_eq_true.2 ⟨q, List.mem_of_getElem? hq, by rw [hd]; rfl⟩).symm
      · rename_i h
        have hd : ¬ p % q = 0 := by
          try simp at h
          omega
        refine ⟨⟨k + 1, by simp, by omega, fun j q' hj hq' => ?_⟩, by simp [RowKit.intOf]; omega⟩
        by_cases hjk : j = k
        · subst hjk
          rw [hq] at hq'
          injection hq' with hq'
          subst hq'
          simpa using hd
        · exact hno j q' (by omega) hq'
    · go_wp2
      go_ret
      refine ⟨-1, rfl, ?_, rfl⟩
      have : divs p l = false := by
        unfold divs
        rw [Bool.eq_false_iff]
        intro h
        obtain ⟨q, hq, hz⟩ := List.any_eq_true.1 h
        obtain ⟨j, hj⟩ := List.mem_iff_getElem?.1 hq
        have hjl := (List.getElem?_eq_some_iff.1 hj).1
        rw [hno j q (by omega) hj] at hz
        cases hz
      rw [this]; rfl
set_option maxHeartbeats 4000000 in
set_option maxRecDepth 1000000 in
theorem conf_walk (a : Option Addr) (n c : Nat) (l : List Nat) (p B : Nat) (w : World) (hn : l.length = n) (hp : 2 ≤ p) (hp2 : p ≤ 312) (hpos : ∀ q ∈ l, 2 ≤ q ∧ q < 312) (hl : l.length ≤ 100) (hB : w.cell? ⟨B, 0, none⟩ = some (.int .u64 (p : Int)))
    (hc : ∀ (i : Nat) q, l[i]? = some q → ∃ ad, a = some ad ∧ w.cell? (ad.add i) = some (.int .u64 (q : Int))) :
    Calls Tryd.prog 149 #[.slice a n c, .func (.func 150) #[] #[.pointer (some ⟨B, 0, none⟩)]] w fun e w' => e = .returned (.bool (divs p l)) ∧ w' = w := by
  subst hn
  have A := idxf_walk a c l p B w hp hp2 hpos hl hB hc
  go_enter Tryd.func149, Tryd.ntmps149
  go_wp2_with (go_at_call 170; (with_reducible refine A.mono ?_); rintro e w' ⟨r, rfl, hr, rfl⟩)
  go_ret
  exact ⟨by rw [← hr]; rfl, rfl⟩
theorem infoQ : (Tryd.prog.info? 101).map (fun i => (i.zero, i.size, i.bytes)) = some (some (.int .u64 0), 1, 8) := by kernel_rfl
/-- A row and a number behind it. -/
structure PrmI (w0 : World) (v : Value) (p B : Nat) (wr : World) : Prop where
  h2 : 2 ≤ p
  h3 : p ≤ 312
  hB : wr.heap[B]? = some (.cells #[.int .u64 (p : Int)] 101)
  own : wr.ownsRow w0.heap.size 101 1 v (mN p) ((rowP p).map qcell)
  lt : ∀ k, v.ownBlock = some k → k < B
  bel : Below w0.heap.size w0 wr
  ge : w0.heap.size ≤ B
theorem own_view {w : World} {base : Nat} {e : TypeId} {v : Value} {n : Nat} {l : List Nat} (hl : l.length = n) (h : w.ownsRow base e 1 v n (l.map qcell)) : ∃ a c, v = .slice a n c ∧ ∀ (i : Nat) q, l[i]? = some q → ∃ ad, a = some ad ∧ w.cell? (ad.add i) = some (.int .u64 (q : Int)) := by
  rcases h.2 with ⟨h1, h2⟩ | ⟨b, cap, cur, h1, hb, hg, hle, hm, hs, ht⟩
  · refine ⟨none, 0, by rw [h1, h2], fun i q hq => ?_⟩
    have : l = [] := List.eq_nil_of_length_eq_zero (by omega)
    rw [this] at hq; cases hq
  · refine ⟨some ⟨b, 0, none⟩, cap, h1, fun i q hq => ⟨_, rfl, ?_⟩⟩
    have hi := (List.getElem?_eq_some_iff.1 hq).1
    have e : (cur.toList.take (n * 1))[i]? = some (.int .u64 (q : Int)) := by
      rw [ht, List.getElem?_map, hq]; rfl
    have ea : Addr.add ⟨b, 0, none⟩ i = ⟨b, i, none⟩ := by
      unfold Addr.add
      split <;> simp_all
    rw [ea, cell_at hg]
    rw [List.getElem?_take] at e
    split at e
    · simpa using e
    · cases e
theorem own_lt {w : World} {base : Nat} {e : TypeId} {v : Value} {n size : Nat} {l : List Value} (h : w.ownsRow base e size v n l) {k : Nat} (hk : v.ownBlock = some k) : k < w.heap.size := by
  rcases h.2 with ⟨h1, h2⟩ | ⟨b, cap, cur, h1, hb, hg, _⟩
  · rw [h1] at hk; cases hk
  · rw [h1] at hk
    have hk : b = k := by simpa [Value.ownBlock] using hk
    rw [← hk]
    exact lt_of_cells hg
def pOf (pt : Value) (wr : World) : Nat := match pt with
  | .pointer (some ad) => match wr.cell? ad with | some (.int _ n) => n.toNat | _ => 0
  | _ => 0
theorem prm_next {w wr : World} {v : Value} {p : Nat} (h2 : 2 ≤ p) (hp : p ≤ 311) (hown : wr.ownsRow w.heap.size 101 1 v (mN (p + 1)) ((rowP (p + 1)).map qcell)) (hbel : Below w.heap.size w wr) :
    PrmI w v (p + 1) wr.heap.size (wr.alloc (.cells #[.int .u64 ((p : Int) + 1)] 101)) where
  h2 := by omega
  h3 := by omega
  hB := by
    rw [heap_alloc_new]
    have : ((p : Int) + 1) = ((p + 1 : Nat) : Int) := by omega
    rw [this]
  own := hown.alloc _
  lt := fun k hk => own_lt hown hk
  bel := hbel.alloc hbel.size _
  ge := hbel.size
theorem pOf_new (wr : World) (p : Nat) (t : TypeId) : pOf (.pointer (some ⟨wr.heap.size, 0, none⟩)) (wr.alloc (.cells #[.int .u64 ((p : Int) + 1)] t)) = p + 1 := by
  unfold pOf
  dsimp only
  rw [cell_at (heap_alloc_new wr _)]
  show ((p : Int) + 1).toNat = p + 1
  omega
theorem pOf_old {wr : World} {B p : Nat} (h : wr.cell? ⟨B, 0, none⟩ = some (.int .u64 (p : Int))) : pOf (.pointer (some ⟨B, 0, none⟩)) wr = p := by
  unfold pOf
  dsimp only
  rw [h]; rfl
set_option maxHeartbeats 8000000 in
set_option maxRecDepth 1000000 in
theorem primes_walk (w : World) : Calls Tryd.prog 116 #[.int .i64 64] w fun e w' => ∃ v, e = .returned v ∧ w'.ownsRow w.heap.size 101 1 v 64 (P64N.map qcell) ∧ Below w.heap.size w w' := by
  obtain ⟨i0, hi, hz0, hz1, hz2⟩ := info_parts infoQ
  go_enter Tryd.func116, Tryd.ntmps116
  go_wp2
  go_loopw [3, 4] (fun v pt wr => ∃ p B : Nat, pt = .pointer (some ⟨B, 0, none⟩) ∧ PrmI w v p B wr) (fun _ pt wr => 400 - pOf pt wr)
  case atStart =>
    refine ⟨2, w.heap.size, rfl, by omega, by omega, ?_, ?_, fun k hk => by simp [Value.ownBlock] at hk, (Below.refl _ w).alloc (Nat.le_refl _) _, Nat.le_refl _⟩
    · rw [heap_alloc_new]; rfl
    · rw [p_start, row_start]
      exact World.ownsRow_nil _ _ _ _
  case round =>
    obtain ⟨p, B, rfl, hI⟩ := hrel
    obtain ⟨h2, h3, hB, hown, hlt, hbel, hge⟩ := hI
    have hrl := row_len h3 h2
    obtain ⟨a, c, rfl, hc⟩ := own_view hrl hown
    have hcell : wr.cell? ⟨B, 0, none⟩ = some (.int .u64 (p : Int)) := by rw [cell_at hB]; rfl
    by_cases hp : p ≤ 311
    · obtain ⟨s1, s2, s3⟩ := p_step h2 hp
      have hcw := conf_walk a (mN p) c (rowP p) p B wr hrl h2 h3 (fun q hq => row_pos hq) (by omega) hcell hc
      have K : Aside (wr.ownsRow w.heap.size 101 1 (.slice a (mN p) c) (mN p) ((rowP p).map qcell)) := hown
      clear hown hc hrl
      by_cases hd : divs p (rowP p) = true
      · rw [hd] at hcw
        go_wp2_with (go_at_call 149; (with_reducible refine hcw.mono ?_); rintro e w' ⟨rfl, rfl⟩)
        have e := s2 hd
        have hK : w'.ownsRow w.heap.size 101 1 (.slice a (mN p) c) (mN (p + 1)) ((rowP (p + 1)).map qcell) := by
          have : rowP (p + 1) = rowP p := by unfold rowP; rw [e]
          rw [e, this]; exact K
        exact ⟨⟨p + 1, w'.heap.size, rfl, prm_next h2 hp hK hbel⟩, by rw [pOf_new, pOf_old hcell]; omega⟩
      · have hd : divs p (rowP p) = false := by simpa using hd
        obtain ⟨e1, e2⟩ := s3 hd
        rw [hd] at hcw
        have Q : Aside (PrmI w (.slice a (mN p) c) p B wr) := ⟨h2, h3, hB, K, hlt, hbel, hge⟩
        go_wp2_with (first
          | (go_at_call 149; (with_reducible refine hcw.mono ?_); rintro e w' ⟨rfl, rfl⟩)
          | (at_builtin; refine wpList_append_own _ rfl _ _ 132 rfl w.heap.size 101 i0 (.int .u64 0) 1 8 Tryd.underlying132 hi hz0 hz1 hz2 rfl (by decide) _ _ _ rfl (Q.own.alloc _) _ 1 1 [.int .u64 (p : Int)] rfl ?qa ?qb ?qc ?qd ?qe ?qf ?qg))
        case qa => rfl
        case qb =>
          intro j u hj
          have hj0 : j = 0 := by
            have := (List.getElem?_eq_some_iff.1 hj).1
            simpa using this
          subst hj0
          have hu : Value.int .u64 (p : Int) = u := by
            have hj : some (Value.int .u64 (p : Int)) = some u := hj
            injection hj
          have ea : Addr.add ⟨w'.heap.size, 0, none⟩ 0 = ⟨w'.heap.size, 0, none⟩ := by
            unfold Addr.add
            split <;> simp_all
          rw [ea, cell_at (heap_alloc_new w' _), ← hu]; rfl
        case qc => intro u hu; rw [List.mem_singleton.1 hu]; rfl
        case qd => unfold maxLen; omega
        case qe => omega
        case qf => rw [World.size_alloc]; have := hbel.size; omega
        case qg =>
          intro v2 w2 g1 g2 g3
          have hBs : B < w'.heap.size := lt_of_cells hB
          have hne : ∀ k, (Value.slice a (mN p) c).ownBlock = some k → k ≠ B := fun k hk => by have := hlt k hk; omega
          have hB2 : w2.heap[B]? = some (.cells #[.int .u64 (p : Int)] 101) := by
            rw [g2.block B (by rw [World.size_alloc]; omega) (fun e => hne B e.symm rfl), heap_alloc_old _ _ hBs]
            exact hB
          have hc2 : w2.cell? ⟨B, 0, none⟩ = some (.int .u64 (p : Int)) := by rw [cell_at hB2]; rfl
          have hK : w2.ownsRow w.heap.size 101 1 v2 (mN (p + 1)) ((rowP (p + 1)).map qcell) := by
            rw [e1, e2, List.map_append]; exact g1
          have hbel2 : Below w.heap.size w w2 := (hbel.alloc hbel.size _).grown g2 (by rw [World.size_alloc]; have := hbel.size; omega) (fun k hk => (K.lt k hk).1)
          clear g1 g2 g3
          go_wp2
          exact ⟨⟨p + 1, w2.heap.size, rfl, prm_next h2 hp hK hbel2⟩, by rw [pOf_new, pOf_old hcell]; omega⟩
    · have hp : p = 312 := by omega
      subst hp
      have hm : mN 312 = 64 := p_end
      have K : Aside (wr.ownsRow w.heap.size 101 1 (.slice a (mN 312) c) (mN 312) ((rowP 312).map qcell)) := hown
      rw [hm, row_end] at K
      rw [hm]
      clear hown hc hrl
      go_wp2
      go_ret
      exact ⟨_, rfl, K, hbel⟩
theorem F_sha_primes_sound {T : Tab} : SoundFn Tryd.prog T 116 F_sha_primes_sig ⟨F_sha_primes⟩ := by
  refine sound_of rfl fun F g O xs ls y tmf w args hT hw hlim hls happ hsz hr => ?_
  obtain ⟨(n : Int), xs', rfl, h2⟩ := appF_inv_c (ts := []) happ
  obtain ⟨rfl, h3⟩ := appF_inv_n h2
  have hls' : some [Leaf.d (.int .i64) n] = some ls := hls
  injection hls' with hls'
  subst hls'
  obtain ⟨e0, e1⟩ := rel_int (hr 0)
  rw [args_1 hsz, e0]
  have h3 : cond (n == 64) (some P64) none = some y := h3
  cases hb : n == 64 with
  | false => rw [hb] at h3; cases h3
  | true =>
    rw [hb] at h3
    have hy : P64 = y := by injection h3
    have hn : n = 64 := beq_iff_eq.1 hb
    subst hy
    subst hn
    refine (primes_walk w).mono ?_
    rintro e w' ⟨v, rfl, h1, h2⟩
    have e64 : P64.map (Value.int .u64) = P64N.map qcell := by
      unfold P64
      rw [List.map_map]; rfl
    have hl : P64.length = 64 := by kernel_rfl
    refine own_row (l := P64) hw hlim h2 (by rw [e64, hl]; exact h1) (fun x hx => ?_) rfl rfl
    obtain ⟨q, hq, rfl⟩ := List.mem_map.1 hx
    have := List.all_eq_true.1 (show P64N.all (fun q => decide (q < 312)) = true by kernel_rfl) q hq
    have := of_decide_eq_true this
    exact wfQ' (by omega) (by omega)
end Go.Proofs.YtblngdnndkljoaaDoor

/- slices.Concat of bytes: by hand. -/
namespace Go.Proofs.YtblngdnndkljoaaDoor
open Go.RowKit Go.Lib Pv
set_option linter.unusedVariables false
def growRen : Go.Shelf.Ren := ⟨fun | 4 => 120 | n => n, fun | 22 => 27 | 25 => 5 | n => n, fun n => n⟩
theorem growLays : Lays8.n4 Tryd.prog growRen := {
  mixed := by kernel_rfl
  f4 := ⟨"slices.Grow[[]byte,byte]", by decide, Tryd.func120.trans (congrArg some (by kernel_rfl))⟩
  t0 := Tryd.underlying0
  a0 := Tryd.isAgg0
  z0 := Tryd.sizeOf0
  v0 := Tryd.zeroValue0
  t3 := Tryd.underlying3
  a3 := Tryd.isAgg3
  z3 := Tryd.sizeOf3
  v3 := Tryd.zeroValue3
  t4 := Tryd.underlying4
  a4 := Tryd.isAgg4
  z4 := Tryd.sizeOf4
  v4 := Tryd.zeroValue4
  t9 := Tryd.underlying9
  a9 := Tryd.isAgg9
  z9 := Tryd.sizeOf9
  v9 := Tryd.zeroValue9
  t20 := Tryd.underlying20
  a20 := Tryd.isAgg20
  z20 := Tryd.sizeOf20
  v20 := Tryd.zeroValue20
  t22 := Tryd.underlying27
  a22 := Tryd.isAgg27
  z22 := Tryd.sizeOf27
  v22 := Tryd.zeroValue27 }
/-- Room for so many bytes, out of nothing. -/
theorem grow_nil (n : Nat) (hn : n ≤ 1000000000) (w : World) :
    Calls Tryd.prog 120 #[.slice none 0 0, .int .i64 n] w fun e w' => ∃ v, e = .returned v ∧ w'.ownsRow w.heap.size 5 1 v 0 [] ∧ Below w.heap.size w w' := by
  obtain ⟨i0, hi, hz0, hz1, hz2⟩ := info_parts infoU
  by_cases h0 : n = 0
  · subst h0
    refine (Any8.slices_Grow_room growLays none 0 0 0 w (Nat.le_refl _) (by omega) (by omega) (Nat.le_refl _)).mono ?_
    rintro e w' ⟨rfl, rfl⟩
    exact ⟨_, rfl, World.ownsRow_nil _ _ _ _, Below.refl _ _⟩
  · refine (Any8.slices_Grow_grow growLays i0 (.int .u8 0) hi hz0 (by rw [hz1]; decide) none 0 0 n [] w (Nat.le_refl _) (by omega) (by rw [hz2]; omega) (by omega) (by simp) (fun _ => rfl) (fun a h => by cases h)).mono ?_
    rintro e w' ⟨rfl, rfl⟩
    have hge := grownCap_ge w (0 + n) 0 5
    have hle := grownCap_le_maxLen w (0 + n) 0 5 (by unfold maxLen; omega)
    refine ⟨_, rfl, World.ownsRow_made w.drew _ _ (Nat.le_refl _) hle ?_, ((Below.refl _ w).drew).alloc (Nat.le_refl _) _⟩
    have e : (Value.int .u8 0).cells.size = 1 := rfl
    show (#[] ++ Builtin.zeroCells (Value.int .u8 0).cells (0 + n - 0) ++ Builtin.zeroCells (Value.int .u8 0).cells (grownCap w (0 + n) 0 5 - (0 + n))).size = grownCap w (0 + n) 0 5 * 1
    rw [Array.size_append, Array.size_append, size_zeroCells, size_zeroCells, e]
    simp only [List.size_toArray, List.length_nil]
    omega
/-- Slices of bytes that lie in a row. -/
def InRow (w : World) (a : Option Addr) (L : List (List Int)) : Prop := ∀ (i : Nat) l, L[i]? = some l → ∃ ad b n c, a = some ad ∧ w.cell? (ad.add i) = some (.slice b n c) ∧ l.length = n ∧ (∀ bd, b = some bd → ∀ (j : Nat) x, l[j]? = some x → w.cell? (bd.add j) = some (.int .u8 x)) ∧ (b = none → l = [])
theorem take_flat {L : List (List Int)} {k : Nat} {l : List Int} (h : L[k]? = some l) : (L.take (k + 1)).flatten = (L.take k).flatten ++ l := by
  rw [List.take_add_one, h, List.flatten_append]
  simp
theorem take_flat_le (L : List (List Int)) (k : Nat) : (L.take k).flatten.length ≤ L.flatten.length := by
  have : L.flatten = (L.take k).flatten ++ (L.drop k).flatten := by rw [← List.flatten_append, List.take_append_drop]
  rw [this, List.length_append]; omega
theorem run_app_none {P : Program} {w : World} (base : Nat) (t ty e : TypeId) (i : TypeInfo) (size : Nat) (ht : P.underlying t = some (.slice e)) (hi : P.info? e = some i) (v : Value) (n c : Nat) (xs : List Value) (hown : w.ownsRow base e size v n xs) :
    (Builtin.append_ #[t, t] ty #[v, .slice none 0 c]).run P w = .ok v w := by
  rcases hown.2 with ⟨rfl, rfl⟩ | ⟨g, cap, cur, rfl, _, _, hnc, _⟩
  · simp [Builtin.append_, run_underlying ht, sizeOf, typeInfo, hi, Builtin.lenOf, Builtin.firstCells]
  · simp [Builtin.append_, run_underlying ht, sizeOf, typeInfo, hi, Builtin.lenOf, Builtin.firstCells, hnc, storeCells]
theorem wpList_app_any {P : Program} {w : World} {ops : Array Oper} {rest : List Oper} {o : Oper} {a : Act} {Q : Exit → Act → World → Prop} (hgd : o.guard = none) (s x : Operand) (t : TypeId)
    (ho : o.op = .call { callee := .builtin .append, args := #[s, x], argTypes := #[t, t] }) (base : Nat) (e : TypeId) (i : TypeInfo) (z : Value) (ht : P.underlying t = some (.slice e)) (hi : P.info? e = some i) (hz : i.zero = some z) (hsize : i.size = 1) (hby : i.bytes = 1) (hzs : z.cells.size = 1)
    (v : Value) (n : Nat) (xs : List Value) (hs : a.eval s = v) (hown : w.ownsRow base e 1 v n xs) (b : Option Addr) (m c : Nat) (l : List Int) (hx : a.eval x = .slice b m c) (hl : l.length = m)
    (hin : ∀ bd, b = some bd → ∀ (j : Nat) y, l[j]? = some y → w.cell? (bd.add j) = some (.int .u8 y)) (hnil : b = none → l = []) (hbytes : n + m ≤ 1000000000) (hbase : base ≤ w.heap.size)
    (h : ∀ v' w', w'.ownsRow base e 1 v' (n + m) (xs ++ l.map (Value.int .u8)) → Below base w w' → wpList P ops Q rest (a.put o.dst v') w') : wpList P ops Q (o :: rest) a w := by
  cases b with
  | none =>
    have hl0 := hnil rfl
    subst hl0
    have hm : m = 0 := hl.symm
    subst hm
    refine wpList_plain hgd fun K hK => ?_
    have hrun := run_app_none (P := P) (w := w) base t o.type e i 1 ht hi v n c xs hown
    unfold Oper.wp
    simp [execOp, ho, resolve, invoke, builtin, hs, hx, hrun, Result.andThen]
    exact hK _ _ (h v w (by simpa using hown) (Below.refl _ _))
  | some ad =>
    refine wpList_append_own w hgd s x t ho base e i z 1 1 ht hi hz hsize hby hzs (by omega) v n xs hs hown ad m c (l.map (Value.int .u8)) hx (by rw [List.length_map, hl, Nat.mul_one]) (fun j u hj => ?_) (fun u hu => ?_) (by unfold maxLen; omega) (by omega) hbase fun v' w' h1 h2 _ => h v' w' h1 ((Below.refl _ w).grown h2 hbase fun k hk => ?_)
    · rw [List.getElem?_map] at hj
      obtain ⟨y, hy, rfl⟩ := Option.map_eq_some_iff.1 hj
      exact hin ad rfl j y hy
    · obtain ⟨y, _, rfl⟩ := List.mem_map.1 hu
      rfl
    · rcases hown.2 with ⟨rfl, _⟩ | ⟨b0, cap, cur, rfl, hb0, _⟩
      · simp [Value.ownBlock] at hk
      · simp [Value.ownBlock] at hk
        omega
theorem InRow.below {w w' : World} {a : Option Addr} {L : List (List Int)} (h : InRow w a L) (hb : Below w.heap.size w w') : InRow w' a L := fun i l hl => by
  obtain ⟨ad, b, n, c, h1, h2, h3, h4, h5⟩ := h i l hl
  have keep : ∀ {p : Addr} {u : Value}, w.cell? p = some u → w'.cell? p = some u := fun {p u} hp => by rw [hb.cell (block_lt_of_cell hp)]; exact hp
  exact ⟨ad, b, n, c, h1, keep h2, h3, fun bd hbd j x hx => keep (h4 bd hbd j x hx), h5⟩
set_option maxHeartbeats 8000000 in
set_option maxRecDepth 1000000 in
theorem cat_walk (a : Option Addr) (m c : Nat) (L : List (List Int)) (w : World) (hm : L.length = m) (hm2 : m ≤ 100000000) (hb : L.flatten.length ≤ 100000000) (hc : Aside (InRow w a L)) :
    Calls Tryd.prog 86 #[.slice a m c] w fun e w' => ∃ v, e = .returned v ∧ w'.ownsRow w.heap.size 5 1 v L.flatten.length (L.flatten.map (Value.int .u8)) ∧ Below w.heap.size w w' := by
  obtain ⟨i0, hi, hz0, hz1, hz2⟩ := info_parts infoU
  go_enter Tryd.func86, Tryd.ntmps86
  go_wp2
  go_loopw [3, 11] (fun s i wr => wr = w ∧ ∃ k : Nat, k ≤ m ∧ i = .int .i64 k ∧ s = .int .i64 ((L.take k).flatten.length : Nat)) (fun _ i _ => m - (RowKit.intOf i).toNat)
  case atStart => exact ⟨rfl, 0, Nat.zero_le _, rfl, rfl⟩
  case round =>
    obtain ⟨hwr, k, hk, rfl, rfl⟩ := hrel
    have hwr := hwr.symm
    subst hwr
    have hle := take_flat_le L k
    obtain ⟨s, hs⟩ : ∃ s, (L.take k).flatten.length = s := ⟨_, rfl⟩
    rw [hs] at hle ⊢
    by_cases hlt : k < m
    · obtain ⟨l, hl⟩ : ∃ l, L[k]? = some l := ⟨L[k]'(by omega), List.getElem?_eq_getElem (by omega)⟩
      obtain ⟨ad, b, n, c', ha, hcell, hn, _⟩ := hc.out k l hl
      have hs2 : (L.take (k + 1)).flatten.length = s + n := by rw [take_flat hl, List.length_append, hs, hn]
      have hle2 := take_flat_le L (k + 1)
      rw [hs2] at hle2
      subst ha
      go_wp2
      go_roundw
      case rel => exact ⟨trivial, k + 1, by omega, by simp, by rw [hs2]; simp⟩
      case measure => simp [RowKit.intOf]; omega
    · have hkm : k = m := by omega
      subst hkm
      have hall : L.take k = L := List.take_of_length_le (by omega)
      rw [hall] at hs
      go_wp2_with (go_at_call 120; (with_reducible refine (grow_nil s (by omega) _).mono ?_); rintro e w1 ⟨v, rfl, hown, hbel⟩)
      go_loopw [6, 27] (fun v i wr => ∃ j : Nat, j ≤ k ∧ i = .int .i64 j ∧ wr.ownsRow w.heap.size 5 1 v (L.take j).flatten.length ((L.take j).flatten.map (Value.int .u8)) ∧ Below w.heap.size w wr) (fun _ i _ => k - (RowKit.intOf i).toNat)
      case atStart => exact ⟨0, Nat.zero_le _, rfl, by simpa using hown, hbel⟩
      case round =>
        obtain ⟨j, hj, rfl, hown2, hbel2⟩ := hrel
        by_cases hlt2 : j < k
        · obtain ⟨l, hl⟩ : ∃ l, L[j]? = some l := ⟨L[j]'(by omega), List.getElem?_eq_getElem (by omega)⟩
          obtain ⟨ad, b, n, c', ha, hcell, hn, hin, hnil⟩ := hc.out j l hl
          subst ha
          have hs2 : (L.take (j + 1)).flatten = (L.take j).flatten ++ l := take_flat hl
          have hle2 := take_flat_le L (j + 1)
          rw [hs2, List.length_append, hn] at hle2
          have keep : ∀ {p : Addr} {u : Value}, w.cell? p = some u → wr.cell? p = some u := fun {p u} hp => by rw [hbel2.cell (block_lt_of_cell hp)]; exact hp
          have hcell2 := keep hcell
          have B : Aside (Below w.heap.size w wr ∧ wr.ownsRow w.heap.size 5 1 u6 (L.take j).flatten.length ((L.take j).flatten.map (Value.int .u8)) ∧ (∀ bd, b = some bd → ∀ (i : Nat) y, l[i]? = some y → wr.cell? (bd.add i) = some (.int .u8 y)) ∧ (b = none → l = []) ∧ l.length = n ∧ (L.take (j + 1)).flatten = (L.take j).flatten ++ l ∧ (L.take j).flatten.length + n ≤ 1000000000) := ⟨hbel2, hown2, fun bd hbd i y hy => keep (hin bd hbd i y hy), hnil, hn, hs2, by omega⟩
          clear hbel2 hown2 hin hnil hs2 hle2 keep hcell hown hbel hs hall
          go_wp2_with (at_builtin; refine wpList_app_any rfl _ _ 27 rfl w.heap.size 5 i0 (.int .u8 0) Tryd.underlying27 hi hz0 hz1 hz2 rfl _ _ _ rfl B.out.2.1 b n c' l rfl B.out.2.2.2.2.1 B.out.2.2.1 B.out.2.2.2.1 B.out.2.2.2.2.2.2 B.out.1.size ?_; intro v2 w2 hown3 hbel3)
          go_roundw
          case rel =>
            refine ⟨j + 1, by omega, by simp, ?_, B.out.1.trans hbel3⟩
            rw [B.out.2.2.2.2.2.1, List.length_append, List.map_append, B.out.2.2.2.2.1]
            exact hown3
          case measure => simp [RowKit.intOf]; omega
        · have hjk : j = k := by omega
          subst hjk
          rw [hall] at hown2
          go_wp2
          go_ret
          rw [hs] at hown2 ⊢
          exact ⟨_, rfl, hown2, hbel2⟩
/-- Slices of bytes, as a contract meets them. -/
theorem inRow_of {w : World} {C : Com} {L : List (List Int)} {cs : List Value} (h : RepD w C (.sl (.sl (.int .u8))) L cs) : ∃ a m c, cs = [.slice a m c] ∧ L.length = m ∧ InRow w a L ∧ ∀ l ∈ L, ∀ x ∈ l, (Lit.int .u8 x).wf = true := by
  obtain ⟨a, n, c, e0, e1, e2, e3, e4⟩ := h
  have key : ∀ (i : Nat) (l : List Int), L[i]? = some l → (∃ ad b n c, a = some ad ∧ w.cell? (ad.add i) = some (.slice b n c) ∧ l.length = n ∧ (∀ bd, b = some bd → ∀ (j : Nat) x, l[j]? = some x → w.cell? (bd.add j) = some (.int .u8 x)) ∧ (b = none → l = [])) ∧ ∀ x ∈ l, (Lit.int .u8 x).wf = true := fun i l hl => by
    obtain ⟨ad, us, h1, h2, h3, h4⟩ := e4 i l hl
    obtain ⟨b, n', c', f0, f1, f2, f3, f4, f5, f6⟩ := ints_of h4
    have := (h3 0 (.slice b n' c') (by rw [f0]; rfl)).1
    rw [show (Ty.sl (Ty.int .u8)).size = 1 from rfl, Nat.mul_one, Nat.add_zero] at this
    exact ⟨⟨ad, b, n', c', h1, this, f1, f5, f6⟩, f4⟩
  refine ⟨a, n, c, e0, e1, fun i l hl => (key i l hl).1, fun l hl x hx => ?_⟩
  obtain ⟨i, hi⟩ := List.mem_iff_getElem?.1 hl
  exact (key i l hi).2 x hx
theorem F_slices_Concat_byte_byte_sound {T : Tab} : SoundFn Tryd.prog T 86 F_slices_Concat_byte_byte_sig ⟨F_slices_Concat_byte_byte⟩ := by
  refine sound_of rfl fun F g O xs ls y tmf w args hT hw hlim hls happ hsz hr => ?_
  obtain ⟨(L : List (List Int)), xs', rfl, h2⟩ := appF_inv_c (ts := []) happ
  obtain ⟨rfl, h3⟩ := appF_inv_n h2
  have hls' : some [Leaf.d (.sl (.sl (.int .u8))) L] = some ls := hls
  injection hls' with hls'
  subst hls'
  obtain ⟨a, m, c, e0, e1, e2, e3⟩ := inRow_of (rel_leaf.1 (hr 0))
  have e0 : args.getD 0 undef = .slice a m c := by injection e0
  rw [args_1 hsz, e0]
  have h3 : cond (Nat.ble L.flatten.length 100000000 && Nat.ble L.length 100000000) (some L.flatten) none = some y := h3
  cases hb : (Nat.ble L.flatten.length 100000000 && Nat.ble L.length 100000000) with
  | false => rw [hb] at h3; cases h3
  | true =>
    rw [hb] at h3
    have hy : L.flatten = y := by injection h3
    rw [Bool.and_eq_true] at hb
    have b1 := Nat.le_of_ble_eq_true hb.1
    have b2 := Nat.le_of_ble_eq_true hb.2
    subst hy
    refine (cat_walk a m c L w e1 (by omega) b1 e2).mono ?_
    rintro e w' ⟨v, rfl, h1, h2⟩
    exact own_row (l := L.flatten) hw hlim h2 h1 (fun x hx => by obtain ⟨l, hl, hx⟩ := List.mem_flatten.1 hx; exact e3 l hl x hx) rfl rfl
end Go.Proofs.YtblngdnndkljoaaDoor

/- The functions compute what their Lean functions tell. -/
namespace Go.Proofs.YtblngdnndkljoaaDoor
open Pv
theorem F_math_bits_Mul64_sound {T : Tab} : SoundFn Tryd.prog T 171 F_math_bits_Mul64_sig ⟨F_math_bits_Mul64⟩ := by
  have h := fn_sound (T := T) (E := F_math_bits_Mul64_env) (by unfold Env.ok; exact fun p h => by cases h) (A := F_math_bits_Mul64_ann) (f := 171) (fn := Tryd.f171) (s := F_math_bits_Mul64_sig) Tryd.func171
  rw [F_math_bits_Mul64_text] at h
  exact h
theorem F_sha_most_sound {T : Tab} : SoundFn Tryd.prog T 151 F_sha_most_sig ⟨F_sha_most⟩ := by
  have h := fn_sound (T := T) (E := F_sha_most_env) (by unfold Env.ok; exact List.forall_mem_cons.2 ⟨F_math_bits_Mul64_sound, fun p h => by cases h⟩) (A := F_sha_most_ann) (f := 151) (fn := Tryd.f151) (s := F_sha_most_sig) Tryd.func151
  rw [F_sha_most_text] at h
  exact h
theorem F_sha_fraction_sound {T : Tab} : SoundFn Tryd.prog T 117 F_sha_fraction_sig ⟨F_sha_fraction⟩ := by
  have h := fn_sound (T := T) (E := F_sha_fraction_env) (by unfold Env.ok; exact List.forall_mem_cons.2 ⟨F_sha_most_sound, fun p h => by cases h⟩) (A := F_sha_fraction_ann) (f := 117) (fn := Tryd.f117) (s := F_sha_fraction_sig) Tryd.func117
  rw [F_sha_fraction_text] at h
  exact h
theorem F_sha_padded_sound {T : Tab} : SoundFn Tryd.prog T 118 F_sha_padded_sig ⟨F_sha_padded⟩ := by
  have h := fn_sound (T := T) (E := F_sha_padded_env) (by unfold Env.ok; exact List.forall_mem_cons.2 ⟨F_slices_Clone_byte_byte_sound, fun p h => by cases h⟩) (A := F_sha_padded_ann) (f := 118) (fn := Tryd.f118) (s := F_sha_padded_sig) Tryd.func118
  rw [F_sha_padded_text] at h
  exact h
theorem F_math_bits_RotateLeft32_sound {T : Tab} : SoundFn Tryd.prog T 153 F_math_bits_RotateLeft32_sig ⟨F_math_bits_RotateLeft32⟩ := by
  have h := fn_sound (T := T) (E := F_math_bits_RotateLeft32_env) (by unfold Env.ok; exact fun p h => by cases h) (A := F_math_bits_RotateLeft32_ann) (f := 153) (fn := Tryd.f153) (s := F_math_bits_RotateLeft32_sig) Tryd.func153
  rw [F_math_bits_RotateLeft32_text] at h
  exact h
theorem F_sha_state_turned_sound {T : Tab} : SoundFn Tryd.prog T 119 F_sha_state_turned_sig ⟨F_sha_state_turned⟩ := by
  have h := fn_sound (T := T) (E := F_sha_state_turned_env) (by unfold Env.ok; exact List.forall_mem_cons.2 ⟨F_math_bits_RotateLeft32_sound, fun p h => by cases h⟩) (A := F_sha_state_turned_ann) (f := 119) (fn := Tryd.f119) (s := F_sha_state_turned_sig) Tryd.func119
  rw [F_sha_state_turned_text] at h
  exact h
theorem F_sha_One_sound {T : Tab} : SoundFn Tryd.prog T 85 F_sha_One_sig ⟨F_sha_One⟩ := by
  have h := fn_sound (T := T) (E := F_sha_One_env) (by unfold Env.ok; exact List.forall_mem_cons.2 ⟨F_sha_primes_sound, List.forall_mem_cons.2 ⟨F_sha_fraction_sound, List.forall_mem_cons.2 ⟨F_sha_padded_sound, List.forall_mem_cons.2 ⟨F_sha_state_turned_sound, fun p h => by cases h⟩⟩⟩⟩) (A := F_sha_One_ann) (f := 85) (fn := Tryd.f85) (s := F_sha_One_sig) Tryd.func85
  rw [F_sha_One_text] at h
  exact h
theorem F_sha_Equal_sound {T : Tab} : SoundFn Tryd.prog T 57 F_sha_Equal_sig ⟨F_sha_Equal⟩ := by
  have h := fn_sound (T := T) (E := F_sha_Equal_env) (by unfold Env.ok; exact fun p h => by cases h) (A := F_sha_Equal_ann) (f := 57) (fn := Tryd.f57) (s := F_sha_Equal_sig) Tryd.func57
  rw [F_sha_Equal_text] at h
  exact h
theorem F_sha_Salted_sound {T : Tab} : SoundFn Tryd.prog T 56 F_sha_Salted_sig ⟨F_sha_Salted⟩ := by
  have h := fn_sound (T := T) (E := F_sha_Salted_env) (by unfold Env.ok; exact List.forall_mem_cons.2 ⟨F_sha_One_sound, List.forall_mem_cons.2 ⟨F_slices_Concat_byte_byte_sound, fun p h => by cases h⟩⟩) (A := F_sha_Salted_ann) (f := 56) (fn := Tryd.f56) (s := F_sha_Salted_sig) Tryd.func56
  rw [F_sha_Salted_text] at h
  exact h
theorem F_wlvref1_primes_sound {T : Tab} : SoundFn Tryd.prog T 87 F_wlvref1_primes_sig ⟨F_wlvref1_primes⟩ := by
  have h := fn_sound (T := T) (E := F_wlvref1_primes_env) (by unfold Env.ok; exact fun p h => by cases h) (A := F_wlvref1_primes_ann) (f := 87) (fn := Tryd.f87) (s := F_wlvref1_primes_sig) Tryd.func87
  rw [F_wlvref1_primes_text] at h
  exact h
theorem F_wlvref1_below_sound {T : Tab} : SoundFn Tryd.prog T 121 F_wlvref1_below_sig ⟨F_wlvref1_below⟩ := by
  have h := fn_sound (T := T) (E := F_wlvref1_below_env) (by unfold Env.ok; exact fun p h => by cases h) (A := F_wlvref1_below_ann) (f := 121) (fn := Tryd.f121) (s := F_wlvref1_below_sig) Tryd.func121
  rw [F_wlvref1_below_text] at h
  exact h
theorem F_wlvref1_times_sound {T : Tab} : SoundFn Tryd.prog T 154 F_wlvref1_times_sig ⟨F_wlvref1_times⟩ := by
  have h := fn_sound (T := T) (E := F_wlvref1_times_env) (by unfold Env.ok; exact fun p h => by cases h) (A := F_wlvref1_times_ann) (f := 154) (fn := Tryd.f154) (s := F_wlvref1_times_sig) Tryd.func154
  rw [F_wlvref1_times_text] at h
  exact h
theorem F_wlvref1_power_sound {T : Tab} : SoundFn Tryd.prog T 122 F_wlvref1_power_sig ⟨F_wlvref1_power⟩ := by
  have h := fn_sound (T := T) (E := F_wlvref1_power_env) (by unfold Env.ok; exact List.forall_mem_cons.2 ⟨F_wlvref1_times_sound, fun p h => by cases h⟩) (A := F_wlvref1_power_ann) (f := 122) (fn := Tryd.f122) (s := F_wlvref1_power_sig) Tryd.func122
  rw [F_wlvref1_power_text] at h
  exact h
theorem F_wlvref1_root_sound {T : Tab} : SoundFn Tryd.prog T 88 F_wlvref1_root_sig ⟨F_wlvref1_root⟩ := by
  have h := fn_sound (T := T) (E := F_wlvref1_root_env) (by unfold Env.ok; exact List.forall_mem_cons.2 ⟨F_wlvref1_below_sound, List.forall_mem_cons.2 ⟨F_wlvref1_power_sound, fun p h => by cases h⟩⟩) (A := F_wlvref1_root_ann) (f := 88) (fn := Tryd.f88) (s := F_wlvref1_root_sig) Tryd.func88
  rw [F_wlvref1_root_text] at h
  exact h
theorem F_wlvref1_turn_sound {T : Tab} : SoundFn Tryd.prog T 123 F_wlvref1_turn_sig ⟨F_wlvref1_turn⟩ := by
  have h := fn_sound (T := T) (E := F_wlvref1_turn_env) (by unfold Env.ok; exact fun p h => by cases h) (A := F_wlvref1_turn_ann) (f := 123) (fn := Tryd.f123) (s := F_wlvref1_turn_sig) Tryd.func123
  rw [F_wlvref1_turn_text] at h
  exact h
theorem F_wlvref1_block_sound {T : Tab} : SoundFn Tryd.prog T 89 F_wlvref1_block_sig ⟨F_wlvref1_block⟩ := by
  have h := fn_sound (T := T) (E := F_wlvref1_block_env) (by unfold Env.ok; exact List.forall_mem_cons.2 ⟨F_wlvref1_turn_sound, fun p h => by cases h⟩) (A := F_wlvref1_block_ann) (f := 89) (fn := Tryd.f89) (s := F_wlvref1_block_sig) Tryd.func89
  rw [F_wlvref1_block_text] at h
  exact h
theorem F_wlvref1_One_sound {T : Tab} : SoundFn Tryd.prog T 58 F_wlvref1_One_sig ⟨F_wlvref1_One⟩ := by
  have h := fn_sound (T := T) (E := F_wlvref1_One_env) (by unfold Env.ok; exact List.forall_mem_cons.2 ⟨F_wlvref1_primes_sound, List.forall_mem_cons.2 ⟨F_wlvref1_root_sound, List.forall_mem_cons.2 ⟨F_wlvref1_block_sound, fun p h => by cases h⟩⟩⟩) (A := F_wlvref1_One_ann) (f := 58) (fn := Tryd.f58) (s := F_wlvref1_One_sig) Tryd.func58
  rw [F_wlvref1_One_text] at h
  exact h
theorem F_wlvref1_Salted_sound {T : Tab} : SoundFn Tryd.prog T 23 F_wlvref1_Salted_sig ⟨F_wlvref1_Salted⟩ := by
  have h := fn_sound (T := T) (E := F_wlvref1_Salted_env) (by unfold Env.ok; exact List.forall_mem_cons.2 ⟨F_wlvref1_One_sound, fun p h => by cases h⟩) (A := F_wlvref1_Salted_ann) (f := 23) (fn := Tryd.f23) (s := F_wlvref1_Salted_sig) Tryd.func23
  rw [F_wlvref1_Salted_text] at h
  exact h
theorem F_wlvref_Bytes_sound {T : Tab} : SoundFn Tryd.prog T 22 F_wlvref_Bytes_sig ⟨F_wlvref_Bytes⟩ := by
  have h := fn_sound (T := T) (E := F_wlvref_Bytes_env) (by unfold Env.ok; exact fun p h => by cases h) (A := F_wlvref_Bytes_ann) (f := 22) (fn := Tryd.f22) (s := F_wlvref_Bytes_sig) Tryd.func22
  rw [F_wlvref_Bytes_text] at h
  exact h
end Go.Proofs.YtblngdnndkljoaaDoor

/- The functions compute what their Lean functions tell. -/
namespace Go.Proofs.YtblngdnndkljoaaDoor
open Pv
theorem F_internal_stringslite_Cut_sound {T : Tab} : SoundFn Tryd.prog T 81 F_internal_stringslite_Cut_sig ⟨F_internal_stringslite_Cut⟩ := by
  have h := fn_sound (T := T) (E := F_internal_stringslite_Cut_env) (by unfold Env.ok; exact List.forall_mem_cons.2 ⟨F_internal_stringslite_Index_sound, fun p h => by cases h⟩) (A := F_internal_stringslite_Cut_ann) (f := 81) (fn := Tryd.f81) (s := F_internal_stringslite_Cut_sig) Tryd.func81
  rw [F_internal_stringslite_Cut_text] at h
  exact h
theorem F_strings_Cut_sound {T : Tab} : SoundFn Tryd.prog T 48 F_strings_Cut_sig ⟨F_strings_Cut⟩ := by
  have h := fn_sound (T := T) (E := F_strings_Cut_env) (by unfold Env.ok; exact List.forall_mem_cons.2 ⟨F_internal_stringslite_Cut_sound, fun p h => by cases h⟩) (A := F_strings_Cut_ann) (f := 48) (fn := Tryd.f48) (s := F_strings_Cut_sig) Tryd.func48
  rw [F_strings_Cut_text] at h
  exact h
theorem F_cred_plain_sound {T : Tab} : SoundFn Tryd.prog T 49 F_cred_plain_sig ⟨F_cred_plain⟩ := by
  have h := fn_sound (T := T) (E := F_cred_plain_env) (by unfold Env.ok; exact fun p h => by cases h) (A := F_cred_plain_ann) (f := 49) (fn := Tryd.f49) (s := F_cred_plain_sig) Tryd.func49
  rw [F_cred_plain_text] at h
  exact h
theorem F_cred_Parse_sound {T : Tab} (h_afold : tab_afold ∈ T) (h_orb : has_orb T) : SoundFn Tryd.prog T 16 F_cred_Parse_sig ⟨F_cred_Parse⟩ := by
  have h := fn_sound (T := T) (E := F_cred_Parse_env) (by unfold Env.ok; exact List.forall_mem_cons.2 ⟨F_strings_EqualFold_sound h_afold h_orb, List.forall_mem_cons.2 ⟨F_b64_Decode_sound, List.forall_mem_cons.2 ⟨F_strings_Cut_sound, List.forall_mem_cons.2 ⟨F_cred_plain_sound, fun p h => by cases h⟩⟩⟩⟩) (A := F_cred_Parse_ann) (f := 16) (fn := Tryd.f16) (s := F_cred_Parse_sig) Tryd.func16
  rw [F_cred_Parse_text] at h
  exact h
theorem F_wlvlaw17_first_sound {T : Tab} (h_afold : tab_afold ∈ T) (h_orb : has_orb T) : SoundFn Tryd.prog T 15 F_wlvlaw17_first_sig ⟨F_wlvlaw17_first⟩ := by
  have h := fn_sound (T := T) (E := F_wlvlaw17_first_env) (by unfold Env.ok; exact List.forall_mem_cons.2 ⟨F_cred_Parse_sound h_afold h_orb, fun p h => by cases h⟩) (A := F_wlvlaw17_first_ann) (f := 15) (fn := Tryd.f15) (s := F_wlvlaw17_first_sig) Tryd.func15
  rw [F_wlvlaw17_first_text] at h
  exact h
theorem F_wlvlaw17_CredOnce_sound {T : Tab} (h_afold : tab_afold ∈ T) (h_orb : has_orb T) : SoundFn Tryd.prog T 3 F_wlvlaw17_CredOnce_sig ⟨F_wlvlaw17_CredOnce⟩ := by
  have h := fn_sound (T := T) (E := F_wlvlaw17_CredOnce_env) (by unfold Env.ok; exact List.forall_mem_cons.2 ⟨F_wlvlaw17_first_sound h_afold h_orb, List.forall_mem_cons.2 ⟨F_cred_Parse_sound h_afold h_orb, List.forall_mem_cons.2 ⟨F_b64_Encode_sound, fun p h => by cases h⟩⟩⟩) (A := F_wlvlaw17_CredOnce_ann) (f := 3) (fn := Tryd.f3) (s := F_wlvlaw17_CredOnce_sig) Tryd.func3
  rw [F_wlvlaw17_CredOnce_text] at h
  exact h
theorem F_wlvref_Lower_sound {T : Tab} : SoundFn Tryd.prog T 52 F_wlvref_Lower_sig ⟨F_wlvref_Lower⟩ := by
  have h := fn_sound (T := T) (E := F_wlvref_Lower_env) (by unfold Env.ok; exact fun p h => by cases h) (A := F_wlvref_Lower_ann) (f := 52) (fn := Tryd.f52) (s := F_wlvref_Lower_sig) Tryd.func52
  rw [F_wlvref_Lower_text] at h
  exact h
theorem F_wlvref15_plain_sound {T : Tab} : SoundFn Tryd.prog T 54 F_wlvref15_plain_sig ⟨F_wlvref15_plain⟩ := by
  have h := fn_sound (T := T) (E := F_wlvref15_plain_env) (by unfold Env.ok; exact fun p h => by cases h) (A := F_wlvref15_plain_ann) (f := 54) (fn := Tryd.f54) (s := F_wlvref15_plain_sig) Tryd.func54
  rw [F_wlvref15_plain_text] at h
  exact h
theorem F_wlvref15_Cred_sound {T : Tab} : SoundFn Tryd.prog T 18 F_wlvref15_Cred_sig ⟨F_wlvref15_Cred⟩ := by
  have h := fn_sound (T := T) (E := F_wlvref15_Cred_env) (by unfold Env.ok; exact List.forall_mem_cons.2 ⟨F_wlvref_Lower_sound, List.forall_mem_cons.2 ⟨F_wlvref1_Decode_sound, List.forall_mem_cons.2 ⟨F_wlvref15_plain_sound, fun p h => by cases h⟩⟩⟩) (A := F_wlvref15_Cred_ann) (f := 18) (fn := Tryd.f18) (s := F_wlvref15_Cred_sig) Tryd.func18
  rw [F_wlvref15_Cred_text] at h
  exact h
theorem F_cred_Make_sound {T : Tab} : SoundFn Tryd.prog T 19 F_cred_Make_sig ⟨F_cred_Make⟩ := by
  have h := fn_sound (T := T) (E := F_cred_Make_env) (by unfold Env.ok; exact List.forall_mem_cons.2 ⟨F_bytes_Clone_sound, List.forall_mem_cons.2 ⟨F_sha_Salted_sound, fun p h => by cases h⟩⟩) (A := F_cred_Make_ann) (f := 19) (fn := Tryd.f19) (s := F_cred_Make_sig) Tryd.func19
  rw [F_cred_Make_text] at h
  exact h
theorem F_cred_Check_sound {T : Tab} : SoundFn Tryd.prog T 20 F_cred_Check_sig ⟨F_cred_Check⟩ := by
  have h := fn_sound (T := T) (E := F_cred_Check_env) (by unfold Env.ok; exact List.forall_mem_cons.2 ⟨F_sha_Salted_sound, List.forall_mem_cons.2 ⟨F_sha_Equal_sound, fun p h => by cases h⟩⟩) (A := F_cred_Check_ann) (f := 20) (fn := Tryd.f20) (s := F_cred_Check_sig) Tryd.func20
  rw [F_cred_Check_text] at h
  exact h
theorem F_wlvref15_Check_sound {T : Tab} : SoundFn Tryd.prog T 21 F_wlvref15_Check_sig ⟨F_wlvref15_Check⟩ := by
  have h := fn_sound (T := T) (E := F_wlvref15_Check_env) (by unfold Env.ok; exact List.forall_mem_cons.2 ⟨F_wlvref_Bytes_sound, List.forall_mem_cons.2 ⟨F_wlvref1_Salted_sound, fun p h => by cases h⟩⟩) (A := F_wlvref15_Check_ann) (f := 21) (fn := Tryd.f21) (s := F_wlvref15_Check_sig) Tryd.func21
  rw [F_wlvref15_Check_text] at h
  exact h
theorem F_wlvlaw17_CredReads_sound {T : Tab} (h_afold : tab_afold ∈ T) (h_orb : has_orb T) : SoundFn Tryd.prog T 4 F_wlvlaw17_CredReads_sig ⟨F_wlvlaw17_CredReads⟩ := by
  have h := fn_sound (T := T) (E := F_wlvlaw17_CredReads_env) (by unfold Env.ok; exact List.forall_mem_cons.2 ⟨F_wlvlaw17_first_sound h_afold h_orb, List.forall_mem_cons.2 ⟨F_cred_Parse_sound h_afold h_orb, List.forall_mem_cons.2 ⟨F_wlvref15_Cred_sound, List.forall_mem_cons.2 ⟨F_cred_Make_sound, List.forall_mem_cons.2 ⟨F_cred_Check_sound, List.forall_mem_cons.2 ⟨F_wlvref15_Check_sound, List.forall_mem_cons.2 ⟨F_wlvref_Bytes_sound, List.forall_mem_cons.2 ⟨F_wlvref1_Salted_sound, fun p h => by cases h⟩⟩⟩⟩⟩⟩⟩⟩) (A := F_wlvlaw17_CredReads_ann) (f := 4) (fn := Tryd.f4) (s := F_wlvlaw17_CredReads_sig) Tryd.func4
  rw [F_wlvlaw17_CredReads_text] at h
  exact h
theorem F_wlvlaw17_CredBack_sound {T : Tab} (h_afold : tab_afold ∈ T) (h_orb : has_orb T) : SoundFn Tryd.prog T 5 F_wlvlaw17_CredBack_sig ⟨F_wlvlaw17_CredBack⟩ := by
  have h := fn_sound (T := T) (E := F_wlvlaw17_CredBack_env) (by unfold Env.ok; exact List.forall_mem_cons.2 ⟨F_wlvlaw17_first_sound h_afold h_orb, List.forall_mem_cons.2 ⟨F_cred_Parse_sound h_afold h_orb, List.forall_mem_cons.2 ⟨F_b64_Encode_sound, List.forall_mem_cons.2 ⟨F_cred_Make_sound, List.forall_mem_cons.2 ⟨F_cred_Check_sound, List.forall_mem_cons.2 ⟨F_wlvref_Bytes_sound, List.forall_mem_cons.2 ⟨F_wlvref1_Salted_sound, fun p h => by cases h⟩⟩⟩⟩⟩⟩⟩) (A := F_wlvlaw17_CredBack_ann) (f := 5) (fn := Tryd.f5) (s := F_wlvlaw17_CredBack_sig) Tryd.func5
  rw [F_wlvlaw17_CredBack_text] at h
  exact h
end Go.Proofs.YtblngdnndkljoaaDoor

/- Rules for the loops of plain functions. -/
namespace Go.Proofs.YtblngdnndkljoaaDoor
namespace Pv
set_option linter.unusedVariables false
section
variable {S R T : Type} {body : S → Option (R ⊕ S)} {s s' : S} {r r' : R}
theorem iter_uniq : ∀ {n m : Nat} {s : S}, iterC body n s = some r → iterC body m s = some r' → r = r'
  | 0, _, _, h, _ => by cases h
  | _ + 1, 0, _, _, h => by cases h
  | n + 1, m + 1, s, h, k => by
    unfold iterC at h k
    split at h
    · cases h
    · rename_i x hx
      rw [hx] at k
      injection h with h; injection k with k
      exact h.symm.trans k
    · rename_i x hx
      rw [hx] at k
      exact iter_uniq h k
theorem loop_of_iter {n : Nat} (h : iterC body n s = some r) : loopC body s = some r := by
  unfold loopC
  have hex : ∃ r n, iterC body n s = some r := ⟨r, n, h⟩
  rw [dif_pos hex]
  obtain ⟨m, hm⟩ := hex.choose_spec
  rw [iter_uniq hm h]
theorem iter_of_loop' (h : loopC body s = some r) : ∃ n, iterC body n s = some r := by
  unfold loopC at h
  split at h
  · rename_i hex
    injection h with h
    obtain ⟨n, hn⟩ := hex.choose_spec
    exact ⟨n, by rw [hn, h]⟩
  · cases h
theorem loop_inl (h : body s = some (.inl r)) : loopC body s = some r := loop_of_iter (n := 1) (by unfold iterC; rw [h])
theorem loop_inr (h : body s = some (.inr s')) (k : loopC body s' = some r) : loopC body s = some r := by
  obtain ⟨n, hn⟩ := iter_of_loop' k
  exact loop_of_iter (n := n + 1) (by unfold iterC; rw [h]; exact hn)
theorem loop_inv {I : S → Prop} {m : S → Nat} {Q : R → Prop} (h : ∀ s, I s → (∃ r, body s = some (.inl r) ∧ Q r) ∨ ∃ s', body s = some (.inr s') ∧ I s' ∧ m s' < m s) (s : S) (hs : I s) : ∃ r, loopC body s = some r ∧ Q r := by
  have key : ∀ n s, m s < n → I s → ∃ r, loopC body s = some r ∧ Q r := fun n => by
    induction n with
    | zero => intro s hn; omega
    | succ n ih =>
      intro s hn hs
      rcases h s hs with ⟨r, h1, h2⟩ | ⟨s', h1, h2, h3⟩
      · exact ⟨r, loop_inl h1, h2⟩
      · obtain ⟨r, k1, k2⟩ := ih s' (by omega) h2
        exact ⟨r, loop_inr h1 k1, k2⟩
  exact key _ s (Nat.lt_succ_self _) hs
theorem join_inl {A : Option (R ⊕ S)} {B : S → Option R} (h : A = some (.inl r)) : joinC A B = some r := by rw [h]; rfl
theorem join_inr {A : Option (R ⊕ S)} {B : S → Option R} (h : A = some (.inr s)) : joinC A B = B s := by rw [h]; rfl
theorem getI_of {α : Type} {l : List α} {j : Int} (h0 : 0 ≤ j) (h1 : j < l.length) : ∃ x, getI l j = some x ∧ l[j.toNat]? = some x := by
  have hlt : j.toNat < l.length := by omega
  exact ⟨l[j.toNat], by unfold getI; rw [decide_eq_true h0]; simp [hlt], by simp [hlt]⟩
theorem wrap_in {x : Int} (h0 : -9223372036854775808 ≤ x) (h1 : x ≤ 9223372036854775807) : IntKind.i64.wrap x = x := by
  show (if (true && decide (x % 18446744073709551616 ≥ 9223372036854775808)) = true then x % 18446744073709551616 - 18446744073709551616 else x % 18446744073709551616) = x
  simp only [Bool.true_and, decide_eq_true_eq]
  split <;> omega
end
end Pv
end Go.Proofs.YtblngdnndkljoaaDoor

/- Base64: the plain facts. -/
namespace Go.Proofs.YtblngdnndkljoaaDoor
open Pv
set_option linter.unusedVariables false
def signs : List Int := [65, 66, 67, 68, 69, 70, 71, 72, 73, 74, 75, 76, 77, 78, 79, 80, 81, 82, 83, 84, 85, 86, 87, 88, 89, 90, 97, 98, 99, 100, 101, 102, 103, 104, 105, 106, 107, 108, 109, 110, 111, 112, 113, 114, 115, 116, 117, 118, 119, 120, 121, 122, 48, 49, 50, 51, 52, 53, 54, 55, 56, 57, 43, 47]
def encI (l : List Int) : List Int := (encB l).map byteI
theorem enc_some {l : List Int} (h : l.length ≤ 1000000) : F_b64_Encode l = some (encI l) := by
  unfold F_b64_Encode
  rw [Nat.ble_eq_true_of_le (by omega)]; rfl
theorem encI_len (l : List Int) : (encI l).length = 4 * ((l.length + 2) / 3) := by unfold encI; rw [List.length_map, encB_len]
theorem u8w (x : Int) : IntKind.u8.wrap x = x % 256 := IntKind.wrap_u8 x
theorem nx_eq {a k : Int} (h0 : 0 ≤ a) (h1 : a < 16384) (k0 : 0 ≤ k) (k1 : k < 64) : bits .and .i64 (bits .or .i64 (IntKind.i64.wrap (a * 2 ^ 6)) k) 16383 = (a * 64 + k) % 16384 := by
  have e : a * (2 : Int) ^ 6 = a * 64 := rfl
  rw [e, w64 (by omega) (by omega)]
  rw [bits_join .i64 40 (by decide) (fun n h0 h1 => w64 h0 (by rw [← e40]; exact h1)) 6 (a * 64) k (by omega) (by show a * 64 % 64 = 0; omega) (by rw [e40]; omega) k0 (by show k < 64; exact k1) (by rw [e40]; omega)]
  exact bits_mask .i64 40 (by decide) (fun n h0 h1 => w64 h0 (by rw [← e40]; exact h1)) 14 (by decide) _ (by omega) (by rw [e40]; omega)
theorem idx_text (c : Int) : F_strings_IndexByte ([65, 66, 67, 68, 69, 70, 71, 72, 73, 74, 75, 76, 77, 78, 79, 80, 81, 82, 83, 84, 85, 86, 87, 88, 89, 90, 97, 98, 99, 100, 101, 102, 103, 104, 105, 106, 107, 108, 109, 110, 111, 112, 113, 114, 115, 116, 117, 118, 119, 120, 121, 122, 48, 49, 50, 51, 52, 53, 54, 55, 56, 57, 43, 47] : List Int) c = some (idxI signs c) := by unfold F_strings_IndexByte signs; rfl
/-- One sign more. -/
theorem dec_step {s2 L : List Int} {A B p c k : Int} (hp0 : 0 ≤ p) (hp : p < s2.length) (hc : getI s2 p = some c) (hk : idxI signs c = k) (k0 : 0 ≤ k) (k1 : k < 64) (hA0 : 0 ≤ A) (hA1 : A < 16384) (hB0 : 0 ≤ B) (hB1 : B < 8) (hL : L.length ≤ 1000000) (hs : s2.length ≤ 1000000) :
    F_b64_Decode_L6 s2 (L, A, B, p) = some (.inr (cond (decide (2 ≤ B)) (L ++ [((A * 64 + k) % 16384 / 2 ^ (B - 2).toNat) % 256], (A * 64 + k) % 16384, B - 2, p + 1) (L, (A * 64 + k) % 16384, B + 6, p + 1))) := by
  have e1 : IntKind.i64.wrap (B + 6) = B + 6 := wrap_in (by omega) (by omega)
  have e2 : IntKind.i64.wrap (B + 6 - 8) = B - 2 := by rw [wrap_in (by omega) (by omega)]; omega
  have e3 : IntKind.i64.wrap (p + 1) = p + 1 := wrap_in (by omega) (by omega)
  have e4 := nx_eq hA0 hA1 k0 k1
  have e5 := idx_text c
  rw [hk] at e5
  unfold F_b64_Decode_L6
  show cond (decide (p < (s2.length : Int))) ((getI s2 p).bind fun i7 => _) _ = _
  rw [decide_eq_true hp, hc, cond_true, Option.bind_some, e5, Option.bind_some, decide_eq_false (show ¬ k < 0 by omega), cond_false]
  dsimp only
  rw [e1, e2, e3, e4]
  by_cases hb : 2 ≤ B
  · rw [decide_eq_true hb, decide_eq_true (show B + 6 ≥ 8 by omega), decide_eq_true (show 0 ≤ B - 2 by omega)]
    have hm : maxLen = 9223372036854775807 := rfl
    rw [decide_eq_true (show (L.length + ([IntKind.u8.wrap (((A * 64 + k) % 16384).fdiv (2 ^ min (B - 2).toNat 64))] : List Int).length) * 1 ≤ 140737488355328 by rw [List.length_singleton]; omega), decide_eq_true (show L.length + ([IntKind.u8.wrap (((A * 64 + k) % 16384).fdiv (2 ^ min (B - 2).toNat 64))] : List Int).length ≤ maxLen by rw [List.length_singleton]; omega)]
    simp only [cond_true, chk, Bool.and_self]
    have e6 : min (B - 2).toNat 64 = (B - 2).toNat := Nat.min_eq_left (by omega)
    rw [e6, u8w, Int.fdiv_eq_ediv_of_nonneg _ (Int.le_of_lt (Int.pow_pos (by decide)))]
  · rw [decide_eq_false hb, decide_eq_false (show ¬ B + 6 ≥ 8 by omega)]
    simp only [cond_false]
theorem dec_bad {s2 L : List Int} {A B p c : Int} (hp : p < s2.length) (hc : getI s2 p = some c) (hk : idxI signs c < 0) : F_b64_Decode_L6 s2 (L, A, B, p) = some (.inl (.inl ([], 2))) := by
  have e5 := idx_text c
  unfold F_b64_Decode_L6
  show cond (decide (p < (s2.length : Int))) ((getI s2 p).bind fun i7 => _) _ = _
  rw [decide_eq_true hp, hc, cond_true, Option.bind_some, e5, Option.bind_some, decide_eq_true hk, cond_true]
theorem dec_end {s2 L : List Int} {A B p : Int} (hp : ¬ p < s2.length) : F_b64_Decode_L6 s2 (L, A, B, p) = some (.inl (.inr L)) := by
  unfold F_b64_Decode_L6
  simp only []
  rw [decide_eq_false hp]
  rfl
/-- The reading loop comes to an end, whatever it reads. -/
theorem dec_loop (s2 : List Int) (hs : s2.length ≤ 1000000) : ∃ r, loopC (F_b64_Decode_L6 s2) ([], 0, 0, 0) = some r ∧ (r = .inl ([], 2) ∨ ∃ b : List Int, r = .inr b ∧ b.length ≤ 1000000) := by
  refine loop_inv (I := fun s : List Int × Int × Int × Int => 0 ≤ s.2.1 ∧ s.2.1 < 16384 ∧ 0 ≤ s.2.2.1 ∧ s.2.2.1 < 8 ∧ 0 ≤ s.2.2.2 ∧ s.2.2.2 ≤ (s2.length : Int) ∧ (s.1.length : Int) ≤ s.2.2.2) (m := fun s => ((s2.length : Int) - s.2.2.2).toNat) (fun s ⟨h1, h2, h3, h4, h5, h6, h7⟩ => ?_) _ ⟨by decide, by decide, by decide, by decide, by decide, by show (0 : Int) ≤ _; omega, by show (0 : Int) ≤ 0; decide⟩
  obtain ⟨L, A, B, p⟩ := s
  simp only at h1 h2 h3 h4 h5 h6 h7
  by_cases hp : p < s2.length
  · obtain ⟨c, hc, _⟩ := getI_of h5 hp
    by_cases hk : idxI signs c < 0
    · exact .inl ⟨_, dec_bad hp hc hk, .inl rfl⟩
    · have hin := idxI_in signs c
      have hsl : signs.length = 64 := rfl
      refine .inr ⟨_, dec_step h5 hp hc rfl (by omega) (by omega) h1 h2 h3 h4 (by omega) hs, ?_, ?_⟩
      · cases hb : decide (2 ≤ B)
        · have := of_decide_eq_false hb
          exact ⟨by show 0 ≤ (A * 64 + idxI signs c) % 16384; omega, by show (A * 64 + idxI signs c) % 16384 < 16384; omega, by show 0 ≤ B + 6; omega, by show B + 6 < 8; omega, by show 0 ≤ p + 1; omega, by show p + 1 ≤ _; omega, by show (L.length : Int) ≤ p + 1; omega⟩
        · have := of_decide_eq_true hb
          exact ⟨by show 0 ≤ (A * 64 + idxI signs c) % 16384; omega, by show (A * 64 + idxI signs c) % 16384 < 16384; omega, by show 0 ≤ B - 2; omega, by show B - 2 < 8; omega, by show 0 ≤ p + 1; omega, by show p + 1 ≤ _; omega, by
            show ((L ++ [_]).length : Int) ≤ p + 1
            rw [List.length_append, List.length_singleton]; omega⟩
      · cases decide (2 ≤ B)
        · show ((s2.length : Int) - (p + 1)).toNat < ((s2.length : Int) - p).toNat; omega
        · show ((s2.length : Int) - (p + 1)).toNat < ((s2.length : Int) - p).toNat; omega
  · exact .inl ⟨_, dec_end hp, .inr ⟨L, rfl, by omega⟩⟩
end Go.Proofs.YtblngdnndkljoaaDoor

/- Base64: what is read of what was written. -/
namespace Go.Proofs.YtblngdnndkljoaaDoor
open Pv
set_option linter.unusedVariables false
/-! ### the signs = at the end -/
def trimR (s : List Int) : List Int := (s.reverse.dropWhile (· == 61)).reverse
theorem drop_rep : ∀ (m : Nat) (r : List Int), (List.replicate m (61 : Int) ++ r).dropWhile (· == 61) = r.dropWhile (· == 61)
  | 0, _ => rfl
  | m + 1, r => by
    rw [List.replicate_succ, List.cons_append, List.dropWhile_cons]
    exact drop_rep m r
theorem trimR_of {t : List Int} {m : Nat} (h : ∀ x, t.getLast? = some x → x ≠ 61) : trimR (t ++ List.replicate m 61) = t := by
  unfold trimR
  rw [List.reverse_append, List.reverse_replicate, drop_rep]
  have e : t.reverse.dropWhile (· == 61) = t.reverse := by
    cases ht : t.reverse with
    | nil => rfl
    | cons x r =>
      have hl : t.getLast? = some x := by
        rw [List.getLast?_eq_head?_reverse, ht]; rfl
      rw [List.dropWhile_cons, show (x == 61) = false from beq_eq_false_iff_ne.2 (h x hl)]
      rfl
  rw [e, List.reverse_reverse]
theorem trim_loop (s : List Int) (hs : s.length ≤ 1000000) : ∃ r, loopC (F_strings_trimRightByte_L2 61) s = some r ∧ r = .inr (trimR s) := by
  refine loop_inv (I := fun u : List Int => ∃ m, s = u ++ List.replicate m 61) (m := fun u => u.length) (fun u ⟨m, hm⟩ => ?_) s ⟨0, by simp⟩
  have hu : u.length ≤ 1000000 := by rw [hm] at hs; simp at hs; omega
  unfold F_strings_trimRightByte_L2
  dsimp only
  by_cases hp : (u.length : Int) > 0
  · have e1 : IntKind.i64.wrap ((u.length : Int) - 1) = (u.length : Int) - 1 := wrap_in (by omega) (by omega)
    obtain ⟨x, hx, hx2⟩ := getI_of (l := u) (j := (u.length : Int) - 1) (by omega) (by omega)
    have hlast : u.getLast? = some x := by
      rw [List.getLast?_eq_getElem?, ← hx2]
      congr 1
      omega
    rw [decide_eq_true hp, e1, hx, cond_true, Option.bind_some]
    by_cases h61 : x = 61
    · have hcut : cutI u 0 ((u.length : Int) - 1) = some u.dropLast := by
        unfold cutI
        rw [decide_eq_true (show (0 : Int) ≤ 0 by omega), decide_eq_true (show 0 ≤ (u.length : Int) - 1 by omega), decide_eq_true (show (u.length : Int) - 1 ≤ u.length by omega)]
        show some ((u.take ((u.length : Int) - 1).toNat).drop 0) = _
        rw [List.drop_zero, List.dropLast_eq_take]
        congr 2
        omega
      rw [show (x == (61 : Int)) = true from beq_iff_eq.2 h61, cond_true, hcut, Option.bind_some]
      refine .inr ⟨_, rfl, ⟨m + 1, ?_⟩, ?_⟩
      · have hne : u ≠ [] := fun e => by rw [e] at hp; simp at hp
        obtain ⟨ys, hys⟩ := List.getLast?_eq_some_iff.1 hlast
        rw [hm, List.replicate_succ, hys, h61, List.dropLast_concat, List.append_assoc]; rfl
      · rw [List.length_dropLast]; omega
    · rw [show (x == (61 : Int)) = false from beq_eq_false_iff_ne.2 h61, cond_false]
      exact .inl ⟨_, rfl, by rw [hm, trimR_of fun y hy => by rw [hlast] at hy; injection hy with hy; rw [← hy]; exact h61]⟩
  · rw [decide_eq_false hp, cond_false]
    have hu0 : u = [] := List.eq_nil_of_length_eq_zero (by omega)
    exact .inl ⟨_, rfl, by rw [hm, trimR_of fun y hy => by rw [hu0] at hy; cases hy]⟩
theorem trim_some (s : List Int) (hs : s.length ≤ 1000000) : F_strings_TrimRight s ([61] : List Int) = some (trimR s) := by
  obtain ⟨r, h1, h2⟩ := trim_loop s hs
  subst h2
  have hb : F_strings_trimRightByte s 61 = some (trimR s) := by
    unfold F_strings_trimRightByte
    rw [join_inr h1]; rfl
  unfold F_strings_TrimRight
  cases s with
  | nil => rfl
  | cons x r =>
    show (F_strings_trimRightByte (x :: r) 61).bind (fun s5 => some s5) = _
    rw [hb]; rfl
theorem trimR_len (s : List Int) : (trimR s).length ≤ s.length := by
  unfold trimR
  rw [List.length_reverse]
  have := List.dropWhile_suffix (l := s.reverse) (p := (· == 61))
  have := this.length_le
  rwa [List.length_reverse] at this
/-- Whatever is read: a fault, or the bytes whose text it is. -/
theorem dec_total (s : List Int) (hs : s.length ≤ 1000000) : F_b64_Decode s = some ([], 2) ∨ ∃ b : List Int, F_b64_Decode s = some (b, 0) ∧ encI b = s ∧ b.length ≤ 1000000 := by
  unfold F_b64_Decode
  rw [trim_some s hs, Option.bind_some]
  have hl := trimR_len s
  obtain ⟨r, h1, h2⟩ := dec_loop (trimR s) (by omega)
  rcases h2 with rfl | ⟨b, rfl, hb⟩
  · exact .inl (join_inl h1)
  · rw [join_inr h1]
    unfold F_b64_Decode_J4
    dsimp only
    rw [enc_some hb, Option.bind_some]
    by_cases he : encI b = s
    · right
      refine ⟨b, ?_, he, hb⟩
      rw [show (encI b == s) = true from beq_iff_eq.2 he]; rfl
    · left
      rw [show (encI b == s) = false from beq_eq_false_iff_ne.2 he]; rfl
end Go.Proofs.YtblngdnndkljoaaDoor

/- Base64: what was written is read. -/
namespace Go.Proofs.YtblngdnndkljoaaDoor
open Pv
set_option linter.unusedVariables false
theorem sig_idx : ∀ q : Fin 64, idxI signs (byteI (sigs.getD q.val 0)) = (q.val : Int) ∧ byteI (sigs.getD q.val 0) ≠ 61 := by decide +kernel
/-- The sign at a place. -/
theorem encK_get (l : List Int) : ∀ (k j t : Nat), j < k → t < 4 → (encK l k)[4 * j + t]? = some (sgn (min (l.length - 3 * j) 3) (gv l (3 * j) 3) t)
  | 0, j, t, h, _ => by omega
  | k + 1, j, t, h, ht => by
    show (encK l k ++ grp l (3 * k) 4)[4 * j + t]? = _
    by_cases hj : j < k
    · rw [List.getElem?_append_left (by rw [encK_len]; omega)]
      exact encK_get l k j t hj ht
    · obtain rfl : j = k := by omega
      rw [List.getElem?_append_right (by rw [encK_len]; omega), encK_len, show 4 * j + t - 4 * j = t by omega]
      unfold grp
      rw [List.getElem?_map, List.getElem?_range ht]; rfl
theorem encI_get (l : List Int) {j t : Nat} (hj : 3 * j < l.length) (ht : t < 4) : (encI l)[4 * j + t]? = some (byteI (sgn (min (l.length - 3 * j) 3) (gv l (3 * j) 3) t)) := by
  unfold encI encB
  rw [List.getElem?_map, encK_get l _ j t (by omega) ht]; rfl
/-- How many signs are no =. -/
def bl (n : Nat) : Nat := 4 * (n / 3) + (if n % 3 = 0 then 0 else n % 3 + 1)
theorem sgn_in {m t : Nat} {v : Int} (h : t ≤ m) (hv : 0 ≤ v) : ∃ q : Nat, q < 64 ∧ (q : Int) = v / 2 ^ (6 * (3 - t)) % 64 ∧ byteI (sgn m v t) = byteI (sigs.getD q 0) := by
  have hp : (0 : Int) < 2 ^ (6 * (3 - t)) := Int.pow_pos (by decide)
  refine ⟨((v / 2 ^ (6 * (3 - t))) % 64).toNat, by omega, by omega, ?_⟩
  unfold sgn
  rw [if_neg (by omega)]
theorem sgn_pad {m t : Nat} {v : Int} (h : m < t) : byteI (sgn m v t) = 61 := by
  unfold sgn
  rw [if_pos h]; rfl
theorem encI_cut (l : List Int) (hl : ∀ x ∈ l, 0 ≤ x ∧ x < 256) : trimR (encI l) = (encI l).take (bl l.length) := by
  have hlen := encI_len l
  have hble : bl l.length ≤ (encI l).length := by
    rw [hlen]; unfold bl
    split <;> omega
  have hrep : (encI l).drop (bl l.length) = List.replicate ((encI l).length - bl l.length) 61 := by
    rw [List.eq_replicate_iff]
    refine ⟨List.length_drop, fun x hx => ?_⟩
    obtain ⟨i, hi⟩ := List.mem_iff_getElem?.1 hx
    rw [List.getElem?_drop] at hi
    have hlt := (List.getElem?_eq_some_iff.1 hi).1
    rw [hlen] at hlt
    have hz : l.length % 3 ≠ 0 := fun e => by unfold bl at hlt; rw [if_pos e] at hlt; omega
    unfold bl at hi hlt
    rw [if_neg hz] at hi hlt
    have := encI_get l (j := l.length / 3) (t := l.length % 3 + 1 + i) (by omega) (by omega)
    rw [show 4 * (l.length / 3) + (l.length % 3 + 1) + i = 4 * (l.length / 3) + (l.length % 3 + 1 + i) by omega, this] at hi
    injection hi with hi
    rw [← hi]
    exact sgn_pad (by omega)
  conv => lhs; rw [← List.take_append_drop (bl l.length) (encI l), hrep]
  refine trimR_of fun x hx => ?_
  rw [List.getLast?_eq_getElem?, List.length_take, Nat.min_eq_left hble] at hx
  have hpos : 0 < bl l.length := by
    rcases Nat.eq_zero_or_pos (bl l.length) with e | e
    · rw [e] at hx; simp at hx
    · exact e
  rw [List.getElem?_take_of_lt (by omega)] at hx
  have hgv := gv_in hl
  by_cases hz : l.length % 3 = 0
  · unfold bl at hx hpos
    rw [if_pos hz] at hx hpos
    have := encI_get l (j := l.length / 3 - 1) (t := 3) (by omega) (by omega)
    rw [show 4 * (l.length / 3) + 0 - 1 = 4 * (l.length / 3 - 1) + 3 by omega, this] at hx
    injection hx with hx
    obtain ⟨q, q1, q2, q3⟩ := sgn_in (m := min (l.length - 3 * (l.length / 3 - 1)) 3) (t := 3) (by omega) (hgv (3 * (l.length / 3 - 1)) 3).1
    rw [← hx, q3]
    exact (sig_idx ⟨q, q1⟩).2
  · unfold bl at hx
    rw [if_neg hz] at hx
    have := encI_get l (j := l.length / 3) (t := l.length % 3) (by omega) (by omega)
    rw [show 4 * (l.length / 3) + (l.length % 3 + 1) - 1 = 4 * (l.length / 3) + l.length % 3 by omega, this] at hx
    injection hx with hx
    obtain ⟨q, q1, q2, q3⟩ := sgn_in (m := min (l.length - 3 * (l.length / 3)) 3) (t := l.length % 3) (by omega) (hgv (3 * (l.length / 3)) 3).1
    rw [← hx, q3]
    exact (sig_idx ⟨q, q1⟩).2
section
variable {s2 : List Int} {r : (List Int × Int) ⊕ (List Int)} {L : List Int} {A p c k : Int}
theorem st0 (hp0 : 0 ≤ p) (hp : p < s2.length) (hc : getI s2 p = some c) (hk : idxI signs c = k) (k0 : 0 ≤ k) (k1 : k < 64) (hA0 : 0 ≤ A) (hA1 : A < 16384) (hL : L.length ≤ 1000000) (hs : s2.length ≤ 1000000)
    (h : loopC (F_b64_Decode_L6 s2) (L, (A * 64 + k) % 16384, 6, p + 1) = some r) : loopC (F_b64_Decode_L6 s2) (L, A, 0, p) = some r :=
  loop_inr (dec_step hp0 hp hc hk k0 k1 hA0 hA1 (Int.le_refl 0) (by decide) hL hs) h
theorem st6 (hp0 : 0 ≤ p) (hp : p < s2.length) (hc : getI s2 p = some c) (hk : idxI signs c = k) (k0 : 0 ≤ k) (k1 : k < 64) (hA0 : 0 ≤ A) (hA1 : A < 16384) (hL : L.length ≤ 1000000) (hs : s2.length ≤ 1000000)
    (h : loopC (F_b64_Decode_L6 s2) (L ++ [((A * 64 + k) % 16384 / 16) % 256], (A * 64 + k) % 16384, 4, p + 1) = some r) : loopC (F_b64_Decode_L6 s2) (L, A, 6, p) = some r :=
  loop_inr (dec_step hp0 hp hc hk k0 k1 hA0 hA1 (by decide) (by decide) hL hs) h
theorem st4 (hp0 : 0 ≤ p) (hp : p < s2.length) (hc : getI s2 p = some c) (hk : idxI signs c = k) (k0 : 0 ≤ k) (k1 : k < 64) (hA0 : 0 ≤ A) (hA1 : A < 16384) (hL : L.length ≤ 1000000) (hs : s2.length ≤ 1000000)
    (h : loopC (F_b64_Decode_L6 s2) (L ++ [((A * 64 + k) % 16384 / 4) % 256], (A * 64 + k) % 16384, 2, p + 1) = some r) : loopC (F_b64_Decode_L6 s2) (L, A, 4, p) = some r :=
  loop_inr (dec_step hp0 hp hc hk k0 k1 hA0 hA1 (by decide) (by decide) hL hs) h
theorem st2 (hp0 : 0 ≤ p) (hp : p < s2.length) (hc : getI s2 p = some c) (hk : idxI signs c = k) (k0 : 0 ≤ k) (k1 : k < 64) (hA0 : 0 ≤ A) (hA1 : A < 16384) (hL : L.length ≤ 1000000) (hs : s2.length ≤ 1000000)
    (h : loopC (F_b64_Decode_L6 s2) (L ++ [((A * 64 + k) % 16384 / 1) % 256], (A * 64 + k) % 16384, 0, p + 1) = some r) : loopC (F_b64_Decode_L6 s2) (L, A, 2, p) = some r :=
  loop_inr (dec_step hp0 hp hc hk k0 k1 hA0 hA1 (by decide) (by decide) hL hs) h
end
theorem take_one {l : List Int} {i : Nat} (h : i < l.length) : l.take i ++ [l.getD i 0] = l.take (i + 1) := by
  rw [List.take_add_one, List.getD_eq_getElem?_getD, List.getElem?_eq_getElem h]; rfl
theorem gv3 (l : List Int) (i : Nat) : gv l i 3 = l.getD i 0 * 65536 + l.getD (i + 1) 0 * 256 + l.getD (i + 2) 0 := by
  show ((0 * 256 + l.getD (i + 0) 0) * 256 + l.getD (i + 1) 0) * 256 + l.getD (i + 2) 0 = _
  rw [Nat.add_zero]
  omega
theorem getI_nat {α : Type} {l : List α} {i : Nat} {x : α} (h : l[i]? = some x) : getI l (i : Int) = some x := by
  unfold getI
  rw [decide_eq_true (show (0 : Int) ≤ i by omega)]
  exact h
/-- The sign at a place, read. -/
theorem sign_at (l : List Int) (hl : ∀ x ∈ l, 0 ≤ x ∧ x < 256) {j t : Nat} (hj : 3 * j + t ≤ l.length) (hj' : 3 * j < l.length) (ht : t < 4) (hb : 4 * j + t < bl l.length) : ∃ c, getI ((encI l).take (bl l.length)) ((4 * j + t : Nat) : Int) = some c ∧ idxI signs c = gv l (3 * j) 3 / 2 ^ (6 * (3 - t)) % 64 := by
  obtain ⟨q, q1, q2, q3⟩ := sgn_in (m := min (l.length - 3 * j) 3) (t := t) (by omega) (gv_in hl (3 * j) 3).1
  refine ⟨_, getI_nat (by rw [List.getElem?_take_of_lt hb]; exact encI_get l hj' ht), ?_⟩
  rw [q3, ← q2]
  exact (sig_idx ⟨q, q1⟩).1
theorem read_groups (l : List Int) (hl : ∀ x ∈ l, 0 ≤ x ∧ x < 256) (hn : l.length ≤ 100000) : ∀ (d j : Nat), l.length / 3 - j = d → j ≤ l.length / 3 → ∀ A : Int, 0 ≤ A → A < 16384 → loopC (F_b64_Decode_L6 ((encI l).take (bl l.length))) (l.take (3 * j), A, 0, ((4 * j : Nat) : Int)) = some (.inr l) := by
  have hlen : ((encI l).take (bl l.length)).length = bl l.length := by
    rw [List.length_take, encI_len]
    unfold bl
    split <;> omega
  have hbl : bl l.length ≤ 1000000 := by unfold bl; split <;> omega
  intro d
  induction d with
  | zero =>
    intro j hd hj A hA0 hA1
    have hj : j = l.length / 3 := by omega
    have hg := gv3 l (3 * j)
    have g0 := getD_in hl (3 * j)
    have g1 := getD_in hl (3 * j + 1)
    have g2 := getD_in hl (3 * j + 2)
    have hLen : (l.take (3 * j)).length ≤ 1000000 := by rw [List.length_take]; omega
    have hb : bl l.length = 4 * j + (if l.length % 3 = 0 then 0 else l.length % 3 + 1) := by unfold bl; rw [hj]
    by_cases h0 : l.length % 3 = 0
    · rw [if_pos h0] at hb
      have : l.take (3 * j) = l := List.take_of_length_le (by omega)
      rw [this]
      exact loop_inl (dec_end (by rw [hlen]; omega))
    · rw [if_neg h0] at hb
      obtain ⟨c0, x0, y0⟩ := sign_at l hl (j := j) (t := 0) (by omega) (by omega) (by omega) (by omega)
      obtain ⟨c1, x1, y1⟩ := sign_at l hl (j := j) (t := 1) (by omega) (by omega) (by omega) (by omega)
      rw [show (2 : Int) ^ (6 * (3 - 0)) = 262144 by decide] at y0
      rw [show (2 : Int) ^ (6 * (3 - 1)) = 4096 by decide] at y1
      refine st0 (by omega) (by rw [hlen]; omega) x0 y0 (by omega) (by omega) hA0 hA1 hLen (by omega) ?_
      refine st6 (p := ((4 * j : Nat) : Int) + 1) (by omega) (by rw [hlen]; omega) x1 y1 (by omega) (by omega) (by omega) (by omega) hLen (by omega) ?_
      generalize hA2 : (((A * 64 + gv l (3 * j) 3 / 262144 % 64) % 16384 * 64 + gv l (3 * j) 3 / 4096 % 64) % 16384) = A2
      have e0 : A2 / 16 % 256 = l.getD (3 * j) 0 := by omega
      rw [e0, take_one (by omega)]
      by_cases h1 : l.length % 3 = 1
      · have : l.take (3 * j + 1) = l := List.take_of_length_le (by omega)
        rw [this]
        exact loop_inl (dec_end (by rw [hlen]; omega))
      · obtain ⟨c2, x2, y2⟩ := sign_at l hl (j := j) (t := 2) (by omega) (by omega) (by omega) (by omega)
        rw [show (2 : Int) ^ (6 * (3 - 2)) = 64 by decide] at y2
        refine st4 (p := ((4 * j : Nat) : Int) + 1 + 1) (by omega) (by rw [hlen]; omega) (by rw [← x2]; congr 1) y2 (by omega) (by omega) (by omega) (by omega) (by rw [List.length_take]; omega) (by omega) ?_
        have e1 : (A2 * 64 + gv l (3 * j) 3 / 64 % 64) % 16384 / 4 % 256 = l.getD (3 * j + 1) 0 := by omega
        rw [e1, take_one (by omega)]
        have : l.take (3 * j + 1 + 1) = l := List.take_of_length_le (by omega)
        rw [this]
        exact loop_inl (dec_end (by rw [hlen]; omega))
  | succ d ih =>
    intro j hd hj A hA0 hA1
    have hg := gv3 l (3 * j)
    have g0 := getD_in hl (3 * j)
    have g1 := getD_in hl (3 * j + 1)
    have g2 := getD_in hl (3 * j + 2)
    have hLen : ∀ i, (l.take i).length ≤ 1000000 := fun i => by rw [List.length_take]; omega
    have hb : 4 * j + 4 ≤ bl l.length := by unfold bl; split <;> omega
    obtain ⟨c0, x0, y0⟩ := sign_at l hl (j := j) (t := 0) (by omega) (by omega) (by omega) (by omega)
    obtain ⟨c1, x1, y1⟩ := sign_at l hl (j := j) (t := 1) (by omega) (by omega) (by omega) (by omega)
    obtain ⟨c2, x2, y2⟩ := sign_at l hl (j := j) (t := 2) (by omega) (by omega) (by omega) (by omega)
    obtain ⟨c3, x3, y3⟩ := sign_at l hl (j := j) (t := 3) (by omega) (by omega) (by omega) (by omega)
    rw [show (2 : Int) ^ (6 * (3 - 0)) = 262144 by decide] at y0
    rw [show (2 : Int) ^ (6 * (3 - 1)) = 4096 by decide] at y1
    rw [show (2 : Int) ^ (6 * (3 - 2)) = 64 by decide] at y2
    rw [show (2 : Int) ^ (6 * (3 - 3)) = 1 by decide] at y3
    refine st0 (by omega) (by rw [hlen]; omega) x0 y0 (by omega) (by omega) hA0 hA1 (hLen _) (by omega) ?_
    refine st6 (p := ((4 * j : Nat) : Int) + 1) (by omega) (by rw [hlen]; omega) x1 y1 (by omega) (by omega) (by omega) (by omega) (hLen _) (by omega) ?_
    generalize hA2 : (((A * 64 + gv l (3 * j) 3 / 262144 % 64) % 16384 * 64 + gv l (3 * j) 3 / 4096 % 64) % 16384) = A2
    have e0 : A2 / 16 % 256 = l.getD (3 * j) 0 := by omega
    rw [e0, take_one (by omega)]
    refine st4 (p := ((4 * j : Nat) : Int) + 1 + 1) (by omega) (by rw [hlen]; omega) (by rw [← x2]; congr 1) y2 (by omega) (by omega) (by omega) (by omega) (hLen _) (by omega) ?_
    generalize hA3 : (A2 * 64 + gv l (3 * j) 3 / 64 % 64) % 16384 = A3
    have e1 : A3 / 4 % 256 = l.getD (3 * j + 1) 0 := by omega
    rw [e1, take_one (by omega)]
    refine st2 (p := ((4 * j : Nat) : Int) + 1 + 1 + 1) (by omega) (by rw [hlen]; omega) (by rw [← x3]; congr 1) y3 (by omega) (by omega) (by omega) (by omega) (hLen _) (by omega) ?_
    generalize hA4 : (A3 * 64 + gv l (3 * j) 3 / 1 % 64) % 16384 = A4
    have e2 : A4 / 1 % 256 = l.getD (3 * j + 2) 0 := by omega
    rw [e2, take_one (by omega)]
    have := ih (j + 1) (by omega) (by omega) A4 (by omega) (by omega)
    rw [show 3 * j + 1 + 1 + 1 = 3 * (j + 1) by omega, show ((4 * j : Nat) : Int) + 1 + 1 + 1 + 1 = ((4 * (j + 1) : Nat) : Int) by omega]
    exact this
theorem dec_enc (l : List Int) (hl : ∀ x ∈ l, 0 ≤ x ∧ x < 256) (hn : l.length ≤ 100000) : F_b64_Decode (encI l) = some (l, 0) := by
  unfold F_b64_Decode
  rw [trim_some _ (by rw [encI_len]; omega), Option.bind_some, encI_cut l hl]
  have := read_groups l hl hn _ 0 rfl (by omega) 0 (by decide) (by decide)
  rw [Nat.mul_zero, List.take_zero] at this
  have this : loopC (F_b64_Decode_L6 ((encI l).take (bl l.length))) ([], 0, 0, 0) = some (.inr l) := this
  rw [join_inr this]
  unfold F_b64_Decode_J4
  dsimp only
  rw [enc_some (by omega), Option.bind_some, show (encI l == encI l) = true from beq_self_eq_true _]
  rfl
end Go.Proofs.YtblngdnndkljoaaDoor

/- B64Back and B64Joins: plain. -/
namespace Go.Proofs.YtblngdnndkljoaaDoor
open Pv
set_option linter.unusedVariables false
theorem abc : encI [97, 58, 98] = [89, 84, 112, 105] := by decide +kernel
theorem dec_odd {s : List Int} (hs : s.length ≤ 1000000) (h4 : s.length % 4 ≠ 0) : F_b64_Decode s = some ([], 2) := by
  rcases dec_total s hs with h | ⟨b, _, he, _⟩
  · exact h
  · exfalso
    rw [← he, encI_len] at h4
    omega
theorem gv_app {a b : List Int} {i : Nat} (h : i + 3 ≤ a.length) : gv (a ++ b) i 3 = gv a i 3 := by
  rw [gv3, gv3]
  have e : ∀ j, j < a.length → (a ++ b).getD j 0 = a.getD j 0 := fun j hj => by
    rw [List.getD_eq_getElem?_getD, List.getD_eq_getElem?_getD, List.getElem?_append_left hj]
  rw [e i (by omega), e (i + 1) (by omega), e (i + 2) (by omega)]
theorem encK_app {a b : List Int} : ∀ k, 3 * k ≤ a.length → encK (a ++ b) k = encK a k
  | 0, _ => rfl
  | k + 1, h => by
    show encK (a ++ b) k ++ grp (a ++ b) (3 * k) 4 = encK a k ++ grp a (3 * k) 4
    rw [encK_app k (by omega)]
    unfold grp
    rw [gv_app (by omega), List.length_append, show min (a.length + b.length - 3 * k) 3 = 3 by omega, show min (a.length - 3 * k) 3 = 3 by omega]
theorem grp_shift {a b : List Int} {i : Nat} : grp (a ++ b) (a.length + i) 4 = grp b i 4 := by
  have e : ∀ j, (a ++ b).getD (a.length + j) 0 = b.getD j 0 := fun j => by
    rw [List.getD_eq_getElem?_getD, List.getD_eq_getElem?_getD, List.getElem?_append_right (by omega), Nat.add_sub_cancel_left]
  unfold grp
  rw [gv3, gv3, List.length_append, e, Nat.add_assoc, e, Nat.add_assoc, e, show a.length + b.length - (a.length + i) = b.length - i by omega]
theorem encK_shift {a b : List Int} {q : Nat} (h : a.length = 3 * q) : ∀ k, encK (a ++ b) (q + k) = encK a q ++ encK b k
  | 0 => by
    rw [Nat.add_zero, encK_app q (by omega)]
    exact (List.append_nil _).symm
  | k + 1 => by
    show encK (a ++ b) (q + k) ++ grp (a ++ b) (3 * (q + k)) 4 = encK a q ++ (encK b k ++ grp b (3 * k) 4)
    rw [encK_shift h k, show 3 * (q + k) = a.length + 3 * k by omega, grp_shift, List.append_assoc]
theorem encI_app {a b : List Int} {q : Nat} (h : a.length = 3 * q) : encI (a ++ b) = encI a ++ encI b := by
  unfold encI encB
  rw [List.length_append, show (a.length + b.length + 2) / 3 = q + (b.length + 2) / 3 by omega, show (a.length + 2) / 3 = q by omega, encK_shift h, List.map_append]
end Go.Proofs.YtblngdnndkljoaaDoor

/- B64Tells: plain: wlvref1.Decode reads what b64.Decode reads. -/
namespace Go.Proofs.YtblngdnndkljoaaDoor
open Pv
set_option linter.unusedVariables false
/-! ### a sign's value -/
theorem sign_at64 : ∀ q : Fin 64, F_wlvref1_sign (q.val : Int) = some (signs.getD q.val 0) := by decide +kernel
theorem signs_drop {j : Nat} (h : j < 64) : signs.drop j = signs.getD j 0 :: signs.drop (j + 1) := by
  have hl : j < signs.length := h
  rw [List.drop_eq_getElem_cons hl, List.getD_eq_getElem?_getD, List.getElem?_eq_getElem hl]; rfl
theorem value_loop (c : Int) : ∀ (d j : Nat), 64 - j = d → j ≤ 64 → loopC (F_wlvref1_value_L3 c) (j : Int) = some (cond (decide (idxI (signs.drop j) c < 0)) (.inr ()) (.inl (idxI (signs.drop j) c + j)))
  | 0, j, hd, hj => by
    obtain rfl : j = 64 := by omega
    refine loop_inl ?_
    unfold F_wlvref1_value_L3
    rfl
  | d + 1, j, hd, hj => by
    have hlt : j < 64 := by omega
    have ih := value_loop c d (j + 1) (by omega) (by omega)
    have hs := sign_at64 ⟨j, hlt⟩
    have hb : F_wlvref1_value_L3 c (j : Int) = cond (signs.getD j 0 == c) (some (.inl (.inl (j : Int)))) (some (.inr ((j : Int) + 1))) := by
      unfold F_wlvref1_value_L3
      dsimp only
      rw [decide_eq_true (show (j : Int) < 64 by omega), cond_true]
      have hs' : F_wlvref1_sign (j : Int) = some (signs.getD j 0) := hs
      rw [hs', Option.bind_some, wrap_in (by omega) (by omega)]
    rw [signs_drop hlt]
    have hin := idxI_in (signs.drop (j + 1)) c
    unfold idxI
    cases he : (signs.getD j 0 == c) with
    | true =>
      rw [he] at hb
      rw [cond_true]
      rw [loop_inl (show F_wlvref1_value_L3 c (j : Int) = some (.inl (.inl (j : Int))) from hb)]
      simp
    | false =>
      rw [he] at hb
      rw [cond_false]
      rw [loop_inr (show F_wlvref1_value_L3 c (j : Int) = some (.inr ((j : Int) + 1)) from hb) (show loopC (F_wlvref1_value_L3 c) ((j : Int) + 1) = _ from ih)]
      by_cases h1 : idxI (signs.drop (j + 1)) c = -1
      · rw [h1]; rfl
      · rw [show (idxI (signs.drop (j + 1)) c == -1) = false from beq_eq_false_iff_ne.2 h1, cond_false, decide_eq_false (show ¬ idxI (signs.drop (j + 1)) c < 0 by omega), decide_eq_false (show ¬ idxI (signs.drop (j + 1)) c + 1 < 0 by omega), cond_false, cond_false]
        congr 2
        omega
theorem value_eq (c : Int) : F_wlvref1_value c = some (idxI signs c) := by
  have h := value_loop c 64 0 rfl (by omega)
  rw [List.drop_zero] at h
  have hin := idxI_in signs c
  unfold F_wlvref1_value
  by_cases h0 : idxI signs c < 0
  · rw [decide_eq_true h0, cond_true] at h
    rw [join_inr (show loopC (F_wlvref1_value_L3 c) 0 = _ from h)]
    unfold F_wlvref1_value_J1
    rw [show idxI signs c = -1 by omega]
  · rw [decide_eq_false h0, cond_false] at h
    rw [join_inl (show loopC (F_wlvref1_value_L3 c) 0 = _ from h)]
    congr 1
    show idxI signs c + ((0 : Nat) : Int) = _
    omega
/-! ### four signs -/
def up0 (v : Int) : Int := cond (decide (v < 0)) 0 v
def lowN (v n k : Int) : Int := cond (decide (v < 0)) (minI n k) n
theorem step14 {s L : List Int} {i w n k c : Int} (hi : 0 ≤ i) (hi2 : i ≤ 1000000) (hk : 0 ≤ k) (hk4 : k < 4) (hw : 0 ≤ w) (hw2 : w < 1073741824) (hc : getI s (i + k) = some c) :
    F_wlvref1_Decode_L14 s i (L, w, n, k) = some (.inr (L, w * 64 + up0 (idxI signs c), lowN (idxI signs c) n k, k + 1)) := by
  have hin := idxI_in signs c
  have hsl : signs.length = 64 := rfl
  have e1 : IntKind.i64.wrap (i + k) = i + k := wrap_in (by omega) (by omega)
  have e2 : IntKind.i64.wrap (k + 1) = k + 1 := wrap_in (by omega) (by omega)
  have e3 : ∀ v : Int, 0 ≤ v → v < 64 → bits .or .i64 (IntKind.i64.wrap (w * 2 ^ 6)) v = w * 64 + v := fun v h0 h1 => by
    rw [show w * (2 : Int) ^ 6 = w * 64 from rfl, w64 (by omega) (by omega)]
    exact bits_join .i64 40 (by decide) (fun n h0 h1 => w64 h0 (by rw [← e40]; exact h1)) 6 (w * 64) v (by omega) (by show w * 64 % 64 = 0; omega) (by rw [e40]; omega) h0 (by show v < 64; exact h1) (by rw [e40]; omega)
  unfold F_wlvref1_Decode_L14
  dsimp only
  rw [decide_eq_true hk4, cond_true, e1, hc, Option.bind_some, value_eq, Option.bind_some, e2]
  unfold up0 lowN
  by_cases hv : idxI signs c < 0
  · rw [decide_eq_true hv, cond_true, cond_true, cond_true, e3 0 (by omega) (by omega)]
  · rw [decide_eq_false hv, cond_false, cond_false, cond_false, e3 _ (by omega) (by omega)]
theorem up0_in (c : Int) : 0 ≤ up0 (idxI signs c) ∧ up0 (idxI signs c) < 64 := by
  have hin := idxI_in signs c
  have hsl : signs.length = 64 := rfl
  unfold up0
  by_cases hv : idxI signs c < 0
  · rw [decide_eq_true hv, cond_true]; omega
  · rw [decide_eq_false hv, cond_false]; omega
def word4 (v0 v1 v2 v3 : Int) : Int := (((0 * 64 + up0 v0) * 64 + up0 v1) * 64 + up0 v2) * 64 + up0 v3
def num4 (v0 v1 v2 v3 : Int) : Int := lowN v3 (lowN v2 (lowN v1 (lowN v0 4 0) 1) 2) 3
theorem read4 {s L : List Int} {i c0 c1 c2 c3 : Int} (hi : 0 ≤ i) (hi2 : i ≤ 1000000) (h0 : getI s (i + 0) = some c0) (h1 : getI s (i + 1) = some c1) (h2 : getI s (i + 2) = some c2) (h3 : getI s (i + 3) = some c3) :
    loopC (F_wlvref1_Decode_L14 s i) (L, 0, 4, 0) = some (.inr (L, word4 (idxI signs c0) (idxI signs c1) (idxI signs c2) (idxI signs c3), num4 (idxI signs c0) (idxI signs c1) (idxI signs c2) (idxI signs c3))) := by
  have u0 := up0_in c0
  have u1 := up0_in c1
  have u2 := up0_in c2
  refine loop_inr (step14 (k := 0) hi hi2 (by omega) (by omega) (by omega) (by omega) h0) ?_
  refine loop_inr (step14 (k := 0 + 1) hi hi2 (by omega) (by omega) (by omega) (by omega) h1) ?_
  refine loop_inr (step14 (k := 0 + 1 + 1) hi hi2 (by omega) (by omega) (by omega) (by omega) h2) ?_
  refine loop_inr (step14 (k := 0 + 1 + 1 + 1) hi hi2 (by omega) (by omega) (by omega) (by omega) h3) ?_
  refine loop_inl ?_
  unfold F_wlvref1_Decode_L14
  rfl
theorem lowN_in {v n k : Int} (hn : 0 ≤ n ∧ n ≤ 4) (hk : 0 ≤ k ∧ k ≤ 4) : 0 ≤ lowN v n k ∧ lowN v n k ≤ 4 := by
  unfold lowN minI
  by_cases h : v < 0 <;> by_cases h2 : k < n <;> simp [h, h2] <;> omega
theorem num4_in (v0 v1 v2 v3 : Int) : 0 ≤ num4 v0 v1 v2 v3 ∧ num4 v0 v1 v2 v3 ≤ 4 := lowN_in (lowN_in (lowN_in (lowN_in (by omega) (by omega)) (by omega)) (by omega)) (by omega)
theorem word4_in (c0 c1 c2 c3 : Int) : 0 ≤ word4 (idxI signs c0) (idxI signs c1) (idxI signs c2) (idxI signs c3) ∧ word4 (idxI signs c0) (idxI signs c1) (idxI signs c2) (idxI signs c3) < 16777216 := by
  have u0 := up0_in c0
  have u1 := up0_in c1
  have u2 := up0_in c2
  have u3 := up0_in c3
  unfold word4
  omega
def three (w : Int) : List Int := [w / 65536 % 256, w / 256 % 256, w % 256]
/-- One group of the reference. -/
theorem group {s L : List Int} {i c0 c1 c2 c3 : Int} (hi : 0 ≤ i) (hi2 : i ≤ 1000000) (hL : L.length ≤ 1000000) (hs : i < s.length) (h0 : getI s (i + 0) = some c0) (h1 : getI s (i + 1) = some c1) (h2 : getI s (i + 2) = some c2) (h3 : getI s (i + 3) = some c3) :
    F_wlvref1_Decode_L7 s (L, i) = some (cond (decide (num4 (idxI signs c0) (idxI signs c1) (idxI signs c2) (idxI signs c3) < 2)) (.inl (.inl ([], 2)))
      (.inr (L ++ (three (word4 (idxI signs c0) (idxI signs c1) (idxI signs c2) (idxI signs c3))).take (num4 (idxI signs c0) (idxI signs c1) (idxI signs c2) (idxI signs c3) - 1).toNat, i + 4))) := by
  have hr := read4 (L := L) hi hi2 h0 h1 h2 h3
  have hn := num4_in (idxI signs c0) (idxI signs c1) (idxI signs c2) (idxI signs c3)
  have hw := word4_in c0 c1 c2 c3
  generalize num4 (idxI signs c0) (idxI signs c1) (idxI signs c2) (idxI signs c3) = n at hr hn
  generalize word4 (idxI signs c0) (idxI signs c1) (idxI signs c2) (idxI signs c3) = w at hr hw
  unfold F_wlvref1_Decode_L7
  dsimp only
  rw [decide_eq_true hs, cond_true, join_inr hr]
  unfold F_wlvref1_Decode_J12
  dsimp only
  by_cases h : n < 2
  · rw [decide_eq_true h, cond_true, cond_true]
    rfl
  · rw [decide_eq_false h, cond_false, cond_false, wrap_in (x := n - 1) (by omega) (by omega), u8w, u8w, u8w, Int.fdiv_eq_ediv_of_nonneg _ (by decide), Int.fdiv_eq_ediv_of_nonneg _ (by decide)]
    have hc : cutI ([w / 2 ^ 16 % 256, w / 2 ^ 8 % 256, w % 256] : List Int) 0 (n - 1) = some ((three w).take (n - 1).toNat) := by
      unfold cutI
      rw [decide_eq_true (show (0 : Int) ≤ 0 by omega), decide_eq_true (show 0 ≤ n - 1 by omega), decide_eq_true (show n - 1 ≤ (([w / 2 ^ 16 % 256, w / 2 ^ 8 % 256, w % 256] : List Int).length : Int) by show n - 1 ≤ 3; omega)]
      rfl
    have htl : ((three w).take (n - 1).toNat).length ≤ 3 := by rw [List.length_take]; show min _ 3 ≤ 3; omega
    have hm : maxLen = 9223372036854775807 := rfl
    rw [hc, Option.bind_some]
    unfold chk
    rw [decide_eq_true (show (L.length + ((three w).take (n - 1).toNat).length) * 1 ≤ 140737488355328 by omega), decide_eq_true (show L.length + ((three w).take (n - 1).toNat).length ≤ maxLen by omega)]
    show joinC (some (.inr (L ++ (three w).take (n - 1).toNat))) (F_wlvref1_Decode_J10 i) = _
    rw [join_inr rfl]
    unfold F_wlvref1_Decode_J10
    rw [wrap_in (x := i + 4) (by omega) (by omega)]
theorem ref_end {s L : List Int} {i : Int} (h : ¬ i < s.length) : F_wlvref1_Decode_L7 s (L, i) = some (.inl (.inr L)) := by
  unfold F_wlvref1_Decode_L7
  dsimp only
  rw [decide_eq_false h]; rfl
theorem three_in (w : Int) : ∀ x ∈ three w, 0 ≤ x ∧ x < 256 := fun x hx => by
  unfold three at hx
  simp at hx
  rcases hx with rfl | rfl | rfl <;> omega
theorem ref_loop (s : List Int) (hs : s.length ≤ 100000) (h4 : s.length % 4 = 0) : ∃ r, loopC (F_wlvref1_Decode_L7 s) ([], 0) = some r ∧ (r = .inl ([], 2) ∨ ∃ b : List Int, r = .inr b ∧ b.length ≤ 100000 ∧ ∀ x ∈ b, 0 ≤ x ∧ x < 256) := by
  refine loop_inv (I := fun s' : List Int × Int => 0 ≤ s'.2 ∧ s'.2 % 4 = 0 ∧ s'.2 ≤ (s.length : Int) ∧ (s'.1.length : Int) ≤ s'.2 ∧ ∀ x ∈ s'.1, 0 ≤ x ∧ x < 256) (m := fun s' => ((s.length : Int) - s'.2).toNat) (fun s' ⟨h1, h2, h3, h5, h6⟩ => ?_) _ ⟨by decide, by decide, by show (0 : Int) ≤ _; omega, by show (0 : Int) ≤ 0; decide, fun x hx => by cases hx⟩
  obtain ⟨L, i⟩ := s'
  simp only at h1 h2 h3 h5 h6
  by_cases hp : i < s.length
  · obtain ⟨c0, x0, _⟩ := getI_of (l := s) (j := i + 0) (by omega) (by omega)
    obtain ⟨c1, x1, _⟩ := getI_of (l := s) (j := i + 1) (by omega) (by omega)
    obtain ⟨c2, x2, _⟩ := getI_of (l := s) (j := i + 2) (by omega) (by omega)
    obtain ⟨c3, x3, _⟩ := getI_of (l := s) (j := i + 3) (by omega) (by omega)
    have hg := group (L := L) h1 (by omega) (by omega) hp x0 x1 x2 x3
    by_cases hn : num4 (idxI signs c0) (idxI signs c1) (idxI signs c2) (idxI signs c3) < 2
    · rw [decide_eq_true hn, cond_true] at hg
      exact .inl ⟨_, hg, .inl rfl⟩
    · rw [decide_eq_false hn, cond_false] at hg
      have hl3 : ((three (word4 (idxI signs c0) (idxI signs c1) (idxI signs c2) (idxI signs c3))).take (num4 (idxI signs c0) (idxI signs c1) (idxI signs c2) (idxI signs c3) - 1).toNat).length ≤ 3 := by rw [List.length_take]; show min _ 3 ≤ 3; omega
      refine .inr ⟨_, hg, ⟨by show 0 ≤ i + 4; omega, by show (i + 4) % 4 = 0; omega, by show i + 4 ≤ _; omega, by
        show ((L ++ _).length : Int) ≤ i + 4
        rw [List.length_append]; omega, fun x hx => ?_⟩, by show ((s.length : Int) - (i + 4)).toNat < ((s.length : Int) - i).toNat; omega⟩
      rcases List.mem_append.1 hx with hx | hx
      · exact h6 x hx
      · exact three_in _ x (List.mem_of_mem_take hx)
  · exact .inl ⟨_, ref_end hp, .inr ⟨L, rfl, by omega, h6⟩⟩
theorem renc_some {l : List Int} (h : l.length ≤ 100000) : F_wlvref1_Encode l = some (encI l) := by
  unfold F_wlvref1_Encode
  rw [Nat.ble_eq_true_of_le (show l.length ≤ 1000000 by omega)]; rfl
theorem ref_total (s : List Int) (hs : s.length ≤ 100000) : F_wlvref1_Decode s = some ([], 2) ∨ ∃ b : List Int, F_wlvref1_Decode s = some (b, 0) ∧ encI b = s ∧ b.length ≤ 100000 ∧ ∀ x ∈ b, 0 ≤ x ∧ x < 256 := by
  unfold F_wlvref1_Decode
  have e4 : Int.tmod (s.length : Int) 4 = ((s.length % 4 : Nat) : Int) := by rw [Int.tmod_eq_emod_of_nonneg (by omega)]; omega
  by_cases h4 : s.length % 4 = 0
  · rw [e4, h4, show (((0 : Nat) : Int) != 0) = false from rfl, cond_false]
    obtain ⟨r, h1, h2⟩ := ref_loop s hs h4
    rcases h2 with rfl | ⟨b, rfl, hb, hr⟩
    · exact .inl (join_inl h1)
    · rw [join_inr h1]
      unfold F_wlvref1_Decode_J5
      dsimp only
      rw [renc_some hb, Option.bind_some]
      by_cases he : encI b = s
      · right
        refine ⟨b, ?_, he, hb, hr⟩
        rw [show (encI b == s) = true from beq_iff_eq.2 he]; rfl
      · left
        rw [show (encI b == s) = false from beq_eq_false_iff_ne.2 he]; rfl
  · left
    rw [e4, show (((s.length % 4 : Nat) : Int) != 0) = true by rw [bne_iff_ne]; omega]; rfl
end Go.Proofs.YtblngdnndkljoaaDoor

/- B64Tells: plain, the rest. -/
namespace Go.Proofs.YtblngdnndkljoaaDoor
open Pv
set_option linter.unusedVariables false
theorem idx_pad : idxI signs 61 = -1 := by decide +kernel
theorem val_in {m t : Nat} {v d : Int} (h : t ≤ m) (hv : 0 ≤ v) (hd : (2 : Int) ^ (6 * (3 - t)) = d) : idxI signs (byteI (sgn m v t)) = v / d % 64 := by
  obtain ⟨q, q1, q2, q3⟩ := sgn_in h hv
  rw [q3, (sig_idx ⟨q, q1⟩).1, q2, hd]
theorem val_pad {m t : Nat} {v : Int} (h : m < t) : idxI signs (byteI (sgn m v t)) = -1 := by rw [sgn_pad h, idx_pad]
theorem up0_nn {v : Int} (h : 0 ≤ v) : up0 v = v := by unfold up0; rw [decide_eq_false (by omega)]; rfl
theorem lowN_nn {v n k : Int} (h : 0 ≤ v) : lowN v n k = n := by unfold lowN; rw [decide_eq_false (by omega)]; rfl
theorem ref_groups (l : List Int) (hl : ∀ x ∈ l, 0 ≤ x ∧ x < 256) (hn : l.length ≤ 20000) : ∀ (d j : Nat), (l.length + 2) / 3 - j = d → j ≤ (l.length + 2) / 3 → loopC (F_wlvref1_Decode_L7 (encI l)) (l.take (3 * j), ((4 * j : Nat) : Int)) = some (.inr l)
  | 0, j, hd, hj => by
    have hlen := encI_len l
    rw [List.take_of_length_le (by omega)]
    exact loop_inl (ref_end (by omega))
  | d + 1, j, hd, hj => by
    have hlen := encI_len l
    have hj3 : 3 * j < l.length := by omega
    have ih := ref_groups l hl hn d (j + 1) (by omega) (by omega)
    have hg := gv3 l (3 * j)
    have g0 := getD_in hl (3 * j)
    have g1 := getD_in hl (3 * j + 1)
    have g2 := getD_in hl (3 * j + 2)
    have hgn := (gv_in hl (3 * j) 3).1
    have c : ∀ t : Nat, t < 4 → getI (encI l) (((4 * j : Nat) : Int) + (t : Int)) = some (byteI (sgn (min (l.length - 3 * j) 3) (gv l (3 * j) 3) t)) := fun t ht => by
      rw [show ((4 * j : Nat) : Int) + (t : Int) = ((4 * j + t : Nat) : Int) by omega]
      exact getI_nat (encI_get l hj3 ht)
    have hgrp := group (s := encI l) (L := l.take (3 * j)) (i := ((4 * j : Nat) : Int)) (by omega) (by omega) (by rw [List.length_take]; omega) (by omega) (c 0 (by omega)) (c 1 (by omega)) (c 2 (by omega)) (c 3 (by omega))
    generalize hv : gv l (3 * j) 3 = v at hgrp hg hgn
    rw [show ((4 * j : Nat) : Int) + 4 = ((4 * (j + 1) : Nat) : Int) by omega] at hgrp
    have e0 : v / 65536 % 256 = l.getD (3 * j) 0 := by omega
    have e1 : v / 256 % 256 = l.getD (3 * j + 1) 0 := by omega
    have e2 : v % 256 = l.getD (3 * j + 2) 0 := by omega
    obtain hm | hm | hm : min (l.length - 3 * j) 3 = 3 ∨ min (l.length - 3 * j) 3 = 2 ∨ min (l.length - 3 * j) 3 = 1 := by omega
    · rw [hm, val_in (d := 262144) (by omega) hgn (by decide), val_in (d := 4096) (by omega) hgn (by decide), val_in (d := 64) (by omega) hgn (by decide), val_in (d := 1) (by omega) hgn (by decide)] at hgrp
      have h4 : num4 (v / 262144 % 64) (v / 4096 % 64) (v / 64 % 64) (v / 1 % 64) = 4 := by
        unfold num4
        rw [lowN_nn (by omega), lowN_nn (by omega), lowN_nn (by omega), lowN_nn (by omega)]
      have hw : word4 (v / 262144 % 64) (v / 4096 % 64) (v / 64 % 64) (v / 1 % 64) = v := by
        unfold word4
        rw [up0_nn (by omega), up0_nn (by omega), up0_nn (by omega), up0_nn (by omega)]
        omega
      rw [h4, hw, show decide ((4 : Int) < 2) = false from rfl, cond_false] at hgrp
      refine loop_inr hgrp ?_
      rw [show (three v).take ((4 : Int) - 1).toNat = [l.getD (3 * j) 0, l.getD (3 * j + 1) 0, l.getD (3 * j + 2) 0] by unfold three; rw [e0, e1, e2]; rfl]
      rw [show l.take (3 * j) ++ [l.getD (3 * j) 0, l.getD (3 * j + 1) 0, l.getD (3 * j + 2) 0] = l.take (3 * (j + 1)) by
        rw [show [l.getD (3 * j) 0, l.getD (3 * j + 1) 0, l.getD (3 * j + 2) 0] = [l.getD (3 * j) 0] ++ ([l.getD (3 * j + 1) 0] ++ [l.getD (3 * j + 2) 0]) from rfl, ← List.append_assoc, ← List.append_assoc, take_one (by omega), take_one (by omega), take_one (by omega)]; rfl]
      exact ih
    · have hz : l.getD (3 * j + 2) 0 = 0 := by rw [List.getD_eq_getElem?_getD, List.getElem?_eq_none (by omega)]; rfl
      rw [hm, val_in (d := 262144) (by omega) hgn (by decide), val_in (d := 4096) (by omega) hgn (by decide), val_in (d := 64) (by omega) hgn (by decide), val_pad (by omega)] at hgrp
      have h4 : num4 (v / 262144 % 64) (v / 4096 % 64) (v / 64 % 64) (-1) = 3 := by
        unfold num4
        rw [lowN_nn (v := v / 64 % 64) (by omega), lowN_nn (v := v / 4096 % 64) (by omega), lowN_nn (v := v / 262144 % 64) (by omega)]
        rfl
      have hw : word4 (v / 262144 % 64) (v / 4096 % 64) (v / 64 % 64) (-1) = v := by
        unfold word4
        rw [up0_nn (by omega), up0_nn (by omega), up0_nn (by omega), show up0 (-1) = 0 from rfl]
        omega
      rw [h4, hw, show decide ((3 : Int) < 2) = false from rfl, cond_false] at hgrp
      refine loop_inr hgrp ?_
      rw [show (three v).take ((3 : Int) - 1).toNat = [l.getD (3 * j) 0, l.getD (3 * j + 1) 0] by unfold three; rw [e0, e1]; rfl]
      rw [show l.take (3 * j) ++ [l.getD (3 * j) 0, l.getD (3 * j + 1) 0] = l.take (3 * (j + 1)) by
        rw [show [l.getD (3 * j) 0, l.getD (3 * j + 1) 0] = [l.getD (3 * j) 0] ++ [l.getD (3 * j + 1) 0] from rfl, ← List.append_assoc, take_one (by omega), take_one (by omega), List.take_of_length_le (by omega), List.take_of_length_le (by omega)]]
      exact ih
    · have hz : l.getD (3 * j + 2) 0 = 0 := by rw [List.getD_eq_getElem?_getD, List.getElem?_eq_none (by omega)]; rfl
      have hz1 : l.getD (3 * j + 1) 0 = 0 := by rw [List.getD_eq_getElem?_getD, List.getElem?_eq_none (by omega)]; rfl
      rw [hm, val_in (d := 262144) (by omega) hgn (by decide), val_in (d := 4096) (by omega) hgn (by decide), val_pad (t := 2) (by omega), val_pad (t := 3) (by omega)] at hgrp
      have h4 : num4 (v / 262144 % 64) (v / 4096 % 64) (-1) (-1) = 2 := by
        unfold num4
        rw [lowN_nn (v := v / 4096 % 64) (by omega), lowN_nn (v := v / 262144 % 64) (by omega)]
        rfl
      have hw : word4 (v / 262144 % 64) (v / 4096 % 64) (-1) (-1) = v := by
        unfold word4
        rw [up0_nn (by omega), up0_nn (by omega), show up0 (-1) = 0 from rfl]
        omega
      rw [h4, hw, show decide ((2 : Int) < 2) = false from rfl, cond_false] at hgrp
      refine loop_inr hgrp ?_
      rw [show (three v).take ((2 : Int) - 1).toNat = [l.getD (3 * j) 0] by unfold three; rw [e0]; rfl]
      rw [show l.take (3 * j) ++ [l.getD (3 * j) 0] = l.take (3 * (j + 1)) by
        rw [take_one (by omega), List.take_of_length_le (by omega), List.take_of_length_le (by omega)]]
      exact ih
theorem ref_enc (l : List Int) (hl : ∀ x ∈ l, 0 ≤ x ∧ x < 256) (hn : l.length ≤ 20000) : F_wlvref1_Decode (encI l) = some (l, 0) := by
  have hlen := encI_len l
  unfold F_wlvref1_Decode
  rw [show Int.tmod ((encI l).length : Int) 4 = 0 by rw [Int.tmod_eq_emod_of_nonneg (by omega)]; omega, show ((0 : Int) != 0) = false from rfl, cond_false]
  have := ref_groups l hl hn _ 0 rfl (by omega)
  rw [Nat.mul_zero, List.take_zero] at this
  rw [join_inr (show loopC (F_wlvref1_Decode_L7 (encI l)) ([], 0) = some (.inr l) from this)]
  unfold F_wlvref1_Decode_J5
  dsimp only
  rw [renc_some (by omega), Option.bind_some, show (encI l == encI l) = true from beq_self_eq_true _]
  rfl
/-- The bytes that b64.Decode gives are bytes. -/
theorem dec_loop2 (s2 : List Int) (hs : s2.length ≤ 1000000) : ∃ r, loopC (F_b64_Decode_L6 s2) ([], 0, 0, 0) = some r ∧ (r = .inl ([], 2) ∨ ∃ b : List Int, r = .inr b ∧ b.length ≤ 1000000 ∧ ∀ x ∈ b, 0 ≤ x ∧ x < 256) := by
  refine loop_inv (I := fun s : List Int × Int × Int × Int => 0 ≤ s.2.1 ∧ s.2.1 < 16384 ∧ 0 ≤ s.2.2.1 ∧ s.2.2.1 < 8 ∧ 0 ≤ s.2.2.2 ∧ s.2.2.2 ≤ (s2.length : Int) ∧ (s.1.length : Int) ≤ s.2.2.2 ∧ ∀ x ∈ s.1, 0 ≤ x ∧ x < 256) (m := fun s => ((s2.length : Int) - s.2.2.2).toNat) (fun s ⟨h1, h2, h3, h4, h5, h6, h7, h8⟩ => ?_) _ ⟨by decide, by decide, by decide, by decide, by decide, by show (0 : Int) ≤ _; omega, by show (0 : Int) ≤ 0; decide, fun x hx => by cases hx⟩
  obtain ⟨L, A, B, p⟩ := s
  simp only at h1 h2 h3 h4 h5 h6 h7 h8
  by_cases hp : p < s2.length
  · obtain ⟨c, hc, _⟩ := getI_of h5 hp
    by_cases hk : idxI signs c < 0
    · exact .inl ⟨_, dec_bad hp hc hk, .inl rfl⟩
    · have hin := idxI_in signs c
      have hsl : signs.length = 64 := rfl
      refine .inr ⟨_, dec_step h5 hp hc rfl (by omega) (by omega) h1 h2 h3 h4 (by omega) hs, ?_, ?_⟩
      · cases hb : decide (2 ≤ B)
        · have := of_decide_eq_false hb
          exact ⟨by show 0 ≤ (A * 64 + idxI signs c) % 16384; omega, by show (A * 64 + idxI signs c) % 16384 < 16384; omega, by show 0 ≤ B + 6; omega, by show B + 6 < 8; omega, by show 0 ≤ p + 1; omega, by show p + 1 ≤ _; omega, by show (L.length : Int) ≤ p + 1; omega, h8⟩
        · have := of_decide_eq_true hb
          exact ⟨by show 0 ≤ (A * 64 + idxI signs c) % 16384; omega, by show (A * 64 + idxI signs c) % 16384 < 16384; omega, by show 0 ≤ B - 2; omega, by show B - 2 < 8; omega, by show 0 ≤ p + 1; omega, by show p + 1 ≤ _; omega, by
            show ((L ++ [_]).length : Int) ≤ p + 1
            rw [List.length_append, List.length_singleton]; omega, fun x hx => by
            rcases List.mem_append.1 hx with hx | hx
            · exact h8 x hx
            · obtain rfl := List.mem_singleton.1 hx
              exact ⟨Int.emod_nonneg _ (by decide), Int.emod_lt_of_pos _ (by decide)⟩⟩
      · cases decide (2 ≤ B)
        · show ((s2.length : Int) - (p + 1)).toNat < ((s2.length : Int) - p).toNat; omega
        · show ((s2.length : Int) - (p + 1)).toNat < ((s2.length : Int) - p).toNat; omega
  · exact .inl ⟨_, dec_end hp, .inr ⟨L, rfl, by omega, h8⟩⟩
theorem dec_total2 (s : List Int) (hs : s.length ≤ 1000000) : F_b64_Decode s = some ([], 2) ∨ ∃ b : List Int, F_b64_Decode s = some (b, 0) ∧ encI b = s ∧ ∀ x ∈ b, 0 ≤ x ∧ x < 256 := by
  unfold F_b64_Decode
  rw [trim_some s hs, Option.bind_some]
  have hl := trimR_len s
  obtain ⟨r, h1, h2⟩ := dec_loop2 (trimR s) (by omega)
  rcases h2 with rfl | ⟨b, rfl, hb, hr⟩
  · exact .inl (join_inl h1)
  · rw [join_inr h1]
    unfold F_b64_Decode_J4
    dsimp only
    rw [enc_some hb, Option.bind_some]
    by_cases he : encI b = s
    · right
      refine ⟨b, ?_, he, hr⟩
      rw [show (encI b == s) = true from beq_iff_eq.2 he]; rfl
    · left
      rw [show (encI b == s) = false from beq_eq_false_iff_ne.2 he]; rfl
theorem ref_same (s : List Int) (hs : s.length ≤ 20000) : ∃ x, F_b64_Decode s = some x ∧ F_wlvref1_Decode s = some x := by
  rcases dec_total2 s (by omega) with h | ⟨b, h, he, hr⟩
  · rcases ref_total s (by omega) with h' | ⟨b, h', he, hb, hr⟩
    · exact ⟨_, h, h'⟩
    · have hlen := encI_len b
      rw [he] at hlen
      have := dec_enc b hr (by omega)
      rw [he] at this
      exact ⟨_, this, h'⟩
  · have hlen := encI_len b
    rw [he] at hlen
    have := ref_enc b hr (by omega)
    rw [he] at this
    exact ⟨_, h, this⟩
end Go.Proofs.YtblngdnndkljoaaDoor

/- CredWho: the plain part. -/
namespace Go.Proofs.YtblngdnndkljoaaDoor
open Pv
set_option linter.unusedVariables false
def P6 : List Int := [66, 97, 115, 105, 99, 32]
theorem ble_max {a : Nat} (h : a ≤ 1000000) : Nat.ble a maxLen = true := Nat.ble_eq_true_of_le (by have : maxLen = 9223372036854775807 := rfl; omega)
theorem idx_at : ∀ (u : List Int) (w : List Int), (∀ x ∈ u, x ≠ 58) → idxI (u ++ 58 :: w) 58 = u.length
  | [], w, _ => rfl
  | x :: u, w, h => by
    have ih := idx_at u w fun y hy => h y (by simp [hy])
    have hx : (x == (58 : Int)) = false := beq_eq_false_iff_ne.2 (h x (by simp))
    show cond (x == 58) 0 (cond (idxI (u ++ 58 :: w) 58 == -1) (-1) (idxI (u ++ 58 :: w) 58 + 1)) = _
    rw [hx, ih, cond_false, show ((u.length : Int) == -1) = false from beq_eq_false_iff_ne.2 (by omega), cond_false, List.length_cons]
    omega
theorem idx_none : ∀ (u : List Int), (∀ x ∈ u, x ≠ 58) → idxI u 58 = -1
  | [], _ => rfl
  | x :: u, h => by
    have ih := idx_none u fun y hy => h y (by simp [hy])
    have hx : (x == (58 : Int)) = false := beq_eq_false_iff_ne.2 (h x (by simp))
    show cond (x == 58) 0 (cond (idxI u 58 == -1) (-1) (idxI u 58 + 1)) = _
    rw [hx, ih]; rfl
theorem cutI_of {s : List Int} {a b : Nat} (h1 : a ≤ b) (h2 : b ≤ s.length) : cutI s (a : Int) (b : Int) = some ((s.take b).drop a) := by
  unfold cutI
  rw [decide_eq_true (show (0 : Int) ≤ (a : Int) by omega), decide_eq_true (show (a : Int) ≤ (b : Int) by omega), decide_eq_true (show (b : Int) ≤ (s.length : Int) by omega)]
  rfl
theorem cut_yes (u w : List Int) (hu : ∀ x ∈ u, x ≠ 58) (hl : u.length + w.length ≤ 100000) : F_strings_Cut (u ++ 58 :: w) ([58] : List Int) = some (u, w, true) := by
  have hi : F_internal_stringslite_Index (u ++ 58 :: w) ([58] : List Int) = some ((u.length : Nat) : Int) := by
    show some (idxI (u ++ 58 :: w) 58) = _
    rw [idx_at u w hu]
  have hlen : (u ++ 58 :: w).length = u.length + (w.length + 1) := by rw [List.length_append, List.length_cons]
  have c1 : cutI (u ++ 58 :: w) 0 ((u.length : Nat) : Int) = some u := by
    have := cutI_of (s := u ++ 58 :: w) (a := 0) (b := u.length) (by omega) (by omega)
    rw [List.drop_zero, List.take_left] at this
    exact this
  have hw : IntKind.i64.wrap (((u.length : Nat) : Int) + (([58] : List Int).length : Int)) = ((u.length + 1 : Nat) : Int) := by
    rw [show (([58] : List Int).length : Int) = 1 from rfl, wrap_in (by omega) (by omega)]
    omega
  have c2 : cutI (u ++ 58 :: w) ((u.length + 1 : Nat) : Int) ((u ++ 58 :: w).length : Int) = some w := by
    rw [cutI_of (by omega) (Nat.le_refl _), List.take_length]
    rw [show u ++ 58 :: w = (u ++ [58]) ++ w by simp, show u.length + 1 = (u ++ [(58 : Int)]).length by simp, List.drop_left]
  unfold F_strings_Cut F_internal_stringslite_Cut
  rw [hi, Option.bind_some, decide_eq_true (show ((u.length : Nat) : Int) ≥ 0 by omega), cond_true, c1, Option.bind_some, hw, c2]
  rfl
theorem cut_no (u : List Int) (hu : ∀ x ∈ u, x ≠ 58) : F_strings_Cut u ([58] : List Int) = some (u, [], false) := by
  have hi : F_internal_stringslite_Index u ([58] : List Int) = some (-1) := by
    show some (idxI u 58) = _
    rw [idx_none u hu]
  unfold F_strings_Cut F_internal_stringslite_Cut
  rw [hi]
  rfl
theorem plain_yes (s : List Int) (hs : ∀ x ∈ s, 32 ≤ x ∧ x ≠ 127) (hl : s.length ≤ 100000) : F_cred_plain s = some true := by
  obtain ⟨r, h1, h2⟩ := loop_inv (body := F_cred_plain_L3 s) (I := fun i : Int => 0 ≤ i ∧ i ≤ (s.length : Int)) (m := fun i => ((s.length : Int) - i).toNat) (Q := fun r => r = .inr ()) (fun i ⟨h0, h3⟩ => by
    unfold F_cred_plain_L3
    dsimp only
    by_cases hi : i < (s.length : Int)
    · obtain ⟨x, hx, hx2⟩ := getI_of h0 hi
      obtain ⟨p1, p2⟩ := hs x (List.mem_of_getElem? hx2)
      rw [decide_eq_true hi, cond_true, hx, Option.bind_some, decide_eq_false (show ¬ x < 32 by omega), cond_false, Option.bind_some, show (x == (127 : Int)) = false from beq_eq_false_iff_ne.2 p2, cond_false, wrap_in (by omega) (by omega)]
      exact .inr ⟨i + 1, rfl, ⟨by omega, by omega⟩, by omega⟩
    · rw [decide_eq_false hi, cond_false]
      exact .inl ⟨_, rfl, rfl⟩) 0 ⟨by decide, by omega⟩
  subst h2
  unfold F_cred_plain
  rw [join_inr h1]; rfl
theorem fold6 : F_strings_EqualFold P6 ([98, 97, 115, 105, 99, 32] : List Int) = some true := by decide +kernel
/-- What is read of an encoded text. -/
theorem parse_enc (t : List Int) (ht : ∀ x ∈ t, 0 ≤ x ∧ x < 256) (hl : t.length ≤ 10000) {u w : List Int} {ok : Bool} (hc : F_strings_Cut t ([58] : List Int) = some (u, w, ok)) (hul : u.length + w.length ≤ 100000) (hp : ∀ x ∈ u ++ w, 32 ≤ x ∧ x ≠ 127) :
    F_cred_Parse (P6 ++ encI t) = some (cond ((!ok || (u == ([] : List Int))) || decide ((u.length : Int) > 64) || decide ((w.length : Int) > 256)) ([], [], 2) (u, w, 0)) := by
  have h6 : P6.length = 6 := rfl
  have hlen : (P6 ++ encI t).length = 6 + (encI t).length := by rw [List.length_append, h6]
  have c1 : cutI (P6 ++ encI t) 0 6 = some P6 := by
    have := cutI_of (s := P6 ++ encI t) (a := 0) (b := 6) (by omega) (by omega)
    rw [List.drop_zero, show (6 : Nat) = P6.length from rfl, List.take_left] at this
    exact this
  have c2 : cutI (P6 ++ encI t) 6 ((P6 ++ encI t).length : Int) = some (encI t) := by
    have := cutI_of (s := P6 ++ encI t) (a := 6) (b := (P6 ++ encI t).length) (by omega) (Nat.le_refl _)
    rw [List.take_length, show (6 : Nat) = P6.length from rfl, List.drop_left] at this
    exact this
  unfold F_cred_Parse
  rw [decide_eq_false (show ¬ ((P6 ++ encI t).length : Int) < 6 by omega), cond_false, c1, Option.bind_some, fold6, Option.bind_some, Bool.not_true, cond_false, c2, Option.bind_some, dec_enc t ht (by omega), Option.bind_some]
  dsimp only
  rw [hc, Option.bind_some]
  dsimp only
  rw [show ((0 : Int) != 0) = false from rfl, Bool.false_or, plain_yes (u ++ w) hp (by rw [List.length_append]; omega)]
  cases (!ok || (u == ([] : List Int))) || decide ((u.length : Int) > 64) || decide ((w.length : Int) > 256) with
  | true => rfl
  | false =>
    rw [cond_false, cond_false]
    unfold chk
    rw [ble_max (by omega)]
    rfl
theorem enc_abc : encI [97, 58, 98] = [89, 84, 112, 105] := by decide +kernel
theorem first17 : F_wlvlaw17_first = some true := by
  have hc : F_strings_Cut ([97] ++ 58 :: [98]) ([58] : List Int) = some ([97], [98], true) := cut_yes [97] [98] (by decide) (by decide)
  have h := parse_enc [97, 58, 98] (by decide) (by decide) hc (by decide) (by decide)
  rw [enc_abc] at h
  have h : F_cred_Parse ([66, 97, 115, 105, 99, 32, 89, 84, 112, 105] : List Int) = some ([97], [98], 0) := h
  unfold F_wlvlaw17_first
  rw [h]; rfl
theorem mem_rep {n : Nat} {c x : Int} (h : x ∈ List.replicate n c) : x = c := (List.mem_replicate.1 h).2
end Go.Proofs.YtblngdnndkljoaaDoor
