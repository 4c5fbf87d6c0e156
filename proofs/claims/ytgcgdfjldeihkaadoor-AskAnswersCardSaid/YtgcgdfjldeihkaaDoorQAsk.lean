/- The functions of the program as Lean functions, written by a program of ours and held by the kernel. -/
import Derived.Test.YtgcgdfjldeihkaaDoorProg
import Derived.Test.YtgcgdfjldeihkaaDoorQB64c
import Derived.Test.YtgcgdfjldeihkaaDoorQB64
import Derived.Test.YtgcgdfjldeihkaaDoorPw
import Derived.KernelRfl
import Derived.Laws.Bits
namespace Go.Proofs.YtgcgdfjldeihkaaDoor
open Pv
set_option linter.unusedVariables false
noncomputable def F_internal_stringslite_HasPrefix (s1 : List Int) (s2 : List Int) : Option (Bool) :=
  cond (decide ((s1.length : Int) ≥ (s2.length : Int)))
  ((cutI s1 0 (s2.length : Int)).bind fun s3 =>
    some (s3 == s2))
  (some false)
def F_internal_stringslite_HasPrefix_sig : Sig := ⟨[.v false [.d .str], .v false [.d .str]], [(false, [.d .bool])]⟩
def F_internal_stringslite_HasPrefix_ann : List (Nat × Ann) := []
noncomputable def F_internal_stringslite_HasPrefix_env : Env := ⟨Tryd.prog, [], []⟩
set_option maxRecDepth 100000 in
theorem F_internal_stringslite_HasPrefix_text : pvFn F_internal_stringslite_HasPrefix_env F_internal_stringslite_HasPrefix_ann Tryd.f61 F_internal_stringslite_HasPrefix_sig = F_internal_stringslite_HasPrefix := by kernel_rfl
noncomputable def F_internal_stringslite_TrimPrefix (s1 : List Int) (s2 : List Int) : Option (List Int) :=
  (F_internal_stringslite_HasPrefix s1 s2).bind fun b3 =>
  cond b3
  ((cutI s1 (s2.length : Int) (s1.length : Int)).bind fun s4 =>
    some s4)
  (some s1)
def F_internal_stringslite_TrimPrefix_sig : Sig := ⟨[.v false [.d .str], .v false [.d .str]], [(false, [.d .str])]⟩
def F_internal_stringslite_TrimPrefix_ann : List (Nat × Ann) := []
noncomputable def F_internal_stringslite_TrimPrefix_env : Env := ⟨Tryd.prog, [(61, ⟨F_internal_stringslite_HasPrefix_sig, ⟨F_internal_stringslite_HasPrefix⟩⟩)], []⟩
set_option maxRecDepth 100000 in
theorem F_internal_stringslite_TrimPrefix_text : pvFn F_internal_stringslite_TrimPrefix_env F_internal_stringslite_TrimPrefix_ann Tryd.f51 F_internal_stringslite_TrimPrefix_sig = F_internal_stringslite_TrimPrefix := by kernel_rfl
noncomputable def F_strings_TrimPrefix (s1 : List Int) (s2 : List Int) : Option (List Int) :=
  (F_internal_stringslite_TrimPrefix s1 s2).bind fun s3 =>
  some s3
def F_strings_TrimPrefix_sig : Sig := ⟨[.v false [.d .str], .v false [.d .str]], [(false, [.d .str])]⟩
def F_strings_TrimPrefix_ann : List (Nat × Ann) := []
noncomputable def F_strings_TrimPrefix_env : Env := ⟨Tryd.prog, [(51, ⟨F_internal_stringslite_TrimPrefix_sig, ⟨F_internal_stringslite_TrimPrefix⟩⟩)], []⟩
set_option maxRecDepth 100000 in
theorem F_strings_TrimPrefix_text : pvFn F_strings_TrimPrefix_env F_strings_TrimPrefix_ann Tryd.f42 F_strings_TrimPrefix_sig = F_strings_TrimPrefix := by kernel_rfl
noncomputable def F_ask_named_L4 (s2 : List Int) (s : Int) : Option (((Bool) ⊕ (Unit)) ⊕ (Int)) :=
  let i3 := s
  cond (decide (i3 < (s2.length : Int)))
  ((getI s2 i3).bind fun i4 =>
    cond ((decide (i4 ≥ 97)) && (decide (i4 ≤ 122)))
    (some (.inr (IntKind.i64.wrap (i3 + 1))))
    (cond ((decide (i4 ≥ 48)) && (decide (i4 ≤ 57)))
      (some (.inr (IntKind.i64.wrap (i3 + 1))))
      ((F_strings_IndexByte ([33, 35, 36, 37, 38, 39, 42, 43, 45, 46, 94, 95, 96, 124, 126] : List Int) i4).bind fun i5 =>
        cond (!(decide (i5 ≥ 0)))
        (some (.inl (.inl false)))
        (some (.inr (IntKind.i64.wrap (i3 + 1)))))))
  (some (.inl (.inr ())))
noncomputable def F_ask_named_J2 (s2 : List Int) (s : Unit) : Option (Bool) :=
  some (!(s2 == ([] : List Int)))
noncomputable def F_ask_named (s1 : List Int) : Option (Bool) :=
  (F_strings_TrimPrefix s1 ([58] : List Int)).bind fun s2 =>
  joinC (S := Unit) (R := Bool)
  (loopC (S := Int) (R := (Bool) ⊕ (Unit)) (F_ask_named_L4 s2) 0)
  (F_ask_named_J2 s2)
def F_ask_named_sig : Sig := ⟨[.v false [.d .str]], [(false, [.d .bool])]⟩
def F_ask_named_ann : List (Nat × Ann) := [(2, ⟨3, [], [], [2, 3, 4, 7, 8, 9, 10, 11, 12, 13, 14, 15, 16, 17, 18, 19, 20, 21, 22, 23, 24, 25, 26, 27, 28, 29, 30, 31, 32, 33, 34, 35], []⟩), (4, ⟨5, [(9, false, [.d (.int .i64)])], [], [2, 3, 4, 10, 11, 12, 13, 14, 15, 16, 17, 18, 19, 20, 21, 22, 23, 24, 25, 26, 27, 28, 29, 30, 31, 32, 33, 34, 35], []⟩)]
noncomputable def F_ask_named_env : Env := ⟨Tryd.prog, [(25, ⟨F_strings_IndexByte_sig, ⟨F_strings_IndexByte⟩⟩), (42, ⟨F_strings_TrimPrefix_sig, ⟨F_strings_TrimPrefix⟩⟩)], []⟩
set_option maxRecDepth 100000 in
theorem F_ask_named_text : pvFn F_ask_named_env F_ask_named_ann Tryd.f30 F_ask_named_sig = F_ask_named := by kernel_rfl
noncomputable def F_strings_trimLeftByte_L2 (i2 : Int) (s : List Int) : Option (((List Int) ⊕ (List Int)) ⊕ (List Int)) :=
  let s3 := s
  cond (decide ((s3.length : Int) > 0))
  ((getI s3 0).bind fun i4 =>
    cond (i4 == i2)
    ((cutI s3 1 (s3.length : Int)).bind fun s5 =>
      some (.inr s5))
    (some (.inl (.inr s3))))
  (some (.inl (.inr s3)))
noncomputable def F_strings_trimLeftByte_J1 (s : List Int) : Option (List Int) :=
  let s6 := s
  some s6
noncomputable def F_strings_trimLeftByte (s1 : List Int) (i2 : Int) : Option (List Int) :=
  joinC (S := List Int) (R := List Int)
  (loopC (S := List Int) (R := (List Int) ⊕ (List Int)) (F_strings_trimLeftByte_L2 i2) s1)
  (F_strings_trimLeftByte_J1)
def F_strings_trimLeftByte_sig : Sig := ⟨[.v false [.d .str], .v false [.d (.int .u8)]], [(false, [.d .str])]⟩
def F_strings_trimLeftByte_ann : List (Nat × Ann) := [(1, ⟨2, [(0, false, [.d .str])], [], [5, 6, 7, 8, 9, 10, 11, 12, 13, 14, 15], []⟩), (2, ⟨3, [(0, false, [.d .str])], [], [5, 6, 7, 8, 9, 10, 11, 12, 13, 14, 15], []⟩)]
noncomputable def F_strings_trimLeftByte_env : Env := ⟨Tryd.prog, [], []⟩
set_option maxRecDepth 100000 in
theorem F_strings_trimLeftByte_text : pvFn F_strings_trimLeftByte_env F_strings_trimLeftByte_ann Tryd.f52 F_strings_trimLeftByte_sig = F_strings_trimLeftByte := by kernel_rfl
noncomputable def F_strings_trimLeftASCII_L2 (s : List Int × List Bool) : Option (((List Int × List Bool) ⊕ (List Int × List Bool)) ⊕ (List Int × List Bool)) :=
  let s3 := s.1; let a4 := s.2
  cond (decide ((s3.length : Int) > 0))
  ((getI s3 0).bind fun i5 =>
    (F_strings_asciiSet_contains a4 i5).bind fun x6 =>
    cond (!x6.1)
    (some (.inl (.inr (s3, x6.2))))
    ((cutI s3 1 (s3.length : Int)).bind fun s7 =>
      some (.inr (s7, x6.2))))
  (some (.inl (.inr (s3, a4))))
noncomputable def F_strings_trimLeftASCII_J1 (s : List Int × List Bool) : Option (List Int × List Bool) :=
  let s8 := s.1; let a9 := s.2
  some (s8, a9)
noncomputable def F_strings_trimLeftASCII (s1 : List Int) (a2 : List Bool) : Option (List Int × List Bool) :=
  joinC (S := List Int × List Bool) (R := List Int × List Bool)
  (loopC (S := List Int × List Bool) (R := (List Int × List Bool) ⊕ (List Int × List Bool)) (F_strings_trimLeftASCII_L2) (s1, a2))
  (F_strings_trimLeftASCII_J1)
def F_strings_trimLeftASCII_sig : Sig := ⟨[.v false [.d .str], .m [.d (.arr 256 .bool)]], [(false, [.d .str])]⟩
def F_strings_trimLeftASCII_ann : List (Nat × Ann) := [(1, ⟨2, [(0, false, [.d .str])], [(1, [.d (.arr 256 .bool)])], [5, 6, 7, 8, 9, 10, 11, 12, 13, 14], []⟩), (2, ⟨3, [(0, false, [.d .str])], [(1, [.d (.arr 256 .bool)])], [5, 6, 7, 8, 9, 10, 11, 12, 13, 14], []⟩)]
noncomputable def F_strings_trimLeftASCII_env : Env := ⟨Tryd.prog, [(46, ⟨F_strings_asciiSet_contains_sig, ⟨F_strings_asciiSet_contains⟩⟩)], []⟩
set_option maxRecDepth 100000 in
theorem F_strings_trimLeftASCII_text : pvFn F_strings_trimLeftASCII_env F_strings_trimLeftASCII_ann Tryd.f53 F_strings_trimLeftASCII_sig = F_strings_trimLeftASCII := by kernel_rfl
noncomputable def F_strings_trimLeftUnicode_L2 (s2 : List Int) (s : List Int) : Option (((List Int) ⊕ (List Int)) ⊕ (List Int)) :=
  let s3 := s
  cond (decide ((s3.length : Int) > 0))
  ((F_unicode_utf8_DecodeRuneInString s3).bind fun x4 =>
    (F_strings_ContainsRune s2 x4.1).bind fun b5 =>
    cond (!b5)
    (some (.inl (.inr s3)))
    ((cutI s3 x4.2 (s3.length : Int)).bind fun s6 =>
      some (.inr s6)))
  (some (.inl (.inr s3)))
noncomputable def F_strings_trimLeftUnicode_J1 (s : List Int) : Option (List Int) :=
  let s7 := s
  some s7
noncomputable def F_strings_trimLeftUnicode (s1 : List Int) (s2 : List Int) : Option (List Int) :=
  joinC (S := List Int) (R := List Int)
  (loopC (S := List Int) (R := (List Int) ⊕ (List Int)) (F_strings_trimLeftUnicode_L2 s2) s1)
  (F_strings_trimLeftUnicode_J1)
def F_strings_trimLeftUnicode_sig : Sig := ⟨[.v false [.d .str], .v false [.d .str]], [(false, [.d .str])]⟩
def F_strings_trimLeftUnicode_ann : List (Nat × Ann) := [(1, ⟨2, [(0, false, [.d .str])], [], [5, 6, 7, 8, 9, 10, 11, 12, 13, 14, 15, 16, 17, 18, 19, 20, 21], []⟩), (2, ⟨3, [(0, false, [.d .str])], [], [5, 6, 7, 8, 9, 10, 11, 12, 13, 14, 15, 16, 17, 18, 19, 20, 21], []⟩)]
noncomputable def F_strings_trimLeftUnicode_env : Env := ⟨Tryd.prog, [(48, ⟨F_strings_ContainsRune_sig, ⟨F_strings_ContainsRune⟩⟩), (59, ⟨F_unicode_utf8_DecodeRuneInString_sig, ⟨F_unicode_utf8_DecodeRuneInString⟩⟩)], []⟩
set_option maxRecDepth 100000 in
theorem F_strings_trimLeftUnicode_text : pvFn F_strings_trimLeftUnicode_env F_strings_trimLeftUnicode_ann Tryd.f54 F_strings_trimLeftUnicode_sig = F_strings_trimLeftUnicode := by kernel_rfl
noncomputable def F_strings_Trim (s1 : List Int) (s2 : List Int) : Option (List Int) :=
  cond ((s1 == ([] : List Int)) || (s2 == ([] : List Int)))
  (some s1)
  (cond ((s2.length : Int) == 1)
    ((getI s2 0).bind fun i3 =>
      cond (decide (i3 < 128))
      ((getI s2 0).bind fun i4 =>
        (F_strings_trimRightByte s1 i4).bind fun s5 =>
        (getI s2 0).bind fun i6 =>
        (F_strings_trimLeftByte s5 i6).bind fun s7 =>
        some s7)
      ((F_strings_makeASCIISet s2).bind fun x8 =>
        cond x8.2
        ((F_strings_trimRightASCII s1 x8.1).bind fun x9 =>
          (F_strings_trimLeftASCII x9.1 x9.2).bind fun x10 =>
          some x10.1)
        ((F_strings_trimRightUnicode s1 s2).bind fun s11 =>
          (F_strings_trimLeftUnicode s11 s2).bind fun s12 =>
          some s12)))
    ((F_strings_makeASCIISet s2).bind fun x13 =>
      cond x13.2
      ((F_strings_trimRightASCII s1 x13.1).bind fun x14 =>
        (F_strings_trimLeftASCII x14.1 x14.2).bind fun x15 =>
        some x15.1)
      ((F_strings_trimRightUnicode s1 s2).bind fun s16 =>
        (F_strings_trimLeftUnicode s16 s2).bind fun s17 =>
        some s17)))
def F_strings_Trim_sig : Sig := ⟨[.v false [.d .str], .v false [.d .str]], [(false, [.d .str])]⟩
def F_strings_Trim_ann : List (Nat × Ann) := []
noncomputable def F_strings_Trim_env : Env := ⟨Tryd.prog, [(36, ⟨F_strings_trimRightByte_sig, ⟨F_strings_trimRightByte⟩⟩), (37, ⟨F_strings_makeASCIISet_sig, ⟨F_strings_makeASCIISet⟩⟩), (38, ⟨F_strings_trimRightASCII_sig, ⟨F_strings_trimRightASCII⟩⟩), (39, ⟨F_strings_trimRightUnicode_sig, ⟨F_strings_trimRightUnicode⟩⟩), (52, ⟨F_strings_trimLeftByte_sig, ⟨F_strings_trimLeftByte⟩⟩), (53, ⟨F_strings_trimLeftASCII_sig, ⟨F_strings_trimLeftASCII⟩⟩), (54, ⟨F_strings_trimLeftUnicode_sig, ⟨F_strings_trimLeftUnicode⟩⟩)], []⟩
set_option maxRecDepth 100000 in
theorem F_strings_Trim_text : pvFn F_strings_Trim_env F_strings_Trim_ann Tryd.f43 F_strings_Trim_sig = F_strings_Trim := by kernel_rfl
noncomputable def F_ask_valued_L3 (s1 : List Int) (s : List Int × Int) : Option (((Bool) ⊕ (Unit)) ⊕ (List Int × Int)) :=
  let l2 := s.1; let i3 := s.2
  cond (decide (i3 < (([0, 10, 13] : List Int).length : Int)))
  ((getI l2 i3).bind fun i4 =>
    (F_strings_IndexByte s1 i4).bind fun i5 =>
    cond (decide (i5 ≥ 0))
    (some (.inl (.inl false)))
    (some (.inr (l2, (IntKind.i64.wrap (i3 + 1))))))
  (some (.inl (.inr ())))
noncomputable def F_ask_valued_J1 (s1 : List Int) (s : Unit) : Option (Bool) :=
  (F_strings_Trim s1 ([32, 9] : List Int)).bind fun s6 =>
  some (s6 == s1)
noncomputable def F_ask_valued (s1 : List Int) : Option (Bool) :=
  joinC (S := Unit) (R := Bool)
  (loopC (S := List Int × Int) (R := (Bool) ⊕ (Unit)) (F_ask_valued_L3 s1) (([0, 10, 13] : List Int), 0))
  (F_ask_valued_J1 s1)
def F_ask_valued_sig : Sig := ⟨[.v false [.d .str]], [(false, [.d .bool])]⟩
def F_ask_valued_ann : List (Nat × Ann) := [(1, ⟨2, [], [], [2, 4, 5, 6, 7, 8, 9, 10, 11, 12, 13, 14, 15], []⟩), (3, ⟨4, [(5, false, [.own 5 (.int .u8)]), (7, false, [.d (.int .i64)])], [], [2, 4, 8, 9, 10, 11, 12, 13, 14, 15], []⟩)]
noncomputable def F_ask_valued_env : Env := ⟨Tryd.prog, [(25, ⟨F_strings_IndexByte_sig, ⟨F_strings_IndexByte⟩⟩), (43, ⟨F_strings_Trim_sig, ⟨F_strings_Trim⟩⟩)], []⟩
set_option maxRecDepth 100000 in
theorem F_ask_valued_text : pvFn F_ask_valued_env F_ask_valued_ann Tryd.f31 F_ask_valued_sig = F_ask_valued := by kernel_rfl
noncomputable def F_ask_barred (s1 : List Int) (s2 : List Int) (b3 : Bool) : Option (Bool) :=
  cond (s1 == ([99, 111, 110, 110, 101, 99, 116, 105, 111, 110] : List Int))
  (cond (s1 == ([99, 111, 110, 110, 101, 99, 116, 105, 111, 110] : List Int))
    (some true)
    (cond (s1 == ([116, 101] : List Int))
      (some (!(s2 == ([116, 114, 97, 105, 108, 101, 114, 115] : List Int))))
      (some false)))
  (cond (s1 == ([112, 114, 111, 120, 121, 45, 99, 111, 110, 110, 101, 99, 116, 105, 111, 110] : List Int))
    (cond (s1 == ([112, 114, 111, 120, 121, 45, 99, 111, 110, 110, 101, 99, 116, 105, 111, 110] : List Int))
      (some true)
      (cond (s1 == ([116, 101] : List Int))
        (some (!(s2 == ([116, 114, 97, 105, 108, 101, 114, 115] : List Int))))
        (some false)))
    (cond (s1 == ([107, 101, 101, 112, 45, 97, 108, 105, 118, 101] : List Int))
      (cond (s1 == ([107, 101, 101, 112, 45, 97, 108, 105, 118, 101] : List Int))
        (some true)
        (cond (s1 == ([116, 101] : List Int))
          (some (!(s2 == ([116, 114, 97, 105, 108, 101, 114, 115] : List Int))))
          (some false)))
      (cond (s1 == ([116, 114, 97, 110, 115, 102, 101, 114, 45, 101, 110, 99, 111, 100, 105, 110, 103] : List Int))
        (cond (s1 == ([116, 114, 97, 110, 115, 102, 101, 114, 45, 101, 110, 99, 111, 100, 105, 110, 103] : List Int))
          (some true)
          (cond (s1 == ([116, 101] : List Int))
            (some (!(s2 == ([116, 114, 97, 105, 108, 101, 114, 115] : List Int))))
            (some false)))
        (cond (s1 == ([117, 112, 103, 114, 97, 100, 101] : List Int))
          (some true)
          (cond (s1 == ([116, 101] : List Int))
            (some (!(s2 == ([116, 114, 97, 105, 108, 101, 114, 115] : List Int))))
            (some false))))))
def F_ask_barred_sig : Sig := ⟨[.v true [.d .str, .d .str, .d .bool]], [(false, [.d .bool])]⟩
def F_ask_barred_ann : List (Nat × Ann) := []
noncomputable def F_ask_barred_env : Env := ⟨Tryd.prog, [], []⟩
set_option maxRecDepth 100000 in
theorem F_ask_barred_text : pvFn F_ask_barred_env F_ask_barred_ann Tryd.f32 F_ask_barred_sig = F_ask_barred := by kernel_rfl
end Go.Proofs.YtgcgdfjldeihkaaDoor
