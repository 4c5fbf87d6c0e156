/- The functions of the program as Lean functions, written by a program of ours and held by the kernel. -/
import Derived.Test.YtngjmippejkleaaGreatDoorProg
import Derived.Test.YtngjmippejkleaaGreatDoorQAclF
import Derived.Test.YtngjmippejkleaaGreatDoorPw
import Derived.KernelRfl
import Derived.Laws.Bits
namespace Go.Proofs.YtngjmippejkleaaGreatDoor
open Pv
set_option linter.unusedVariables false
noncomputable def F_internal_stringslite_HasSuffix (s1 : List Int) (s2 : List Int) : Option (Bool) :=
  cond (decide ((s1.length : Int) ≥ (s2.length : Int)))
  ((cutI s1 (IntKind.i64.wrap ((s1.length : Int) - (s2.length : Int))) (s1.length : Int)).bind fun s3 =>
    some (s3 == s2))
  (some false)
def F_internal_stringslite_HasSuffix_sig : Sig := ⟨[.v false [.d .str], .v false [.d .str]], [(false, [.d .bool])]⟩
def F_internal_stringslite_HasSuffix_ann : List (Nat × Ann) := []
noncomputable def F_internal_stringslite_HasSuffix_env : Env := ⟨Tryz.prog, [], []⟩
set_option maxRecDepth 100000 in
theorem F_internal_stringslite_HasSuffix_text : pvFn F_internal_stringslite_HasSuffix_env F_internal_stringslite_HasSuffix_ann Tryz.f14 F_internal_stringslite_HasSuffix_sig = F_internal_stringslite_HasSuffix := by kernel_rfl
noncomputable def F_strings_HasSuffix (s1 : List Int) (s2 : List Int) : Option (Bool) :=
  (F_internal_stringslite_HasSuffix s1 s2).bind fun b3 =>
  some b3
def F_strings_HasSuffix_sig : Sig := ⟨[.v false [.d .str], .v false [.d .str]], [(false, [.d .bool])]⟩
def F_strings_HasSuffix_ann : List (Nat × Ann) := []
noncomputable def F_strings_HasSuffix_env : Env := ⟨Tryz.prog, [(14, ⟨F_internal_stringslite_HasSuffix_sig, ⟨F_internal_stringslite_HasSuffix⟩⟩)], []⟩
set_option maxRecDepth 100000 in
theorem F_strings_HasSuffix_text : pvFn F_strings_HasSuffix_env F_strings_HasSuffix_ann Tryz.f9 F_strings_HasSuffix_sig = F_strings_HasSuffix := by kernel_rfl
noncomputable def F_addr_kept_L4 (s1 : List Int) (i2 : Int) (s : Int × List Int) : Option (((List Int) ⊕ (List Int)) ⊕ (Int × List Int)) :=
  let i3 := s.1; let l4 := s.2
  cond (decide (i3 < (s1.length : Int)))
  (chk (decide (0 ≤ i3) && decide (i3 < (s1.length : Int)))
    ((getI l4 i3).bind fun i5 =>
      chk (decide (0 ≤ (minI (maxI (IntKind.i64.wrap (i2 - (IntKind.i64.wrap (8 * i3)))) 0) 8)))
      (chk (decide (0 ≤ i3) && decide (i3 < (s1.length : Int)))
        (chk (decide (i3 < (l4.length : Int)))
          (some (.inr ((IntKind.i64.wrap (i3 + 1)), (l4.set (i3).toNat (bits .and .u8 i5 (IntKind.u8.wrap (Int.fdiv 65280 (2 ^ (min ((minI (maxI (IntKind.i64.wrap (i2 - (IntKind.i64.wrap (8 * i3)))) 0) 8)).toNat 64)))))))))))))
  (some (.inl (.inr l4)))
noncomputable def F_addr_kept_J2 (s1 : List Int) (s : List Int) : Option (List Int) :=
  let l6 := s
  chk (Nat.ble s1.length (List.length l6))
  (some (List.take s1.length l6))
noncomputable def F_addr_kept (s1 : List Int) (i2 : Int) : Option (List Int) :=
  joinC (S := List Int) (R := List Int)
  (loopC (S := Int × List Int) (R := (List Int) ⊕ (List Int)) (F_addr_kept_L4 s1 i2) (0, s1))
  (F_addr_kept_J2 s1)
def F_addr_kept_sig : Sig := ⟨[.v false [.d .str], .v false [.d (.int .i64)]], [(false, [.d .str])]⟩
def F_addr_kept_ann : List (Nat × Ann) := [(2, ⟨3, [], [(9, [.row (.int .u8)])], [6, 7, 10, 11, 12, 13, 14, 15, 16, 17, 18, 19, 20, 21, 22, 23, 24, 25, 26, 27, 28, 29, 30], []⟩), (4, ⟨5, [(12, false, [.d (.int .i64)])], [(9, [.row (.int .u8)])], [6, 7, 13, 14, 15, 16, 17, 18, 19, 20, 21, 22, 23, 24, 25, 26, 27, 28, 29, 30], []⟩)]
noncomputable def F_addr_kept_env : Env := ⟨Tryz.prog, [], [9]⟩
set_option maxRecDepth 100000 in
theorem F_addr_kept_text : pvFn F_addr_kept_env F_addr_kept_ann Tryz.f15 F_addr_kept_sig = F_addr_kept := by kernel_rfl
noncomputable def F_addr_In (s1 : List Int) (i2 : Int) (s3 : List Int) : Option (Bool) :=
  cond ((s1.length : Int) == 4)
  (cond ((s3.length : Int) == (s1.length : Int))
    (cond (decide (i2 ≥ 0))
      (cond (decide (i2 ≤ (IntKind.i64.wrap (8 * (s3.length : Int)))))
        ((F_addr_kept s3 i2).bind fun s4 =>
          (F_addr_kept s1 i2).bind fun s5 =>
          some (s4 == s5))
        (some false))
      (some false))
    (some false))
  (cond ((s1.length : Int) == 16)
    (cond ((s3.length : Int) == (s1.length : Int))
      (cond (decide (i2 ≥ 0))
        (cond (decide (i2 ≤ (IntKind.i64.wrap (8 * (s3.length : Int)))))
          ((F_addr_kept s3 i2).bind fun s6 =>
            (F_addr_kept s1 i2).bind fun s7 =>
            some (s6 == s7))
          (some false))
        (some false))
      (some false))
    (some false))
def F_addr_In_sig : Sig := ⟨[.v true [.d .str, .d (.int .i64)], .v false [.d .str]], [(false, [.d .bool])]⟩
def F_addr_In_ann : List (Nat × Ann) := []
noncomputable def F_addr_In_env : Env := ⟨Tryz.prog, [(15, ⟨F_addr_kept_sig, ⟨F_addr_kept⟩⟩)], []⟩
set_option maxRecDepth 100000 in
theorem F_addr_In_text : pvFn F_addr_In_env F_addr_In_ann Tryz.f10 F_addr_In_sig = F_addr_In := by kernel_rfl
noncomputable def F_acl_Fits (b1 : Bool) (i2 : Int) (s3 : List Int) (s4 : List Int) (i5 : Int) (i6 : Int) (i7 : Int) (s8 : List Int) (s9 : List Int) (s10 : List Int) (i11 : Int) : Option (Bool) :=
  cond (decide (i11 < i6))
  (some false)
  (cond (decide (i11 > i7))
    (some false)
    (cond (i2 == 0)
      (some true)
      (cond (i2 == 1)
        (some (s8 == s3))
        (cond (i2 == 2)
          (cond (decide ((s8.length : Int) > (s3.length : Int)))
            ((F_strings_HasSuffix s8 s3).bind fun b12 =>
              some b12)
            (some false))
          (cond (i2 == 3)
            ((F_addr_In s4 i5 s10).bind fun b13 =>
              some b13)
            (some false))))))
def F_acl_Fits_sig : Sig := ⟨[.v true [.d .bool, .d (.int .i64), .d .str, .d .str, .d (.int .i64), .d (.int .i64), .d (.int .i64)], .v true [.d .str, .d .str], .v false [.d .str], .v false [.d (.int .i64)]], [(false, [.d .bool])]⟩
def F_acl_Fits_ann : List (Nat × Ann) := []
noncomputable def F_acl_Fits_env : Env := ⟨Tryz.prog, [(9, ⟨F_strings_HasSuffix_sig, ⟨F_strings_HasSuffix⟩⟩), (10, ⟨F_addr_In_sig, ⟨F_addr_In⟩⟩)], []⟩
set_option maxRecDepth 100000 in
theorem F_acl_Fits_text : pvFn F_acl_Fits_env F_acl_Fits_ann Tryz.f6 F_acl_Fits_sig = F_acl_Fits := by kernel_rfl
noncomputable def F_wlvlaw19_AclNames (s1 : List Int) (s2 : List Int) (s3 : List Int) (i4 : Int) (i5 : Int) (i6 : Int) : Option (Bool) :=
  (F_wlvlaw19_first).bind fun b7 =>
  cond (!b7)
  (some false)
  (cond (((((((((decide ((s1.length : Int) < 1)) || (decide ((s1.length : Int) > 100))) || (decide ((s2.length : Int) > 100))) || ((s3.length : Int) != 4)) || (decide (i4 < 1))) || (decide (i4 > 65535))) || (decide (i5 < 1))) || (decide (i6 < i5))) || (decide (i6 > 65535)))
    ((F_wlvlaw19_first).bind fun b8 =>
      some b8)
    (chk (Nat.ble (s2.length + ([46] : List Int).length) maxLen)
      (chk (Nat.ble ((s2 ++ ([46] : List Int)).length + s1.length) maxLen)
        (chk (Nat.ble (([46] : List Int).length + s1.length) maxLen)
          (chk (decide (0 ≤ (3 : Int)) && decide ((3 : Int) < (s3.length : Int)))
            ((getI s3 (3 : Int)).bind fun i9 =>
              chk (decide (0 ≤ (3 : Int)) && decide ((3 : Int) < (s3.length : Int)))
              (chk (decide ((3 : Int) < (s3.length : Int)))
                ((F_wlvlaw19_first).bind fun b10 =>
                  cond b10
                  ((F_acl_Fits false 1 s1 ([] : List Int) 0 i5 i6 s1 ([] : List Int) s3 i4).bind fun b11 =>
                    cond (bEq b11 ((decide (i4 ≥ i5)) && (decide (i4 ≤ i6))))
                    ((F_acl_Fits false 1 s1 ([] : List Int) 0 i5 i6 ((s2 ++ ([46] : List Int)) ++ s1) ([] : List Int) s3 i4).bind fun b12 =>
                      cond (!b12)
                      ((F_acl_Fits false 2 (([46] : List Int) ++ s1) ([] : List Int) 0 i5 i6 s1 ([] : List Int) s3 i4).bind fun b13 =>
                        chk (Nat.ble (([46] : List Int).length + s1.length) maxLen)
                        (cond (bEq (!b13) ((decide ((s1.length : Int) < ((([46] : List Int) ++ s1).length : Int))) || (!((decide (i4 ≥ i5)) && (decide (i4 ≤ i6))))))
                          ((F_acl_Fits false 2 (([46] : List Int) ++ s1) ([] : List Int) 0 i5 i6 ((s2 ++ ([46] : List Int)) ++ s1) ([] : List Int) s3 i4).bind fun b14 =>
                            cond (bEq b14 (((decide (i4 ≥ i5)) && (decide (i4 ≤ i6))) && (decide ((s2.length : Int) > 0))))
                            ((F_acl_Fits false 3 ([] : List Int) s3 32 i5 i6 s1 ([] : List Int) s3 i4).bind fun b15 =>
                              cond (bEq b15 ((decide (i4 ≥ i5)) && (decide (i4 ≤ i6))))
                              (chk (Nat.ble s3.length (List.length (s3.set ((3 : Int)).toNat (bits .xor .u8 i9 1))))
                                ((F_acl_Fits false 3 ([] : List Int) s3 32 i5 i6 s1 ([] : List Int) (List.take s3.length (s3.set ((3 : Int)).toNat (bits .xor .u8 i9 1))) i4).bind fun b16 =>
                                  some (!b16)))
                              (some false))
                            (some false))
                          (some false)))
                      (some false))
                    (some false))
                  (some false)))))))))
def F_wlvlaw19_AclNames_sig : Sig := ⟨[.v false [.d .str], .v false [.d .str], .v false [.d .str], .v false [.d (.int .i64)], .v false [.d (.int .i64)], .v false [.d (.int .i64)]], [(false, [.d .bool])]⟩
def F_wlvlaw19_AclNames_ann : List (Nat × Ann) := []
noncomputable def F_wlvlaw19_AclNames_env : Env := ⟨Tryz.prog, [(5, ⟨F_wlvlaw19_first_sig, ⟨F_wlvlaw19_first⟩⟩), (6, ⟨F_acl_Fits_sig, ⟨F_acl_Fits⟩⟩)], [92]⟩
set_option maxRecDepth 100000 in
theorem F_wlvlaw19_AclNames_text : pvFn F_wlvlaw19_AclNames_env F_wlvlaw19_AclNames_ann Tryz.f3 F_wlvlaw19_AclNames_sig = F_wlvlaw19_AclNames := by kernel_rfl
end Go.Proofs.YtngjmippejkleaaGreatDoor
