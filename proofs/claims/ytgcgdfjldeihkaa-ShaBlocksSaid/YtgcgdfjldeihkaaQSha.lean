/- The functions of the program as Lean functions, written by a program of ours and held by the kernel. -/
import Derived.Test.YtgcgdfjldeihkaaProg
import Derived.Test.YtgcgdfjldeihkaaQShaD
import Derived.Test.YtgcgdfjldeihkaaPw
import Derived.KernelRfl
import Derived.Laws.Bits
namespace Go.Proofs.Ytgcgdfjldeihkaa
open Pv
set_option linter.unusedVariables false
noncomputable def F_math_bits_Mul64 (i1 : Int) (i2 : Int) : Option (Int × Int) :=
  some ((IntKind.u64.wrap ((IntKind.u64.wrap ((IntKind.u64.wrap ((Int.fdiv i1 (2 ^ 32)) * (Int.fdiv i2 (2 ^ 32)))) + (Int.fdiv (IntKind.u64.wrap ((IntKind.u64.wrap ((Int.fdiv i1 (2 ^ 32)) * (bits .and .u64 i2 4294967295))) + (Int.fdiv (IntKind.u64.wrap ((bits .and .u64 i1 4294967295) * (bits .and .u64 i2 4294967295))) (2 ^ 32)))) (2 ^ 32)))) + (Int.fdiv (IntKind.u64.wrap ((bits .and .u64 (IntKind.u64.wrap ((IntKind.u64.wrap ((Int.fdiv i1 (2 ^ 32)) * (bits .and .u64 i2 4294967295))) + (Int.fdiv (IntKind.u64.wrap ((bits .and .u64 i1 4294967295) * (bits .and .u64 i2 4294967295))) (2 ^ 32)))) 4294967295) + (IntKind.u64.wrap ((bits .and .u64 i1 4294967295) * (Int.fdiv i2 (2 ^ 32)))))) (2 ^ 32)))), (IntKind.u64.wrap (i1 * i2)))
def F_math_bits_Mul64_sig : Sig := ⟨[.v false [.d (.int .u64)], .v false [.d (.int .u64)]], [(false, [.d (.int .u64)]), (false, [.d (.int .u64)])]⟩
def F_math_bits_Mul64_ann : List (Nat × Ann) := []
noncomputable def F_math_bits_Mul64_env : Env := ⟨Try.prog, [], []⟩
set_option maxRecDepth 100000 in
theorem F_math_bits_Mul64_text : pvFn F_math_bits_Mul64_env F_math_bits_Mul64_ann Try.f33 F_math_bits_Mul64_sig = F_math_bits_Mul64 := by kernel_rfl
noncomputable def F_sha_most (i1 : Int) (i2 : Int) (b3 : Bool) : Option (Bool) :=
  (F_math_bits_Mul64 i1 i1).bind fun x4 =>
  cond (!b3)
  (some (decide (x4.1 < i2)))
  ((F_math_bits_Mul64 x4.2 i1).bind fun x5 =>
    (F_math_bits_Mul64 x4.1 i1).bind fun x6 =>
    chk (0 == 0)
    (cond ((IntKind.u64.wrap (x6.1 + ((x5.1 + x6.2) / 18446744073709551616))) == 0)
      (cond (decide ((Int.fdiv ((x5.1 + x6.2) % 18446744073709551616) (2 ^ 32)) < i2))
        (some true)
        (some ((((Int.fdiv ((x5.1 + x6.2) % 18446744073709551616) (2 ^ 32)) == i2) && ((IntKind.u64.wrap (((x5.1 + x6.2) % 18446744073709551616) * 2 ^ 32)) == 0)) && (x5.2 == 0))))
      (some false)))
def F_sha_most_sig : Sig := ⟨[.v false [.d (.int .u64)], .v false [.d (.int .u64)], .v false [.d .bool]], [(false, [.d .bool])]⟩
def F_sha_most_ann : List (Nat × Ann) := []
noncomputable def F_sha_most_env : Env := ⟨Try.prog, [(33, ⟨F_math_bits_Mul64_sig, ⟨F_math_bits_Mul64⟩⟩)], []⟩
set_option maxRecDepth 100000 in
theorem F_sha_most_text : pvFn F_sha_most_env F_sha_most_ann Try.f25 F_sha_most_sig = F_sha_most := by kernel_rfl
noncomputable def F_sha_fraction_L4 (i1 : Int) (b2 : Bool) (s : Int × Int) : Option (((Int) ⊕ (Int)) ⊕ (Int × Int)) :=
  let i3 := s.1; let i4 := s.2
  cond (decide (i4 > 0))
  ((F_sha_most (bits .or .u64 i3 i4) i1 b2).bind fun b5 =>
    cond b5
    (some (.inr ((bits .or .u64 i3 i4), (Int.fdiv i4 (2 ^ 1)))))
    (some (.inr (i3, (Int.fdiv i4 (2 ^ 1))))))
  (some (.inl (.inr i3)))
noncomputable def F_sha_fraction_J2 (s : Int) : Option (Int) :=
  let i6 := s
  some (IntKind.u32.wrap i6)
noncomputable def F_sha_fraction (i1 : Int) (b2 : Bool) : Option (Int) :=
  joinC (S := Int) (R := Int)
  (loopC (S := Int × Int) (R := (Int) ⊕ (Int)) (F_sha_fraction_L4 i1 b2) (0, 68719476736))
  (F_sha_fraction_J2)
def F_sha_fraction_sig : Sig := ⟨[.v false [.d (.int .u64)], .v false [.d .bool]], [(false, [.d (.int .u32)])]⟩
def F_sha_fraction_ann : List (Nat × Ann) := [(2, ⟨3, [(5, false, [.d (.int .u64)])], [], [6, 7, 8, 9, 10, 11, 12, 13, 14, 15, 16, 17, 18, 19], []⟩), (4, ⟨5, [(5, false, [.d (.int .u64)]), (6, false, [.d (.int .u64)])], [], [7, 8, 9, 10, 11, 12, 13, 14, 15, 16, 17, 18, 19], []⟩)]
noncomputable def F_sha_fraction_env : Env := ⟨Try.prog, [(25, ⟨F_sha_most_sig, ⟨F_sha_most⟩⟩)], []⟩
set_option maxRecDepth 100000 in
theorem F_sha_fraction_text : pvFn F_sha_fraction_env F_sha_fraction_ann Try.f16 F_sha_fraction_sig = F_sha_fraction := by kernel_rfl
noncomputable def F_sha_padded_L3 (s : List Int) : Option (((List Int) ⊕ (List Int)) ⊕ (List Int)) :=
  let l3 := s
  cond ((Int.tmod (l3.length : Int) 64) != 56)
  (chk (decide ((l3.length + ([0] : List Int).length) * 1 ≤ 140737488355328) && decide (l3.length + ([0] : List Int).length ≤ maxLen))
    (some (.inr (l3 ++ ([0] : List Int)))))
  (some (.inl (.inr l3)))
noncomputable def F_sha_padded_L8 (l1 : List Int) (s : List Int × Int) : Option (((List Int) ⊕ (List Int)) ⊕ (List Int × Int)) :=
  let l5 := s.1; let i6 := s.2
  cond (decide (i6 ≥ 0))
  (chk (decide (0 ≤ (IntKind.i64.wrap (8 * i6))))
    (chk (decide ((l5.length + ([(IntKind.u8.wrap (Int.fdiv (IntKind.u64.wrap ((IntKind.u64.wrap (l1.length : Int)) * 8)) (2 ^ (min ((IntKind.i64.wrap (8 * i6))).toNat 64))))] : List Int).length) * 1 ≤ 140737488355328) && decide (l5.length + ([(IntKind.u8.wrap (Int.fdiv (IntKind.u64.wrap ((IntKind.u64.wrap (l1.length : Int)) * 8)) (2 ^ (min ((IntKind.i64.wrap (8 * i6))).toNat 64))))] : List Int).length ≤ maxLen))
      (some (.inr ((l5 ++ ([(IntKind.u8.wrap (Int.fdiv (IntKind.u64.wrap ((IntKind.u64.wrap (l1.length : Int)) * 8)) (2 ^ (min ((IntKind.i64.wrap (8 * i6))).toNat 64))))] : List Int)), (IntKind.i64.wrap (i6 - 1)))))))
  (some (.inl (.inr l5)))
noncomputable def F_sha_padded_J6 (s : List Int) : Option (List Int) :=
  let l7 := s
  some l7
noncomputable def F_sha_padded_J2 (l1 : List Int) (s : List Int) : Option (List Int) :=
  let l4 := s
  joinC (S := List Int) (R := List Int)
  (loopC (S := List Int × Int) (R := (List Int) ⊕ (List Int)) (F_sha_padded_L8 l1) (l4, 7))
  (F_sha_padded_J6)
noncomputable def F_sha_padded (l1 : List Int) : Option (List Int) :=
  (F_slices_Clone_byte_byte l1).bind fun l2 =>
  chk (decide ((l2.length + ([128] : List Int).length) * 1 ≤ 140737488355328) && decide (l2.length + ([128] : List Int).length ≤ maxLen))
  (joinC (S := List Int) (R := List Int)
    (loopC (S := List Int) (R := (List Int) ⊕ (List Int)) (F_sha_padded_L3) (l2 ++ ([128] : List Int)))
    (F_sha_padded_J2 l1))
def F_sha_padded_sig : Sig := ⟨[.v false [.d (.sl (.int .u8))]], [(false, [.own 5 (.int .u8)])]⟩
def F_sha_padded_ann : List (Nat × Ann) := [(2, ⟨3, [(3, false, [.own 5 (.int .u8)])], [], [9, 10, 11, 12, 13, 14, 15], []⟩), (3, ⟨4, [(3, false, [.own 5 (.int .u8)])], [], [9, 10, 11, 12, 13, 14, 15], []⟩), (6, ⟨7, [(3, false, [.own 5 (.int .u8)])], [], [4, 16, 17, 18, 19, 20, 21, 22, 23, 24, 25, 26, 27, 28, 29, 30], []⟩), (8, ⟨9, [(3, false, [.own 5 (.int .u8)]), (4, false, [.d (.int .i64)])], [], [16, 17, 18, 19, 20, 21, 22, 23, 24, 25, 26, 27, 28, 29, 30], []⟩)]
noncomputable def F_sha_padded_env : Env := ⟨Try.prog, [(26, ⟨F_slices_Clone_byte_byte_sig, ⟨F_slices_Clone_byte_byte⟩⟩)], []⟩
set_option maxRecDepth 100000 in
theorem F_sha_padded_text : pvFn F_sha_padded_env F_sha_padded_ann Try.f17 F_sha_padded_sig = F_sha_padded := by kernel_rfl
noncomputable def F_math_bits_RotateLeft32 (i1 : Int) (i2 : Int) : Option (Int) :=
  chk (decide (0 ≤ (bits .and .u64 (IntKind.u64.wrap i2) 31)))
  (chk (decide (0 ≤ (IntKind.u64.wrap (32 - (bits .and .u64 (IntKind.u64.wrap i2) 31)))))
    (some (bits .or .u32 (IntKind.u32.wrap (i1 * 2 ^ (min ((bits .and .u64 (IntKind.u64.wrap i2) 31)).toNat 32))) (Int.fdiv i1 (2 ^ (min ((IntKind.u64.wrap (32 - (bits .and .u64 (IntKind.u64.wrap i2) 31)))).toNat 32))))))
def F_math_bits_RotateLeft32_sig : Sig := ⟨[.v false [.d (.int .u32)], .v false [.d (.int .i64)]], [(false, [.d (.int .u32)])]⟩
def F_math_bits_RotateLeft32_ann : List (Nat × Ann) := []
noncomputable def F_math_bits_RotateLeft32_env : Env := ⟨Try.prog, [], []⟩
set_option maxRecDepth 100000 in
theorem F_math_bits_RotateLeft32_text : pvFn F_math_bits_RotateLeft32_env F_math_bits_RotateLeft32_ann Try.f27 F_math_bits_RotateLeft32_sig = F_math_bits_RotateLeft32 := by kernel_rfl
noncomputable def F_sha_state_turned_L3 (l2 : List Int) (s : Int × List Int × List Int) : Option (((List Int) ⊕ (List Int × List Int)) ⊕ (Int × List Int × List Int)) :=
  let i4 := s.1; let a5 := s.2.1; let a6 := s.2.2
  cond (decide (i4 < 64))
  (cond (decide (i4 < 16))
    ((getI l2 (IntKind.i64.wrap (4 * i4))).bind fun i7 =>
      (getI l2 (IntKind.i64.wrap ((IntKind.i64.wrap (4 * i4)) + 1))).bind fun i8 =>
      (getI l2 (IntKind.i64.wrap ((IntKind.i64.wrap (4 * i4)) + 2))).bind fun i9 =>
      (getI l2 (IntKind.i64.wrap ((IntKind.i64.wrap (4 * i4)) + 3))).bind fun i10 =>
      chk (decide (0 ≤ i4) && decide (i4 < (64 : Int)))
      (chk (decide (i4 < (64 : Int)))
        (some (.inr ((IntKind.i64.wrap (i4 + 1)), a5, (a6.set (i4).toNat (bits .or .u32 (bits .or .u32 (bits .or .u32 (IntKind.u32.wrap ((IntKind.u32.wrap i7) * 2 ^ 24)) (IntKind.u32.wrap ((IntKind.u32.wrap i8) * 2 ^ 16))) (IntKind.u32.wrap ((IntKind.u32.wrap i9) * 2 ^ 8))) (IntKind.u32.wrap i10))))))))
    (chk (decide (0 ≤ (IntKind.i64.wrap (i4 - 15))) && decide ((IntKind.i64.wrap (i4 - 15)) < (64 : Int)))
      ((getI a6 (IntKind.i64.wrap (i4 - 15))).bind fun i11 =>
        chk (decide (0 ≤ (IntKind.i64.wrap (i4 - 2))) && decide ((IntKind.i64.wrap (i4 - 2)) < (64 : Int)))
        ((getI a6 (IntKind.i64.wrap (i4 - 2))).bind fun i12 =>
          chk (decide (0 ≤ (IntKind.i64.wrap (i4 - 16))) && decide ((IntKind.i64.wrap (i4 - 16)) < (64 : Int)))
          ((getI a6 (IntKind.i64.wrap (i4 - 16))).bind fun i13 =>
            chk (decide (0 ≤ (IntKind.i64.wrap (i4 - 7))) && decide ((IntKind.i64.wrap (i4 - 7)) < (64 : Int)))
            ((getI a6 (IntKind.i64.wrap (i4 - 7))).bind fun i14 =>
              (F_math_bits_RotateLeft32 i11 (-7)).bind fun i15 =>
              (F_math_bits_RotateLeft32 i11 (-18)).bind fun i16 =>
              (F_math_bits_RotateLeft32 i12 (-17)).bind fun i17 =>
              (F_math_bits_RotateLeft32 i12 (-19)).bind fun i18 =>
              chk (decide (0 ≤ i4) && decide (i4 < (64 : Int)))
              (chk (decide (i4 < (64 : Int)))
                (some (.inr ((IntKind.i64.wrap (i4 + 1)), a5, (a6.set (i4).toNat (IntKind.u32.wrap ((IntKind.u32.wrap ((IntKind.u32.wrap (i13 + i14)) + (bits .xor .u32 (bits .xor .u32 i15 i16) (Int.fdiv i11 (2 ^ 3))))) + (bits .xor .u32 (bits .xor .u32 i17 i18) (Int.fdiv i12 (2 ^ 10))))))))))))))))
  (some (.inl (.inr (a5, a6))))
noncomputable def F_sha_state_turned_L15 (l3 : List Int) (s : Int × List Int × List Int × List Int) : Option (((List Int) ⊕ (List Int × List Int)) ⊕ (Int × List Int × List Int × List Int)) :=
  let i21 := s.1; let a22 := s.2.1; let a23 := s.2.2.1; let a24 := s.2.2.2
  cond (decide (i21 < 64))
  ((getI a24 (4 : Int)).bind fun i25 =>
    (getI a24 (0 : Int)).bind fun i26 =>
    (getI a24 (7 : Int)).bind fun i27 =>
    (F_math_bits_RotateLeft32 i25 (-6)).bind fun i28 =>
    (F_math_bits_RotateLeft32 i25 (-11)).bind fun i29 =>
    (F_math_bits_RotateLeft32 i25 (-25)).bind fun i30 =>
    (getI a24 (6 : Int)).bind fun i31 =>
    (getI a24 (5 : Int)).bind fun i32 =>
    (getI a24 (6 : Int)).bind fun i33 =>
    (getI l3 i21).bind fun i34 =>
    chk (decide (0 ≤ i21) && decide (i21 < (64 : Int)))
    ((getI a23 i21).bind fun i35 =>
      (F_math_bits_RotateLeft32 i26 (-2)).bind fun i36 =>
      (F_math_bits_RotateLeft32 i26 (-13)).bind fun i37 =>
      (F_math_bits_RotateLeft32 i26 (-22)).bind fun i38 =>
      (getI a24 (1 : Int)).bind fun i39 =>
      (getI a24 (2 : Int)).bind fun i40 =>
      (getI a24 (1 : Int)).bind fun i41 =>
      (getI a24 (2 : Int)).bind fun i42 =>
      (getI a24 (1 : Int)).bind fun i43 =>
      (getI a24 (2 : Int)).bind fun i44 =>
      (getI a24 (3 : Int)).bind fun i45 =>
      (getI a24 (5 : Int)).bind fun i46 =>
      (getI a24 (6 : Int)).bind fun i47 =>
      some (.inr ((IntKind.i64.wrap (i21 + 1)), a22, a23, [(IntKind.u32.wrap ((IntKind.u32.wrap ((IntKind.u32.wrap ((IntKind.u32.wrap ((IntKind.u32.wrap (i27 + (bits .xor .u32 (bits .xor .u32 i28 i29) i30))) + (bits .xor .u32 i31 (bits .and .u32 i25 (bits .xor .u32 i32 i33))))) + i34)) + i35)) + (IntKind.u32.wrap ((bits .xor .u32 (bits .xor .u32 i36 i37) i38) + (bits .or .u32 (bits .and .u32 i26 (bits .or .u32 i39 i40)) (bits .and .u32 i41 i42)))))), i26, i43, i44, (IntKind.u32.wrap (i45 + (IntKind.u32.wrap ((IntKind.u32.wrap ((IntKind.u32.wrap ((IntKind.u32.wrap (i27 + (bits .xor .u32 (bits .xor .u32 i28 i29) i30))) + (bits .xor .u32 i31 (bits .and .u32 i25 (bits .xor .u32 i32 i33))))) + i34)) + i35)))), i25, i46, i47]))))
  (some (.inl (.inr (a22, a24))))
noncomputable def F_sha_state_turned_L24 (s : Int × List Int × List Int) : Option ((List Int) ⊕ (Int × List Int × List Int)) :=
  let i50 := s.1; let a51 := s.2.1; let a52 := s.2.2
  cond (decide (i50 < 8))
  (chk (decide (0 ≤ i50) && decide (i50 < (8 : Int)))
    ((getI a51 i50).bind fun i53 =>
      chk (decide (0 ≤ i50) && decide (i50 < (8 : Int)))
      ((getI a52 i50).bind fun i54 =>
        chk (decide (0 ≤ i50) && decide (i50 < (8 : Int)))
        (chk (decide (i50 < (8 : Int)))
          (some (.inr ((IntKind.i64.wrap (i50 + 1)), (a51.set (i50).toNat (IntKind.u32.wrap (i53 + i54))), a52)))))))
  (some (.inl a51))
noncomputable def F_sha_state_turned_J13 (s : List Int × List Int) : Option (List Int) :=
  let a48 := s.1; let a49 := s.2
  loopC (S := Int × List Int × List Int) (R := List Int) (F_sha_state_turned_L24) (0, a48, a49)
noncomputable def F_sha_state_turned_J1 (l3 : List Int) (s : List Int × List Int) : Option (List Int) :=
  let a19 := s.1; let a20 := s.2
  joinC (S := List Int × List Int) (R := List Int)
  (loopC (S := Int × List Int × List Int × List Int) (R := (List Int) ⊕ (List Int × List Int)) (F_sha_state_turned_L15 l3) (0, a19, a20, a19))
  (F_sha_state_turned_J13)
noncomputable def F_sha_state_turned (a1 : List Int) (l2 : List Int) (l3 : List Int) : Option (List Int) :=
  joinC (S := List Int × List Int) (R := List Int)
  (loopC (S := Int × List Int × List Int) (R := (List Int) ⊕ (List Int × List Int)) (F_sha_state_turned_L3 l2) (0, a1, (List.replicate 64 0)))
  (F_sha_state_turned_J1 l3)
def F_sha_state_turned_sig : Sig := ⟨[.m [.d (.arr 8 (.int .u32))], .v false [.d (.sl (.int .u8))], .v false [.d (.sl (.int .u32))]], []⟩
def F_sha_state_turned_ann : List (Nat × Ann) := [(1, ⟨2, [], [(0, [.d (.arr 8 (.int .u32))]), (6, [.d (.arr 64 (.int .u32))])], [7, 8, 9, 17, 18, 19, 20, 21, 22, 23, 24, 25, 26, 27, 28, 29, 30, 31, 32, 33, 34, 35, 36, 37, 38, 39, 40, 41, 42, 43, 44, 45, 46, 47, 48, 49, 50, 51, 52, 53, 54, 55, 56, 57, 58, 59, 60, 61, 62, 63, 64, 65, 66, 67, 68, 69, 70, 71, 72, 73, 74, 75, 76, 77, 78, 79, 80, 81, 82, 83, 84, 85, 86, 87, 88, 89, 90, 91, 92, 93, 94], []⟩), (3, ⟨4, [(17, false, [.d (.int .i64)])], [(0, [.d (.arr 8 (.int .u32))]), (6, [.d (.arr 64 (.int .u32))])], [7, 8, 9, 18, 19, 20, 21, 22, 23, 24, 25, 26, 27, 28, 29, 30, 31, 32, 33, 34, 35, 36, 37, 38, 39, 40, 41, 42, 43, 44, 45, 46, 47, 48, 49, 50, 51, 52, 53, 54, 55, 56, 57, 58, 59, 60, 61, 62, 63, 64, 65, 66, 67, 68, 69, 70, 71, 72, 73, 74, 75, 76, 77, 78, 79, 80, 81, 82, 83, 84, 85, 86, 87, 88, 89, 90, 91, 92, 93, 94], []⟩), (13, ⟨14, [], [(0, [.d (.arr 8 (.int .u32))]), (10, [.d (.arr 8 (.int .u32))])], [11, 12, 13, 14, 15, 98, 99, 100, 101, 102, 103, 104, 105, 106, 107, 108, 109, 110, 111, 112, 113, 114, 115, 116, 117, 118, 119, 120, 121, 122, 123, 124, 125, 126, 127, 128, 129, 130, 131, 132, 133, 134, 135, 136, 137, 138, 139, 140, 141, 142, 143, 144, 145, 146, 147, 148, 149, 150, 151, 152, 153, 154, 155, 156, 157, 158, 159, 160, 161, 162, 163, 164, 165, 166, 167, 168, 169, 170, 171, 172, 173, 174, 175, 176], []⟩), (15, ⟨16, [(98, false, [.d (.int .i64)])], [(0, [.d (.arr 8 (.int .u32))]), (6, [.d (.arr 64 (.int .u32))]), (10, [.d (.arr 8 (.int .u32))])], [11, 12, 13, 14, 15, 99, 100, 101, 102, 103, 104, 105, 106, 107, 108, 109, 110, 111, 112, 113, 114, 115, 116, 117, 118, 119, 120, 121, 122, 123, 124, 125, 126, 127, 128, 129, 130, 131, 132, 133, 134, 135, 136, 137, 138, 139, 140, 141, 142, 143, 144, 145, 146, 147, 148, 149, 150, 151, 152, 153, 154, 155, 156, 157, 158, 159, 160, 161, 162, 163, 164, 165, 166, 167, 168, 169, 170, 171, 172, 173, 174, 175, 176], []⟩), (24, ⟨25, [(177, false, [.d (.int .i64)])], [(0, [.d (.arr 8 (.int .u32))]), (10, [.d (.arr 8 (.int .u32))])], [16, 178, 179, 180, 181, 182, 183, 184, 185, 186, 187, 188, 189, 190, 191], []⟩)]
noncomputable def F_sha_state_turned_env : Env := ⟨Try.prog, [(27, ⟨F_math_bits_RotateLeft32_sig, ⟨F_math_bits_RotateLeft32⟩⟩)], []⟩
set_option maxRecDepth 100000 in
theorem F_sha_state_turned_text : pvFn F_sha_state_turned_env F_sha_state_turned_ann Try.f18 F_sha_state_turned_sig = F_sha_state_turned := by kernel_rfl
noncomputable def F_sha_One_L5 (l2 : List Int) (s : List Int × List Int × Int × List Int) : Option (((List Int) ⊕ (List Int × List Int)) ⊕ (List Int × List Int × Int × List Int)) :=
  let l3 := s.1; let l4 := s.2.1; let i5 := s.2.2.1; let a6 := s.2.2.2
  cond (decide (i5 < (l2.length : Int)))
  ((getI l4 i5).bind fun i7 =>
    cond (decide (i5 < 8))
    ((F_sha_fraction i7 false).bind fun i8 =>
      chk (decide (0 ≤ i5) && decide (i5 < (8 : Int)))
      (chk (decide (i5 < (8 : Int)))
        ((F_sha_fraction i7 true).bind fun i9 =>
          chk (decide ((l3.length + ([i9] : List Int).length) * 4 ≤ 140737488355328) && decide (l3.length + ([i9] : List Int).length ≤ maxLen))
          (some (.inr ((l3 ++ ([i9] : List Int)), l4, (IntKind.i64.wrap (i5 + 1)), (a6.set (i5).toNat i8)))))))
    ((F_sha_fraction i7 true).bind fun i10 =>
      chk (decide ((l3.length + ([i10] : List Int).length) * 4 ≤ 140737488355328) && decide (l3.length + ([i10] : List Int).length ≤ maxLen))
      (some (.inr ((l3 ++ ([i10] : List Int)), l4, (IntKind.i64.wrap (i5 + 1)), a6)))))
  (some (.inl (.inr (l3, a6))))
noncomputable def F_sha_One_L15 (s : List Int × List Int × Int × List Int) : Option (((List Int) ⊕ (List Int)) ⊕ (List Int × List Int × Int × List Int)) :=
  let l14 := s.1; let l15 := s.2.1; let i16 := s.2.2.1; let a17 := s.2.2.2
  cond (decide (i16 < (l15.length : Int)))
  ((cutI l15 i16 (IntKind.i64.wrap (i16 + 64))).bind fun l18 =>
    (F_sha_state_turned a17 l18 l14).bind fun a19 =>
    some (.inr (l14, l15, (IntKind.i64.wrap (i16 + 64)), a19)))
  (some (.inl (.inr a17)))
noncomputable def F_sha_One_L22 (a20 : List Int) (s : List Int × Int) : Option (((List Int) ⊕ (List Int)) ⊕ (List Int × Int)) :=
  let l21 := s.1; let i22 := s.2
  cond (decide (i22 < 8))
  ((getI a20 i22).bind fun i23 =>
    chk (decide ((l21.length + ([(IntKind.u8.wrap (Int.fdiv i23 (2 ^ 24))), (IntKind.u8.wrap (Int.fdiv i23 (2 ^ 16))), (IntKind.u8.wrap (Int.fdiv i23 (2 ^ 8))), (IntKind.u8.wrap i23)] : List Int).length) * 1 ≤ 140737488355328) && decide (l21.length + ([(IntKind.u8.wrap (Int.fdiv i23 (2 ^ 24))), (IntKind.u8.wrap (Int.fdiv i23 (2 ^ 16))), (IntKind.u8.wrap (Int.fdiv i23 (2 ^ 8))), (IntKind.u8.wrap i23)] : List Int).length ≤ maxLen))
    (some (.inr ((l21 ++ ([(IntKind.u8.wrap (Int.fdiv i23 (2 ^ 24))), (IntKind.u8.wrap (Int.fdiv i23 (2 ^ 16))), (IntKind.u8.wrap (Int.fdiv i23 (2 ^ 8))), (IntKind.u8.wrap i23)] : List Int)), (IntKind.i64.wrap (i22 + 1))))))
  (some (.inl (.inr l21)))
noncomputable def F_sha_One_J20 (s : List Int) : Option (List Int) :=
  let l24 := s
  some l24
noncomputable def F_sha_One_J13 (s : List Int) : Option (List Int) :=
  let a20 := s
  joinC (S := List Int) (R := List Int)
  (loopC (S := List Int × Int) (R := (List Int) ⊕ (List Int)) (F_sha_One_L22 a20) (([] : List Int), 0))
  (F_sha_One_J20)
noncomputable def F_sha_One_J3 (l1 : List Int) (s : List Int × List Int) : Option (List Int) :=
  let l11 := s.1; let a12 := s.2
  (F_sha_padded l1).bind fun l13 =>
  joinC (S := List Int) (R := List Int)
  (loopC (S := List Int × List Int × Int × List Int) (R := (List Int) ⊕ (List Int)) (F_sha_One_L15) (l11, l13, 0, a12))
  (F_sha_One_J13)
noncomputable def F_sha_One (l1 : List Int) : Option (List Int) :=
  joinC (S := List Int × List Int) (R := List Int)
  ((F_sha_primes 64).bind fun l2 =>
    loopC (S := List Int × List Int × Int × List Int) (R := (List Int) ⊕ (List Int × List Int)) (F_sha_One_L5 l2) (([] : List Int), l2, 0, (List.replicate 8 0)))
  (F_sha_One_J3 l1)
def F_sha_One_sig : Sig := ⟨[.v false [.d (.sl (.int .u8))]], [(false, [.own 5 (.int .u8)])]⟩
def F_sha_One_ann : List (Nat × Ann) := [(3, ⟨4, [(4, false, [.own 30 (.int .u32)])], [(3, [.d (.arr 8 (.int .u32))])], [5, 6, 12, 13, 14, 15, 16, 17, 18, 19, 20, 21, 22, 23, 24, 25, 26, 27, 28, 29, 30], []⟩), (5, ⟨6, [(4, false, [.own 30 (.int .u32)]), (12, false, [.own 36 (.int .u64)]), (14, false, [.d (.int .i64)])], [(3, [.d (.arr 8 (.int .u32))])], [5, 6, 15, 16, 17, 18, 19, 20, 21, 22, 23, 24, 25, 26, 27, 28, 29, 30], []⟩), (13, ⟨14, [], [(3, [.d (.arr 8 (.int .u32))])], [8, 33, 34, 35, 36, 37, 38, 39, 40, 41, 42, 43, 44, 45], []⟩), (15, ⟨16, [(4, false, [.own 30 (.int .u32)]), (7, false, [.own 5 (.int .u8)]), (8, false, [.d (.int .i64)])], [(3, [.d (.arr 8 (.int .u32))])], [33, 34, 35, 36, 37, 38, 39, 40, 41, 42, 43, 44, 45], []⟩), (20, ⟨21, [(9, false, [.own 5 (.int .u8)])], [], [11, 46, 47, 48, 49, 50, 51, 52, 53, 54, 55, 56, 57, 58, 59, 60, 61, 62, 63, 64], []⟩), (22, ⟨23, [(9, false, [.own 5 (.int .u8)]), (47, false, [.d (.int .i64)])], [], [11, 48, 49, 50, 51, 52, 53, 54, 55, 56, 57, 58, 59, 60, 61, 62, 63, 64], []⟩)]
noncomputable def F_sha_One_env : Env := ⟨Try.prog, [(15, ⟨F_sha_primes_sig, ⟨F_sha_primes⟩⟩), (16, ⟨F_sha_fraction_sig, ⟨F_sha_fraction⟩⟩), (17, ⟨F_sha_padded_sig, ⟨F_sha_padded⟩⟩), (18, ⟨F_sha_state_turned_sig, ⟨F_sha_state_turned⟩⟩)], []⟩
set_option maxRecDepth 100000 in
theorem F_sha_One_text : pvFn F_sha_One_env F_sha_One_ann Try.f8 F_sha_One_sig = F_sha_One := by kernel_rfl
noncomputable def F_sha_Equal_L7 (l1 : List Int) (l2 : List Int) (s : Int × Int) : Option (((Bool) ⊕ (Int)) ⊕ (Int × Int)) :=
  let i3 := s.1; let i4 := s.2
  cond (decide (i4 < (l1.length : Int)))
  ((getI l1 i4).bind fun i5 =>
    (getI l2 i4).bind fun i6 =>
    some (.inr ((bits .or .u8 i3 (bits .xor .u8 i5 i6)), (IntKind.i64.wrap (i4 + 1)))))
  (some (.inl (.inr i3)))
noncomputable def F_sha_Equal_J5 (s : Int) : Option (Bool) :=
  let i7 := s
  some (i7 == 0)
noncomputable def F_sha_Equal (l1 : List Int) (l2 : List Int) : Option (Bool) :=
  cond ((l1.length : Int) != (l2.length : Int))
  (some false)
  (joinC (S := Int) (R := Bool)
    (loopC (S := Int × Int) (R := (Bool) ⊕ (Int)) (F_sha_Equal_L7 l1 l2) (0, 0))
    (F_sha_Equal_J5))
def F_sha_Equal_sig : Sig := ⟨[.v false [.d (.sl (.int .u8))], .v false [.d (.sl (.int .u8))]], [(false, [.d .bool])]⟩
def F_sha_Equal_ann : List (Nat × Ann) := [(5, ⟨6, [(5, false, [.d (.int .u8)])], [], [6, 12, 13, 14, 15, 16, 17, 18, 19, 20, 21, 22, 23, 24, 25, 26, 27, 28], []⟩), (7, ⟨8, [(5, false, [.d (.int .u8)]), (14, false, [.d (.int .i64)])], [], [6, 15, 16, 17, 18, 19, 20, 21, 22, 23, 24, 25, 26, 27, 28], []⟩)]
noncomputable def F_sha_Equal_env : Env := ⟨Try.prog, [], []⟩
set_option maxRecDepth 100000 in
theorem F_sha_Equal_text : pvFn F_sha_Equal_env F_sha_Equal_ann Try.f9 F_sha_Equal_sig = F_sha_Equal := by kernel_rfl
noncomputable def F_sha_Salted (l1 : List Int) (l2 : List Int) : Option (List Int) :=
  (F_slices_Concat_byte_byte ([l1, ([0] : List Int), l2] : List (List Int))).bind fun l3 =>
  (F_sha_One l3).bind fun l4 =>
  some l4
def F_sha_Salted_sig : Sig := ⟨[.v false [.d (.sl (.int .u8))], .v false [.d (.sl (.int .u8))]], [(false, [.own 5 (.int .u8)])]⟩
def F_sha_Salted_ann : List (Nat × Ann) := []
noncomputable def F_sha_Salted_env : Env := ⟨Try.prog, [(8, ⟨F_sha_One_sig, ⟨F_sha_One⟩⟩), (22, ⟨F_slices_Concat_byte_byte_sig, ⟨F_slices_Concat_byte_byte⟩⟩)], []⟩
set_option maxRecDepth 100000 in
theorem F_sha_Salted_text : pvFn F_sha_Salted_env F_sha_Salted_ann Try.f13 F_sha_Salted_sig = F_sha_Salted := by kernel_rfl
noncomputable def F_wlvref1_primes_L11 (i3 : Int) (s : List Int × Bool × Int) : Option ((((((List Int) ⊕ (List Int)) ⊕ (List Int × Int)) ⊕ (List Int)) ⊕ (List Int × Bool)) ⊕ (List Int × Bool × Int)) :=
  let l4 := s.1; let b5 := s.2.1; let i6 := s.2.2
  cond (decide (i6 < (l4.length : Int)))
  (cond b5
    ((getI l4 i6).bind fun i7 =>
      chk (i7 != 0)
      (some (.inr (l4, ((Int.tmod i3 i7) != 0), (IntKind.i64.wrap (i6 + 1))))))
    (some (.inr (l4, false, (IntKind.i64.wrap (i6 + 1))))))
  (some (.inl (.inr (l4, b5))))
noncomputable def F_wlvref1_primes_J9 (i3 : Int) (s : List Int × Bool) : Option ((((List Int) ⊕ (List Int)) ⊕ (List Int × Int)) ⊕ (List Int)) :=
  let l8 := s.1; let b9 := s.2
  cond b9
  (chk (decide ((l8.length + ([i3] : List Int).length) * 8 ≤ 140737488355328) && decide (l8.length + ([i3] : List Int).length ≤ maxLen))
    (some (.inr (l8 ++ ([i3] : List Int)))))
  (some (.inr l8))
noncomputable def F_wlvref1_primes_J7 (i3 : Int) (s : List Int) : Option (((List Int) ⊕ (List Int)) ⊕ (List Int × Int)) :=
  let l10 := s
  some (.inr (l10, (IntKind.i64.wrap (i3 + 1))))
noncomputable def F_wlvref1_primes_L4 (i1 : Int) (s : List Int × Int) : Option (((List Int) ⊕ (List Int)) ⊕ (List Int × Int)) :=
  let l2 := s.1; let i3 := s.2
  cond (decide ((l2.length : Int) < i1))
  (joinC (S := List Int) (R := ((List Int) ⊕ (List Int)) ⊕ (List Int × Int))
    (joinC (S := List Int × Bool) (R := (((List Int) ⊕ (List Int)) ⊕ (List Int × Int)) ⊕ (List Int))
      (loopC (S := List Int × Bool × Int) (R := ((((List Int) ⊕ (List Int)) ⊕ (List Int × Int)) ⊕ (List Int)) ⊕ (List Int × Bool)) (F_wlvref1_primes_L11 i3) (l2, true, 0))
      (F_wlvref1_primes_J9 i3))
    (F_wlvref1_primes_J7 i3))
  (some (.inl (.inr l2)))
noncomputable def F_wlvref1_primes_J2 (s : List Int) : Option (List Int) :=
  let l11 := s
  some l11
noncomputable def F_wlvref1_primes (i1 : Int) : Option (List Int) :=
  joinC (S := List Int) (R := List Int)
  (loopC (S := List Int × Int) (R := (List Int) ⊕ (List Int)) (F_wlvref1_primes_L4 i1) (([] : List Int), 2))
  (F_wlvref1_primes_J2)
def F_wlvref1_primes_sig : Sig := ⟨[.v false [.d (.int .i64)]], [(false, [.own 3 (.int .i64)])]⟩
def F_wlvref1_primes_ann : List (Nat × Ann) := [(2, ⟨3, [(3, false, [.own 3 (.int .i64)])], [], [4, 5, 6, 7, 8, 9, 10, 11, 12, 13, 14, 15, 16, 17, 18, 19, 20, 21, 22, 23, 24, 25, 26, 27, 28, 29, 30, 31, 32, 33], []⟩), (4, ⟨5, [(3, false, [.own 3 (.int .i64)]), (4, false, [.d (.int .i64)])], [], [5, 6, 7, 8, 9, 10, 11, 12, 13, 14, 15, 16, 17, 18, 19, 20, 21, 22, 23, 24, 25, 26, 27, 28, 29, 30, 31, 32, 33], []⟩), (7, ⟨8, [(3, false, [.own 3 (.int .i64)])], [], [5, 6, 13, 14, 15, 16, 17, 18, 19, 20, 21, 22, 23, 24, 25, 26, 27, 28, 29, 30, 31, 32, 33], []⟩), (9, ⟨10, [(3, false, [.own 3 (.int .i64)]), (5, false, [.d .bool])], [], [6, 13, 14, 15, 16, 17, 18, 19, 20, 21, 22, 23, 24, 25, 26, 27, 28], []⟩), (11, ⟨12, [(3, false, [.own 3 (.int .i64)]), (5, false, [.d .bool]), (6, false, [.d (.int .i64)])], [], [13, 14, 15, 16, 17, 18, 19, 20, 21, 22, 23, 24, 25, 26, 27, 28], []⟩)]
noncomputable def F_wlvref1_primes_env : Env := ⟨Try.prog, [], []⟩
set_option maxRecDepth 100000 in
theorem F_wlvref1_primes_text : pvFn F_wlvref1_primes_env F_wlvref1_primes_ann Try.f19 F_wlvref1_primes_sig = F_wlvref1_primes := by kernel_rfl
noncomputable def F_wlvref1_below_L4 (l1 : List Int) (i3 : Int) (s : Int × Int) : Option (((Bool) ⊕ (Int)) ⊕ (Int × Int)) :=
  let i4 := s.1; let i5 := s.2
  cond (decide (i5 ≥ (IntKind.i64.wrap (2 * i3))))
  (cond (decide (i4 > 1099511627776))
    (some (.inl (.inl false)))
    ((getI l1 i5).bind fun i6 =>
      some (.inr ((IntKind.u64.wrap ((IntKind.u64.wrap (i4 * 2 ^ 16)) + i6)), (IntKind.i64.wrap (i5 - 1))))))
  (some (.inl (.inr i4)))
noncomputable def F_wlvref1_below_L16 (l1 : List Int) (i3 : Int) (s : Int) : Option (((Bool) ⊕ (Unit)) ⊕ (Int)) :=
  let i8 := s
  cond (decide (i8 < (IntKind.i64.wrap (2 * i3))))
  ((getI l1 i8).bind fun i9 =>
    cond (i9 != 0)
    (some (.inl (.inl false)))
    (some (.inr (IntKind.i64.wrap (i8 + 1)))))
  (some (.inl (.inr ())))
noncomputable def F_wlvref1_below_J14 (s : Unit) : Option (Bool) :=
  some true
noncomputable def F_wlvref1_below_J2 (l1 : List Int) (i2 : Int) (i3 : Int) (s : Int) : Option (Bool) :=
  let i7 := s
  cond (i7 != (IntKind.u64.wrap i2))
  (some (decide (i7 < (IntKind.u64.wrap i2))))
  (joinC (S := Unit) (R := Bool)
    (loopC (S := Int) (R := (Bool) ⊕ (Unit)) (F_wlvref1_below_L16 l1 i3) 0)
    (F_wlvref1_below_J14))
noncomputable def F_wlvref1_below (l1 : List Int) (i2 : Int) (i3 : Int) : Option (Bool) :=
  joinC (S := Int) (R := Bool)
  (loopC (S := Int × Int) (R := (Bool) ⊕ (Int)) (F_wlvref1_below_L4 l1 i3) (0, (IntKind.i64.wrap ((l1.length : Int) - 1))))
  (F_wlvref1_below_J2 l1 i2 i3)
def F_wlvref1_below_sig : Sig := ⟨[.v false [.d (.sl (.int .u64))], .v false [.d (.int .i64)], .v false [.d (.int .i64)]], [(false, [.d .bool])]⟩
def F_wlvref1_below_ann : List (Nat × Ann) := [(2, ⟨3, [(7, false, [.d (.int .u64)])], [], [6, 8, 10, 11, 12, 13, 14, 15, 16, 17, 18, 19, 20, 21, 22, 23, 24, 25, 26, 27], []⟩), (4, ⟨5, [(7, false, [.d (.int .u64)]), (8, false, [.d (.int .i64)])], [], [6, 13, 14, 15, 16, 17, 18, 19, 20, 21, 22, 23, 24, 25, 26, 27], []⟩), (14, ⟨15, [], [], [6, 9, 36, 37, 38, 39, 40, 41, 42, 43, 44, 45, 46], []⟩), (16, ⟨17, [(9, false, [.d (.int .i64)])], [], [6, 36, 37, 38, 39, 40, 41, 42, 43, 44, 45, 46], []⟩)]
noncomputable def F_wlvref1_below_env : Env := ⟨Try.prog, [], []⟩
set_option maxRecDepth 100000 in
theorem F_wlvref1_below_text : pvFn F_wlvref1_below_env F_wlvref1_below_ann Try.f28 F_wlvref1_below_sig = F_wlvref1_below := by kernel_rfl
noncomputable def F_wlvref1_times_L11 (l1 : List Int) (l2 : List Int) (i3 : Int) (s : Int × Int × List Int) : Option ((((((List Int) ⊕ (List Int)) ⊕ (Int × List Int)) ⊕ (List Int)) ⊕ (Int × List Int)) ⊕ (Int × Int × List Int)) :=
  let i5 := s.1; let i6 := s.2.1; let l7 := s.2.2
  cond (decide (i6 < (l2.length : Int)))
  (chk (decide (0 ≤ (IntKind.i64.wrap (i3 + i6))) && decide ((IntKind.i64.wrap (i3 + i6)) < ((List.length (List.replicate ((IntKind.i64.wrap ((l1.length : Int) + (l2.length : Int)))).toNat (0 : Int))) : Int)))
    ((getI l7 (IntKind.i64.wrap (i3 + i6))).bind fun i8 =>
      (getI l1 i3).bind fun i9 =>
      (getI l2 i6).bind fun i10 =>
      chk (decide (0 ≤ (IntKind.i64.wrap (i3 + i6))) && decide ((IntKind.i64.wrap (i3 + i6)) < ((List.length (List.replicate ((IntKind.i64.wrap ((l1.length : Int) + (l2.length : Int)))).toNat (0 : Int))) : Int)))
      (chk (decide ((IntKind.i64.wrap (i3 + i6)) < (l7.length : Int)))
        (some (.inr ((Int.fdiv (IntKind.u64.wrap ((IntKind.u64.wrap (i8 + (IntKind.u64.wrap (i9 * i10)))) + i5)) (2 ^ 16)), (IntKind.i64.wrap (i6 + 1)), (l7.set ((IntKind.i64.wrap (i3 + i6))).toNat (bits .and .u64 (IntKind.u64.wrap ((IntKind.u64.wrap (i8 + (IntKind.u64.wrap (i9 * i10)))) + i5)) 65535))))))))
  (some (.inl (.inr (i5, l7))))
noncomputable def F_wlvref1_times_J9 (l1 : List Int) (l2 : List Int) (i3 : Int) (s : Int × List Int) : Option ((((List Int) ⊕ (List Int)) ⊕ (Int × List Int)) ⊕ (List Int)) :=
  let i11 := s.1; let l12 := s.2
  chk (decide (0 ≤ (IntKind.i64.wrap (i3 + (l2.length : Int)))) && decide ((IntKind.i64.wrap (i3 + (l2.length : Int))) < ((List.length (List.replicate ((IntKind.i64.wrap ((l1.length : Int) + (l2.length : Int)))).toNat (0 : Int))) : Int)))
  ((getI l12 (IntKind.i64.wrap (i3 + (l2.length : Int)))).bind fun i13 =>
    chk (decide (0 ≤ (IntKind.i64.wrap (i3 + (l2.length : Int)))) && decide ((IntKind.i64.wrap (i3 + (l2.length : Int))) < ((List.length (List.replicate ((IntKind.i64.wrap ((l1.length : Int) + (l2.length : Int)))).toNat (0 : Int))) : Int)))
    (chk (decide ((IntKind.i64.wrap (i3 + (l2.length : Int))) < (l12.length : Int)))
      (some (.inr (l12.set ((IntKind.i64.wrap (i3 + (l2.length : Int)))).toNat (IntKind.u64.wrap (i13 + i11)))))))
noncomputable def F_wlvref1_times_J7 (i3 : Int) (s : List Int) : Option (((List Int) ⊕ (List Int)) ⊕ (Int × List Int)) :=
  let l14 := s
  some (.inr ((IntKind.i64.wrap (i3 + 1)), l14))
noncomputable def F_wlvref1_times_L4 (l1 : List Int) (l2 : List Int) (s : Int × List Int) : Option (((List Int) ⊕ (List Int)) ⊕ (Int × List Int)) :=
  let i3 := s.1; let l4 := s.2
  cond (decide (i3 < (l1.length : Int)))
  (joinC (S := List Int) (R := ((List Int) ⊕ (List Int)) ⊕ (Int × List Int))
    (joinC (S := Int × List Int) (R := (((List Int) ⊕ (List Int)) ⊕ (Int × List Int)) ⊕ (List Int))
      (loopC (S := Int × Int × List Int) (R := ((((List Int) ⊕ (List Int)) ⊕ (Int × List Int)) ⊕ (List Int)) ⊕ (Int × List Int)) (F_wlvref1_times_L11 l1 l2 i3) (0, 0, l4))
      (F_wlvref1_times_J9 l1 l2 i3))
    (F_wlvref1_times_J7 i3))
  (some (.inl (.inr l4)))
noncomputable def F_wlvref1_times_J2 (l1 : List Int) (l2 : List Int) (s : List Int) : Option (List Int) :=
  let l15 := s
  chk ((Nat.ble (List.length (List.replicate ((IntKind.i64.wrap ((l1.length : Int) + (l2.length : Int)))).toNat (0 : Int))) (List.length l15) && true))
  (some (List.take (List.length (List.replicate ((IntKind.i64.wrap ((l1.length : Int) + (l2.length : Int)))).toNat (0 : Int))) l15))
noncomputable def F_wlvref1_times (l1 : List Int) (l2 : List Int) : Option (List Int) :=
  chk (decide (0 ≤ (IntKind.i64.wrap ((l1.length : Int) + (l2.length : Int)))) && decide ((IntKind.i64.wrap ((l1.length : Int) + (l2.length : Int))) ≤ (IntKind.i64.wrap ((l1.length : Int) + (l2.length : Int)))) && decide ((IntKind.i64.wrap ((l1.length : Int) + (l2.length : Int))) * 8 ≤ 140737488355328) && decide ((IntKind.i64.wrap ((l1.length : Int) + (l2.length : Int))) ≤ maxLen))
  (joinC (S := List Int) (R := List Int)
    (loopC (S := Int × List Int) (R := (List Int) ⊕ (List Int)) (F_wlvref1_times_L4 l1 l2) (0, (List.replicate ((IntKind.i64.wrap ((l1.length : Int) + (l2.length : Int)))).toNat (0 : Int))))
    (F_wlvref1_times_J2 l1 l2))
def F_wlvref1_times_sig : Sig := ⟨[.v false [.d (.sl (.int .u64))], .v false [.d (.sl (.int .u64))]], [(false, [.d (.sl (.int .u64))])]⟩
def F_wlvref1_times_ann : List (Nat × Ann) := [(2, ⟨3, [], [(15, [.row (.int .u64)])], [6, 7, 8, 9, 16, 17, 18, 19, 20, 21, 22, 23, 24, 25, 26, 27, 28, 29, 30, 31, 32, 33, 34, 35, 36, 37, 38, 39, 40, 41, 42, 43, 44, 45, 46, 47, 48, 49, 50, 51, 52, 53, 54, 55, 56, 57, 58, 59, 60, 61, 62, 63, 64], []⟩), (4, ⟨5, [(6, false, [.d (.int .i64)])], [(15, [.row (.int .u64)])], [7, 8, 9, 16, 17, 18, 19, 20, 21, 22, 23, 24, 25, 26, 27, 28, 29, 30, 31, 32, 33, 34, 35, 36, 37, 38, 39, 40, 41, 42, 43, 44, 45, 46, 47, 48, 49, 50, 51, 52, 53, 54, 55, 56, 57, 58, 59, 60, 61, 62, 63, 64], []⟩), (7, ⟨8, [], [(15, [.row (.int .u64)])], [7, 8, 9, 22, 23, 24, 25, 26, 27, 28, 29, 30, 31, 32, 33, 34, 35, 36, 37, 38, 39, 40, 41, 42, 43, 44, 45, 46, 47, 48, 49, 50, 51, 52, 53, 54, 55, 56, 57, 58, 59, 60, 61, 62, 63, 64], []⟩), (9, ⟨10, [(7, false, [.d (.int .u64)])], [(15, [.row (.int .u64)])], [8, 9, 22, 23, 24, 25, 26, 27, 28, 29, 30, 31, 32, 33, 34, 35, 36, 37, 38, 39, 40, 41, 42, 43, 44, 45, 46, 47, 48, 49, 50, 51, 52, 53, 54], []⟩), (11, ⟨12, [(7, false, [.d (.int .u64)]), (8, false, [.d (.int .i64)])], [(15, [.row (.int .u64)])], [9, 22, 23, 24, 25, 26, 27, 28, 29, 30, 31, 32, 33, 34, 35, 36, 37, 38, 39, 40, 41, 42, 43, 44, 45, 46, 47, 48, 49, 50, 51, 52, 53, 54], []⟩)]
noncomputable def F_wlvref1_times_env : Env := ⟨Try.prog, [], [15]⟩
set_option maxRecDepth 100000 in
theorem F_wlvref1_times_text : pvFn F_wlvref1_times_env F_wlvref1_times_ann Try.f35 F_wlvref1_times_sig = F_wlvref1_times := by kernel_rfl
noncomputable def F_wlvref1_power_L5 (i2 : Int) (s : List Int × List Int × Int) : Option (((List Int) ⊕ (List Int)) ⊕ (List Int × List Int × Int)) :=
  let l3 := s.1; let l4 := s.2.1; let i5 := s.2.2
  cond (decide (i5 < i2))
  ((F_wlvref1_times l3 l4).bind fun l6 =>
    some (.inr (l6, l4, (IntKind.i64.wrap (i5 + 1)))))
  (some (.inl (.inr l3)))
noncomputable def F_wlvref1_power_J3 (s : List Int) : Option (List Int) :=
  let l7 := s
  some l7
noncomputable def F_wlvref1_power (i1 : Int) (i2 : Int) : Option (List Int) :=
  joinC (S := List Int) (R := List Int)
  (loopC (S := List Int × List Int × Int) (R := (List Int) ⊕ (List Int)) (F_wlvref1_power_L5 i2) (([1] : List Int), ([(bits .and .u64 i1 65535), (bits .and .u64 (Int.fdiv i1 (2 ^ 16)) 65535), (Int.fdiv i1 (2 ^ 32))] : List Int), 0))
  (F_wlvref1_power_J3)
def F_wlvref1_power_sig : Sig := ⟨[.v false [.d (.int .u64)], .v false [.d (.int .i64)]], [(false, [.d (.sl (.int .u64))])]⟩
def F_wlvref1_power_ann : List (Nat × Ann) := [(3, ⟨4, [(5, false, [.d (.sl (.int .u64))])], [], [7, 17, 18, 19, 20, 21, 22, 23, 24], []⟩), (5, ⟨6, [(5, false, [.d (.sl (.int .u64))]), (6, false, [.own 36 (.int .u64)]), (7, false, [.d (.int .i64)])], [], [17, 18, 19, 20, 21, 22, 23, 24], []⟩)]
noncomputable def F_wlvref1_power_env : Env := ⟨Try.prog, [(35, ⟨F_wlvref1_times_sig, ⟨F_wlvref1_times⟩⟩)], []⟩
set_option maxRecDepth 100000 in
theorem F_wlvref1_power_text : pvFn F_wlvref1_power_env F_wlvref1_power_ann Try.f29 F_wlvref1_power_sig = F_wlvref1_power := by kernel_rfl
noncomputable def F_wlvref1_root_L4 (i1 : Int) (i2 : Int) (s : Int × Int) : Option (((Int) ⊕ (Int)) ⊕ (Int × Int)) :=
  let i3 := s.1; let i4 := s.2
  cond (decide (i4 ≥ 0))
  (chk (decide (0 ≤ (IntKind.u64.wrap i4)))
    ((F_wlvref1_power (bits .or .u64 i3 (IntKind.u64.wrap (1 * 2 ^ (min ((IntKind.u64.wrap i4)).toNat 64)))) i2).bind fun l5 =>
      (F_wlvref1_below l5 i1 i2).bind fun b6 =>
      cond b6
      (some (.inr ((bits .or .u64 i3 (IntKind.u64.wrap (1 * 2 ^ (min ((IntKind.u64.wrap i4)).toNat 64)))), (IntKind.i64.wrap (i4 - 1)))))
      (some (.inr (i3, (IntKind.i64.wrap (i4 - 1)))))))
  (some (.inl (.inr i3)))
noncomputable def F_wlvref1_root_J2 (s : Int) : Option (Int) :=
  let i7 := s
  some (IntKind.u32.wrap i7)
noncomputable def F_wlvref1_root (i1 : Int) (i2 : Int) : Option (Int) :=
  joinC (S := Int) (R := Int)
  (loopC (S := Int × Int) (R := (Int) ⊕ (Int)) (F_wlvref1_root_L4 i1 i2) (0, 36))
  (F_wlvref1_root_J2)
def F_wlvref1_root_sig : Sig := ⟨[.v false [.d (.int .i64)], .v false [.d (.int .i64)]], [(false, [.d (.int .u32)])]⟩
def F_wlvref1_root_ann : List (Nat × Ann) := [(2, ⟨3, [(5, false, [.d (.int .u64)])], [], [6, 7, 8, 9, 10, 11, 12, 13, 14, 15, 16, 17, 18, 19, 20, 21, 22, 23], []⟩), (4, ⟨5, [(5, false, [.d (.int .u64)]), (6, false, [.d (.int .i64)])], [], [7, 8, 9, 10, 11, 12, 13, 14, 15, 16, 17, 18, 19, 20, 21, 22, 23], []⟩)]
noncomputable def F_wlvref1_root_env : Env := ⟨Try.prog, [(28, ⟨F_wlvref1_below_sig, ⟨F_wlvref1_below⟩⟩), (29, ⟨F_wlvref1_power_sig, ⟨F_wlvref1_power⟩⟩)], []⟩
set_option maxRecDepth 100000 in
theorem F_wlvref1_root_text : pvFn F_wlvref1_root_env F_wlvref1_root_ann Try.f20 F_wlvref1_root_sig = F_wlvref1_root := by kernel_rfl
noncomputable def F_wlvref1_turn (i1 : Int) (i2 : Int) : Option (Int) :=
  chk (decide (0 ≤ (IntKind.u64.wrap i2)))
  (chk (decide (0 ≤ (IntKind.u64.wrap (IntKind.i64.wrap (32 - i2)))))
    (some (bits .or .u32 (Int.fdiv i1 (2 ^ (min ((IntKind.u64.wrap i2)).toNat 32))) (IntKind.u32.wrap (i1 * 2 ^ (min ((IntKind.u64.wrap (IntKind.i64.wrap (32 - i2)))).toNat 32))))))
def F_wlvref1_turn_sig : Sig := ⟨[.v false [.d (.int .u32)], .v false [.d (.int .i64)]], [(false, [.d (.int .u32)])]⟩
def F_wlvref1_turn_ann : List (Nat × Ann) := []
noncomputable def F_wlvref1_turn_env : Env := ⟨Try.prog, [], []⟩
set_option maxRecDepth 100000 in
theorem F_wlvref1_turn_text : pvFn F_wlvref1_turn_env F_wlvref1_turn_ann Try.f30 F_wlvref1_turn_sig = F_wlvref1_turn := by kernel_rfl
noncomputable def F_wlvref1_block_L4 (l3 : List Int) (s : Int × List Int × List Int × List Int × List Int) : Option (((List Int) ⊕ (List Int × List Int × List Int × List Int)) ⊕ (Int × List Int × List Int × List Int × List Int)) :=
  let i4 := s.1; let a5 := s.2.1; let a6 := s.2.2.1; let a7 := s.2.2.2.1; let a8 := s.2.2.2.2
  cond (decide (i4 < 64))
  (cond (decide (i4 < 16))
    ((getI l3 (IntKind.i64.wrap (4 * i4))).bind fun i9 =>
      (getI l3 (IntKind.i64.wrap ((IntKind.i64.wrap (4 * i4)) + 1))).bind fun i10 =>
      (getI l3 (IntKind.i64.wrap ((IntKind.i64.wrap (4 * i4)) + 2))).bind fun i11 =>
      (getI l3 (IntKind.i64.wrap ((IntKind.i64.wrap (4 * i4)) + 3))).bind fun i12 =>
      chk (decide (0 ≤ i4) && decide (i4 < (64 : Int)))
      (chk (decide (i4 < (64 : Int)))
        (some (.inr ((IntKind.i64.wrap (i4 + 1)), a5, a6, a7, (a8.set (i4).toNat (bits .or .u32 (bits .or .u32 (bits .or .u32 (IntKind.u32.wrap ((IntKind.u32.wrap i9) * 2 ^ 24)) (IntKind.u32.wrap ((IntKind.u32.wrap i10) * 2 ^ 16))) (IntKind.u32.wrap ((IntKind.u32.wrap i11) * 2 ^ 8))) (IntKind.u32.wrap i12))))))))
    (chk (decide (0 ≤ (IntKind.i64.wrap (i4 - 15))) && decide ((IntKind.i64.wrap (i4 - 15)) < (64 : Int)))
      ((getI a8 (IntKind.i64.wrap (i4 - 15))).bind fun i13 =>
        chk (decide (0 ≤ (IntKind.i64.wrap (i4 - 2))) && decide ((IntKind.i64.wrap (i4 - 2)) < (64 : Int)))
        ((getI a8 (IntKind.i64.wrap (i4 - 2))).bind fun i14 =>
          chk (decide (0 ≤ (IntKind.i64.wrap (i4 - 16))) && decide ((IntKind.i64.wrap (i4 - 16)) < (64 : Int)))
          ((getI a8 (IntKind.i64.wrap (i4 - 16))).bind fun i15 =>
            (F_wlvref1_turn i13 7).bind fun i16 =>
            (F_wlvref1_turn i13 18).bind fun i17 =>
            chk (decide (0 ≤ (IntKind.i64.wrap (i4 - 7))) && decide ((IntKind.i64.wrap (i4 - 7)) < (64 : Int)))
            ((getI a8 (IntKind.i64.wrap (i4 - 7))).bind fun i18 =>
              (F_wlvref1_turn i14 17).bind fun i19 =>
              (F_wlvref1_turn i14 19).bind fun i20 =>
              chk (decide (0 ≤ i4) && decide (i4 < (64 : Int)))
              (chk (decide (i4 < (64 : Int)))
                (some (.inr ((IntKind.i64.wrap (i4 + 1)), a5, a6, a7, (a8.set (i4).toNat (IntKind.u32.wrap ((IntKind.u32.wrap ((IntKind.u32.wrap (i15 + (bits .xor .u32 (bits .xor .u32 i16 i17) (Int.fdiv i13 (2 ^ 3))))) + i18)) + (bits .xor .u32 (bits .xor .u32 i19 i20) (Int.fdiv i14 (2 ^ 10))))))))))))))))
  (some (.inl (.inr (a5, a6, a7, a8))))
noncomputable def F_wlvref1_block_L15 (s : Int × List Int × List Int × List Int × List Int × List Int) : Option (((List Int) ⊕ (List Int × List Int × List Int)) ⊕ (Int × List Int × List Int × List Int × List Int × List Int)) :=
  let i25 := s.1; let a26 := s.2.1; let a27 := s.2.2.1; let a28 := s.2.2.2.1; let a29 := s.2.2.2.2.1; let a30 := s.2.2.2.2.2
  cond (decide (i25 < 64))
  ((getI a30 (0 : Int)).bind fun i31 =>
    (getI a30 (4 : Int)).bind fun i32 =>
    (getI a30 (7 : Int)).bind fun i33 =>
    (F_wlvref1_turn i32 6).bind fun i34 =>
    (F_wlvref1_turn i32 11).bind fun i35 =>
    (F_wlvref1_turn i32 25).bind fun i36 =>
    (getI a30 (5 : Int)).bind fun i37 =>
    (getI a30 (6 : Int)).bind fun i38 =>
    chk (decide (0 ≤ i25) && decide (i25 < (64 : Int)))
    ((getI a27 i25).bind fun i39 =>
      chk (decide (0 ≤ i25) && decide (i25 < (64 : Int)))
      ((getI a29 i25).bind fun i40 =>
        (F_wlvref1_turn i31 2).bind fun i41 =>
        (F_wlvref1_turn i31 13).bind fun i42 =>
        (F_wlvref1_turn i31 22).bind fun i43 =>
        (getI a30 (1 : Int)).bind fun i44 =>
        (getI a30 (2 : Int)).bind fun i45 =>
        (getI a30 (1 : Int)).bind fun i46 =>
        (getI a30 (2 : Int)).bind fun i47 =>
        (getI a30 (1 : Int)).bind fun i48 =>
        (getI a30 (2 : Int)).bind fun i49 =>
        (getI a30 (3 : Int)).bind fun i50 =>
        (getI a30 (5 : Int)).bind fun i51 =>
        (getI a30 (6 : Int)).bind fun i52 =>
        some (.inr ((IntKind.i64.wrap (i25 + 1)), a26, a27, a28, a29, [(IntKind.u32.wrap ((IntKind.u32.wrap ((IntKind.u32.wrap ((IntKind.u32.wrap ((IntKind.u32.wrap (i33 + (bits .xor .u32 (bits .xor .u32 i34 i35) i36))) + (bits .xor .u32 (bits .and .u32 i32 i37) (bits .and .u32 (bits .xor .u32 4294967295 i32) i38)))) + i39)) + i40)) + (IntKind.u32.wrap ((bits .xor .u32 (bits .xor .u32 i41 i42) i43) + (bits .xor .u32 (bits .xor .u32 (bits .and .u32 i31 i44) (bits .and .u32 i31 i45)) (bits .and .u32 i46 i47)))))), i31, i48, i49, (IntKind.u32.wrap (i50 + (IntKind.u32.wrap ((IntKind.u32.wrap ((IntKind.u32.wrap ((IntKind.u32.wrap (i33 + (bits .xor .u32 (bits .xor .u32 i34 i35) i36))) + (bits .xor .u32 (bits .and .u32 i32 i37) (bits .and .u32 (bits .xor .u32 4294967295 i32) i38)))) + i39)) + i40)))), i32, i51, i52])))))
  (some (.inl (.inr (a26, a28, a30))))
noncomputable def F_wlvref1_block_L24 (s : Int × List Int × List Int × List Int) : Option (((List Int) ⊕ (List Int × List Int)) ⊕ (Int × List Int × List Int × List Int)) :=
  let i56 := s.1; let a57 := s.2.1; let a58 := s.2.2.1; let a59 := s.2.2.2
  cond (decide (i56 < 8))
  (chk (decide (0 ≤ i56) && decide (i56 < (8 : Int)))
    ((getI a57 i56).bind fun i60 =>
      chk (decide (0 ≤ i56) && decide (i56 < (8 : Int)))
      ((getI a59 i56).bind fun i61 =>
        chk (decide (0 ≤ i56) && decide (i56 < (8 : Int)))
        (chk (decide (i56 < (8 : Int)))
          (some (.inr ((IntKind.i64.wrap (i56 + 1)), (a57.set (i56).toNat (IntKind.u32.wrap (i60 + i61))), a58, a59)))))))
  (some (.inl (.inr (a57, a58))))
noncomputable def F_wlvref1_block_J22 (s : List Int × List Int) : Option (List Int) :=
  let a62 := s.1; let a63 := s.2
  some a62
noncomputable def F_wlvref1_block_J13 (s : List Int × List Int × List Int) : Option (List Int) :=
  let a53 := s.1; let a54 := s.2.1; let a55 := s.2.2
  joinC (S := List Int × List Int) (R := List Int)
  (loopC (S := Int × List Int × List Int × List Int) (R := (List Int) ⊕ (List Int × List Int)) (F_wlvref1_block_L24) (0, a53, a54, a55))
  (F_wlvref1_block_J22)
noncomputable def F_wlvref1_block_J2 (s : List Int × List Int × List Int × List Int) : Option (List Int) :=
  let a21 := s.1; let a22 := s.2.1; let a23 := s.2.2.1; let a24 := s.2.2.2
  joinC (S := List Int × List Int × List Int) (R := List Int)
  (loopC (S := Int × List Int × List Int × List Int × List Int × List Int) (R := (List Int) ⊕ (List Int × List Int × List Int)) (F_wlvref1_block_L15) (0, a21, a22, a23, a24, a21))
  (F_wlvref1_block_J13)
noncomputable def F_wlvref1_block (a1 : List Int) (a2 : List Int) (l3 : List Int) : Option (List Int) :=
  joinC (S := List Int × List Int × List Int × List Int) (R := List Int)
  (loopC (S := Int × List Int × List Int × List Int × List Int) (R := (List Int) ⊕ (List Int × List Int × List Int × List Int)) (F_wlvref1_block_L4 l3) (0, a1, a2, (List.replicate 8 0), (List.replicate 64 0)))
  (F_wlvref1_block_J2)
def F_wlvref1_block_sig : Sig := ⟨[.v true [.d (.arr 8 (.int .u32))], .v true [.d (.arr 64 (.int .u32))], .v false [.d (.sl (.int .u8))]], [(true, [.d (.arr 8 (.int .u32))])]⟩
def F_wlvref1_block_ann : List (Nat × Ann) := [(2, ⟨3, [], [(3, [.d (.arr 8 (.int .u32))]), (4, [.d (.arr 64 (.int .u32))]), (6, [.d (.arr 8 (.int .u32))]), (7, [.d (.arr 64 (.int .u32))])], [8, 9, 10, 18, 19, 20, 21, 22, 23, 24, 25, 26, 27, 28, 29, 30, 31, 32, 33, 34, 35, 36, 37, 38, 39, 40, 41, 42, 43, 44, 45, 46, 47, 48, 49, 50, 51, 52, 53, 54, 55, 56, 57, 58, 59, 60, 61, 62, 63, 64, 65, 66, 67, 68, 69, 70, 71, 72, 73, 74, 75, 76, 77, 78, 79, 80, 81, 82, 83, 84, 85, 86, 87, 88, 89, 90, 91, 92, 93, 94, 95], []⟩), (4, ⟨5, [(8, false, [.d (.int .i64)])], [(3, [.d (.arr 8 (.int .u32))]), (4, [.d (.arr 64 (.int .u32))]), (6, [.d (.arr 8 (.int .u32))]), (7, [.d (.arr 64 (.int .u32))])], [9, 10, 18, 19, 20, 21, 22, 23, 24, 25, 26, 27, 28, 29, 30, 31, 32, 33, 34, 35, 36, 37, 38, 39, 40, 41, 42, 43, 44, 45, 46, 47, 48, 49, 50, 51, 52, 53, 54, 55, 56, 57, 58, 59, 60, 61, 62, 63, 64, 65, 66, 67, 68, 69, 70, 71, 72, 73, 74, 75, 76, 77, 78, 79, 80, 81, 82, 83, 84, 85, 86, 87, 88, 89, 90, 91, 92, 93, 94, 95], []⟩), (13, ⟨14, [], [(3, [.d (.arr 8 (.int .u32))]), (6, [.d (.arr 8 (.int .u32))]), (11, [.d (.arr 8 (.int .u32))])], [12, 13, 14, 15, 16, 97, 98, 99, 100, 101, 102, 103, 104, 105, 106, 107, 108, 109, 110, 111, 112, 113, 114, 115, 116, 117, 118, 119, 120, 121, 122, 123, 124, 125, 126, 127, 128, 129, 130, 131, 132, 133, 134, 135, 136, 137, 138, 139, 140, 141, 142, 143, 144, 145, 146, 147, 148, 149, 150, 151, 152, 153, 154, 155, 156, 157, 158, 159, 160, 161, 162, 163, 164, 165, 166, 167, 168, 169, 170, 171, 172, 173, 174, 175, 176], []⟩), (15, ⟨16, [(12, false, [.d (.int .i64)])], [(3, [.d (.arr 8 (.int .u32))]), (4, [.d (.arr 64 (.int .u32))]), (6, [.d (.arr 8 (.int .u32))]), (7, [.d (.arr 64 (.int .u32))]), (11, [.d (.arr 8 (.int .u32))])], [13, 14, 15, 16, 97, 98, 99, 100, 101, 102, 103, 104, 105, 106, 107, 108, 109, 110, 111, 112, 113, 114, 115, 116, 117, 118, 119, 120, 121, 122, 123, 124, 125, 126, 127, 128, 129, 130, 131, 132, 133, 134, 135, 136, 137, 138, 139, 140, 141, 142, 143, 144, 145, 146, 147, 148, 149, 150, 151, 152, 153, 154, 155, 156, 157, 158, 159, 160, 161, 162, 163, 164, 165, 166, 167, 168, 169, 170, 171, 172, 173, 174, 175, 176], []⟩), (22, ⟨23, [], [(3, [.d (.arr 8 (.int .u32))]), (6, [.d (.arr 8 (.int .u32))])], [17, 177, 178, 179, 180, 181, 182, 183, 184, 185, 186, 187, 188], []⟩), (24, ⟨25, [(17, false, [.d (.int .i64)])], [(3, [.d (.arr 8 (.int .u32))]), (6, [.d (.arr 8 (.int .u32))]), (11, [.d (.arr 8 (.int .u32))])], [177, 178, 179, 180, 181, 182, 183, 184, 185, 186, 187, 188], []⟩)]
noncomputable def F_wlvref1_block_env : Env := ⟨Try.prog, [(30, ⟨F_wlvref1_turn_sig, ⟨F_wlvref1_turn⟩⟩)], []⟩
set_option maxRecDepth 100000 in
theorem F_wlvref1_block_text : pvFn F_wlvref1_block_env F_wlvref1_block_ann Try.f21 F_wlvref1_block_sig = F_wlvref1_block := by kernel_rfl
noncomputable def F_wlvref1_One_L6 (s : List Int × Int × List Int × List Int) : Option (((List Int) ⊕ (List Int × List Int × List Int)) ⊕ (List Int × Int × List Int × List Int)) :=
  let l3 := s.1; let i4 := s.2.1; let a5 := s.2.2.1; let a6 := s.2.2.2
  cond (decide (i4 < 64))
  ((getI l3 i4).bind fun i7 =>
    (F_wlvref1_root i7 3).bind fun i8 =>
    chk (decide (0 ≤ i4) && decide (i4 < (64 : Int)))
    (chk (decide (i4 < (64 : Int)))
      (some (.inr (l3, (IntKind.i64.wrap (i4 + 1)), (a5.set (i4).toNat i8), a6)))))
  (some (.inl (.inr (l3, a5, a6))))
noncomputable def F_wlvref1_One_L12 (s : List Int × Int × List Int × List Int) : Option (((List Int) ⊕ (List Int × List Int)) ⊕ (List Int × Int × List Int × List Int)) :=
  let l12 := s.1; let i13 := s.2.1; let a14 := s.2.2.1; let a15 := s.2.2.2
  cond (decide (i13 < 8))
  ((getI l12 i13).bind fun i16 =>
    (F_wlvref1_root i16 2).bind fun i17 =>
    chk (decide (0 ≤ i13) && decide (i13 < (8 : Int)))
    (chk (decide (i13 < (8 : Int)))
      (some (.inr (l12, (IntKind.i64.wrap (i13 + 1)), a14, (a15.set (i13).toNat i17))))))
  (some (.inl (.inr (a14, a15))))
noncomputable def F_wlvref1_One_L18 (s : List Int × List Int × List Int) : Option (((List Int) ⊕ (List Int × List Int × List Int)) ⊕ (List Int × List Int × List Int)) :=
  let l20 := s.1; let a21 := s.2.1; let a22 := s.2.2
  cond ((Int.tmod (l20.length : Int) 64) != 56)
  (chk (decide ((l20.length + ([0] : List Int).length) * 1 ≤ 140737488355328) && decide (l20.length + ([0] : List Int).length ≤ maxLen))
    (some (.inr ((l20 ++ ([0] : List Int)), a21, a22))))
  (some (.inl (.inr (l20, a21, a22))))
noncomputable def F_wlvref1_One_L23 (l1 : List Int) (s : List Int × Int × List Int × List Int) : Option (((List Int) ⊕ (List Int × List Int × List Int)) ⊕ (List Int × Int × List Int × List Int)) :=
  let l26 := s.1; let i27 := s.2.1; let a28 := s.2.2.1; let a29 := s.2.2.2
  cond (decide (i27 ≥ 0))
  (chk (decide (0 ≤ (IntKind.u64.wrap (IntKind.i64.wrap (8 * i27)))))
    (chk (decide ((l26.length + ([(IntKind.u8.wrap (Int.fdiv (IntKind.u64.wrap ((IntKind.u64.wrap (l1.length : Int)) * 8)) (2 ^ (min ((IntKind.u64.wrap (IntKind.i64.wrap (8 * i27)))).toNat 64))))] : List Int).length) * 1 ≤ 140737488355328) && decide (l26.length + ([(IntKind.u8.wrap (Int.fdiv (IntKind.u64.wrap ((IntKind.u64.wrap (l1.length : Int)) * 8)) (2 ^ (min ((IntKind.u64.wrap (IntKind.i64.wrap (8 * i27)))).toNat 64))))] : List Int).length ≤ maxLen))
      (some (.inr ((l26 ++ ([(IntKind.u8.wrap (Int.fdiv (IntKind.u64.wrap ((IntKind.u64.wrap (l1.length : Int)) * 8)) (2 ^ (min ((IntKind.u64.wrap (IntKind.i64.wrap (8 * i27)))).toNat 64))))] : List Int)), (IntKind.i64.wrap (i27 - 1)), a28, a29)))))
  (some (.inl (.inr (l26, a28, a29))))
noncomputable def F_wlvref1_One_L29 (s : List Int × Int × List Int × List Int) : Option (((List Int) ⊕ (List Int)) ⊕ (List Int × Int × List Int × List Int)) :=
  let l33 := s.1; let i34 := s.2.1; let a35 := s.2.2.1; let a36 := s.2.2.2
  cond (decide (i34 < (l33.length : Int)))
  ((cutI l33 i34 (IntKind.i64.wrap (i34 + 64))).bind fun l37 =>
    (F_wlvref1_block a36 a35 l37).bind fun a38 =>
    some (.inr (l33, (IntKind.i64.wrap (i34 + 64)), a35, a38)))
  (some (.inl (.inr a36)))
noncomputable def F_wlvref1_One_L36 (s : List Int × Int × List Int) : Option (((List Int) ⊕ (List Int)) ⊕ (List Int × Int × List Int)) :=
  let l40 := s.1; let i41 := s.2.1; let a42 := s.2.2
  cond (decide (i41 < 8))
  (chk (decide (0 ≤ i41) && decide (i41 < (8 : Int)))
    ((getI a42 i41).bind fun i43 =>
      chk (decide (0 ≤ i41) && decide (i41 < (8 : Int)))
      ((getI a42 i41).bind fun i44 =>
        chk (decide (0 ≤ i41) && decide (i41 < (8 : Int)))
        ((getI a42 i41).bind fun i45 =>
          chk (decide (0 ≤ i41) && decide (i41 < (8 : Int)))
          ((getI a42 i41).bind fun i46 =>
            chk (decide ((l40.length + ([(IntKind.u8.wrap (Int.fdiv i43 (2 ^ 24))), (IntKind.u8.wrap (Int.fdiv i44 (2 ^ 16))), (IntKind.u8.wrap (Int.fdiv i45 (2 ^ 8))), (IntKind.u8.wrap i46)] : List Int).length) * 1 ≤ 140737488355328) && decide (l40.length + ([(IntKind.u8.wrap (Int.fdiv i43 (2 ^ 24))), (IntKind.u8.wrap (Int.fdiv i44 (2 ^ 16))), (IntKind.u8.wrap (Int.fdiv i45 (2 ^ 8))), (IntKind.u8.wrap i46)] : List Int).length ≤ maxLen))
            (some (.inr ((l40 ++ ([(IntKind.u8.wrap (Int.fdiv i43 (2 ^ 24))), (IntKind.u8.wrap (Int.fdiv i44 (2 ^ 16))), (IntKind.u8.wrap (Int.fdiv i45 (2 ^ 8))), (IntKind.u8.wrap i46)] : List Int)), (IntKind.i64.wrap (i41 + 1)), a42))))))))
  (some (.inl (.inr l40)))
noncomputable def F_wlvref1_One_J34 (s : List Int) : Option (List Int) :=
  let l47 := s
  some l47
noncomputable def F_wlvref1_One_J27 (s : List Int) : Option (List Int) :=
  let a39 := s
  joinC (S := List Int) (R := List Int)
  (loopC (S := List Int × Int × List Int) (R := (List Int) ⊕ (List Int)) (F_wlvref1_One_L36) (([] : List Int), 0, a39))
  (F_wlvref1_One_J34)
noncomputable def F_wlvref1_One_J21 (s : List Int × List Int × List Int) : Option (List Int) :=
  let l30 := s.1; let a31 := s.2.1; let a32 := s.2.2
  joinC (S := List Int) (R := List Int)
  (loopC (S := List Int × Int × List Int × List Int) (R := (List Int) ⊕ (List Int)) (F_wlvref1_One_L29) (l30, 0, a31, a32))
  (F_wlvref1_One_J27)
noncomputable def F_wlvref1_One_J17 (l1 : List Int) (s : List Int × List Int × List Int) : Option (List Int) :=
  let l23 := s.1; let a24 := s.2.1; let a25 := s.2.2
  joinC (S := List Int × List Int × List Int) (R := List Int)
  (loopC (S := List Int × Int × List Int × List Int) (R := (List Int) ⊕ (List Int × List Int × List Int)) (F_wlvref1_One_L23 l1) (l23, 7, a24, a25))
  (F_wlvref1_One_J21)
noncomputable def F_wlvref1_One_J10 (l1 : List Int) (s : List Int × List Int) : Option (List Int) :=
  let a18 := s.1; let a19 := s.2
  chk (decide ((([] : List Int).length + l1.length) * 1 ≤ 140737488355328) && decide (([] : List Int).length + l1.length ≤ maxLen))
  (chk (decide (((([] : List Int) ++ l1).length + ([128] : List Int).length) * 1 ≤ 140737488355328) && decide ((([] : List Int) ++ l1).length + ([128] : List Int).length ≤ maxLen))
    (joinC (S := List Int × List Int × List Int) (R := List Int)
      (loopC (S := List Int × List Int × List Int) (R := (List Int) ⊕ (List Int × List Int × List Int)) (F_wlvref1_One_L18) (((([] : List Int) ++ l1) ++ ([128] : List Int)), a18, a19))
      (F_wlvref1_One_J17 l1)))
noncomputable def F_wlvref1_One_J4 (l1 : List Int) (s : List Int × List Int × List Int) : Option (List Int) :=
  let l9 := s.1; let a10 := s.2.1; let a11 := s.2.2
  joinC (S := List Int × List Int) (R := List Int)
  (loopC (S := List Int × Int × List Int × List Int) (R := (List Int) ⊕ (List Int × List Int)) (F_wlvref1_One_L12) (l9, 0, a10, a11))
  (F_wlvref1_One_J10 l1)
noncomputable def F_wlvref1_One (l1 : List Int) : Option (List Int) :=
  (F_wlvref1_primes 64).bind fun l2 =>
  joinC (S := List Int × List Int × List Int) (R := List Int)
  (loopC (S := List Int × Int × List Int × List Int) (R := (List Int) ⊕ (List Int × List Int × List Int)) (F_wlvref1_One_L6) (l2, 0, (List.replicate 64 0), (List.replicate 8 0)))
  (F_wlvref1_One_J4 l1)
def F_wlvref1_One_sig : Sig := ⟨[.v false [.d (.sl (.int .u8))]], [(false, [.own 5 (.int .u8)])]⟩
def F_wlvref1_One_ann : List (Nat × Ann) := [(4, ⟨5, [(3, false, [.own 3 (.int .i64)])], [(4, [.d (.arr 64 (.int .u32))]), (5, [.d (.arr 8 (.int .u32))])], [6, 14, 15, 16, 17, 18, 19, 20, 21, 22, 23, 24], []⟩), (6, ⟨7, [(3, false, [.own 3 (.int .i64)]), (6, false, [.d (.int .i64)])], [(4, [.d (.arr 64 (.int .u32))]), (5, [.d (.arr 8 (.int .u32))])], [14, 15, 16, 17, 18, 19, 20, 21, 22, 23, 24], []⟩), (10, ⟨11, [], [(4, [.d (.arr 64 (.int .u32))]), (5, [.d (.arr 8 (.int .u32))])], [7, 25, 26, 27, 28, 29, 30, 31, 32, 33, 34, 35], []⟩), (12, ⟨13, [(3, false, [.own 3 (.int .i64)]), (7, false, [.d (.int .i64)])], [(4, [.d (.arr 64 (.int .u32))]), (5, [.d (.arr 8 (.int .u32))])], [25, 26, 27, 28, 29, 30, 31, 32, 33, 34, 35], []⟩), (17, ⟨18, [(8, false, [.own 5 (.int .u8)])], [(4, [.d (.arr 64 (.int .u32))]), (5, [.d (.arr 8 (.int .u32))])], [41, 42, 43, 44, 45, 46, 47], []⟩), (18, ⟨19, [(8, false, [.own 5 (.int .u8)])], [(4, [.d (.arr 64 (.int .u32))]), (5, [.d (.arr 8 (.int .u32))])], [41, 42, 43, 44, 45, 46, 47], []⟩), (21, ⟨22, [(8, false, [.own 5 (.int .u8)])], [(4, [.d (.arr 64 (.int .u32))]), (5, [.d (.arr 8 (.int .u32))])], [9, 48, 49, 50, 51, 52, 53, 54, 55, 56, 57, 58, 59, 60, 61, 62, 63], []⟩), (23, ⟨24, [(8, false, [.own 5 (.int .u8)]), (9, false, [.d (.int .i64)])], [(4, [.d (.arr 64 (.int .u32))]), (5, [.d (.arr 8 (.int .u32))])], [48, 49, 50, 51, 52, 53, 54, 55, 56, 57, 58, 59, 60, 61, 62, 63], []⟩), (27, ⟨28, [], [(5, [.d (.arr 8 (.int .u32))])], [10, 64, 65, 66, 67, 68, 69, 70, 71, 72, 73, 74, 75, 76, 77], []⟩), (29, ⟨30, [(8, false, [.own 5 (.int .u8)]), (10, false, [.d (.int .i64)])], [(4, [.d (.arr 64 (.int .u32))]), (5, [.d (.arr 8 (.int .u32))])], [64, 65, 66, 67, 68, 69, 70, 71, 72, 73, 74, 75, 76, 77], []⟩), (34, ⟨35, [(11, false, [.own 5 (.int .u8)])], [], [12, 78, 79, 80, 81, 82, 83, 84, 85, 86, 87, 88, 89, 90, 91, 92, 93, 94, 95, 96, 97, 98, 99, 100, 101, 102, 103], []⟩), (36, ⟨37, [(11, false, [.own 5 (.int .u8)]), (12, false, [.d (.int .i64)])], [(5, [.d (.arr 8 (.int .u32))])], [78, 79, 80, 81, 82, 83, 84, 85, 86, 87, 88, 89, 90, 91, 92, 93, 94, 95, 96, 97, 98, 99, 100, 101, 102, 103], []⟩)]
noncomputable def F_wlvref1_One_env : Env := ⟨Try.prog, [(19, ⟨F_wlvref1_primes_sig, ⟨F_wlvref1_primes⟩⟩), (20, ⟨F_wlvref1_root_sig, ⟨F_wlvref1_root⟩⟩), (21, ⟨F_wlvref1_block_sig, ⟨F_wlvref1_block⟩⟩)], []⟩
set_option maxRecDepth 100000 in
theorem F_wlvref1_One_text : pvFn F_wlvref1_One_env F_wlvref1_One_ann Try.f11 F_wlvref1_One_sig = F_wlvref1_One := by kernel_rfl
noncomputable def F_wlvref1_Salted (l1 : List Int) (l2 : List Int) : Option (List Int) :=
  chk (decide ((([] : List Int).length + l1.length) * 1 ≤ 140737488355328) && decide (([] : List Int).length + l1.length ≤ maxLen))
  (chk (decide (((([] : List Int) ++ l1).length + ([0] : List Int).length) * 1 ≤ 140737488355328) && decide ((([] : List Int) ++ l1).length + ([0] : List Int).length ≤ maxLen))
    (chk (decide ((((([] : List Int) ++ l1) ++ ([0] : List Int)).length + l2.length) * 1 ≤ 140737488355328) && decide (((([] : List Int) ++ l1) ++ ([0] : List Int)).length + l2.length ≤ maxLen))
      ((F_wlvref1_One (((([] : List Int) ++ l1) ++ ([0] : List Int)) ++ l2)).bind fun l3 =>
        some l3)))
def F_wlvref1_Salted_sig : Sig := ⟨[.v false [.d (.sl (.int .u8))], .v false [.d (.sl (.int .u8))]], [(false, [.own 5 (.int .u8)])]⟩
def F_wlvref1_Salted_ann : List (Nat × Ann) := []
noncomputable def F_wlvref1_Salted_env : Env := ⟨Try.prog, [(11, ⟨F_wlvref1_One_sig, ⟨F_wlvref1_One⟩⟩)], []⟩
set_option maxRecDepth 100000 in
theorem F_wlvref1_Salted_text : pvFn F_wlvref1_Salted_env F_wlvref1_Salted_ann Try.f14 F_wlvref1_Salted_sig = F_wlvref1_Salted := by kernel_rfl
noncomputable def F_wlvref_Bytes (l1 : List Int) (l2 : List Int) : Option (Bool) :=
  some (l1 == l2)
def F_wlvref_Bytes_sig : Sig := ⟨[.v false [.d (.sl (.int .u8))], .v false [.d (.sl (.int .u8))]], [(false, [.d .bool])]⟩
def F_wlvref_Bytes_ann : List (Nat × Ann) := []
noncomputable def F_wlvref_Bytes_env : Env := ⟨Try.prog, [], []⟩
set_option maxRecDepth 100000 in
theorem F_wlvref_Bytes_text : pvFn F_wlvref_Bytes_env F_wlvref_Bytes_ann Try.f10 F_wlvref_Bytes_sig = F_wlvref_Bytes := by kernel_rfl
noncomputable def F_wlvlaw3_first : Option (Bool) :=
  (F_sha_One ([] : List Int)).bind fun l1 =>
  cond ((l1.length : Int) == 32)
  ((getI l1 0).bind fun i2 =>
    cond (i2 == 227)
    ((getI l1 1).bind fun i3 =>
      cond (i3 == 176)
      ((getI l1 2).bind fun i4 =>
        cond (i4 == 196)
        ((getI l1 3).bind fun i5 =>
          some (i5 == 66))
        (some false))
      (some false))
    (some false))
  (some false)
def F_wlvlaw3_first_sig : Sig := ⟨[], [(false, [.d .bool])]⟩
def F_wlvlaw3_first_ann : List (Nat × Ann) := []
noncomputable def F_wlvlaw3_first_env : Env := ⟨Try.prog, [(8, ⟨F_sha_One_sig, ⟨F_sha_One⟩⟩)], []⟩
set_option maxRecDepth 100000 in
theorem F_wlvlaw3_first_text : pvFn F_wlvlaw3_first_env F_wlvlaw3_first_ann Try.f7 F_wlvlaw3_first_sig = F_wlvlaw3_first := by kernel_rfl
noncomputable def F_wlvref_Copy (l1 : List Int) : Option (List Int) :=
  chk (decide ((([] : List Int).length + l1.length) * 1 ≤ 140737488355328) && decide (([] : List Int).length + l1.length ≤ maxLen))
  (some (([] : List Int) ++ l1))
def F_wlvref_Copy_sig : Sig := ⟨[.v false [.d (.sl (.int .u8))]], [(false, [.own 5 (.int .u8)])]⟩
def F_wlvref_Copy_ann : List (Nat × Ann) := []
noncomputable def F_wlvref_Copy_env : Env := ⟨Try.prog, [], []⟩
set_option maxRecDepth 100000 in
theorem F_wlvref_Copy_text : pvFn F_wlvref_Copy_env F_wlvref_Copy_ann Try.f12 F_wlvref_Copy_sig = F_wlvref_Copy := by kernel_rfl
noncomputable def F_wlvlaw3_ShaApart (l1 : List Int) (l2 : List Int) (i3 : Int) (i4 : Int) : Option (Bool) :=
  (F_wlvlaw3_first).bind fun b5 =>
  cond (!b5)
  (some false)
  (cond (((decide ((l1.length : Int) > 500)) || (decide ((l2.length : Int) > 500))) || (decide (i3 < 0)))
    ((F_wlvlaw3_first).bind fun b6 =>
      some b6)
    ((F_sha_One l1).bind fun l7 =>
      (F_sha_One l2).bind fun l8 =>
      (F_sha_Equal l7 l8).bind fun b9 =>
      (F_wlvref1_One l1).bind fun l10 =>
      (F_wlvref1_One l2).bind fun l11 =>
      (F_wlvref_Bytes l10 l11).bind fun b12 =>
      cond ((!(bEq b9 b12)) || ((l7.length : Int) != 32))
      (some false)
      ((F_wlvref_Copy l7).bind fun l13 =>
        chk (Nat.blt 0 (List.length l13))
        (chk (decide (0 ≤ (Int.tmod i3 32)) && decide ((Int.tmod i3 32) < ((List.length l13) : Int)))
          ((getI l13 (Int.tmod i3 32)).bind fun i14 =>
            chk (decide (0 ≤ (Int.tmod i3 32)) && decide ((Int.tmod i3 32) < ((List.length l13) : Int)))
            (chk (decide ((Int.tmod i3 32) < ((List.length l13) : Int)))
              ((F_wlvlaw3_first).bind fun b15 =>
                cond b15
                (chk ((Nat.ble (List.length l13) (List.length (l13.set ((Int.tmod i3 32)).toNat (bits .xor .u8 i14 i4))) && true))
                  ((F_sha_Equal l7 (List.take (List.length l13) (l13.set ((Int.tmod i3 32)).toNat (bits .xor .u8 i14 i4)))).bind fun b16 =>
                    cond (bEq b16 (i4 == 0))
                    ((F_sha_Equal l7 ([] : List Int)).bind fun b17 =>
                      cond (!b17)
                      ((F_sha_Equal ([] : List Int) ([] : List Int)).bind fun b18 =>
                        cond b18
                        ((cutI l7 0 10).bind fun l19 =>
                          (F_sha_Equal l19 l7).bind fun b20 =>
                          some (!b20))
                        (some false))
                      (some false))
                    (some false)))
                (some false))))))))
def F_wlvlaw3_ShaApart_sig : Sig := ⟨[.v false [.d (.sl (.int .u8))], .v false [.d (.sl (.int .u8))], .v false [.d (.int .i64)], .v false [.d (.int .u8)]], [(false, [.d .bool])]⟩
def F_wlvlaw3_ShaApart_ann : List (Nat × Ann) := []
noncomputable def F_wlvlaw3_ShaApart_env : Env := ⟨Try.prog, [(7, ⟨F_wlvlaw3_first_sig, ⟨F_wlvlaw3_first⟩⟩), (8, ⟨F_sha_One_sig, ⟨F_sha_One⟩⟩), (9, ⟨F_sha_Equal_sig, ⟨F_sha_Equal⟩⟩), (10, ⟨F_wlvref_Bytes_sig, ⟨F_wlvref_Bytes⟩⟩), (11, ⟨F_wlvref1_One_sig, ⟨F_wlvref1_One⟩⟩), (12, ⟨F_wlvref_Copy_sig, ⟨F_wlvref_Copy⟩⟩)], [46]⟩
set_option maxRecDepth 100000 in
theorem F_wlvlaw3_ShaApart_text : pvFn F_wlvlaw3_ShaApart_env F_wlvlaw3_ShaApart_ann Try.f3 F_wlvlaw3_ShaApart_sig = F_wlvlaw3_ShaApart := by kernel_rfl
noncomputable def F_wlvlaw3_ShaBlocks_L10 (i1 : Int) (i2 : Int) (s : Int × List Int) : Option (((Bool) ⊕ (List Int)) ⊕ (Int × List Int)) :=
  let i5 := s.1; let l6 := s.2
  cond (decide (i5 < i1))
  (chk (decide (0 ≤ i5) && decide (i5 < ((List.length (List.replicate (i1).toNat (0 : Int))) : Int)))
    (chk (decide (i5 < (l6.length : Int)))
      (some (.inr ((IntKind.i64.wrap (i5 + 1)), (l6.set (i5).toNat i2))))))
  (some (.inl (.inr l6)))
noncomputable def F_wlvlaw3_ShaBlocks_J8 (i1 : Int) (i2 : Int) (s : List Int) : Option (Bool) :=
  let l7 := s
  (F_wlvlaw3_first).bind fun b8 =>
  cond b8
  (chk ((Nat.ble (List.length (List.replicate (i1).toNat (0 : Int))) (List.length l7) && true))
    ((F_sha_One (List.take (List.length (List.replicate (i1).toNat (0 : Int))) l7)).bind fun l9 =>
      chk ((Nat.ble (List.length (List.replicate (i1).toNat (0 : Int))) (List.length l7) && true))
      ((F_wlvref1_One (List.take (List.length (List.replicate (i1).toNat (0 : Int))) l7)).bind fun l10 =>
        (F_wlvref_Bytes l9 l10).bind fun b11 =>
        cond b11
        (chk ((Nat.ble (List.length (List.replicate (i1).toNat (0 : Int))) (List.length l7) && true))
          (chk (Nat.blt 0 ([i2] : List Int).length && decide (((List.take (List.length (List.replicate (i1).toNat (0 : Int))) l7).length + ([i2] : List Int).length) * 1 ≤ 140737488355328) && decide ((List.take (List.length (List.replicate (i1).toNat (0 : Int))) l7).length + ([i2] : List Int).length ≤ maxLen))
            ((F_sha_One ((List.take (List.length (List.replicate (i1).toNat (0 : Int))) l7) ++ ([i2] : List Int))).bind fun l12 =>
              chk ((Nat.ble (List.length (List.replicate (i1).toNat (0 : Int))) (List.length l7) && true))
              (chk (Nat.blt 0 ([i2] : List Int).length && decide (((List.take (List.length (List.replicate (i1).toNat (0 : Int))) l7).length + ([i2] : List Int).length) * 1 ≤ 140737488355328) && decide ((List.take (List.length (List.replicate (i1).toNat (0 : Int))) l7).length + ([i2] : List Int).length ≤ maxLen))
                ((F_wlvref1_One ((List.take (List.length (List.replicate (i1).toNat (0 : Int))) l7) ++ ([i2] : List Int))).bind fun l13 =>
                  (F_wlvref_Bytes l12 l13).bind fun b14 =>
                  cond b14
                  (chk ((Nat.ble (List.length (List.replicate (i1).toNat (0 : Int))) (List.length l7) && true))
                    ((F_sha_Salted ([] : List Int) (List.take (List.length (List.replicate (i1).toNat (0 : Int))) l7)).bind fun l15 =>
                      chk (Nat.ble (List.length (List.replicate (i1).toNat (0 : Int))) (List.length l7))
                      (chk (decide ((([0] : List Int).length + (List.take (List.length (List.replicate (i1).toNat (0 : Int))) l7).length) * 1 ≤ 140737488355328) && decide (([0] : List Int).length + (List.take (List.length (List.replicate (i1).toNat (0 : Int))) l7).length ≤ maxLen))
                        ((F_sha_One (([0] : List Int) ++ (List.take (List.length (List.replicate (i1).toNat (0 : Int))) l7))).bind fun l16 =>
                          (F_wlvref_Bytes l15 l16).bind fun b17 =>
                          some b17))))
                  (some false))))))
        (some false))))
  (some false)
noncomputable def F_wlvlaw3_ShaBlocks (i1 : Int) (i2 : Int) : Option (Bool) :=
  (F_wlvlaw3_first).bind fun b3 =>
  cond (!b3)
  (some false)
  (cond ((decide (i1 < 0)) || (decide (i1 > 300)))
    ((F_wlvlaw3_first).bind fun b4 =>
      some b4)
    (chk (decide (0 ≤ i1) && decide (i1 ≤ i1) && decide (i1 * 1 ≤ 140737488355328) && decide (i1 ≤ maxLen))
      (joinC (S := List Int) (R := Bool)
        (loopC (S := Int × List Int) (R := (Bool) ⊕ (List Int)) (F_wlvlaw3_ShaBlocks_L10 i1 i2) (0, (List.replicate (i1).toNat (0 : Int))))
        (F_wlvlaw3_ShaBlocks_J8 i1 i2))))
def F_wlvlaw3_ShaBlocks_sig : Sig := ⟨[.v false [.d (.int .i64)], .v false [.d (.int .u8)]], [(false, [.d .bool])]⟩
def F_wlvlaw3_ShaBlocks_ann : List (Nat × Ann) := [(8, ⟨9, [], [(17, [.row (.int .u8)])], [6, 18, 19, 20, 21, 22, 23, 24, 25, 26], []⟩), (10, ⟨11, [(6, false, [.d (.int .i64)])], [(17, [.row (.int .u8)])], [18, 19, 20, 21, 22, 23, 24, 25, 26], []⟩)]
noncomputable def F_wlvlaw3_ShaBlocks_env : Env := ⟨Try.prog, [(7, ⟨F_wlvlaw3_first_sig, ⟨F_wlvlaw3_first⟩⟩), (8, ⟨F_sha_One_sig, ⟨F_sha_One⟩⟩), (10, ⟨F_wlvref_Bytes_sig, ⟨F_wlvref_Bytes⟩⟩), (11, ⟨F_wlvref1_One_sig, ⟨F_wlvref1_One⟩⟩), (13, ⟨F_sha_Salted_sig, ⟨F_sha_Salted⟩⟩)], [17]⟩
set_option maxRecDepth 100000 in
theorem F_wlvlaw3_ShaBlocks_text : pvFn F_wlvlaw3_ShaBlocks_env F_wlvlaw3_ShaBlocks_ann Try.f4 F_wlvlaw3_ShaBlocks_sig = F_wlvlaw3_ShaBlocks := by kernel_rfl
noncomputable def F_wlvlaw3_ShaTells (l1 : List Int) (l2 : List Int) (l3 : List Int) : Option (Bool) :=
  (F_wlvlaw3_first).bind fun b4 =>
  cond (!b4)
  (some false)
  (cond (((decide ((l1.length : Int) > 2000)) || (decide ((l2.length : Int) > 2000))) || (decide ((l3.length : Int) > 2000)))
    ((F_wlvlaw3_first).bind fun b5 =>
      some b5)
    ((F_wlvlaw3_first).bind fun b6 =>
      cond b6
      ((F_sha_One l1).bind fun l7 =>
        (F_wlvref1_One l1).bind fun l8 =>
        (F_wlvref_Bytes l7 l8).bind fun b9 =>
        cond b9
        ((F_sha_Salted l2 l1).bind fun l10 =>
          (F_wlvref1_Salted l2 l1).bind fun l11 =>
          (F_wlvref_Bytes l10 l11).bind fun b12 =>
          cond b12
          ((F_sha_Equal l1 l3).bind fun b13 =>
            (F_wlvref_Bytes l1 l3).bind fun b14 =>
            some (bEq b13 b14))
          (some false))
        (some false))
      (some false)))
def F_wlvlaw3_ShaTells_sig : Sig := ⟨[.v false [.d (.sl (.int .u8))], .v false [.d (.sl (.int .u8))], .v false [.d (.sl (.int .u8))]], [(false, [.d .bool])]⟩
def F_wlvlaw3_ShaTells_ann : List (Nat × Ann) := []
noncomputable def F_wlvlaw3_ShaTells_env : Env := ⟨Try.prog, [(7, ⟨F_wlvlaw3_first_sig, ⟨F_wlvlaw3_first⟩⟩), (8, ⟨F_sha_One_sig, ⟨F_sha_One⟩⟩), (9, ⟨F_sha_Equal_sig, ⟨F_sha_Equal⟩⟩), (10, ⟨F_wlvref_Bytes_sig, ⟨F_wlvref_Bytes⟩⟩), (11, ⟨F_wlvref1_One_sig, ⟨F_wlvref1_One⟩⟩), (13, ⟨F_sha_Salted_sig, ⟨F_sha_Salted⟩⟩), (14, ⟨F_wlvref1_Salted_sig, ⟨F_wlvref1_Salted⟩⟩)], []⟩
set_option maxRecDepth 100000 in
theorem F_wlvlaw3_ShaTells_text : pvFn F_wlvlaw3_ShaTells_env F_wlvlaw3_ShaTells_ann Try.f5 F_wlvlaw3_ShaTells_sig = F_wlvlaw3_ShaTells := by kernel_rfl
noncomputable def F_wlvlaw3_ShaOwn (l1 : List Int) (l2 : List Int) : Option (Bool) :=
  (F_wlvlaw3_first).bind fun b3 =>
  cond (!b3)
  (some false)
  (cond ((decide ((l1.length : Int) > 2000)) || (decide ((l2.length : Int) > 2000)))
    ((F_wlvlaw3_first).bind fun b4 =>
      some b4)
    ((F_wlvref_Copy l1).bind fun l5 =>
      (F_sha_One l5).bind fun l6 =>
      (F_sha_One l5).bind fun l7 =>
      chk (Nat.blt 0 (List.length l7))
      (cond ((l6.length : Int) != 32)
        (some false)
        (cond (((List.length l7) : Int) != 32)
          (some false)
          (chk ((Nat.ble (List.length l7) (List.length l7) && true))
            ((F_sha_Equal l6 (List.take (List.length l7) l7)).bind fun b8 =>
              cond (!b8)
              (some false)
              (chk (decide (0 ≤ (0 : Int)) && decide ((0 : Int) < ((List.length l7) : Int)))
                ((getI l7 (0 : Int)).bind fun i9 =>
                  chk (decide (0 ≤ (0 : Int)) && decide ((0 : Int) < ((List.length l7) : Int)))
                  (chk (decide ((0 : Int) < ((List.length l7) : Int)))
                    ((F_sha_Salted l2 l5).bind fun l10 =>
                      chk (decide ((([] : List Int).length + l2.length) * 1 ≤ 140737488355328) && decide (([] : List Int).length + l2.length ≤ maxLen))
                      (chk (decide (((([] : List Int) ++ l2).length + ([0] : List Int).length) * 1 ≤ 140737488355328) && decide ((([] : List Int) ++ l2).length + ([0] : List Int).length ≤ maxLen))
                        (chk (decide ((((([] : List Int) ++ l2) ++ ([0] : List Int)).length + l1.length) * 1 ≤ 140737488355328) && decide (((([] : List Int) ++ l2) ++ ([0] : List Int)).length + l1.length ≤ maxLen))
                          ((F_wlvlaw3_first).bind fun b11 =>
                            cond b11
                            ((F_wlvref_Bytes l5 l1).bind fun b12 =>
                              cond b12
                              ((F_sha_One l1).bind fun l13 =>
                                (F_sha_Equal l6 l13).bind fun b14 =>
                                cond b14
                                (chk ((Nat.ble (List.length l7) (List.length (l7.set ((0 : Int)).toNat (bits .xor .u8 i9 1))) && true))
                                  ((F_sha_Equal l6 (List.take (List.length l7) (l7.set ((0 : Int)).toNat (bits .xor .u8 i9 1)))).bind fun b15 =>
                                    cond (!b15)
                                    ((cutI l6 0 31).bind fun l16 =>
                                      (F_sha_Equal l6 l16).bind fun b17 =>
                                      cond (!b17)
                                      ((F_sha_One (((([] : List Int) ++ l2) ++ ([0] : List Int)) ++ l1)).bind fun l18 =>
                                        (F_sha_Equal l10 l18).bind fun b19 =>
                                        some (b19 && ((l10.length : Int) == 32)))
                                      (some false))
                                    (some false)))
                                (some false))
                              (some false))
                            (some false))))))))))))))
def F_wlvlaw3_ShaOwn_sig : Sig := ⟨[.v false [.d (.sl (.int .u8))], .v false [.d (.sl (.int .u8))]], [(false, [.d .bool])]⟩
def F_wlvlaw3_ShaOwn_ann : List (Nat × Ann) := []
noncomputable def F_wlvlaw3_ShaOwn_env : Env := ⟨Try.prog, [(7, ⟨F_wlvlaw3_first_sig, ⟨F_wlvlaw3_first⟩⟩), (8, ⟨F_sha_One_sig, ⟨F_sha_One⟩⟩), (9, ⟨F_sha_Equal_sig, ⟨F_sha_Equal⟩⟩), (10, ⟨F_wlvref_Bytes_sig, ⟨F_wlvref_Bytes⟩⟩), (12, ⟨F_wlvref_Copy_sig, ⟨F_wlvref_Copy⟩⟩), (13, ⟨F_sha_Salted_sig, ⟨F_sha_Salted⟩⟩)], [26]⟩
set_option maxRecDepth 100000 in
theorem F_wlvlaw3_ShaOwn_text : pvFn F_wlvlaw3_ShaOwn_env F_wlvlaw3_ShaOwn_ann Try.f6 F_wlvlaw3_ShaOwn_sig = F_wlvlaw3_ShaOwn := by kernel_rfl
end Go.Proofs.Ytgcgdfjldeihkaa
