/- Texts of this claim, one behind the other. -/
import Derived.Test.YtifbhefbhlbofaaGreatDoorTaleBlocksM4
import Derived.Laws.Bits
import Derived.BigCall
import Derived.LoopTactic
import Derived.Handy
import Derived.Test.YtifbhefbhlbofaaGreatDoorChecked
import Derived.RegionTactic
import Derived.Laws.CopyOwn
import Derived.Deep.RegionLaw
import Derived.Lib.SliceRun
import Derived.Shelf.Spec.SlicesGrow
import Derived.Laws.Bits128
set_option maxRecDepth 100000
namespace Go.Proofs.YtifbhefbhlbofaaGreatDoor
open Pv
set_option linter.unusedVariables false
noncomputable def F_frame_Put (i1 : Int) (i2 : Int) (i3 : Int) (l4 : List Int) : Option (List Int × Int) :=
 cond (decide (i1 < 0))
 (some (([] : List Int), 1))
 (cond (decide (i1 > 255))
 (some (([] : List Int), 1))
 (cond (decide (i2 < 0))
 (some (([] : List Int), 1))
 (cond (decide (i2 > 255))
 (some (([] : List Int), 1))
 (cond (decide (i3 < 0))
 (some (([] : List Int), 1))
 (cond (decide (i3 > 2147483647))
 (some (([] : List Int), 1))
 (cond (decide ((l4.length : Int) > 16777215))
 (some (([] : List Int), 3))
 (chk (decide ((([(IntKind.u8.wrap (Int.fdiv (l4.length : Int) (2 ^ 16))), (IntKind.u8.wrap (Int.fdiv (l4.length : Int) (2 ^ 8))), (IntKind.u8.wrap (l4.length : Int)), (IntKind.u8.wrap i1), (IntKind.u8.wrap i2), (IntKind.u8.wrap (Int.fdiv i3 (2 ^ 24))), (IntKind.u8.wrap (Int.fdiv i3 (2 ^ 16))), (IntKind.u8.wrap (Int.fdiv i3 (2 ^ 8))), (IntKind.u8.wrap i3)] : List Int).length + l4.length) * 1 ≤ 140737488355328) && decide (([(IntKind.u8.wrap (Int.fdiv (l4.length : Int) (2 ^ 16))), (IntKind.u8.wrap (Int.fdiv (l4.length : Int) (2 ^ 8))), (IntKind.u8.wrap (l4.length : Int)), (IntKind.u8.wrap i1), (IntKind.u8.wrap i2), (IntKind.u8.wrap (Int.fdiv i3 (2 ^ 24))), (IntKind.u8.wrap (Int.fdiv i3 (2 ^ 16))), (IntKind.u8.wrap (Int.fdiv i3 (2 ^ 8))), (IntKind.u8.wrap i3)] : List Int).length + l4.length ≤ maxLen))
 (some ((([(IntKind.u8.wrap (Int.fdiv (l4.length : Int) (2 ^ 16))), (IntKind.u8.wrap (Int.fdiv (l4.length : Int) (2 ^ 8))), (IntKind.u8.wrap (l4.length : Int)), (IntKind.u8.wrap i1), (IntKind.u8.wrap i2), (IntKind.u8.wrap (Int.fdiv i3 (2 ^ 24))), (IntKind.u8.wrap (Int.fdiv i3 (2 ^ 16))), (IntKind.u8.wrap (Int.fdiv i3 (2 ^ 8))), (IntKind.u8.wrap i3)] : List Int) ++ l4), 0)))))))))
def F_frame_Put_sig : Sig := ⟨[.v true [.d (.int .i64), .d (.int .i64), .d (.int .i64), .d (.sl (.int .u8))]], [(false, [.own 5 (.int .u8)]), (false, [.d (.int .i64)])], []⟩
def F_frame_Put_ann : List (Nat × Ann) := []
noncomputable def F_frame_Put_env : Env := ⟨Tryz.prog, [], []⟩
theorem F_frame_Put_text : pvFn F_frame_Put_env F_frame_Put_ann Tryz.f118 F_frame_Put_sig = F_frame_Put := by kernel_rfl
noncomputable def F_tale_put (i1 : Int) (i2 : Int) (i3 : Int) (l4 : List Int) : Option (List Int) :=
 (F_frame_Put i1 i2 i3 l4).bind fun x5 =>
 some x5.1
def F_tale_put_sig : Sig := ⟨[.v true [.d (.int .i64), .d (.int .i64), .d (.int .i64), .d (.sl (.int .u8))]], [(false, [.own 5 (.int .u8)])], []⟩
def F_tale_put_ann : List (Nat × Ann) := []
noncomputable def F_tale_put_env : Env := ⟨Tryz.prog, [(118, ⟨F_frame_Put_sig, ⟨F_frame_Put⟩⟩)], []⟩
theorem F_tale_put_text : pvFn F_tale_put_env F_tale_put_ann Tryz.f64 F_tale_put_sig = F_tale_put := by kernel_rfl
noncomputable def F_part_flag (b1 : Bool) (i2 : Int) : Option (Int) :=
 cond b1
 (some i2)
 (some 0)
def F_part_flag_sig : Sig := ⟨[.v false [.d .bool], .v false [.d (.int .i64)]], [(false, [.d (.int .i64)])], []⟩
def F_part_flag_ann : List (Nat × Ann) := []
noncomputable def F_part_flag_env : Env := ⟨Tryz.prog, [], []⟩
theorem F_part_flag_text : pvFn F_part_flag_env F_part_flag_ann Tryz.f106 F_part_flag_sig = F_part_flag := by kernel_rfl
noncomputable def F_part_bits_L4 (i1 : Int) (s : List Int × Int) : Option (((List Int) ⊕ (List Int)) ⊕ (List Int × Int)) :=
 let l3 := s.1; let i4 := s.2
 cond (decide (i4 ≥ 0))
 (chk (decide (0 ≤ (IntKind.i64.wrap (8 * i4))))
 (chk (decide ((l3.length + ([(IntKind.u8.wrap (Int.fdiv i1 (2 ^ (min ((IntKind.i64.wrap (8 * i4))).toNat 64))))] : List Int).length) * 1 ≤ 140737488355328) && decide (l3.length + ([(IntKind.u8.wrap (Int.fdiv i1 (2 ^ (min ((IntKind.i64.wrap (8 * i4))).toNat 64))))] : List Int).length ≤ maxLen))
 (some (.inr ((l3 ++ ([(IntKind.u8.wrap (Int.fdiv i1 (2 ^ (min ((IntKind.i64.wrap (8 * i4))).toNat 64))))] : List Int)), (IntKind.i64.wrap (i4 - 1)))))))
 (some (.inl (.inr l3)))
noncomputable def F_part_bits_J2 (s : List Int) : Option (List Int) :=
 let l5 := s
 some l5
noncomputable def F_part_bits (i1 : Int) (i2 : Int) : Option (List Int) :=
 joinC (S := List Int) (R := List Int)
 (loopC (S := List Int × Int) (R := (List Int) ⊕ (List Int)) (F_part_bits_L4 i1) (([] : List Int), (IntKind.i64.wrap (i2 - 1))))
 (F_part_bits_J2)
def F_part_bits_sig : Sig := ⟨[.v false [.d (.int .i64)], .v false [.d (.int .i64)]], [(false, [.own 5 (.int .u8)])], []⟩
def F_part_bits_ann : List (Nat × Ann) := [(2, ⟨3, [(5, false, [.own 5 (.int .u8)])], [], (List.range' 6 15), [], [], []⟩), (4, ⟨5, [(5, false, [.own 5 (.int .u8)]), (6, false, [.d (.int .i64)])], [], (List.range' 9 12), [], [], []⟩)]
noncomputable def F_part_bits_env : Env := ⟨Tryz.prog, [], []⟩
theorem F_part_bits_text : pvFn F_part_bits_env F_part_bits_ann Tryz.f121 F_part_bits_sig = F_part_bits := by kernel_rfl
noncomputable def F_part_Settings_L4 (l1 : List (Int × Int)) (s : Int × Int × Int × Int × List Int × Int × Int × Int × List Int) : Option (((Int × Int × Int × List Int) ⊕ (Int × Int × Int × List Int × Int × Int × Int × List Int)) ⊕ (Int × Int × Int × Int × List Int × Int × Int × Int × List Int)) :=
 let i4 := s.1; let i5 := s.2.1; let i6 := s.2.2.1; let i7 := s.2.2.2.1; let l8 := s.2.2.2.2.1; let i9 := s.2.2.2.2.2.1; let i10 := s.2.2.2.2.2.2.1; let i11 := s.2.2.2.2.2.2.2.1; let l12 := s.2.2.2.2.2.2.2.2
 cond (decide (i4 < (l1.length : Int)))
 ((getI l1 i4).bind fun x13 =>
 (F_part_bits x13.1 2).bind fun l14 =>
 chk (decide ((l12.length + l14.length) * 1 ≤ 140737488355328) && decide (l12.length + l14.length ≤ maxLen))
 ((F_part_bits x13.2 4).bind fun l15 =>
 chk (decide (((l12 ++ l14).length + l15.length) * 1 ≤ 140737488355328) && decide ((l12 ++ l14).length + l15.length ≤ maxLen))
 (some (.inr ((IntKind.i64.wrap (i4 + 1)), i5, i6, i7, l8, i9, i10, i11, ((l12 ++ l14) ++ l15))))))
 (some (.inl (.inr (i5, i6, i7, l8, i9, i10, i11, l12))))
noncomputable def F_part_Settings_J2 (s : Int × Int × Int × List Int × Int × Int × Int × List Int) : Option (Int × Int × Int × List Int) :=
 let i17 := s.1; let i18 := s.2.1; let i19 := s.2.2.1; let l20 := s.2.2.2.1; let i21 := s.2.2.2.2.1; let i22 := s.2.2.2.2.2.1; let i23 := s.2.2.2.2.2.2.1; let l24 := s.2.2.2.2.2.2.2
 some (i21, i22, i23, l24)
noncomputable def F_part_Settings (l1 : List (Int × Int)) (b2 : Bool) : Option (Int × Int × Int × List Int) :=
 (F_part_flag b2 1).bind fun i3 =>
 joinC (S := Int × Int × Int × List Int × Int × Int × Int × List Int) (R := Int × Int × Int × List Int)
 (loopC (S := Int × Int × Int × Int × List Int × Int × Int × Int × List Int) (R := (Int × Int × Int × List Int) ⊕ (Int × Int × Int × List Int × Int × Int × Int × List Int)) (F_part_Settings_L4 l1) (0, 0, 0, 0, ([] : List Int), 4, i3, 0, ([] : List Int)))
 (F_part_Settings_J2)
def F_part_Settings_sig : Sig := ⟨[.v false [.d (.sl (.pr (.int .i64) (.int .i64)))], .v false [.d .bool]], [(true, [.d (.int .i64), .d (.int .i64), .d (.int .i64), .own 5 (.int .u8)])], []⟩
def F_part_Settings_ann : List (Nat × Ann) := [(2, ⟨3, [], [(4, [.d (.int .i64), .d (.int .i64), .d (.int .i64), .own 5 (.int .u8)]), (5, [.d (.int .i64), .d (.int .i64), .d (.int .i64), .own 5 (.int .u8)])], ([7] ++ List.range' 11 18), [], [], []⟩), (4, ⟨5, [(13, false, [.d (.int .i64)])], [(4, [.d (.int .i64), .d (.int .i64), .d (.int .i64), .own 5 (.int .u8)]), (5, [.d (.int .i64), .d (.int .i64), .d (.int .i64), .own 5 (.int .u8)])], ([7] ++ List.range' 14 15), [], [], []⟩)]
noncomputable def F_part_Settings_env : Env := ⟨Tryz.prog, [(106, ⟨F_part_flag_sig, ⟨F_part_flag⟩⟩), (121, ⟨F_part_bits_sig, ⟨F_part_bits⟩⟩)], [18]⟩
theorem F_part_Settings_text : pvFn F_part_Settings_env F_part_Settings_ann Tryz.f71 F_part_Settings_sig = F_part_Settings := by kernel_rfl
noncomputable def F_tale_Hello : Option (List Int) :=
 (F_part_Settings ([] : List (Int × Int)) false).bind fun x1 =>
 (F_tale_put x1.1 x1.2.1 x1.2.2.1 x1.2.2.2).bind fun l2 =>
 (F_slices_Concat_byte_byte ([([80, 82, 73, 32, 42, 32, 72, 84, 84, 80, 47, 50, 46, 48, 13, 10, 13, 10, 83, 77, 13, 10, 13, 10] : List Int), l2] : List (List Int))).bind fun l3 =>
 some l3
def F_tale_Hello_sig : Sig := ⟨[], [(false, [.own 5 (.int .u8)])], []⟩
def F_tale_Hello_ann : List (Nat × Ann) := []
noncomputable def F_tale_Hello_env : Env := ⟨Tryz.prog, [(59, ⟨F_slices_Concat_byte_byte_sig, ⟨F_slices_Concat_byte_byte⟩⟩), (64, ⟨F_tale_put_sig, ⟨F_tale_put⟩⟩), (71, ⟨F_part_Settings_sig, ⟨F_part_Settings⟩⟩)], []⟩
theorem F_tale_Hello_text : pvFn F_tale_Hello_env F_tale_Hello_ann Tryz.f54 F_tale_Hello_sig = F_tale_Hello := by kernel_rfl
noncomputable def F_tale_answers_L4 (i1 : Int) (i2 : Int) (s : List (List Int) × Int) : Option (((List (List Int)) ⊕ (List (List Int))) ⊕ (List (List Int) × Int)) :=
 let l3 := s.1; let i4 := s.2
 cond (decide (i4 < (Int.tmod i2 4)))
 (cond ((Int.tmod i1 2) == 1)
 (chk (decide ((l3.length + ([([10, 0, 0, (IntKind.u8.wrap (IntKind.i64.wrap (1 + i4)))] : List Int)] : List (List Int)).length) * 16 ≤ 140737488355328) && decide (l3.length + ([([10, 0, 0, (IntKind.u8.wrap (IntKind.i64.wrap (1 + i4)))] : List Int)] : List (List Int)).length ≤ maxLen))
 (some (.inr ((l3 ++ ([([10, 0, 0, (IntKind.u8.wrap (IntKind.i64.wrap (1 + i4)))] : List Int)] : List (List Int))), (IntKind.i64.wrap (i4 + 1))))))
 (chk (decide ((l3.length + ([([192, 0, 2, (IntKind.u8.wrap (IntKind.i64.wrap (1 + i4)))] : List Int)] : List (List Int)).length) * 16 ≤ 140737488355328) && decide (l3.length + ([([192, 0, 2, (IntKind.u8.wrap (IntKind.i64.wrap (1 + i4)))] : List Int)] : List (List Int)).length ≤ maxLen))
 (some (.inr ((l3 ++ ([([192, 0, 2, (IntKind.u8.wrap (IntKind.i64.wrap (1 + i4)))] : List Int)] : List (List Int))), (IntKind.i64.wrap (i4 + 1)))))))
 (some (.inl (.inr l3)))
noncomputable def F_tale_answers_J2 (s : List (List Int)) : Option (List (List Int)) :=
 let l5 := s
 some l5
noncomputable def F_tale_answers (i1 : Int) (i2 : Int) : Option (List (List Int)) :=
 joinC (S := List (List Int)) (R := List (List Int))
 (loopC (S := List (List Int) × Int) (R := (List (List Int)) ⊕ (List (List Int))) (F_tale_answers_L4 i1 i2) (([] : List (List Int)), 0))
 (F_tale_answers_J2)
def F_tale_answers_sig : Sig := ⟨[.v false [.d (.int .i64)], .v false [.d (.int .i64)]], [(false, [.own 9 .str])], []⟩
def F_tale_answers_ann : List (Nat × Ann) := [(2, ⟨3, [(5, false, [.own 9 .str])], [], (List.range' 6 24), [], [], []⟩), (4, ⟨5, [(5, false, [.own 9 .str]), (10, false, [.d (.int .i64)])], [], ([6, 7] ++ List.range' 11 19), [], [], []⟩)]
noncomputable def F_tale_answers_env : Env := ⟨Tryz.prog, [], []⟩
theorem F_tale_answers_text : pvFn F_tale_answers_env F_tale_answers_ann Tryz.f149 F_tale_answers_sig = F_tale_answers := by kernel_rfl
noncomputable def F_tale_bytes (i1 : Int) (i2 : Int) : Option (List Int) :=
 (F_slices_Repeat_byte_byte ([(IntKind.u8.wrap i2)] : List Int) i1).bind fun l3 =>
 some l3
def F_tale_bytes_sig : Sig := ⟨[.v false [.d (.int .i64)], .v false [.d (.int .i64)]], [(false, [.own 5 (.int .u8)])], []⟩
def F_tale_bytes_ann : List (Nat × Ann) := []
noncomputable def F_tale_bytes_env : Env := ⟨Tryz.prog, [(178, ⟨F_slices_Repeat_byte_byte_sig, ⟨F_slices_Repeat_byte_byte⟩⟩)], []⟩
theorem F_tale_bytes_text : pvFn F_tale_bytes_env F_tale_bytes_ann Tryz.f150 F_tale_bytes_sig = F_tale_bytes := by kernel_rfl
noncomputable def F_part_Rst (i1 : Int) (i2 : Int) : Option (Int × Int × Int × List Int) :=
 (F_part_bits i2 4).bind fun l3 =>
 some (3, 0, i1, l3)
def F_part_Rst_sig : Sig := ⟨[.v false [.d (.int .i64)], .v false [.d (.int .i64)]], [(true, [.d (.int .i64), .d (.int .i64), .d (.int .i64), .own 5 (.int .u8)])], []⟩
def F_part_Rst_ann : List (Nat × Ann) := []
noncomputable def F_part_Rst_env : Env := ⟨Tryz.prog, [(121, ⟨F_part_bits_sig, ⟨F_part_bits⟩⟩)], []⟩
theorem F_part_Rst_text : pvFn F_part_Rst_env F_part_Rst_ann Tryz.f135 F_part_Rst_sig = F_part_Rst := by kernel_rfl
noncomputable def F_part_Update (i1 : Int) (i2 : Int) : Option (Int × Int × Int × List Int) :=
 (F_part_bits (bits .and .i64 i2 2147483647) 4).bind fun l3 =>
 some (8, 0, i1, l3)
def F_part_Update_sig : Sig := ⟨[.v false [.d (.int .i64)], .v false [.d (.int .i64)]], [(true, [.d (.int .i64), .d (.int .i64), .d (.int .i64), .own 5 (.int .u8)])], []⟩
def F_part_Update_ann : List (Nat × Ann) := []
noncomputable def F_part_Update_env : Env := ⟨Tryz.prog, [(121, ⟨F_part_bits_sig, ⟨F_part_bits⟩⟩)], []⟩
theorem F_part_Update_text : pvFn F_part_Update_env F_part_Update_ann Tryz.f136 F_part_Update_sig = F_part_Update := by kernel_rfl
noncomputable def F_pint_ones (i1 : Int) : Option (Int) :=
 cond ((decide (i1 < 1)) || (decide (i1 > 8)))
 (some 0)
 (chk (decide (0 ≤ i1))
 (some (IntKind.i64.wrap ((IntKind.i64.wrap (1 * 2 ^ (min (i1).toNat 64))) - 1))))
def F_pint_ones_sig : Sig := ⟨[.v false [.d (.int .i64)]], [(false, [.d (.int .i64)])], []⟩
def F_pint_ones_ann : List (Nat × Ann) := []
noncomputable def F_pint_ones_env : Env := ⟨Tryz.prog, [], []⟩
theorem F_pint_ones_text : pvFn F_pint_ones_env F_pint_ones_ann Tryz.f159 F_pint_ones_sig = F_pint_ones := by kernel_rfl
noncomputable def F_pint_Put_G1_0 (s : Int × List Int) : Option ((List Int × Int) ⊕ (Nat × Int × List Int)) :=
 let i5 := s.1; let l6 := s.2
 cond (decide (i5 < 128))
 (chk (decide ((l6.length + ([(IntKind.u8.wrap i5)] : List Int).length) * 1 ≤ 140737488355328) && decide (l6.length + ([(IntKind.u8.wrap i5)] : List Int).length ≤ maxLen))
 (some (.inl ((l6 ++ ([(IntKind.u8.wrap i5)] : List Int)), 0))))
 (chk (decide ((l6.length + ([(IntKind.u8.wrap (bits .or .i64 (Int.tmod i5 128) 128))] : List Int).length) * 1 ≤ 140737488355328) && decide (l6.length + ([(IntKind.u8.wrap (bits .or .i64 (Int.tmod i5 128) 128))] : List Int).length ≤ maxLen))
 (some (.inr (0, ((IntKind.i64.wrap (Int.tdiv i5 128)), (l6 ++ ([(IntKind.u8.wrap (bits .or .i64 (Int.tmod i5 128) 128))] : List Int)))))))
noncomputable def F_pint_Put_G1 (p : Nat × Int × List Int) : Option ((List Int × Int) ⊕ (Nat × Int × List Int)) :=
 cond (hasN [0] p.1) (F_pint_Put_G1_0 p.2) (none)
noncomputable def F_pint_Put (i1 : Int) (i2 : Int) (i3 : Int) : Option (List Int × Int) :=
 joinC (S := Nat × Int × List Int) (R := List Int × Int)
 ((F_pint_ones i2).bind fun i4 =>
 cond (((i4 == 0) || (decide (i3 < 0))) || (decide (i3 > 2147483647)))
 (some (.inl (([] : List Int), 1)))
 (cond (decide (i3 < i4))
 (some (.inl (([(bits .or .u8 (bits .andNot .u8 i1 (IntKind.u8.wrap i4)) (IntKind.u8.wrap i3))] : List Int), 0)))
 (cond (decide ((IntKind.i64.wrap (i3 - i4)) < 128))
 (chk (decide ((([(bits .or .u8 (bits .andNot .u8 i1 (IntKind.u8.wrap i4)) (IntKind.u8.wrap i4))] : List Int).length + ([(IntKind.u8.wrap (IntKind.i64.wrap (i3 - i4)))] : List Int).length) * 1 ≤ 140737488355328) && decide (([(bits .or .u8 (bits .andNot .u8 i1 (IntKind.u8.wrap i4)) (IntKind.u8.wrap i4))] : List Int).length + ([(IntKind.u8.wrap (IntKind.i64.wrap (i3 - i4)))] : List Int).length ≤ maxLen))
 (some (.inl ((([(bits .or .u8 (bits .andNot .u8 i1 (IntKind.u8.wrap i4)) (IntKind.u8.wrap i4))] : List Int) ++ ([(IntKind.u8.wrap (IntKind.i64.wrap (i3 - i4)))] : List Int)), 0))))
 (chk (decide ((([(bits .or .u8 (bits .andNot .u8 i1 (IntKind.u8.wrap i4)) (IntKind.u8.wrap i4))] : List Int).length + ([(IntKind.u8.wrap (bits .or .i64 (Int.tmod (IntKind.i64.wrap (i3 - i4)) 128) 128))] : List Int).length) * 1 ≤ 140737488355328) && decide (([(bits .or .u8 (bits .andNot .u8 i1 (IntKind.u8.wrap i4)) (IntKind.u8.wrap i4))] : List Int).length + ([(IntKind.u8.wrap (bits .or .i64 (Int.tmod (IntKind.i64.wrap (i3 - i4)) 128) 128))] : List Int).length ≤ maxLen))
 (some (.inr (0, ((IntKind.i64.wrap (Int.tdiv (IntKind.i64.wrap (i3 - i4)) 128)), (([(bits .or .u8 (bits .andNot .u8 i1 (IntKind.u8.wrap i4)) (IntKind.u8.wrap i4))] : List Int) ++ ([(IntKind.u8.wrap (bits .or .i64 (Int.tmod (IntKind.i64.wrap (i3 - i4)) 128) 128))] : List Int))))))))))
 (fun p => loopC (S := Nat × Int × List Int) (R := List Int × Int) (F_pint_Put_G1) p)
def F_pint_Put_sig : Sig := ⟨[.v false [.d (.int .u8)], .v false [.d (.int .i64)], .v false [.d (.int .i64)]], [(false, [.own 5 (.int .u8)]), (false, [.d (.int .i64)])], []⟩
def F_pint_Put_ann : List (Nat × Ann) := [(1, ⟨2, [(2, false, [.d (.int .i64)]), (10, false, [.own 5 (.int .u8)])], [], ([6, 7, 8, 9] ++ List.range' 11 48), [], [], []⟩)]
noncomputable def F_pint_Put_env : Env := ⟨Tryz.prog, [(159, ⟨F_pint_ones_sig, ⟨F_pint_ones⟩⟩)], []⟩
theorem F_pint_Put_text : pvFn F_pint_Put_env F_pint_Put_ann Tryz.f115 F_pint_Put_sig = F_pint_Put := by kernel_rfl
noncomputable def F_tale_text (s1 : List Int) : Option (List Int) :=
 (F_pint_Put 0 7 (s1.length : Int)).bind fun x2 =>
 chk (decide ((x2.1.length + s1.length) * 1 ≤ 140737488355328) && decide (x2.1.length + s1.length ≤ maxLen))
 (some (x2.1 ++ s1))
def F_tale_text_sig : Sig := ⟨[.v false [.d .str]], [(false, [.own 5 (.int .u8)])], []⟩
def F_tale_text_ann : List (Nat × Ann) := []
noncomputable def F_tale_text_env : Env := ⟨Tryz.prog, [(115, ⟨F_pint_Put_sig, ⟨F_pint_Put⟩⟩)], []⟩
theorem F_tale_text_text : pvFn F_tale_text_env F_tale_text_ann Tryz.f60 F_tale_text_sig = F_tale_text := by kernel_rfl
noncomputable def F_tale_Block_L4 (l1 : List (List Int × List Int × Bool)) (s : List Int × Int) : Option (((List Int) ⊕ (List Int)) ⊕ (List Int × Int)) :=
 let l2 := s.1; let i3 := s.2
 cond (decide (i3 < (l1.length : Int)))
 ((getI l1 i3).bind fun x4 =>
 (F_tale_text x4.1).bind fun l5 =>
 (F_tale_text x4.2.1).bind fun l6 =>
 (F_slices_Concat_byte_byte ([l2, ([0] : List Int), l5, l6] : List (List Int))).bind fun l7 =>
 some (.inr (l7, (IntKind.i64.wrap (i3 + 1)))))
 (some (.inl (.inr l2)))
noncomputable def F_tale_Block_J2 (s : List Int) : Option (List Int) :=
 let l8 := s
 some l8
noncomputable def F_tale_Block (l1 : List (List Int × List Int × Bool)) : Option (List Int) :=
 joinC (S := List Int) (R := List Int)
 (loopC (S := List Int × Int) (R := (List Int) ⊕ (List Int)) (F_tale_Block_L4 l1) (([] : List Int), 0))
 (F_tale_Block_J2)
def F_tale_Block_sig : Sig := ⟨[.v false [.d (.sl (.pr .str (.pr .str .bool)))]], [(false, [.own 5 (.int .u8)])], []⟩
def F_tale_Block_ann : List (Nat × Ann) := [(2, ⟨3, [(3, false, [.own 5 (.int .u8)])], [], (List.range' 5 18), [], [], []⟩), (4, ⟨5, [(3, false, [.own 5 (.int .u8)]), (8, false, [.d (.int .i64)])], [], ([5] ++ List.range' 9 14), [], [], []⟩)]
noncomputable def F_tale_Block_env : Env := ⟨Tryz.prog, [(59, ⟨F_slices_Concat_byte_byte_sig, ⟨F_slices_Concat_byte_byte⟩⟩), (60, ⟨F_tale_text_sig, ⟨F_tale_text⟩⟩)], []⟩
theorem F_tale_Block_text : pvFn F_tale_Block_env F_tale_Block_ann Tryz.f15 F_tale_Block_sig = F_tale_Block := by kernel_rfl
noncomputable def F_tale_flags (i1 : Int) (b2 : Bool) : Option (Int) :=
 cond b2
 (some (bits .or .i64 i1 1))
 (some i1)
def F_tale_flags_sig : Sig := ⟨[.v false [.d (.int .i64)], .v false [.d .bool]], [(false, [.d (.int .i64)])], []⟩
def F_tale_flags_ann : List (Nat × Ann) := []
noncomputable def F_tale_flags_env : Env := ⟨Tryz.prog, [], []⟩
theorem F_tale_flags_text : pvFn F_tale_flags_env F_tale_flags_ann Tryz.f65 F_tale_flags_sig = F_tale_flags := by kernel_rfl
noncomputable def F_tale_Connect (i1 : Int) (s2 : List Int) (s3 : List Int) (s4 : List Int) (b5 : Bool) : Option (List Int) :=
 cond ((!(s3 == ([] : List Int))) || (!(s4 == ([] : List Int))))
 (chk (Nat.ble (s3.length + ([58] : List Int).length) maxLen)
 (chk (Nat.ble ((s3 ++ ([58] : List Int)).length + s4.length) maxLen)
 ((F_b64_Encode ((s3 ++ ([58] : List Int)) ++ s4)).bind fun s6 =>
 chk (Nat.ble (([66, 97, 115, 105, 99, 32] : List Int).length + s6.length) maxLen)
 (chk (decide ((([(([58, 109, 101, 116, 104, 111, 100] : List Int), ([67, 79, 78, 78, 69, 67, 84] : List Int), false), (([58, 97, 117, 116, 104, 111, 114, 105, 116, 121] : List Int), s2, false)] : List (List Int × List Int × Bool)).length + ([(([112, 114, 111, 120, 121, 45, 97, 117, 116, 104, 111, 114, 105, 122, 97, 116, 105, 111, 110] : List Int), (([66, 97, 115, 105, 99, 32] : List Int) ++ s6), false)] : List (List Int × List Int × Bool)).length) * 40 ≤ 140737488355328) && decide (([(([58, 109, 101, 116, 104, 111, 100] : List Int), ([67, 79, 78, 78, 69, 67, 84] : List Int), false), (([58, 97, 117, 116, 104, 111, 114, 105, 116, 121] : List Int), s2, false)] : List (List Int × List Int × Bool)).length + ([(([112, 114, 111, 120, 121, 45, 97, 117, 116, 104, 111, 114, 105, 122, 97, 116, 105, 111, 110] : List Int), (([66, 97, 115, 105, 99, 32] : List Int) ++ s6), false)] : List (List Int × List Int × Bool)).length ≤ maxLen))
 ((F_tale_flags 4 b5).bind fun i7 =>
 (F_tale_Block (([(([58, 109, 101, 116, 104, 111, 100] : List Int), ([67, 79, 78, 78, 69, 67, 84] : List Int), false), (([58, 97, 117, 116, 104, 111, 114, 105, 116, 121] : List Int), s2, false)] : List (List Int × List Int × Bool)) ++ ([(([112, 114, 111, 120, 121, 45, 97, 117, 116, 104, 111, 114, 105, 122, 97, 116, 105, 111, 110] : List Int), (([66, 97, 115, 105, 99, 32] : List Int) ++ s6), false)] : List (List Int × List Int × Bool)))).bind fun l8 =>
 (F_tale_put 1 i7 i1 l8).bind fun l9 =>
 some l9)))))
 ((F_tale_flags 4 b5).bind fun i10 =>
 (F_tale_Block ([(([58, 109, 101, 116, 104, 111, 100] : List Int), ([67, 79, 78, 78, 69, 67, 84] : List Int), false), (([58, 97, 117, 116, 104, 111, 114, 105, 116, 121] : List Int), s2, false)] : List (List Int × List Int × Bool))).bind fun l11 =>
 (F_tale_put 1 i10 i1 l11).bind fun l12 =>
 some l12)
def F_tale_Connect_sig : Sig := ⟨[.v false [.d (.int .i64)], .v false [.d .str], .v false [.d .str], .v false [.d .str], .v false [.d .bool]], [(false, [.own 5 (.int .u8)])], []⟩
def F_tale_Connect_ann : List (Nat × Ann) := []
noncomputable def F_tale_Connect_env : Env := ⟨Tryz.prog, [(15, ⟨F_tale_Block_sig, ⟨F_tale_Block⟩⟩), (63, ⟨F_b64_Encode_sig, ⟨F_b64_Encode⟩⟩), (64, ⟨F_tale_put_sig, ⟨F_tale_put⟩⟩), (65, ⟨F_tale_flags_sig, ⟨F_tale_flags⟩⟩)], []⟩
theorem F_tale_Connect_text : pvFn F_tale_Connect_env F_tale_Connect_ann Tryz.f21 F_tale_Connect_sig = F_tale_Connect := by kernel_rfl
noncomputable def F_tale_connects (i1 : Int) (i2 : Int) (i3 : Int) : Option (List Int) :=
 (F_strconv_Itoa (Int.tmod (IntKind.i64.wrap (Int.tdiv i2 8)) 3)).bind fun s4 =>
 chk (Nat.ble (([119] : List Int).length + s4.length) maxLen)
 (cond ((IntKind.i64.wrap (Int.tdiv i3 64)) == 3)
 ((getI ([([97, 46, 101, 120, 97, 109, 112, 108, 101, 58, 56, 48] : List Int), ([98, 46, 101, 120, 97, 109, 112, 108, 101, 58, 52, 52, 51] : List Int), ([49, 57, 50, 46, 48, 46, 50, 46, 55, 58, 50, 53] : List Int), ([98, 97, 100, 46, 101, 120, 97, 109, 112, 108, 101, 58, 56, 48] : List Int), ([49, 48, 46, 49, 46, 50, 46, 51, 58, 56, 48] : List Int), ([91, 50, 48, 48, 49, 58, 100, 98, 56, 58, 58, 49, 93, 58, 50, 48, 48, 48] : List Int)] : List (List Int)) (Int.tmod i3 6)).bind fun s5 =>
 chk (Nat.ble (([117] : List Int).length + s4.length) maxLen)
 ((F_tale_Connect (IntKind.i64.wrap (1 + (IntKind.i64.wrap (2 * (Int.tmod i2 8))))) s5 (([117] : List Int) ++ s4) ([110, 111] : List Int) ((Int.tmod (IntKind.i64.wrap (Int.tdiv i3 32)) 2) == 1)).bind fun l6 =>
 some l6))
 ((getI ([([97, 46, 101, 120, 97, 109, 112, 108, 101, 58, 56, 48] : List Int), ([98, 46, 101, 120, 97, 109, 112, 108, 101, 58, 52, 52, 51] : List Int), ([49, 57, 50, 46, 48, 46, 50, 46, 55, 58, 50, 53] : List Int), ([98, 97, 100, 46, 101, 120, 97, 109, 112, 108, 101, 58, 56, 48] : List Int), ([49, 48, 46, 49, 46, 50, 46, 51, 58, 56, 48] : List Int), ([91, 50, 48, 48, 49, 58, 100, 98, 56, 58, 58, 49, 93, 58, 50, 48, 48, 48] : List Int)] : List (List Int)) (Int.tmod i3 6)).bind fun s7 =>
 chk (Nat.ble (([117] : List Int).length + s4.length) maxLen)
 ((F_tale_Connect (IntKind.i64.wrap (1 + (IntKind.i64.wrap (2 * (Int.tmod i2 8))))) s7 (([117] : List Int) ++ s4) (([119] : List Int) ++ s4) ((Int.tmod (IntKind.i64.wrap (Int.tdiv i3 32)) 2) == 1)).bind fun l8 =>
 some l8)))
def F_tale_connects_sig : Sig := ⟨[.v false [.d (.int .i64)], .v false [.d (.int .i64)], .v false [.d (.int .i64)]], [(false, [.own 5 (.int .u8)])], []⟩
def F_tale_connects_ann : List (Nat × Ann) := []
noncomputable def F_tale_connects_env : Env := ⟨Tryz.prog, [(21, ⟨F_tale_Connect_sig, ⟨F_tale_Connect⟩⟩), (203, ⟨F_strconv_Itoa_sig, ⟨F_strconv_Itoa⟩⟩)], []⟩
theorem F_tale_connects_text : pvFn F_tale_connects_env F_tale_connects_ann Tryz.f179 F_tale_connects_sig = F_tale_connects := by kernel_rfl
noncomputable def F_tale_Data (i1 : Int) (l2 : List Int) (b3 : Bool) : Option (List Int) :=
 (F_tale_flags 0 b3).bind fun i4 =>
 (F_tale_put 0 i4 i1 l2).bind fun l5 =>
 some l5
def F_tale_Data_sig : Sig := ⟨[.v false [.d (.int .i64)], .v false [.d (.sl (.int .u8))], .v false [.d .bool]], [(false, [.own 5 (.int .u8)])], []⟩
def F_tale_Data_ann : List (Nat × Ann) := []
noncomputable def F_tale_Data_env : Env := ⟨Tryz.prog, [(64, ⟨F_tale_put_sig, ⟨F_tale_put⟩⟩), (65, ⟨F_tale_flags_sig, ⟨F_tale_flags⟩⟩)], []⟩
theorem F_tale_Data_text : pvFn F_tale_Data_env F_tale_Data_ann Tryz.f180 F_tale_Data_sig = F_tale_Data := by kernel_rfl
noncomputable def F_tale_feeds (i1 : Int) (i2 : Int) (i3 : Int) (i4 : Int) : Option (List Int) :=
 cond (i1 == 1)
 ((F_tale_Hello).bind fun l5 =>
 some l5)
 (cond (i1 == 2)
 (cond (i1 == 2)
 ((F_tale_connects i2 i3 i4).bind fun l6 =>
 some l6)
 (cond (i1 == 4)
 (cond (i1 == 4)
 ((F_tale_bytes i4 i3).bind fun l7 =>
 (F_tale_Data (IntKind.i64.wrap (1 + (IntKind.i64.wrap (2 * (Int.tmod i3 8))))) l7 ((Int.tmod i4 7) == 0)).bind fun l8 =>
 some l8)
 (cond (i1 == 6)
 ((F_part_Rst (IntKind.i64.wrap (1 + (IntKind.i64.wrap (2 * (Int.tmod i3 8))))) 8).bind fun x9 =>
 (F_tale_put x9.1 x9.2.1 x9.2.2.1 x9.2.2.2).bind fun l10 =>
 some l10)
 (cond (i1 == 7)
 (cond ((Int.tmod i4 2) == 1)
 ((F_part_Update 0 (IntKind.i64.wrap (1 + (IntKind.i64.wrap (16 * i4))))).bind fun x11 =>
 (F_tale_put x11.1 x11.2.1 x11.2.2.1 x11.2.2.2).bind fun l12 =>
 some l12)
 ((F_part_Update (IntKind.i64.wrap (1 + (IntKind.i64.wrap (2 * (Int.tmod i3 8))))) (IntKind.i64.wrap (1 + (IntKind.i64.wrap (16 * i4))))).bind fun x13 =>
 (F_tale_put x13.1 x13.2.1 x13.2.2.1 x13.2.2.2).bind fun l14 =>
 some l14))
 (some ([(IntKind.u8.wrap i2), (IntKind.u8.wrap i3), (IntKind.u8.wrap i4)] : List Int)))))
 (cond (i1 == 5)
 ((F_tale_bytes i4 i3).bind fun l15 =>
 (F_tale_Data (IntKind.i64.wrap (1 + (IntKind.i64.wrap (2 * (Int.tmod i3 8))))) l15 ((Int.tmod i4 7) == 0)).bind fun l16 =>
 some l16)
 (cond (i1 == 6)
 ((F_part_Rst (IntKind.i64.wrap (1 + (IntKind.i64.wrap (2 * (Int.tmod i3 8))))) 8).bind fun x17 =>
 (F_tale_put x17.1 x17.2.1 x17.2.2.1 x17.2.2.2).bind fun l18 =>
 some l18)
 (cond (i1 == 7)
 (cond ((Int.tmod i4 2) == 1)
 ((F_part_Update 0 (IntKind.i64.wrap (1 + (IntKind.i64.wrap (16 * i4))))).bind fun x19 =>
 (F_tale_put x19.1 x19.2.1 x19.2.2.1 x19.2.2.2).bind fun l20 =>
 some l20)
 ((F_part_Update (IntKind.i64.wrap (1 + (IntKind.i64.wrap (2 * (Int.tmod i3 8))))) (IntKind.i64.wrap (1 + (IntKind.i64.wrap (16 * i4))))).bind fun x21 =>
 (F_tale_put x21.1 x21.2.1 x21.2.2.1 x21.2.2.2).bind fun l22 =>
 some l22))
 (some ([(IntKind.u8.wrap i2), (IntKind.u8.wrap i3), (IntKind.u8.wrap i4)] : List Int)))))))
 (cond (i1 == 3)
 ((F_tale_connects i2 i3 i4).bind fun l23 =>
 some l23)
 (cond (i1 == 4)
 (cond (i1 == 4)
 ((F_tale_bytes i4 i3).bind fun l24 =>
 (F_tale_Data (IntKind.i64.wrap (1 + (IntKind.i64.wrap (2 * (Int.tmod i3 8))))) l24 ((Int.tmod i4 7) == 0)).bind fun l25 =>
 some l25)
 (cond (i1 == 6)
 ((F_part_Rst (IntKind.i64.wrap (1 + (IntKind.i64.wrap (2 * (Int.tmod i3 8))))) 8).bind fun x26 =>
 (F_tale_put x26.1 x26.2.1 x26.2.2.1 x26.2.2.2).bind fun l27 =>
 some l27)
 (cond (i1 == 7)
 (cond ((Int.tmod i4 2) == 1)
 ((F_part_Update 0 (IntKind.i64.wrap (1 + (IntKind.i64.wrap (16 * i4))))).bind fun x28 =>
 (F_tale_put x28.1 x28.2.1 x28.2.2.1 x28.2.2.2).bind fun l29 =>
 some l29)
 ((F_part_Update (IntKind.i64.wrap (1 + (IntKind.i64.wrap (2 * (Int.tmod i3 8))))) (IntKind.i64.wrap (1 + (IntKind.i64.wrap (16 * i4))))).bind fun x30 =>
 (F_tale_put x30.1 x30.2.1 x30.2.2.1 x30.2.2.2).bind fun l31 =>
 some l31))
 (some ([(IntKind.u8.wrap i2), (IntKind.u8.wrap i3), (IntKind.u8.wrap i4)] : List Int)))))
 (cond (i1 == 5)
 ((F_tale_bytes i4 i3).bind fun l32 =>
 (F_tale_Data (IntKind.i64.wrap (1 + (IntKind.i64.wrap (2 * (Int.tmod i3 8))))) l32 ((Int.tmod i4 7) == 0)).bind fun l33 =>
 some l33)
 (cond (i1 == 6)
 ((F_part_Rst (IntKind.i64.wrap (1 + (IntKind.i64.wrap (2 * (Int.tmod i3 8))))) 8).bind fun x34 =>
 (F_tale_put x34.1 x34.2.1 x34.2.2.1 x34.2.2.2).bind fun l35 =>
 some l35)
 (cond (i1 == 7)
 (cond ((Int.tmod i4 2) == 1)
 ((F_part_Update 0 (IntKind.i64.wrap (1 + (IntKind.i64.wrap (16 * i4))))).bind fun x36 =>
 (F_tale_put x36.1 x36.2.1 x36.2.2.1 x36.2.2.2).bind fun l37 =>
 some l37)
 ((F_part_Update (IntKind.i64.wrap (1 + (IntKind.i64.wrap (2 * (Int.tmod i3 8))))) (IntKind.i64.wrap (1 + (IntKind.i64.wrap (16 * i4))))).bind fun x38 =>
 (F_tale_put x38.1 x38.2.1 x38.2.2.1 x38.2.2.2).bind fun l39 =>
 some l39))
 (some ([(IntKind.u8.wrap i2), (IntKind.u8.wrap i3), (IntKind.u8.wrap i4)] : List Int))))))))
def F_tale_feeds_sig : Sig := ⟨[.v false [.d (.int .i64)], .v false [.d (.int .i64)], .v false [.d (.int .i64)], .v false [.d (.int .i64)]], [(false, [.own 5 (.int .u8)])], []⟩
def F_tale_feeds_ann : List (Nat × Ann) := []
noncomputable def F_tale_feeds_env : Env := ⟨Tryz.prog, [(54, ⟨F_tale_Hello_sig, ⟨F_tale_Hello⟩⟩), (64, ⟨F_tale_put_sig, ⟨F_tale_put⟩⟩), (135, ⟨F_part_Rst_sig, ⟨F_part_Rst⟩⟩), (136, ⟨F_part_Update_sig, ⟨F_part_Update⟩⟩), (150, ⟨F_tale_bytes_sig, ⟨F_tale_bytes⟩⟩), (179, ⟨F_tale_connects_sig, ⟨F_tale_connects⟩⟩), (180, ⟨F_tale_Data_sig, ⟨F_tale_Data⟩⟩)], []⟩
theorem F_tale_feeds_text : pvFn F_tale_feeds_env F_tale_feeds_ann Tryz.f151 F_tale_feeds_sig = F_tale_feeds := by kernel_rfl
noncomputable def F_tale_event (i1 : Int) (i2 : Int) (i3 : Int) (i4 : Int) : Option (Int × Int × Int × Int × List Int × List (List Int)) :=
 cond (i1 == 0)
 (some (2, 0, 0, 0, ([] : List Int), ([] : List (List Int))))
 (cond (i1 == 8)
 (some (5, (IntKind.i64.wrap (1 + (Int.tmod i2 3))), 0, (IntKind.i64.wrap (1 + (IntKind.i64.wrap (64 * i4)))), ([] : List Int), ([] : List (List Int))))
 (cond (i1 == 9)
 ((F_tale_answers i3 i4).bind fun l5 =>
 some (6, 0, (IntKind.i64.wrap (1 + (Int.tmod i2 8))), 0, ([] : List Int), l5))
 (cond (i1 == 10)
 (some (7, 0, (IntKind.i64.wrap (1 + (Int.tmod i2 8))), (minI (Int.tmod i3 4) 1), ([] : List Int), ([] : List (List Int))))
 (cond (i1 == 11)
 (some (8, 0, (IntKind.i64.wrap (1 + (Int.tmod i2 8))), (IntKind.i64.wrap (1 + (IntKind.i64.wrap (4 * i4)))), ([] : List Int), ([] : List (List Int))))
 (cond (i1 == 12)
 ((F_tale_bytes i4 i3).bind fun l6 =>
 some (9, 0, (IntKind.i64.wrap (1 + (Int.tmod i2 8))), 0, l6, ([] : List (List Int))))
 (cond ((i1 == 13) && ((Int.tmod i4 8) == 0))
 (some (11, 0, (IntKind.i64.wrap (1 + (Int.tmod i2 8))), 0, ([] : List Int), ([] : List (List Int))))
 (cond (i1 == 13)
 (some (10, 0, (IntKind.i64.wrap (1 + (Int.tmod i2 8))), 0, ([] : List Int), ([] : List (List Int))))
 (cond (i1 == 14)
 (some (1, 0, 0, (IntKind.i64.wrap (1 + i4)), ([] : List Int), ([] : List (List Int))))
 (cond ((i1 == 15) && ((Int.tmod i4 8) == 0))
 (some (4, (IntKind.i64.wrap (1 + (Int.tmod i2 3))), 0, 0, ([] : List Int), ([] : List (List Int))))
 (cond ((i1 == 15) && ((Int.tmod i4 8) == 1))
 (some (12, 0, 0, 0, ([] : List Int), ([] : List (List Int))))
 ((F_tale_feeds i1 i2 i3 i4).bind fun l7 =>
 some (3, (IntKind.i64.wrap (1 + (Int.tmod i2 3))), 0, 0, l7, ([] : List (List Int))))))))))))))
def F_tale_event_sig : Sig := ⟨[.v false [.d (.int .i64)], .v false [.d (.int .i64)], .v false [.d (.int .i64)], .v false [.d (.int .i64)]], [(true, [.d (.int .i64), .d (.int .i64), .d (.int .i64), .d (.int .i64), .own 5 (.int .u8), .own 9 .str])], []⟩
def F_tale_event_ann : List (Nat × Ann) := []
noncomputable def F_tale_event_env : Env := ⟨Tryz.prog, [(149, ⟨F_tale_answers_sig, ⟨F_tale_answers⟩⟩), (150, ⟨F_tale_bytes_sig, ⟨F_tale_bytes⟩⟩), (151, ⟨F_tale_feeds_sig, ⟨F_tale_feeds⟩⟩)], []⟩
theorem F_tale_event_text : pvFn F_tale_event_env F_tale_event_ann Tryz.f107 F_tale_event_sig = F_tale_event := by kernel_rfl
noncomputable def F_tale_Events_L3 (s : List Int × List (Int × Int × Int × Int × List Int × List (List Int))) : Option (((List (Int × Int × Int × Int × List Int × List (List Int))) ⊕ (List (Int × Int × Int × Int × List Int × List (List Int)))) ⊕ (List Int × List (Int × Int × Int × Int × List Int × List (List Int)))) :=
 let l2 := s.1; let l3 := s.2
 cond ((decide ((l2.length : Int) ≥ 4)) && (decide ((l3.length : Int) < 300)))
 ((getI l2 0).bind fun i4 =>
 (getI l2 1).bind fun i5 =>
 (getI l2 2).bind fun i6 =>
 (getI l2 3).bind fun i7 =>
 (F_tale_event (Int.tmod (IntKind.i64.wrap i4) 16) (IntKind.i64.wrap i5) (IntKind.i64.wrap i6) (IntKind.i64.wrap i7)).bind fun x8 =>
 chk (decide ((l3.length + ([(x8.1, x8.2.1, x8.2.2.1, x8.2.2.2.1, x8.2.2.2.2.1, x8.2.2.2.2.2)] : List (Int × Int × Int × Int × List Int × List (List Int))).length) * 80 ≤ 140737488355328) && decide (l3.length + ([(x8.1, x8.2.1, x8.2.2.1, x8.2.2.2.1, x8.2.2.2.2.1, x8.2.2.2.2.2)] : List (Int × Int × Int × Int × List Int × List (List Int))).length ≤ maxLen))
 ((cutI l2 4 (l2.length : Int)).bind fun l9 =>
 some (.inr (l9, (l3 ++ ([(x8.1, x8.2.1, x8.2.2.1, x8.2.2.2.1, x8.2.2.2.2.1, x8.2.2.2.2.2)] : List (Int × Int × Int × Int × List Int × List (List Int))))))))
 (some (.inl (.inr l3)))
noncomputable def F_tale_Events_J2 (s : List (Int × Int × Int × Int × List Int × List (List Int))) : Option (List (Int × Int × Int × Int × List Int × List (List Int))) :=
 let l10 := s
 some l10
noncomputable def F_tale_Events (l1 : List Int) : Option (List (Int × Int × Int × Int × List Int × List (List Int))) :=
 joinC (S := List (Int × Int × Int × Int × List Int × List (List Int))) (R := List (Int × Int × Int × Int × List Int × List (List Int)))
 (loopC (S := List Int × List (Int × Int × Int × Int × List Int × List (List Int))) (R := (List (Int × Int × Int × Int × List Int × List (List Int))) ⊕ (List (Int × Int × Int × Int × List Int × List (List Int)))) (F_tale_Events_L3) (l1, ([] : List (Int × Int × Int × Int × List Int × List (List Int)))))
 (F_tale_Events_J2)
def F_tale_Events_sig : Sig := ⟨[.v false [.d (.sl (.int .u8))]], [(false, [.own 161 (.pr (.int .i64) (.pr (.int .i64) (.pr (.int .i64) (.pr (.int .i64) (.pr (.sl (.int .u8)) (.sl .str))))))])], []⟩
def F_tale_Events_ann : List (Nat × Ann) := [(2, ⟨3, [(3, false, [.own 161 (.pr (.int .i64) (.pr (.int .i64) (.pr (.int .i64) (.pr (.int .i64) (.pr (.sl (.int .u8)) (.sl .str))))))])], [], ([0] ++ List.range' 4 31), [], [], []⟩), (3, ⟨4, [(0, false, [.d (.sl (.int .u8))]), (3, false, [.own 161 (.pr (.int .i64) (.pr (.int .i64) (.pr (.int .i64) (.pr (.int .i64) (.pr (.sl (.int .u8)) (.sl .str))))))])], [], (List.range' 4 31), [], [], []⟩)]
noncomputable def F_tale_Events_env : Env := ⟨Tryz.prog, [(107, ⟨F_tale_event_sig, ⟨F_tale_event⟩⟩)], []⟩
theorem F_tale_Events_text : pvFn F_tale_Events_env F_tale_Events_ann Tryz.f55 F_tale_Events_sig = F_tale_Events := by kernel_rfl
noncomputable def F_wlvlaw28_first : Option (Bool) :=
 (F_tale_Hello).bind fun l1 =>
 cond ((l1.length : Int) == 33)
 ((F_tale_Events ([0, 0, 0] : List Int)).bind fun l2 =>
 some ((l2.length : Int) == 0))
 (some false)
def F_wlvlaw28_first_sig : Sig := ⟨[], [(false, [.d .bool])], []⟩
def F_wlvlaw28_first_ann : List (Nat × Ann) := []
noncomputable def F_wlvlaw28_first_env : Env := ⟨Tryz.prog, [(54, ⟨F_tale_Hello_sig, ⟨F_tale_Hello⟩⟩), (55, ⟨F_tale_Events_sig, ⟨F_tale_Events⟩⟩)], []⟩
theorem F_wlvlaw28_first_text : pvFn F_wlvlaw28_first_env F_wlvlaw28_first_ann Tryz.f11 F_wlvlaw28_first_sig = F_wlvlaw28_first := by kernel_rfl
noncomputable def F_wlvlaw6_Few_L4 (l1 : List (List Int × List Int × Bool)) (s : Int × Int) : Option (((Bool) ⊕ (Int)) ⊕ (Int × Int)) :=
 let i2 := s.1; let i3 := s.2
 cond ((decide (i3 < (l1.length : Int))) && (decide (i3 < 200)))
 ((getI l1 i3).bind fun x4 =>
 (getI l1 i3).bind fun x5 =>
 some (.inr ((IntKind.i64.wrap ((IntKind.i64.wrap (i2 + (minI (x4.1.length : Int) 40001))) + (minI (x5.2.1.length : Int) 40001))), (IntKind.i64.wrap (i3 + 1)))))
 (some (.inl (.inr i2)))
noncomputable def F_wlvlaw6_Few_J2 (l1 : List (List Int × List Int × Bool)) (s : Int) : Option (Bool) :=
 let i6 := s
 some ((decide ((l1.length : Int) ≤ 200)) && (decide (i6 ≤ 40000)))
noncomputable def F_wlvlaw6_Few (l1 : List (List Int × List Int × Bool)) : Option (Bool) :=
 joinC (S := Int) (R := Bool)
 (loopC (S := Int × Int) (R := (Bool) ⊕ (Int)) (F_wlvlaw6_Few_L4 l1) (0, 0))
 (F_wlvlaw6_Few_J2 l1)
def F_wlvlaw6_Few_sig : Sig := ⟨[.v false [.d (.sl (.pr .str (.pr .str .bool)))]], [(false, [.d .bool])], []⟩
def F_wlvlaw6_Few_ann : List (Nat × Ann) := [(2, ⟨3, [(3, false, [.d (.int .i64)])], [], (List.range' 4 28), [], [], []⟩), (4, ⟨5, [(3, false, [.d (.int .i64)]), (4, false, [.d (.int .i64)])], [], (List.range' 5 27), [], [], []⟩)]
noncomputable def F_wlvlaw6_Few_env : Env := ⟨Tryz.prog, [], []⟩
theorem F_wlvlaw6_Few_text : pvFn F_wlvlaw6_Few_env F_wlvlaw6_Few_ann Tryz.f12 F_wlvlaw6_Few_sig = F_wlvlaw6_Few := by kernel_rfl
noncomputable def F_stat_Size (s1 : List Int) (s2 : List Int) (b3 : Bool) : Option (Int) :=
 some (IntKind.i64.wrap ((IntKind.i64.wrap ((s1.length : Int) + (s2.length : Int))) + 32))
def F_stat_Size_sig : Sig := ⟨[.v true [.d .str, .d .str, .d .bool]], [(false, [.d (.int .i64)])], []⟩
def F_stat_Size_ann : List (Nat × Ann) := []
noncomputable def F_stat_Size_env : Env := ⟨Tryz.prog, [], []⟩
theorem F_stat_Size_text : pvFn F_stat_Size_env F_stat_Size_ann Tryz.f158 F_stat_Size_sig = F_stat_Size := by kernel_rfl
noncomputable def F_dyn_Table_shrinks_L2 (p1 : Int) (i2 : Int) (s : Int × List (List (List Int × List Int × Bool) × Int × Int)) : Option (((List (List (List Int × List Int × Bool) × Int × Int)) ⊕ (Int × List (List (List Int × List Int × Bool) × Int × Int))) ⊕ (Int × List (List (List Int × List Int × Bool) × Int × Int))) :=
 let i4 := s.1; let l5 := s.2
 chk (nnI p1)
 ((getI l5 p1).bind fun x6 =>
 cond (decide (i4 < (x6.1.length : Int)))
 (chk (nnI p1)
 ((getI l5 p1).bind fun x7 =>
 cond (decide (x7.2.1 > i2))
 (chk (nnI p1)
 ((getI l5 p1).bind fun x8 =>
 chk (nnI p1)
 ((getI l5 p1).bind fun x9 =>
 (getI x9.1 i4).bind fun x10 =>
 (F_stat_Size x10.1 x10.2.1 x10.2.2).bind fun i11 =>
 chk (nnI p1)
 ((getI l5 p1).bind fun x12 =>
 some (.inr ((IntKind.i64.wrap (i4 + 1)), (l5.set (Int.toNat p1) (x12.1, ((IntKind.i64.wrap (x8.2.1 - i11)), x12.2.2)))))))))
 (some (.inl (.inr (i4, l5))))))
 (some (.inl (.inr (i4, l5)))))
noncomputable def F_dyn_Table_shrinks_J1 (p1 : Int) (s : Int × List (List (List Int × List Int × Bool) × Int × Int)) : Option (List (List (List Int × List Int × Bool) × Int × Int)) :=
 let i13 := s.1; let l14 := s.2
 chk (nnI p1)
 ((getI l14 p1).bind fun x15 =>
 (cutI x15.1 i13 (x15.1.length : Int)).bind fun l16 =>
 chk (nnI p1)
 ((getI l14 p1).bind fun x17 =>
 chk (eqI p1 p1)
 (some (l14.set (Int.toNat p1) (l16, x17.2)))))
noncomputable def F_dyn_Table_shrinks (p1 : Int) (i2 : Int) (l3 : List (List (List Int × List Int × Bool) × Int × Int)) : Option (List (List (List Int × List Int × Bool) × Int × Int)) :=
 joinC (S := Int × List (List (List Int × List Int × Bool) × Int × Int)) (R := List (List (List Int × List Int × Bool) × Int × Int))
 (loopC (S := Int × List (List (List Int × List Int × Bool) × Int × Int)) (R := (List (List (List Int × List Int × Bool) × Int × Int)) ⊕ (Int × List (List (List Int × List Int × Bool) × Int × Int))) (F_dyn_Table_shrinks_L2 p1 i2) (0, l3))
 (F_dyn_Table_shrinks_J1 p1)
def F_dyn_Table_shrinks_sig : Sig := ⟨[.v false [.d (.ptr 109)], .v false [.d (.int .i64)]], [], [(1000218, (.pr (.os 26 (.pr .str (.pr .str .bool))) (.pr (.int .i64) (.int .i64))), true)]⟩
def F_dyn_Table_shrinks_ann : List (Nat × Ann) := [(1, ⟨2, [(4, false, [.d (.int .i64)])], [], (List.range' 5 32), [], [(1000218, (.pr (.os 26 (.pr .str (.pr .str .bool))) (.pr (.int .i64) (.int .i64))), true)], []⟩), (2, ⟨3, [(4, false, [.d (.int .i64)])], [], (List.range' 5 32), [], [(1000218, (.pr (.os 26 (.pr .str (.pr .str .bool))) (.pr (.int .i64) (.int .i64))), true)], []⟩)]
noncomputable def F_dyn_Table_shrinks_env : Env := ⟨Tryz.prog, [(158, ⟨F_stat_Size_sig, ⟨F_stat_Size⟩⟩)], [41]⟩
theorem F_dyn_Table_shrinks_text : pvFn F_dyn_Table_shrinks_env F_dyn_Table_shrinks_ann Tryz.f152 F_dyn_Table_shrinks_sig = F_dyn_Table_shrinks := by kernel_rfl
noncomputable def F_dyn_Table_Limit (p1 : Int) (i2 : Int) (l3 : List (List (List Int × List Int × Bool) × Int × Int)) : Option (Int × List (List (List Int × List Int × Bool) × Int × Int)) :=
 cond ((decide (i2 < 0)) || (decide (i2 > 4096)))
 (some (1, l3))
 (chk (nnI p1)
 ((getI l3 p1).bind fun x4 =>
 (F_dyn_Table_shrinks p1 i2 (l3.set (Int.toNat p1) (x4.1, (x4.2.1, i2)))).bind fun l5 =>
 chk (nnI p1)
 ((getI l5 p1).bind fun x6 =>
 (F_slices_Clone_stat_Field_stat_Field x6.1).bind fun l7 =>
 chk (nnI p1)
 ((getI l5 p1).bind fun x8 =>
 chk (true)
 (some (0, (l5.set (Int.toNat p1) (l7, x8.2))))))))
def F_dyn_Table_Limit_sig : Sig := ⟨[.v false [.d (.ptr 109)], .v false [.d (.int .i64)]], [(false, [.d (.int .i64)])], [(1000218, (.pr (.os 26 (.pr .str (.pr .str .bool))) (.pr (.int .i64) (.int .i64))), true)]⟩
def F_dyn_Table_Limit_ann : List (Nat × Ann) := []
noncomputable def F_dyn_Table_Limit_env : Env := ⟨Tryz.prog, [(152, ⟨F_dyn_Table_shrinks_sig, ⟨F_dyn_Table_shrinks⟩⟩), (153, ⟨F_slices_Clone_stat_Field_stat_Field_sig, ⟨F_slices_Clone_stat_Field_stat_Field⟩⟩)], []⟩
theorem F_dyn_Table_Limit_text : pvFn F_dyn_Table_Limit_env F_dyn_Table_Limit_ann Tryz.f108 F_dyn_Table_Limit_sig = F_dyn_Table_Limit := by kernel_rfl
noncomputable def F_dyn_New (i1 : Int) (l2 : List (List (List Int × List Int × Bool) × Int × Int)) : Option (Int × Int × List (List (List Int × List Int × Bool) × Int × Int)) :=
 (F_dyn_Table_Limit (l2.length : Int) i1 (l2 ++ [(([] : List (List Int × List Int × Bool)), (0, 0))])).bind fun x3 =>
 cond (x3.1 != 0)
 (some ((-1 : Int), 1, x3.2))
 (some ((l2.length : Int), 0, x3.2))
def F_dyn_New_sig : Sig := ⟨[.v false [.d (.int .i64)]], [(false, [.d (.ptr 109)]), (false, [.d (.int .i64)])], [(1000218, (.pr (.os 26 (.pr .str (.pr .str .bool))) (.pr (.int .i64) (.int .i64))), true)]⟩
def F_dyn_New_ann : List (Nat × Ann) := []
noncomputable def F_dyn_New_env : Env := ⟨Tryz.prog, [(108, ⟨F_dyn_Table_Limit_sig, ⟨F_dyn_Table_Limit⟩⟩)], []⟩
theorem F_dyn_New_text : pvFn F_dyn_New_env F_dyn_New_ann Tryz.f56 F_dyn_New_sig = F_dyn_New := by kernel_rfl
noncomputable def F_unpack_New (l1 : List (Int × Bool)) (l2 : List (List (List Int × List Int × Bool) × Int × Int)) : Option (Int × List (Int × Bool) × List (List (List Int × List Int × Bool) × Int × Int)) :=
 (F_dyn_New 4096 l2).bind fun x3 =>
 some ((l1.length : Int), (l1 ++ [(x3.1, false)]), x3.2.2)
def F_unpack_New_sig : Sig := ⟨[], [(false, [.d (.ptr 99)])], [(1000198, (.pr (.ptr 109) .bool), true), (1000218, (.pr (.os 26 (.pr .str (.pr .str .bool))) (.pr (.int .i64) (.int .i64))), true)]⟩
def F_unpack_New_ann : List (Nat × Ann) := []
noncomputable def F_unpack_New_env : Env := ⟨Tryz.prog, [(56, ⟨F_dyn_New_sig, ⟨F_dyn_New⟩⟩)], []⟩
theorem F_unpack_New_text : pvFn F_unpack_New_env F_unpack_New_ann Tryz.f13 F_unpack_New_sig = F_unpack_New := by kernel_rfl
noncomputable def F_pint_Get_G1_0 (l1 : List Int) (s : Int × Int) : Option ((Int × Int × Int) ⊕ (Nat × Int × Int)) :=
 let i10 := s.1; let i11 := s.2
 cond (i11 == (l1.length : Int))
 (some (.inl (0, 0, 4)))
 ((getI l1 i11).bind fun i12 =>
 chk (decide (0 ≤ (IntKind.i64.wrap (7 * (IntKind.i64.wrap (i11 - 1))))))
 (cond (decide ((IntKind.i64.wrap (i10 + (IntKind.i64.wrap ((IntKind.i64.wrap (bits .and .u8 i12 127)) * 2 ^ (min ((IntKind.i64.wrap (7 * (IntKind.i64.wrap (i11 - 1))))).toNat 64))))) > 2147483647))
 (some (.inl (0, 0, 1)))
 (cond ((IntKind.i64.wrap (i11 + 1)) == 6)
 ((getI l1 (IntKind.i64.wrap ((IntKind.i64.wrap (i11 + 1)) - 1))).bind fun i13 =>
 cond (decide (i13 ≥ 128))
 (some (.inl (0, 0, 1)))
 ((getI l1 (IntKind.i64.wrap ((IntKind.i64.wrap (i11 + 1)) - 1))).bind fun i14 =>
 cond (decide (i14 ≥ 128))
 (some (.inr (0, ((IntKind.i64.wrap (i10 + (IntKind.i64.wrap ((IntKind.i64.wrap (bits .and .u8 i12 127)) * 2 ^ (min ((IntKind.i64.wrap (7 * (IntKind.i64.wrap (i11 - 1))))).toNat 64))))), (IntKind.i64.wrap (i11 + 1))))))
 (some (.inl ((IntKind.i64.wrap (i10 + (IntKind.i64.wrap ((IntKind.i64.wrap (bits .and .u8 i12 127)) * 2 ^ (min ((IntKind.i64.wrap (7 * (IntKind.i64.wrap (i11 - 1))))).toNat 64))))), (IntKind.i64.wrap (i11 + 1)), 0)))))
 ((getI l1 (IntKind.i64.wrap ((IntKind.i64.wrap (i11 + 1)) - 1))).bind fun i15 =>
 cond (decide (i15 ≥ 128))
 (some (.inr (0, ((IntKind.i64.wrap (i10 + (IntKind.i64.wrap ((IntKind.i64.wrap (bits .and .u8 i12 127)) * 2 ^ (min ((IntKind.i64.wrap (7 * (IntKind.i64.wrap (i11 - 1))))).toNat 64))))), (IntKind.i64.wrap (i11 + 1))))))
 (some (.inl ((IntKind.i64.wrap (i10 + (IntKind.i64.wrap ((IntKind.i64.wrap (bits .and .u8 i12 127)) * 2 ^ (min ((IntKind.i64.wrap (7 * (IntKind.i64.wrap (i11 - 1))))).toNat 64))))), (IntKind.i64.wrap (i11 + 1)), 0)))))))
noncomputable def F_pint_Get_G1 (l1 : List Int) (p : Nat × Int × Int) : Option ((Int × Int × Int) ⊕ (Nat × Int × Int)) :=
 cond (hasN [0] p.1) (F_pint_Get_G1_0 l1 p.2) (none)
noncomputable def F_pint_Get (l1 : List Int) (i2 : Int) : Option (Int × Int × Int) :=
 joinC (S := Nat × Int × Int) (R := Int × Int × Int)
 ((F_pint_ones i2).bind fun i3 =>
 cond (i3 == 0)
 (some (.inl (0, 0, 1)))
 (cond ((l1.length : Int) == 0)
 (some (.inl (0, 0, 4)))
 ((getI l1 0).bind fun i4 =>
 cond (decide ((bits .and .i64 (IntKind.i64.wrap i4) i3) < i3))
 (some (.inl ((bits .and .i64 (IntKind.i64.wrap i4) i3), 1, 0)))
 (cond (1 == (l1.length : Int))
 (some (.inl (0, 0, 4)))
 ((getI l1 1).bind fun i5 =>
 chk (decide (0 ≤ (IntKind.i64.wrap (7 * (IntKind.i64.wrap (1 - 1))))))
 (cond (decide ((IntKind.i64.wrap ((bits .and .i64 (IntKind.i64.wrap i4) i3) + (IntKind.i64.wrap ((IntKind.i64.wrap (bits .and .u8 i5 127)) * 2 ^ (min ((IntKind.i64.wrap (7 * (IntKind.i64.wrap (1 - 1))))).toNat 64))))) > 2147483647))
 (some (.inl (0, 0, 1)))
 (cond ((IntKind.i64.wrap (1 + 1)) == 6)
 ((getI l1 (IntKind.i64.wrap ((IntKind.i64.wrap (1 + 1)) - 1))).bind fun i6 =>
 cond (decide (i6 ≥ 128))
 (some (.inl (0, 0, 1)))
 ((getI l1 (IntKind.i64.wrap ((IntKind.i64.wrap (1 + 1)) - 1))).bind fun i7 =>
 cond (decide (i7 ≥ 128))
 (some (.inr (0, ((IntKind.i64.wrap ((bits .and .i64 (IntKind.i64.wrap i4) i3) + (IntKind.i64.wrap ((IntKind.i64.wrap (bits .and .u8 i5 127)) * 2 ^ (min ((IntKind.i64.wrap (7 * (IntKind.i64.wrap (1 - 1))))).toNat 64))))), (IntKind.i64.wrap (1 + 1))))))
 (some (.inl ((IntKind.i64.wrap ((bits .and .i64 (IntKind.i64.wrap i4) i3) + (IntKind.i64.wrap ((IntKind.i64.wrap (bits .and .u8 i5 127)) * 2 ^ (min ((IntKind.i64.wrap (7 * (IntKind.i64.wrap (1 - 1))))).toNat 64))))), (IntKind.i64.wrap (1 + 1)), 0)))))
 ((getI l1 (IntKind.i64.wrap ((IntKind.i64.wrap (1 + 1)) - 1))).bind fun i9 =>
 cond (decide (i9 ≥ 128))
 (some (.inr (0, ((IntKind.i64.wrap ((bits .and .i64 (IntKind.i64.wrap i4) i3) + (IntKind.i64.wrap ((IntKind.i64.wrap (bits .and .u8 i5 127)) * 2 ^ (min ((IntKind.i64.wrap (7 * (IntKind.i64.wrap (1 - 1))))).toNat 64))))), (IntKind.i64.wrap (1 + 1))))))
 (some (.inl ((IntKind.i64.wrap ((bits .and .i64 (IntKind.i64.wrap i4) i3) + (IntKind.i64.wrap ((IntKind.i64.wrap (bits .and .u8 i5 127)) * 2 ^ (min ((IntKind.i64.wrap (7 * (IntKind.i64.wrap (1 - 1))))).toNat 64))))), (IntKind.i64.wrap (1 + 1)), 0)))))))))))
 (fun p => loopC (S := Nat × Int × Int) (R := Int × Int × Int) (F_pint_Get_G1 l1) p)
def F_pint_Get_sig : Sig := ⟨[.v false [.d (.sl (.int .u8))], .v false [.d (.int .i64)]], [(false, [.d (.int .i64)]), (false, [.d (.int .i64)]), (false, [.d (.int .i64)])], []⟩
def F_pint_Get_ann : List (Nat × Ann) := [(1, ⟨2, [(8, false, [.d (.int .i64)]), (9, false, [.d (.int .i64)])], [], ([4, 5, 6, 7] ++ List.range' 10 58), [], [], []⟩)]
noncomputable def F_pint_Get_env : Env := ⟨Tryz.prog, [(159, ⟨F_pint_ones_sig, ⟨F_pint_ones⟩⟩)], []⟩
theorem F_pint_Get_text : pvFn F_pint_Get_env F_pint_Get_ann Tryz.f155 F_pint_Get_sig = F_pint_Get := by kernel_rfl
noncomputable def F_unpack_block_number (l1 : List Int) (p2 : Int) (i3 : Int) (i4 : Int) (l5 : List (List Int × List Int × Bool)) (i6 : Int) : Option (Int × Bool × List Int × Int × Int × Int × List (List Int × List Int × Bool)) :=
 (F_pint_Get l1 i6).bind fun x7 =>
 cond (x7.2.2 != 0)
 (some (0, false, l1, p2, i3, i4, l5))
 ((cutI l1 x7.2.1 (l1.length : Int)).bind fun l8 =>
 some (x7.1, true, l8, p2, i3, i4, l5))
def F_unpack_block_number_sig : Sig := ⟨[.m [.d (.sl (.int .u8)), .d (.ptr 109), .d (.int .i64), .d (.int .i64), .own 26 (.pr .str (.pr .str .bool))], .v false [.d (.int .i64)]], [(false, [.d (.int .i64)]), (false, [.d .bool])], []⟩
def F_unpack_block_number_ann : List (Nat × Ann) := []
noncomputable def F_unpack_block_number_env : Env := ⟨Tryz.prog, [(155, ⟨F_pint_Get_sig, ⟨F_pint_Get⟩⟩)], [25]⟩
theorem F_unpack_block_number_text : pvFn F_unpack_block_number_env F_unpack_block_number_ann Tryz.f110 F_unpack_block_number_sig = F_unpack_block_number := by kernel_rfl
noncomputable def F_internal_stringslite_Cut (s1 : List Int) (s2 : List Int) : Option (List Int × List Int × Bool) :=
 (F_internal_stringslite_Index s1 s2).bind fun i3 =>
 cond (decide (i3 ≥ 0))
 ((cutI s1 0 i3).bind fun s4 =>
 (cutI s1 (IntKind.i64.wrap (i3 + (s2.length : Int))) (s1.length : Int)).bind fun s5 =>
 some (s4, s5, true))
 (some (s1, ([] : List Int), false))
def F_internal_stringslite_Cut_sig : Sig := ⟨[.v false [.d .str], .v false [.d .str]], [(false, [.d .str]), (false, [.d .str]), (false, [.d .bool])], []⟩
def F_internal_stringslite_Cut_ann : List (Nat × Ann) := []
noncomputable def F_internal_stringslite_Cut_env : Env := ⟨Tryz.prog, [(224, ⟨F_internal_stringslite_Index_sig, ⟨F_internal_stringslite_Index⟩⟩)], []⟩
theorem F_internal_stringslite_Cut_text : pvFn F_internal_stringslite_Cut_env F_internal_stringslite_Cut_ann Tryz.f218 F_internal_stringslite_Cut_sig = F_internal_stringslite_Cut := by kernel_rfl
noncomputable def F_strings_Cut (s1 : List Int) (s2 : List Int) : Option (List Int × List Int × Bool) :=
 (F_internal_stringslite_Cut s1 s2).bind fun x3 =>
 some (x3.1, x3.2.1, x3.2.2)
def F_strings_Cut_sig : Sig := ⟨[.v false [.d .str], .v false [.d .str]], [(false, [.d .str]), (false, [.d .str]), (false, [.d .bool])], []⟩
def F_strings_Cut_ann : List (Nat × Ann) := []
noncomputable def F_strings_Cut_env : Env := ⟨Tryz.prog, [(218, ⟨F_internal_stringslite_Cut_sig, ⟨F_internal_stringslite_Cut⟩⟩)], []⟩
theorem F_strings_Cut_text : pvFn F_strings_Cut_env F_strings_Cut_ann Tryz.f205 F_strings_Cut_sig = F_strings_Cut := by kernel_rfl
noncomputable def F_stat_split (s1 : List Int) : Option (List Int × List Int × Bool) :=
 (F_strings_Cut s1 ([32] : List Int)).bind fun x2 =>
 some (x2.1, x2.2.1, false)
def F_stat_split_sig : Sig := ⟨[.v false [.d .str]], [(true, [.d .str, .d .str, .d .bool])], []⟩
def F_stat_split_ann : List (Nat × Ann) := []
noncomputable def F_stat_split_env : Env := ⟨Tryz.prog, [(205, ⟨F_strings_Cut_sig, ⟨F_strings_Cut⟩⟩)], []⟩
theorem F_stat_split_text : pvFn F_stat_split_env F_stat_split_ann Tryz.f182 F_stat_split_sig = F_stat_split := by kernel_rfl
noncomputable def F_stat_Get (i1 : Int) : Option (List Int × List Int × Bool × Bool) :=
 cond ((decide (i1 < 1)) || (decide (i1 > 61)))
 (some (([] : List Int), ([] : List Int), false, false))
 ((F_strings_Split ([58, 97, 117, 116, 104, 111, 114, 105, 116, 121, 124, 58, 109, 101, 116, 104, 111, 100, 32, 71, 69, 84, 124, 58, 109, 101, 116, 104, 111, 100, 32, 80, 79, 83, 84, 124, 58, 112, 97, 116, 104, 32, 47, 124, 58, 112, 97, 116, 104, 32, 47, 105, 110, 100, 101, 120, 46, 104, 116, 109, 108, 124, 58, 115, 99, 104, 101, 109, 101, 32, 104, 116, 116, 112, 124, 58, 115, 99, 104, 101, 109, 101, 32, 104, 116, 116, 112, 115, 124, 58, 115, 116, 97, 116, 117, 115, 32, 50, 48, 48, 124, 58, 115, 116, 97, 116, 117, 115, 32, 50, 48, 52, 124, 58, 115, 116, 97, 116, 117, 115, 32, 50, 48, 54, 124, 58, 115, 116, 97, 116, 117, 115, 32, 51, 48, 52, 124, 58, 115, 116, 97, 116, 117, 115, 32, 52, 48, 48, 124, 58, 115, 116, 97, 116, 117, 115, 32, 52, 48, 52, 124, 58, 115, 116, 97, 116, 117, 115, 32, 53, 48, 48, 124, 97, 99, 99, 101, 112, 116, 45, 99, 104, 97, 114, 115, 101, 116, 124, 97, 99, 99, 101, 112, 116, 45, 101, 110, 99, 111, 100, 105, 110, 103, 32, 103, 122, 105, 112, 44, 32, 100, 101, 102, 108, 97, 116, 101, 124, 97, 99, 99, 101, 112, 116, 45, 108, 97, 110, 103, 117, 97, 103, 101, 124, 97, 99, 99, 101, 112, 116, 45, 114, 97, 110, 103, 101, 115, 124, 97, 99, 99, 101, 112, 116, 124, 97, 99, 99, 101, 115, 115, 45, 99, 111, 110, 116, 114, 111, 108, 45, 97, 108, 108, 111, 119, 45, 111, 114, 105, 103, 105, 110, 124, 97, 103, 101, 124, 97, 108, 108, 111, 119, 124, 97, 117, 116, 104, 111, 114, 105, 122, 97, 116, 105, 111, 110, 124, 99, 97, 99, 104, 101, 45, 99, 111, 110, 116, 114, 111, 108, 124, 99, 111, 110, 116, 101, 110, 116, 45, 100, 105, 115, 112, 111, 115, 105, 116, 105, 111, 110, 124, 99, 111, 110, 116, 101, 110, 116, 45, 101, 110, 99, 111, 100, 105, 110, 103, 124, 99, 111, 110, 116, 101, 110, 116, 45, 108, 97, 110, 103, 117, 97, 103, 101, 124, 99, 111, 110, 116, 101, 110, 116, 45, 108, 101, 110, 103, 116, 104, 124, 99, 111, 110, 116, 101, 110, 116, 45, 108, 111, 99, 97, 116, 105, 111, 110, 124, 99, 111, 110, 116, 101, 110, 116, 45, 114, 97, 110, 103, 101, 124, 99, 111, 110, 116, 101, 110, 116, 45, 116, 121, 112, 101, 124, 99, 111, 111, 107, 105, 101, 124, 100, 97, 116, 101, 124, 101, 116, 97, 103, 124, 101, 120, 112, 101, 99, 116, 124, 101, 120, 112, 105, 114, 101, 115, 124, 102, 114, 111, 109, 124, 104, 111, 115, 116, 124, 105, 102, 45, 109, 97, 116, 99, 104, 124, 105, 102, 45, 109, 111, 100, 105, 102, 105, 101, 100, 45, 115, 105, 110, 99, 101, 124, 105, 102, 45, 110, 111, 110, 101, 45, 109, 97, 116, 99, 104, 124, 105, 102, 45, 114, 97, 110, 103, 101, 124, 105, 102, 45, 117, 110, 109, 111, 100, 105, 102, 105, 101, 100, 45, 115, 105, 110, 99, 101, 124, 108, 97, 115, 116, 45, 109, 111, 100, 105, 102, 105, 101, 100, 124, 108, 105, 110, 107, 124, 108, 111, 99, 97, 116, 105, 111, 110, 124, 109, 97, 120, 45, 102, 111, 114, 119, 97, 114, 100, 115, 124, 112, 114, 111, 120, 121, 45, 97, 117, 116, 104, 101, 110, 116, 105, 99, 97, 116, 101, 124, 112, 114, 111, 120, 121, 45, 97, 117, 116, 104, 111, 114, 105, 122, 97, 116, 105, 111, 110, 124, 114, 97, 110, 103, 101, 124, 114, 101, 102, 101, 114, 101, 114, 124, 114, 101, 102, 114, 101, 115, 104, 124, 114, 101, 116, 114, 121, 45, 97, 102, 116, 101, 114, 124, 115, 101, 114, 118, 101, 114, 124, 115, 101, 116, 45, 99, 111, 111, 107, 105, 101, 124, 115, 116, 114, 105, 99, 116, 45, 116, 114, 97, 110, 115, 112, 111, 114, 116, 45, 115, 101, 99, 117, 114, 105, 116, 121, 124, 116, 114, 97, 110, 115, 102, 101, 114, 45, 101, 110, 99, 111, 100, 105, 110, 103, 124, 117, 115, 101, 114, 45, 97, 103, 101, 110, 116, 124, 118, 97, 114, 121, 124, 118, 105, 97, 124, 119, 119, 119, 45, 97, 117, 116, 104, 101, 110, 116, 105, 99, 97, 116, 101] : List Int) ([124] : List Int)).bind fun l2 =>
 (getI l2 (IntKind.i64.wrap (i1 - 1))).bind fun s3 =>
 (F_stat_split s3).bind fun x4 =>
 some (x4.1, x4.2.1, x4.2.2, true))
def F_stat_Get_sig : Sig := ⟨[.v false [.d (.int .i64)]], [(true, [.d .str, .d .str, .d .bool]), (false, [.d .bool])], []⟩
def F_stat_Get_ann : List (Nat × Ann) := []
noncomputable def F_stat_Get_env : Env := ⟨Tryz.prog, [(182, ⟨F_stat_split_sig, ⟨F_stat_split⟩⟩), (183, ⟨F_strings_Split_sig, ⟨F_strings_Split⟩⟩)], []⟩
theorem F_stat_Get_text : pvFn F_stat_Get_env F_stat_Get_ann Tryz.f156 F_stat_Get_sig = F_stat_Get := by kernel_rfl
noncomputable def F_dyn_Table_Get (p1 : Int) (i2 : Int) (l3 : List (List (List Int × List Int × Bool) × Int × Int)) : Option (List Int × List Int × Bool × Bool) :=
 cond (decide (i2 < 1))
 (some (([] : List Int), ([] : List Int), false, false))
 (chk (nnI p1)
 ((getI l3 p1).bind fun x4 =>
 cond (decide (i2 > (x4.1.length : Int)))
 (some (([] : List Int), ([] : List Int), false, false))
 (chk (nnI p1)
 ((getI l3 p1).bind fun x5 =>
 chk (nnI p1)
 ((getI l3 p1).bind fun x6 =>
 (getI x5.1 (IntKind.i64.wrap ((x6.1.length : Int) - i2))).bind fun x7 =>
 some (x7.1, x7.2.1, x7.2.2, true))))))
def F_dyn_Table_Get_sig : Sig := ⟨[.v false [.d (.ptr 109)], .v false [.d (.int .i64)]], [(true, [.d .str, .d .str, .d .bool]), (false, [.d .bool])], [(1000218, (.pr (.os 26 (.pr .str (.pr .str .bool))) (.pr (.int .i64) (.int .i64))), false)]⟩
def F_dyn_Table_Get_ann : List (Nat × Ann) := []
noncomputable def F_dyn_Table_Get_env : Env := ⟨Tryz.prog, [], []⟩
theorem F_dyn_Table_Get_text : pvFn F_dyn_Table_Get_env F_dyn_Table_Get_ann Tryz.f157 F_dyn_Table_Get_sig = F_dyn_Table_Get := by kernel_rfl
noncomputable def F_unpack_block_at (l1 : List Int) (p2 : Int) (i3 : Int) (i4 : Int) (l5 : List (List Int × List Int × Bool)) (i6 : Int) (l7 : List (List (List Int × List Int × Bool) × Int × Int)) : Option (List Int × List Int × Bool × Bool × List Int × Int × Int × Int × List (List Int × List Int × Bool)) :=
 cond (decide (i6 ≤ 61))
 ((F_stat_Get i6).bind fun x8 =>
 some (x8.1, x8.2.1, x8.2.2.1, x8.2.2.2, l1, p2, i3, i4, l5))
 ((F_dyn_Table_Get p2 (IntKind.i64.wrap (i6 - 61)) l7).bind fun x9 =>
 some (x9.1, x9.2.1, x9.2.2.1, x9.2.2.2, l1, p2, i3, i4, l5))
def F_unpack_block_at_sig : Sig := ⟨[.m [.d (.sl (.int .u8)), .d (.ptr 109), .d (.int .i64), .d (.int .i64), .own 26 (.pr .str (.pr .str .bool))], .v false [.d (.int .i64)]], [(true, [.d .str, .d .str, .d .bool]), (false, [.d .bool])], [(1000218, (.pr (.os 26 (.pr .str (.pr .str .bool))) (.pr (.int .i64) (.int .i64))), false)]⟩
def F_unpack_block_at_ann : List (Nat × Ann) := []
noncomputable def F_unpack_block_at_env : Env := ⟨Tryz.prog, [(156, ⟨F_stat_Get_sig, ⟨F_stat_Get⟩⟩), (157, ⟨F_dyn_Table_Get_sig, ⟨F_dyn_Table_Get⟩⟩)], []⟩
theorem F_unpack_block_at_text : pvFn F_unpack_block_at_env F_unpack_block_at_ann Tryz.f111 F_unpack_block_at_sig = F_unpack_block_at := by kernel_rfl
noncomputable def F_unpack_block_text (l1 : List Int) (p2 : Int) (i3 : Int) (i4 : Int) (l5 : List (List Int × List Int × Bool)) : Option (List Int × Bool × List Int × Int × Int × Int × List (List Int × List Int × Bool)) :=
 cond (decide ((l1.length : Int) > 0))
 ((getI l1 0).bind fun i6 =>
 (F_unpack_block_number l1 p2 i3 i4 l5 7).bind fun x7 =>
 cond ((!x7.2.1) || (decide (x7.1 > 16384)))
 (some (([] : List Int), false, x7.2.2.1, x7.2.2.2.1, x7.2.2.2.2.1, x7.2.2.2.2.2.1, x7.2.2.2.2.2.2))
 (cond (decide (x7.1 > (x7.2.2.1.length : Int)))
 (some (([] : List Int), false, x7.2.2.1, x7.2.2.2.1, x7.2.2.2.2.1, x7.2.2.2.2.2.1, x7.2.2.2.2.2.2))
 ((cutI x7.2.2.1 0 x7.1).bind fun l8 =>
 (cutI x7.2.2.1 x7.1 (x7.2.2.1.length : Int)).bind fun l9 =>
 cond (decide ((bits .and .u8 i6 128) > 0))
 (none)
 (some (l8, true, l9, x7.2.2.2.1, x7.2.2.2.2.1, x7.2.2.2.2.2.1, x7.2.2.2.2.2.2)))))
 ((F_unpack_block_number l1 p2 i3 i4 l5 7).bind fun x10 =>
 cond ((!x10.2.1) || (decide (x10.1 > 16384)))
 (some (([] : List Int), false, x10.2.2.1, x10.2.2.2.1, x10.2.2.2.2.1, x10.2.2.2.2.2.1, x10.2.2.2.2.2.2))
 (cond (decide (x10.1 > (x10.2.2.1.length : Int)))
 (some (([] : List Int), false, x10.2.2.1, x10.2.2.2.1, x10.2.2.2.2.1, x10.2.2.2.2.2.1, x10.2.2.2.2.2.2))
 ((cutI x10.2.2.1 0 x10.1).bind fun l11 =>
 (cutI x10.2.2.1 x10.1 (x10.2.2.1.length : Int)).bind fun l12 =>
 some (l11, true, l12, x10.2.2.2.1, x10.2.2.2.2.1, x10.2.2.2.2.2.1, x10.2.2.2.2.2.2))))
def F_unpack_block_text_sig : Sig := ⟨[.m [.d (.sl (.int .u8)), .d (.ptr 109), .d (.int .i64), .d (.int .i64), .own 26 (.pr .str (.pr .str .bool))]], [(false, [.d .str]), (false, [.d .bool])], []⟩
def F_unpack_block_text_ann : List (Nat × Ann) := []
noncomputable def F_unpack_block_text_env : Env := ⟨Tryz.prog, [(110, ⟨F_unpack_block_number_sig, ⟨F_unpack_block_number⟩⟩)], [56]⟩
theorem F_unpack_block_text_text : pvFn F_unpack_block_text_env F_unpack_block_text_ann Tryz.f154 F_unpack_block_text_sig = F_unpack_block_text := by kernel_rfl
noncomputable def F_unpack_block_literal (l1 : List Int) (p2 : Int) (i3 : Int) (i4 : Int) (l5 : List (List Int × List Int × Bool)) (i6 : Int) (l7 : List (List (List Int × List Int × Bool) × Int × Int)) : Option (List Int × List Int × Bool × Bool × List Int × Int × Int × Int × List (List Int × List Int × Bool)) :=
 (F_unpack_block_number l1 p2 i3 i4 l5 i6).bind fun x8 =>
 cond (!x8.2.1)
 (some (([] : List Int), ([] : List Int), false, false, x8.2.2.1, x8.2.2.2.1, x8.2.2.2.2.1, x8.2.2.2.2.2.1, x8.2.2.2.2.2.2))
 (cond (decide (x8.1 > 0))
 ((F_unpack_block_at x8.2.2.1 x8.2.2.2.1 x8.2.2.2.2.1 x8.2.2.2.2.2.1 x8.2.2.2.2.2.2 x8.1 l7).bind fun x9 =>
 cond (!x9.2.2.2.1)
 (some (([] : List Int), ([] : List Int), false, false, x9.2.2.2.2.1, x9.2.2.2.2.2.1, x9.2.2.2.2.2.2.1, x9.2.2.2.2.2.2.2.1, x9.2.2.2.2.2.2.2.2))
 ((F_unpack_block_text x9.2.2.2.2.1 x9.2.2.2.2.2.1 x9.2.2.2.2.2.2.1 x9.2.2.2.2.2.2.2.1 x9.2.2.2.2.2.2.2.2).bind fun x10 =>
 some (x9.1, x10.1, x9.2.2.1, x10.2.1, x10.2.2.1, x10.2.2.2.1, x10.2.2.2.2.1, x10.2.2.2.2.2.1, x10.2.2.2.2.2.2)))
 ((F_unpack_block_text x8.2.2.1 x8.2.2.2.1 x8.2.2.2.2.1 x8.2.2.2.2.2.1 x8.2.2.2.2.2.2).bind fun x11 =>
 cond (!x11.2.1)
 (some (([] : List Int), ([] : List Int), false, false, x11.2.2.1, x11.2.2.2.1, x11.2.2.2.2.1, x11.2.2.2.2.2.1, x11.2.2.2.2.2.2))
 ((F_unpack_block_text x11.2.2.1 x11.2.2.2.1 x11.2.2.2.2.1 x11.2.2.2.2.2.1 x11.2.2.2.2.2.2).bind fun x12 =>
 some (x11.1, x12.1, false, x12.2.1, x12.2.2.1, x12.2.2.2.1, x12.2.2.2.2.1, x12.2.2.2.2.2.1, x12.2.2.2.2.2.2))))
def F_unpack_block_literal_sig : Sig := ⟨[.m [.d (.sl (.int .u8)), .d (.ptr 109), .d (.int .i64), .d (.int .i64), .own 26 (.pr .str (.pr .str .bool))], .v false [.d (.int .i64)]], [(true, [.d .str, .d .str, .d .bool]), (false, [.d .bool])], [(1000218, (.pr (.os 26 (.pr .str (.pr .str .bool))) (.pr (.int .i64) (.int .i64))), false)]⟩
def F_unpack_block_literal_ann : List (Nat × Ann) := []
noncomputable def F_unpack_block_literal_env : Env := ⟨Tryz.prog, [(110, ⟨F_unpack_block_number_sig, ⟨F_unpack_block_number⟩⟩), (111, ⟨F_unpack_block_at_sig, ⟨F_unpack_block_at⟩⟩), (154, ⟨F_unpack_block_text_sig, ⟨F_unpack_block_text⟩⟩)], []⟩
theorem F_unpack_block_literal_text : pvFn F_unpack_block_literal_env F_unpack_block_literal_ann Tryz.f109 F_unpack_block_literal_sig = F_unpack_block_literal := by kernel_rfl
noncomputable def F_dyn_Table_Add (p1 : Int) (s2 : List Int) (s3 : List Int) (b4 : Bool) (l5 : List (List (List Int × List Int × Bool) × Int × Int)) : Option (List (List (List Int × List Int × Bool) × Int × Int)) :=
 (F_stat_Size s2 s3 b4).bind fun i6 =>
 chk (nnI p1)
 ((getI l5 p1).bind fun x7 =>
 (F_dyn_Table_shrinks p1 (IntKind.i64.wrap (x7.2.2 - i6)) l5).bind fun l8 =>
 chk (nnI p1)
 ((getI l8 p1).bind fun x9 =>
 cond (decide (i6 ≤ x9.2.2))
 (chk (nnI p1)
 ((getI l8 p1).bind fun x10 =>
 chk (decide ((x10.1.length + ([(s2, s3, false)] : List (List Int × List Int × Bool)).length) * 40 ≤ 140737488355328) && decide (x10.1.length + ([(s2, s3, false)] : List (List Int × List Int × Bool)).length ≤ maxLen))
 (chk (nnI p1)
 ((getI l8 p1).bind fun x11 =>
 chk (nnI p1)
 ((getI l8 p1).bind fun x12 =>
 chk (eqI p1 p1)
 (chk (nnI p1)
 ((getI (l8.set (Int.toNat p1) ((x10.1 ++ ([(s2, s3, false)] : List (List Int × List Int × Bool))), x12.2)) p1).bind fun x13 =>
 some ((l8.set (Int.toNat p1) ((x10.1 ++ ([(s2, s3, false)] : List (List Int × List Int × Bool))), x12.2)).set (Int.toNat p1) (x13.1, ((IntKind.i64.wrap (x11.2.1 + i6)), x13.2.2))))))))))
 (some l8)))
def F_dyn_Table_Add_sig : Sig := ⟨[.v false [.d (.ptr 109)], .v true [.d .str, .d .str, .d .bool]], [], [(1000218, (.pr (.os 26 (.pr .str (.pr .str .bool))) (.pr (.int .i64) (.int .i64))), true)]⟩
def F_dyn_Table_Add_ann : List (Nat × Ann) := []
noncomputable def F_dyn_Table_Add_env : Env := ⟨Tryz.prog, [(152, ⟨F_dyn_Table_shrinks_sig, ⟨F_dyn_Table_shrinks⟩⟩), (158, ⟨F_stat_Size_sig, ⟨F_stat_Size⟩⟩)], [27]⟩
theorem F_dyn_Table_Add_text : pvFn F_dyn_Table_Add_env F_dyn_Table_Add_ann Tryz.f112 F_dyn_Table_Add_sig = F_dyn_Table_Add := by kernel_rfl
noncomputable def F_unpack_block_keep (l1 : List Int) (p2 : Int) (i3 : Int) (i4 : Int) (l5 : List (List Int × List Int × Bool)) (s6 : List Int) (s7 : List Int) (b8 : Bool) : Option (List Int × Int × Int × Int × List (List Int × List Int × Bool)) :=
 (F_stat_Size s6 s7 b8).bind fun i9 =>
 cond (decide ((IntKind.i64.wrap (i4 + i9)) ≤ i3))
 (chk (decide ((l5.length + ([(s6, s7, b8)] : List (List Int × List Int × Bool)).length) * 40 ≤ 140737488355328) && decide (l5.length + ([(s6, s7, b8)] : List (List Int × List Int × Bool)).length ≤ maxLen))
 (some (l1, p2, i3, (IntKind.i64.wrap (i4 + i9)), (l5 ++ ([(s6, s7, b8)] : List (List Int × List Int × Bool))))))
 (some (l1, p2, i3, (IntKind.i64.wrap (i4 + i9)), l5))
def F_unpack_block_keep_sig : Sig := ⟨[.m [.d (.sl (.int .u8)), .d (.ptr 109), .d (.int .i64), .d (.int .i64), .own 26 (.pr .str (.pr .str .bool))], .v true [.d .str, .d .str, .d .bool]], [], []⟩
def F_unpack_block_keep_ann : List (Nat × Ann) := []
noncomputable def F_unpack_block_keep_env : Env := ⟨Tryz.prog, [(158, ⟨F_stat_Size_sig, ⟨F_stat_Size⟩⟩)], [26]⟩
theorem F_unpack_block_keep_text : pvFn F_unpack_block_keep_env F_unpack_block_keep_ann Tryz.f113 F_unpack_block_keep_sig = F_unpack_block_keep := by kernel_rfl
noncomputable def F_unpack_block_read_G1_0 (s : Bool × Int × Bool × List Int × List Int × Bool × List Int × Int × Int × Int × List (List Int × List Int × Bool) × List (List (List Int × List Int × Bool) × Int × Int)) : Option ((Bool × List Int × Int × Int × Int × List (List Int × List Int × Bool) × List (List (List Int × List Int × Bool) × Int × Int)) ⊕ (Nat × Bool × Int × Bool × List Int × List Int × Bool × List Int × Int × Int × Int × List (List Int × List Int × Bool) × List (List (List Int × List Int × Bool) × Int × Int))) :=
 let b9 := s.1; let i10 := s.2.1; let b11 := s.2.2.1; let s12 := s.2.2.2.1; let s13 := s.2.2.2.2.1; let b14 := s.2.2.2.2.2.1; let l15 := s.2.2.2.2.2.2.1; let p16 := s.2.2.2.2.2.2.2.1; let i17 := s.2.2.2.2.2.2.2.2.1; let i18 := s.2.2.2.2.2.2.2.2.2.1; let l19 := s.2.2.2.2.2.2.2.2.2.2.1; let l20 := s.2.2.2.2.2.2.2.2.2.2.2
 cond ((l15.length : Int) == 0)
 (some (.inl (true, l15, p16, i17, i18, l19, l20)))
 ((getI l15 0).bind fun i21 =>
 cond (decide (i21 ≥ 128))
 (some (.inr (1, (b9, i10, b11, s12, s13, b14, l15, p16, i17, i18, l19, l20))))
 (cond (decide (i21 ≥ 64))
 (some (.inr (2, (b9, i10, b11, s12, s13, b14, l15, p16, i17, i18, l19, l20))))
 (cond (decide (i21 ≥ 32))
 (some (.inr (3, (b9, i10, b11, s12, s13, b14, l15, p16, i17, i18, l19, l20))))
 ((F_unpack_block_literal l15 p16 i17 i18 l19 4 l20).bind fun x22 =>
 some (.inr (4, (x22.2.2.2.1, i10, b11, x22.1, x22.2.1, (decide (i21 ≥ 16)), x22.2.2.2.2.1, x22.2.2.2.2.2.1, x22.2.2.2.2.2.2.1, x22.2.2.2.2.2.2.2.1, x22.2.2.2.2.2.2.2.2, l20)))))))
noncomputable def F_unpack_block_read_G1_1 (s : Bool × Int × Bool × List Int × List Int × Bool × List Int × Int × Int × Int × List (List Int × List Int × Bool) × List (List (List Int × List Int × Bool) × Int × Int)) : Option ((Bool × List Int × Int × Int × Int × List (List Int × List Int × Bool) × List (List (List Int × List Int × Bool) × Int × Int)) ⊕ (Nat × Bool × Int × Bool × List Int × List Int × Bool × List Int × Int × Int × Int × List (List Int × List Int × Bool) × List (List (List Int × List Int × Bool) × Int × Int))) :=
 let b9 := s.1; let i10 := s.2.1; let b11 := s.2.2.1; let s12 := s.2.2.2.1; let s13 := s.2.2.2.2.1; let b14 := s.2.2.2.2.2.1; let l15 := s.2.2.2.2.2.2.1; let p16 := s.2.2.2.2.2.2.2.1; let i17 := s.2.2.2.2.2.2.2.2.1; let i18 := s.2.2.2.2.2.2.2.2.2.1; let l19 := s.2.2.2.2.2.2.2.2.2.2.1; let l20 := s.2.2.2.2.2.2.2.2.2.2.2
 (F_unpack_block_number l15 p16 i17 i18 l19 7).bind fun x23 =>
 cond x23.2.1
 ((F_unpack_block_at x23.2.2.1 x23.2.2.2.1 x23.2.2.2.2.1 x23.2.2.2.2.2.1 x23.2.2.2.2.2.2 x23.1 l20).bind fun x24 =>
 some (.inr (4, (x24.2.2.2.1, i10, b11, x24.1, x24.2.1, x24.2.2.1, x24.2.2.2.2.1, x24.2.2.2.2.2.1, x24.2.2.2.2.2.2.1, x24.2.2.2.2.2.2.2.1, x24.2.2.2.2.2.2.2.2, l20))))
 (some (.inr (4, (x23.2.1, i10, b11, s12, s13, b14, x23.2.2.1, x23.2.2.2.1, x23.2.2.2.2.1, x23.2.2.2.2.2.1, x23.2.2.2.2.2.2, l20))))
noncomputable def F_unpack_block_read_G1_2 (s : Bool × Int × Bool × List Int × List Int × Bool × List Int × Int × Int × Int × List (List Int × List Int × Bool) × List (List (List Int × List Int × Bool) × Int × Int)) : Option ((Bool × List Int × Int × Int × Int × List (List Int × List Int × Bool) × List (List (List Int × List Int × Bool) × Int × Int)) ⊕ (Nat × Bool × Int × Bool × List Int × List Int × Bool × List Int × Int × Int × Int × List (List Int × List Int × Bool) × List (List (List Int × List Int × Bool) × Int × Int))) :=
 let b9 := s.1; let i10 := s.2.1; let b11 := s.2.2.1; let s12 := s.2.2.2.1; let s13 := s.2.2.2.2.1; let b14 := s.2.2.2.2.2.1; let l15 := s.2.2.2.2.2.2.1; let p16 := s.2.2.2.2.2.2.2.1; let i17 := s.2.2.2.2.2.2.2.2.1; let i18 := s.2.2.2.2.2.2.2.2.2.1; let l19 := s.2.2.2.2.2.2.2.2.2.2.1; let l20 := s.2.2.2.2.2.2.2.2.2.2.2
 (F_unpack_block_literal l15 p16 i17 i18 l19 6 l20).bind fun x25 =>
 cond x25.2.2.2.1
 ((F_dyn_Table_Add x25.2.2.2.2.2.1 x25.1 x25.2.1 x25.2.2.1 l20).bind fun l26 =>
 some (.inr (4, (x25.2.2.2.1, i10, b11, x25.1, x25.2.1, x25.2.2.1, x25.2.2.2.2.1, x25.2.2.2.2.2.1, x25.2.2.2.2.2.2.1, x25.2.2.2.2.2.2.2.1, x25.2.2.2.2.2.2.2.2, l26))))
 (some (.inr (4, (x25.2.2.2.1, i10, b11, x25.1, x25.2.1, x25.2.2.1, x25.2.2.2.2.1, x25.2.2.2.2.2.1, x25.2.2.2.2.2.2.1, x25.2.2.2.2.2.2.2.1, x25.2.2.2.2.2.2.2.2, l20))))
noncomputable def F_unpack_block_read_G1_3 (s : Bool × Int × Bool × List Int × List Int × Bool × List Int × Int × Int × Int × List (List Int × List Int × Bool) × List (List (List Int × List Int × Bool) × Int × Int)) : Option ((Bool × List Int × Int × Int × Int × List (List Int × List Int × Bool) × List (List (List Int × List Int × Bool) × Int × Int)) ⊕ (Nat × Bool × Int × Bool × List Int × List Int × Bool × List Int × Int × Int × Int × List (List Int × List Int × Bool) × List (List (List Int × List Int × Bool) × Int × Int))) :=
 let b9 := s.1; let i10 := s.2.1; let b11 := s.2.2.1; let s12 := s.2.2.2.1; let s13 := s.2.2.2.2.1; let b14 := s.2.2.2.2.2.1; let l15 := s.2.2.2.2.2.2.1; let p16 := s.2.2.2.2.2.2.2.1; let i17 := s.2.2.2.2.2.2.2.2.1; let i18 := s.2.2.2.2.2.2.2.2.2.1; let l19 := s.2.2.2.2.2.2.2.2.2.2.1; let l20 := s.2.2.2.2.2.2.2.2.2.2.2
 (F_unpack_block_number l15 p16 i17 i18 l19 5).bind fun x27 =>
 cond (((!x27.2.1) || b11) || (decide ((IntKind.i64.wrap (i10 + 1)) > 2)))
 (some (.inl (false, x27.2.2.1, x27.2.2.2.1, x27.2.2.2.2.1, x27.2.2.2.2.2.1, x27.2.2.2.2.2.2, l20)))
 ((F_dyn_Table_Limit x27.2.2.2.1 x27.1 l20).bind fun x28 =>
 cond (x28.1 != 0)
 (some (.inl (false, x27.2.2.1, x27.2.2.2.1, x27.2.2.2.2.1, x27.2.2.2.2.2.1, x27.2.2.2.2.2.2, x28.2)))
 (some (.inr (0, (x27.2.1, (IntKind.i64.wrap (i10 + 1)), b11, s12, s13, b14, x27.2.2.1, x27.2.2.2.1, x27.2.2.2.2.1, x27.2.2.2.2.2.1, x27.2.2.2.2.2.2, x28.2)))))
noncomputable def F_unpack_block_read_G1_4 (s : Bool × Int × Bool × List Int × List Int × Bool × List Int × Int × Int × Int × List (List Int × List Int × Bool) × List (List (List Int × List Int × Bool) × Int × Int)) : Option ((Bool × List Int × Int × Int × Int × List (List Int × List Int × Bool) × List (List (List Int × List Int × Bool) × Int × Int)) ⊕ (Nat × Bool × Int × Bool × List Int × List Int × Bool × List Int × Int × Int × Int × List (List Int × List Int × Bool) × List (List (List Int × List Int × Bool) × Int × Int))) :=
 let b9 := s.1; let i10 := s.2.1; let b11 := s.2.2.1; let s12 := s.2.2.2.1; let s13 := s.2.2.2.2.1; let b14 := s.2.2.2.2.2.1; let l15 := s.2.2.2.2.2.2.1; let p16 := s.2.2.2.2.2.2.2.1; let i17 := s.2.2.2.2.2.2.2.2.1; let i18 := s.2.2.2.2.2.2.2.2.2.1; let l19 := s.2.2.2.2.2.2.2.2.2.2.1; let l20 := s.2.2.2.2.2.2.2.2.2.2.2
 cond (!b9)
 (some (.inl (false, l15, p16, i17, i18, l19, l20)))
 ((F_unpack_block_keep l15 p16 i17 i18 l19 s12 s13 b14).bind fun x29 =>
 some (.inr (0, (b9, i10, true, s12, s13, b14, x29.1, x29.2.1, x29.2.2.1, x29.2.2.2.1, x29.2.2.2.2, l20))))
noncomputable def F_unpack_block_read_G1 (p : Nat × Bool × Int × Bool × List Int × List Int × Bool × List Int × Int × Int × Int × List (List Int × List Int × Bool) × List (List (List Int × List Int × Bool) × Int × Int)) : Option ((Bool × List Int × Int × Int × Int × List (List Int × List Int × Bool) × List (List (List Int × List Int × Bool) × Int × Int)) ⊕ (Nat × Bool × Int × Bool × List Int × List Int × Bool × List Int × Int × Int × Int × List (List Int × List Int × Bool) × List (List (List Int × List Int × Bool) × Int × Int))) :=
 cond (hasN [0] p.1) (F_unpack_block_read_G1_0 p.2) (cond (hasN [1] p.1) (F_unpack_block_read_G1_1 p.2) (cond (hasN [2] p.1) (F_unpack_block_read_G1_2 p.2) (cond (hasN [3] p.1) (F_unpack_block_read_G1_3 p.2) (cond (hasN [4] p.1) (F_unpack_block_read_G1_4 p.2) (none)))))
noncomputable def F_unpack_block_read (l1 : List Int) (p2 : Int) (i3 : Int) (i4 : Int) (l5 : List (List Int × List Int × Bool)) (l6 : List (List (List Int × List Int × Bool) × Int × Int)) : Option (Bool × List Int × Int × Int × Int × List (List Int × List Int × Bool) × List (List (List Int × List Int × Bool) × Int × Int)) :=
 joinC (S := Nat × Bool × Int × Bool × List Int × List Int × Bool × List Int × Int × Int × Int × List (List Int × List Int × Bool) × List (List (List Int × List Int × Bool) × Int × Int)) (R := Bool × List Int × Int × Int × Int × List (List Int × List Int × Bool) × List (List (List Int × List Int × Bool) × Int × Int))
 (cond ((l1.length : Int) == 0)
 (some (.inl (true, l1, p2, i3, i4, l5, l6)))
 ((getI l1 0).bind fun i7 =>
 cond (decide (i7 ≥ 128))
 (some (.inr (1, (false, 0, false, ([] : List Int), ([] : List Int), false, l1, p2, i3, i4, l5, l6))))
 (cond (decide (i7 ≥ 64))
 (some (.inr (2, (false, 0, false, ([] : List Int), ([] : List Int), false, l1, p2, i3, i4, l5, l6))))
 (cond (decide (i7 ≥ 32))
 (some (.inr (3, (false, 0, false, ([] : List Int), ([] : List Int), false, l1, p2, i3, i4, l5, l6))))
 ((F_unpack_block_literal l1 p2 i3 i4 l5 4 l6).bind fun x8 =>
 some (.inr (4, (x8.2.2.2.1, 0, false, x8.1, x8.2.1, (decide (i7 ≥ 16)), x8.2.2.2.2.1, x8.2.2.2.2.2.1, x8.2.2.2.2.2.2.1, x8.2.2.2.2.2.2.2.1, x8.2.2.2.2.2.2.2.2, l6))))))))
 (fun p => loopC (S := Nat × Bool × Int × Bool × List Int × List Int × Bool × List Int × Int × Int × Int × List (List Int × List Int × Bool) × List (List (List Int × List Int × Bool) × Int × Int)) (R := Bool × List Int × Int × Int × Int × List (List Int × List Int × Bool) × List (List (List Int × List Int × Bool) × Int × Int)) (F_unpack_block_read_G1) p)
def F_unpack_block_read_sig : Sig := ⟨[.m [.d (.sl (.int .u8)), .d (.ptr 109), .d (.int .i64), .d (.int .i64), .own 26 (.pr .str (.pr .str .bool))]], [(false, [.d .bool])], [(1000218, (.pr (.os 26 (.pr .str (.pr .str .bool))) (.pr (.int .i64) (.int .i64))), true)]⟩
def F_unpack_block_read_ann : List (Nat × Ann) := [(1, ⟨2, [(5, false, [.d .bool]), (7, false, [.d (.int .i64)]), (8, false, [.d .bool])], [(3, [.d .str, .d .str, .d .bool]), (0, [.d (.sl (.int .u8)), .d (.ptr 109), .d (.int .i64), .d (.int .i64), .own 26 (.pr .str (.pr .str .bool))])], ([2, 3, 4, 6] ++ List.range' 9 83), [], [(1000218, (.pr (.os 26 (.pr .str (.pr .str .bool))) (.pr (.int .i64) (.int .i64))), true)], [3]⟩)]
noncomputable def F_unpack_block_read_env : Env := ⟨Tryz.prog, [(108, ⟨F_dyn_Table_Limit_sig, ⟨F_dyn_Table_Limit⟩⟩), (109, ⟨F_unpack_block_literal_sig, ⟨F_unpack_block_literal⟩⟩), (110, ⟨F_unpack_block_number_sig, ⟨F_unpack_block_number⟩⟩), (111, ⟨F_unpack_block_at_sig, ⟨F_unpack_block_at⟩⟩), (112, ⟨F_dyn_Table_Add_sig, ⟨F_dyn_Table_Add⟩⟩), (113, ⟨F_unpack_block_keep_sig, ⟨F_unpack_block_keep⟩⟩)], []⟩
theorem F_unpack_block_read_text : pvFn F_unpack_block_read_env F_unpack_block_read_ann Tryz.f58 F_unpack_block_read_sig = F_unpack_block_read := by kernel_rfl
noncomputable def F_unpack_Dec_Decode (p1 : Int) (l2 : List Int) (i3 : Int) (l4 : List (Int × Bool)) (l5 : List (List (List Int × List Int × Bool) × Int × Int)) : Option (List (List Int × List Int × Bool) × Int × List (Int × Bool) × List (List (List Int × List Int × Bool) × Int × Int)) :=
 chk (nnI p1)
 ((getI l4 p1).bind fun x6 =>
 cond x6.2
 (some (([] : List (List Int × List Int × Bool)), 5, l4, l5))
 ((F_slices_Clone_byte_byte l2).bind fun l7 =>
 chk (nnI p1)
 ((getI l4 p1).bind fun x8 =>
 (F_unpack_block_read l7 x8.1 i3 0 ([] : List (List Int × List Int × Bool)) l5).bind fun x9 =>
 cond (!x9.1)
 (chk (nnI p1)
 ((getI l4 p1).bind fun x10 =>
 some (([] : List (List Int × List Int × Bool)), 2, (l4.set (Int.toNat p1) (x10.1, true)), x9.2.2.2.2.2.2)))
 (cond (decide (x9.2.2.2.2.1 > i3))
 (some (([] : List (List Int × List Int × Bool)), 3, l4, x9.2.2.2.2.2.2))
 (some (x9.2.2.2.2.2.1, 0, l4, x9.2.2.2.2.2.2))))))
def F_unpack_Dec_Decode_sig : Sig := ⟨[.v false [.d (.ptr 99)], .v false [.d (.sl (.int .u8))], .v false [.d (.int .i64)]], [(false, [.own 26 (.pr .str (.pr .str .bool))]), (false, [.d (.int .i64)])], [(1000198, (.pr (.ptr 109) .bool), true), (1000218, (.pr (.os 26 (.pr .str (.pr .str .bool))) (.pr (.int .i64) (.int .i64))), true)]⟩
def F_unpack_Dec_Decode_ann : List (Nat × Ann) := []
noncomputable def F_unpack_Dec_Decode_env : Env := ⟨Tryz.prog, [(57, ⟨F_slices_Clone_byte_byte_sig, ⟨F_slices_Clone_byte_byte⟩⟩), (58, ⟨F_unpack_block_read_sig, ⟨F_unpack_block_read⟩⟩)], []⟩
theorem F_unpack_Dec_Decode_text : pvFn F_unpack_Dec_Decode_env F_unpack_Dec_Decode_ann Tryz.f14 F_unpack_Dec_Decode_sig = F_unpack_Dec_Decode := by kernel_rfl
noncomputable def F_unpack_Dec_Table (p1 : Int) (l2 : List (Int × Bool)) : Option (Int) :=
 chk (nnI p1)
 ((getI l2 p1).bind fun x3 =>
 some x3.1)
def F_unpack_Dec_Table_sig : Sig := ⟨[.v false [.d (.ptr 99)]], [(false, [.d (.ptr 109)])], [(1000198, (.pr (.ptr 109) .bool), false)]⟩
def F_unpack_Dec_Table_ann : List (Nat × Ann) := []
noncomputable def F_unpack_Dec_Table_env : Env := ⟨Tryz.prog, [], []⟩
theorem F_unpack_Dec_Table_text : pvFn F_unpack_Dec_Table_env F_unpack_Dec_Table_ann Tryz.f17 F_unpack_Dec_Table_sig = F_unpack_Dec_Table := by kernel_rfl
noncomputable def F_dyn_Table_Len (p1 : Int) (l2 : List (List (List Int × List Int × Bool) × Int × Int)) : Option (Int) :=
 chk (nnI p1)
 ((getI l2 p1).bind fun x3 =>
 some (x3.1.length : Int))
def F_dyn_Table_Len_sig : Sig := ⟨[.v false [.d (.ptr 109)]], [(false, [.d (.int .i64)])], [(1000218, (.pr (.os 26 (.pr .str (.pr .str .bool))) (.pr (.int .i64) (.int .i64))), false)]⟩
def F_dyn_Table_Len_ann : List (Nat × Ann) := []
noncomputable def F_dyn_Table_Len_env : Env := ⟨Tryz.prog, [], []⟩
theorem F_dyn_Table_Len_text : pvFn F_dyn_Table_Len_env F_dyn_Table_Len_ann Tryz.f18 F_dyn_Table_Len_sig = F_dyn_Table_Len := by kernel_rfl
noncomputable def F_frame_New (i1 : Int) (l2 : List (Int × List Int)) : Option (Int × List (Int × List Int)) :=
 some ((l2.length : Int), (l2 ++ [(i1, ([] : List Int))]))
def F_frame_New_sig : Sig := ⟨[.v false [.d (.int .i64)]], [(false, [.d (.ptr 111)])], [(1000222, (.pr (.int .i64) (.sl (.int .u8))), true)]⟩
def F_frame_New_ann : List (Nat × Ann) := []
noncomputable def F_frame_New_env : Env := ⟨Tryz.prog, [], []⟩
theorem F_frame_New_text : pvFn F_frame_New_env F_frame_New_ann Tryz.f19 F_frame_New_sig = F_frame_New := by kernel_rfl
noncomputable def F_frame_Parser_Feed (p1 : Int) (l2 : List Int) (l3 : List (Int × List Int)) : Option (List (Int × List Int)) :=
 chk (nnI p1)
 ((getI l3 p1).bind fun x4 =>
 (F_slices_Concat_byte_byte ([x4.2, l2] : List (List Int))).bind fun l5 =>
 chk (nnI p1)
 ((getI l3 p1).bind fun x6 =>
 some (l3.set (Int.toNat p1) (x6.1, l5))))
def F_frame_Parser_Feed_sig : Sig := ⟨[.v false [.d (.ptr 111)], .v false [.d (.sl (.int .u8))]], [], [(1000222, (.pr (.int .i64) (.sl (.int .u8))), true)]⟩
def F_frame_Parser_Feed_ann : List (Nat × Ann) := []
noncomputable def F_frame_Parser_Feed_env : Env := ⟨Tryz.prog, [(59, ⟨F_slices_Concat_byte_byte_sig, ⟨F_slices_Concat_byte_byte⟩⟩)], []⟩
theorem F_frame_Parser_Feed_text : pvFn F_frame_Parser_Feed_env F_frame_Parser_Feed_ann Tryz.f20 F_frame_Parser_Feed_sig = F_frame_Parser_Feed := by kernel_rfl
noncomputable def F_frame_Parser_Next_G1_0 (s : Int × Int × Int × List Int × List (Int × List Int)) : Option ((Int × Int × Int × List Int × Int × List (Int × List Int)) ⊕ (Nat × Int × Int × Int × List Int × List (Int × List Int))) :=
 let i30 := s.1; let i31 := s.2.1; let i33 := s.2.2.1; let l34 := s.2.2.2.1; let l35 := s.2.2.2.2
 some (.inl (0, 0, 0, ([] : List Int), 4, l35))
noncomputable def F_frame_Parser_Next_G1 (p : Nat × Int × Int × Int × List Int × List (Int × List Int)) : Option ((Int × Int × Int × List Int × Int × List (Int × List Int)) ⊕ (Nat × Int × Int × Int × List Int × List (Int × List Int))) :=
 cond (hasN [0] p.1) (F_frame_Parser_Next_G1_0 p.2) (none)
noncomputable def F_frame_Parser_Next (p1 : Int) (l2 : List (Int × List Int)) : Option (Int × Int × Int × List Int × Int × List (Int × List Int)) :=
 joinC (S := Nat × Int × Int × Int × List Int × List (Int × List Int)) (R := Int × Int × Int × List Int × Int × List (Int × List Int))
 (chk (nnI p1)
 ((getI l2 p1).bind fun x3 =>
 cond (decide ((x3.2.length : Int) < 9))
 (some (.inr (0, (0, 0, 0, ([] : List Int), l2))))
 (chk (nnI p1)
 ((getI l2 p1).bind fun x4 =>
 (getI x4.2 0).bind fun i5 =>
 chk (nnI p1)
 ((getI l2 p1).bind fun x6 =>
 (getI x6.2 1).bind fun i7 =>
 chk (nnI p1)
 ((getI l2 p1).bind fun x8 =>
 (getI x8.2 2).bind fun i9 =>
 chk (nnI p1)
 ((getI l2 p1).bind fun x10 =>
 cond (decide ((bits .or .i64 (bits .or .i64 (IntKind.i64.wrap ((IntKind.i64.wrap i5) * 2 ^ 16)) (IntKind.i64.wrap ((IntKind.i64.wrap i7) * 2 ^ 8))) (IntKind.i64.wrap i9)) > x10.1))
 (some (.inl (0, 0, 0, ([] : List Int), 3, l2)))
 (chk (nnI p1)
 ((getI l2 p1).bind fun x11 =>
 cond (decide ((IntKind.i64.wrap ((x11.2.length : Int) - 9)) < (bits .or .i64 (bits .or .i64 (IntKind.i64.wrap ((IntKind.i64.wrap i5) * 2 ^ 16)) (IntKind.i64.wrap ((IntKind.i64.wrap i7) * 2 ^ 8))) (IntKind.i64.wrap i9))))
 (some (.inr (0, (0, 0, 0, ([] : List Int), l2))))
 (chk (nnI p1)
 ((getI l2 p1).bind fun x12 =>
 (getI x12.2 3).bind fun i13 =>
 chk (nnI p1)
 ((getI l2 p1).bind fun x14 =>
 (getI x14.2 4).bind fun i15 =>
 chk (nnI p1)
 ((getI l2 p1).bind fun x16 =>
 (getI x16.2 5).bind fun i17 =>
 chk (nnI p1)
 ((getI l2 p1).bind fun x18 =>
 (getI x18.2 6).bind fun i19 =>
 chk (nnI p1)
 ((getI l2 p1).bind fun x20 =>
 (getI x20.2 7).bind fun i21 =>
 chk (nnI p1)
 ((getI l2 p1).bind fun x22 =>
 (getI x22.2 8).bind fun i23 =>
 chk (nnI p1)
 ((getI l2 p1).bind fun x24 =>
 (cutI x24.2 9 (IntKind.i64.wrap (9 + (bits .or .i64 (bits .or .i64 (IntKind.i64.wrap ((IntKind.i64.wrap i5) * 2 ^ 16)) (IntKind.i64.wrap ((IntKind.i64.wrap i7) * 2 ^ 8))) (IntKind.i64.wrap i9))))).bind fun l25 =>
 (F_bytes_Clone l25).bind fun l26 =>
 chk (nnI p1)
 ((getI l2 p1).bind fun x27 =>
 (cutI x27.2 (IntKind.i64.wrap (9 + (bits .or .i64 (bits .or .i64 (IntKind.i64.wrap ((IntKind.i64.wrap i5) * 2 ^ 16)) (IntKind.i64.wrap ((IntKind.i64.wrap i7) * 2 ^ 8))) (IntKind.i64.wrap i9)))) (x27.2.length : Int)).bind fun l28 =>
 chk (nnI p1)
 ((getI l2 p1).bind fun x29 =>
 some (.inl ((IntKind.i64.wrap i13), (IntKind.i64.wrap i15), (bits .and .i64 (bits .or .i64 (bits .or .i64 (bits .or .i64 (IntKind.i64.wrap ((IntKind.i64.wrap i17) * 2 ^ 24)) (IntKind.i64.wrap ((IntKind.i64.wrap i19) * 2 ^ 16))) (IntKind.i64.wrap ((IntKind.i64.wrap i21) * 2 ^ 8))) (IntKind.i64.wrap i23)) 2147483647), l26, 0, (l2.set (Int.toNat p1) (x29.1, l28)))))))))))))))))))))))
 (fun p => loopC (S := Nat × Int × Int × Int × List Int × List (Int × List Int)) (R := Int × Int × Int × List Int × Int × List (Int × List Int)) (F_frame_Parser_Next_G1) p)
def F_frame_Parser_Next_sig : Sig := ⟨[.v false [.d (.ptr 111)]], [(true, [.d (.int .i64), .d (.int .i64), .d (.int .i64), .own 5 (.int .u8)]), (false, [.d (.int .i64)])], [(1000222, (.pr (.int .i64) (.sl (.int .u8))), true)]⟩
def F_frame_Parser_Next_ann : List (Nat × Ann) := [(1, ⟨2, [], [(2, [.d (.int .i64), .d (.int .i64), .d (.int .i64), .own 5 (.int .u8)])], (List.range' 3 122), [], [(1000222, (.pr (.int .i64) (.sl (.int .u8))), true)], []⟩)]
noncomputable def F_frame_Parser_Next_env : Env := ⟨Tryz.prog, [(66, ⟨F_bytes_Clone_sig, ⟨F_bytes_Clone⟩⟩)], [117]⟩
theorem F_frame_Parser_Next_text : pvFn F_frame_Parser_Next_env F_frame_Parser_Next_ann Tryz.f22 F_frame_Parser_Next_sig = F_frame_Parser_Next := by kernel_rfl
noncomputable def F_frame_Parser_Left (p1 : Int) (l2 : List (Int × List Int)) : Option (Int) :=
 chk (nnI p1)
 ((getI l2 p1).bind fun x3 =>
 some (x3.2.length : Int))
def F_frame_Parser_Left_sig : Sig := ⟨[.v false [.d (.ptr 111)]], [(false, [.d (.int .i64)])], [(1000222, (.pr (.int .i64) (.sl (.int .u8))), false)]⟩
def F_frame_Parser_Left_ann : List (Nat × Ann) := []
noncomputable def F_frame_Parser_Left_env : Env := ⟨Tryz.prog, [], []⟩
theorem F_frame_Parser_Left_text : pvFn F_frame_Parser_Left_env F_frame_Parser_Left_ann Tryz.f23 F_frame_Parser_Left_sig = F_frame_Parser_Left := by kernel_rfl
noncomputable def F_wlvlaw28_TaleBlocks_L9 (l1 : List (List Int × List Int × Bool)) (s : Int × List (Int × Bool) × List (List (List Int × List Int × Bool) × Int × Int) × List (Int × List Int)) : Option (((Bool × List (Int × Bool) × List (List (List Int × List Int × Bool) × Int × Int) × List (Int × List Int)) ⊕ (List (Int × Bool) × List (List (List Int × List Int × Bool) × Int × Int) × List (Int × List Int))) ⊕ (Int × List (Int × Bool) × List (List (List Int × List Int × Bool) × Int × Int) × List (Int × List Int))) :=
 let i12 := s.1; let l13 := s.2.1; let l14 := s.2.2.1; let l15 := s.2.2.2
 cond (decide (i12 < (l1.length : Int)))
 ((getI l1 i12).bind fun x16 =>
 cond (decide ((x16.1.length : Int) > 16384))
 ((F_wlvlaw28_first).bind fun b17 =>
 some (.inl (.inl (b17, l13, l14, l15))))
 ((getI l1 i12).bind fun x18 =>
 cond (decide ((x18.2.1.length : Int) > 16384))
 ((F_wlvlaw28_first).bind fun b19 =>
 some (.inl (.inl (b19, l13, l14, l15))))
 (some (.inr ((IntKind.i64.wrap (i12 + 1)), l13, l14, l15)))))
 (some (.inl (.inr (l13, l14, l15))))
noncomputable def F_wlvlaw28_TaleBlocks_J7 (l1 : List (List Int × List Int × Bool)) (s2 : List Int) (s3 : List Int) (s4 : List Int) (b5 : Bool) (s : List (Int × Bool) × List (List (List Int × List Int × Bool) × Int × Int) × List (Int × List Int)) : Option (Bool × List (Int × Bool) × List (List (List Int × List Int × Bool) × Int × Int) × List (Int × List Int)) :=
 let l20 := s.1; let l21 := s.2.1; let l22 := s.2.2
 (F_unpack_New l20 l21).bind fun x23 =>
 cond (eqI x23.1 (-1))
 (some (false, x23.2.1, x23.2.2, l22))
 ((F_tale_Block l1).bind fun l24 =>
 (F_unpack_Dec_Decode x23.1 l24 1073741824 x23.2.1 x23.2.2).bind fun x25 =>
 cond (x25.2.1 != 0)
 (some (false, x25.2.2.1, x25.2.2.2, l22))
 ((F_stat_Same x25.1 l1).bind fun b26 =>
 cond (!b26)
 (some (false, x25.2.2.1, x25.2.2.2, l22))
 ((F_unpack_Dec_Table x23.1 x25.2.2.1).bind fun p27 =>
 cond (eqI p27 (-1))
 (some (false, x25.2.2.1, x25.2.2.2, l22))
 ((F_unpack_Dec_Table x23.1 x25.2.2.1).bind fun p28 =>
 (F_dyn_Table_Len p28 x25.2.2.2).bind fun i29 =>
 cond (i29 != 0)
 (some (false, x25.2.2.1, x25.2.2.2, l22))
 ((F_frame_New 16384 l22).bind fun x30 =>
 cond (eqI x30.1 (-1))
 (some (false, x25.2.2.1, x25.2.2.2, x30.2))
 ((F_tale_Connect 7 s2 s3 s4 b5).bind fun l31 =>
 (F_frame_Parser_Feed x30.1 l31 x30.2).bind fun l32 =>
 (F_frame_Parser_Next x30.1 l32).bind fun x33 =>
 (F_unpack_Dec_Decode x23.1 x33.2.2.2.1 1073741824 x25.2.2.1 x25.2.2.2).bind fun x34 =>
 cond ((!(s3 == ([] : List Int))) || (!(s4 == ([] : List Int))))
 ((F_wlvlaw28_first).bind fun b35 =>
 cond (((b35 && (x33.2.2.2.2.1 == 0)) && (x34.2.1 == 0)) && ((x34.1.length : Int) == 3))
 ((getI x34.1 1).bind fun x36 =>
 cond (x36.2.1 == s2)
 (cond (x33.2.2.1 == 7)
 (cond (bEq ((bits .and .i64 x33.2.1 1) == 1) b5)
 ((F_frame_Parser_Left x30.1 x33.2.2.2.2.2).bind fun i37 =>
 some ((i37 == 0), x34.2.2.1, x34.2.2.2, x33.2.2.2.2.2))
 (some (false, x34.2.2.1, x34.2.2.2, x33.2.2.2.2.2)))
 (some (false, x34.2.2.1, x34.2.2.2, x33.2.2.2.2.2)))
 (some (false, x34.2.2.1, x34.2.2.2, x33.2.2.2.2.2)))
 (some (false, x34.2.2.1, x34.2.2.2, x33.2.2.2.2.2)))
 ((F_wlvlaw28_first).bind fun b38 =>
 cond (((b38 && (x33.2.2.2.2.1 == 0)) && (x34.2.1 == 0)) && ((x34.1.length : Int) == 2))
 ((getI x34.1 1).bind fun x39 =>
 cond (x39.2.1 == s2)
 (cond (x33.2.2.1 == 7)
 (cond (bEq ((bits .and .i64 x33.2.1 1) == 1) b5)
 ((F_frame_Parser_Left x30.1 x33.2.2.2.2.2).bind fun i40 =>
 some ((i40 == 0), x34.2.2.1, x34.2.2.2, x33.2.2.2.2.2))
 (some (false, x34.2.2.1, x34.2.2.2, x33.2.2.2.2.2)))
 (some (false, x34.2.2.1, x34.2.2.2, x33.2.2.2.2.2)))
 (some (false, x34.2.2.1, x34.2.2.2, x33.2.2.2.2.2)))
 (some (false, x34.2.2.1, x34.2.2.2, x33.2.2.2.2.2)))))))))
noncomputable def F_wlvlaw28_TaleBlocks (l1 : List (List Int × List Int × Bool)) (s2 : List Int) (s3 : List Int) (s4 : List Int) (b5 : Bool) (l6 : List (Int × Bool)) (l7 : List (List (List Int × List Int × Bool) × Int × Int)) (l8 : List (Int × List Int)) : Option (Bool × List (Int × Bool) × List (List (List Int × List Int × Bool) × Int × Int) × List (Int × List Int)) :=
 (F_wlvlaw28_first).bind fun b9 =>
 cond (!b9)
 (some (false, l6, l7, l8))
 ((F_wlvlaw6_Few l1).bind fun b10 =>
 cond ((((!b10) || (decide ((s2.length : Int) > 200))) || (decide ((s3.length : Int) > 200))) || (decide ((s4.length : Int) > 200)))
 ((F_wlvlaw28_first).bind fun b11 =>
 some (b11, l6, l7, l8))
 (joinC (S := List (Int × Bool) × List (List (List Int × List Int × Bool) × Int × Int) × List (Int × List Int)) (R := Bool × List (Int × Bool) × List (List (List Int × List Int × Bool) × Int × Int) × List (Int × List Int))
 (loopC (S := Int × List (Int × Bool) × List (List (List Int × List Int × Bool) × Int × Int) × List (Int × List Int)) (R := (Bool × List (Int × Bool) × List (List (List Int × List Int × Bool) × Int × Int) × List (Int × List Int)) ⊕ (List (Int × Bool) × List (List (List Int × List Int × Bool) × Int × Int) × List (Int × List Int))) (F_wlvlaw28_TaleBlocks_L9 l1) (0, l6, l7, l8))
 (F_wlvlaw28_TaleBlocks_J7 l1 s2 s3 s4 b5)))
def F_wlvlaw28_TaleBlocks_sig : Sig := ⟨[.v false [.d (.sl (.pr .str (.pr .str .bool)))], .v false [.d .str], .v false [.d .str], .v false [.d .str], .v false [.d .bool]], [(false, [.d .bool])], [(1000198, (.pr (.ptr 109) .bool), true), (1000218, (.pr (.os 26 (.pr .str (.pr .str .bool))) (.pr (.int .i64) (.int .i64))), true), (1000222, (.pr (.int .i64) (.sl (.int .u8))), true)]⟩
def F_wlvlaw28_TaleBlocks_ann : List (Nat × Ann) := [(7, ⟨8, [], [], ([10, 11] ++ List.range' 42 23), [], [(1000198, (.pr (.ptr 109) .bool), true), (1000218, (.pr (.os 26 (.pr .str (.pr .str .bool))) (.pr (.int .i64) (.int .i64))), true), (1000222, (.pr (.int .i64) (.sl (.int .u8))), true)], []⟩), (9, ⟨10, [(11, false, [.d (.int .i64)])], [], ([10] ++ List.range' 42 23), [], [(1000198, (.pr (.ptr 109) .bool), true), (1000218, (.pr (.os 26 (.pr .str (.pr .str .bool))) (.pr (.int .i64) (.int .i64))), true), (1000222, (.pr (.int .i64) (.sl (.int .u8))), true)], []⟩)]
noncomputable def F_wlvlaw28_TaleBlocks_env : Env := ⟨Tryz.prog, [(11, ⟨F_wlvlaw28_first_sig, ⟨F_wlvlaw28_first⟩⟩), (12, ⟨F_wlvlaw6_Few_sig, ⟨F_wlvlaw6_Few⟩⟩), (13, ⟨F_unpack_New_sig, ⟨F_unpack_New⟩⟩), (14, ⟨F_unpack_Dec_Decode_sig, ⟨F_unpack_Dec_Decode⟩⟩), (15, ⟨F_tale_Block_sig, ⟨F_tale_Block⟩⟩), (16, ⟨F_stat_Same_sig, ⟨F_stat_Same⟩⟩), (17, ⟨F_unpack_Dec_Table_sig, ⟨F_unpack_Dec_Table⟩⟩), (18, ⟨F_dyn_Table_Len_sig, ⟨F_dyn_Table_Len⟩⟩), (19, ⟨F_frame_New_sig, ⟨F_frame_New⟩⟩), (20, ⟨F_frame_Parser_Feed_sig, ⟨F_frame_Parser_Feed⟩⟩), (21, ⟨F_tale_Connect_sig, ⟨F_tale_Connect⟩⟩), (22, ⟨F_frame_Parser_Next_sig, ⟨F_frame_Parser_Next⟩⟩), (23, ⟨F_frame_Parser_Left_sig, ⟨F_frame_Parser_Left⟩⟩)], []⟩
theorem F_wlvlaw28_TaleBlocks_text : pvFn F_wlvlaw28_TaleBlocks_env F_wlvlaw28_TaleBlocks_ann Tryz.f3 F_wlvlaw28_TaleBlocks_sig = F_wlvlaw28_TaleBlocks := by kernel_rfl
end Go.Proofs.YtifbhefbhlbofaaGreatDoor
namespace Go.Proofs
open Go.Shelf Go.RowKit Go.Lib Go.Sort
def Tryz.laysM171_ren : Go.Shelf.Ren := ⟨fun | 171 => 203 | 243 => 217 | 246 => 223 | 283 => 228 | 284 => 229 | 285 => 230 | 286 => 231 | 129 => 199 | 317 => 237 | 318 => 238 | 319 => 239 | 320 => 240 | 337 => 243 | 338 => 244 | n => n, fun | 3 => 3 | 9 => 9 | 2 => 2 | 4 => 4 | 171 => 273 | 0 => 0 | 53 => 242 | 37 => 32 | 5 => 5 | 173 => 275 | 212 => 278 | 51 => 240 | 20 => 20 | 213 => 279 | 46 => 114 | 232 => 285 | 233 => 286 | n => n, fun | 17 => 1 | 18 => 4 | 19 => 5 | n => n⟩
theorem Tryz.laysM171 : Go.Proofs.LaysM.n171 Tryz.prog Tryz.laysM171_ren := {
  mixed := by kernel_rfl
  f129 := Tryz.func199.trans (congrArg some (by kernel_rfl))
  f171 := Tryz.func203.trans (congrArg some (by kernel_rfl))
  f243 := Tryz.func217.trans (congrArg some (by kernel_rfl))
  f246 := Tryz.func223.trans (congrArg some (by kernel_rfl))
  f283 := Tryz.func228.trans (congrArg some (by kernel_rfl))
  f284 := Tryz.func229.trans (congrArg some (by kernel_rfl))
  f285 := Tryz.func230.trans (congrArg some (by kernel_rfl))
  f286 := Tryz.func231.trans (congrArg some (by kernel_rfl))
  f317 := Tryz.func237.trans (congrArg some (by kernel_rfl))
  f318 := Tryz.func238.trans (congrArg some (by kernel_rfl))
  f319 := Tryz.func239.trans (congrArg some (by kernel_rfl))
  f320 := Tryz.func240.trans (congrArg some (by kernel_rfl))
  f337 := Tryz.func243.trans (congrArg some (by kernel_rfl))
  f338 := Tryz.func244.trans (congrArg some (by kernel_rfl))
  t0 := Tryz.underlying0
  a0 := Tryz.isAgg0
  z0 := Tryz.sizeOf0
  v0 := Tryz.zeroValue0
  t2 := Tryz.underlying2
  a2 := Tryz.isAgg2
  z2 := Tryz.sizeOf2
  v2 := Tryz.zeroValue2
  t3 := Tryz.underlying3
  a3 := Tryz.isAgg3
  z3 := Tryz.sizeOf3
  v3 := Tryz.zeroValue3
  t4 := Tryz.underlying4
  a4 := Tryz.isAgg4
  z4 := Tryz.sizeOf4
  v4 := Tryz.zeroValue4
  t5 := Tryz.underlying5
  a5 := Tryz.isAgg5
  z5 := Tryz.sizeOf5
  v5 := Tryz.zeroValue5
  t9 := Tryz.underlying9
  a9 := Tryz.isAgg9
  z9 := Tryz.sizeOf9
  v9 := Tryz.zeroValue9
  t20 := Tryz.underlying20
  a20 := Tryz.isAgg20
  z20 := Tryz.sizeOf20
  v20 := Tryz.zeroValue20
  t37 := Tryz.underlying32
  a37 := Tryz.isAgg32
  z37 := Tryz.sizeOf32
  v37 := Tryz.zeroValue32
  t46 := Tryz.underlying114
  a46 := Tryz.isAgg114
  z46 := Tryz.sizeOf114
  v46 := Tryz.zeroValue114
  t51 := Tryz.underlying240
  a51 := Tryz.isAgg240
  z51 := Tryz.sizeOf240
  v51 := Tryz.zeroValue240
  t53 := Tryz.underlying242
  a53 := Tryz.isAgg242
  z53 := Tryz.sizeOf242
  v53 := Tryz.zeroValue242
  t171 := Tryz.underlying273
  a171 := Tryz.isAgg273
  z171 := Tryz.sizeOf273
  v171 := Tryz.zeroValue273
  t173 := Tryz.underlying275
  a173 := Tryz.isAgg275
  z173 := Tryz.sizeOf275
  v173 := Tryz.zeroValue275
  t212 := Tryz.underlying278
  a212 := Tryz.isAgg278
  z212 := Tryz.sizeOf278
  v212 := Tryz.zeroValue278
  t213 := Tryz.underlying279
  a213 := Tryz.isAgg279
  z213 := Tryz.sizeOf279
  t232 := Tryz.underlying285
  a232 := Tryz.isAgg285
  z232 := Tryz.sizeOf285
  v232 := Tryz.zeroValue285
  t233 := Tryz.underlying286
  a233 := Tryz.isAgg286
  z233 := Tryz.sizeOf286
  v233 := Tryz.zeroValue286
  g17 := by kernel_rfl
  g18 := by kernel_rfl
  g19 := by kernel_rfl
  i0 := by kernel_rfl
  i2 := by kernel_rfl
  i3 := by kernel_rfl
  i4 := by kernel_rfl
  i5 := by kernel_rfl
  i9 := by kernel_rfl
  i20 := by kernel_rfl
  i37 := by kernel_rfl
  i46 := by kernel_rfl
  i51 := by kernel_rfl
  i53 := by kernel_rfl
  i171 := by kernel_rfl
  i173 := by kernel_rfl
  i212 := by kernel_rfl
  i232 := by kernel_rfl
  i233 := by kernel_rfl
  m17 := by kernel_rfl
  m18 := by kernel_rfl
  m19 := by kernel_rfl }
theorem Tryz.strconv_Itoa (n : Int) (h0 : -9223372036854775808 ≤ n) (h1 : n ≤ 9223372036854775807) (w : World) (htab : Lib.TabIs Tryz.prog w "internal/strconv.uint64pow10" .u64 Lib.pow10Tab) :
    Calls Tryz.prog 203 #[.int .i64 n] w fun e w' => e = .returned (.string ⟨(Lib.itoa n).toArray⟩) ∧ ∃ k os, w' = grow (w.drewN k) os := Any.strconv_Itoa Tryz.laysM171 n h0 h1 w htab
end Go.Proofs
namespace Go.Proofs.YtifbhefbhlbofaaGreatDoor
open Go.RowKit Pv
set_option linter.unusedVariables false
def tab_pow10 : Nat × Array Value := tabOf 1 .u64 Lib.pow10Tab
theorem wf_i64 {n : Int} (h : (Lit.int .i64 n).wf = true) : -9223372036854775808 ≤ n ∧ n ≤ 9223372036854775807 := by
  simp [Lit.wf, IntKind.min, IntKind.max, IntKind.signed, IntKind.bits] at h
  omega
theorem F_strconv_Itoa_sound {T : Tab} (h_pow10 : tab_pow10 ∈ T) : SoundFn Tryz.prog T 203 F_strconv_Itoa_sig ⟨F_strconv_Itoa⟩ := by
  refine sound_d rfl fun F g O xs ls y tmf w args hT hls happ hsz hr => ?_
  obtain ⟨(n : Int), xs', rfl, h2⟩ := appF_inv_c (ts := []) happ
  obtain ⟨rfl, h3⟩ := appF_inv_n h2
  have hls' : some [Leaf.d (.int .i64) n] = some ls := hls
  injection hls' with hls'
  subst hls'
  obtain ⟨e0, e1⟩ := rel_int (hr 0)
  have ha : args = #[.int .i64 n] := by
    obtain ⟨al⟩ := args
    match al, hsz with
    | [v], _ =>
      have h : v = .int .i64 n := e0
      rw [h]
  subst ha
  have h3 : itoaI n = y := by
    have h3 : some (itoaI n) = some y := h3
    injection h3
  have hn := wf_i64 e1
  refine (Tryz.strconv_Itoa n hn.1 hn.2 w (tabIs_now hT h_pow10 (by kernel_rfl))).mono ?_
  rintro e w' ⟨he, k, os, rfl⟩
  refine ⟨[.string ⟨(Lib.itoa n).toArray⟩], [.d .str y], he, rfl, rfl, below_grow _ _ _, fun i hi => ?_⟩
  match i, hi with
  | 0, _ =>
    refine ⟨[.string ⟨(Lib.itoa n).toArray⟩], ⟨[.string ⟨(Lib.itoa n).toArray⟩], [], rfl, ⟨_, rfl, ?_, ?_⟩, rfl⟩, rfl⟩
    · rw [← h3]
      show (Lib.itoa n).toArray.toList.map byteI = _
      rw [List.toList_toArray]
      rfl
    · show (Lib.itoa n).toArray.size ≤ maxLen
      have := Lib.itoa_length_le n hn.1 hn.2
      rw [List.size_toArray]
      have hm : maxLen = 9223372036854775807 := rfl
      omega
end Go.Proofs.YtifbhefbhlbofaaGreatDoor
namespace Go.Proofs.YtifbhefbhlbofaaGreatDoor
open Go.RowKit Go.Shelf
set_option linter.unusedVariables false
theorem szB : (Tryz.prog.info? 172).map (·.size) = some 2 := by kernel_rfl
theorem liB : liesAt Tryz.prog Tryz.prog.depth 172 (2 / Tryz.prog.cellsOf 172) 0 172 1 = true := by kernel_rfl
theorem infB : (Tryz.prog.info? 5).map (fun i => (i.zero, i.size, i.bytes)) = some (some (.int .u8 0), 1, 1) := by kernel_rfl
set_option maxHeartbeats 1000000 in
theorem cc_used (b : Nat) (w : World) (h0 : w.cell? ⟨b, 0, none⟩ = some (.pointer (some ⟨b, 0, none⟩))) :
    Calls Tryz.prog 160 #[.pointer (some ⟨b, 0, none⟩)] w fun e w' => e = .returned (.tuple #[]) ∧ w' = w := by
  obtain ⟨j, hj, _⟩ := Option.map_eq_some_iff.1 szB
  go_enter Tryz.func160, Tryz.ntmps160
  go_wp2
  rw [Lib.run_neq_ptr_same w _ Tryz.underlying170 hj]
  go_wp2
  go_end0
  exact ⟨rfl, rfl⟩
set_option maxHeartbeats 1000000 in
theorem cc_fresh (b : Nat) (w : World) (h0 : w.cell? ⟨b, 0, none⟩ = some (.pointer none)) (hsh : w.shape? b = some (172, 2)) (hfz : w.frozen? ⟨b, 0, none⟩ = false) :
    Calls Tryz.prog 160 #[.pointer (some ⟨b, 0, none⟩)] w fun e w' => e = .returned (.tuple #[]) ∧ w' = w.setCell ⟨b, 0, none⟩ (.pointer (some ⟨b, 0, none⟩)) := by
  obtain ⟨j, hj, hjs⟩ := Option.map_eq_some_iff.1 szB
  go_enter Tryz.func160, Tryz.ntmps160
  go_wp2
  rw [Lib.run_to_unsafe w ⟨b, 0, none⟩ Tryz.underlying170 Tryz.underlying227 hj (by rw [hjs]; decide) hsh (Nat.zero_lt_succ 1)]
  simp only [Result.andThen]
  rw [Oper.upon_value]
  go_wp2
  rw [run_callFunc_extern Tryz.func184 (by kernel_rfl) (by kernel_rfl) (by kernel_rfl) (e := Extern.AbiNoEscape.same) (by kernel_rfl)]
  rw [Lib.run_noEscape]
  simp only [Result.andThen]
  rw [Oper.upon_value]
  go_wp2
  rw [Lib.run_from_unsafe w ⟨b, 0, none⟩ Tryz.underlying227 Tryz.underlying170 hj hsh liB]
  simp only [Result.andThen]
  rw [Oper.upon_value]
  go_wp2
  go_end0
  exact ⟨rfl, rfl⟩
theorem cc_k (B b : Nat) (bs : List Value) (w : World) (h : Lib.IsBuilderF 172 5 B b bs w) :
    Calls Tryz.prog 160 #[.pointer (some ⟨b, 0, none⟩)] w fun e w' => e = .returned (.tuple #[]) ∧ (Lib.BuilderAtF 172 5 B b (.pointer (some ⟨b, 0, none⟩)) bs w' ∧ Below B w w' ∧ Lib.OthersKept 5 (some b) w w') := by
  rcases h with h | h
  · refine (cc_fresh b w h.cell0 h.shape h.frozen0).mono ?_
    rintro e w' ⟨rfl, rfl⟩
    exact ⟨rfl, h.used _, (Below.refl B w).setCell (p := ⟨b, 0, none⟩) h.1 _, (Lib.OthersKept.refl _ _ w).setCell ⟨b, 0, none⟩ rfl _⟩
  · refine (cc_used b w h.cell0).mono ?_
    rintro e w' ⟨rfl, rfl⟩
    exact ⟨rfl, h, Below.refl B _, Lib.OthersKept.refl _ _ _⟩
set_option maxHeartbeats 2000000 in
theorem wb_k (B b : Nat) (bs : List Value) (c : Int) (w : World) (h : Lib.IsBuilderF 172 5 B b bs w) (hlen : bs.length + 1 ≤ 140737488355328) (hBw : B ≤ w.heap.size) :
    Calls Tryz.prog 116 #[.pointer (some ⟨b, 0, none⟩), .int .u8 c] w fun e w' => e = .returned .nilIface ∧ (Lib.BuilderAtF 172 5 B b (.pointer (some ⟨b, 0, none⟩)) (bs ++ [.int .u8 c]) w' ∧ Below B w w' ∧ Lib.OthersKept 5 (some b) w w') := by
  obtain ⟨i0, hi, hz0, hz1, hz2⟩ := info_parts infB
  go_enter Tryz.func116, Tryz.ntmps116
  go_wp2_with (go_at_call 160; refine (cc_k B b bs _ h).mono ?_)
  rintro e w1 ⟨rfl, h1, hb1, hk1⟩
  obtain ⟨hB, v, hbk, hown, hne⟩ := h1
  have c0 : w1.cell? ⟨b, 0, none⟩ = some (.pointer (some ⟨b, 0, none⟩)) := by rw [Lib.cell_of_heap hbk]; rfl
  have c1 : w1.cell? ⟨b, 1, none⟩ = some v := by rw [Lib.cell_of_heap hbk]; rfl
  go_wp2_with (at_builtin; refine wpList_append_ownF _ rfl _ _ 32 rfl B 5 i0 (.int .u8 0) 1 1 Tryz.underlying32 hi hz0 hz1 hz2 rfl (by decide) _ _ _ rfl (hown.alloc _) ⟨w1.heap.size, 0, none⟩ 1 1 [.int .u8 c] rfl rfl ?c1 ?c2 ?c3 ?c4 ?c5 ?_)
  case c1 =>
    intro j u hj
    match j, hj with
    | 0, hj => simp at hj; subst hj; simp [Addr.add]
  case c2 => intro u hu; simp at hu; subst hu; rfl
  case c3 => unfold maxLen; omega
  case c4 => omega
  case c5 => have := hb1.size; simp; omega
  intro v' w2 hown' hgrow _
  have hlt : b < w1.heap.size := by
    rcases Nat.lt_or_ge b w1.heap.size with h' | h'
    · exact h'
    · simp [Array.getElem?_eq_none h'] at hbk
  have hb2 : w2.heap[b]? = some (.cells #[.pointer (some ⟨b, 0, none⟩), v] 172 (0, 0)) := by
    rw [hgrow.block b (by simp; omega) (fun e => hne e.symm), Lib.alloc_old w1 _ b hlt]
    exact hbk
  have d0 : w2.cell? ⟨b, 0, none⟩ = some (.pointer (some ⟨b, 0, none⟩)) := by rw [Lib.cell_of_heap hb2]; rfl
  have d1 : w2.cell? ⟨b, 1, none⟩ = some v := by rw [Lib.cell_of_heap hb2]; rfl
  have f1 : w2.frozen? ⟨b, 1, none⟩ = false := Lib.frozen_of_heap hb2 1
  obtain ⟨g, cap, rfl⟩ : ∃ g cap, v' = .slice (some ⟨g, 0, none⟩) (bs.length + 1) cap := by
    rcases hown'.2 with ⟨_, h0⟩ | ⟨g, cap, cur, fz, hv, _⟩
    · omega
    · exact ⟨g, cap, hv⟩
  go_wp2
  go_ret
  refine ⟨rfl, ?_, ?_, ((hk1.alloc _).grown hgrow (Lib.ownsRowF_kind (hown.alloc _))).setCell ⟨b, 1, none⟩ rfl _⟩
  · exact Lib.BuilderAtF.put (T := 172) (e := 5) hB hb2 (bs' := bs ++ [.int .u8 c]) (by simpa using hown') (by decide)
  · exact ((hb1.alloc (by have := hb1.size; omega) _).grown hgrow (by have := hb1.size; simp; omega) (fun k hk => (hown.lt k hk).1)).setCell (p := ⟨b, 1, none⟩) hB _
end Go.Proofs.YtifbhefbhlbofaaGreatDoor
namespace Go.Proofs.YtifbhefbhlbofaaGreatDoor
open Go.RowKit Go.Shelf Pv
set_option linter.unusedVariables false
theorem getD_in {l : List Int} (hl : ∀ x ∈ l, 0 ≤ x ∧ x < 256) (i : Nat) : 0 ≤ l.getD i 0 ∧ l.getD i 0 < 256 := by
  rw [List.getD_eq_getElem?_getD]
  cases h : l[i]? with
  | none => exact ⟨by decide, by decide⟩
  | some x => exact hl x (List.mem_of_getElem? h)
theorem gv_in {l : List Int} (hl : ∀ x ∈ l, 0 ≤ x ∧ x < 256) (i : Nat) : ∀ t, 0 ≤ gv l i t ∧ gv l i t < 256 ^ t
  | 0 => ⟨Int.le_refl 0, by show (0 : Int) < 1; decide⟩
  | t + 1 => by
    obtain ⟨h1, h2⟩ := gv_in hl i t
    obtain ⟨h3, h4⟩ := getD_in hl (i + t)
    unfold gv
    refine ⟨by omega, ?_⟩
    rw [Int.pow_succ]
    omega
theorem e40 : (2 : Int) ^ 40 = 1099511627776 := by decide
theorem w64 {x : Int} (h0 : 0 ≤ x) (h1 : x < 1099511627776) : IntKind.i64.wrap x = x := by
  show (if (true && decide (x % 18446744073709551616 ≥ 9223372036854775808)) = true then x % 18446744073709551616 - 18446744073709551616 else x % 18446744073709551616) = x
  simp only [Bool.true_and, decide_eq_true_eq]
  split <;> omega
theorem or8 {x y : Int} (hx : 0 ≤ x) (hx1 : x < 1099511627776) (hm : x % 256 = 0) (hy : 0 ≤ y) (hy1 : y < 256) : bits .or .i64 x y = x + y :=
  bits_join .i64 40 (by decide) (fun n h0 h1 => w64 h0 (by rw [← e40]; exact h1)) 8 x y hx hm (by rw [e40]; exact hx1) hy hy1 (by rw [e40]; omega)
theorem and63 {x : Int} (hx : 0 ≤ x) (hx1 : x < 1099511627776) : bits .and .i64 x 63 = x % 64 := bits_mask .i64 40 (by decide) (fun n h0 h1 => w64 h0 (by rw [← e40]; exact h1)) 6 (by decide) x hx (by rw [e40]; exact hx1)
theorem wr64e {x : Int} (h0 : -9223372036854775808 ≤ x) (h1 : x ≤ 9223372036854775807) : wrap64 x = x := by unfold wrap64; omega
def sigA : ByteArray := ⟨#[65, 66, 67, 68, 69, 70, 71, 72, 73, 74, 75, 76, 77, 78, 79, 80, 81, 82, 83, 84, 85, 86, 87, 88, 89, 90, 97, 98, 99, 100, 101, 102, 103, 104, 105, 106, 107, 108, 109, 110, 111, 112, 113, 114, 115, 116, 117, 118, 119, 120, 121, 122, 48, 49, 50, 51, 52, 53, 54, 55, 56, 57, 43, 47]⟩
theorem sigA_size : sigA.size = 64 := rfl
theorem sig_at {q : Nat} (h : q < 64) : sigs.getD q 0 = sigA[q]'(by rw [sigA_size]; exact h) := by
  rw [List.getD_eq_getElem?_getD, List.getElem?_eq_getElem (show q < sigs.length from h)]
  rfl
theorem grp_pad {l : List Int} {i t : Nat} (h : min (l.length - i) 3 < t) : grp l i (t + 1) = grp l i t ++ [61] := by
  unfold grp
  rw [List.range_succ, List.map_append]
  show _ ++ [sgn _ _ t] = _
  rw [show sgn (min (l.length - i) 3) (gv l i 3) t = 61 from if_pos h]
theorem grp_sig {l : List Int} {i t : Nat} (h : ¬ min (l.length - i) 3 < t) : grp l i (t + 1) = grp l i t ++ [sigs.getD ((gv l i 3 / 2 ^ (6 * (3 - t))) % 64).toNat 0] := by
  unfold grp
  rw [List.range_succ, List.map_append]
  show _ ++ [sgn _ _ t] = _
  rw [show sgn (min (l.length - i) 3) (gv l i 3) t = sigs.getD ((gv l i 3 / 2 ^ (6 * (3 - t))) % 64).toNat 0 from if_neg h]
set_option maxHeartbeats 4000000 in
set_option maxRecDepth 1000000 in
theorem enc_walk (l : List Int) (hl : ∀ x ∈ l, 0 ≤ x ∧ x < 256) (a : Option Addr) (n c : Nat) (hlen : l.length = n) (hn : n ≤ 1099511627776) (w : World) (hcells : ∀ i x, l[i]? = some x → ∃ ad, a = some ad ∧ w.cell? (ad.add i) = some (.int .u8 x)) :
    Calls Tryz.prog 63 #[.slice a n c] w fun e w' => e = .returned (.string ⟨(encB l).toArray⟩) ∧ Below w.heap.size w w' := by
  go_enter Tryz.func63, Tryz.ntmps63
  go_wp2
  go_loopw [4] (fun v wr => ∃ (i k : Nat), v = .int .i64 i ∧ 3 * k = i ∧ i ≤ n + 2 ∧ Lib.IsBuilderF 172 5 w.heap.size w.heap.size (Lib.byteCells (encK l k)) wr ∧ Below w.heap.size w wr) (fun i _ => n + 3 - (intOf i).toNat)
  case atStart =>
    refine ⟨0, 0, rfl, rfl, by omega, Lib.IsBuilderF.of (Lib.fresh_isBuilder 172 5 w), (Below.refl _ w).alloc (Nat.le_refl _) _⟩
  case round =>
    obtain ⟨i, k, rfl, hik, hk, hI, hb⟩ := hrel
    have hal := encK_len l k
    obtain ⟨acc, hacc⟩ : ∃ acc, encK l k = acc := ⟨_, rfl⟩
    rw [hacc] at hI hal
    obtain ⟨wo, rfl⟩ : ∃ wo : World, wo = wr := ⟨_, rfl⟩
    have hsz : w.heap.size ≤ wo.heap.size := hb.size
    by_cases hlt : i < n
    · obtain ⟨ad, rfl, _⟩ := hcells i _ (List.getElem?_eq_getElem (by omega))
      have hcell : ∀ j, j < n → wo.cell? (ad.add j) = some (.int .u8 (l.getD j 0)) := fun j hj => by
        obtain ⟨ad', e, h2⟩ := hcells j _ (List.getElem?_eq_getElem (by omega))
        cases e
        rw [List.getD_eq_getElem?_getD, List.getElem?_eq_getElem (by omega), Option.getD_some]
        rw [hb.cell (cell_lt h2)]; exact h2
      have hg3 := gv_in hl (i) 3
      obtain ⟨m, hmN, hmin⟩ : ∃ m : Nat, min (l.length - i) 3 = m ∧ min ((n : Int) - i) 3 = (m : Int) := ⟨_, rfl, by omega⟩
      clear hcells
      go_wp2
      go_loopw [6, 20] (fun all j wr => wr = wo ∧ ∃ t : Nat, t ≤ 3 ∧ j = .int .i64 t ∧ all = .int .i64 (gv l (i) t)) (fun _ j _ => 3 - (intOf j).toNat)
      case atStart => exact ⟨rfl, 0, by omega, rfl, rfl⟩
      case round =>
        obtain ⟨rfl, t, ht, rfl, rfl⟩ := hrel
        by_cases ht3 : t < 3
        · have hgt := gv_in hl (i) t
          have hp : (256 : Int) ^ t ≤ 65536 := by
            match t, ht3 with
            | 0, _ => decide
            | 1, _ => decide
            | 2, _ => decide
          have hgn : gv l (i) (t + 1) = gv l (i) t * 256 + l.getD (i + t) 0 := rfl
          have hlx := getD_in hl (i + t)
          by_cases hin : i + t < n
          · have htm : t < m := by omega
            have hc := hcell (i + t) hin
            have hor : bits BinOp.or IntKind.i64 (gv l (i) t * 256) (wrap64 (l.getD (i + t) 0)) = gv l (i) (t + 1) := by
              rw [wr64e (by omega) (by omega), or8 (by omega) (by omega) (by omega) hlx.1 hlx.2, hgn]
            have hgd : l.getD (i + t) 0 = l[i + t] := by rw [List.getD_eq_getElem?_getD, List.getElem?_eq_getElem (by omega), Option.getD_some]
            rw [hgd] at hor
            clear hcell hl hgn hlx
            go_wp2
            go_roundw
            case rel => exact ⟨trivial, t + 1, by omega, by simp, by first | rfl | rw [hor]⟩
            case measure => simp [intOf]; omega
          · have htm : ¬ t < m := by omega
            have hz : gv l (i) t * 256 = gv l (i) (t + 1) := by
              rw [hgn, List.getD_eq_getElem?_getD, List.getElem?_eq_none (by omega)]
              simp
            clear hcell hl hgn hlx
            go_wp2
            go_roundw
            case rel => exact ⟨trivial, t + 1, by omega, by simp, by first | rfl | rw [hz]⟩
            case measure => simp [intOf]; omega
        · obtain rfl : t = 3 := by omega
          clear hcell hl
          go_wp2
          go_loopw [38] (fun j wr => ∃ t : Nat, t ≤ 4 ∧ j = .int .i64 t ∧ Lib.IsBuilderF 172 5 w.heap.size w.heap.size (Lib.byteCells (acc ++ grp l (i) t)) wr ∧ Below w.heap.size w wr) (fun j _ => 4 - (intOf j).toNat)
          case atStart => exact ⟨0, by omega, rfl, by simpa [grp] using hI, hb⟩
          case round =>
            obtain ⟨t, ht, rfl, hI2, hb2⟩ := hrel
            have hsz2 : w.heap.size ≤ wr.heap.size := hb2.size
            by_cases ht4 : t < 4
            · have hlb : (Lib.byteCells (acc ++ grp l (i) t)).length + 1 ≤ 140737488355328 := by
                rw [Lib.byteCells_length, List.length_append]
                simp only [grp, List.length_map, List.length_range]
                omega
              by_cases hm : m < t
              · have hmi : (m : Int) < (t : Int) := by omega
                have hs : grp l (i) (t + 1) = grp l (i) t ++ [61] := grp_pad (by rw [hmN]; exact hm)
                go_wp2_with (go_at_call 116; refine (wb_k w.heap.size w.heap.size _ 61 _ hI2 hlb hsz2).mono ?_)
                rintro e W1 ⟨rfl, h1, b1, k1⟩
                go_wp2
                refine ⟨⟨_, _, _, _, _, _, _, _, _, _, _, _, _, _, _, _, _, ⟨t + 1, by omega, ?relA, ?relB, hb2.trans b1⟩, rfl⟩, ?meas⟩
                case relA => simp
                case relB => rw [hs, ← List.append_assoc, Lib.byteCells_append]; exact Or.inr h1
                case meas => simp [intOf]; omega
              · have hmi : (t : Int) ≤ (m : Int) := by omega
                have hmj : t ≤ m := by omega
                have hs : grp l (i) (t + 1) = grp l (i) t ++ [sigs.getD ((gv l (i) 3 / 2 ^ (6 * (3 - t))) % 64).toNat 0] := grp_sig (by rw [hmN]; exact hm)
                obtain ⟨q, hq, hidx⟩ : ∃ q : Nat, q < 64 ∧ gv l (i) 3 / 2 ^ (6 * (3 - t)) % 64 = (q : Int) := ⟨(gv l (i) 3 / 2 ^ (6 * (3 - t)) % 64).toNat, by omega, by omega⟩
                have hidx2 : bits BinOp.and IntKind.i64 (gv l (i) 3 / 2 ^ (6 * (3 - t))) 63 = (q : Int) := by
                  have hp : (0 : Int) < 2 ^ (6 * (3 - t)) := Int.pow_pos (by decide)
                  have h1 : 0 ≤ gv l (i) 3 / 2 ^ (6 * (3 - t)) := Int.ediv_nonneg hg3.1 (by omega)
                  have h2 : gv l (i) 3 / 2 ^ (6 * (3 - t)) ≤ gv l (i) 3 := Int.ediv_le_self _ hg3.1
                  rw [and63 h1 (by have := hg3.2; omega), hidx]
                rw [hidx, Int.toNat_natCast] at hs
                clear hidx hg3
                go_wp2_with (go_at_call 116; refine (wb_k w.heap.size w.heap.size _ _ _ hI2 hlb hsz2).mono ?_)
                rintro e W1 ⟨rfl, h1, b1, k1⟩
                go_wp2
                refine ⟨⟨_, _, _, _, _, _, _, _, _, _, _, _, _, _, _, _, _, ⟨t + 1, by omega, ?relC, ?relD, hb2.trans b1⟩, rfl⟩, ?meaS⟩
                case relC => simp
                case relD =>
                  have key : Lib.byteCells (acc ++ grp l (i) (t + 1)) = Lib.byteCells (acc ++ grp l (i) t) ++ [.int .u8 ((sigA[q]'(by rw [sigA_size]; exact hq)).toNat : Nat)] := by
                    rw [hs, ← List.append_assoc, Lib.byteCells_append, sig_at hq]; rfl
                  rw [key]
                  exact Or.inr h1
                case meaS => simp [intOf]; omega
            · obtain rfl : t = 4 := by omega
              go_wp2
              go_roundw
              case rel =>
                refine ⟨i + 3, k + 1, by simp, by omega, by omega, ?_, hb2⟩
                show Lib.IsBuilderF _ _ _ _ (Lib.byteCells (encK l k ++ grp l (3 * k) 4)) _
                rw [hacc, hik]; exact hI2
              case measure => simp [intOf]; omega
    · go_wp2_with (go_at_call 117; refine (Tryz.Builder_String_any_k w.heap.size w.heap.size acc _ hI (by omega)).mono ?_)
      rintro e W1 ⟨rfl, _, b1, _⟩
      go_wp2
      go_ret
      have e : (l.length + 2) / 3 = k := by omega
      unfold encB
      rw [e, hacc]
      exact ⟨rfl, hb.trans b1⟩
end Go.Proofs.YtifbhefbhlbofaaGreatDoor
namespace Go.Proofs.YtifbhefbhlbofaaGreatDoor
open Pv Go.RowKit
set_option linter.unusedVariables false
theorem F_b64_Encode_sound {T : Tab} : SoundFn Tryz.prog T 63 F_b64_Encode_sig ⟨F_b64_Encode⟩ := by
  refine sound_d rfl fun F g O xs ls y tmf w args hT hls happ hsz hr => ?_
  obtain ⟨(l : List Int), xs', rfl, h2⟩ := appF_inv_c (ts := []) happ
  obtain ⟨rfl, h3⟩ := appF_inv_n h2
  have hls' : some [Leaf.d (.sl (.int .u8)) l] = some ls := hls
  injection hls' with hls'
  subst hls'
  obtain ⟨a, n, c, e0, e1, e2, e3, e4, e5⟩ := rel_bytes (hr 0)
  rw [args_1 hsz, e0]
  have h3 : cond (Nat.ble l.length 1099511627776) (some ((encB l).map byteI)) none = some y := h3
  cases hb : Nat.ble l.length 1099511627776 with
  | false => rw [hb] at h3; cases h3
  | true =>
    rw [hb] at h3
    have hy : (encB l).map byteI = y := by injection h3
    have hle : l.length ≤ 1099511627776 := Nat.le_of_ble_eq_true hb
    refine (enc_walk l e4 a n c e1 (by rw [← e1]; exact hle) w e5).mono fun e w' ⟨he, hbel⟩ => ⟨[.string ⟨(encB l).toArray⟩], [.d .str y], he, rfl, rfl, hbel, fun i hi => ?_⟩
    match i, hi with
    | 0, _ =>
      refine rel_leaf.2 ⟨_, rfl, ?_, ?_⟩
      · rw [← hy]
        show (encB l).toArray.toList.map byteI = _
        rw [List.toList_toArray]
      · show (encB l).toArray.size ≤ maxLen
        rw [List.size_toArray, encB_len]
        have hm : maxLen = 9223372036854775807 := rfl
        omega
end Go.Proofs.YtifbhefbhlbofaaGreatDoor
namespace Go.Proofs
open Go.Shelf Go.RowKit Go.Lib Go.Sort
def Tryz.lays212_ren : Go.Shelf.Ren := ⟨fun | 212 => 202 | 263 => 215 | 264 => 216 | n => n, fun | 46 => 114 | 51 => 240 | 146 => 260 | 53 => 242 | 148 => 262 | n => n, fun | n => n⟩
theorem Tryz.lays212 : Go.Proofs.Lays.n212 Tryz.prog Tryz.lays212_ren := {
  mixed := by kernel_rfl
  f212 := Tryz.func202.trans (congrArg some (by kernel_rfl))
  f263 := Tryz.func215.trans (congrArg some (by kernel_rfl))
  f264 := Tryz.func216.trans (congrArg some (by kernel_rfl))
  t46 := Tryz.underlying114
  a46 := Tryz.isAgg114
  z46 := Tryz.sizeOf114
  v46 := Tryz.zeroValue114
  t51 := Tryz.underlying240
  a51 := Tryz.isAgg240
  z51 := Tryz.sizeOf240
  v51 := Tryz.zeroValue240
  t53 := Tryz.underlying242
  a53 := Tryz.isAgg242
  z53 := Tryz.sizeOf242
  v53 := Tryz.zeroValue242
  t146 := Tryz.underlying260
  a146 := Tryz.isAgg260
  z146 := Tryz.sizeOf260
  v146 := Tryz.zeroValue260
  t148 := Tryz.underlying262
  a148 := Tryz.isAgg262
  z148 := Tryz.sizeOf262
  v148 := Tryz.zeroValue262 }
theorem Tryz.bits_Mul (x y : Nat) (hx : x < 18446744073709551616) (hy : y < 18446744073709551616) (w : World) :
    Calls Tryz.prog 202 #[.int .u64 x, .int .u64 y] w fun e w' => e = .returned (.tuple #[.int .u64 ((x * y / 18446744073709551616 : Nat) : Int), .int .u64 ((x * y % 18446744073709551616 : Nat) : Int)]) ∧ w' = w := Any.bits_Mul Tryz.lays212 x y hx hy w
end Go.Proofs
namespace Go.Proofs.YtifbhefbhlbofaaGreatDoor
open Go.RowKit Go.Lib Pv
set_option linter.unusedVariables false
def zrep (x : Int) (n m : Nat) : List Value := List.replicate m (.int .u8 x) ++ List.replicate (n - m) (.int .u8 0)
theorem zrep_len {x : Int} {n m : Nat} (h : m ≤ n) : (zrep x n m).length = n := by
  unfold zrep
  rw [List.length_append, List.length_replicate, List.length_replicate]
  omega
theorem zrep_splice {x : Int} {n m k : Nat} (h : m + k ≤ n) : splice (zrep x n m) m (List.replicate k (.int .u8 x)) = zrep x n (m + k) := by
  unfold splice zrep
  have e1 : (List.replicate m (Value.int .u8 x) ++ List.replicate (n - m) (Value.int .u8 0)).take m = List.replicate m (Value.int .u8 x) := by
    rw [List.take_append_of_le_length (by simp)]; simp
  have e2 : (List.replicate m (Value.int .u8 x) ++ List.replicate (n - m) (Value.int .u8 0)).drop (m + (List.replicate k (Value.int .u8 x)).length) = List.replicate (n - (m + k)) (Value.int .u8 0) := by
    rw [List.length_replicate, List.drop_append, List.drop_eq_nil_of_le (by simp), List.length_replicate, List.drop_replicate, List.nil_append]
    congr 1; omega
  rw [e1, e2, ← List.append_assoc, List.replicate_append_replicate]
theorem zrep_get {x : Int} {n m j : Nat} (h : j < m) (hm : m ≤ n) : (zrep x n m).toArray[j]? = some (.int .u8 x) := by
  unfold zrep
  rw [List.getElem?_toArray, List.getElem?_append_left (by simpa using h), List.getElem?_replicate, if_pos h]
set_option maxHeartbeats 8000000 in
set_option maxRecDepth 1000000 in
theorem rep_walk (ad : Addr) (cap : Nat) (x : Int) (n : Nat) (hn : n ≤ 100000) (w : World) (hcap : 1 ≤ cap) (hcell : w.cell? ad = some (.int .u8 x)) :
    Calls Tryz.prog 178 #[.slice (some ad) 1 cap, .int .i64 (n : Int)] w fun e w' => ∃ b, e = .returned (.slice (some ⟨b, 0, none⟩) n n) ∧ w.heap.size ≤ b ∧ w'.heap[b]? = some (.cells (zrep x n n).toArray 5 (0, 0)) ∧ Below w.heap.size w w' := by
  obtain ⟨i0, hi, hz0, hz1, hz2⟩ := info_parts infoU
  have hmul : ∀ w : World, Calls Tryz.prog 202 #[.int .u64 1, .int .u64 (n : Int)] w fun e w' => e = .returned (.tuple #[.int .u64 0, .int .u64 (n : Int)]) ∧ w' = w := fun w => by
    have h := Tryz.bits_Mul 1 n (by omega) (by omega) w
    rw [Nat.one_mul, Nat.div_eq_of_lt (by omega), Nat.mod_eq_of_lt (by omega)] at h
    exact h
  have hmade : madeCells (Value.int .u8 0).cells (n * i0.size) = (zrep x n 0).toArray := by
    rw [hz1, Nat.mul_one]
    apply Array.ext
    · simp [madeCells, zrep]
    · intro i h1 h2
      simp [madeCells, zrep, Value.cells, Nat.mod_one]
  have hmk : (Instr.makeSlice 32 (.int .i64 (n : Int)) (.int .i64 (n : Int))).run Tryz.prog w = .ok (.slice (some ⟨w.heap.size, 0, none⟩) n n) (w.alloc (.cells (zrep x n 0).toArray 5)) := by
    have h := run_make (P := Tryz.prog) w 32 5 i0 _ Tryz.underlying32 hi hz0 .i64 .i64 (n : Int) (n : Int) (by omega) (Int.le_refl _) (by rw [hz2]; omega) (by omega)
    rw [Int.toNat_natCast, hmade] at h
    exact h
  have hu64 : IntKind.u64.wrap (n : Int) = (n : Int) := IntWalk.u64_in _ ⟨by omega, by omega⟩
  have hi64 : IntKind.i64.wrap (n : Int) = (n : Int) := IntWalk.i64_in _ ⟨by omega, by omega⟩
  have hnn : ¬ (n : Int) < 0 := by omega
  have hnb : ¬ (n : Int) > 9223372036854775807 := by omega
  have hsrc : ∀ (j : Nat) v, (List.replicate (Nat.min 1 n) (Value.int .u8 x))[j]? = some v → (w.alloc (.cells (zrep x n 0).toArray 5)).cell? (ad.add j) = some v := fun j v hj => by
    rw [List.getElem?_replicate] at hj
    split at hj
    · rename_i h
      injection hj with hj
      subst hj
      have : Nat.min 1 n ≤ 1 := Nat.min_le_left _ _
      obtain rfl : j = 0 := by omega
      exact Lib.cell?_alloc_some _ hcell
    · cases hj
  go_enter Tryz.func178, Tryz.ntmps178
  have hlen1 : (List.replicate (Nat.min 1 n) (Value.int .u8 x)).length = Nat.min 1 n := List.length_replicate
  have hone : ∀ (k : Nat), ∀ v ∈ List.replicate k (Value.int .u8 x), v.oneCell' = true := fun k v hv => by rw [(List.mem_replicate.1 hv).2]; rfl
  have hbel0 : Below w.heap.size w (w.alloc (.cells (zrep x n 0).toArray 5)) := (Below.refl _ _).alloc (Nat.le_refl _) _
  have hal : (w.alloc (.cells (zrep x n 0).toArray 5)).heap[w.heap.size]? = some (.cells (zrep x n 0).toArray 5 (0, 0)) := heap_alloc_new w _
  have hmin : Nat.min 1 n ≤ n := Nat.min_le_right _ _
  have hmin0 : Nat.min 1 n = 0 → n = 0 := fun h => by
    have : Nat.min 1 n = min 1 n := rfl
    omega
  obtain ⟨w2, hcp, hg2', hb2⟩ : ∃ w2, (Builtin.copy_ #[32, 32] 3 #[.slice (some ⟨w.heap.size, 0, none⟩) n n, .slice (some ad) 1 cap]).run Tryz.prog (w.alloc (.cells (zrep x n 0).toArray 5)) = .ok (.int .i64 ((Nat.min 1 n : Nat) : Int)) w2 ∧
      w2.heap[w.heap.size]? = some (.cells (zrep x n (Nat.min 1 n)).toArray 5 (0, 0)) ∧ Below w.heap.size w w2 := by
    by_cases h0 : n = 0
    · subst h0
      exact ⟨_, run_copy_none (P := Tryz.prog) (w.alloc (.cells (zrep x 0 0).toArray 5)) 32 32 3 5 (some ⟨w.heap.size, 0, none⟩) (some ad) 0 0 1 cap Tryz.underlying32 (by kernel_rfl) rfl, heap_alloc_new w _, hbel0⟩
    · have h1 : Nat.min 1 n = 1 := by
        have : Nat.min 1 n = min 1 n := rfl
        omega
      rw [h1] at hlen1 hsrc ⊢
      have hrun := run_copy_row (P := Tryz.prog) (w.alloc (.cells (zrep x n 0).toArray 5)) 32 32 3 5 w.heap.size 0 n n ad 1 cap (zrep x n 0).toArray 5 (List.replicate 1 (Value.int .u8 x)) Tryz.underlying32 (by kernel_rfl) hal (by rw [hlen1, h1]) hsrc (by rw [hlen1, List.size_toArray, zrep_len (Nat.zero_le _)]; omega) (hone _)
      refine ⟨_, hrun, (setRow_heap _ _ _ _ _ _ hal).trans ?_, ?_⟩
      · have h3 := zrep_splice (x := x) (n := n) (m := 0) (k := 1) (by omega)
        unfold splice at h3
        rw [List.append_assoc, List.toList_toArray, h3]
      · exact below_setRow hbel0 (Nat.le_refl _) _
  go_wp2_with (first | (go_at_call 202; (with_reducible refine (hmul _).mono ?_); rintro e w1 ⟨rfl, hw1⟩; rw [hw1]) | (simp only []) | (simp only [hcp]))
  go_loopw [8] (fun v wr => ∃ m : Nat, v = .int .i64 m ∧ m ≤ n ∧ (m = 0 → n = 0) ∧ wr.heap[w.heap.size]? = some (.cells (zrep x n m).toArray 5 (0, 0)) ∧ Below w.heap.size w wr) (fun v _ => n - (RowKit.intOf v).toNat)
  case atStart => exact ⟨Nat.min 1 n, rfl, hmin, hmin0, hg2', hb2⟩
  case round =>
    obtain ⟨m, rfl, hm, hm0, hg, hb⟩ := hrel
    by_cases hlt : m < n
    · have hk : ∃ k, Nat.min m (n - m) = k ∧ 0 < k ∧ m + k ≤ n ∧ k ≤ m := ⟨_, rfl, by have : Nat.min m (n - m) = min m (n - m) := rfl; omega, by have : Nat.min m (n - m) = min m (n - m) := rfl; omega, Nat.min_le_left _ _⟩
      obtain ⟨k, hk1, hk2, hk3, hk4⟩ := hk
      have hsz : w.heap.size < wr.heap.size := (Array.getElem?_eq_some_iff.1 hg).1
      have hsrc2 : ∀ (j : Nat) v, (List.replicate k (Value.int .u8 x))[j]? = some v → wr.drew.cell? ((⟨w.heap.size, 0, none⟩ : Addr).add j) = some v := fun j v hj => by
        rw [List.getElem?_replicate] at hj
        split at hj
        · rename_i h
          injection hj with hj
          subst hj
          rw [add_at, Nat.zero_add]
          have : wr.drew.cell? ⟨w.heap.size, j, none⟩ = wr.cell? ⟨w.heap.size, j, none⟩ := rfl
          rw [this, cell_at hg]
          exact zrep_get (by omega) hm
        · cases hj
      have hmn : ¬ m = 0 := by omega
      have hnm : ¬ n = m := by omega
      have hwk : IntKind.i64.wrap ((m : Int) + (k : Int)) = ((m + k : Nat) : Int) := (IntWalk.i64_in _ ⟨by omega, by omega⟩).trans (by omega)
      have hmn' : (m : Int) ≤ (n : Int) := by omega
      have hm0' : ¬ (m : Int) = 0 := by omega
      clear hsrc hsz
      go_wp2
      go_region_law (refine step_copy_splice rfl (.tmp 41) (.tmp 44) 32 32 rfl 5 Tryz.underlying32 (by kernel_rfl) (some ⟨w.heap.size, m, none⟩) (some ⟨w.heap.size, 0, none⟩) (n - m) (n - m) m n (by simp [Act.eval, Act.put]) (by simp [Act.eval, Act.put]) w.heap.size m (zrep x n m) 5 hg (List.replicate k (.int .u8 x)) (by rw [List.length_replicate, hk1]) (fun _ => ⟨rfl, _, rfl, hsrc2⟩) (by rw [List.length_replicate, zrep_len hm]; exact hk3) (hone _) w.heap.size w (hb.trans ((Below.refl _ _).drew)) (Nat.le_refl _) ?_; intro w4 hg4 hb4)
      have hg5 := hg4.out
      rw [zrep_splice hk3] at hg5
      go_wp2
      refine ⟨?_, ?_⟩
      · repeat apply Exists.intro
        refine ⟨?_, rfl⟩
        exact ⟨m + k, by simp, hk3, by omega, hg5, hb4⟩
      · show n - (RowKit.intOf (.int .i64 ((m : Int) + (k : Int)))).toNat < n - (RowKit.intOf (.int .i64 (m : Int))).toNat
        show n - ((m : Int) + (k : Int)).toNat < n - ((m : Int)).toNat
        omega
    · obtain rfl : m = n := by omega
      go_wp2
      go_ret
      exact ⟨w.heap.size, rfl, Nat.le_refl _, hg, hb⟩
theorem F_slices_Repeat_byte_byte_sound {T : Tab} : SoundFn Tryz.prog T 178 F_slices_Repeat_byte_byte_sig ⟨F_slices_Repeat_byte_byte⟩ := by
  refine sound_of rfl fun F g O xs ls y tmf w args hT hw hlim hls happ hsz hr => ?_
  obtain ⟨(l : List Int), xs', rfl, h2⟩ := appF_inv_c (ts := [.int .i64]) happ
  obtain ⟨(nn : Int), xs'', rfl, h2'⟩ := appF_inv_c (ts := []) h2
  obtain ⟨rfl, h3⟩ := appF_inv_n h2'
  have hls' : some [Leaf.d (.sl (.int .u8)) l, Leaf.d (.int .i64) nn] = some ls := hls
  injection hls' with hls'
  subst hls'
  obtain ⟨a, n, c, e0, e1, e2, e3, e4, e5, e6⟩ := rel_ints (hr 0)
  obtain ⟨f0, f1⟩ := rel_int (hr 1)
  rw [args_2 hsz, e0, f0]
  have h3 : F_slices_Repeat_byte_byte l nn = some y := h3
  obtain ⟨x, rfl⟩ : ∃ x, l = [x] := by
    match l, h3 with
    | [], h3 => cases h3
    | [x], _ => exact ⟨x, rfl⟩
    | _ :: _ :: _, h3 => cases h3
  have h3 : cond (decide (0 ≤ nn) && decide (nn ≤ 100000)) (some (List.replicate nn.toNat x)) none = some y := h3
  cases hb : (decide (0 ≤ nn) && decide (nn ≤ 100000)) with
  | false => rw [hb] at h3; cases h3
  | true =>
    rw [hb] at h3
    have hy : List.replicate nn.toNat x = y := by injection h3
    rw [Bool.and_eq_true, decide_eq_true_iff, decide_eq_true_iff] at hb
    obtain ⟨m, rfl⟩ : ∃ m : Nat, nn = (m : Int) := ⟨nn.toNat, by omega⟩
    rw [Int.toNat_natCast] at hy
    subst hy
    have hn1 : n = 1 := e1.symm
    subst hn1
    cases a with
    | none => cases e6 rfl
    | some ad =>
      refine (rep_walk ad c x m (by omega) w e2 (by have := e5 ad rfl 0 x rfl; simpa [Addr.add] using this)).mono ?_
      rintro e w' ⟨b, rfl, hb0, hg, hbel⟩
      have hsz2 : (zrep x m m).toArray.size = m * 1 := by rw [List.size_toArray, zrep_len (Nat.le_refl _), Nat.mul_one]
      have hmax : m ≤ maxLen := by
        have : maxLen = 9223372036854775807 := rfl
        omega
      have hll : (List.replicate m x).length = m := List.length_replicate
      have hzm : zrep x m m = (List.replicate m x).map (Value.int .u8) := by
        unfold zrep
        rw [Nat.sub_self, List.replicate_zero, List.append_nil, List.map_replicate]
      refine own_row (l := List.replicate m x) hw hlim hbel ?_ (fun z hz => by rw [(List.mem_replicate.1 hz).2]; exact e4 x List.mem_cons_self) rfl rfl
      rw [hll]
      refine ⟨by simp, .inr ⟨b, m, (zrep x m m).toArray, rfl, hb0, hg, Nat.le_refl _, hmax, hsz2, ?_⟩⟩
      rw [List.toList_toArray, Nat.mul_one, List.take_of_length_le (by rw [zrep_len (Nat.le_refl _)]; exact Nat.le_refl _), hzm]
end Go.Proofs.YtifbhefbhlbofaaGreatDoor
namespace Go.Proofs.YtifbhefbhlbofaaGreatDoor
open Go.RowKit Pv
set_option linter.unusedVariables false
abbrev fieldS : Ty := .pr .str (.pr .str .bool)
abbrev FldS := List Int × List Int × Bool
set_option maxHeartbeats 4000000 in
set_option maxRecDepth 1000000 in
theorem same1_walk (s1 s2 t1 t2 : ByteArray) (b c : Bool) (w : World) :
    Calls Tryz.prog 62 #[.agg #[.string s1, .string s2, .bool b], .agg #[.string t1, .string t2, .bool c]] w fun e w' => e = .returned (.bool ((s1.toList == t1.toList) && (s2.toList == t2.toList))) ∧ Below w.heap.size w w' := by
  go_enter Tryz.func62, Tryz.ntmps62
  go_wp2
  · rename_i hq
    go_ret
    exact ⟨by rw [beq_iff_eq.2 hq, Bool.true_and]; rfl, ((Below.refl _ w).alloc (Nat.le_refl _) _).alloc (by simp) _⟩
  · rename_i hq
    go_ret
    exact ⟨by rw [beq_eq_false_iff_ne.2 hq, Bool.false_and]; rfl, ((Below.refl _ w).alloc (Nat.le_refl _) _).alloc (by simp) _⟩
theorem toList_eq (s t : ByteArray) : (s.toList == t.toList) = eqL (bytesL s) (bytesL t) := by
  unfold eqL
  rw [ByteArray.toList_eq, ByteArray.toList_eq, Bool.eq_iff_iff, beq_iff_eq, beq_iff_eq]
  unfold bytesL
  constructor
  · intro h; rw [h]
  · intro h
    refine List.map_inj_right (fun x y e => UInt8.toNat_inj.1 (by unfold byteI at e; exact Int.ofNat.inj e)) |>.1 h
theorem rep_field {w : World} {C : Com} {us : List FldS} {a : Option Addr} {n c : Nat} (h : RepD w C (.sl fieldS) us [.slice a n c]) : us.length = n ∧ ∀ (i : Nat) (u : FldS), us[i]? = some u → ∃ (B o : Nat) (s t : ByteArray), a = some ⟨B, o, none⟩ ∧ bytesL s = u.1 ∧ bytesL t = u.2.1 ∧ w.cell? ⟨B, o + (i * 3 + 0), none⟩ = some (.string s) ∧ w.cell? ⟨B, o + (i * 3 + 1), none⟩ = some (.string t) ∧ w.cell? ⟨B, o + (i * 3 + 2), none⟩ = some (.bool u.2.2) := by
  obtain ⟨a', n', c', e0, e1, e2, e3, e4⟩ := h
  injection e0 with e0 _
  injection e0 with q1 q2 q3
  subst q1; subst q2; subst q3
  refine ⟨e1, fun i u hu => ?_⟩
  obtain ⟨ad, cs, r1, r2, r3, r4⟩ := e4 i u hu
  have hlen : cs.length = 3 := r2
  obtain ⟨k1, k2, rfl, ⟨s, rfl, hs, _⟩, l1, l2, rfl, ⟨t, rfl, ht, _⟩, hb⟩ := r4
  have hb : l2 = [.bool u.2.2] := hb
  subst hb
  have hsp : ad.spot = none := by
    obtain ⟨u0, hu0⟩ : ∃ u0, us[0]? = some u0 := ⟨_, List.getElem?_eq_getElem (by have := (List.getElem?_eq_some_iff.1 hu).1; omega)⟩
    obtain ⟨ad', cs', s1, s2, s3, s4⟩ := e4 0 u0 hu0
    rw [r1] at s1
    injection s1 with s1
    subst s1
    have hlen' : cs'.length = 3 := s2
    have hc0 := (s3 0 _ (List.getElem?_eq_getElem (by omega))).1
    rw [Nat.zero_mul, Nat.zero_add, show ad.add 0 = ad from by unfold Addr.add; simp] at hc0
    unfold World.cell? at hc0
    split at hc0
    · split at hc0
      · cases hc0
      · rename_i hs
        cases hsx : ad.spot with
        | none => rfl
        | some q => rw [hsx] at hs; simp at hs
    · cases hc0
  obtain ⟨B, o, sp⟩ := ad
  cases hsp
  have get : ∀ j x, ([Value.string s] ++ ([Value.string t] ++ [Value.bool u.2.2]))[j]? = some x → w.cell? ⟨B, o + (i * 3 + j), none⟩ = some x := fun j x hj => by
    have := (r3 j x hj).1
    rw [add_at] at this
    exact this
  exact ⟨B, o, s, t, r1, hs, ht, get 0 _ rfl, get 1 _ rfl, get 2 _ rfl⟩
set_option maxHeartbeats 8000000 in
set_option maxRecDepth 1000000 in
theorem eqf_walk {w : World} {C : Com} {us vs : List FldS} {a b : Option Addr} {n m c d : Nat} (hu : RepD w C (.sl fieldS) us [.slice a n c]) (hv : RepD w C (.sl fieldS) vs [.slice b m d]) (hn : n ≤ maxLen) :
    Calls Tryz.prog 61 #[.slice a n c, .slice b m d, .func (.func 62) #[] #[]] w fun e w' => e = .returned (.bool (sameF us vs)) ∧ Below w.heap.size w w' := by
  have hmx : maxLen = 9223372036854775807 := rfl
  rw [hmx] at hn
  obtain ⟨hul, hu1⟩ := rep_field hu
  obtain ⟨hvl, hv1⟩ := rep_field hv
  have HC : Aside ((∀ (i : Nat) (u : FldS), us[i]? = some u → ∃ (B o : Nat) (s t : ByteArray), a = some ⟨B, o, none⟩ ∧ bytesL s = u.1 ∧ bytesL t = u.2.1 ∧ w.cell? ⟨B, o + (i * 3 + 0), none⟩ = some (.string s) ∧ w.cell? ⟨B, o + (i * 3 + 1), none⟩ = some (.string t) ∧ w.cell? ⟨B, o + (i * 3 + 2), none⟩ = some (.bool u.2.2)) ∧
    ∀ (i : Nat) (u : FldS), vs[i]? = some u → ∃ (B o : Nat) (s t : ByteArray), b = some ⟨B, o, none⟩ ∧ bytesL s = u.1 ∧ bytesL t = u.2.1 ∧ w.cell? ⟨B, o + (i * 3 + 0), none⟩ = some (.string s) ∧ w.cell? ⟨B, o + (i * 3 + 1), none⟩ = some (.string t) ∧ w.cell? ⟨B, o + (i * 3 + 2), none⟩ = some (.bool u.2.2)) := ⟨hu1, hv1⟩
  have HL : Aside (us.length = n ∧ vs.length = m) := ⟨hul, hvl⟩
  clear hu hv hu1 hv1 hul hvl
  by_cases hnm : n = m
  · subst hnm
    go_enter Tryz.func61, Tryz.ntmps61
    go_wp2
    go_loopw [17] (fun v wr => ∃ k : Nat, k ≤ n ∧ v = .int .i64 k ∧ Below w.heap.size w wr ∧ Aside (sameF (us.drop k) (vs.drop k) = sameF us vs)) (fun v _ => n - (RowKit.intOf v).toNat)
    case atStart => exact ⟨0, by omega, rfl, Below.refl _ _, rfl⟩
    case round =>
      obtain ⟨k, hk, rfl, hb, HA⟩ := hrel
      by_cases hlt : k < n
      · obtain ⟨u, hku⟩ : ∃ u, us[k]? = some u := ⟨_, List.getElem?_eq_getElem (by rw [HL.out.1]; exact hlt)⟩
        obtain ⟨v, hkv⟩ : ∃ v, vs[k]? = some v := ⟨_, List.getElem?_eq_getElem (by rw [HL.out.2]; exact hlt)⟩
        obtain ⟨B, o, s1, s2, rfl, hs1, hs2, x0, x1, x2⟩ := HC.out.1 k u hku
        obtain ⟨B', o', t1, t2, rfl, ht1, ht2, y0, y1, y2⟩ := HC.out.2 k v hkv
        have cell : ∀ {p : Addr} {z : Value}, w.cell? p = some z → wr.cell? p = some z := fun hp => (hb.cell (cell_lt hp)).trans hp
        have a0 := cell x0
        have a1 := cell x1
        have a2 := cell x2
        have b0 := cell y0
        have b1 := cell y1
        have b2 := cell y2
        simp only [Nat.add_zero, ← Nat.add_assoc] at a0 a1 a2 b0 b1 b2
        have hAlt := cell_lt a0
        have hBlt := cell_lt b0
        have hun : us.drop k = u :: us.drop (k + 1) := by
          have := List.drop_eq_getElem_cons (l := us) (i := k) (by rw [HL.out.1]; exact hlt)
          rw [this]
          congr 1
          have h2 := List.getElem?_eq_getElem (l := us) (i := k) (by rw [HL.out.1]; exact hlt)
          rw [h2] at hku
          injection hku
        have hvn : vs.drop k = v :: vs.drop (k + 1) := by
          have := List.drop_eq_getElem_cons (l := vs) (i := k) (by rw [HL.out.2]; exact hlt)
          rw [this]
          congr 1
          have h2 := List.getElem?_eq_getElem (l := vs) (i := k) (by rw [HL.out.2]; exact hlt)
          rw [h2] at hkv
          injection hkv
        have hA := HA.out
        rw [hun, hvn] at hA
        have hA : (eqL u.1 v.1 && eqL u.2.1 v.2.1 && sameF (us.drop (k + 1)) (vs.drop (k + 1))) = sameF us vs := hA
        obtain ⟨q, hq⟩ : ∃ q, (eqL u.1 v.1 && eqL u.2.1 v.2.1) = q := ⟨_, rfl⟩
        have hcl : ∀ {W : World}, Calls Tryz.prog 62 #[.agg #[.string s1, .string s2, .bool u.2.2], .agg #[.string t1, .string t2, .bool v.2.2]] W fun e W' => e = .returned (.bool q) ∧ Below W.heap.size W W' := fun {W} => by
          have h := same1_walk s1 s2 t1 t2 u.2.2 v.2.2 W
          rw [toList_eq, toList_eq, hs1, hs2, ht1, ht2, hq] at h
          exact h
        have hcl := @hcl
        rw [hq] at hA
        have HQ : Aside ((q && sameF (us.drop (k + 1)) (vs.drop (k + 1))) = sameF us vs) := hA
        have hs : w.heap.size ≤ wr.heap.size := hb.size
        clear hku hkv hun hvn hA HA hq HC x0 x1 x2 y0 y1 y2 hs1 hs2 ht1 ht2
        cases q with
        | true =>
          go_wp2_with (first | (go_at_call 62; refine hcl.mono ?_; rintro e w' ⟨rfl, hw'⟩) | go_in)
          refine ⟨⟨k + 1, by omega, by simp, ((hb.alloc hs _).alloc (by simp; omega) _).trans (hw'.mono (by simp; omega)), HQ.out⟩, by simp [RowKit.intOf]; omega⟩
        | false =>
          go_wp2_with (first | (go_at_call 62; refine hcl.mono ?_; rintro e w' ⟨rfl, hw'⟩) | go_in)
          go_ret
          exact ⟨by rw [← HQ.out, Bool.false_and]; rfl, ((hb.alloc hs _).alloc (by simp; omega) _).trans (hw'.mono (by simp; omega))⟩
      · obtain rfl : k = n := by omega
        have hr : true = sameF us vs := by
          have h := HA.out
          rw [List.drop_of_length_le (by rw [HL.out.1]; omega), List.drop_of_length_le (by rw [HL.out.2]; omega)] at h
          exact h
        go_wp2
        go_ret
        exact ⟨by rw [← hr]; rfl, hb⟩
  · have hr : sameF us vs = false := by
      have key : ∀ (us vs : List FldS), us.length ≠ vs.length → sameF us vs = false := by
        intro us
        induction us with
        | nil => intro vs h; cases vs with
          | nil => exact (h rfl).elim
          | cons v vs => rfl
        | cons u us ih => intro vs h; cases vs with
          | nil => rfl
          | cons v vs =>
            show (eqL u.1 v.1 && eqL u.2.1 v.2.1 && sameF us vs) = false
            rw [ih vs (by simpa using h), Bool.and_false]
      exact key us vs (by rw [HL.out.1, HL.out.2]; exact hnm)
    rw [hr]
    clear HC HL
    go_enter Tryz.func61, Tryz.ntmps61
    go_wp2
    go_ret
    exact ⟨rfl, Below.refl _ _⟩
set_option maxHeartbeats 4000000 in
set_option maxRecDepth 1000000 in
theorem same_walk {w : World} {C : Com} {us vs : List FldS} {a b : Option Addr} {n m c d : Nat} (hu : RepD w C (.sl fieldS) us [.slice a n c]) (hv : RepD w C (.sl fieldS) vs [.slice b m d]) (hn : n ≤ maxLen) :
    Calls Tryz.prog 16 #[.slice a n c, .slice b m d] w fun e w' => e = .returned (.bool (sameF us vs)) ∧ Below w.heap.size w w' := by
  have hw := eqf_walk hu hv hn
  clear hu hv
  go_enter Tryz.func16, Tryz.ntmps16
  go_wp2_with (go_at_call 61; refine hw.mono ?_; rintro e w' ⟨rfl, hw'⟩)
  go_ret
  exact ⟨rfl, hw'⟩
theorem F_stat_Same_sound {T : Tab} : SoundFn Tryz.prog T 16 F_stat_Same_sig ⟨F_stat_Same⟩ := by
  refine sound_d rfl fun F g O xs ls y tmf w args hT hls happ hsz hr => ?_
  obtain ⟨(l : List FldS), xs', rfl, h2⟩ := appF_inv_c (ts := [.sl fieldS]) happ
  obtain ⟨(m : List FldS), xs'', rfl, h2'⟩ := appF_inv_c (ts := []) h2
  obtain ⟨rfl, h3⟩ := appF_inv_n h2'
  have hls' : some [Leaf.d (.sl fieldS) l, Leaf.d (.sl fieldS) m] = some ls := hls
  injection hls' with hls'
  subst hls'
  have h0 := rel_leaf.1 (hr 0)
  have h1 := rel_leaf.1 (hr 1)
  obtain ⟨a, n, c, e0, e1, e2, e3, e4⟩ := h0
  obtain ⟨b, k, d, f0, f1, f2, f3, f4⟩ := h1
  have hu : RepD w g.C (.sl fieldS) l [.slice a n c] := ⟨a, n, c, rfl, e1, e2, e3, e4⟩
  have hv : RepD w g.C (.sl fieldS) m [.slice b k d] := ⟨b, k, d, rfl, f1, f2, f3, f4⟩
  have e0 : args.getD 0 undef = .slice a n c := by injection e0
  have f0 : args.getD 1 undef = .slice b k d := by injection f0
  rw [args_2 hsz, e0, f0]
  have h3 : some (sameF l m) = some y := h3
  have hy : sameF l m = y := by injection h3
  refine (same_walk hu hv (Nat.le_trans e2 e3)).mono ?_
  rintro e w' ⟨rfl, hbel⟩
  refine ⟨[.bool (sameF l m)], [.d .bool y], rfl, rfl, rfl, hbel, fun i hi => ?_⟩
  match i, hi with
  | 0, _ => exact rel_leaf.2 (by rw [← hy]; rfl)
end Go.Proofs.YtifbhefbhlbofaaGreatDoor
namespace Go.Proofs.YtifbhefbhlbofaaGreatDoor
open Go.RowKit Go.Lib Pv
set_option linter.unusedVariables false

set_option maxHeartbeats 4000000 in
set_option maxRecDepth 1000000 in
theorem scl_at (a : Addr) (n c : Nat) (l : List Int) (w : World) (hl : l.length = n) (hbig : n ≤ 140737488355328) (hc : ∀ (i : Nat) x, l[i]? = some x → w.cell? (a.add i) = some (.int .u8 x)) :
    Calls Tryz.prog 57 #[.slice (some a) n c] w fun e w' => ∃ v', e = .returned v' ∧ w'.ownsRow w.heap.size 5 1 v' n (l.map (Value.int .u8)) ∧ Below w.heap.size w w' := by
  obtain ⟨i0, hi, hz0, hz1, hz2⟩ := info_parts infoU
  have q22 : ∀ (w : World) (a : Option Addr) (n c n' c' : Nat), (binOp .eql 32 (.slice a n c) (.slice none n' c')).run Tryz.prog w = .ok (.bool a.isNone) w := fun w a n c n' c' => Lib.run_eql_slice_nil w _ _ a n c n' c' Tryz.underlying32
  have A : Aside (∀ (i : Nat) x, l[i]? = some x → w.cell? (a.add i) = some (.int .u8 x)) := hc
  clear hc
  go_enter Tryz.func57, Tryz.ntmps57
  go_wp2_with (at_builtin; refine wpList_append_own _ rfl _ _ 32 rfl w.heap.size 5 i0 (.int .u8 0) 1 1 Tryz.underlying32 hi hz0 hz1 hz2 rfl (by decide) _ _ _ rfl (World.ownsRow_made w #[] 0 (Nat.le_refl _) (Nat.zero_le _) rfl) a n c (l.map (Value.int .u8)) rfl ?qc1 ?qc2 ?qc3 ?qc4 ?qc5 ?qc6 ?_)
  case qc1 => simp; omega
  case qc2 =>
    intro j u hj
    rw [List.getElem?_map] at hj
    obtain ⟨x, hx, rfl⟩ := Option.map_eq_some_iff.1 hj
    exact Lib.cell?_alloc_some _ (A.out j x hx)
  case qc3 => intro u hu; obtain ⟨x, _, rfl⟩ := List.mem_map.1 hu; rfl
  case qc4 => unfold maxLen; omega
  case qc5 => omega
  case qc6 => simp
  intro v' w1 hown hgrow hnil
  go_wp2
  go_ret
  exact ⟨v', rfl, by simpa using hown, ((Below.refl _ w).alloc (Nat.le_refl _) _).grown hgrow (by simp) (by intro k hk; simp [Value.ownBlock] at hk; omega)⟩
set_option maxHeartbeats 4000000 in
theorem scl_nil (n c : Nat) (w : World) : Calls Tryz.prog 57 #[.slice none n c] w fun e w' => e = .returned (.slice none 0 0) ∧ w' = w := by
  have q22 : ∀ (w : World) (a : Option Addr) (n c n' c' : Nat), (binOp .eql 32 (.slice a n c) (.slice none n' c')).run Tryz.prog w = .ok (.bool a.isNone) w := fun w a n c n' c' => Lib.run_eql_slice_nil w _ _ a n c n' c' Tryz.underlying32
  go_enter Tryz.func57, Tryz.ntmps57
  go_wp2
  go_ret
  exact ⟨rfl, rfl⟩
theorem F_slices_Clone_byte_byte_sound {T : Tab} : SoundFn Tryz.prog T 57 F_slices_Clone_byte_byte_sig ⟨F_slices_Clone_byte_byte⟩ := by
  refine sound_of rfl fun F g O xs ls y tmf w args hT hw hlim hls happ hsz hr => ?_
  obtain ⟨(l : List Int), xs', rfl, h2⟩ := appF_inv_c (ts := []) happ
  obtain ⟨rfl, h3⟩ := appF_inv_n h2
  have hls' : some [Leaf.d (.sl (.int .u8)) l] = some ls := hls
  injection hls' with hls'
  subst hls'
  obtain ⟨a, n, c, e0, e1, e2, e3, e4, e5, e6⟩ := rel_ints (hr 0)
  rw [args_1 hsz, e0]
  have h3 : cond (Nat.ble l.length 100000000) (some l) none = some y := h3
  cases hb : Nat.ble l.length 100000000 with
  | false => rw [hb] at h3; cases h3
  | true =>
    rw [hb] at h3
    have hy : l = y := by injection h3
    have hb := Nat.le_of_ble_eq_true hb
    subst hy
    cases a with
    | none =>
      have hl := e6 rfl
      refine (scl_nil n c w).mono ?_
      rintro e w' ⟨rfl, rfl⟩
      exact own_row (l := l) hw hlim (Below.refl _ _) (by rw [hl]; exact World.ownsRow_nil _ _ _ _) e4 rfl rfl
    | some ad =>
      refine (scl_at ad n c l w e1 (by omega) (e5 ad rfl)).mono ?_
      rintro e w' ⟨v, rfl, h1, h2⟩
      exact own_row (l := l) hw hlim h2 (by rw [e1]; exact h1) e4 rfl rfl

set_option maxHeartbeats 4000000 in
set_option maxRecDepth 1000000 in
theorem bcl_at (a : Addr) (n c : Nat) (l : List Int) (w : World) (hl : l.length = n) (hbig : n ≤ 140737488355328) (hc : ∀ (i : Nat) x, l[i]? = some x → w.cell? (a.add i) = some (.int .u8 x)) :
    Calls Tryz.prog 66 #[.slice (some a) n c] w fun e w' => ∃ v', e = .returned v' ∧ w'.ownsRow w.heap.size 5 1 v' n (l.map (Value.int .u8)) ∧ Below w.heap.size w w' := by
  obtain ⟨i0, hi, hz0, hz1, hz2⟩ := info_parts infoU
  have q22 : ∀ (w : World) (a : Option Addr) (n c n' c' : Nat), (binOp .eql 32 (.slice a n c) (.slice none n' c')).run Tryz.prog w = .ok (.bool a.isNone) w := fun w a n c n' c' => Lib.run_eql_slice_nil w _ _ a n c n' c' Tryz.underlying32
  have A : Aside (∀ (i : Nat) x, l[i]? = some x → w.cell? (a.add i) = some (.int .u8 x)) := hc
  clear hc
  go_enter Tryz.func66, Tryz.ntmps66
  go_wp2_with (at_builtin; refine wpList_append_own _ rfl _ _ 32 rfl w.heap.size 5 i0 (.int .u8 0) 1 1 Tryz.underlying32 hi hz0 hz1 hz2 rfl (by decide) _ _ _ rfl (World.ownsRow_made w #[] 0 (Nat.le_refl _) (Nat.zero_le _) rfl) a n c (l.map (Value.int .u8)) rfl ?qc1 ?qc2 ?qc3 ?qc4 ?qc5 ?qc6 ?_)
  case qc1 => simp; omega
  case qc2 =>
    intro j u hj
    rw [List.getElem?_map] at hj
    obtain ⟨x, hx, rfl⟩ := Option.map_eq_some_iff.1 hj
    exact Lib.cell?_alloc_some _ (A.out j x hx)
  case qc3 => intro u hu; obtain ⟨x, _, rfl⟩ := List.mem_map.1 hu; rfl
  case qc4 => unfold maxLen; omega
  case qc5 => omega
  case qc6 => simp
  intro v' w1 hown hgrow hnil
  go_wp2
  go_ret
  exact ⟨v', rfl, by simpa using hown, ((Below.refl _ w).alloc (Nat.le_refl _) _).grown hgrow (by simp) (by intro k hk; simp [Value.ownBlock] at hk; omega)⟩
set_option maxHeartbeats 4000000 in
theorem bcl_nil (n c : Nat) (w : World) : Calls Tryz.prog 66 #[.slice none n c] w fun e w' => e = .returned (.slice none 0 0) ∧ w' = w := by
  have q22 : ∀ (w : World) (a : Option Addr) (n c n' c' : Nat), (binOp .eql 32 (.slice a n c) (.slice none n' c')).run Tryz.prog w = .ok (.bool a.isNone) w := fun w a n c n' c' => Lib.run_eql_slice_nil w _ _ a n c n' c' Tryz.underlying32
  go_enter Tryz.func66, Tryz.ntmps66
  go_wp2
  go_ret
  exact ⟨rfl, rfl⟩
theorem F_bytes_Clone_sound {T : Tab} : SoundFn Tryz.prog T 66 F_bytes_Clone_sig ⟨F_bytes_Clone⟩ := by
  refine sound_of rfl fun F g O xs ls y tmf w args hT hw hlim hls happ hsz hr => ?_
  obtain ⟨(l : List Int), xs', rfl, h2⟩ := appF_inv_c (ts := []) happ
  obtain ⟨rfl, h3⟩ := appF_inv_n h2
  have hls' : some [Leaf.d (.sl (.int .u8)) l] = some ls := hls
  injection hls' with hls'
  subst hls'
  obtain ⟨a, n, c, e0, e1, e2, e3, e4, e5, e6⟩ := rel_ints (hr 0)
  rw [args_1 hsz, e0]
  have h3 : cond (Nat.ble l.length 100000000) (some l) none = some y := h3
  cases hb : Nat.ble l.length 100000000 with
  | false => rw [hb] at h3; cases h3
  | true =>
    rw [hb] at h3
    have hy : l = y := by injection h3
    have hb := Nat.le_of_ble_eq_true hb
    subst hy
    cases a with
    | none =>
      have hl := e6 rfl
      refine (bcl_nil n c w).mono ?_
      rintro e w' ⟨rfl, rfl⟩
      exact own_row (l := l) hw hlim (Below.refl _ _) (by rw [hl]; exact World.ownsRow_nil _ _ _ _) e4 rfl rfl
    | some ad =>
      refine (bcl_at ad n c l w e1 (by omega) (e5 ad rfl)).mono ?_
      rintro e w' ⟨v, rfl, h1, h2⟩
      exact own_row (l := l) hw hlim h2 (by rw [e1]; exact h1) e4 rfl rfl
def fieldT : Ty := .pr .str (.pr .str .bool)
def fieldZ : Value := .agg #[.string ⟨#[]⟩, .string ⟨#[]⟩, .bool false]
theorem infoF : (Tryz.prog.info? 26).map (fun i => (i.zero, i.size, i.bytes)) = some (some fieldZ, 3, 40) := by kernel_rfl
set_option maxHeartbeats 4000000 in
set_option maxRecDepth 1000000 in
theorem clf_at (a : Addr) (n c : Nat) (news : List Value) (w : World) (hl : news.length = n * 3) (hbig : n ≤ 1000000) (hc : ∀ j u, news[j]? = some u → w.cell? (a.add j) = some u) (h1 : ∀ u ∈ news, u.oneCell' = true) :
    Calls Tryz.prog 153 #[.slice (some a) n c] w fun e w' => ∃ v', e = .returned v' ∧ w'.ownsRow w.heap.size 26 3 v' n news ∧ Below w.heap.size w w' := by
  obtain ⟨i0, hi, hz0, hz1, hz2⟩ := info_parts infoF
  have q22 : ∀ (w : World) (a : Option Addr) (n c n' c' : Nat), (binOp .eql 22 (.slice a n c) (.slice none n' c')).run Tryz.prog w = .ok (.bool a.isNone) w := fun w a n c n' c' => Lib.run_eql_slice_nil w _ _ a n c n' c' Tryz.underlying22
  have A : Aside (∀ j u, news[j]? = some u → w.cell? (a.add j) = some u) := hc
  have B : Aside (∀ u ∈ news, u.oneCell' = true) := h1
  clear hc h1
  go_enter Tryz.func153, Tryz.ntmps153
  go_wp2_with (at_builtin; refine wpList_append_own _ rfl _ _ 22 rfl w.heap.size 26 i0 fieldZ 3 40 Tryz.underlying22 hi hz0 hz1 hz2 rfl (by decide) _ _ _ rfl (World.ownsRow_made w #[] 0 (Nat.le_refl _) (Nat.zero_le _) rfl) a n c news rfl ?qc1 ?qc2 ?qc3 ?qc4 ?qc5 ?qc6 ?_)
  case qc1 => exact hl
  case qc2 =>
    intro j u hj
    exact Lib.cell?_alloc_some _ (A.out j u hj)
  case qc3 => exact B.out
  case qc4 => unfold maxLen; omega
  case qc5 => omega
  case qc6 => simp
  intro v' w1 hown hgrow hnil
  go_wp2
  go_ret
  exact ⟨v', rfl, by simpa using hown, ((Below.refl _ w).alloc (Nat.le_refl _) _).grown hgrow (by simp) (by intro k hk; simp [Value.ownBlock] at hk; omega)⟩
set_option maxHeartbeats 4000000 in
theorem clf_nil (n c : Nat) (w : World) : Calls Tryz.prog 153 #[.slice none n c] w fun e w' => e = .returned (.slice none 0 0) ∧ w' = w := by
  have q22 : ∀ (w : World) (a : Option Addr) (n c n' c' : Nat), (binOp .eql 22 (.slice a n c) (.slice none n' c')).run Tryz.prog w = .ok (.bool a.isNone) w := fun w a n c n' c' => Lib.run_eql_slice_nil w _ _ a n c n' c' Tryz.underlying22
  go_enter Tryz.func153, Tryz.ntmps153
  go_wp2
  go_ret
  exact ⟨rfl, rfl⟩
theorem F_slices_Clone_stat_Field_stat_Field_sound {T : Tab} : SoundFn Tryz.prog T 153 F_slices_Clone_stat_Field_stat_Field_sig ⟨F_slices_Clone_stat_Field_stat_Field⟩ := by
  refine sound_of rfl fun F g O xs ls y tmf w args hT hw hlim hls happ hsz hr => ?_
  obtain ⟨(l : List fieldT.D), xs', rfl, h2⟩ := appF_inv_c (ts := []) happ
  obtain ⟨rfl, h3⟩ := appF_inv_n h2
  have hls' : some [Leaf.d (.sl fieldT) l] = some ls := hls
  injection hls' with hls'
  subst hls'
  obtain ⟨a, n, c, e0, e1, e2, e3, e4⟩ := rel_leaf.1 (hr 0)
  have hrep : RepD w g.C (.sl fieldT) l [.slice a n c] := ⟨a, n, c, rfl, e1, e2, e3, e4⟩
  have e0 : args.getD 0 undef = .slice a n c := by injection e0
  rw [args_1 hsz, e0]
  have h3 : cond (Nat.ble l.length 1000000) (some l) none = some y := h3
  cases hb : Nat.ble l.length 1000000 with
  | false => rw [hb] at h3; cases h3
  | true =>
    rw [hb] at h3
    have hy : l = y := by injection h3
    have hb := Nat.le_of_ble_eq_true hb
    subst hy
    cases a with
    | none =>
      have hl : l = [] := by
        cases l with
        | nil => rfl
        | cons x r =>
          obtain ⟨ad, us, q, _⟩ := e4 0 x rfl
          cases q
      subst hl
      refine (clf_nil n c w).mono ?_
      rintro e w' ⟨rfl, rfl⟩
      exact own_nil hlim (Below.refl _ _) rfl rfl
    | some ad =>
      obtain ⟨news, n1, n2, n3, n4⟩ := slice_cells (e := fieldT) (by decide) hrep
      refine (clf_at ad n c news w (by rw [n1, e1]; rfl) (by omega) n2 n3).mono ?_
      rintro e w' ⟨v, rfl, hrow, hbel⟩
      obtain ⟨h0, ⟨rfl, hn⟩ | ⟨b, cap, cur, rfl, k2, k3, k4, k5, k6, k7⟩⟩ := hrow
      · have hl : l = [] := List.eq_nil_of_length_eq_zero (by omega)
        subst hl
        exact own_nil hlim hbel rfl rfl
      · subst e1
        refine own_out (e := fieldT) (l := l) hw hlim hbel k2 k3 k4 k5 k6 (fun i x hx => ?_) rfl rfl
        have hin : i < l.length := (List.getElem?_eq_some_iff.1 hx).1
        have r1 := n4 i x hx
        have r2 : RepD w' ⟨fun b' o => g.C b' o ∨ (b' = b ∧ o < l.length * fieldT.size), g.C.i⟩ fieldT x ((news.drop (i * fieldT.size)).take fieldT.size) := RepD.gw (C := g.C) (C' := ⟨fun b' o => g.C b' o ∨ (b' = b ∧ o < l.length * fieldT.size), g.C.i⟩) ⟨fun a u hu hC => ⟨by rw [hbel.cell (cell_lt hu)]; exact hu, (by show g.C.c _ _ ∨ _; exact Or.inl hC)⟩, fun _ _ _ q => q⟩ r1
        have e7 : (cur.toList.drop (i * fieldT.size)).take fieldT.size = (news.drop (i * fieldT.size)).take fieldT.size := by
          show (cur.toList.drop (i * 3)).take 3 = (news.drop (i * 3)).take 3
          rw [← k7, List.drop_take, List.take_take]
          congr 1
          omega
        rw [e7]
        exact r2
def growRen : Go.Shelf.Ren := ⟨fun | 4 => 114 | n => n, fun | 22 => 32 | 25 => 5 | n => n, fun n => n⟩
theorem growLays : Lays8.n4 Tryz.prog growRen := {
  mixed := by kernel_rfl
  f4 := ⟨"slices.Grow[[]byte,byte]", by decide, Tryz.func114.trans (congrArg some (by kernel_rfl))⟩
  t0 := Tryz.underlying0
  a0 := Tryz.isAgg0
  z0 := Tryz.sizeOf0
  v0 := Tryz.zeroValue0
  t3 := Tryz.underlying3
  a3 := Tryz.isAgg3
  z3 := Tryz.sizeOf3
  v3 := Tryz.zeroValue3
  t4 := Tryz.underlying4
  a4 := Tryz.isAgg4
  z4 := Tryz.sizeOf4
  v4 := Tryz.zeroValue4
  t9 := Tryz.underlying9
  a9 := Tryz.isAgg9
  z9 := Tryz.sizeOf9
  v9 := Tryz.zeroValue9
  t20 := Tryz.underlying20
  a20 := Tryz.isAgg20
  z20 := Tryz.sizeOf20
  v20 := Tryz.zeroValue20
  t22 := Tryz.underlying32
  a22 := Tryz.isAgg32
  z22 := Tryz.sizeOf32
  v22 := Tryz.zeroValue32 }
theorem grow_nil (n : Nat) (hn : n ≤ 1000000000) (w : World) :
    Calls Tryz.prog 114 #[.slice none 0 0, .int .i64 n] w fun e w' => ∃ v, e = .returned v ∧ w'.ownsRow w.heap.size 5 1 v 0 [] ∧ Below w.heap.size w w' := by
  obtain ⟨i0, hi, hz0, hz1, hz2⟩ := info_parts infoU
  by_cases h0 : n = 0
  · subst h0
    refine (Any8.slices_Grow_room growLays none 0 0 0 w (Nat.le_refl _) (by omega) (by omega) (Nat.le_refl _)).mono ?_
    rintro e w' ⟨rfl, rfl⟩
    exact ⟨_, rfl, World.ownsRow_nil _ _ _ _, Below.refl _ _⟩
  · refine (Any8.slices_Grow_grow growLays i0 (.int .u8 0) hi hz0 (by rw [hz1]; decide) none 0 0 n [] w (Nat.le_refl _) (by omega) (by rw [hz2]; omega) (by omega) (by simp) (fun _ => rfl) (fun a h => by cases h)).mono ?_
    rintro e w' ⟨rfl, rfl⟩
    have hge := grownCap_ge w (0 + n) 0 5
    have hle := grownCap_le_maxLen w (0 + n) 0 5 (by unfold maxLen; omega)
    refine ⟨_, rfl, World.ownsRow_made w.drew _ _ (Nat.le_refl _) hle ?_, ((Below.refl _ w).drew).alloc (Nat.le_refl _) _⟩
    have e : (Value.int .u8 0).cells.size = 1 := rfl
    show (#[] ++ Builtin.zeroCells (Value.int .u8 0).cells (0 + n - 0) ++ Builtin.zeroCells (Value.int .u8 0).cells (grownCap w (0 + n) 0 5 - (0 + n))).size = grownCap w (0 + n) 0 5 * 1
    rw [Array.size_append, Array.size_append, size_zeroCells, size_zeroCells, e]
    simp only [List.size_toArray, List.length_nil]
    omega
def InRowQ (w : World) (a : Option Addr) (L : List (List Int)) : Prop := ∀ (i : Nat) l, L[i]? = some l → ∃ ad b n c, a = some ad ∧ w.cell? (ad.add i) = some (.slice b n c) ∧ l.length = n ∧ (∀ bd, b = some bd → ∀ (j : Nat) x, l[j]? = some x → w.cell? (bd.add j) = some (.int .u8 x)) ∧ (b = none → l = [])
theorem take_flat {L : List (List Int)} {k : Nat} {l : List Int} (h : L[k]? = some l) : (L.take (k + 1)).flatten = (L.take k).flatten ++ l := by
  rw [List.take_add_one, h, List.flatten_append]
  simp
theorem take_flat_le (L : List (List Int)) (k : Nat) : (L.take k).flatten.length ≤ L.flatten.length := by
  have : L.flatten = (L.take k).flatten ++ (L.drop k).flatten := by rw [← List.flatten_append, List.take_append_drop]
  rw [this, List.length_append]; omega
theorem run_app_none {P : Program} {w : World} (base : Nat) (t ty e : TypeId) (i : TypeInfo) (size : Nat) (ht : P.underlying t = some (.slice e)) (hi : P.info? e = some i) (v : Value) (n c : Nat) (xs : List Value) (hown : w.ownsRow base e size v n xs) :
    (Builtin.append_ #[t, t] ty #[v, .slice none 0 c]).run P w = .ok v w := by
  rcases hown.2 with ⟨rfl, rfl⟩ | ⟨g, cap, cur, rfl, _, _, hnc, _⟩
  · simp [Builtin.append_, run_underlying ht, sizeOf, typeInfo, hi, Builtin.lenOf, Builtin.firstCells]
  · simp [Builtin.append_, run_underlying ht, sizeOf, typeInfo, hi, Builtin.lenOf, Builtin.firstCells, hnc, storeCells]
theorem wpList_app_any {P : Program} {w : World} {ops : Array Oper} {rest : List Oper} {o : Oper} {a : Act} {Q : Exit → Act → World → Prop} (hgd : o.guard = none) (s x : Operand) (t : TypeId)
    (ho : o.op = .call { callee := .builtin .append, args := #[s, x], argTypes := #[t, t] }) (base : Nat) (e : TypeId) (i : TypeInfo) (z : Value) (ht : P.underlying t = some (.slice e)) (hi : P.info? e = some i) (hz : i.zero = some z) (hsize : i.size = 1) (hby : i.bytes = 1) (hzs : z.cells.size = 1)
    (v : Value) (n : Nat) (xs : List Value) (hs : a.eval s = v) (hown : w.ownsRow base e 1 v n xs) (b : Option Addr) (m c : Nat) (l : List Int) (hx : a.eval x = .slice b m c) (hl : l.length = m)
    (hin : ∀ bd, b = some bd → ∀ (j : Nat) y, l[j]? = some y → w.cell? (bd.add j) = some (.int .u8 y)) (hnil : b = none → l = []) (hbytes : n + m ≤ 1000000000) (hbase : base ≤ w.heap.size)
    (h : ∀ v' w', w'.ownsRow base e 1 v' (n + m) (xs ++ l.map (Value.int .u8)) → Below base w w' → wpList P ops Q rest (a.put o.dst v') w') : wpList P ops Q (o :: rest) a w := by
  cases b with
  | none =>
    have hl0 := hnil rfl
    subst hl0
    have hm : m = 0 := hl.symm
    subst hm
    refine wpList_plain hgd fun K hK => ?_
    have hrun := run_app_none (P := P) (w := w) base t o.type e i 1 ht hi v n c xs hown
    unfold Oper.wp
    simp [execOp, ho, resolve, invoke, builtin, hs, hx, hrun, Result.andThen]
    exact hK _ _ (h v w (by simpa using hown) (Below.refl _ _))
  | some ad =>
    refine wpList_append_own w hgd s x t ho base e i z 1 1 ht hi hz hsize hby hzs (by omega) v n xs hs hown ad m c (l.map (Value.int .u8)) hx (by rw [List.length_map, hl, Nat.mul_one]) (fun j u hj => ?_) (fun u hu => ?_) (by unfold maxLen; omega) (by omega) hbase fun v' w' h1 h2 _ => h v' w' h1 ((Below.refl _ w).grown h2 hbase fun k hk => ?_)
    · rw [List.getElem?_map] at hj
      obtain ⟨y, hy, rfl⟩ := Option.map_eq_some_iff.1 hj
      exact hin ad rfl j y hy
    · obtain ⟨y, _, rfl⟩ := List.mem_map.1 hu
      rfl
    · rcases hown.2 with ⟨rfl, _⟩ | ⟨b0, cap, cur, rfl, hb0, _⟩
      · simp [Value.ownBlock] at hk
      · simp [Value.ownBlock] at hk
        omega
theorem InRowQ.below {w w' : World} {a : Option Addr} {L : List (List Int)} (h : InRowQ w a L) (hb : Below w.heap.size w w') : InRowQ w' a L := fun i l hl => by
  obtain ⟨ad, b, n, c, h1, h2, h3, h4, h5⟩ := h i l hl
  have keep : ∀ {p : Addr} {u : Value}, w.cell? p = some u → w'.cell? p = some u := fun {p u} hp => by rw [hb.cell (block_lt_of_cell hp)]; exact hp
  exact ⟨ad, b, n, c, h1, keep h2, h3, fun bd hbd j x hx => keep (h4 bd hbd j x hx), h5⟩
set_option maxHeartbeats 8000000 in
set_option maxRecDepth 1000000 in
theorem cat_walk (a : Option Addr) (m c : Nat) (L : List (List Int)) (w : World) (hm : L.length = m) (hm2 : m ≤ 100000000) (hb : L.flatten.length ≤ 100000000) (hc : Aside (InRowQ w a L)) :
    Calls Tryz.prog 59 #[.slice a m c] w fun e w' => ∃ v, e = .returned v ∧ w'.ownsRow w.heap.size 5 1 v L.flatten.length (L.flatten.map (Value.int .u8)) ∧ Below w.heap.size w w' := by
  obtain ⟨i0, hi, hz0, hz1, hz2⟩ := info_parts infoU
  go_enter Tryz.func59, Tryz.ntmps59
  go_wp2
  go_loopw [3, 11] (fun s i wr => wr = w ∧ ∃ k : Nat, k ≤ m ∧ i = .int .i64 k ∧ s = .int .i64 ((L.take k).flatten.length : Nat)) (fun _ i _ => m - (RowKit.intOf i).toNat)
  case atStart => exact ⟨rfl, 0, Nat.zero_le _, rfl, rfl⟩
  case round =>
    obtain ⟨hwr, k, hk, rfl, rfl⟩ := hrel
    have hwr := hwr.symm
    subst hwr
    have hle := take_flat_le L k
    obtain ⟨s, hs⟩ : ∃ s, (L.take k).flatten.length = s := ⟨_, rfl⟩
    rw [hs] at hle ⊢
    by_cases hlt : k < m
    · obtain ⟨l, hl⟩ : ∃ l, L[k]? = some l := ⟨L[k]'(by omega), List.getElem?_eq_getElem (by omega)⟩
      obtain ⟨ad, b, n, c', ha, hcell, hn, _⟩ := hc.out k l hl
      have hs2 : (L.take (k + 1)).flatten.length = s + n := by rw [take_flat hl, List.length_append, hs, hn]
      have hle2 := take_flat_le L (k + 1)
      rw [hs2] at hle2
      subst ha
      go_wp2
      go_roundw
      case rel => exact ⟨trivial, k + 1, by omega, by simp, by rw [hs2]; simp⟩
      case measure => simp [RowKit.intOf]; omega
    · have hkm : k = m := by omega
      subst hkm
      have hall : L.take k = L := List.take_of_length_le (by omega)
      rw [hall] at hs
      go_wp2_with (go_at_call 114; (with_reducible refine (grow_nil s (by omega) _).mono ?_); rintro e w1 ⟨v, rfl, hown, hbel⟩)
      go_loopw [6, 27] (fun v i wr => ∃ j : Nat, j ≤ k ∧ i = .int .i64 j ∧ wr.ownsRow w.heap.size 5 1 v (L.take j).flatten.length ((L.take j).flatten.map (Value.int .u8)) ∧ Below w.heap.size w wr) (fun _ i _ => k - (RowKit.intOf i).toNat)
      case atStart => exact ⟨0, Nat.zero_le _, rfl, by simpa using hown, hbel⟩
      case round =>
        obtain ⟨j, hj, rfl, hown2, hbel2⟩ := hrel
        by_cases hlt2 : j < k
        · obtain ⟨l, hl⟩ : ∃ l, L[j]? = some l := ⟨L[j]'(by omega), List.getElem?_eq_getElem (by omega)⟩
          obtain ⟨ad, b, n, c', ha, hcell, hn, hin, hnil⟩ := hc.out j l hl
          subst ha
          have hs2 : (L.take (j + 1)).flatten = (L.take j).flatten ++ l := take_flat hl
          have hle2 := take_flat_le L (j + 1)
          rw [hs2, List.length_append, hn] at hle2
          have keep : ∀ {p : Addr} {u : Value}, w.cell? p = some u → wr.cell? p = some u := fun {p u} hp => by rw [hbel2.cell (block_lt_of_cell hp)]; exact hp
          have hcell2 := keep hcell
          have B : Aside (Below w.heap.size w wr ∧ wr.ownsRow w.heap.size 5 1 u6 (L.take j).flatten.length ((L.take j).flatten.map (Value.int .u8)) ∧ (∀ bd, b = some bd → ∀ (i : Nat) y, l[i]? = some y → wr.cell? (bd.add i) = some (.int .u8 y)) ∧ (b = none → l = []) ∧ l.length = n ∧ (L.take (j + 1)).flatten = (L.take j).flatten ++ l ∧ (L.take j).flatten.length + n ≤ 1000000000) := ⟨hbel2, hown2, fun bd hbd i y hy => keep (hin bd hbd i y hy), hnil, hn, hs2, by omega⟩
          clear hbel2 hown2 hin hnil hs2 hle2 keep hcell hown hbel hs hall
          go_wp2_with (at_builtin; refine wpList_app_any rfl _ _ 32 rfl w.heap.size 5 i0 (.int .u8 0) Tryz.underlying32 hi hz0 hz1 hz2 rfl _ _ _ rfl B.out.2.1 b n c' l rfl B.out.2.2.2.2.1 B.out.2.2.1 B.out.2.2.2.1 B.out.2.2.2.2.2.2 B.out.1.size ?_; intro v2 w2 hown3 hbel3)
          go_roundw
          case rel =>
            refine ⟨j + 1, by omega, by simp, ?_, B.out.1.trans hbel3⟩
            rw [B.out.2.2.2.2.2.1, List.length_append, List.map_append, B.out.2.2.2.2.1]
            exact hown3
          case measure => simp [RowKit.intOf]; omega
        · have hjk : j = k := by omega
          subst hjk
          rw [hall] at hown2
          go_wp2
          go_ret
          rw [hs] at hown2 ⊢
          exact ⟨_, rfl, hown2, hbel2⟩
theorem inRow_of {w : World} {C : Com} {L : List (List Int)} {cs : List Value} (h : RepD w C (.sl (.sl (.int .u8))) L cs) : ∃ a m c, cs = [.slice a m c] ∧ L.length = m ∧ InRowQ w a L ∧ ∀ l ∈ L, ∀ x ∈ l, (Lit.int .u8 x).wf = true := by
  obtain ⟨a, n, c, e0, e1, e2, e3, e4⟩ := h
  have key : ∀ (i : Nat) (l : List Int), L[i]? = some l → (∃ ad b n c, a = some ad ∧ w.cell? (ad.add i) = some (.slice b n c) ∧ l.length = n ∧ (∀ bd, b = some bd → ∀ (j : Nat) x, l[j]? = some x → w.cell? (bd.add j) = some (.int .u8 x)) ∧ (b = none → l = [])) ∧ ∀ x ∈ l, (Lit.int .u8 x).wf = true := fun i l hl => by
    obtain ⟨ad, us, h1, h2, h3, h4⟩ := e4 i l hl
    obtain ⟨b, n', c', f0, f1, f2, f3, f4, f5, f6⟩ := ints_of h4
    have := (h3 0 (.slice b n' c') (by rw [f0]; rfl)).1
    rw [show (Ty.sl (Ty.int .u8)).size = 1 from rfl, Nat.mul_one, Nat.add_zero] at this
    exact ⟨⟨ad, b, n', c', h1, this, f1, f5, f6⟩, f4⟩
  refine ⟨a, n, c, e0, e1, fun i l hl => (key i l hl).1, fun l hl x hx => ?_⟩
  obtain ⟨i, hi⟩ := List.mem_iff_getElem?.1 hl
  exact (key i l hi).2 x hx
theorem F_slices_Concat_byte_byte_sound {T : Tab} : SoundFn Tryz.prog T 59 F_slices_Concat_byte_byte_sig ⟨F_slices_Concat_byte_byte⟩ := by
  refine sound_of rfl fun F g O xs ls y tmf w args hT hw hlim hls happ hsz hr => ?_
  obtain ⟨(L : List (List Int)), xs', rfl, h2⟩ := appF_inv_c (ts := []) happ
  obtain ⟨rfl, h3⟩ := appF_inv_n h2
  have hls' : some [Leaf.d (.sl (.sl (.int .u8))) L] = some ls := hls
  injection hls' with hls'
  subst hls'
  obtain ⟨a, m, c, e0, e1, e2, e3⟩ := inRow_of (rel_leaf.1 (hr 0))
  have e0 : args.getD 0 undef = .slice a m c := by injection e0
  rw [args_1 hsz, e0]
  have h3 : cond (Nat.ble L.flatten.length 100000000 && Nat.ble L.length 100000000) (some L.flatten) none = some y := h3
  cases hb : (Nat.ble L.flatten.length 100000000 && Nat.ble L.length 100000000) with
  | false => rw [hb] at h3; cases h3
  | true =>
    rw [hb] at h3
    have hy : L.flatten = y := by injection h3
    rw [Bool.and_eq_true] at hb
    have b1 := Nat.le_of_ble_eq_true hb.1
    have b2 := Nat.le_of_ble_eq_true hb.2
    subst hy
    refine (cat_walk a m c L w e1 (by omega) b1 e2).mono ?_
    rintro e w' ⟨v, rfl, h1, h2⟩
    exact own_row (l := L.flatten) hw hlim h2 h1 (fun x hx => by obtain ⟨l, hl, hx⟩ := List.mem_flatten.1 hx; exact e3 l hl x hx) rfl rfl
end Go.Proofs.YtifbhefbhlbofaaGreatDoor
namespace Go.Proofs.YtifbhefbhlbofaaGreatDoor
open Pv
theorem F_frame_Put_sound {T : Tab} : SoundFn Tryz.prog T 118 F_frame_Put_sig ⟨F_frame_Put⟩ := by
  have h := fn_sound (T := T) (E := F_frame_Put_env) (by unfold Env.ok; exact fun p h => by cases h) (A := F_frame_Put_ann) (f := 118) (fn := Tryz.f118) (s := F_frame_Put_sig) Tryz.func118
  rw [F_frame_Put_text] at h
  exact h
theorem F_tale_put_sound {T : Tab} : SoundFn Tryz.prog T 64 F_tale_put_sig ⟨F_tale_put⟩ := by
  have h := fn_sound (T := T) (E := F_tale_put_env) (by unfold Env.ok; exact List.forall_mem_cons.2 ⟨F_frame_Put_sound, fun p h => by cases h⟩) (A := F_tale_put_ann) (f := 64) (fn := Tryz.f64) (s := F_tale_put_sig) Tryz.func64
  rw [F_tale_put_text] at h
  exact h
theorem F_part_flag_sound {T : Tab} : SoundFn Tryz.prog T 106 F_part_flag_sig ⟨F_part_flag⟩ := by
  have h := fn_sound (T := T) (E := F_part_flag_env) (by unfold Env.ok; exact fun p h => by cases h) (A := F_part_flag_ann) (f := 106) (fn := Tryz.f106) (s := F_part_flag_sig) Tryz.func106
  rw [F_part_flag_text] at h
  exact h
theorem F_part_bits_sound {T : Tab} : SoundFn Tryz.prog T 121 F_part_bits_sig ⟨F_part_bits⟩ := by
  have h := fn_sound (T := T) (E := F_part_bits_env) (by unfold Env.ok; exact fun p h => by cases h) (A := F_part_bits_ann) (f := 121) (fn := Tryz.f121) (s := F_part_bits_sig) Tryz.func121
  rw [F_part_bits_text] at h
  exact h
theorem F_part_Settings_sound {T : Tab} : SoundFn Tryz.prog T 71 F_part_Settings_sig ⟨F_part_Settings⟩ := by
  have h := fn_sound (T := T) (E := F_part_Settings_env) (by unfold Env.ok; exact List.forall_mem_cons.2 ⟨F_part_flag_sound, List.forall_mem_cons.2 ⟨F_part_bits_sound, fun p h => by cases h⟩⟩) (A := F_part_Settings_ann) (f := 71) (fn := Tryz.f71) (s := F_part_Settings_sig) Tryz.func71
  rw [F_part_Settings_text] at h
  exact h
theorem F_tale_Hello_sound {T : Tab} : SoundFn Tryz.prog T 54 F_tale_Hello_sig ⟨F_tale_Hello⟩ := by
  have h := fn_sound (T := T) (E := F_tale_Hello_env) (by unfold Env.ok; exact List.forall_mem_cons.2 ⟨F_slices_Concat_byte_byte_sound, List.forall_mem_cons.2 ⟨F_tale_put_sound, List.forall_mem_cons.2 ⟨F_part_Settings_sound, fun p h => by cases h⟩⟩⟩) (A := F_tale_Hello_ann) (f := 54) (fn := Tryz.f54) (s := F_tale_Hello_sig) Tryz.func54
  rw [F_tale_Hello_text] at h
  exact h
theorem F_tale_answers_sound {T : Tab} : SoundFn Tryz.prog T 149 F_tale_answers_sig ⟨F_tale_answers⟩ := by
  have h := fn_sound (T := T) (E := F_tale_answers_env) (by unfold Env.ok; exact fun p h => by cases h) (A := F_tale_answers_ann) (f := 149) (fn := Tryz.f149) (s := F_tale_answers_sig) Tryz.func149
  rw [F_tale_answers_text] at h
  exact h
theorem F_tale_bytes_sound {T : Tab} : SoundFn Tryz.prog T 150 F_tale_bytes_sig ⟨F_tale_bytes⟩ := by
  have h := fn_sound (T := T) (E := F_tale_bytes_env) (by unfold Env.ok; exact List.forall_mem_cons.2 ⟨F_slices_Repeat_byte_byte_sound, fun p h => by cases h⟩) (A := F_tale_bytes_ann) (f := 150) (fn := Tryz.f150) (s := F_tale_bytes_sig) Tryz.func150
  rw [F_tale_bytes_text] at h
  exact h
theorem F_part_Rst_sound {T : Tab} : SoundFn Tryz.prog T 135 F_part_Rst_sig ⟨F_part_Rst⟩ := by
  have h := fn_sound (T := T) (E := F_part_Rst_env) (by unfold Env.ok; exact List.forall_mem_cons.2 ⟨F_part_bits_sound, fun p h => by cases h⟩) (A := F_part_Rst_ann) (f := 135) (fn := Tryz.f135) (s := F_part_Rst_sig) Tryz.func135
  rw [F_part_Rst_text] at h
  exact h
theorem F_part_Update_sound {T : Tab} : SoundFn Tryz.prog T 136 F_part_Update_sig ⟨F_part_Update⟩ := by
  have h := fn_sound (T := T) (E := F_part_Update_env) (by unfold Env.ok; exact List.forall_mem_cons.2 ⟨F_part_bits_sound, fun p h => by cases h⟩) (A := F_part_Update_ann) (f := 136) (fn := Tryz.f136) (s := F_part_Update_sig) Tryz.func136
  rw [F_part_Update_text] at h
  exact h
theorem F_pint_ones_sound {T : Tab} : SoundFn Tryz.prog T 159 F_pint_ones_sig ⟨F_pint_ones⟩ := by
  have h := fn_sound (T := T) (E := F_pint_ones_env) (by unfold Env.ok; exact fun p h => by cases h) (A := F_pint_ones_ann) (f := 159) (fn := Tryz.f159) (s := F_pint_ones_sig) Tryz.func159
  rw [F_pint_ones_text] at h
  exact h
theorem F_pint_Put_sound {T : Tab} : SoundFn Tryz.prog T 115 F_pint_Put_sig ⟨F_pint_Put⟩ := by
  have h := fn_sound (T := T) (E := F_pint_Put_env) (by unfold Env.ok; exact List.forall_mem_cons.2 ⟨F_pint_ones_sound, fun p h => by cases h⟩) (A := F_pint_Put_ann) (f := 115) (fn := Tryz.f115) (s := F_pint_Put_sig) Tryz.func115
  rw [F_pint_Put_text] at h
  exact h
theorem F_tale_text_sound {T : Tab} : SoundFn Tryz.prog T 60 F_tale_text_sig ⟨F_tale_text⟩ := by
  have h := fn_sound (T := T) (E := F_tale_text_env) (by unfold Env.ok; exact List.forall_mem_cons.2 ⟨F_pint_Put_sound, fun p h => by cases h⟩) (A := F_tale_text_ann) (f := 60) (fn := Tryz.f60) (s := F_tale_text_sig) Tryz.func60
  rw [F_tale_text_text] at h
  exact h
theorem F_tale_Block_sound {T : Tab} : SoundFn Tryz.prog T 15 F_tale_Block_sig ⟨F_tale_Block⟩ := by
  have h := fn_sound (T := T) (E := F_tale_Block_env) (by unfold Env.ok; exact List.forall_mem_cons.2 ⟨F_slices_Concat_byte_byte_sound, List.forall_mem_cons.2 ⟨F_tale_text_sound, fun p h => by cases h⟩⟩) (A := F_tale_Block_ann) (f := 15) (fn := Tryz.f15) (s := F_tale_Block_sig) Tryz.func15
  rw [F_tale_Block_text] at h
  exact h
theorem F_tale_flags_sound {T : Tab} : SoundFn Tryz.prog T 65 F_tale_flags_sig ⟨F_tale_flags⟩ := by
  have h := fn_sound (T := T) (E := F_tale_flags_env) (by unfold Env.ok; exact fun p h => by cases h) (A := F_tale_flags_ann) (f := 65) (fn := Tryz.f65) (s := F_tale_flags_sig) Tryz.func65
  rw [F_tale_flags_text] at h
  exact h
theorem F_tale_Connect_sound {T : Tab} : SoundFn Tryz.prog T 21 F_tale_Connect_sig ⟨F_tale_Connect⟩ := by
  have h := fn_sound (T := T) (E := F_tale_Connect_env) (by unfold Env.ok; exact List.forall_mem_cons.2 ⟨F_tale_Block_sound, List.forall_mem_cons.2 ⟨F_b64_Encode_sound, List.forall_mem_cons.2 ⟨F_tale_put_sound, List.forall_mem_cons.2 ⟨F_tale_flags_sound, fun p h => by cases h⟩⟩⟩⟩) (A := F_tale_Connect_ann) (f := 21) (fn := Tryz.f21) (s := F_tale_Connect_sig) Tryz.func21
  rw [F_tale_Connect_text] at h
  exact h
theorem F_tale_connects_sound {T : Tab} (h_pow10 : tab_pow10 ∈ T) : SoundFn Tryz.prog T 179 F_tale_connects_sig ⟨F_tale_connects⟩ := by
  have h := fn_sound (T := T) (E := F_tale_connects_env) (by unfold Env.ok; exact List.forall_mem_cons.2 ⟨F_tale_Connect_sound, List.forall_mem_cons.2 ⟨F_strconv_Itoa_sound h_pow10, fun p h => by cases h⟩⟩) (A := F_tale_connects_ann) (f := 179) (fn := Tryz.f179) (s := F_tale_connects_sig) Tryz.func179
  rw [F_tale_connects_text] at h
  exact h
theorem F_tale_Data_sound {T : Tab} : SoundFn Tryz.prog T 180 F_tale_Data_sig ⟨F_tale_Data⟩ := by
  have h := fn_sound (T := T) (E := F_tale_Data_env) (by unfold Env.ok; exact List.forall_mem_cons.2 ⟨F_tale_put_sound, List.forall_mem_cons.2 ⟨F_tale_flags_sound, fun p h => by cases h⟩⟩) (A := F_tale_Data_ann) (f := 180) (fn := Tryz.f180) (s := F_tale_Data_sig) Tryz.func180
  rw [F_tale_Data_text] at h
  exact h
theorem F_tale_feeds_sound {T : Tab} (h_pow10 : tab_pow10 ∈ T) : SoundFn Tryz.prog T 151 F_tale_feeds_sig ⟨F_tale_feeds⟩ := by
  have h := fn_sound (T := T) (E := F_tale_feeds_env) (by unfold Env.ok; exact List.forall_mem_cons.2 ⟨F_tale_Hello_sound, List.forall_mem_cons.2 ⟨F_tale_put_sound, List.forall_mem_cons.2 ⟨F_part_Rst_sound, List.forall_mem_cons.2 ⟨F_part_Update_sound, List.forall_mem_cons.2 ⟨F_tale_bytes_sound, List.forall_mem_cons.2 ⟨F_tale_connects_sound h_pow10, List.forall_mem_cons.2 ⟨F_tale_Data_sound, fun p h => by cases h⟩⟩⟩⟩⟩⟩⟩) (A := F_tale_feeds_ann) (f := 151) (fn := Tryz.f151) (s := F_tale_feeds_sig) Tryz.func151
  rw [F_tale_feeds_text] at h
  exact h
theorem F_tale_event_sound {T : Tab} (h_pow10 : tab_pow10 ∈ T) : SoundFn Tryz.prog T 107 F_tale_event_sig ⟨F_tale_event⟩ := by
  have h := fn_sound (T := T) (E := F_tale_event_env) (by unfold Env.ok; exact List.forall_mem_cons.2 ⟨F_tale_answers_sound, List.forall_mem_cons.2 ⟨F_tale_bytes_sound, List.forall_mem_cons.2 ⟨F_tale_feeds_sound h_pow10, fun p h => by cases h⟩⟩⟩) (A := F_tale_event_ann) (f := 107) (fn := Tryz.f107) (s := F_tale_event_sig) Tryz.func107
  rw [F_tale_event_text] at h
  exact h
theorem F_tale_Events_sound {T : Tab} (h_pow10 : tab_pow10 ∈ T) : SoundFn Tryz.prog T 55 F_tale_Events_sig ⟨F_tale_Events⟩ := by
  have h := fn_sound (T := T) (E := F_tale_Events_env) (by unfold Env.ok; exact List.forall_mem_cons.2 ⟨F_tale_event_sound h_pow10, fun p h => by cases h⟩) (A := F_tale_Events_ann) (f := 55) (fn := Tryz.f55) (s := F_tale_Events_sig) Tryz.func55
  rw [F_tale_Events_text] at h
  exact h
theorem F_wlvlaw28_first_sound {T : Tab} (h_pow10 : tab_pow10 ∈ T) : SoundFn Tryz.prog T 11 F_wlvlaw28_first_sig ⟨F_wlvlaw28_first⟩ := by
  have h := fn_sound (T := T) (E := F_wlvlaw28_first_env) (by unfold Env.ok; exact List.forall_mem_cons.2 ⟨F_tale_Hello_sound, List.forall_mem_cons.2 ⟨F_tale_Events_sound h_pow10, fun p h => by cases h⟩⟩) (A := F_wlvlaw28_first_ann) (f := 11) (fn := Tryz.f11) (s := F_wlvlaw28_first_sig) Tryz.func11
  rw [F_wlvlaw28_first_text] at h
  exact h
theorem F_wlvlaw6_Few_sound {T : Tab} : SoundFn Tryz.prog T 12 F_wlvlaw6_Few_sig ⟨F_wlvlaw6_Few⟩ := by
  have h := fn_sound (T := T) (E := F_wlvlaw6_Few_env) (by unfold Env.ok; exact fun p h => by cases h) (A := F_wlvlaw6_Few_ann) (f := 12) (fn := Tryz.f12) (s := F_wlvlaw6_Few_sig) Tryz.func12
  rw [F_wlvlaw6_Few_text] at h
  exact h
theorem F_stat_Size_sound {T : Tab} : SoundFn Tryz.prog T 158 F_stat_Size_sig ⟨F_stat_Size⟩ := by
  have h := fn_sound (T := T) (E := F_stat_Size_env) (by unfold Env.ok; exact fun p h => by cases h) (A := F_stat_Size_ann) (f := 158) (fn := Tryz.f158) (s := F_stat_Size_sig) Tryz.func158
  rw [F_stat_Size_text] at h
  exact h
theorem F_dyn_Table_shrinks_sound {T : Tab} : SoundFn Tryz.prog T 152 F_dyn_Table_shrinks_sig ⟨F_dyn_Table_shrinks⟩ := by
  have h := fn_sound (T := T) (E := F_dyn_Table_shrinks_env) (by unfold Env.ok; exact List.forall_mem_cons.2 ⟨F_stat_Size_sound, fun p h => by cases h⟩) (A := F_dyn_Table_shrinks_ann) (f := 152) (fn := Tryz.f152) (s := F_dyn_Table_shrinks_sig) Tryz.func152
  rw [F_dyn_Table_shrinks_text] at h
  exact h
theorem F_dyn_Table_Limit_sound {T : Tab} : SoundFn Tryz.prog T 108 F_dyn_Table_Limit_sig ⟨F_dyn_Table_Limit⟩ := by
  have h := fn_sound (T := T) (E := F_dyn_Table_Limit_env) (by unfold Env.ok; exact List.forall_mem_cons.2 ⟨F_dyn_Table_shrinks_sound, List.forall_mem_cons.2 ⟨F_slices_Clone_stat_Field_stat_Field_sound, fun p h => by cases h⟩⟩) (A := F_dyn_Table_Limit_ann) (f := 108) (fn := Tryz.f108) (s := F_dyn_Table_Limit_sig) Tryz.func108
  rw [F_dyn_Table_Limit_text] at h
  exact h
theorem F_dyn_New_sound {T : Tab} : SoundFn Tryz.prog T 56 F_dyn_New_sig ⟨F_dyn_New⟩ := by
  have h := fn_sound (T := T) (E := F_dyn_New_env) (by unfold Env.ok; exact List.forall_mem_cons.2 ⟨F_dyn_Table_Limit_sound, fun p h => by cases h⟩) (A := F_dyn_New_ann) (f := 56) (fn := Tryz.f56) (s := F_dyn_New_sig) Tryz.func56
  rw [F_dyn_New_text] at h
  exact h
theorem F_unpack_New_sound {T : Tab} : SoundFn Tryz.prog T 13 F_unpack_New_sig ⟨F_unpack_New⟩ := by
  have h := fn_sound (T := T) (E := F_unpack_New_env) (by unfold Env.ok; exact List.forall_mem_cons.2 ⟨F_dyn_New_sound, fun p h => by cases h⟩) (A := F_unpack_New_ann) (f := 13) (fn := Tryz.f13) (s := F_unpack_New_sig) Tryz.func13
  rw [F_unpack_New_text] at h
  exact h
theorem F_pint_Get_sound {T : Tab} : SoundFn Tryz.prog T 155 F_pint_Get_sig ⟨F_pint_Get⟩ := by
  have h := fn_sound (T := T) (E := F_pint_Get_env) (by unfold Env.ok; exact List.forall_mem_cons.2 ⟨F_pint_ones_sound, fun p h => by cases h⟩) (A := F_pint_Get_ann) (f := 155) (fn := Tryz.f155) (s := F_pint_Get_sig) Tryz.func155
  rw [F_pint_Get_text] at h
  exact h
theorem F_unpack_block_number_sound {T : Tab} : SoundFn Tryz.prog T 110 F_unpack_block_number_sig ⟨F_unpack_block_number⟩ := by
  have h := fn_sound (T := T) (E := F_unpack_block_number_env) (by unfold Env.ok; exact List.forall_mem_cons.2 ⟨F_pint_Get_sound, fun p h => by cases h⟩) (A := F_unpack_block_number_ann) (f := 110) (fn := Tryz.f110) (s := F_unpack_block_number_sig) Tryz.func110
  rw [F_unpack_block_number_text] at h
  exact h
theorem F_internal_stringslite_Cut_sound {T : Tab} : SoundFn Tryz.prog T 218 F_internal_stringslite_Cut_sig ⟨F_internal_stringslite_Cut⟩ := by
  have h := fn_sound (T := T) (E := F_internal_stringslite_Cut_env) (by unfold Env.ok; exact List.forall_mem_cons.2 ⟨F_internal_stringslite_Index_sound, fun p h => by cases h⟩) (A := F_internal_stringslite_Cut_ann) (f := 218) (fn := Tryz.f218) (s := F_internal_stringslite_Cut_sig) Tryz.func218
  rw [F_internal_stringslite_Cut_text] at h
  exact h
theorem F_strings_Cut_sound {T : Tab} : SoundFn Tryz.prog T 205 F_strings_Cut_sig ⟨F_strings_Cut⟩ := by
  have h := fn_sound (T := T) (E := F_strings_Cut_env) (by unfold Env.ok; exact List.forall_mem_cons.2 ⟨F_internal_stringslite_Cut_sound, fun p h => by cases h⟩) (A := F_strings_Cut_ann) (f := 205) (fn := Tryz.f205) (s := F_strings_Cut_sig) Tryz.func205
  rw [F_strings_Cut_text] at h
  exact h
theorem F_stat_split_sound {T : Tab} : SoundFn Tryz.prog T 182 F_stat_split_sig ⟨F_stat_split⟩ := by
  have h := fn_sound (T := T) (E := F_stat_split_env) (by unfold Env.ok; exact List.forall_mem_cons.2 ⟨F_strings_Cut_sound, fun p h => by cases h⟩) (A := F_stat_split_ann) (f := 182) (fn := Tryz.f182) (s := F_stat_split_sig) Tryz.func182
  rw [F_stat_split_text] at h
  exact h
theorem F_stat_Get_sound {T : Tab} (h_maxlen : has_maxlen T) : SoundFn Tryz.prog T 156 F_stat_Get_sig ⟨F_stat_Get⟩ := by
  have h := fn_sound (T := T) (E := F_stat_Get_env) (by unfold Env.ok; exact List.forall_mem_cons.2 ⟨F_stat_split_sound, List.forall_mem_cons.2 ⟨F_strings_Split_sound h_maxlen, fun p h => by cases h⟩⟩) (A := F_stat_Get_ann) (f := 156) (fn := Tryz.f156) (s := F_stat_Get_sig) Tryz.func156
  rw [F_stat_Get_text] at h
  exact h
theorem F_dyn_Table_Get_sound {T : Tab} : SoundFn Tryz.prog T 157 F_dyn_Table_Get_sig ⟨F_dyn_Table_Get⟩ := by
  have h := fn_sound (T := T) (E := F_dyn_Table_Get_env) (by unfold Env.ok; exact fun p h => by cases h) (A := F_dyn_Table_Get_ann) (f := 157) (fn := Tryz.f157) (s := F_dyn_Table_Get_sig) Tryz.func157
  rw [F_dyn_Table_Get_text] at h
  exact h
theorem F_unpack_block_at_sound {T : Tab} (h_maxlen : has_maxlen T) : SoundFn Tryz.prog T 111 F_unpack_block_at_sig ⟨F_unpack_block_at⟩ := by
  have h := fn_sound (T := T) (E := F_unpack_block_at_env) (by unfold Env.ok; exact List.forall_mem_cons.2 ⟨F_stat_Get_sound h_maxlen, List.forall_mem_cons.2 ⟨F_dyn_Table_Get_sound, fun p h => by cases h⟩⟩) (A := F_unpack_block_at_ann) (f := 111) (fn := Tryz.f111) (s := F_unpack_block_at_sig) Tryz.func111
  rw [F_unpack_block_at_text] at h
  exact h
theorem F_unpack_block_text_sound {T : Tab} : SoundFn Tryz.prog T 154 F_unpack_block_text_sig ⟨F_unpack_block_text⟩ := by
  have h := fn_sound (T := T) (E := F_unpack_block_text_env) (by unfold Env.ok; exact List.forall_mem_cons.2 ⟨F_unpack_block_number_sound, fun p h => by cases h⟩) (A := F_unpack_block_text_ann) (f := 154) (fn := Tryz.f154) (s := F_unpack_block_text_sig) Tryz.func154
  rw [F_unpack_block_text_text] at h
  exact h
theorem F_unpack_block_literal_sound {T : Tab} (h_maxlen : has_maxlen T) : SoundFn Tryz.prog T 109 F_unpack_block_literal_sig ⟨F_unpack_block_literal⟩ := by
  have h := fn_sound (T := T) (E := F_unpack_block_literal_env) (by unfold Env.ok; exact List.forall_mem_cons.2 ⟨F_unpack_block_number_sound, List.forall_mem_cons.2 ⟨F_unpack_block_at_sound h_maxlen, List.forall_mem_cons.2 ⟨F_unpack_block_text_sound, fun p h => by cases h⟩⟩⟩) (A := F_unpack_block_literal_ann) (f := 109) (fn := Tryz.f109) (s := F_unpack_block_literal_sig) Tryz.func109
  rw [F_unpack_block_literal_text] at h
  exact h
theorem F_dyn_Table_Add_sound {T : Tab} : SoundFn Tryz.prog T 112 F_dyn_Table_Add_sig ⟨F_dyn_Table_Add⟩ := by
  have h := fn_sound (T := T) (E := F_dyn_Table_Add_env) (by unfold Env.ok; exact List.forall_mem_cons.2 ⟨F_dyn_Table_shrinks_sound, List.forall_mem_cons.2 ⟨F_stat_Size_sound, fun p h => by cases h⟩⟩) (A := F_dyn_Table_Add_ann) (f := 112) (fn := Tryz.f112) (s := F_dyn_Table_Add_sig) Tryz.func112
  rw [F_dyn_Table_Add_text] at h
  exact h
theorem F_unpack_block_keep_sound {T : Tab} : SoundFn Tryz.prog T 113 F_unpack_block_keep_sig ⟨F_unpack_block_keep⟩ := by
  have h := fn_sound (T := T) (E := F_unpack_block_keep_env) (by unfold Env.ok; exact List.forall_mem_cons.2 ⟨F_stat_Size_sound, fun p h => by cases h⟩) (A := F_unpack_block_keep_ann) (f := 113) (fn := Tryz.f113) (s := F_unpack_block_keep_sig) Tryz.func113
  rw [F_unpack_block_keep_text] at h
  exact h
theorem F_unpack_block_read_sound {T : Tab} (h_maxlen : has_maxlen T) : SoundFn Tryz.prog T 58 F_unpack_block_read_sig ⟨F_unpack_block_read⟩ := by
  have h := fn_sound (T := T) (E := F_unpack_block_read_env) (by unfold Env.ok; exact List.forall_mem_cons.2 ⟨F_dyn_Table_Limit_sound, List.forall_mem_cons.2 ⟨F_unpack_block_literal_sound h_maxlen, List.forall_mem_cons.2 ⟨F_unpack_block_number_sound, List.forall_mem_cons.2 ⟨F_unpack_block_at_sound h_maxlen, List.forall_mem_cons.2 ⟨F_dyn_Table_Add_sound, List.forall_mem_cons.2 ⟨F_unpack_block_keep_sound, fun p h => by cases h⟩⟩⟩⟩⟩⟩) (A := F_unpack_block_read_ann) (f := 58) (fn := Tryz.f58) (s := F_unpack_block_read_sig) Tryz.func58
  rw [F_unpack_block_read_text] at h
  exact h
theorem F_unpack_Dec_Decode_sound {T : Tab} (h_maxlen : has_maxlen T) : SoundFn Tryz.prog T 14 F_unpack_Dec_Decode_sig ⟨F_unpack_Dec_Decode⟩ := by
  have h := fn_sound (T := T) (E := F_unpack_Dec_Decode_env) (by unfold Env.ok; exact List.forall_mem_cons.2 ⟨F_slices_Clone_byte_byte_sound, List.forall_mem_cons.2 ⟨F_unpack_block_read_sound h_maxlen, fun p h => by cases h⟩⟩) (A := F_unpack_Dec_Decode_ann) (f := 14) (fn := Tryz.f14) (s := F_unpack_Dec_Decode_sig) Tryz.func14
  rw [F_unpack_Dec_Decode_text] at h
  exact h
theorem F_unpack_Dec_Table_sound {T : Tab} : SoundFn Tryz.prog T 17 F_unpack_Dec_Table_sig ⟨F_unpack_Dec_Table⟩ := by
  have h := fn_sound (T := T) (E := F_unpack_Dec_Table_env) (by unfold Env.ok; exact fun p h => by cases h) (A := F_unpack_Dec_Table_ann) (f := 17) (fn := Tryz.f17) (s := F_unpack_Dec_Table_sig) Tryz.func17
  rw [F_unpack_Dec_Table_text] at h
  exact h
theorem F_dyn_Table_Len_sound {T : Tab} : SoundFn Tryz.prog T 18 F_dyn_Table_Len_sig ⟨F_dyn_Table_Len⟩ := by
  have h := fn_sound (T := T) (E := F_dyn_Table_Len_env) (by unfold Env.ok; exact fun p h => by cases h) (A := F_dyn_Table_Len_ann) (f := 18) (fn := Tryz.f18) (s := F_dyn_Table_Len_sig) Tryz.func18
  rw [F_dyn_Table_Len_text] at h
  exact h
theorem F_frame_New_sound {T : Tab} : SoundFn Tryz.prog T 19 F_frame_New_sig ⟨F_frame_New⟩ := by
  have h := fn_sound (T := T) (E := F_frame_New_env) (by unfold Env.ok; exact fun p h => by cases h) (A := F_frame_New_ann) (f := 19) (fn := Tryz.f19) (s := F_frame_New_sig) Tryz.func19
  rw [F_frame_New_text] at h
  exact h
theorem F_frame_Parser_Feed_sound {T : Tab} : SoundFn Tryz.prog T 20 F_frame_Parser_Feed_sig ⟨F_frame_Parser_Feed⟩ := by
  have h := fn_sound (T := T) (E := F_frame_Parser_Feed_env) (by unfold Env.ok; exact List.forall_mem_cons.2 ⟨F_slices_Concat_byte_byte_sound, fun p h => by cases h⟩) (A := F_frame_Parser_Feed_ann) (f := 20) (fn := Tryz.f20) (s := F_frame_Parser_Feed_sig) Tryz.func20
  rw [F_frame_Parser_Feed_text] at h
  exact h
theorem F_frame_Parser_Next_sound {T : Tab} : SoundFn Tryz.prog T 22 F_frame_Parser_Next_sig ⟨F_frame_Parser_Next⟩ := by
  have h := fn_sound (T := T) (E := F_frame_Parser_Next_env) (by unfold Env.ok; exact List.forall_mem_cons.2 ⟨F_bytes_Clone_sound, fun p h => by cases h⟩) (A := F_frame_Parser_Next_ann) (f := 22) (fn := Tryz.f22) (s := F_frame_Parser_Next_sig) Tryz.func22
  rw [F_frame_Parser_Next_text] at h
  exact h
theorem F_frame_Parser_Left_sound {T : Tab} : SoundFn Tryz.prog T 23 F_frame_Parser_Left_sig ⟨F_frame_Parser_Left⟩ := by
  have h := fn_sound (T := T) (E := F_frame_Parser_Left_env) (by unfold Env.ok; exact fun p h => by cases h) (A := F_frame_Parser_Left_ann) (f := 23) (fn := Tryz.f23) (s := F_frame_Parser_Left_sig) Tryz.func23
  rw [F_frame_Parser_Left_text] at h
  exact h
theorem F_wlvlaw28_TaleBlocks_sound {T : Tab} (h_pow10 : tab_pow10 ∈ T) (h_maxlen : has_maxlen T) : SoundFn Tryz.prog T 3 F_wlvlaw28_TaleBlocks_sig ⟨F_wlvlaw28_TaleBlocks⟩ := by
  have h := fn_sound (T := T) (E := F_wlvlaw28_TaleBlocks_env) (by unfold Env.ok; exact List.forall_mem_cons.2 ⟨F_wlvlaw28_first_sound h_pow10, List.forall_mem_cons.2 ⟨F_wlvlaw6_Few_sound, List.forall_mem_cons.2 ⟨F_unpack_New_sound, List.forall_mem_cons.2 ⟨F_unpack_Dec_Decode_sound h_maxlen, List.forall_mem_cons.2 ⟨F_tale_Block_sound, List.forall_mem_cons.2 ⟨F_stat_Same_sound, List.forall_mem_cons.2 ⟨F_unpack_Dec_Table_sound, List.forall_mem_cons.2 ⟨F_dyn_Table_Len_sound, List.forall_mem_cons.2 ⟨F_frame_New_sound, List.forall_mem_cons.2 ⟨F_frame_Parser_Feed_sound, List.forall_mem_cons.2 ⟨F_tale_Connect_sound, List.forall_mem_cons.2 ⟨F_frame_Parser_Next_sound, List.forall_mem_cons.2 ⟨F_frame_Parser_Left_sound, fun p h => by cases h⟩⟩⟩⟩⟩⟩⟩⟩⟩⟩⟩⟩⟩) (A := F_wlvlaw28_TaleBlocks_ann) (f := 3) (fn := Tryz.f3) (s := F_wlvlaw28_TaleBlocks_sig) Tryz.func3
  rw [F_wlvlaw28_TaleBlocks_text] at h
  exact h
end Go.Proofs.YtifbhefbhlbofaaGreatDoor
namespace Go.Proofs.YtifbhefbhlbofaaGreatDoor
namespace Pv
set_option linter.unusedVariables false
section
variable {S R T : Type} {body : S → Option (R ⊕ S)} {s s' : S} {r r' : R}
theorem iter_uniq : ∀ {n m : Nat} {s : S}, iterC body n s = some r → iterC body m s = some r' → r = r'
  | 0, _, _, h, _ => by cases h
  | _ + 1, 0, _, _, h => by cases h
  | n + 1, m + 1, s, h, k => by
    unfold iterC at h k
    split at h
    · cases h
    · rename_i x hx
      rw [hx] at k
      injection h with h; injection k with k
      exact h.symm.trans k
    · rename_i x hx
      rw [hx] at k
      exact iter_uniq h k
theorem loop_of_iter {n : Nat} (h : iterC body n s = some r) : loopC body s = some r := by
  unfold loopC
  have hex : ∃ r n, iterC body n s = some r := ⟨r, n, h⟩
  rw [dif_pos hex]
  obtain ⟨m, hm⟩ := hex.choose_spec
  rw [iter_uniq hm h]
theorem iter_of_loop' (h : loopC body s = some r) : ∃ n, iterC body n s = some r := by
  unfold loopC at h
  split at h
  · rename_i hex
    injection h with h
    obtain ⟨n, hn⟩ := hex.choose_spec
    exact ⟨n, by rw [hn, h]⟩
  · cases h
theorem loop_inl (h : body s = some (.inl r)) : loopC body s = some r := loop_of_iter (n := 1) (by unfold iterC; rw [h])
theorem loop_inr (h : body s = some (.inr s')) (k : loopC body s' = some r) : loopC body s = some r := by
  obtain ⟨n, hn⟩ := iter_of_loop' k
  exact loop_of_iter (n := n + 1) (by unfold iterC; rw [h]; exact hn)
theorem join_inl {A : Option (R ⊕ S)} {B : S → Option R} (h : A = some (.inl r)) : joinC A B = some r := by rw [h]; rfl
theorem join_inr {A : Option (R ⊕ S)} {B : S → Option R} (h : A = some (.inr s)) : joinC A B = B s := by rw [h]; rfl
theorem wrap_in {x : Int} (h0 : -9223372036854775808 ≤ x) (h1 : x ≤ 9223372036854775807) : IntKind.i64.wrap x = x := by
  show (if (true && decide (x % 18446744073709551616 ≥ 9223372036854775808)) = true then x % 18446744073709551616 - 18446744073709551616 else x % 18446744073709551616) = x
  simp only [Bool.true_and, decide_eq_true_eq]
  split <;> omega
end
end Pv
end Go.Proofs.YtifbhefbhlbofaaGreatDoor
namespace Go.Proofs.YtifbhefbhlbofaaGreatDoor
open Pv
set_option linter.unusedVariables false
def preL : List Int := [80, 82, 73, 32, 42, 32, 72, 84, 84, 80, 47, 50, 46, 48, 13, 10, 13, 10, 83, 77, 13, 10, 13, 10]
def setL : List Int := [0, 0, 0, 4, 0, 0, 0, 0, 0]
theorem ckB {n m : Nat} (h : n + m ≤ 1000000000) : (decide ((n + m) * 1 ≤ 140737488355328) && decide (n + m ≤ maxLen)) = true := by
  have hm : maxLen = 9223372036854775807 := rfl
  rw [Bool.and_eq_true, decide_eq_true_iff, decide_eq_true_iff]
  omega
def beL (n : Int) : Nat → List Int
  | 0 => []
  | k + 1 => IntKind.u8.wrap (Int.fdiv n (2 ^ (8 * k))) :: beL n k
def inB (kind flags stream : Int) : Bool := decide (0 ≤ kind) && decide (kind ≤ 255) && decide (0 ≤ flags) && decide (flags ≤ 255) && decide (0 ≤ stream) && decide (stream ≤ 2147483647)
def frameB (kind flags stream : Int) (body : List Int) : List Int := (beL (body.length : Int) 3 ++ [kind, flags]) ++ beL stream 4 ++ body
def putL (kind flags stream : Int) (body : List Int) : List Int := cond (inB kind flags stream) (frameB kind flags stream body) []
theorem u8_id {x : Int} (h0 : 0 ≤ x) (h1 : x ≤ 255) : IntKind.u8.wrap x = x := by rw [IntKind.wrap_u8]; omega
theorem tput_eq (kind flags stream : Int) (body : List Int) (hb : body.length ≤ 1000000) : F_tale_put kind flags stream body = some (putL kind flags stream body) := by
  unfold F_tale_put F_frame_Put putL inB
  by_cases h1 : kind < 0
  · rw [decide_eq_true h1, decide_eq_false (show ¬ 0 ≤ kind by omega)]; rfl
  rw [decide_eq_false h1, decide_eq_true (show 0 ≤ kind by omega), cond_false]
  by_cases h2 : kind > 255
  · rw [decide_eq_true h2, decide_eq_false (show ¬ kind ≤ 255 by omega)]; rfl
  rw [decide_eq_false h2, decide_eq_true (show kind ≤ 255 by omega), cond_false]
  by_cases h3 : flags < 0
  · rw [decide_eq_true h3, decide_eq_false (show ¬ 0 ≤ flags by omega)]; rfl
  rw [decide_eq_false h3, decide_eq_true (show 0 ≤ flags by omega), cond_false]
  by_cases h4 : flags > 255
  · rw [decide_eq_true h4, decide_eq_false (show ¬ flags ≤ 255 by omega)]; rfl
  rw [decide_eq_false h4, decide_eq_true (show flags ≤ 255 by omega), cond_false]
  by_cases h5 : stream < 0
  · rw [decide_eq_true h5, decide_eq_false (show ¬ 0 ≤ stream by omega)]; rfl
  rw [decide_eq_false h5, decide_eq_true (show 0 ≤ stream by omega), cond_false]
  by_cases h6 : stream > 2147483647
  · rw [decide_eq_true h6, decide_eq_false (show ¬ stream ≤ 2147483647 by omega)]; rfl
  rw [decide_eq_false h6, decide_eq_true (show stream ≤ 2147483647 by omega), cond_false, decide_eq_false (show ¬ (body.length : Int) > 16777215 by omega), cond_false]
  unfold chk
  rw [ckB (by simp; omega), cond_true, u8_id (x := kind) (by omega) (by omega), u8_id (x := flags) (by omega) (by omega)]
  unfold frameB beL beL beL beL beL
  simp [Int.fdiv_one]
theorem thello_eq : F_tale_Hello = some (preL ++ setL) := by
  have h1 : F_part_Settings ([] : List (Int × Int)) false = some (4, 0, 0, []) := by
    unfold F_part_Settings
    have hf : F_part_flag false 1 = some 0 := rfl
    rw [hf, Option.bind_some]
    have : loopC (F_part_Settings_L4 ([] : List (Int × Int))) (0, 0, 0, 0, ([] : List Int), 4, 0, 0, ([] : List Int)) = some (.inr (0, 0, 0, [], 4, 0, 0, [])) := loop_inl rfl
    rw [join_inr this]; rfl
  unfold F_tale_Hello
  rw [h1, Option.bind_some]
  dsimp only
  rw [tput_eq 4 0 0 [] (by simp), Option.bind_some]
  decide +kernel

theorem or0 : ∀ q : Fin 256, bits .or .u8 0 (q.val : Int) = q.val := by decide +kernel
theorem or0' {x : Int} (h0 : 0 ≤ x) (h1 : x < 256) : bits .or .u8 0 x = x := by
  have := or0 ⟨x.toNat, by omega⟩
  rw [show ((x.toNat : Nat) : Int) = x by omega] at this
  exact this
theorem or128 : ∀ q : Fin 128, bits .or .i64 (q.val : Int) 128 = q.val + 128 := by decide +kernel
theorem or128' {x : Int} (h0 : 0 ≤ x) (h1 : x < 128) : bits .or .i64 x 128 = x + 128 := by
  have := or128 ⟨x.toNat, by omega⟩
  rw [show ((x.toNat : Nat) : Int) = x by omega] at this
  exact this
theorem head0 : bits .andNot .u8 0 127 = 0 := by decide +kernel
theorem head1 : bits .or .u8 0 127 = 127 := by decide +kernel
def pintR : Nat → Int → List Int
  | 0, m => [m]
  | k + 1, m => cond (decide (m < 128)) [m] ((m % 128 + 128) :: pintR k (m / 128))
theorem pintR_len : ∀ (k : Nat) (m : Int), (pintR k m).length ≤ k + 1
  | 0, _ => Nat.le_refl _
  | k + 1, m => by
    unfold pintR
    cases decide (m < 128) with
    | true => show 1 ≤ _; omega
    | false =>
      have := pintR_len k (m / 128)
      show (pintR k (m / 128)).length + 1 ≤ _
      omega
def pintL (n : Int) : List Int := cond (decide (n < 127)) [n] (127 :: pintR 4 (n - 127))
theorem pintL_len (n : Int) : (pintL n).length ≤ 6 := by
  unfold pintL
  cases decide (n < 127) with
  | true => show 1 ≤ _; omega
  | false =>
    have := pintR_len 4 (n - 127)
    show (pintR 4 (n - 127)).length + 1 ≤ _
    omega
theorem down {k : Nat} {m : Int} (h0 : 0 ≤ m) (h : m < 128 ^ (k + 1 + 1)) : 0 ≤ m / 128 ∧ m / 128 < 128 ^ (k + 1) := by
  refine ⟨by omega, Int.ediv_lt_of_lt_mul (by omega) ?_⟩
  rw [Int.pow_succ] at h
  exact h
theorem small {k : Nat} {m : Int} (h0 : 0 ≤ m) (h : m < 128 ^ (k + 1)) (hk : k ≤ 4) : m < 34359738368 := by
  match k, hk, h with
  | 0, _, h => have h : m < 128 := h; omega
  | 1, _, h => have h : m < 16384 := h; omega
  | 2, _, h => have h : m < 2097152 := h; omega
  | 3, _, h => have h : m < 268435456 := h; omega
  | 4, _, h => have h : m < 34359738368 := h; omega
theorem pintR_no {k : Nat} {m : Int} (h : ¬ m < 128) : pintR (k + 1) m = (m % 128 + 128) :: pintR k (m / 128) := by
  show cond (decide (m < 128)) [m] _ = _
  rw [decide_eq_false h]; rfl
theorem one_pint {m : Int} (h0 : 0 ≤ m) (h1 : m < 34359738368) : IntKind.u8.wrap (bits .or .i64 (Int.tmod m 128) 128) = m % 128 + 128 ∧ IntKind.i64.wrap (Int.tdiv m 128) = m / 128 ∧ IntKind.u8.wrap (bits .or .i64 (bits .and .i64 m 127) 128) = m % 128 + 128 ∧ Int.fdiv m (2 ^ 7) = m / 128 := by
  have e1 : Int.tmod m 128 = m % 128 := by rw [Int.tmod_eq_emod_of_nonneg h0]
  have e2 : Int.tdiv m 128 = m / 128 := by rw [Int.tdiv_eq_ediv_of_nonneg h0]
  have e3 : Int.fdiv m (2 ^ 7) = m / 128 := by rw [Int.fdiv_eq_ediv_of_nonneg _ (by decide)]; rfl
  have e4 : IntKind.u8.wrap (m % 128 + 128) = m % 128 + 128 := u8_id (by omega) (by omega)
  rw [e1, e2, e3, i64_and127, or128' (by omega) (by omega), e4, wrap_in (by omega) (by omega)]
  exact ⟨rfl, rfl, rfl, rfl⟩
theorem t_loop : ∀ (k : Nat) (m : Int) (l : List Int), k ≤ 4 → 0 ≤ m → m < 128 ^ (k + 1) → l.length + k ≤ 100 → loopC F_pint_Put_G1 (0, m, l) = some (l ++ pintR k m, 0)
  | 0, m, l, _, h0, h, hl => by
    have h : m < 128 := h
    refine loop_inl ?_
    unfold F_pint_Put_G1 F_pint_Put_G1_0 chk
    dsimp only
    rw [show hasN [0] 0 = true from rfl, cond_true, decide_eq_true h, cond_true, ckB (by simp; omega), u8_id (x := m) (by omega) (by omega)]
    rfl
  | k + 1, m, l, hk, h0, h, hl => by
    obtain ⟨o1, o2, _, _⟩ := one_pint h0 (small h0 h hk)
    by_cases hm : m < 128
    · refine loop_inl ?_
      unfold F_pint_Put_G1 F_pint_Put_G1_0 chk pintR
      dsimp only
      rw [show hasN [0] 0 = true from rfl, cond_true, decide_eq_true hm, cond_true, ckB (by simp; omega), u8_id (x := m) (by omega) (by omega)]
      rfl
    · obtain ⟨d0, d1⟩ := down h0 h
      refine loop_inr (s' := (0, m / 128, l ++ [m % 128 + 128])) ?_ ((t_loop k (m / 128) _ (by omega) d0 d1 (by rw [List.length_append]; show l.length + 1 + k ≤ _; omega)).trans ?_)
      · unfold F_pint_Put_G1 F_pint_Put_G1_0 chk
        dsimp only
        rw [show hasN [0] 0 = true from rfl, cond_true, decide_eq_false hm, cond_false, ckB (by simp; omega), cond_true, o1, o2]
      · rw [pintR_no hm, List.append_assoc]; rfl
theorem ones7 : F_pint_ones 7 = some 127 := by decide +kernel
theorem pint_eq {n : Int} (h0 : 0 ≤ n) (h1 : n ≤ 2147483647) : F_pint_Put 0 7 n = some (pintL n, 0) := by
  unfold F_pint_Put
  rw [ones7, Option.bind_some]
  have hg : ((((127 : Int) == 0) || decide (n < 0)) || decide (n > 2147483647)) = false := by
    rw [decide_eq_false (show ¬ n < 0 by omega), decide_eq_false (show ¬ n > 2147483647 by omega)]; rfl
  rw [hg, cond_false, u8_id (x := 127) (by omega) (by omega), head0, head1]
  unfold pintL
  by_cases hn : n < 127
  · rw [decide_eq_true hn, cond_true, cond_true, u8_id (by omega) (by omega), or0' h0 (by omega)]
    rfl
  · rw [decide_eq_false hn, cond_false, cond_false, wrap_in (x := n - 127) (by omega) (by omega)]
    obtain ⟨o1, o2, _, _⟩ := one_pint (m := n - 127) (by omega) (by omega)
    by_cases hm : n - 127 < 128
    · rw [decide_eq_true hm, cond_true]
      unfold chk
      rw [ckB (by simp), cond_true, u8_id (x := n - 127) (by omega) (by omega)]
      unfold pintR
      rw [decide_eq_true hm]; rfl
    · rw [decide_eq_false hm, cond_false]
      unfold chk
      rw [ckB (by simp), cond_true, o1, o2]
      have hl := t_loop 3 ((n - 127) / 128) ([127] ++ [(n - 127) % 128 + 128]) (by omega) (by omega) (by show _ < (268435456 : Int); omega) (by simp)
      show loopC F_pint_Put_G1 (0, (n - 127) / 128, [127] ++ [(n - 127) % 128 + 128]) = _
      rw [hl, pintR_no (k := 3) hm]
      rfl
theorem getI_natT {α : Type} {l : List α} {i : Nat} {x : α} (h : l[i]? = some x) : getI l (i : Int) = some x := by
  unfold getI
  rw [decide_eq_true (show (0 : Int) ≤ (i : Int) by omega), cond_true, Int.toNat_natCast, h]
def textL (s : List Int) : List Int := pintL (s.length : Int) ++ s
def fieldL (f : List Int × List Int × Bool) : List Int := [0] ++ (textL f.1 ++ textL f.2.1)
def blockL (l : List (List Int × List Int × Bool)) : List Int := l.flatMap fieldL
theorem textL_len (s : List Int) : (textL s).length ≤ s.length + 6 := by
  have := pintL_len (s.length : Int)
  unfold textL
  rw [List.length_append]; omega
theorem text_eq {s : List Int} (h : s.length ≤ 1000000) : F_tale_text s = some (textL s) := by
  have := pintL_len (s.length : Int)
  unfold F_tale_text chk
  rw [pint_eq (by omega) (by omega), Option.bind_some]
  dsimp only
  rw [ckB (by omega)]; rfl
def smallF (l : List (List Int × List Int × Bool)) : Prop := ∀ f ∈ l, f.1.length ≤ 1000000 ∧ f.2.1.length ≤ 1000000
theorem block_app (a b : List (List Int × List Int × Bool)) : blockL (a ++ b) = blockL a ++ blockL b := List.flatMap_append
theorem block_cons (f : List Int × List Int × Bool) (l : List (List Int × List Int × Bool)) : blockL (f :: l) = fieldL f ++ blockL l := rfl
theorem tblock_loop (l : List (List Int × List Int × Bool)) (hs : smallF l) (hl : l.length ≤ 1000000) (hB : (blockL l).length ≤ 10000000) : ∀ (r pre : List (List Int × List Int × Bool)), l = pre ++ r → loopC (F_tale_Block_L4 l) (blockL pre, (pre.length : Int)) = some (.inr (blockL l))
  | [], pre, h => by
    refine loop_inl ?_
    unfold F_tale_Block_L4
    dsimp only
    rw [decide_eq_false (by rw [h]; simp), cond_false, h, List.append_nil]
  | f :: r, pre, h => by
    have hll : l.length = pre.length + (r.length + 1) := by rw [h, List.length_append]; rfl
    have hg : getI l (pre.length : Int) = some f := getI_natT (by rw [h]; simp)
    obtain ⟨h1, h2⟩ := hs f (by rw [h]; simp)
    have hpb : blockL (pre ++ [f]) = blockL pre ++ fieldL f := by rw [block_app]; show _ ++ (fieldL f ++ []) = _; rw [List.append_nil]
    have hle : (blockL (pre ++ [f])).length ≤ 10000000 := by
      refine Nat.le_trans ?_ hB
      rw [h, show pre ++ f :: r = (pre ++ [f]) ++ r by simp, block_app (pre ++ [f]) r, List.length_append]; omega
    have e : ((pre ++ [f]).length : Int) = (pre.length : Int) + 1 := by rw [List.length_append]; simp
    have ih := tblock_loop l hs hl hB r (pre ++ [f]) (by rw [h, List.append_assoc]; rfl)
    rw [e] at ih
    refine loop_inr ?_ ih
    unfold F_tale_Block_L4
    dsimp only
    rw [decide_eq_true (by omega), cond_true, hg, Option.bind_some, text_eq h1, Option.bind_some, text_eq h2, Option.bind_some]
    have hfl : ([blockL pre, ([0] : List Int), textL f.1, textL f.2.1] : List (List Int)).flatten = blockL (pre ++ [f]) := by
      rw [hpb]
      show blockL pre ++ ([0] ++ (textL f.1 ++ (textL f.2.1 ++ []))) = _
      rw [List.append_nil]; rfl
    have hc : F_slices_Concat_byte_byte [blockL pre, ([0] : List Int), textL f.1, textL f.2.1] = some (blockL (pre ++ [f])) := by
      unfold F_slices_Concat_byte_byte
      rw [hfl, Nat.ble_eq_true_of_le (by omega)]
      rfl
    rw [hc, Option.bind_some, wrap_in (by omega) (by omega)]
theorem tblock_eq {l : List (List Int × List Int × Bool)} (hs : smallF l) (hl : l.length ≤ 1000000) (hB : (blockL l).length ≤ 10000000) : F_tale_Block l = some (blockL l) := by
  unfold F_tale_Block
  have h := tblock_loop l hs hl hB l [] rfl
  have h : loopC (F_tale_Block_L4 l) ([], 0) = some (.inr (blockL l)) := h
  rw [join_inr h]; rfl
theorem flags4 (b : Bool) : F_tale_flags 4 b = some (cond b 5 4) := by cases b <;> rfl
def encT (l : List Int) : List Int := (encB l).map byteI
theorem encT_len (l : List Int) : (encT l).length = 4 * ((l.length + 2) / 3) := by unfold encT; rw [List.length_map]; exact encB_len l
def twoF (a : List Int) : List (List Int × List Int × Bool) := [(([58, 109, 101, 116, 104, 111, 100] : List Int), ([67, 79, 78, 78, 69, 67, 84] : List Int), false), (([58, 97, 117, 116, 104, 111, 114, 105, 116, 121] : List Int), a, false)]
def authF (s : List Int) : List (List Int × List Int × Bool) := [(([112, 114, 111, 120, 121, 45, 97, 117, 116, 104, 111, 114, 105, 122, 97, 116, 105, 111, 110] : List Int), (([66, 97, 115, 105, 99, 32] : List Int) ++ s), false)]
def connF (a u w : List Int) : List (List Int × List Int × Bool) := cond ((!(u == ([] : List Int))) || (!(w == ([] : List Int)))) (twoF a ++ authF (encT ((u ++ [58]) ++ w))) (twoF a)
def connL (stream : Int) (a u w : List Int) (e : Bool) : List Int := putL 1 (cond e 5 4) stream (blockL (connF a u w))
theorem ck40 {n m : Nat} (h : n + m ≤ 1000000) : (decide ((n + m) * 40 ≤ 140737488355328) && decide (n + m ≤ maxLen)) = true := by
  have hm : maxLen = 9223372036854775807 := rfl
  rw [Bool.and_eq_true, decide_eq_true_iff, decide_eq_true_iff]
  omega
theorem ble_mx {a : Nat} (h : a ≤ 10000000) : Nat.ble a maxLen = true := Nat.ble_eq_true_of_le (by have : maxLen = 9223372036854775807 := rfl; omega)
theorem fieldL_len (f : List Int × List Int × Bool) : (fieldL f).length ≤ f.1.length + f.2.1.length + 13 := by
  have h1 := textL_len f.1
  have h2 := textL_len f.2.1
  unfold fieldL
  rw [List.length_append, List.length_append]
  show 1 + _ ≤ _
  omega
section
variable {a u w : List Int} (ha : a.length ≤ 100000) (hu : u.length ≤ 100000) (hw : w.length ≤ 100000)
include ha hu hw
theorem conn_small : smallF (connF a u w) ∧ (connF a u w).length ≤ 3 ∧ (blockL (connF a u w)).length ≤ 1000000 := by
  have hel := encT_len ((u ++ [58]) ++ w)
  simp only [List.length_append, List.length_cons, List.length_nil] at hel
  have h2 : smallF (twoF a) := fun f hf => by
    rcases List.mem_cons.1 hf with rfl | hf
    · exact ⟨by decide, by decide⟩
    · rcases List.mem_cons.1 hf with rfl | hf
      · exact ⟨by show 10 ≤ 1000000; omega, by show a.length ≤ _; omega⟩
      · cases hf
  have hl2 : (blockL (twoF a)).length ≤ 100000 + 100 := by
    have e : blockL (twoF a) = fieldL (([58, 109, 101, 116, 104, 111, 100] : List Int), ([67, 79, 78, 78, 69, 67, 84] : List Int), false) ++ (fieldL (([58, 97, 117, 116, 104, 111, 114, 105, 116, 121] : List Int), a, false) ++ []) := rfl
    have f1 := fieldL_len (([58, 109, 101, 116, 104, 111, 100] : List Int), ([67, 79, 78, 78, 69, 67, 84] : List Int), false)
    have f2 := fieldL_len (([58, 97, 117, 116, 104, 111, 114, 105, 116, 121] : List Int), a, false)
    simp only [List.length_cons, List.length_nil] at f1 f2
    rw [e, List.length_append, List.append_nil]
    omega
  unfold connF
  cases (!(u == ([] : List Int))) || (!(w == ([] : List Int))) with
  | false => exact ⟨h2, by show 2 ≤ 3; omega, by show (blockL (twoF a)).length ≤ _; omega⟩
  | true =>
    have hv : (([66, 97, 115, 105, 99, 32] : List Int) ++ encT ((u ++ [58]) ++ w)).length ≤ 300000 := by
      rw [List.length_append]
      show 6 + _ ≤ _
      omega
    refine ⟨fun f hf => ?_, by show 3 ≤ 3; omega, ?_⟩
    · rcases List.mem_append.1 hf with hf | hf
      · exact h2 f hf
      · rcases List.mem_cons.1 hf with rfl | hf
        · exact ⟨by show 19 ≤ 1000000; omega, by show (([66, 97, 115, 105, 99, 32] : List Int) ++ encT ((u ++ [58]) ++ w)).length ≤ _; omega⟩
        · cases hf
    · show (blockL (twoF a ++ authF (encT ((u ++ [58]) ++ w)))).length ≤ _
      rw [block_app, List.length_append]
      have e : blockL (authF (encT ((u ++ [58]) ++ w))) = fieldL (([112, 114, 111, 120, 121, 45, 97, 117, 116, 104, 111, 114, 105, 122, 97, 116, 105, 111, 110] : List Int), (([66, 97, 115, 105, 99, 32] : List Int) ++ encT ((u ++ [58]) ++ w)), false) ++ [] := rfl
      have f1 := fieldL_len (([112, 114, 111, 120, 121, 45, 97, 117, 116, 104, 111, 114, 105, 122, 97, 116, 105, 111, 110] : List Int), (([66, 97, 115, 105, 99, 32] : List Int) ++ encT ((u ++ [58]) ++ w)), false)
      simp only [List.length_cons, List.length_nil] at f1
      rw [e, List.append_nil]
      omega
theorem enc_tale : F_b64_Encode ((u ++ [58]) ++ w) = some (encT ((u ++ [58]) ++ w)) := by
  have _ := ha
  have hl : ((u ++ [58]) ++ w).length ≤ 300000 := by simp only [List.length_append, List.length_cons, List.length_nil]; omega
  unfold F_b64_Encode encT
  rw [Nat.ble_eq_true_of_le (by omega)]
  rfl
theorem tconn_eq (stream : Int) (e : Bool) : F_tale_Connect stream a u w e = some (connL stream a u w e) := by
  obtain ⟨s1, s2, s3⟩ := conn_small ha hu hw
  have hel := encT_len ((u ++ [58]) ++ w)
  simp only [List.length_append, List.length_cons, List.length_nil] at hel
  have e1 := enc_tale ha hu hw
  unfold F_tale_Connect connL
  unfold connF at s1 s2 s3 ⊢
  cases hc : (!(u == ([] : List Int))) || (!(w == ([] : List Int))) with
  | false =>
    rw [hc, cond_false] at s1 s2 s3
    have hb : F_tale_Block (twoF a) = some (blockL (twoF a)) := tblock_eq s1 (Nat.le_trans s2 (by omega)) (Nat.le_trans s3 (by omega))
    rw [cond_false, cond_false, flags4, Option.bind_some]
    show (F_tale_Block (twoF a)).bind _ = _
    rw [hb, Option.bind_some, tput_eq _ _ _ _ s3]; rfl
  | true =>
    rw [hc, cond_true] at s1 s2 s3
    have hb : F_tale_Block (twoF a ++ authF (encT ((u ++ [58]) ++ w))) = some (blockL (twoF a ++ authF (encT ((u ++ [58]) ++ w)))) := tblock_eq s1 (Nat.le_trans s2 (by omega)) (Nat.le_trans s3 (by omega))
    rw [cond_true, cond_true]
    unfold chk
    rw [ble_mx (by simp only [List.length_cons, List.length_nil]; omega), cond_true, ble_mx (by simp only [List.length_append, List.length_cons, List.length_nil]; omega), cond_true, e1, Option.bind_some, ble_mx (by simp only [List.length_cons, List.length_nil]; omega), cond_true, ck40 (by simp), cond_true, flags4, Option.bind_some]
    show (F_tale_Block (twoF a ++ authF (encT ((u ++ [58]) ++ w)))).bind _ = _
    rw [hb, Option.bind_some, tput_eq _ _ _ _ s3]; rfl
end

theorem and127u : ∀ q : Fin 256, bits .and .u8 (q.val : Int) 127 = ((q.val % 128 : Nat) : Int) := by decide +kernel
theorem and127i : ∀ q : Fin 256, bits .and .i64 (IntKind.i64.wrap (q.val : Int)) 127 = ((q.val % 128 : Nat) : Int) := by decide +kernel
theorem and15i : bits .and .i64 (IntKind.i64.wrap 0) 15 = 0 := by decide +kernel
theorem and128u : ∀ q : Fin 128, bits .and .u8 (q.val : Int) 128 = 0 := by decide +kernel
theorem and127u' {x : Int} (h0 : 0 ≤ x) (h1 : x < 256) : bits .and .u8 x 127 = x % 128 := by
  have := and127u ⟨x.toNat, by omega⟩
  rw [show ((⟨x.toNat, by omega⟩ : Fin 256).val : Int) = x by show ((x.toNat : Nat) : Int) = x; omega] at this
  rw [this]
  show ((x.toNat % 128 : Nat) : Int) = x % 128
  omega
theorem and127i' {x : Int} (h0 : 0 ≤ x) (h1 : x < 256) : bits .and .i64 (IntKind.i64.wrap x) 127 = x % 128 := by
  have := and127i ⟨x.toNat, by omega⟩
  rw [show ((⟨x.toNat, by omega⟩ : Fin 256).val : Int) = x by show ((x.toNat : Nat) : Int) = x; omega] at this
  rw [this]
  show ((x.toNat % 128 : Nat) : Int) = x % 128
  omega
theorem and128u' {x : Int} (h0 : 0 ≤ x) (h1 : x < 128) : bits .and .u8 x 128 = 0 := by
  have := and128u ⟨x.toNat, by omega⟩
  rw [show ((⟨x.toNat, by omega⟩ : Fin 128).val : Int) = x by show ((x.toNat : Nat) : Int) = x; omega] at this
  exact this
theorem ones4 : F_pint_ones 4 = some 15 := by decide +kernel
theorem sh0 : IntKind.i64.wrap (7 * (IntKind.i64.wrap (1 - 1))) = 0 := by decide +kernel
theorem sh1 : IntKind.i64.wrap (7 * (IntKind.i64.wrap (2 - 1))) = 7 := by decide +kernel
theorem i2 : IntKind.i64.wrap (1 + 1) = 2 := by decide +kernel
theorem i3 : IntKind.i64.wrap (2 + 1) = 3 := by decide +kernel
theorem i1 : IntKind.i64.wrap (2 - 1) = 1 := by decide +kernel
theorem i22 : IntKind.i64.wrap (3 - 1) = 2 := by decide +kernel
theorem get0 {α : Type} (x : α) (l : List α) : getI (x :: l) 0 = some x := rfl
theorem get1 {α : Type} (x y : α) (l : List α) : getI (x :: y :: l) 1 = some y := rfl
theorem get2 {α : Type} (x y z : α) (l : List α) : getI (x :: y :: z :: l) 2 = some z := rfl
theorem wB64 {x : Int} (h0 : -1000000000000 ≤ x) (h1 : x ≤ 1000000000000) : IntKind.i64.wrap x = x := wrap_in (by omega) (by omega)
theorem pint_get {n : Int} (h0 : 0 ≤ n) (h1 : n ≤ 16384) (r : List Int) : F_pint_Get (pintL n ++ r) 7 = some (n, ((pintL n).length : Int), 0) := by
  unfold pintL
  by_cases hn : n < 127
  · rw [decide_eq_true hn, cond_true]
    show F_pint_Get (n :: r) 7 = some (n, 1, 0)
    unfold F_pint_Get
    rw [ones7]
    simp only [Option.bind_some]
    rw [show ((127 : Int) == 0) = false from rfl, cond_false, show (((n :: r).length : Int) == 0) = false by rw [List.length_cons]; exact beq_eq_false_iff_ne.2 (by omega), cond_false, get0, Option.bind_some, and127i' (by omega) (by omega), show n % 128 = n by omega, decide_eq_true hn, cond_true]
    rfl
  · rw [decide_eq_false hn, cond_false]
    by_cases hm : n - 127 < 128
    · have e : pintR 4 (n - 127) = [n - 127] := by
        show cond (decide (n - 127 < 128)) [n - 127] _ = _
        rw [decide_eq_true hm]; rfl
      rw [e]
      show F_pint_Get (127 :: (n - 127) :: r) 7 = some (n, 2, 0)
      have hl : ((127 :: (n - 127) :: r).length : Int) = (r.length : Int) + 2 := by simp only [List.length_cons]; omega
      unfold F_pint_Get
      rw [ones7]
      simp only [Option.bind_some]
      rw [show ((127 : Int) == 0) = false from rfl, cond_false, hl, show (((r.length : Int) + 2) == 0) = false from beq_eq_false_iff_ne.2 (by omega), cond_false, get0, Option.bind_some, and127i' (by omega) (by omega), show (127 : Int) % 128 = 127 from rfl, show decide ((127 : Int) < 127) = false from rfl, cond_false, show ((1 : Int) == (r.length : Int) + 2) = false from beq_eq_false_iff_ne.2 (by omega), cond_false, get1, Option.bind_some, sh0]
      unfold chk
      rw [show decide ((0 : Int) ≤ 0) = true from rfl, cond_true, and127u' (by omega) (by omega), show (n - 127) % 128 = n - 127 by omega, show (min (0 : Int).toNat 64) = 0 from rfl, Int.pow_zero, Int.mul_one, wB64 (x := n - 127) (by omega) (by omega), wB64 (x := n - 127) (by omega) (by omega), wB64 (x := 127 + (n - 127)) (by omega) (by omega), show 127 + (n - 127) = n by omega, decide_eq_false (show ¬ n > 2147483647 by omega), cond_false, i2, show ((2 : Int) == 6) = false from rfl, cond_false, i1, get1, Option.bind_some, decide_eq_false (show ¬ n - 127 ≥ 128 by omega), cond_false]
      rfl
    · have e : pintR 4 (n - 127) = [(n - 127) % 128 + 128, (n - 127) / 128] := by
        rw [pintR_no hm]
        have hq : (n - 127) / 128 < 128 := by omega
        show _ :: cond (decide ((n - 127) / 128 < 128)) [(n - 127) / 128] _ = _
        rw [decide_eq_true hq]; rfl
      rw [e]
      obtain ⟨a, ha⟩ : ∃ a, (n - 127) % 128 = a := ⟨_, rfl⟩
      obtain ⟨b, hb⟩ : ∃ b, (n - 127) / 128 = b := ⟨_, rfl⟩
      have ha0 : 0 ≤ a ∧ a < 128 := by omega
      have hb0 : 0 ≤ b ∧ b < 128 := by omega
      have hab : 127 + a + b * 128 = n := by omega
      rw [ha, hb]
      show F_pint_Get (127 :: (a + 128) :: b :: r) 7 = some (n, 3, 0)
      have hl : ((127 :: (a + 128) :: b :: r).length : Int) = (r.length : Int) + 3 := by simp only [List.length_cons]; omega
      have hloop : loopC (F_pint_Get_G1 (127 :: (a + 128) :: b :: r)) (0, 127 + a, 2) = some (n, 3, 0) := by
        refine loop_inl ?_
        unfold F_pint_Get_G1 F_pint_Get_G1_0 chk
        dsimp only
        rw [show hasN [0] 0 = true from rfl, cond_true, hl, show ((2 : Int) == (r.length : Int) + 3) = false from beq_eq_false_iff_ne.2 (by omega), cond_false, get2, Option.bind_some, sh1, show decide ((0 : Int) ≤ 7) = true from rfl, cond_true, and127u' (by omega) (by omega), show b % 128 = b by omega, show (min (7 : Int).toNat 64) = 7 from rfl, wB64 (x := b) (by omega) (by omega), show b * 2 ^ 7 = b * 128 from rfl, wB64 (x := b * 128) (by omega) (by omega), hab, wB64 (x := n) (by omega) (by omega), decide_eq_false (show ¬ n > 2147483647 by omega), cond_false, i3, show ((3 : Int) == 6) = false from rfl, cond_false, i22, get2, Option.bind_some, decide_eq_false (show ¬ b ≥ 128 by omega), cond_false]
      unfold F_pint_Get
      rw [ones7]
      simp only [Option.bind_some]
      rw [show ((127 : Int) == 0) = false from rfl, cond_false, hl, show (((r.length : Int) + 3) == 0) = false from beq_eq_false_iff_ne.2 (by omega), cond_false, get0, Option.bind_some, and127i' (by omega) (by omega), show (127 : Int) % 128 = 127 from rfl, show decide ((127 : Int) < 127) = false from rfl, cond_false, show ((1 : Int) == (r.length : Int) + 3) = false from beq_eq_false_iff_ne.2 (by omega), cond_false, get1, Option.bind_some, sh0]
      unfold chk
      rw [show decide ((0 : Int) ≤ 0) = true from rfl, cond_true, and127u' (by omega) (by omega), show (a + 128) % 128 = a by omega, show (min (0 : Int).toNat 64) = 0 from rfl, Int.pow_zero, Int.mul_one, wB64 (x := a) (by omega) (by omega), wB64 (x := a) (by omega) (by omega), wB64 (x := 127 + a) (by omega) (by omega), decide_eq_false (show ¬ 127 + a > 2147483647 by omega), cond_false, i2, show ((2 : Int) == 6) = false from rfl, cond_false, i1, get1, Option.bind_some, decide_eq_true (show a + 128 ≥ 128 by omega), cond_true]
      exact hloop
theorem cut_app {α : Type} (a b : List α) : cutI (a ++ b) (a.length : Int) ((a ++ b).length : Int) = some b := by
  unfold cutI
  rw [decide_eq_true (by omega), decide_eq_true (by rw [List.length_append]; omega), decide_eq_true (by omega)]
  simp only [Bool.and_self, cond_true]
  rw [Int.toNat_natCast, Int.toNat_natCast, List.take_length, List.drop_left]
theorem cut_one {α : Type} (x : α) (X : List α) : cutI (x :: X) 1 ((x :: X).length : Int) = some X := cut_app [x] X
theorem cut_hd {α : Type} (a b : List α) : cutI (a ++ b) 0 (a.length : Int) = some a := by
  unfold cutI
  rw [decide_eq_true (by omega), decide_eq_true (by omega), decide_eq_true (by rw [List.length_append]; omega)]
  simp only [Bool.and_self, cond_true]
  rw [Int.toNat_natCast]
  show some (((a ++ b).take a.length).drop 0) = _
  rw [List.drop_zero, List.take_left]
section
variable (p room total : Int) (acc : List (List Int × List Int × Bool))
theorem number_get {n : Int} (h0 : 0 ≤ n) (h1 : n ≤ 16384) (r : List Int) : F_unpack_block_number (pintL n ++ r) p room total acc 7 = some (n, true, r, p, room, total, acc) := by
  unfold F_unpack_block_number
  rw [pint_get h0 h1, Option.bind_some, show ((0 : Int) != 0) = false from rfl, cond_false]
  dsimp only
  rw [cut_app, Option.bind_some]
theorem pintL_hd {n : Int} (h0 : 0 ≤ n) : ∃ x l, pintL n = x :: l ∧ 0 ≤ x ∧ x < 128 := by
  unfold pintL
  by_cases h : n < 127
  · rw [decide_eq_true h]
    exact ⟨n, [], rfl, h0, by omega⟩
  · rw [decide_eq_false h]
    exact ⟨127, _, rfl, by omega, by omega⟩
theorem text_get {s : List Int} (hs : s.length ≤ 16384) (r : List Int) : F_unpack_block_text (textL s ++ r) p room total acc = some (s, true, r, p, room, total, acc) := by
  have hn := number_get p room total acc (n := (s.length : Int)) (by omega) (by omega) (s ++ r)
  rw [← List.append_assoc] at hn
  obtain ⟨x, l, hx, hx0, hx1⟩ := pintL_hd (n := (s.length : Int)) (by omega)
  have hl : ((textL s ++ r).length : Int) > 0 := by unfold textL; rw [hx]; simp only [List.cons_append, List.length_cons]; omega
  have hg : getI (textL s ++ r) 0 = some x := by unfold textL; rw [hx]; rfl
  unfold F_unpack_block_text
  rw [decide_eq_true hl, cond_true, hg, Option.bind_some]
  show ((F_unpack_block_number ((pintL (s.length : Int) ++ s) ++ r) p room total acc 7).bind _) = _
  rw [hn, Option.bind_some]
  dsimp only
  rw [decide_eq_false (show ¬ (s.length : Int) > 16384 by omega), Bool.not_true, Bool.or_false, cond_false, decide_eq_false (show ¬ (s.length : Int) > ((s ++ r).length : Int) by rw [List.length_append]; omega), cond_false, cut_hd, Option.bind_some, cut_app, Option.bind_some, and128u' hx0 hx1]
  rfl
theorem literal_get {f : List Int × List Int × Bool} (h1 : f.1.length ≤ 16384) (h2 : f.2.1.length ≤ 16384) (r : List Int) (lT : List (List (List Int × List Int × Bool) × Int × Int)) : F_unpack_block_literal (fieldL f ++ r) p room total acc 4 lT = some (f.1, f.2.1, false, true, r, p, room, total, acc) := by
  have e : fieldL f ++ r = 0 :: (textL f.1 ++ (textL f.2.1 ++ r)) := by unfold fieldL; simp
  have hg : F_pint_Get (0 :: (textL f.1 ++ (textL f.2.1 ++ r))) 4 = some (0, 1, 0) := by
    unfold F_pint_Get
    rw [ones4]
    simp only [Option.bind_some]
    rw [show ((15 : Int) == 0) = false from rfl, cond_false, show (((0 :: (textL f.1 ++ (textL f.2.1 ++ r))).length : Int) == 0) = false by rw [List.length_cons]; exact beq_eq_false_iff_ne.2 (by omega), cond_false, get0, Option.bind_some, and15i, show decide ((0 : Int) < 15) = true from rfl, cond_true]
    rfl
  have hnum : F_unpack_block_number (0 :: (textL f.1 ++ (textL f.2.1 ++ r))) p room total acc 4 = some (0, true, textL f.1 ++ (textL f.2.1 ++ r), p, room, total, acc) := by
    unfold F_unpack_block_number
    rw [hg, Option.bind_some, show ((0 : Int) != 0) = false from rfl, cond_false]
    dsimp only
    rw [cut_one, Option.bind_some]
  unfold F_unpack_block_literal
  rw [e, hnum, Option.bind_some]
  dsimp only
  rw [Bool.not_true, cond_false, show decide ((0 : Int) > 0) = false from rfl, cond_false, text_get p room total acc h1, Option.bind_some]
  dsimp only
  rw [Bool.not_true, cond_false, text_get p room total acc h2, Option.bind_some]
end
abbrev Fld := List Int × List Int × Bool
abbrev Tbl := List Fld × Int × Int
def clr (f : Fld) : Fld := (f.1, f.2.1, false)
def szF (f : Fld) : Int := (f.1.length : Int) + (f.2.1.length : Int) + 32
def sumF : List Fld → Int
  | [] => 0
  | f :: l => szF f + sumF l
def okF (l : List Fld) : Prop := ∀ f ∈ l, f.1.length ≤ 16384 ∧ f.2.1.length ≤ 16384
theorem sumF_le {l : List Fld} (h : okF l) : 0 ≤ sumF l ∧ sumF l ≤ 32800 * (l.length : Int) := by
  induction l with
  | nil => exact ⟨Int.le_refl _, Int.le_refl _⟩
  | cons f l ih =>
    obtain ⟨h1, h2⟩ := ih fun g hg => h g (by simp [hg])
    obtain ⟨h3, h4⟩ := h f (by simp)
    have e : sumF (f :: l) = (f.1.length : Int) + (f.2.1.length : Int) + 32 + sumF l := rfl
    rw [e, List.length_cons]
    omega
theorem size_eq {f : Fld} (h1 : f.1.length ≤ 16384) (h2 : f.2.1.length ≤ 16384) (b : Bool) : F_stat_Size f.1 f.2.1 b = some (szF f) := by
  unfold F_stat_Size szF
  rw [wB64 (x := (f.1.length : Int) + (f.2.1.length : Int)) (by omega) (by omega), wB64 (by omega) (by omega)]
section
variable {p room total : Int} {acc : List Fld} {lT : List Tbl}
theorem keep_eq {l : List Int} {f : Fld} (h1 : f.1.length ≤ 16384) (h2 : f.2.1.length ≤ 16384) (b : Bool) (h0 : 0 ≤ total) (hr : total + szF f ≤ room) (hm : room ≤ 1073741824) (ha : acc.length ≤ 100000) :
    F_unpack_block_keep l p room total acc f.1 f.2.1 b = some (l, p, room, total + szF f, acc ++ [(f.1, f.2.1, b)]) := by
  unfold F_unpack_block_keep
  have hs : 0 ≤ szF f := by unfold szF; omega
  rw [size_eq h1 h2, Option.bind_some, wB64 (x := total + szF f) (by omega) (by omega), decide_eq_true hr, cond_true]
  unfold chk
  rw [ck40 (by simp; omega), cond_true]
theorem fieldL_ne (f : Fld) (l : List Int) : ∃ r, fieldL f ++ l = 0 :: r := ⟨(textL f.1 ++ textL f.2.1) ++ l, by unfold fieldL; rw [List.append_assoc, List.singleton_append]⟩
theorem at0_nil {ok some_ : Bool} {told : Int} {s1 s2 : List Int} {nv : Bool} : F_unpack_block_read_G1 (0, ok, told, some_, s1, s2, nv, [], p, room, total, acc, lT) = some (.inl (true, [], p, room, total, acc, lT)) := rfl
theorem at0_cons {ok some_ : Bool} {told : Int} {s1 s2 : List Int} {nv : Bool} {f : Fld} {r : List Int} (h1 : f.1.length ≤ 16384) (h2 : f.2.1.length ≤ 16384) :
    F_unpack_block_read_G1 (0, ok, told, some_, s1, s2, nv, fieldL f ++ r, p, room, total, acc, lT) = some (.inr (4, (true, told, some_, f.1, f.2.1, false, r, p, room, total, acc, lT))) := by
  have hl := literal_get p room total acc h1 h2 r lT
  obtain ⟨q, hq⟩ := fieldL_ne f r
  rw [hq] at hl ⊢
  unfold F_unpack_block_read_G1 F_unpack_block_read_G1_0
  dsimp only
  rw [show hasN [0] 0 = true from rfl, cond_true, show (((0 :: q).length : Int) == 0) = false by rw [List.length_cons]; exact beq_eq_false_iff_ne.2 (by omega), cond_false, get0, Option.bind_some, show decide ((0 : Int) ≥ 128) = false from rfl, cond_false, show decide ((0 : Int) ≥ 64) = false from rfl, cond_false, show decide ((0 : Int) ≥ 32) = false from rfl, cond_false, hl, Option.bind_some]
  rfl
theorem at4 {some_ : Bool} {told : Int} {f : Fld} {b : Bool} {r : List Int} (h1 : f.1.length ≤ 16384) (h2 : f.2.1.length ≤ 16384) (h0 : 0 ≤ total) (hr : total + szF f ≤ room) (hm : room ≤ 1073741824) (ha : acc.length ≤ 100000) :
    F_unpack_block_read_G1 (4, true, told, some_, f.1, f.2.1, b, r, p, room, total, acc, lT) = some (.inr (0, (true, told, true, f.1, f.2.1, b, r, p, room, total + szF f, acc ++ [(f.1, f.2.1, b)], lT))) := by
  unfold F_unpack_block_read_G1 F_unpack_block_read_G1_4
  dsimp only
  rw [show hasN [0] 4 = false from rfl, cond_false, show hasN [1] 4 = false from rfl, cond_false, show hasN [2] 4 = false from rfl, cond_false, show hasN [3] 4 = false from rfl, cond_false, show hasN [4] 4 = true from rfl, cond_true, Bool.not_true, cond_false, keep_eq h1 h2 b h0 hr hm ha, Option.bind_some]
theorem read_loop (hm : room ≤ 1073741824) : ∀ (fs : List Fld) (ok some_ : Bool) (told : Int) (s1 s2 : List Int) (nv : Bool) (total : Int) (acc : List Fld), okF fs → 0 ≤ total → total + sumF fs ≤ room → acc.length + fs.length ≤ 100000 →
    loopC F_unpack_block_read_G1 (0, ok, told, some_, s1, s2, nv, blockL fs, p, room, total, acc, lT) = some (true, [], p, room, total + sumF fs, acc ++ fs.map clr, lT)
  | [], ok, some_, told, s1, s2, nv, total, acc, _, _, _, _ => by
    refine loop_inl (at0_nil.trans ?_)
    rw [show sumF [] = 0 from rfl, Int.add_zero, List.map_nil, List.append_nil]
  | f :: fs, ok, some_, told, s1, s2, nv, total, acc, hf, h0, hs, ha => by
    obtain ⟨h1, h2⟩ := hf f (by simp)
    have hf2 : okF fs := fun g hg => hf g (by simp [hg])
    obtain ⟨p1, p2⟩ := sumF_le hf2
    have e : sumF (f :: fs) = szF f + sumF fs := rfl
    have hz : 0 ≤ szF f := by unfold szF; omega
    rw [e] at hs
    rw [List.length_cons] at ha
    rw [block_cons]
    refine loop_inr (at0_cons h1 h2) (loop_inr (at4 h1 h2 h0 (by omega) hm (by omega)) ((read_loop hm fs true true told f.1 f.2.1 false (total + szF f) (acc ++ [clr f]) hf2 (by omega) (by omega) (by rw [List.length_append]; show acc.length + 1 + _ ≤ _; omega)).trans ?_))
    rw [e, List.append_assoc, Int.add_assoc]
    rfl
theorem read_eq (hm : room ≤ 1073741824) {fs : List Fld} (hf : okF fs) (hs : sumF fs ≤ room) (ha : fs.length ≤ 100000) : F_unpack_block_read (blockL fs) p room 0 [] lT = some (true, [], p, room, sumF fs, fs.map clr, lT) := by
  cases fs with
  | nil => rfl
  | cons f fs =>
    obtain ⟨h1, h2⟩ := hf f (by simp)
    have hf2 : okF fs := fun g hg => hf g (by simp [hg])
    obtain ⟨p1, p2⟩ := sumF_le hf2
    have e : sumF (f :: fs) = szF f + sumF fs := rfl
    have hz : 0 ≤ szF f := by unfold szF; omega
    rw [e] at hs
    rw [List.length_cons] at ha
    have hl := literal_get p room 0 [] h1 h2 (blockL fs) lT
    obtain ⟨q, hq⟩ := fieldL_ne f (blockL fs)
    have hloop : loopC F_unpack_block_read_G1 (4, (true, 0, false, f.1, f.2.1, false, blockL fs, p, room, 0, [], lT)) = some (true, [], p, room, sumF (f :: fs), (f :: fs).map clr, lT) := by
      refine loop_inr (at4 h1 h2 (Int.le_refl _) (by omega) hm (by simp)) ((read_loop hm fs true true 0 f.1 f.2.1 false (0 + szF f) ([] ++ [clr f]) hf2 (by omega) (by omega) (by simp; omega)).trans ?_)
      rw [e, Int.zero_add]
      rfl
    rw [block_cons]
    rw [hq] at hl ⊢
    unfold F_unpack_block_read
    rw [show (((0 :: q).length : Int) == 0) = false by rw [List.length_cons]; exact beq_eq_false_iff_ne.2 (by omega), cond_false, get0, Option.bind_some, show decide ((0 : Int) ≥ 128) = false from rfl, cond_false, show decide ((0 : Int) ≥ 64) = false from rfl, cond_false, show decide ((0 : Int) ≥ 32) = false from rfl, cond_false, hl, Option.bind_some]
    exact hloop
theorem decode_eq {fs : List Fld} (hf : okF fs) (hs : sumF fs ≤ 1073741824) (ha : fs.length ≤ 100000) (hb : (blockL fs).length ≤ 100000000) :
    F_unpack_Dec_Decode 0 (blockL fs) 1073741824 [(0, false)] lT = some (fs.map clr, 0, [(0, false)], lT) := by
  unfold F_unpack_Dec_Decode chk F_slices_Clone_byte_byte
  rw [show nnI 0 = true from rfl, cond_true, get0, Option.bind_some, cond_false, Nat.ble_eq_true_of_le hb, cond_true, Option.bind_some, cond_true, Option.bind_some, read_eq (Int.le_refl _) hf hs ha, Option.bind_some]
  dsimp only
  rw [Bool.not_true, cond_false, decide_eq_false (show ¬ sumF fs > 1073741824 by omega), cond_false]
end
theorem shrinks0 : F_dyn_Table_shrinks 0 4096 [([], (0, 4096))] = some [([], (0, 4096))] := by
  have h : loopC (F_dyn_Table_shrinks_L2 0 4096) (0, [([], (0, 4096))]) = some (.inr (0, [([], (0, 4096))])) := loop_inl rfl
  unfold F_dyn_Table_shrinks
  rw [h]
  rfl
theorem new_eq : F_unpack_New [] [] = some (0, [(0, false)], [([], (0, 4096))]) := by
  have h : F_dyn_Table_Limit 0 4096 [([], (0, 0))] = some (0, [([], (0, 4096))]) := by
    unfold F_dyn_Table_Limit chk
    rw [show (decide ((4096 : Int) < 0) || decide ((4096 : Int) > 4096)) = false from rfl, cond_false, show nnI 0 = true from rfl, cond_true, get0, Option.bind_some]
    show (F_dyn_Table_shrinks 0 4096 [([], (0, 4096))]).bind _ = _
    rw [shrinks0]
    rfl
  unfold F_unpack_New F_dyn_New
  show Option.bind (Option.bind (F_dyn_Table_Limit 0 4096 [([], (0, 0))]) _) _ = _
  rw [h]
  rfl
theorem same_clr : ∀ l : List Fld, sameF (l.map clr) l = true
  | [] => rfl
  | f :: l => by
    show (eqL f.1 f.1 && eqL f.2.1 f.2.1 && sameF (l.map clr) l) = true
    rw [same_clr l]
    unfold eqL
    simp
def fSum : List Fld → Int
  | [] => 0
  | f :: r => minI (f.1.length : Int) 40001 + minI (f.2.1.length : Int) 40001 + fSum r
theorem min_in (n : Nat) : 0 ≤ minI (n : Int) 40001 ∧ minI (n : Int) 40001 ≤ 40001 ∧ (minI (n : Int) 40001 ≤ 40000 → minI (n : Int) 40001 = n) := by
  unfold minI
  cases hq : decide (40001 < (n : Int))
  · rw [cond_false]; have := of_decide_eq_false hq; omega
  · rw [cond_true]; omega
theorem few_loop (l : List Fld) : ∀ (k i : Nat) (n : Int), i + k = min l.length 200 → 0 ≤ n → n ≤ 80002 * i → loopC (F_wlvlaw6_Few_L4 l) (n, (i : Int)) = some (.inr (n + fSum ((l.drop i).take k)))
  | 0, i, n, h, _, _ => by
    refine loop_inl ?_
    unfold F_wlvlaw6_Few_L4
    dsimp only
    have hd : (decide ((i : Int) < (l.length : Int)) && decide ((i : Int) < 200)) = false := by
      rw [Bool.and_eq_false_iff, decide_eq_false_iff_not, decide_eq_false_iff_not]; omega
    rw [hd, cond_false, List.take_zero]
    show _ = some (Sum.inl (Sum.inr (n + 0)))
    rw [Int.add_zero]
  | k + 1, i, n, h, h0, h1 => by
    have hlt : i < l.length := by omega
    obtain ⟨a0, a1, _⟩ := min_in l[i].1.length
    obtain ⟨b0, b1, _⟩ := min_in l[i].2.1.length
    have e : (l.drop i).take (k + 1) = l[i] :: (l.drop (i + 1)).take k := by rw [List.drop_eq_getElem_cons hlt, List.take_succ_cons]
    rw [e]
    have ih := few_loop l k (i + 1) (n + minI (l[i].1.length : Int) 40001 + minI (l[i].2.1.length : Int) 40001) (by omega) (by omega) (by omega)
    refine loop_inr (s' := (n + minI (l[i].1.length : Int) 40001 + minI (l[i].2.1.length : Int) 40001, ((i + 1 : Nat) : Int))) ?_ (ih.trans ?_)
    · unfold F_wlvlaw6_Few_L4
      dsimp only
      rw [decide_eq_true (show (i : Int) < (l.length : Int) by omega), decide_eq_true (show (i : Int) < 200 by omega), Bool.and_self, cond_true, getI_natT (l := l) (i := i) (List.getElem?_eq_getElem hlt)]
      simp only [Option.bind_some]
      rw [wrap_in (x := n + minI (l[i].1.length : Int) 40001) (by omega) (by omega), wrap_in (x := n + minI (l[i].1.length : Int) 40001 + minI (l[i].2.1.length : Int) 40001) (by omega) (by omega), wrap_in (x := (i : Int) + 1) (by omega) (by omega)]
      rfl
    · show _ = some (Sum.inr (n + (minI (l[i].1.length : Int) 40001 + minI (l[i].2.1.length : Int) 40001 + fSum _)))
      rw [← Int.add_assoc, ← Int.add_assoc]
theorem fsum_nn : ∀ l : List Fld, 0 ≤ fSum l
  | [] => Int.le_refl 0
  | f :: r => by
    have := fsum_nn r
    obtain ⟨a0, _, _⟩ := min_in f.1.length
    obtain ⟨b0, _, _⟩ := min_in f.2.1.length
    show 0 ≤ minI (f.1.length : Int) 40001 + minI (f.2.1.length : Int) 40001 + fSum r
    omega
theorem fsum_small : ∀ l : List Fld, fSum l ≤ 40000 → smallF l ∧ ((blockL l).length : Int) ≤ fSum l + 13 * (l.length : Int)
  | [], _ => ⟨fun f hf => absurd hf List.not_mem_nil, by show (0 : Int) ≤ 0 + 13 * 0; omega⟩
  | f :: r, h => by
    have h : minI (f.1.length : Int) 40001 + minI (f.2.1.length : Int) 40001 + fSum r ≤ 40000 := h
    have hn := fsum_nn r
    obtain ⟨a0, a1, a2⟩ := min_in f.1.length
    obtain ⟨b0, b1, b2⟩ := min_in f.2.1.length
    have a2 := a2 (by omega)
    have b2 := b2 (by omega)
    obtain ⟨i1, i2⟩ := fsum_small r (by omega)
    have hf := fieldL_len f
    refine ⟨fun g hg => ?_, ?_⟩
    · rcases List.mem_cons.1 hg with rfl | hg
      · omega
      · exact i1 g hg
    · rw [block_cons, List.length_append, List.length_cons]
      show _ ≤ minI (f.1.length : Int) 40001 + minI (f.2.1.length : Int) 40001 + fSum r + _
      omega
theorem few_eq (l : List Fld) : ∃ b, F_wlvlaw6_Few l = some b ∧ (b = true → smallF l ∧ l.length ≤ 200 ∧ (blockL l).length ≤ 1000000) := by
  have h := few_loop l (min l.length 200) 0 0 (by omega) (by omega) (by omega)
  have h : loopC (F_wlvlaw6_Few_L4 l) (0, 0) = some (.inr (0 + fSum (l.take (min l.length 200)))) := h
  unfold F_wlvlaw6_Few
  rw [join_inr h]
  refine ⟨_, rfl, fun hb => ?_⟩
  rw [Bool.and_eq_true, decide_eq_true_iff, decide_eq_true_iff] at hb
  obtain ⟨hl, hs⟩ := hb
  have hl : l.length ≤ 200 := by omega
  rw [List.take_of_length_le (by omega), Int.zero_add] at hs
  obtain ⟨h1, h2⟩ := fsum_small l hs
  exact ⟨h1, hl, by omega⟩
theorem first28 : F_wlvlaw28_first = some true := by
  unfold F_wlvlaw28_first
  rw [thello_eq, Option.bind_some]
  have h : F_tale_Events ([0, 0, 0] : List Int) = some [] := by
    unfold F_tale_Events
    have : loopC F_tale_Events_L3 (([0, 0, 0] : List Int), ([] : List (Int × Int × Int × Int × List Int × List (List Int)))) = some (.inr []) := loop_inl rfl
    rw [join_inr this]; rfl
  rw [h]
  rfl
theorem be3 : ∀ n : Fin 1001, beL (n.val : Int) 3 = [0, ((n.val / 256 : Nat) : Int), ((n.val % 256 : Nat) : Int)] := by decide +kernel
theorem or3 : ∀ n : Fin 1001, bits .or .i64 (bits .or .i64 (IntKind.i64.wrap ((IntKind.i64.wrap 0) * 2 ^ 16)) (IntKind.i64.wrap ((IntKind.i64.wrap ((n.val / 256 : Nat) : Int)) * 2 ^ 8))) (IntKind.i64.wrap ((n.val % 256 : Nat) : Int)) = (n.val : Int) := by decide +kernel
theorem be7 : beL 7 4 = [0, 0, 0, 7] := by decide +kernel
theorem st7 : bits .and .i64 (bits .or .i64 (bits .or .i64 (bits .or .i64 (IntKind.i64.wrap ((IntKind.i64.wrap 0) * 2 ^ 24)) (IntKind.i64.wrap ((IntKind.i64.wrap 0) * 2 ^ 16))) (IntKind.i64.wrap ((IntKind.i64.wrap 0) * 2 ^ 8))) (IntKind.i64.wrap 7)) 2147483647 = 7 := by decide +kernel
theorem frame7 {n : Nat} (hn : n ≤ 1000) {fl : Int} {body : List Int} (hb : body.length = n) : frameB 1 fl 7 body = 0 :: ((n / 256 : Nat) : Int) :: ((n % 256 : Nat) : Int) :: 1 :: fl :: 0 :: 0 :: 0 :: 7 :: body := by
  unfold frameB
  rw [hb, be7, be3 ⟨n, by omega⟩]
  rfl
theorem cut9 (a b c d e f g h i : Int) (body : List Int) {n : Nat} (hn : body.length = n) : cutI (a :: b :: c :: d :: e :: f :: g :: h :: i :: body) 9 (9 + (n : Int)) = some body := by
  have h0 := cut_app [a, b, c, d, e, f, g, h, i] body
  have e0 : (([a, b, c, d, e, f, g, h, i] ++ body).length : Int) = 9 + (n : Int) := by rw [List.length_append, hn]; simp only [List.length_cons, List.length_nil]; omega
  rw [e0] at h0
  exact h0
theorem cut_end (X : List Int) {m : Int} (h : (X.length : Int) = m) : cutI X m m = some [] := by
  have h0 := cut_app X []
  rw [List.append_nil, h] at h0
  exact h0
theorem next_at {X body : List Int} {n : Nat} {b c fl : Int} (hn : n ≤ 1000) (hl : (X.length : Int) = 9 + (n : Int)) (hb : body.length = n) (hf : 0 ≤ fl ∧ fl ≤ 5) (g0 : getI X 0 = some 0) (g1 : getI X 1 = some b) (g2 : getI X 2 = some c) (g3 : getI X 3 = some 1) (g4 : getI X 4 = some fl) (g5 : getI X 5 = some 0) (g6 : getI X 6 = some 0) (g7 : getI X 7 = some 0) (g8 : getI X 8 = some 7)
    (hor : bits .or .i64 (bits .or .i64 (IntKind.i64.wrap ((IntKind.i64.wrap 0) * 2 ^ 16)) (IntKind.i64.wrap ((IntKind.i64.wrap b) * 2 ^ 8))) (IntKind.i64.wrap c) = (n : Int)) (hc : cutI X 9 (9 + (n : Int)) = some body) :
    F_frame_Parser_Next 0 [(16384, X)] = some (1, fl, 7, body, 0, [(16384, [])]) := by
  have hc2 := cut_end X hl
  unfold F_frame_Parser_Next
  refine join_inl ?_
  unfold chk
  simp only [show nnI 0 = true from rfl, cond_true, get0, Option.bind_some, hl, g0, g1, g2, g3, g4, g5, g6, g7, g8, hor, st7]
  rw [decide_eq_false (show ¬ 9 + (n : Int) < 9 by omega), cond_false, decide_eq_false (show ¬ (n : Int) > 16384 by omega), cond_false, wB64 (x := 9 + (n : Int) - 9) (by omega) (by omega), decide_eq_false (show ¬ 9 + (n : Int) - 9 < (n : Int) by omega), cond_false, wB64 (x := 9 + (n : Int)) (by omega) (by omega), hc, Option.bind_some]
  unfold F_bytes_Clone
  rw [Nat.ble_eq_true_of_le (show body.length ≤ 100000000 by omega), cond_true, Option.bind_some, hc2, Option.bind_some, wB64 (x := fl) (by omega) (by omega), wB64 (x := 1) (by omega) (by omega)]
  rfl
theorem next_eq {fl : Int} (hf : 0 ≤ fl ∧ fl ≤ 5) {body : List Int} (hb : body.length ≤ 1000) : F_frame_Parser_Next 0 [(16384, frameB 1 fl 7 body)] = some (1, fl, 7, body, 0, [(16384, [])]) := by
  obtain ⟨n, hn⟩ : ∃ n, body.length = n := ⟨_, rfl⟩
  rw [hn] at hb
  have hor := or3 ⟨n, by omega⟩
  rw [frame7 hb hn]
  exact next_at hb (by simp only [List.length_cons, hn]; omega) hn hf rfl rfl rfl rfl rfl rfl rfl rfl rfl hor (cut9 _ _ _ _ _ _ _ _ _ body hn)
theorem feed_eq {X : List Int} (h : X.length ≤ 100000) : F_frame_Parser_Feed 0 X [(16384, [])] = some [(16384, X)] := by
  unfold F_frame_Parser_Feed chk F_slices_Concat_byte_byte
  have e : ([([] : List Int), X] : List (List Int)).flatten = X := by simp
  rw [show nnI 0 = true from rfl, cond_true, get0, Option.bind_some]
  dsimp only
  rw [e, Nat.ble_eq_true_of_le (show X.length ≤ 100000000 by omega), show Nat.ble [([] : List Int), X].length 100000000 = true from rfl, Bool.and_self, cond_true, Option.bind_some, cond_true, Option.bind_some]
  rfl
theorem l9_loop (l : List Fld) (a : List (Int × Bool)) (b : List Tbl) (c : List (Int × List Int)) (hl : l.length ≤ 200) : ∀ (k i : Nat), i + k = l.length → (∀ f ∈ l.take i, f.1.length ≤ 16384 ∧ f.2.1.length ≤ 16384) →
    (∃ y, loopC (F_wlvlaw28_TaleBlocks_L9 l) ((i : Int), a, b, c) = some (.inl (true, y))) ∨ (okF l ∧ loopC (F_wlvlaw28_TaleBlocks_L9 l) ((i : Int), a, b, c) = some (.inr (a, b, c)))
  | 0, i, h, ha => by
    refine .inr ⟨?_, loop_inl ?_⟩
    · rw [List.take_of_length_le (by omega)] at ha
      exact ha
    · unfold F_wlvlaw28_TaleBlocks_L9
      dsimp only
      rw [decide_eq_false (show ¬ (i : Int) < (l.length : Int) by omega), cond_false]
  | k + 1, i, h, ha => by
    have hlt : i < l.length := by omega
    have hg := getI_natT (l := l) (i := i) (List.getElem?_eq_getElem hlt)
    by_cases h1 : (l[i].1.length : Int) > 16384
    · refine .inl ⟨(a, b, c), loop_inl ?_⟩
      unfold F_wlvlaw28_TaleBlocks_L9
      dsimp only
      rw [decide_eq_true (show (i : Int) < (l.length : Int) by omega), cond_true, hg, Option.bind_some, decide_eq_true h1, cond_true, first28]
      rfl
    by_cases h2 : (l[i].2.1.length : Int) > 16384
    · refine .inl ⟨(a, b, c), loop_inl ?_⟩
      unfold F_wlvlaw28_TaleBlocks_L9
      dsimp only
      rw [decide_eq_true (show (i : Int) < (l.length : Int) by omega), cond_true, hg, Option.bind_some, decide_eq_false h1, cond_false, Option.bind_some, decide_eq_true h2, cond_true, first28]
      rfl
    have hstep : F_wlvlaw28_TaleBlocks_L9 l ((i : Int), a, b, c) = some (.inr (((i + 1 : Nat) : Int), a, b, c)) := by
      unfold F_wlvlaw28_TaleBlocks_L9
      dsimp only
      rw [decide_eq_true (show (i : Int) < (l.length : Int) by omega), cond_true, hg, Option.bind_some, decide_eq_false h1, cond_false, Option.bind_some, decide_eq_false h2, cond_false, wB64 (x := (i : Int) + 1) (by omega) (by omega)]
      rfl
    have ih := l9_loop l a b c hl k (i + 1) (by omega) (fun f hf => by
      rw [List.take_add_one, List.getElem?_eq_getElem hlt] at hf
      rcases List.mem_append.1 hf with hf | hf
      · exact ha f hf
      · have e : f = l[i] := by simpa using hf
        rw [e]; omega)
    rcases ih with ⟨y, hy⟩ | ⟨hy, hz⟩
    · exact .inl ⟨y, loop_inr hstep hy⟩
    · exact .inr ⟨hy, loop_inr hstep hz⟩
theorem conn_ok {a u w : List Int} (ha : a.length ≤ 200) (hu : u.length ≤ 200) (hw : w.length ≤ 200) : okF (connF a u w) ∧ (connF a u w).length ≤ 3 ∧ (blockL (connF a u w)).length ≤ 1000 ∧ sumF (connF a u w) ≤ 1073741824 ∧ ∃ f0 f1 r, (connF a u w) = f0 :: f1 :: r ∧ f1.2.1 = a ∧ ((r.length : Int) = cond ((!(u == ([] : List Int))) || (!(w == ([] : List Int)))) 1 0) := by
  have hel := encT_len ((u ++ [58]) ++ w)
  simp only [List.length_append, List.length_cons, List.length_nil] at hel
  have t1 : okF (twoF a) := fun f hf => by
    simp only [twoF, List.mem_cons, List.not_mem_nil, or_false] at hf
    rcases hf with rfl | rfl
    · exact ⟨by decide, by decide⟩
    · refine ⟨by show 10 ≤ 16384; omega, ?_⟩
      show a.length ≤ 16384
      omega
  have b1 : (blockL (twoF a)).length ≤ 300 := by
    have e : blockL (twoF a) = fieldL (([58, 109, 101, 116, 104, 111, 100] : List Int), ([67, 79, 78, 78, 69, 67, 84] : List Int), false) ++ (fieldL (([58, 97, 117, 116, 104, 111, 114, 105, 116, 121] : List Int), a, false) ++ []) := rfl
    have f1 := fieldL_len (([58, 109, 101, 116, 104, 111, 100] : List Int), ([67, 79, 78, 78, 69, 67, 84] : List Int), false)
    have f2 := fieldL_len (([58, 97, 117, 116, 104, 111, 114, 105, 116, 121] : List Int), a, false)
    simp only [List.length_cons, List.length_nil] at f1 f2
    rw [e, List.length_append, List.append_nil]
    omega
  unfold connF
  cases hc : (!(u == ([] : List Int))) || (!(w == ([] : List Int))) with
  | false =>
    rw [cond_false]
    obtain ⟨_, s2⟩ := sumF_le t1
    refine ⟨t1, by show 2 ≤ 3; omega, by omega, ?_, _, _, [], rfl, rfl, rfl⟩
    have : ((twoF a).length : Int) = 2 := rfl
    omega
  | true =>
    rw [cond_true]
    have t2 : okF (twoF a ++ authF (encT ((u ++ [58]) ++ w))) := fun f hf => by
      rcases List.mem_append.1 hf with hf | hf
      · exact t1 f hf
      · simp only [authF, List.mem_cons, List.not_mem_nil, or_false] at hf
        subst hf
        refine ⟨by show 19 ≤ 16384; omega, ?_⟩
        show (([66, 97, 115, 105, 99, 32] : List Int) ++ encT ((u ++ [58]) ++ w)).length ≤ 16384
        rw [List.length_append]
        simp only [List.length_cons, List.length_nil]
        omega
    obtain ⟨_, s2⟩ := sumF_le t2
    refine ⟨t2, by show 3 ≤ 3; omega, ?_, ?_, _, _, _, rfl, rfl, rfl⟩
    · rw [block_app, List.length_append]
      have e : blockL (authF (encT ((u ++ [58]) ++ w))) = fieldL (([112, 114, 111, 120, 121, 45, 97, 117, 116, 104, 111, 114, 105, 122, 97, 116, 105, 111, 110] : List Int), (([66, 97, 115, 105, 99, 32] : List Int) ++ encT ((u ++ [58]) ++ w)), false) ++ [] := rfl
      have f1 := fieldL_len (([112, 114, 111, 120, 121, 45, 97, 117, 116, 104, 111, 114, 105, 122, 97, 116, 105, 111, 110] : List Int), (([66, 97, 115, 105, 99, 32] : List Int) ++ encT ((u ++ [58]) ++ w)), false)
      simp only [List.length_append, List.length_cons, List.length_nil] at f1
      rw [e, List.append_nil]
      omega
    · have : ((twoF a ++ authF (encT ((u ++ [58]) ++ w))).length : Int) = 3 := rfl
      omega
theorem conn_putL {a u w : List Int} (e : Bool) : connL 7 a u w e = frameB 1 (cond e 5 4) 7 (blockL (connF a u w)) := by
  unfold connL putL
  rw [show inB 1 (cond e 5 4) 7 = true by cases e <;> rfl]
  rfl
theorem flag_back (e : Bool) : bEq ((bits .and .i64 (cond e 5 4) 1) == 1) e = true := by cases e <;> decide +kernel
theorem j7_true {l : List Fld} (hf : okF l) (hs : smallF l) (hl : l.length ≤ 200) (hb : (blockL l).length ≤ 1000000) {a u w : List Int} (ha : a.length ≤ 200) (hu : u.length ≤ 200) (hw : w.length ≤ 200) (e : Bool) : ∃ y, F_wlvlaw28_TaleBlocks_J7 l a u w e ([], [], []) = some (true, y) := by
  obtain ⟨_, s2⟩ := sumF_le hf
  obtain ⟨c1, c2, c3, c4, f0, f1, r, c5, c6, c7⟩ := conn_ok ha hu hw
  have hfl : 0 ≤ cond e (5 : Int) 4 ∧ cond e (5 : Int) 4 ≤ 5 := by cases e <;> decide
  have hflen : (frameB 1 (cond e 5 4) 7 (blockL (connF a u w))).length ≤ 100000 := by
    rw [frame7 c3 rfl]
    simp only [List.length_cons]
    omega
  have hd1 := decode_eq (lT := [([], (0, 4096))]) hf (by omega) (by omega) (by omega)
  have hd2 := decode_eq (lT := [([], (0, 4096))]) c1 c4 (by omega) (by omega)
  unfold F_wlvlaw28_TaleBlocks_J7
  dsimp only
  rw [new_eq, Option.bind_some]
  dsimp only
  rw [show eqI 0 (-1) = false from rfl, cond_false, tblock_eq hs (by omega) (by omega), Option.bind_some, hd1, Option.bind_some]
  dsimp only
  rw [show ((0 : Int) != 0) = false from rfl, cond_false]
  unfold F_stat_Same
  rw [same_clr, Option.bind_some, Bool.not_true, cond_false, show F_unpack_Dec_Table 0 [(0, false)] = some 0 from rfl, Option.bind_some, show eqI 0 (-1) = false from rfl, cond_false, Option.bind_some, show F_dyn_Table_Len 0 [([], (0, 4096))] = some 0 from rfl, Option.bind_some, show ((0 : Int) != 0) = false from rfl, cond_false, show F_frame_New 16384 [] = some (0, [(16384, [])]) from rfl, Option.bind_some]
  dsimp only
  rw [show eqI 0 (-1) = false from rfl, cond_false, tconn_eq (by omega) (by omega) (by omega), Option.bind_some, conn_putL, feed_eq hflen, Option.bind_some, next_eq hfl c3, Option.bind_some]
  dsimp only
  rw [hd2, Option.bind_some]
  have hmap : (connF a u w).map clr = clr f0 :: clr f1 :: r.map clr := by rw [c5]; rfl
  have hget : getI ((connF a u w).map clr) 1 = some (clr f1) := by rw [hmap]; rfl
  have hlen : (((connF a u w).map clr).length : Int) = cond ((!(u == ([] : List Int))) || (!(w == ([] : List Int)))) 3 2 := by
    rw [hmap]
    simp only [List.length_cons, List.length_map]
    cases hc : (!(u == ([] : List Int))) || (!(w == ([] : List Int))) with
    | false => rw [hc, cond_false] at c7; rw [cond_false]; omega
    | true => rw [hc, cond_true] at c7; rw [cond_true]; omega
  have hnm : (clr f1).2.1 = a := c6
  rw [first28]
  simp only [Option.bind_some]
  rw [hlen, hget, flag_back]
  simp only [Option.bind_some, hnm, beq_self_eq_true, cond_true]
  cases hc : (!(u == ([] : List Int))) || (!(w == ([] : List Int))) with
  | false => exact ⟨_, rfl⟩
  | true => exact ⟨_, rfl⟩
theorem TaleBlocks_true (l : List Fld) (a u w : List Int) (e : Bool) : ∃ y, F_wlvlaw28_TaleBlocks l a u w e [] [] [] = some (true, y) := by
  obtain ⟨b, hb, hbt⟩ := few_eq l
  unfold F_wlvlaw28_TaleBlocks
  rw [first28, Option.bind_some, Bool.not_true, cond_false, hb, Option.bind_some]
  cases hc : (((!b) || (decide ((a.length : Int) > 200))) || (decide ((u.length : Int) > 200))) || (decide ((w.length : Int) > 200)) with
  | true => exact ⟨_, rfl⟩
  | false =>
    rw [cond_false]
    simp only [Bool.or_eq_false_iff, Bool.not_eq_false', decide_eq_false_iff_not] at hc
    obtain ⟨⟨⟨h1, h2⟩, h3⟩, h4⟩ := hc
    obtain ⟨q1, q2, q3⟩ := hbt h1
    rcases l9_loop l [] [] [] q2 l.length 0 (by omega) (fun f hf => by simp at hf) with ⟨y, hy⟩ | ⟨hok, hy⟩
    · exact ⟨y, join_inl hy⟩
    · obtain ⟨y, hj⟩ := j7_true hok q1 q2 q3 (a := a) (u := u) (w := w) (by omega) (by omega) (by omega) e
      exact ⟨y, (join_inr hy).trans hj⟩
end Go.Proofs.YtifbhefbhlbofaaGreatDoor
