/- The functions of the program as Lean functions, written by a program of ours and held by the kernel. -/
import Derived.Test.YtgcgdfjldeihkaaDoorProg
import Derived.Test.YtgcgdfjldeihkaaDoorQAskL
import Derived.Test.YtgcgdfjldeihkaaDoorQItoa
import Derived.Test.YtgcgdfjldeihkaaDoorPw
import Derived.KernelRfl
import Derived.Laws.Bits
namespace Go.Proofs.YtgcgdfjldeihkaaDoor
open Pv
set_option linter.unusedVariables false
noncomputable def F_wlvlaw6_Few_L4 (l1 : List (List Int × List Int × Bool)) (s : Int × Int) : Option (((Bool) ⊕ (Int)) ⊕ (Int × Int)) :=
  let i2 := s.1; let i3 := s.2
  cond ((decide (i3 < (l1.length : Int))) && (decide (i3 < 200)))
  ((getI l1 i3).bind fun x4 =>
    (getI l1 i3).bind fun x5 =>
    some (.inr ((IntKind.i64.wrap ((IntKind.i64.wrap (i2 + (minI (x4.1.length : Int) 40001))) + (minI (x5.2.1.length : Int) 40001))), (IntKind.i64.wrap (i3 + 1)))))
  (some (.inl (.inr i2)))
noncomputable def F_wlvlaw6_Few_J2 (l1 : List (List Int × List Int × Bool)) (s : Int) : Option (Bool) :=
  let i6 := s
  some ((decide ((l1.length : Int) ≤ 200)) && (decide (i6 ≤ 40000)))
noncomputable def F_wlvlaw6_Few (l1 : List (List Int × List Int × Bool)) : Option (Bool) :=
  joinC (S := Int) (R := Bool)
  (loopC (S := Int × Int) (R := (Bool) ⊕ (Int)) (F_wlvlaw6_Few_L4 l1) (0, 0))
  (F_wlvlaw6_Few_J2 l1)
def F_wlvlaw6_Few_sig : Sig := ⟨[.v false [.d (.sl (.pr .str (.pr .str .bool)))]], [(false, [.d .bool])]⟩
def F_wlvlaw6_Few_ann : List (Nat × Ann) := [(2, ⟨3, [(3, false, [.d (.int .i64)])], [], [4, 5, 6, 7, 8, 9, 10, 11, 12, 13, 14, 15, 16, 17, 18, 19, 20, 21, 22, 23, 24, 25, 26, 27, 28, 29, 30, 31], []⟩), (4, ⟨5, [(3, false, [.d (.int .i64)]), (4, false, [.d (.int .i64)])], [], [5, 6, 7, 8, 9, 10, 11, 12, 13, 14, 15, 16, 17, 18, 19, 20, 21, 22, 23, 24, 25, 26, 27, 28, 29, 30, 31], []⟩)]
noncomputable def F_wlvlaw6_Few_env : Env := ⟨Tryd.prog, [], []⟩
set_option maxRecDepth 100000 in
theorem F_wlvlaw6_Few_text : pvFn F_wlvlaw6_Few_env F_wlvlaw6_Few_ann Tryd.f22 F_wlvlaw6_Few_sig = F_wlvlaw6_Few := by kernel_rfl
noncomputable def F_ask_Answer (i1 : Int) : Option (List (List Int × List Int × Bool)) :=
  cond ((decide (i1 < 100)) || (decide (i1 > 999)))
  ((F_strconv_Itoa 500).bind fun s2 =>
    some ([(([58, 115, 116, 97, 116, 117, 115] : List Int), s2, false)] : List (List Int × List Int × Bool)))
  ((F_strconv_Itoa i1).bind fun s3 =>
    cond (i1 == 407)
    (chk (decide ((([(([58, 115, 116, 97, 116, 117, 115] : List Int), s3, false)] : List (List Int × List Int × Bool)).length + ([(([112, 114, 111, 120, 121, 45, 97, 117, 116, 104, 101, 110, 116, 105, 99, 97, 116, 101] : List Int), ([66, 97, 115, 105, 99, 32, 114, 101, 97, 108, 109, 61, 34, 119, 97, 121, 108, 101, 97, 118, 101, 34] : List Int), false)] : List (List Int × List Int × Bool)).length) * 40 ≤ 140737488355328) && decide (([(([58, 115, 116, 97, 116, 117, 115] : List Int), s3, false)] : List (List Int × List Int × Bool)).length + ([(([112, 114, 111, 120, 121, 45, 97, 117, 116, 104, 101, 110, 116, 105, 99, 97, 116, 101] : List Int), ([66, 97, 115, 105, 99, 32, 114, 101, 97, 108, 109, 61, 34, 119, 97, 121, 108, 101, 97, 118, 101, 34] : List Int), false)] : List (List Int × List Int × Bool)).length ≤ maxLen))
      (some (([(([58, 115, 116, 97, 116, 117, 115] : List Int), s3, false)] : List (List Int × List Int × Bool)) ++ ([(([112, 114, 111, 120, 121, 45, 97, 117, 116, 104, 101, 110, 116, 105, 99, 97, 116, 101] : List Int), ([66, 97, 115, 105, 99, 32, 114, 101, 97, 108, 109, 61, 34, 119, 97, 121, 108, 101, 97, 118, 101, 34] : List Int), false)] : List (List Int × List Int × Bool)))))
    (some ([(([58, 115, 116, 97, 116, 117, 115] : List Int), s3, false)] : List (List Int × List Int × Bool))))
def F_ask_Answer_sig : Sig := ⟨[.v false [.d (.int .i64)]], [(false, [.own 34 (.pr .str (.pr .str .bool))])]⟩
def F_ask_Answer_ann : List (Nat × Ann) := []
noncomputable def F_ask_Answer_env : Env := ⟨Tryd.prog, [(35, ⟨F_strconv_Itoa_sig, ⟨F_strconv_Itoa⟩⟩)], []⟩
set_option maxRecDepth 100000 in
theorem F_ask_Answer_text : pvFn F_ask_Answer_env F_ask_Answer_ann Tryd.f23 F_ask_Answer_sig = F_ask_Answer := by kernel_rfl
noncomputable def F_wlvlaw24_AskOnce_L18 (l1 : List (List Int × List Int × Bool)) (i3 : Int) (s : List (List Int × List Int × Bool) × Int × Bool × List Int × List Int × List Int × Int) : Option (((Bool) ⊕ (Bool × List Int × List Int × List Int × Int)) ⊕ (List (List Int × List Int × Bool) × Int × Bool × List Int × List Int × List Int × Int)) :=
  let l11 := s.1; let i12 := s.2.1; let b13 := s.2.2.1; let s14 := s.2.2.2.1; let s15 := s.2.2.2.2.1; let s16 := s.2.2.2.2.2.1; let i17 := s.2.2.2.2.2.2
  cond (decide (i12 < (l11.length : Int)))
  ((cutI l1 0 i3).bind fun l18 =>
    chk (decide ((([] : List (List Int × List Int × Bool)).length + l18.length) * 40 ≤ 140737488355328) && decide (([] : List (List Int × List Int × Bool)).length + l18.length ≤ maxLen))
    ((getI l11 i12).bind fun x19 =>
      chk (decide (((([] : List (List Int × List Int × Bool)) ++ l18).length + ([(x19.1, x19.2.1, x19.2.2)] : List (List Int × List Int × Bool)).length) * 40 ≤ 140737488355328) && decide ((([] : List (List Int × List Int × Bool)) ++ l18).length + ([(x19.1, x19.2.1, x19.2.2)] : List (List Int × List Int × Bool)).length ≤ maxLen))
      ((cutI l1 i3 (l1.length : Int)).bind fun l20 =>
        chk (decide ((((([] : List (List Int × List Int × Bool)) ++ l18) ++ ([(x19.1, x19.2.1, x19.2.2)] : List (List Int × List Int × Bool))).length + l20.length) * 40 ≤ 140737488355328) && decide (((([] : List (List Int × List Int × Bool)) ++ l18) ++ ([(x19.1, x19.2.1, x19.2.2)] : List (List Int × List Int × Bool))).length + l20.length ≤ maxLen))
        ((F_ask_Read (((([] : List (List Int × List Int × Bool)) ++ l18) ++ ([(x19.1, x19.2.1, x19.2.2)] : List (List Int × List Int × Bool))) ++ l20)).bind fun x21 =>
          cond x21.2.2.2.2.2
          (some (.inl (.inl false)))
          (some (.inr (l11, (IntKind.i64.wrap (i12 + 1)), b13, s14, s15, s16, i17)))))))
  (some (.inl (.inr (b13, s14, s15, s16, i17))))
noncomputable def F_wlvlaw24_AskOnce_J16 (l1 : List (List Int × List Int × Bool)) (s : Bool × List Int × List Int × List Int × Int) : Option (Bool) :=
  let b22 := s.1; let s23 := s.2.1; let s24 := s.2.2.1; let s25 := s.2.2.2.1; let i26 := s.2.2.2.2
  chk (decide ((([] : List (List Int × List Int × Bool)).length + l1.length) * 40 ≤ 140737488355328) && decide (([] : List (List Int × List Int × Bool)).length + l1.length ≤ maxLen))
  (chk (decide (((([] : List (List Int × List Int × Bool)) ++ l1).length + ([(([58, 109, 101, 116, 104, 111, 100] : List Int), ([71, 69, 84] : List Int), false)] : List (List Int × List Int × Bool)).length) * 40 ≤ 140737488355328) && decide ((([] : List (List Int × List Int × Bool)) ++ l1).length + ([(([58, 109, 101, 116, 104, 111, 100] : List Int), ([71, 69, 84] : List Int), false)] : List (List Int × List Int × Bool)).length ≤ maxLen))
    ((F_ask_Read ((([] : List (List Int × List Int × Bool)) ++ l1) ++ ([(([58, 109, 101, 116, 104, 111, 100] : List Int), ([71, 69, 84] : List Int), false)] : List (List Int × List Int × Bool)))).bind fun x27 =>
      chk (decide ((([] : List (List Int × List Int × Bool)).length + l1.length) * 40 ≤ 140737488355328) && decide (([] : List (List Int × List Int × Bool)).length + l1.length ≤ maxLen))
      (chk (decide (((([] : List (List Int × List Int × Bool)) ++ l1).length + ([(([120, 45, 109, 111, 114, 101] : List Int), ([121] : List Int), false), (([112, 114, 111, 120, 121, 45, 97, 117, 116, 104, 111, 114, 105, 122, 97, 116, 105, 111, 110] : List Int), ([122] : List Int), false)] : List (List Int × List Int × Bool)).length) * 40 ≤ 140737488355328) && decide ((([] : List (List Int × List Int × Bool)) ++ l1).length + ([(([120, 45, 109, 111, 114, 101] : List Int), ([121] : List Int), false), (([112, 114, 111, 120, 121, 45, 97, 117, 116, 104, 111, 114, 105, 122, 97, 116, 105, 111, 110] : List Int), ([122] : List Int), false)] : List (List Int × List Int × Bool)).length ≤ maxLen))
        ((F_ask_Read ((([] : List (List Int × List Int × Bool)) ++ l1) ++ ([(([120, 45, 109, 111, 114, 101] : List Int), ([121] : List Int), false), (([112, 114, 111, 120, 121, 45, 97, 117, 116, 104, 111, 114, 105, 122, 97, 116, 105, 111, 110] : List Int), ([122] : List Int), false)] : List (List Int × List Int × Bool)))).bind fun x28 =>
          (F_wlvlaw24_first).bind fun b29 =>
          cond ((b29 && (!x27.2.2.2.2.2)) && x28.2.2.2.2.2)
          (cond (bEq x28.1 b22)
            (cond (x28.2.2.2.2.1 == (IntKind.i64.wrap (i26 + 1)))
              (cond (x28.2.2.1 == s24)
                (cond (i26 == 0)
                  (some (bEq b22 (s23 == ([67, 79, 78, 78, 69, 67, 84] : List Int))))
                  (cond (x28.2.2.2.1 == s25)
                    (some (bEq b22 (s23 == ([67, 79, 78, 78, 69, 67, 84] : List Int))))
                    (some false)))
                (some false))
              (some false))
            (some false))
          (some false)))))
noncomputable def F_wlvlaw24_AskOnce (l1 : List (List Int × List Int × Bool)) (i2 : Int) (i3 : Int) : Option (Bool) :=
  (F_wlvlaw24_first).bind fun b4 =>
  cond (!b4)
  (some false)
  ((F_wlvlaw6_Few l1).bind fun b5 =>
    cond (((!b5) || (decide (i3 < 0))) || (decide (i3 > (l1.length : Int))))
    ((F_wlvlaw24_first).bind fun b6 =>
      some b6)
    ((F_ask_Answer i2).bind fun l7 =>
      (F_ask_Read l7).bind fun x8 =>
      (F_ask_Read l1).bind fun x9 =>
      cond x8.2.2.2.2.2
      (some false)
      (cond (!x9.2.2.2.2.2)
        ((F_wlvlaw24_first).bind fun b10 =>
          cond b10
          (some ((bEq x9.1 false) && ((eqL x9.2.1 []) && ((eqL x9.2.2.1 []) && ((eqL x9.2.2.2.1 []) && ((eqI x9.2.2.2.2.1 0) && true))))))
          (some false))
        (joinC (S := Bool × List Int × List Int × List Int × Int) (R := Bool)
          (loopC (S := List (List Int × List Int × Bool) × Int × Bool × List Int × List Int × List Int × Int) (R := (Bool) ⊕ (Bool × List Int × List Int × List Int × Int)) (F_wlvlaw24_AskOnce_L18 l1 i3) (([(([99, 111, 110, 110, 101, 99, 116, 105, 111, 110] : List Int), ([120] : List Int), false), (([116, 101] : List Int), ([103, 122, 105, 112] : List Int), false), (([88] : List Int), [], false), (([120] : List Int), ([97, 10] : List Int), false), (([58, 120] : List Int), [], false), (([] : List Int), [], false), (([120, 32, 121] : List Int), [], false), (([120] : List Int), ([32, 97] : List Int), false)] : List (List Int × List Int × Bool)), 0, x9.1, x9.2.1, x9.2.2.1, x9.2.2.2.1, x9.2.2.2.2.1))
          (F_wlvlaw24_AskOnce_J16 l1)))))
def F_wlvlaw24_AskOnce_sig : Sig := ⟨[.v false [.d (.sl (.pr .str (.pr .str .bool)))], .v false [.d (.int .i64)], .v false [.d (.int .i64)]], [(false, [.d .bool])]⟩
def F_wlvlaw24_AskOnce_ann : List (Nat × Ann) := [(16, ⟨17, [], [(9, [.d .bool, .d .str, .d .str, .d .str, .d (.int .i64)])], [6, 12, 13, 14, 15, 65, 66, 67, 68, 69, 70, 71, 72, 73, 74, 75, 76, 77, 78, 79, 80, 81, 82, 83, 84, 85, 86, 87, 88, 89, 90, 91], []⟩), (18, ⟨19, [(11, false, [.own 34 (.pr .str (.pr .str .bool))]), (12, false, [.d (.int .i64)])], [(9, [.d .bool, .d .str, .d .str, .d .str, .d (.int .i64)])], [6, 13, 14, 15, 65, 66, 67, 68, 69, 70, 71, 72, 73, 74, 75, 76, 77, 78, 79, 80, 81, 82, 83, 84, 85, 86, 87, 88, 89, 90, 91], []⟩)]
noncomputable def F_wlvlaw24_AskOnce_env : Env := ⟨Tryd.prog, [(19, ⟨F_wlvlaw24_first_sig, ⟨F_wlvlaw24_first⟩⟩), (20, ⟨F_ask_Read_sig, ⟨F_ask_Read⟩⟩), (22, ⟨F_wlvlaw6_Few_sig, ⟨F_wlvlaw6_Few⟩⟩), (23, ⟨F_ask_Answer_sig, ⟨F_ask_Answer⟩⟩)], []⟩
set_option maxRecDepth 100000 in
theorem F_wlvlaw24_AskOnce_text : pvFn F_wlvlaw24_AskOnce_env F_wlvlaw24_AskOnce_ann Tryd.f9 F_wlvlaw24_AskOnce_sig = F_wlvlaw24_AskOnce := by kernel_rfl
noncomputable def F_wlvlaw24_AskAnswers (i1 : Int) (i2 : Int) : Option (Bool) :=
  (F_wlvlaw24_first).bind fun b3 =>
  cond (!b3)
  (some false)
  ((F_ask_Answer i1).bind fun l4 =>
    (F_ask_Answer i2).bind fun l5 =>
    cond ((decide ((l4.length : Int) < 1)) || (decide ((l5.length : Int) < 1)))
    (some false)
    ((getI l4 0).bind fun x6 =>
      cond (!(x6.1 == ([58, 115, 116, 97, 116, 117, 115] : List Int)))
      (some false)
      ((getI l4 0).bind fun x7 =>
        cond ((((x7.2.1.length : Int) != 3) || (!(bEq ((l4.length : Int) == 2) (i1 == 407)))) || (decide ((l4.length : Int) > 2)))
        (some false)
        (cond (!((decide (i1 ≥ 100)) && (decide (i1 ≤ 999))))
          ((F_wlvlaw24_first).bind fun b8 =>
            cond b8
            ((getI l4 0).bind fun x9 =>
              some (x9.2.1 == ([53, 48, 48] : List Int)))
            (some false))
          ((F_wlvlaw24_first).bind fun b10 =>
            cond b10
            (cond ((decide (i2 < 100)) || (decide (i2 > 999)))
              ((getI l4 0).bind fun x11 =>
                (getI x11.2.1 0).bind fun i12 =>
                (getI l4 0).bind fun x13 =>
                (getI x13.2.1 1).bind fun i14 =>
                (getI l4 0).bind fun x15 =>
                (getI x15.2.1 2).bind fun i16 =>
                some ((IntKind.i64.wrap ((IntKind.i64.wrap ((IntKind.i64.wrap ((IntKind.i64.wrap (IntKind.u8.wrap (i12 - 48))) * 100)) + (IntKind.i64.wrap ((IntKind.i64.wrap (IntKind.u8.wrap (i14 - 48))) * 10)))) + (IntKind.i64.wrap (IntKind.u8.wrap (i16 - 48))))) == i1))
              ((getI l4 0).bind fun x17 =>
                (getI l5 0).bind fun x18 =>
                cond (bEq (x17.2.1 == x18.2.1) (i1 == i2))
                ((getI l4 0).bind fun x19 =>
                  (getI x19.2.1 0).bind fun i20 =>
                  (getI l4 0).bind fun x21 =>
                  (getI x21.2.1 1).bind fun i22 =>
                  (getI l4 0).bind fun x23 =>
                  (getI x23.2.1 2).bind fun i24 =>
                  some ((IntKind.i64.wrap ((IntKind.i64.wrap ((IntKind.i64.wrap ((IntKind.i64.wrap (IntKind.u8.wrap (i20 - 48))) * 100)) + (IntKind.i64.wrap ((IntKind.i64.wrap (IntKind.u8.wrap (i22 - 48))) * 10)))) + (IntKind.i64.wrap (IntKind.u8.wrap (i24 - 48))))) == i1))
                (some false)))
            (some false))))))
def F_wlvlaw24_AskAnswers_sig : Sig := ⟨[.v false [.d (.int .i64)], .v false [.d (.int .i64)]], [(false, [.d .bool])]⟩
def F_wlvlaw24_AskAnswers_ann : List (Nat × Ann) := []
noncomputable def F_wlvlaw24_AskAnswers_env : Env := ⟨Tryd.prog, [(19, ⟨F_wlvlaw24_first_sig, ⟨F_wlvlaw24_first⟩⟩), (23, ⟨F_ask_Answer_sig, ⟨F_ask_Answer⟩⟩)], []⟩
set_option maxRecDepth 100000 in
theorem F_wlvlaw24_AskAnswers_text : pvFn F_wlvlaw24_AskAnswers_env F_wlvlaw24_AskAnswers_ann Tryd.f10 F_wlvlaw24_AskAnswers_sig = F_wlvlaw24_AskAnswers := by kernel_rfl
end Go.Proofs.YtgcgdfjldeihkaaDoor
