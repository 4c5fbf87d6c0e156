/- The functions of the program as Lean functions, written by a program of ours and held by the kernel. -/
import Derived.Test.YtgcgdfjldeihkaaDoorProg
import Derived.Test.YtgcgdfjldeihkaaDoorQAskc
import Derived.Test.YtgcgdfjldeihkaaDoorPw
import Derived.KernelRfl
import Derived.Laws.Bits
namespace Go.Proofs.YtgcgdfjldeihkaaDoor
open Pv
set_option linter.unusedVariables false
noncomputable def F_wlvlaw24_first : Option (Bool) :=
  (F_ask_Read ([(([58, 109, 101, 116, 104, 111, 100] : List Int), ([67, 79, 78, 78, 69, 67, 84] : List Int), false)] : List (List Int × List Int × Bool))).bind fun x1 =>
  (F_ask_Read ([(([58, 109, 101, 116, 104, 111, 100] : List Int), ([67, 79, 78, 78, 69, 67, 84] : List Int), false), (([58, 97, 117, 116, 104, 111, 114, 105, 116, 121] : List Int), ([120] : List Int), false)] : List (List Int × List Int × Bool))).bind fun x2 =>
  cond ((!x1.2.2.2.2.2) && x2.2.2.2.2.2)
  (cond x2.1
    (some (x2.2.2.1 == ([120] : List Int)))
    (some false))
  (some false)
def F_wlvlaw24_first_sig : Sig := ⟨[], [(false, [.d .bool])]⟩
def F_wlvlaw24_first_ann : List (Nat × Ann) := []
noncomputable def F_wlvlaw24_first_env : Env := ⟨Tryd.prog, [(20, ⟨F_ask_Read_sig, ⟨F_ask_Read⟩⟩)], []⟩
set_option maxRecDepth 100000 in
theorem F_wlvlaw24_first_text : pvFn F_wlvlaw24_first_env F_wlvlaw24_first_ann Tryd.f19 F_wlvlaw24_first_sig = F_wlvlaw24_first := by kernel_rfl
noncomputable def F_wlvlaw24_odd_L3 (s1 : List Int) (s : Int) : Option (((Bool) ⊕ (Unit)) ⊕ (Int)) :=
  let i2 := s
  cond (decide (i2 < (s1.length : Int)))
  ((getI s1 i2).bind fun i3 =>
    cond (decide (i3 ≤ 32))
    (some (.inl (.inl true)))
    (some (.inr (IntKind.i64.wrap (i2 + 1)))))
  (some (.inl (.inr ())))
noncomputable def F_wlvlaw24_odd_J1 (s : Unit) : Option (Bool) :=
  some false
noncomputable def F_wlvlaw24_odd (s1 : List Int) : Option (Bool) :=
  joinC (S := Unit) (R := Bool)
  (loopC (S := Int) (R := (Bool) ⊕ (Unit)) (F_wlvlaw24_odd_L3 s1) 0)
  (F_wlvlaw24_odd_J1)
def F_wlvlaw24_odd_sig : Sig := ⟨[.v false [.d .str]], [(false, [.d .bool])]⟩
def F_wlvlaw24_odd_ann : List (Nat × Ann) := [(1, ⟨2, [], [], [2, 3, 4, 5, 6, 7, 8, 9, 10, 11, 12, 13], []⟩), (3, ⟨4, [(3, false, [.d (.int .i64)])], [], [2, 4, 5, 6, 7, 8, 9, 10, 11, 12, 13], []⟩)]
noncomputable def F_wlvlaw24_odd_env : Env := ⟨Tryd.prog, [], []⟩
set_option maxRecDepth 100000 in
theorem F_wlvlaw24_odd_text : pvFn F_wlvlaw24_odd_env F_wlvlaw24_odd_ann Tryd.f21 F_wlvlaw24_odd_sig = F_wlvlaw24_odd := by kernel_rfl
noncomputable def F_wlvlaw24_AskPseudo (b1 : Bool) (s2 : List Int) (s3 : List Int) (i4 : Int) (i5 : Int) : Option (Bool) :=
  (F_wlvlaw24_first).bind fun b6 =>
  cond (!b6)
  (some false)
  (cond (((((decide ((s2.length : Int) > 100)) || (decide ((s3.length : Int) < 1))) || (decide ((s3.length : Int) > 100))) || (decide (i4 < 0))) || (decide (i5 < 0)))
    ((F_wlvlaw24_first).bind fun b7 =>
      some b7)
    (cond b1
      ((F_ask_Read ([(([58, 109, 101, 116, 104, 111, 100] : List Int), ([67, 79, 78, 78, 69, 67, 84] : List Int), false), (([58, 97, 117, 116, 104, 111, 114, 105, 116, 121] : List Int), s2, false)] : List (List Int × List Int × Bool))).bind fun x8 =>
        cond (!x8.2.2.2.2.2)
        ((F_wlvlaw24_first).bind fun b9 =>
          cond b9
          (chk (Nat.ble (s2.length + s3.length) maxLen)
            ((F_wlvlaw24_odd (s2 ++ s3)).bind fun b10 =>
              some b10))
          (some false))
        (chk ((([(([58, 109, 101, 116, 104, 111, 100] : List Int), ([67, 79, 78, 78, 69, 67, 84] : List Int), false), (([58, 97, 117, 116, 104, 111, 114, 105, 116, 121] : List Int), s2, false)] : List (List Int × List Int × Bool)).length : Int) != 0)
          (chk ((([(([58, 109, 101, 116, 104, 111, 100] : List Int), ([67, 79, 78, 78, 69, 67, 84] : List Int), false), (([58, 97, 117, 116, 104, 111, 114, 105, 116, 121] : List Int), s2, false)] : List (List Int × List Int × Bool)).length : Int) != 0)
            ((cutI ([(([58, 109, 101, 116, 104, 111, 100] : List Int), ([67, 79, 78, 78, 69, 67, 84] : List Int), false), (([58, 97, 117, 116, 104, 111, 114, 105, 116, 121] : List Int), s2, false)] : List (List Int × List Int × Bool)) 0 (Int.tmod i4 (([(([58, 109, 101, 116, 104, 111, 100] : List Int), ([67, 79, 78, 78, 69, 67, 84] : List Int), false), (([58, 97, 117, 116, 104, 111, 114, 105, 116, 121] : List Int), s2, false)] : List (List Int × List Int × Bool)).length : Int))).bind fun l11 =>
              chk (decide ((([] : List (List Int × List Int × Bool)).length + l11.length) * 40 ≤ 140737488355328) && decide (([] : List (List Int × List Int × Bool)).length + l11.length ≤ maxLen))
              ((cutI ([(([58, 109, 101, 116, 104, 111, 100] : List Int), ([67, 79, 78, 78, 69, 67, 84] : List Int), false), (([58, 97, 117, 116, 104, 111, 114, 105, 116, 121] : List Int), s2, false)] : List (List Int × List Int × Bool)) (IntKind.i64.wrap ((Int.tmod i4 (([(([58, 109, 101, 116, 104, 111, 100] : List Int), ([67, 79, 78, 78, 69, 67, 84] : List Int), false), (([58, 97, 117, 116, 104, 111, 114, 105, 116, 121] : List Int), s2, false)] : List (List Int × List Int × Bool)).length : Int)) + 1)) (([(([58, 109, 101, 116, 104, 111, 100] : List Int), ([67, 79, 78, 78, 69, 67, 84] : List Int), false), (([58, 97, 117, 116, 104, 111, 114, 105, 116, 121] : List Int), s2, false)] : List (List Int × List Int × Bool)).length : Int)).bind fun l12 =>
                chk (decide (((([] : List (List Int × List Int × Bool)) ++ l11).length + l12.length) * 40 ≤ 140737488355328) && decide ((([] : List (List Int × List Int × Bool)) ++ l11).length + l12.length ≤ maxLen))
                ((cutI ([(([58, 109, 101, 116, 104, 111, 100] : List Int), ([67, 79, 78, 78, 69, 67, 84] : List Int), false), (([58, 97, 117, 116, 104, 111, 114, 105, 116, 121] : List Int), s2, false)] : List (List Int × List Int × Bool)) (Int.tmod i5 (([(([58, 109, 101, 116, 104, 111, 100] : List Int), ([67, 79, 78, 78, 69, 67, 84] : List Int), false), (([58, 97, 117, 116, 104, 111, 114, 105, 116, 121] : List Int), s2, false)] : List (List Int × List Int × Bool)).length : Int)) (([(([58, 109, 101, 116, 104, 111, 100] : List Int), ([67, 79, 78, 78, 69, 67, 84] : List Int), false), (([58, 97, 117, 116, 104, 111, 114, 105, 116, 121] : List Int), s2, false)] : List (List Int × List Int × Bool)).length : Int)).bind fun l13 =>
                  chk (decide ((([] : List (List Int × List Int × Bool)).length + l13.length) * 40 ≤ 140737488355328) && decide (([] : List (List Int × List Int × Bool)).length + l13.length ≤ maxLen))
                  ((cutI ([(([58, 109, 101, 116, 104, 111, 100] : List Int), ([67, 79, 78, 78, 69, 67, 84] : List Int), false), (([58, 97, 117, 116, 104, 111, 114, 105, 116, 121] : List Int), s2, false)] : List (List Int × List Int × Bool)) 0 (Int.tmod i5 (([(([58, 109, 101, 116, 104, 111, 100] : List Int), ([67, 79, 78, 78, 69, 67, 84] : List Int), false), (([58, 97, 117, 116, 104, 111, 114, 105, 116, 121] : List Int), s2, false)] : List (List Int × List Int × Bool)).length : Int))).bind fun l14 =>
                    chk (decide (((([] : List (List Int × List Int × Bool)) ++ l13).length + l14.length) * 40 ≤ 140737488355328) && decide ((([] : List (List Int × List Int × Bool)) ++ l13).length + l14.length ≤ maxLen))
                    ((F_ask_Read ((([] : List (List Int × List Int × Bool)) ++ l11) ++ l12)).bind fun x15 =>
                      (F_ask_Read ((([] : List (List Int × List Int × Bool)) ++ l13) ++ l14)).bind fun x16 =>
                      chk (decide ((([] : List (List Int × List Int × Bool)).length + ([(([58, 109, 101, 116, 104, 111, 100] : List Int), ([67, 79, 78, 78, 69, 67, 84] : List Int), false), (([58, 97, 117, 116, 104, 111, 114, 105, 116, 121] : List Int), s2, false)] : List (List Int × List Int × Bool)).length) * 40 ≤ 140737488355328) && decide (([] : List (List Int × List Int × Bool)).length + ([(([58, 109, 101, 116, 104, 111, 100] : List Int), ([67, 79, 78, 78, 69, 67, 84] : List Int), false), (([58, 97, 117, 116, 104, 111, 114, 105, 116, 121] : List Int), s2, false)] : List (List Int × List Int × Bool)).length ≤ maxLen))
                      (chk (decide (((([] : List (List Int × List Int × Bool)) ++ ([(([58, 109, 101, 116, 104, 111, 100] : List Int), ([67, 79, 78, 78, 69, 67, 84] : List Int), false), (([58, 97, 117, 116, 104, 111, 114, 105, 116, 121] : List Int), s2, false)] : List (List Int × List Int × Bool))).length + ([(([58, 112, 97, 116, 104] : List Int), ([47] : List Int), false)] : List (List Int × List Int × Bool)).length) * 40 ≤ 140737488355328) && decide ((([] : List (List Int × List Int × Bool)) ++ ([(([58, 109, 101, 116, 104, 111, 100] : List Int), ([67, 79, 78, 78, 69, 67, 84] : List Int), false), (([58, 97, 117, 116, 104, 111, 114, 105, 116, 121] : List Int), s2, false)] : List (List Int × List Int × Bool))).length + ([(([58, 112, 97, 116, 104] : List Int), ([47] : List Int), false)] : List (List Int × List Int × Bool)).length ≤ maxLen))
                        ((F_ask_Read ((([] : List (List Int × List Int × Bool)) ++ ([(([58, 109, 101, 116, 104, 111, 100] : List Int), ([67, 79, 78, 78, 69, 67, 84] : List Int), false), (([58, 97, 117, 116, 104, 111, 114, 105, 116, 121] : List Int), s2, false)] : List (List Int × List Int × Bool))) ++ ([(([58, 112, 97, 116, 104] : List Int), ([47] : List Int), false)] : List (List Int × List Int × Bool)))).bind fun x17 =>
                          (F_wlvlaw24_first).bind fun b18 =>
                          cond ((b18 && (!x15.2.2.2.2.2)) && x16.2.2.2.2.2)
                          (some ((bEq x16.1 b1) && (!x17.2.2.2.2.2)))
                          (some false)))))))))))
      ((F_ask_Read ([(([58, 109, 101, 116, 104, 111, 100] : List Int), ([71, 69, 84] : List Int), false), (([58, 115, 99, 104, 101, 109, 101] : List Int), ([104, 116, 116, 112] : List Int), false), (([58, 112, 97, 116, 104] : List Int), s3, false)] : List (List Int × List Int × Bool))).bind fun x19 =>
        cond (!x19.2.2.2.2.2)
        ((F_wlvlaw24_first).bind fun b20 =>
          cond b20
          (chk (Nat.ble (s2.length + s3.length) maxLen)
            ((F_wlvlaw24_odd (s2 ++ s3)).bind fun b21 =>
              some b21))
          (some false))
        (chk ((([(([58, 109, 101, 116, 104, 111, 100] : List Int), ([71, 69, 84] : List Int), false), (([58, 115, 99, 104, 101, 109, 101] : List Int), ([104, 116, 116, 112] : List Int), false), (([58, 112, 97, 116, 104] : List Int), s3, false)] : List (List Int × List Int × Bool)).length : Int) != 0)
          (chk ((([(([58, 109, 101, 116, 104, 111, 100] : List Int), ([71, 69, 84] : List Int), false), (([58, 115, 99, 104, 101, 109, 101] : List Int), ([104, 116, 116, 112] : List Int), false), (([58, 112, 97, 116, 104] : List Int), s3, false)] : List (List Int × List Int × Bool)).length : Int) != 0)
            ((cutI ([(([58, 109, 101, 116, 104, 111, 100] : List Int), ([71, 69, 84] : List Int), false), (([58, 115, 99, 104, 101, 109, 101] : List Int), ([104, 116, 116, 112] : List Int), false), (([58, 112, 97, 116, 104] : List Int), s3, false)] : List (List Int × List Int × Bool)) 0 (Int.tmod i4 (([(([58, 109, 101, 116, 104, 111, 100] : List Int), ([71, 69, 84] : List Int), false), (([58, 115, 99, 104, 101, 109, 101] : List Int), ([104, 116, 116, 112] : List Int), false), (([58, 112, 97, 116, 104] : List Int), s3, false)] : List (List Int × List Int × Bool)).length : Int))).bind fun l22 =>
              chk (decide ((([] : List (List Int × List Int × Bool)).length + l22.length) * 40 ≤ 140737488355328) && decide (([] : List (List Int × List Int × Bool)).length + l22.length ≤ maxLen))
              ((cutI ([(([58, 109, 101, 116, 104, 111, 100] : List Int), ([71, 69, 84] : List Int), false), (([58, 115, 99, 104, 101, 109, 101] : List Int), ([104, 116, 116, 112] : List Int), false), (([58, 112, 97, 116, 104] : List Int), s3, false)] : List (List Int × List Int × Bool)) (IntKind.i64.wrap ((Int.tmod i4 (([(([58, 109, 101, 116, 104, 111, 100] : List Int), ([71, 69, 84] : List Int), false), (([58, 115, 99, 104, 101, 109, 101] : List Int), ([104, 116, 116, 112] : List Int), false), (([58, 112, 97, 116, 104] : List Int), s3, false)] : List (List Int × List Int × Bool)).length : Int)) + 1)) (([(([58, 109, 101, 116, 104, 111, 100] : List Int), ([71, 69, 84] : List Int), false), (([58, 115, 99, 104, 101, 109, 101] : List Int), ([104, 116, 116, 112] : List Int), false), (([58, 112, 97, 116, 104] : List Int), s3, false)] : List (List Int × List Int × Bool)).length : Int)).bind fun l23 =>
                chk (decide (((([] : List (List Int × List Int × Bool)) ++ l22).length + l23.length) * 40 ≤ 140737488355328) && decide ((([] : List (List Int × List Int × Bool)) ++ l22).length + l23.length ≤ maxLen))
                ((cutI ([(([58, 109, 101, 116, 104, 111, 100] : List Int), ([71, 69, 84] : List Int), false), (([58, 115, 99, 104, 101, 109, 101] : List Int), ([104, 116, 116, 112] : List Int), false), (([58, 112, 97, 116, 104] : List Int), s3, false)] : List (List Int × List Int × Bool)) (Int.tmod i5 (([(([58, 109, 101, 116, 104, 111, 100] : List Int), ([71, 69, 84] : List Int), false), (([58, 115, 99, 104, 101, 109, 101] : List Int), ([104, 116, 116, 112] : List Int), false), (([58, 112, 97, 116, 104] : List Int), s3, false)] : List (List Int × List Int × Bool)).length : Int)) (([(([58, 109, 101, 116, 104, 111, 100] : List Int), ([71, 69, 84] : List Int), false), (([58, 115, 99, 104, 101, 109, 101] : List Int), ([104, 116, 116, 112] : List Int), false), (([58, 112, 97, 116, 104] : List Int), s3, false)] : List (List Int × List Int × Bool)).length : Int)).bind fun l24 =>
                  chk (decide ((([] : List (List Int × List Int × Bool)).length + l24.length) * 40 ≤ 140737488355328) && decide (([] : List (List Int × List Int × Bool)).length + l24.length ≤ maxLen))
                  ((cutI ([(([58, 109, 101, 116, 104, 111, 100] : List Int), ([71, 69, 84] : List Int), false), (([58, 115, 99, 104, 101, 109, 101] : List Int), ([104, 116, 116, 112] : List Int), false), (([58, 112, 97, 116, 104] : List Int), s3, false)] : List (List Int × List Int × Bool)) 0 (Int.tmod i5 (([(([58, 109, 101, 116, 104, 111, 100] : List Int), ([71, 69, 84] : List Int), false), (([58, 115, 99, 104, 101, 109, 101] : List Int), ([104, 116, 116, 112] : List Int), false), (([58, 112, 97, 116, 104] : List Int), s3, false)] : List (List Int × List Int × Bool)).length : Int))).bind fun l25 =>
                    chk (decide (((([] : List (List Int × List Int × Bool)) ++ l24).length + l25.length) * 40 ≤ 140737488355328) && decide ((([] : List (List Int × List Int × Bool)) ++ l24).length + l25.length ≤ maxLen))
                    ((F_ask_Read ((([] : List (List Int × List Int × Bool)) ++ l22) ++ l23)).bind fun x26 =>
                      (F_ask_Read ((([] : List (List Int × List Int × Bool)) ++ l24) ++ l25)).bind fun x27 =>
                      chk (decide ((([] : List (List Int × List Int × Bool)).length + ([(([58, 109, 101, 116, 104, 111, 100] : List Int), ([71, 69, 84] : List Int), false), (([58, 115, 99, 104, 101, 109, 101] : List Int), ([104, 116, 116, 112] : List Int), false), (([58, 112, 97, 116, 104] : List Int), s3, false)] : List (List Int × List Int × Bool)).length) * 40 ≤ 140737488355328) && decide (([] : List (List Int × List Int × Bool)).length + ([(([58, 109, 101, 116, 104, 111, 100] : List Int), ([71, 69, 84] : List Int), false), (([58, 115, 99, 104, 101, 109, 101] : List Int), ([104, 116, 116, 112] : List Int), false), (([58, 112, 97, 116, 104] : List Int), s3, false)] : List (List Int × List Int × Bool)).length ≤ maxLen))
                      (chk (decide (((([] : List (List Int × List Int × Bool)) ++ ([(([58, 109, 101, 116, 104, 111, 100] : List Int), ([71, 69, 84] : List Int), false), (([58, 115, 99, 104, 101, 109, 101] : List Int), ([104, 116, 116, 112] : List Int), false), (([58, 112, 97, 116, 104] : List Int), s3, false)] : List (List Int × List Int × Bool))).length + ([(([58, 112, 97, 116, 104] : List Int), ([47] : List Int), false)] : List (List Int × List Int × Bool)).length) * 40 ≤ 140737488355328) && decide ((([] : List (List Int × List Int × Bool)) ++ ([(([58, 109, 101, 116, 104, 111, 100] : List Int), ([71, 69, 84] : List Int), false), (([58, 115, 99, 104, 101, 109, 101] : List Int), ([104, 116, 116, 112] : List Int), false), (([58, 112, 97, 116, 104] : List Int), s3, false)] : List (List Int × List Int × Bool))).length + ([(([58, 112, 97, 116, 104] : List Int), ([47] : List Int), false)] : List (List Int × List Int × Bool)).length ≤ maxLen))
                        ((F_ask_Read ((([] : List (List Int × List Int × Bool)) ++ ([(([58, 109, 101, 116, 104, 111, 100] : List Int), ([71, 69, 84] : List Int), false), (([58, 115, 99, 104, 101, 109, 101] : List Int), ([104, 116, 116, 112] : List Int), false), (([58, 112, 97, 116, 104] : List Int), s3, false)] : List (List Int × List Int × Bool))) ++ ([(([58, 112, 97, 116, 104] : List Int), ([47] : List Int), false)] : List (List Int × List Int × Bool)))).bind fun x28 =>
                          (F_wlvlaw24_first).bind fun b29 =>
                          cond ((b29 && (!x26.2.2.2.2.2)) && x27.2.2.2.2.2)
                          (some ((bEq x27.1 b1) && (!x28.2.2.2.2.2)))
                          (some false)))))))))))))
def F_wlvlaw24_AskPseudo_sig : Sig := ⟨[.v false [.d .bool], .v false [.d .str], .v false [.d .str], .v false [.d (.int .i64)], .v false [.d (.int .i64)]], [(false, [.d .bool])]⟩
def F_wlvlaw24_AskPseudo_ann : List (Nat × Ann) := []
noncomputable def F_wlvlaw24_AskPseudo_env : Env := ⟨Tryd.prog, [(19, ⟨F_wlvlaw24_first_sig, ⟨F_wlvlaw24_first⟩⟩), (20, ⟨F_ask_Read_sig, ⟨F_ask_Read⟩⟩), (21, ⟨F_wlvlaw24_odd_sig, ⟨F_wlvlaw24_odd⟩⟩)], []⟩
set_option maxRecDepth 100000 in
theorem F_wlvlaw24_AskPseudo_text : pvFn F_wlvlaw24_AskPseudo_env F_wlvlaw24_AskPseudo_ann Tryd.f7 F_wlvlaw24_AskPseudo_sig = F_wlvlaw24_AskPseudo := by kernel_rfl
noncomputable def F_wlvlaw24_AskNames_L9 (i1 : Int) (s : List (List Int × List Int × Bool) × Bool × Int) : Option (((Bool) ⊕ (List (List Int × List Int × Bool) × Bool)) ⊕ (List (List Int × List Int × Bool) × Bool × Int)) :=
  let l3 := s.1; let b4 := s.2.1; let i5 := s.2.2
  cond (decide (i5 < (([33, 35, 36, 37, 38, 39, 42, 43, 45, 46, 94, 95, 124, 126] : List Int).length : Int)))
  (cond b4
    (some (.inr (l3, true, (IntKind.i64.wrap (i5 + 1)))))
    ((getI ([33, 35, 36, 37, 38, 39, 42, 43, 45, 46, 94, 95, 124, 126] : List Int) i5).bind fun i6 =>
      some (.inr (l3, (i6 == i1), (IntKind.i64.wrap (i5 + 1))))))
  (some (.inl (.inr (l3, b4))))
noncomputable def F_wlvlaw24_AskNames_J7 (i1 : Int) (s : List (List Int × List Int × Bool) × Bool) : Option (Bool) :=
  let l7 := s.1; let b8 := s.2
  chk (decide ((([] : List (List Int × List Int × Bool)).length + l7.length) * 40 ≤ 140737488355328) && decide (([] : List (List Int × List Int × Bool)).length + l7.length ≤ maxLen))
  (chk (Nat.ble (([120] : List Int).length + ([i1] : List Int).length) maxLen)
    (chk (Nat.ble ((([120] : List Int) ++ ([i1] : List Int)).length + ([121] : List Int).length) maxLen)
      (chk (decide (((([] : List (List Int × List Int × Bool)) ++ l7).length + ([(((([120] : List Int) ++ ([i1] : List Int)) ++ ([121] : List Int)), [], false)] : List (List Int × List Int × Bool)).length) * 40 ≤ 140737488355328) && decide ((([] : List (List Int × List Int × Bool)) ++ l7).length + ([(((([120] : List Int) ++ ([i1] : List Int)) ++ ([121] : List Int)), [], false)] : List (List Int × List Int × Bool)).length ≤ maxLen))
        ((F_ask_Read ((([] : List (List Int × List Int × Bool)) ++ l7) ++ ([(((([120] : List Int) ++ ([i1] : List Int)) ++ ([121] : List Int)), [], false)] : List (List Int × List Int × Bool)))).bind fun x9 =>
          chk (decide ((([] : List (List Int × List Int × Bool)).length + l7.length) * 40 ≤ 140737488355328) && decide (([] : List (List Int × List Int × Bool)).length + l7.length ≤ maxLen))
          (chk (Nat.ble (([118] : List Int).length + ([i1] : List Int).length) maxLen)
            (chk (Nat.ble ((([118] : List Int) ++ ([i1] : List Int)).length + ([119] : List Int).length) maxLen)
              (chk (decide (((([] : List (List Int × List Int × Bool)) ++ l7).length + ([(([120] : List Int), ((([118] : List Int) ++ ([i1] : List Int)) ++ ([119] : List Int)), false)] : List (List Int × List Int × Bool)).length) * 40 ≤ 140737488355328) && decide ((([] : List (List Int × List Int × Bool)) ++ l7).length + ([(([120] : List Int), ((([118] : List Int) ++ ([i1] : List Int)) ++ ([119] : List Int)), false)] : List (List Int × List Int × Bool)).length ≤ maxLen))
                ((F_ask_Read ((([] : List (List Int × List Int × Bool)) ++ l7) ++ ([(([120] : List Int), ((([118] : List Int) ++ ([i1] : List Int)) ++ ([119] : List Int)), false)] : List (List Int × List Int × Bool)))).bind fun x10 =>
                  chk (decide ((([] : List (List Int × List Int × Bool)).length + l7.length) * 40 ≤ 140737488355328) && decide (([] : List (List Int × List Int × Bool)).length + l7.length ≤ maxLen))
                  (chk (decide (((([] : List (List Int × List Int × Bool)) ++ l7).length + ([(([120] : List Int), ([i1] : List Int), false)] : List (List Int × List Int × Bool)).length) * 40 ≤ 140737488355328) && decide ((([] : List (List Int × List Int × Bool)) ++ l7).length + ([(([120] : List Int), ([i1] : List Int), false)] : List (List Int × List Int × Bool)).length ≤ maxLen))
                    ((F_ask_Read ((([] : List (List Int × List Int × Bool)) ++ l7) ++ ([(([120] : List Int), ([i1] : List Int), false)] : List (List Int × List Int × Bool)))).bind fun x11 =>
                      (F_wlvlaw24_first).bind fun b12 =>
                      cond ((b12 && (bEq x9.2.2.2.2.2 (b8 || (i1 == 96)))) && (bEq x10.2.2.2.2.2 (((i1 != 0) && (i1 != 10)) && (i1 != 13))))
                      (some (bEq x11.2.2.2.2.2 (((((i1 != 0) && (i1 != 10)) && (i1 != 13)) && (i1 != 32)) && (i1 != 9))))
                      (some false)))))))))))
noncomputable def F_wlvlaw24_AskNames (i1 : Int) : Option (Bool) :=
  (F_wlvlaw24_first).bind fun b2 =>
  cond (!b2)
  (some false)
  (cond ((decide (i1 ≥ 97)) && (decide (i1 ≤ 122)))
    (joinC (S := List (List Int × List Int × Bool) × Bool) (R := Bool)
      (loopC (S := List (List Int × List Int × Bool) × Bool × Int) (R := (Bool) ⊕ (List (List Int × List Int × Bool) × Bool)) (F_wlvlaw24_AskNames_L9 i1) (([(([58, 109, 101, 116, 104, 111, 100] : List Int), ([67, 79, 78, 78, 69, 67, 84] : List Int), false), (([58, 97, 117, 116, 104, 111, 114, 105, 116, 121] : List Int), ([97, 58, 49] : List Int), false)] : List (List Int × List Int × Bool)), true, 0))
      (F_wlvlaw24_AskNames_J7 i1))
    (joinC (S := List (List Int × List Int × Bool) × Bool) (R := Bool)
      (loopC (S := List (List Int × List Int × Bool) × Bool × Int) (R := (Bool) ⊕ (List (List Int × List Int × Bool) × Bool)) (F_wlvlaw24_AskNames_L9 i1) (([(([58, 109, 101, 116, 104, 111, 100] : List Int), ([67, 79, 78, 78, 69, 67, 84] : List Int), false), (([58, 97, 117, 116, 104, 111, 114, 105, 116, 121] : List Int), ([97, 58, 49] : List Int), false)] : List (List Int × List Int × Bool)), ((decide (i1 ≥ 48)) && (decide (i1 ≤ 57))), 0))
      (F_wlvlaw24_AskNames_J7 i1)))
def F_wlvlaw24_AskNames_sig : Sig := ⟨[.v false [.d (.int .u8)]], [(false, [.d .bool])]⟩
def F_wlvlaw24_AskNames_ann : List (Nat × Ann) := [(7, ⟨8, [(3, false, [.own 34 (.pr .str (.pr .str .bool))]), (4, false, [.d .bool])], [], [6, 33, 34, 35, 36, 37, 38, 39, 40, 41, 42, 43, 44, 45, 46], []⟩), (9, ⟨10, [(3, false, [.own 34 (.pr .str (.pr .str .bool))]), (4, false, [.d .bool]), (6, false, [.d (.int .i64)])], [], [33, 34, 35, 36, 37, 38, 39, 40, 41, 42, 43, 44, 45, 46], []⟩)]
noncomputable def F_wlvlaw24_AskNames_env : Env := ⟨Tryd.prog, [(19, ⟨F_wlvlaw24_first_sig, ⟨F_wlvlaw24_first⟩⟩), (20, ⟨F_ask_Read_sig, ⟨F_ask_Read⟩⟩)], []⟩
set_option maxRecDepth 100000 in
theorem F_wlvlaw24_AskNames_text : pvFn F_wlvlaw24_AskNames_env F_wlvlaw24_AskNames_ann Tryd.f8 F_wlvlaw24_AskNames_sig = F_wlvlaw24_AskNames := by kernel_rfl
end Go.Proofs.YtgcgdfjldeihkaaDoor
