/- Texts of this claim, one behind the other. -/
import Derived.Test.YtgfmfgombmpodaaGreatDoorConfReadsM4
import Derived.Laws.Cover3
import Derived.Deep.RegionHeld
import Derived.Laws.BitsLemmas
import Derived.Lib.ItoaMem
set_option maxRecDepth 100000
namespace Go.Proofs.YtgfmfgombmpodaaGreatDoor
open Pv
set_option linter.unusedVariables false
noncomputable def F_wlvref_Split_L5 (s1:List Int) (i2:Int) (s:List (List Int)×Int×Int):Option (((List (List Int))⊕(List (List Int)))⊕(List (List Int)×Int×Int)):=
 let l3:=s.1;let i4:=s.2.1;let i5:=s.2.2
 cond (decide (i5<=(s1.length:Int)))
 (cond (i5==(s1.length:Int))
 ((cutI s1 i4 i5).bind fun s6=>
 chk (decide ((l3.length+([s6]:List (List Int)).length)*16<=140737488355328)&&decide (l3.length+([s6]:List (List Int)).length<=maxLen))
 (some (.inr ((l3++([s6]:List (List Int))),(IntKind.i64.wrap (i5+1)),(IntKind.i64.wrap (i5+1))))))
 ((getI s1 i5).bind fun i7=>
 cond (i7==i2)
 ((cutI s1 i4 i5).bind fun s8=>
 chk (decide ((l3.length+([s8]:List (List Int)).length)*16<=140737488355328)&&decide (l3.length+([s8]:List (List Int)).length<=maxLen))
 (some (.inr ((l3++([s8]:List (List Int))),(IntKind.i64.wrap (i5+1)),(IntKind.i64.wrap (i5+1))))))
 (some (.inr (l3,i4,(IntKind.i64.wrap (i5+1)))))))
 (some (.inl (.inr l3)))
noncomputable def F_wlvref_Split_J3 (s:List (List Int)):Option (List (List Int)):=
 let l9:=s
 some l9
noncomputable def F_wlvref_Split (s1:List Int) (i2:Int):Option (List (List Int)):=
 joinC (S:=List (List Int)) (R:=List (List Int))
 (loopC (S:=List (List Int)×Int×Int) (R:=(List (List Int))⊕(List (List Int))) (F_wlvref_Split_L5 s1 i2) (([]:List (List Int)),0,0))
 (F_wlvref_Split_J3)
def F_wlvref_Split_sig:Sig:=⟨[.v false [.d .str],.v false [.d (.int .u8)]],[(false,[.own 9 .str])]⟩
def F_wlvref_Split_ann:List (Nat×Ann):=[(3,⟨4,[(5,false,[.own 9 .str])],[],(List.range' 6 28),[]⟩),(5,⟨6,[(5,false,[.own 9 .str]),(6,false,[.d (.int .i64)]),(7,false,[.d (.int .i64)])],[],(List.range' 8 26),[]⟩)]
noncomputable def F_wlvref_Split_env:Env:=⟨Tryz.prog,[],[]⟩
theorem F_wlvref_Split_text:pvFn F_wlvref_Split_env F_wlvref_Split_ann Tryz.f55 F_wlvref_Split_sig=F_wlvref_Split:=by kernel_rfl
noncomputable def F_wlvref18_limits:Option (List (List Int)×List Int):=
 some (([([99,111,110,110,115]:List Int),([115,116,114,101,97,109,115]:List Int),([98,117,102,102,101,114]:List Int),([108,111,103]:List Int),([105,100,108,101]:List Int),([100,105,97,108]:List Int),([108,105,115,116]:List Int)]:List (List Int)),([16,100,65535,100000,1099511627776,1099511627776,16384]:List Int))
def F_wlvref18_limits_sig:Sig:=⟨[],[(false,[.own 9 .str]),(false,[.own 3 (.int .i64)])]⟩
def F_wlvref18_limits_ann:List (Nat×Ann):=[]
noncomputable def F_wlvref18_limits_env:Env:=⟨Tryz.prog,[],[]⟩
theorem F_wlvref18_limits_text:pvFn F_wlvref18_limits_env F_wlvref18_limits_ann Tryz.f73 F_wlvref18_limits_sig=F_wlvref18_limits:=by kernel_rfl
noncomputable def F_wlvref_Num_L7 (s1:List Int) (s:Int×Int):Option (((Int×Bool)⊕(Int))⊕(Int×Int)):=
 let i5:=s.1;let i6:=s.2
 cond (decide (i6 < (s1.length:Int)))
 ((getI s1 i6).bind fun i7=>
 cond (decide (i7 < 48))
 (some (.inl (.inl (0,false))))
 ((getI s1 i6).bind fun i8=>
 cond (decide (i8 > 57))
 (some (.inl (.inl (0,false))))
 ((getI s1 i6).bind fun i9=>
 some (.inr ((IntKind.i64.wrap ((IntKind.i64.wrap (i5*10))+(IntKind.i64.wrap (IntKind.u8.wrap (i9 - 48))))),(IntKind.i64.wrap (i6+1)))))))
 (some (.inl (.inr i5)))
noncomputable def F_wlvref_Num_J5 (i2:Int) (i3:Int) (s:Int):Option (Int×Bool):=
 let i10:=s
 some (i10,((decide (i10 >= i2))&&(decide (i10<=i3))))
noncomputable def F_wlvref_Num (s1:List Int) (i2:Int) (i3:Int):Option (Int×Bool):=
 cond ((decide ((s1.length:Int) < 1))||(decide ((s1.length:Int) > 17)))
 (some (0,false))
 (cond (decide ((s1.length:Int) > 1))
 ((getI s1 0).bind fun i4=>
 cond (i4==48)
 (some (0,false))
 (joinC (S:=Int) (R:=Int×Bool)
 (loopC (S:=Int×Int) (R:=(Int×Bool)⊕(Int)) (F_wlvref_Num_L7 s1) (0,0))
 (F_wlvref_Num_J5 i2 i3)))
 (joinC (S:=Int) (R:=Int×Bool)
 (loopC (S:=Int×Int) (R:=(Int×Bool)⊕(Int)) (F_wlvref_Num_L7 s1) (0,0))
 (F_wlvref_Num_J5 i2 i3)))
def F_wlvref_Num_sig:Sig:=⟨[.v false [.d .str],.v false [.d (.int .i64)],.v false [.d (.int .i64)]],[(false,[.d (.int .i64)]),(false,[.d .bool])]⟩
def F_wlvref_Num_ann:List (Nat×Ann):=[(5,⟨6,[(8,false,[.d (.int .i64)])],[],([6,7,9]++List.range' 28 24),[]⟩),(7,⟨8,[(8,false,[.d (.int .i64)]),(9,false,[.d (.int .i64)])],[],([6,7]++List.range' 28 24),[]⟩)]
noncomputable def F_wlvref_Num_env:Env:=⟨Tryz.prog,[],[]⟩
theorem F_wlvref_Num_text:pvFn F_wlvref_Num_env F_wlvref_Num_ann Tryz.f98 F_wlvref_Num_sig=F_wlvref_Num:=by kernel_rfl
noncomputable def F_wlvref18_name_L6 (s1:List Int) (s:Int):Option (((Bool)⊕(Unit))⊕(Int)):=
 let i2:=s
 cond (decide (i2 < (s1.length:Int)))
 ((getI s1 i2).bind fun i3=>
 cond ((decide (i3 < 97))||(decide (i3 > 122)))
 (cond ((decide (i3 < 65))||(decide (i3 > 90)))
 (cond (((((decide (i3 < 48))||(decide (i3 > 57)))&&(i3 != 46))&&(i3 != 95))&&(i3 != 45))
 (some (.inl (.inl false)))
 (some (.inr (IntKind.i64.wrap (i2+1)))))
 (some (.inr (IntKind.i64.wrap (i2+1)))))
 (cond false
 (cond (((((decide (i3 < 48))||(decide (i3 > 57)))&&(i3 != 46))&&(i3 != 95))&&(i3 != 45))
 (some (.inl (.inl false)))
 (some (.inr (IntKind.i64.wrap (i2+1)))))
 (some (.inr (IntKind.i64.wrap (i2+1))))))
 (some (.inl (.inr ())))
noncomputable def F_wlvref18_name_J4 (s:Unit):Option (Bool):=
 some true
noncomputable def F_wlvref18_name (s1:List Int):Option (Bool):=
 cond ((decide ((s1.length:Int) < 1))||(decide ((s1.length:Int) > 64)))
 (some false)
 (joinC (S:=Unit) (R:=Bool)
 (loopC (S:=Int) (R:=(Bool)⊕(Unit)) (F_wlvref18_name_L6 s1) 0)
 (F_wlvref18_name_J4))
def F_wlvref18_name_sig:Sig:=⟨[.v false [.d .str]],[(false,[.d .bool])]⟩
def F_wlvref18_name_ann:List (Nat×Ann):=[(4,⟨5,[],[],([2,3,4]++List.range' 13 43),[]⟩),(6,⟨7,[(3,false,[.d (.int .i64)])],[],([2,4]++List.range' 13 43),[]⟩)]
noncomputable def F_wlvref18_name_env:Env:=⟨Tryz.prog,[],[]⟩
theorem F_wlvref18_name_text:pvFn F_wlvref18_name_env F_wlvref18_name_ann Tryz.f99 F_wlvref18_name_sig=F_wlvref18_name:=by kernel_rfl
noncomputable def F_wlvref18_digit_L3 (i1:Int) (s:Int):Option (((Int)⊕(Unit))⊕(Int)):=
 let i2:=s
 cond (decide (i2 < 16))
 ((getI ([48,49,50,51,52,53,54,55,56,57,97,98,99,100,101,102]:List Int) i2).bind fun i3=>
 cond (i3==i1)
 (some (.inl (.inl i2)))
 (some (.inr (IntKind.i64.wrap (i2+1)))))
 (some (.inl (.inr ())))
noncomputable def F_wlvref18_digit_J1 (s:Unit):Option (Int):=
 some (-1)
noncomputable def F_wlvref18_digit (i1:Int):Option (Int):=
 joinC (S:=Unit) (R:=Int)
 (loopC (S:=Int) (R:=(Int)⊕(Unit)) (F_wlvref18_digit_L3 i1) 0)
 (F_wlvref18_digit_J1)
def F_wlvref18_digit_sig:Sig:=⟨[.v false [.d (.int .u8)]],[(false,[.d (.int .i64)])]⟩
def F_wlvref18_digit_ann:List (Nat×Ann):=[(1,⟨2,[],[],(List.range' 2 11),[]⟩),(3,⟨4,[(3,false,[.d (.int .i64)])],[],([2]++List.range' 4 9),[]⟩)]
noncomputable def F_wlvref18_digit_env:Env:=⟨Tryz.prog,[],[]⟩
theorem F_wlvref18_digit_text:pvFn F_wlvref18_digit_env F_wlvref18_digit_ann Tryz.f138 F_wlvref18_digit_sig=F_wlvref18_digit:=by kernel_rfl
noncomputable def F_wlvref18_unhex_L7 (s1:List Int) (s:List Int×Int):Option (((List Int×Bool)⊕(List Int))⊕(List Int×Int)):=
 let l2:=s.1;let i3:=s.2
 cond (decide (i3 < (s1.length:Int)))
 ((getI s1 i3).bind fun i4=>
 (F_wlvref18_digit i4).bind fun i5=>
 (getI s1 (IntKind.i64.wrap (i3+1))).bind fun i6=>
 (F_wlvref18_digit i6).bind fun i7=>
 cond ((decide (i5 < 0))||(decide (i7 < 0)))
 (some (.inl (.inl (([]:List Int),false))))
 (chk (decide ((l2.length+([(IntKind.u8.wrap (IntKind.i64.wrap ((IntKind.i64.wrap (16*i5))+i7)))]:List Int).length)*1<=140737488355328)&&decide (l2.length+([(IntKind.u8.wrap (IntKind.i64.wrap ((IntKind.i64.wrap (16*i5))+i7)))]:List Int).length<=maxLen))
 (some (.inr ((l2++([(IntKind.u8.wrap (IntKind.i64.wrap ((IntKind.i64.wrap (16*i5))+i7)))]:List Int)),(IntKind.i64.wrap (i3+2)))))))
 (some (.inl (.inr l2)))
noncomputable def F_wlvref18_unhex_J5 (s:List Int):Option (List Int×Bool):=
 let l8:=s
 some (l8,true)
noncomputable def F_wlvref18_unhex (s1:List Int):Option (List Int×Bool):=
 cond ((Int.tmod (s1.length:Int) 2) != 0)
 (some (([]:List Int),false))
 (joinC (S:=List Int) (R:=List Int×Bool)
 (loopC (S:=List Int×Int) (R:=(List Int×Bool)⊕(List Int)) (F_wlvref18_unhex_L7 s1) (([]:List Int),0))
 (F_wlvref18_unhex_J5))
def F_wlvref18_unhex_sig:Sig:=⟨[.v false [.d .str]],[(false,[.own 5 (.int .u8)]),(false,[.d .bool])]⟩
def F_wlvref18_unhex_ann:List (Nat×Ann):=[(5,⟨6,[(4,false,[.own 5 (.int .u8)])],[],([2,3,5,6,7]++List.range' 12 29),[]⟩),(7,⟨8,[(4,false,[.own 5 (.int .u8)]),(5,false,[.d (.int .i64)])],[],([2,3,6,7]++List.range' 12 29),[]⟩)]
noncomputable def F_wlvref18_unhex_env:Env:=⟨Tryz.prog,[(138,⟨F_wlvref18_digit_sig,⟨F_wlvref18_digit⟩⟩)],[]⟩
theorem F_wlvref18_unhex_text:pvFn F_wlvref18_unhex_env F_wlvref18_unhex_ann Tryz.f100 F_wlvref18_unhex_sig=F_wlvref18_unhex:=by kernel_rfl
noncomputable def F_wlvref18_ports (s1:List Int):Option (Int×Int×Bool):=
 cond (s1==([42]:List Int))
 (some (1,65535,true))
 ((F_wlvref_Split s1 45).bind fun l2=>
 (getI l2 0).bind fun s3=>
 (F_wlvref_Num s3 1 65535).bind fun x4=>
 cond ((l2.length:Int)==1)
 (some (x4.1,x4.1,x4.2))
 ((getI l2 1).bind fun s5=>
 (F_wlvref_Num s5 x4.1 65535).bind fun x6=>
 some (x4.1,x6.1,((x4.2&&x6.2)&&((l2.length:Int)==2)))))
def F_wlvref18_ports_sig:Sig:=⟨[.v false [.d .str]],[(false,[.d (.int .i64)]),(false,[.d (.int .i64)]),(false,[.d .bool])]⟩
def F_wlvref18_ports_ann:List (Nat×Ann):=[]
noncomputable def F_wlvref18_ports_env:Env:=⟨Tryz.prog,[(55,⟨F_wlvref_Split_sig,⟨F_wlvref_Split⟩⟩),(98,⟨F_wlvref_Num_sig,⟨F_wlvref_Num⟩⟩)],[]⟩
theorem F_wlvref18_ports_text:pvFn F_wlvref18_ports_env F_wlvref18_ports_ann Tryz.f101 F_wlvref18_ports_sig=F_wlvref18_ports:=by kernel_rfl
noncomputable def F_wlvref15_four_L8 (s:List (List Int)×List Int×Int):Option (((List Int×Bool)⊕(List Int))⊕(List (List Int)×List Int×Int)):=
 let l3:=s.1;let l4:=s.2.1;let i5:=s.2.2
 cond (decide (i5 < 4))
 ((getI l3 i5).bind fun s6=>
 (F_wlvref_Num s6 0 255).bind fun x7=>
 cond (!x7.2)
 (some (.inl (.inl (([]:List Int),false))))
 (chk (decide ((l4.length+([(IntKind.u8.wrap x7.1)]:List Int).length)*1<=140737488355328)&&decide (l4.length+([(IntKind.u8.wrap x7.1)]:List Int).length<=maxLen))
 (some (.inr (l3,(l4++([(IntKind.u8.wrap x7.1)]:List Int)),(IntKind.i64.wrap (i5+1)))))))
 (some (.inl (.inr l4)))
noncomputable def F_wlvref15_four_J6 (s:List Int):Option (List Int×Bool):=
 let l8:=s
 some (l8,true)
noncomputable def F_wlvref15_four (s1:List Int):Option (List Int×Bool):=
 (F_wlvref_Split s1 46).bind fun l2=>
 cond ((l2.length:Int) != 4)
 (some (([]:List Int),false))
 (joinC (S:=List Int) (R:=List Int×Bool)
 (loopC (S:=List (List Int)×List Int×Int) (R:=(List Int×Bool)⊕(List Int)) (F_wlvref15_four_L8) (l2,([]:List Int),0))
 (F_wlvref15_four_J6))
def F_wlvref15_four_sig:Sig:=⟨[.v false [.d .str]],[(false,[.d .str]),(false,[.d .bool])]⟩
def F_wlvref15_four_ann:List (Nat×Ann):=[(6,⟨7,[(5,false,[.own 5 (.int .u8)])],[],([2,3,6,7,8]++List.range' 14 19),[]⟩),(8,⟨9,[(4,false,[.own 9 .str]),(5,false,[.own 5 (.int .u8)]),(6,false,[.d (.int .i64)])],[],([2,3,7,8]++List.range' 14 19),[]⟩)]
noncomputable def F_wlvref15_four_env:Env:=⟨Tryz.prog,[(55,⟨F_wlvref_Split_sig,⟨F_wlvref_Split⟩⟩),(98,⟨F_wlvref_Num_sig,⟨F_wlvref_Num⟩⟩)],[]⟩
theorem F_wlvref15_four_text:pvFn F_wlvref15_four_env F_wlvref15_four_ann Tryz.f176 F_wlvref15_four_sig=F_wlvref15_four:=by kernel_rfl
noncomputable def F_wlvref15_group_L7 (s1:List Int) (s:Int×Int):Option (((Int×Bool)⊕(Int))⊕(Int×Int)):=
 let i2:=s.1;let i3:=s.2
 cond (decide (i3 < (s1.length:Int)))
 ((getI s1 i3).bind fun i4=>
 cond ((decide (i4 >= 48))&&(decide (i4<=57)))
 (some (.inr ((IntKind.i64.wrap ((IntKind.i64.wrap (i2*16))+(IntKind.i64.wrap (IntKind.u8.wrap (i4 - 48))))),(IntKind.i64.wrap (i3+1)))))
 (cond ((decide (i4 >= 97))&&(decide (i4<=102)))
 (some (.inr ((IntKind.i64.wrap ((IntKind.i64.wrap ((IntKind.i64.wrap (i2*16))+(IntKind.i64.wrap (IntKind.u8.wrap (i4 - 97)))))+10)),(IntKind.i64.wrap (i3+1)))))
 (cond ((decide (i4 >= 65))&&(decide (i4<=70)))
 (some (.inr ((IntKind.i64.wrap ((IntKind.i64.wrap ((IntKind.i64.wrap (i2*16))+(IntKind.i64.wrap (IntKind.u8.wrap (i4 - 65)))))+10)),(IntKind.i64.wrap (i3+1)))))
 (some (.inl (.inl (0,false)))))))
 (some (.inl (.inr i2)))
noncomputable def F_wlvref15_group_J5 (s:Int):Option (Int×Bool):=
 let i5:=s
 some (i5,true)
noncomputable def F_wlvref15_group (s1:List Int):Option (Int×Bool):=
 cond ((decide ((s1.length:Int) < 1))||(decide ((s1.length:Int) > 4)))
 (some (0,false))
 (joinC (S:=Int) (R:=Int×Bool)
 (loopC (S:=Int×Int) (R:=(Int×Bool)⊕(Int)) (F_wlvref15_group_L7 s1) (0,0))
 (F_wlvref15_group_J5))
def F_wlvref15_group_sig:Sig:=⟨[.v false [.d .str]],[(false,[.d (.int .i64)]),(false,[.d .bool])]⟩
def F_wlvref15_group_ann:List (Nat×Ann):=[(5,⟨6,[(4,false,[.d (.int .i64)])],[],([2,3,5,6]++List.range' 15 50),[]⟩),(7,⟨8,[(4,false,[.d (.int .i64)]),(5,false,[.d (.int .i64)])],[],([2,3,6]++List.range' 15 50),[]⟩)]
noncomputable def F_wlvref15_group_env:Env:=⟨Tryz.prog,[],[]⟩
theorem F_wlvref15_group_text:pvFn F_wlvref15_group_env F_wlvref15_group_ann Tryz.f234 F_wlvref15_group_sig=F_wlvref15_group:=by kernel_rfl
noncomputable def F_wlvref15_groups_L8 (s:List (List Int)×List Int×Int):Option (((List Int×Bool)⊕(List (List Int)×List Int))⊕(List (List Int)×List Int×Int)):=
 let l3:=s.1;let l4:=s.2.1;let i5:=s.2.2
 cond ((decide (i5 < (l3.length:Int)))&&(decide (i5 < 9)))
 ((getI l3 i5).bind fun s6=>
 (F_wlvref15_group s6).bind fun x7=>
 cond (!x7.2)
 (some (.inl (.inl (([]:List Int),false))))
 (chk (decide ((l4.length+([(IntKind.u8.wrap (Int.fdiv x7.1 (2 ^ 8))),(IntKind.u8.wrap x7.1)]:List Int).length)*1<=140737488355328)&&decide (l4.length+([(IntKind.u8.wrap (Int.fdiv x7.1 (2 ^ 8))),(IntKind.u8.wrap x7.1)]:List Int).length<=maxLen))
 (some (.inr (l3,(l4++([(IntKind.u8.wrap (Int.fdiv x7.1 (2 ^ 8))),(IntKind.u8.wrap x7.1)]:List Int)),(IntKind.i64.wrap (i5+1)))))))
 (some (.inl (.inr (l3,l4))))
noncomputable def F_wlvref15_groups_J6 (s:List (List Int)×List Int):Option (List Int×Bool):=
 let l8:=s.1;let l9:=s.2
 some (l9,(decide ((l8.length:Int)<=8)))
noncomputable def F_wlvref15_groups (s1:List Int):Option (List Int×Bool):=
 cond (s1==([]:List Int))
 (some (([]:List Int),true))
 ((F_wlvref_Split s1 58).bind fun l2=>
 joinC (S:=List (List Int)×List Int) (R:=List Int×Bool)
 (loopC (S:=List (List Int)×List Int×Int) (R:=(List Int×Bool)⊕(List (List Int)×List Int)) (F_wlvref15_groups_L8) (l2,([]:List Int),0))
 (F_wlvref15_groups_J6))
def F_wlvref15_groups_sig:Sig:=⟨[.v false [.d .str]],[(false,[.own 5 (.int .u8)]),(false,[.d .bool])]⟩
def F_wlvref15_groups_ann:List (Nat×Ann):=[(6,⟨7,[(4,false,[.own 9 .str]),(5,false,[.own 5 (.int .u8)])],[],([2,3,6,7,8]++List.range' 13 28),[]⟩),(8,⟨9,[(4,false,[.own 9 .str]),(5,false,[.own 5 (.int .u8)]),(6,false,[.d (.int .i64)])],[],([2,3,7,8]++List.range' 13 28),[]⟩)]
noncomputable def F_wlvref15_groups_env:Env:=⟨Tryz.prog,[(55,⟨F_wlvref_Split_sig,⟨F_wlvref_Split⟩⟩),(234,⟨F_wlvref15_group_sig,⟨F_wlvref15_group⟩⟩)],[]⟩
theorem F_wlvref15_groups_text:pvFn F_wlvref15_groups_env F_wlvref15_groups_ann Tryz.f206 F_wlvref15_groups_sig=F_wlvref15_groups:=by kernel_rfl
noncomputable def F_wlvref15_eight_L4 (s1:List Int) (s:Int×Int):Option (((List Int×Bool)⊕(Int))⊕(Int×Int)):=
 let i2:=s.1;let i3:=s.2
 cond (decide ((IntKind.i64.wrap (i3+1)) < (s1.length:Int)))
 ((getI s1 i3).bind fun i4=>
 cond (i4==58)
 ((getI s1 (IntKind.i64.wrap (i3+1))).bind fun i5=>
 cond ((i5==58)&&(decide (i2 < 0)))
 (some (.inr (i3,(IntKind.i64.wrap (i3+1)))))
 (some (.inr (i2,(IntKind.i64.wrap (i3+1))))))
 (some (.inr (i2,(IntKind.i64.wrap (i3+1))))))
 (some (.inl (.inr i2)))
noncomputable def F_wlvref15_eight_L20 (s:List Int×List Int):Option (((List Int×Bool)⊕(List Int×List Int))⊕(List Int×List Int)):=
 let l12:=s.1;let l13:=s.2
 cond (decide ((l13.length:Int) < (IntKind.i64.wrap (16 - (l12.length:Int)))))
 (chk (decide ((l13.length+([0]:List Int).length)*1<=140737488355328)&&decide (l13.length+([0]:List Int).length<=maxLen))
 (some (.inr (l12,(l13++([0]:List Int))))))
 (some (.inl (.inr (l12,l13))))
noncomputable def F_wlvref15_eight_J19 (s:List Int×List Int):Option (List Int×Bool):=
 let l14:=s.1;let l15:=s.2
 chk (decide ((l15.length+l14.length)*1<=140737488355328)&&decide (l15.length+l14.length<=maxLen))
 (some ((l15++l14),true))
noncomputable def F_wlvref15_eight_J2 (s1:List Int) (s:Int):Option (List Int×Bool):=
 let i6:=s
 cond (decide (i6 < 0))
 ((F_wlvref15_groups s1).bind fun x7=>
 some (x7.1,(x7.2&&((x7.1.length:Int)==16))))
 ((cutI s1 0 i6).bind fun s8=>
 (F_wlvref15_groups s8).bind fun x9=>
 (cutI s1 (IntKind.i64.wrap (i6+2)) (s1.length:Int)).bind fun s10=>
 (F_wlvref15_groups s10).bind fun x11=>
 cond (((!x9.2)||(!x11.2))||(decide ((IntKind.i64.wrap ((x9.1.length:Int)+(x11.1.length:Int))) > 14)))
 (some (([]:List Int),false))
 (chk (decide ((([]:List Int).length+x9.1.length)*1<=140737488355328)&&decide (([]:List Int).length+x9.1.length<=maxLen))
 (joinC (S:=List Int×List Int) (R:=List Int×Bool)
 (loopC (S:=List Int×List Int) (R:=(List Int×Bool)⊕(List Int×List Int)) (F_wlvref15_eight_L20) (x11.1,(([]:List Int)++x9.1)))
 (F_wlvref15_eight_J19))))
noncomputable def F_wlvref15_eight (s1:List Int):Option (List Int×Bool):=
 joinC (S:=Int) (R:=List Int×Bool)
 (loopC (S:=Int×Int) (R:=(List Int×Bool)⊕(Int)) (F_wlvref15_eight_L4 s1) ((-1),0))
 (F_wlvref15_eight_J2 s1)
def F_wlvref15_eight_sig:Sig:=⟨[.v false [.d .str]],[(false,[.d .str]),(false,[.d .bool])]⟩
def F_wlvref15_eight_ann:List (Nat×Ann):=[(2,⟨3,[(4,false,[.d (.int .i64)])],[],([5]++List.range' 13 23),[]⟩),(4,⟨5,[(4,false,[.d (.int .i64)]),(5,false,[.d (.int .i64)])],[],(List.range' 13 23),[]⟩),(19,⟨20,[(10,false,[.own 5 (.int .u8)]),(12,false,[.own 5 (.int .u8)])],[],(List.range' 83 9),[]⟩),(20,⟨21,[(10,false,[.own 5 (.int .u8)]),(12,false,[.own 5 (.int .u8)])],[],(List.range' 83 9),[]⟩)]
noncomputable def F_wlvref15_eight_env:Env:=⟨Tryz.prog,[(206,⟨F_wlvref15_groups_sig,⟨F_wlvref15_groups⟩⟩)],[]⟩
theorem F_wlvref15_eight_text:pvFn F_wlvref15_eight_env F_wlvref15_eight_ann Tryz.f177 F_wlvref15_eight_sig=F_wlvref15_eight:=by kernel_rfl
noncomputable def F_wlvref15_Mapped (s1:List Int):Option (Bool):=
 cond ((s1.length:Int)==16)
 ((cutI s1 0 12).bind fun s2=>
 chk (decide (0<=(10:Int))&&decide ((10:Int)<=(10:Int))&&decide ((10:Int)*1<=140737488355328)&&decide ((10:Int)<=maxLen))
 (chk (Nat.ble ((List.replicate ((10:Int)).toNat (0:Int)).length+([255,255]:List Int).length) maxLen)
 (some (s2==((List.replicate ((10:Int)).toNat (0:Int))++([255,255]:List Int))))))
 (some false)
def F_wlvref15_Mapped_sig:Sig:=⟨[.v false [.d .str]],[(false,[.d .bool])]⟩
def F_wlvref15_Mapped_ann:List (Nat×Ann):=[]
noncomputable def F_wlvref15_Mapped_env:Env:=⟨Tryz.prog,[],[]⟩
theorem F_wlvref15_Mapped_text:pvFn F_wlvref15_Mapped_env F_wlvref15_Mapped_ann Tryz.f178 F_wlvref15_Mapped_sig=F_wlvref15_Mapped:=by kernel_rfl
noncomputable def F_wlvref15_Parse (s1:List Int):Option (List Int×Int):=
 cond (decide ((s1.length:Int) > 50))
 (some (([]:List Int),2))
 ((F_wlvref15_four s1).bind fun x2=>
 cond x2.2
 (some (x2.1,0))
 ((F_wlvref15_eight s1).bind fun x3=>
 cond (!x3.2)
 (some (([]:List Int),2))
 ((F_wlvref15_Mapped x3.1).bind fun b4=>
 cond b4
 ((cutI x3.1 12 (x3.1.length:Int)).bind fun s5=>
 some (s5,0))
 (some (x3.1,0)))))
def F_wlvref15_Parse_sig:Sig:=⟨[.v false [.d .str]],[(false,[.d .str]),(false,[.d (.int .i64)])]⟩
def F_wlvref15_Parse_ann:List (Nat×Ann):=[]
noncomputable def F_wlvref15_Parse_env:Env:=⟨Tryz.prog,[(176,⟨F_wlvref15_four_sig,⟨F_wlvref15_four⟩⟩),(177,⟨F_wlvref15_eight_sig,⟨F_wlvref15_eight⟩⟩),(178,⟨F_wlvref15_Mapped_sig,⟨F_wlvref15_Mapped⟩⟩)],[]⟩
theorem F_wlvref15_Parse_text:pvFn F_wlvref15_Parse_env F_wlvref15_Parse_ann Tryz.f139 F_wlvref15_Parse_sig=F_wlvref15_Parse:=by kernel_rfl
noncomputable def F_wlvref15_bit (s1:List Int) (i2:Int):Option (Int):=
 (getI s1 (IntKind.i64.wrap (Int.tdiv i2 8))).bind fun i3=>
 chk (decide (0<=(IntKind.u64.wrap (IntKind.i64.wrap (7 - (Int.tmod i2 8))))))
 (some (bits .and .i64 (Int.fdiv (IntKind.i64.wrap i3) (2 ^ (min ((IntKind.u64.wrap (IntKind.i64.wrap (7 - (Int.tmod i2 8))))).toNat 64))) 1))
def F_wlvref15_bit_sig:Sig:=⟨[.v false [.d .str],.v false [.d (.int .i64)]],[(false,[.d (.int .i64)])]⟩
def F_wlvref15_bit_ann:List (Nat×Ann):=[]
noncomputable def F_wlvref15_bit_env:Env:=⟨Tryz.prog,[],[]⟩
theorem F_wlvref15_bit_text:pvFn F_wlvref15_bit_env F_wlvref15_bit_ann Tryz.f140 F_wlvref15_bit_sig=F_wlvref15_bit:=by kernel_rfl
noncomputable def F_wlvref15_ParseNet_L15 (x4:List Int×Int) (s:Int×List Int×Int×List Int×Int):Option (((List Int×Int×Int)⊕(List Int×Int×List Int×Int))⊕(Int×List Int×Int×List Int×Int)):=
 let i7:=s.1;let s8:=s.2.1;let i9:=s.2.2.1;let s10:=s.2.2.2.1;let i11:=s.2.2.2.2
 cond (decide (i7 < (IntKind.i64.wrap (8*(x4.1.length:Int)))))
 ((F_wlvref15_bit x4.1 i7).bind fun i12=>
 cond (i12 != 0)
 (some (.inl (.inl (([]:List Int),0,2))))
 (some (.inr ((IntKind.i64.wrap (i7+1)),s8,i9,s10,i11))))
 (some (.inl (.inr (s8,i9,s10,i11))))
noncomputable def F_wlvref15_ParseNet_J13 (s:List Int×Int×List Int×Int):Option (List Int×Int×Int):=
 let s13:=s.1;let i14:=s.2.1;let s15:=s.2.2.1;let i16:=s.2.2.2
 some (s15,i16,0)
noncomputable def F_wlvref15_ParseNet (s1:List Int):Option (List Int×Int×Int):=
 (F_wlvref_Split s1 47).bind fun l2=>
 (getI l2 0).bind fun s3=>
 (F_wlvref15_Parse s3).bind fun x4=>
 cond ((x4.2 != 0)||(decide ((l2.length:Int) > 2)))
 (some (([]:List Int),0,2))
 (cond ((l2.length:Int)==2)
 ((getI l2 1).bind fun s5=>
 (F_wlvref_Num s5 0 (IntKind.i64.wrap (8*(x4.1.length:Int)))).bind fun x6=>
 cond (!x6.2)
 (some (([]:List Int),0,2))
 (joinC (S:=List Int×Int×List Int×Int) (R:=List Int×Int×Int)
 (loopC (S:=Int×List Int×Int×List Int×Int) (R:=(List Int×Int×Int)⊕(List Int×Int×List Int×Int)) (F_wlvref15_ParseNet_L15 x4) (x6.1,([]:List Int),0,x4.1,x6.1))
 (F_wlvref15_ParseNet_J13)))
 (joinC (S:=List Int×Int×List Int×Int) (R:=List Int×Int×Int)
 (loopC (S:=Int×List Int×Int×List Int×Int) (R:=(List Int×Int×Int)⊕(List Int×Int×List Int×Int)) (F_wlvref15_ParseNet_L15 x4) ((IntKind.i64.wrap (8*(x4.1.length:Int))),([]:List Int),0,x4.1,(IntKind.i64.wrap (8*(x4.1.length:Int)))))
 (F_wlvref15_ParseNet_J13)))
def F_wlvref15_ParseNet_sig:Sig:=⟨[.v false [.d .str]],[(true,[.d .str,.d (.int .i64)]),(false,[.d (.int .i64)])]⟩
def F_wlvref15_ParseNet_ann:List (Nat×Ann):=[(13,⟨14,[],[(2,[.d .str,.d (.int .i64)]),(7,[.d .str,.d (.int .i64)])],([3,10]++List.range' 51 14),[]⟩),(15,⟨16,[(10,false,[.d (.int .i64)])],[(2,[.d .str,.d (.int .i64)]),(7,[.d .str,.d (.int .i64)])],([3]++List.range' 53 12),[]⟩)]
noncomputable def F_wlvref15_ParseNet_env:Env:=⟨Tryz.prog,[(55,⟨F_wlvref_Split_sig,⟨F_wlvref_Split⟩⟩),(98,⟨F_wlvref_Num_sig,⟨F_wlvref_Num⟩⟩),(139,⟨F_wlvref15_Parse_sig,⟨F_wlvref15_Parse⟩⟩),(140,⟨F_wlvref15_bit_sig,⟨F_wlvref15_bit⟩⟩)],[]⟩
theorem F_wlvref15_ParseNet_text:pvFn F_wlvref15_ParseNet_env F_wlvref15_ParseNet_ann Tryz.f102 F_wlvref15_ParseNet_sig=F_wlvref15_ParseNet:=by kernel_rfl
noncomputable def F_wlvref_Lower_L4 (s1:List Int) (s:Int×List Int):Option (((List Int)⊕(List Int))⊕(Int×List Int)):=
 let i2:=s.1;let l3:=s.2
 cond (decide (i2 < (s1.length:Int)))
 (chk (decide (0<=i2)&&decide (i2 < (s1.length:Int)))
 ((getI l3 i2).bind fun i4=>
 cond (decide (i4 >= 65))
 (chk (decide (0<=i2)&&decide (i2 < (s1.length:Int)))
 ((getI l3 i2).bind fun i5=>
 cond (decide (i5<=90))
 (chk (decide (0<=i2)&&decide (i2 < (s1.length:Int)))
 ((getI l3 i2).bind fun i6=>
 chk (decide (0<=i2)&&decide (i2 < (s1.length:Int)))
 (chk (decide (i2 < (l3.length:Int)))
 (some (.inr ((IntKind.i64.wrap (i2+1)),(l3.set (i2).toNat (IntKind.u8.wrap (i6+32)))))))))
 (some (.inr ((IntKind.i64.wrap (i2+1)),l3)))))
 (some (.inr ((IntKind.i64.wrap (i2+1)),l3)))))
 (some (.inl (.inr l3)))
noncomputable def F_wlvref_Lower_J2 (s1:List Int) (s:List Int):Option (List Int):=
 let l7:=s
 chk (Nat.ble s1.length (List.length l7))
 (some (List.take s1.length l7))
noncomputable def F_wlvref_Lower (s1:List Int):Option (List Int):=
 joinC (S:=List Int) (R:=List Int)
 (loopC (S:=Int×List Int) (R:=(List Int)⊕(List Int)) (F_wlvref_Lower_L4 s1) (0,s1))
 (F_wlvref_Lower_J2 s1)
def F_wlvref_Lower_sig:Sig:=⟨[.v false [.d .str]],[(false,[.d .str])]⟩
def F_wlvref_Lower_ann:List (Nat×Ann):=[(2,⟨3,[],[(6,[.row (.int .u8)])],([4]++List.range' 7 24),[]⟩),(4,⟨5,[(4,false,[.d (.int .i64)])],[(6,[.row (.int .u8)])],(List.range' 7 24),[]⟩)]
noncomputable def F_wlvref_Lower_env:Env:=⟨Tryz.prog,[],[6]⟩
theorem F_wlvref_Lower_text:pvFn F_wlvref_Lower_env F_wlvref_Lower_ann Tryz.f141 F_wlvref_Lower_sig=F_wlvref_Lower:=by kernel_rfl
noncomputable def F_wlvref15_Name_L17 (s6:List Int) (s:List (List Int)×Int):Option (((((List Int×Int)⊕(Unit))⊕(List (List Int)×Int))⊕(List (List Int)))⊕(List (List Int)×Int)):=
 let l9:=s.1;let i10:=s.2
 cond (decide (i10 < (s6.length:Int)))
 ((getI s6 i10).bind fun i11=>
 cond ((decide (i11 < 97))||(decide (i11 > 122)))
 (cond ((((decide (i11 < 48))||(decide (i11 > 57)))&&(i11 != 45))&&(i11 != 95))
 (some (.inl (.inl (.inl (.inl (([]:List Int),2))))))
 (some (.inr (l9,(IntKind.i64.wrap (i10+1))))))
 (some (.inr (l9,(IntKind.i64.wrap (i10+1))))))
 (some (.inl (.inr l9)))
noncomputable def F_wlvref15_Name_J11 (i5:Int) (s:List (List Int)):Option (((List Int×Int)⊕(Unit))⊕(List (List Int)×Int)):=
 let l12:=s
 some (.inr (l12,(IntKind.i64.wrap (i5+1))))
noncomputable def F_wlvref15_Name_L8 (s:List (List Int)×Int):Option (((List Int×Int)⊕(Unit))⊕(List (List Int)×Int)):=
 let l4:=s.1;let i5:=s.2
 cond (decide (i5 < (l4.length:Int)))
 (joinC (S:=List (List Int)) (R:=((List Int×Int)⊕(Unit))⊕(List (List Int)×Int))
 ((getI l4 i5).bind fun s6=>
 cond ((decide ((s6.length:Int) < 1))||(decide ((s6.length:Int) > 63)))
 (some (.inl (.inl (.inl (([]:List Int),2)))))
 ((getI s6 0).bind fun i7=>
 cond (i7==45)
 (some (.inl (.inl (.inl (([]:List Int),2)))))
 ((getI s6 (IntKind.i64.wrap ((s6.length:Int) - 1))).bind fun i8=>
 cond (i8==45)
 (some (.inl (.inl (.inl (([]:List Int),2)))))
 (loopC (S:=List (List Int)×Int) (R:=(((List Int×Int)⊕(Unit))⊕(List (List Int)×Int))⊕(List (List Int))) (F_wlvref15_Name_L17 s6) (l4,0)))))
 (F_wlvref15_Name_J11 i5))
 (some (.inl (.inr ())))
noncomputable def F_wlvref15_Name_J6 (s2:List Int) (s:Unit):Option (List Int×Int):=
 some (s2,0)
noncomputable def F_wlvref15_Name (s1:List Int):Option (List Int×Int):=
 cond ((decide ((s1.length:Int) < 1))||(decide ((s1.length:Int) > 253)))
 (some (([]:List Int),2))
 ((F_wlvref_Lower s1).bind fun s2=>
 (F_wlvref_Split s2 46).bind fun l3=>
 joinC (S:=Unit) (R:=List Int×Int)
 (loopC (S:=List (List Int)×Int) (R:=(List Int×Int)⊕(Unit)) (F_wlvref15_Name_L8) (l3,0))
 (F_wlvref15_Name_J6 s2))
def F_wlvref15_Name_sig:Sig:=⟨[.v false [.d .str]],[(false,[.d .str]),(false,[.d (.int .i64)])]⟩
def F_wlvref15_Name_ann:List (Nat×Ann):=[(6,⟨7,[],[],([2,3,5,6,7,8]++List.range' 21 62),[]⟩),(8,⟨9,[(4,false,[.own 9 .str]),(5,false,[.d (.int .i64)])],[],([2,3,6,7,8]++List.range' 21 62),[]⟩),(11,⟨12,[(4,false,[.own 9 .str])],[],([2,3,6,7,8]++List.range' 27 56),[]⟩),(17,⟨18,[(4,false,[.own 9 .str]),(7,false,[.d (.int .i64)])],[],([2,3,8]++List.range' 52 31),[]⟩)]
noncomputable def F_wlvref15_Name_env:Env:=⟨Tryz.prog,[(55,⟨F_wlvref_Split_sig,⟨F_wlvref_Split⟩⟩),(141,⟨F_wlvref_Lower_sig,⟨F_wlvref_Lower⟩⟩)],[]⟩
theorem F_wlvref15_Name_text:pvFn F_wlvref15_Name_env F_wlvref15_Name_ann Tryz.f103 F_wlvref15_Name_sig=F_wlvref15_Name:=by kernel_rfl
end Go.Proofs.YtgfmfgombmpodaaGreatDoor
namespace Go.Proofs.YtgfmfgombmpodaaGreatDoor
open Pv
theorem F_wlvlaw18_first_sound {T:Tab} (h_maxlen:has_maxlen T) (h_pow10:tab_pow10∈T) (h_errs:has_errs T):SoundFn Tryz.prog T 25 F_wlvlaw18_first_sig ⟨F_wlvlaw18_first⟩:=by
 have h:=fn_sound (T:=T) (E:=F_wlvlaw18_first_env) (by unfold Env.ok;exact List.forall_mem_cons.2 ⟨F_conf_Parse_sound h_maxlen h_pow10 h_errs,fun p h=>by cases h⟩) (A:=F_wlvlaw18_first_ann) (f:=25) (fn:=Tryz.f25) (s:=F_wlvlaw18_first_sig) Tryz.func25
 rw [F_wlvlaw18_first_text] at h
 exact h
theorem F_wlvref_Split_sound {T:Tab}:SoundFn Tryz.prog T 55 F_wlvref_Split_sig ⟨F_wlvref_Split⟩:=by
 have h:=fn_sound (T:=T) (E:=F_wlvref_Split_env) (by unfold Env.ok;exact fun p h=>by cases h) (A:=F_wlvref_Split_ann) (f:=55) (fn:=Tryz.f55) (s:=F_wlvref_Split_sig) Tryz.func55
 rw [F_wlvref_Split_text] at h
 exact h
theorem F_wlvref18_limits_sound {T:Tab}:SoundFn Tryz.prog T 73 F_wlvref18_limits_sig ⟨F_wlvref18_limits⟩:=by
 have h:=fn_sound (T:=T) (E:=F_wlvref18_limits_env) (by unfold Env.ok;exact fun p h=>by cases h) (A:=F_wlvref18_limits_ann) (f:=73) (fn:=Tryz.f73) (s:=F_wlvref18_limits_sig) Tryz.func73
 rw [F_wlvref18_limits_text] at h
 exact h
theorem F_wlvref_Num_sound {T:Tab}:SoundFn Tryz.prog T 98 F_wlvref_Num_sig ⟨F_wlvref_Num⟩:=by
 have h:=fn_sound (T:=T) (E:=F_wlvref_Num_env) (by unfold Env.ok;exact fun p h=>by cases h) (A:=F_wlvref_Num_ann) (f:=98) (fn:=Tryz.f98) (s:=F_wlvref_Num_sig) Tryz.func98
 rw [F_wlvref_Num_text] at h
 exact h
theorem F_wlvref18_name_sound {T:Tab}:SoundFn Tryz.prog T 99 F_wlvref18_name_sig ⟨F_wlvref18_name⟩:=by
 have h:=fn_sound (T:=T) (E:=F_wlvref18_name_env) (by unfold Env.ok;exact fun p h=>by cases h) (A:=F_wlvref18_name_ann) (f:=99) (fn:=Tryz.f99) (s:=F_wlvref18_name_sig) Tryz.func99
 rw [F_wlvref18_name_text] at h
 exact h
theorem F_wlvref18_digit_sound {T:Tab}:SoundFn Tryz.prog T 138 F_wlvref18_digit_sig ⟨F_wlvref18_digit⟩:=by
 have h:=fn_sound (T:=T) (E:=F_wlvref18_digit_env) (by unfold Env.ok;exact fun p h=>by cases h) (A:=F_wlvref18_digit_ann) (f:=138) (fn:=Tryz.f138) (s:=F_wlvref18_digit_sig) Tryz.func138
 rw [F_wlvref18_digit_text] at h
 exact h
theorem F_wlvref18_unhex_sound {T:Tab}:SoundFn Tryz.prog T 100 F_wlvref18_unhex_sig ⟨F_wlvref18_unhex⟩:=by
 have h:=fn_sound (T:=T) (E:=F_wlvref18_unhex_env) (by unfold Env.ok;exact List.forall_mem_cons.2 ⟨F_wlvref18_digit_sound,fun p h=>by cases h⟩) (A:=F_wlvref18_unhex_ann) (f:=100) (fn:=Tryz.f100) (s:=F_wlvref18_unhex_sig) Tryz.func100
 rw [F_wlvref18_unhex_text] at h
 exact h
theorem F_wlvref18_ports_sound {T:Tab}:SoundFn Tryz.prog T 101 F_wlvref18_ports_sig ⟨F_wlvref18_ports⟩:=by
 have h:=fn_sound (T:=T) (E:=F_wlvref18_ports_env) (by unfold Env.ok;exact List.forall_mem_cons.2 ⟨F_wlvref_Split_sound,List.forall_mem_cons.2 ⟨F_wlvref_Num_sound,fun p h=>by cases h⟩⟩) (A:=F_wlvref18_ports_ann) (f:=101) (fn:=Tryz.f101) (s:=F_wlvref18_ports_sig) Tryz.func101
 rw [F_wlvref18_ports_text] at h
 exact h
theorem F_wlvref15_four_sound {T:Tab}:SoundFn Tryz.prog T 176 F_wlvref15_four_sig ⟨F_wlvref15_four⟩:=by
 have h:=fn_sound (T:=T) (E:=F_wlvref15_four_env) (by unfold Env.ok;exact List.forall_mem_cons.2 ⟨F_wlvref_Split_sound,List.forall_mem_cons.2 ⟨F_wlvref_Num_sound,fun p h=>by cases h⟩⟩) (A:=F_wlvref15_four_ann) (f:=176) (fn:=Tryz.f176) (s:=F_wlvref15_four_sig) Tryz.func176
 rw [F_wlvref15_four_text] at h
 exact h
theorem F_wlvref15_group_sound {T:Tab}:SoundFn Tryz.prog T 234 F_wlvref15_group_sig ⟨F_wlvref15_group⟩:=by
 have h:=fn_sound (T:=T) (E:=F_wlvref15_group_env) (by unfold Env.ok;exact fun p h=>by cases h) (A:=F_wlvref15_group_ann) (f:=234) (fn:=Tryz.f234) (s:=F_wlvref15_group_sig) Tryz.func234
 rw [F_wlvref15_group_text] at h
 exact h
theorem F_wlvref15_groups_sound {T:Tab}:SoundFn Tryz.prog T 206 F_wlvref15_groups_sig ⟨F_wlvref15_groups⟩:=by
 have h:=fn_sound (T:=T) (E:=F_wlvref15_groups_env) (by unfold Env.ok;exact List.forall_mem_cons.2 ⟨F_wlvref_Split_sound,List.forall_mem_cons.2 ⟨F_wlvref15_group_sound,fun p h=>by cases h⟩⟩) (A:=F_wlvref15_groups_ann) (f:=206) (fn:=Tryz.f206) (s:=F_wlvref15_groups_sig) Tryz.func206
 rw [F_wlvref15_groups_text] at h
 exact h
theorem F_wlvref15_eight_sound {T:Tab}:SoundFn Tryz.prog T 177 F_wlvref15_eight_sig ⟨F_wlvref15_eight⟩:=by
 have h:=fn_sound (T:=T) (E:=F_wlvref15_eight_env) (by unfold Env.ok;exact List.forall_mem_cons.2 ⟨F_wlvref15_groups_sound,fun p h=>by cases h⟩) (A:=F_wlvref15_eight_ann) (f:=177) (fn:=Tryz.f177) (s:=F_wlvref15_eight_sig) Tryz.func177
 rw [F_wlvref15_eight_text] at h
 exact h
theorem F_wlvref15_Mapped_sound {T:Tab}:SoundFn Tryz.prog T 178 F_wlvref15_Mapped_sig ⟨F_wlvref15_Mapped⟩:=by
 have h:=fn_sound (T:=T) (E:=F_wlvref15_Mapped_env) (by unfold Env.ok;exact fun p h=>by cases h) (A:=F_wlvref15_Mapped_ann) (f:=178) (fn:=Tryz.f178) (s:=F_wlvref15_Mapped_sig) Tryz.func178
 rw [F_wlvref15_Mapped_text] at h
 exact h
theorem F_wlvref15_Parse_sound {T:Tab}:SoundFn Tryz.prog T 139 F_wlvref15_Parse_sig ⟨F_wlvref15_Parse⟩:=by
 have h:=fn_sound (T:=T) (E:=F_wlvref15_Parse_env) (by unfold Env.ok;exact List.forall_mem_cons.2 ⟨F_wlvref15_four_sound,List.forall_mem_cons.2 ⟨F_wlvref15_eight_sound,List.forall_mem_cons.2 ⟨F_wlvref15_Mapped_sound,fun p h=>by cases h⟩⟩⟩) (A:=F_wlvref15_Parse_ann) (f:=139) (fn:=Tryz.f139) (s:=F_wlvref15_Parse_sig) Tryz.func139
 rw [F_wlvref15_Parse_text] at h
 exact h
theorem F_wlvref15_bit_sound {T:Tab}:SoundFn Tryz.prog T 140 F_wlvref15_bit_sig ⟨F_wlvref15_bit⟩:=by
 have h:=fn_sound (T:=T) (E:=F_wlvref15_bit_env) (by unfold Env.ok;exact fun p h=>by cases h) (A:=F_wlvref15_bit_ann) (f:=140) (fn:=Tryz.f140) (s:=F_wlvref15_bit_sig) Tryz.func140
 rw [F_wlvref15_bit_text] at h
 exact h
theorem F_wlvref15_ParseNet_sound {T:Tab}:SoundFn Tryz.prog T 102 F_wlvref15_ParseNet_sig ⟨F_wlvref15_ParseNet⟩:=by
 have h:=fn_sound (T:=T) (E:=F_wlvref15_ParseNet_env) (by unfold Env.ok;exact List.forall_mem_cons.2 ⟨F_wlvref_Split_sound,List.forall_mem_cons.2 ⟨F_wlvref_Num_sound,List.forall_mem_cons.2 ⟨F_wlvref15_Parse_sound,List.forall_mem_cons.2 ⟨F_wlvref15_bit_sound,fun p h=>by cases h⟩⟩⟩⟩) (A:=F_wlvref15_ParseNet_ann) (f:=102) (fn:=Tryz.f102) (s:=F_wlvref15_ParseNet_sig) Tryz.func102
 rw [F_wlvref15_ParseNet_text] at h
 exact h
theorem F_wlvref_Lower_sound {T:Tab}:SoundFn Tryz.prog T 141 F_wlvref_Lower_sig ⟨F_wlvref_Lower⟩:=by
 have h:=fn_sound (T:=T) (E:=F_wlvref_Lower_env) (by unfold Env.ok;exact fun p h=>by cases h) (A:=F_wlvref_Lower_ann) (f:=141) (fn:=Tryz.f141) (s:=F_wlvref_Lower_sig) Tryz.func141
 rw [F_wlvref_Lower_text] at h
 exact h
theorem F_wlvref15_Name_sound {T:Tab}:SoundFn Tryz.prog T 103 F_wlvref15_Name_sig ⟨F_wlvref15_Name⟩:=by
 have h:=fn_sound (T:=T) (E:=F_wlvref15_Name_env) (by unfold Env.ok;exact List.forall_mem_cons.2 ⟨F_wlvref_Split_sound,List.forall_mem_cons.2 ⟨F_wlvref_Lower_sound,fun p h=>by cases h⟩⟩) (A:=F_wlvref15_Name_ann) (f:=103) (fn:=Tryz.f103) (s:=F_wlvref15_Name_sig) Tryz.func103
 rw [F_wlvref15_Name_text] at h
 exact h
end Go.Proofs.YtgfmfgombmpodaaGreatDoor
namespace Go.Proofs.YtgfmfgombmpodaaGreatDoor
open Go.RowKit Pv
set_option linter.unusedVariables false
structure RfSt where
 set:List Bool
 n:List Int
 us:List UserD
def rfCells (v:Value) (x:RfSt):List Value:=[.int .i64 0,.int .i64 0,.int .i64 0,.int .i64 0,.int .i64 0,.int .i64 0,.int .i64 0,v]++(x.set.map Value.bool++x.n.map (Value.int .i64))
structure RfAt (lo:Nat) (w:World) (R:Nat) (v:Value) (role:Nat->Role) (x:RfSt):Prop where
 hR:w.heap[R]? = some (.cells (rfCells v x).toArray 116 (0,0))
 rR:role R=.rdr
 hs:x.set.length=7
 hn:x.n.length=7
 hU:UsAt lo w role x.us v
 lt:∀ b,role b≠.no->lo<=b /\ b < w.heap.size
 wf:∀ c∈x.n,(Lit.int .i64 c).wf=true
theorem rf_cells {w:World} {R:Nat} {v:Value} {x:RfSt} {T:TypeId} (h:w.heap[R]? = some (.cells (rfCells v x).toArray T (0,0))) :
  w.cell? ⟨R,7,none⟩=some v /\ (∀ k b,x.set[k]? = some b->w.cell? ⟨R,8+k,none⟩=some (.bool b)) /\ (∀ k n,x.set.length=7->x.n[k]? = some n->w.cell? ⟨R,15+k,none⟩=some (.int .i64 n)) /\ ∀ o,w.frozen? ⟨R,o,none⟩=false:=by
 refine ⟨?_,fun k b hk=>?_,fun k n h7 hk=>?_,fun o=>?_⟩
 ·rw [cell_at h];rfl
 ·rw [cell_at h]
  have hl:k < x.set.length:=(List.getElem?_eq_some_iff.1 hk).1
  simp only [List.getElem?_toArray,rfCells]
  rw [List.getElem?_append_right (by simp),List.getElem?_append_left (by simp;omega),List.getElem?_map]
  simp only [List.length_cons,List.length_nil]
  rw [show 8+k - (0+1+1+1+1+1+1+1+1)=k by omega,hk];rfl
 ·rw [cell_at h]
  have hl:k < x.n.length:=(List.getElem?_eq_some_iff.1 hk).1
  simp only [List.getElem?_toArray,rfCells]
  rw [List.getElem?_append_right (by simp;omega),List.getElem?_append_right (by simp;omega),List.getElem?_map]
  simp only [List.length_cons,List.length_nil,List.length_map]
  rw [show 15+k - (0+1+1+1+1+1+1+1+1) - x.set.length=k by omega,hk];rfl
 ·simp [World.frozen?,h]
theorem rf_set7 (v v':Value) (x:RfSt):(rfCells v x).toArray.setIfInBounds 7 v'=(rfCells v' x).toArray:=by
 rw [List.setIfInBounds_toArray];rfl
theorem rf_sets (v:Value) (x:RfSt) {k:Nat} (hs:x.set.length=7) (hk:k < 7) (b:Bool):(rfCells v x).toArray.setIfInBounds (8+k) (.bool b)=(rfCells v { x with set:=x.set.set k b }).toArray:=by
 rw [List.setIfInBounds_toArray]
 unfold rfCells
 rw [List.set_append_right _ _ (by simp),List.set_append_left _ _ (by simp;omega),List.map_set]
 simp only [List.length_cons,List.length_nil]
 rw [show 8+k - (0+1+1+1+1+1+1+1+1)=k by omega]
theorem rf_setn (v:Value) (x:RfSt) {k:Nat} (hs:x.set.length=7) (n:Int):(rfCells v x).toArray.setIfInBounds (15+k) (.int .i64 n)=(rfCells v { x with n:=x.n.set k n }).toArray:=by
 rw [List.setIfInBounds_toArray]
 unfold rfCells
 rw [List.set_append_right _ _ (by simp;omega),List.set_append_right _ _ (by simp;omega),List.map_set]
 simp only [List.length_cons,List.length_nil,List.length_map]
 rw [show 15+k - (0+1+1+1+1+1+1+1+1) - x.set.length=k by omega]
theorem RfAt.keep {lo:Nat} {w w':World} {R:Nat} {v:Value} {role:Nat->Role} {x:RfSt} (h:RfAt lo w R v role x) (hk:∀ b,role b≠.no->w'.heap[b]? = w.heap[b]?) (hs:w.heap.size<=w'.heap.size):RfAt lo w' R v role x:=by
 obtain ⟨xs,u1,u2,u3⟩:=h.hU
 refine ⟨(hk R (by rw [h.rR];intro e;cases e)).trans h.hR,h.rR,h.hs,h.hn,⟨xs,owns_keep u1 fun b hb=>hk b (by rw [u2 b hb];intro e;cases e),u2,fun i u hu=>(u3 i u hu).keep fun b hb=>⟨rfl,hk b ?_⟩⟩,fun b hb=>?_,h.wf⟩
 ·rcases hb with hb | hb <;> (rw [hb];intro e;cases e)
 ·obtain ⟨h1,h2⟩:=h.lt b hb
  exact ⟨h1,by omega⟩
theorem RfAt.below {lo:Nat} {w w':World} {R:Nat} {v:Value} {role:Nat->Role} {x:RfSt} (h:RfAt lo w R v role x) (hb:Below w.heap.size w w'):RfAt lo w' R v role x:=
 h.keep (fun b hr=>hb.block b (h.lt b hr).2) hb.size
theorem RfAt.roles {lo:Nat} {w:World} {R:Nat} {v:Value} {role role':Nat->Role} {x:RfSt} (h:RfAt lo w R v role x) (hk:∀ b,role b≠.no->role' b=role b) (hl:∀ b,role' b≠.no->lo<=b /\ b < w.heap.size):RfAt lo w R v role' x:=by
 obtain ⟨xs,u1,u2,u3⟩:=h.hU
 refine ⟨h.hR,(hk R (by rw [h.rR];intro e;cases e)).trans h.rR,h.hs,h.hn,⟨xs,u1,fun b hb=>(hk b (by rw [u2 b hb];intro e;cases e)).trans (u2 b hb),fun i u hu=>(u3 i u hu).keep fun b hb=>⟨hk b ?_,rfl⟩⟩,hl,h.wf⟩
 rcases hb with hb | hb <;> (rw [hb];intro e;cases e)
theorem rf_push {lo:Nat} {w w1:World} {R:Nat} {v v':Value} {role:Nat->Role} {x:RfSt} (h:RfAt lo w R v role x) {nu:UserD} {news xs:List Value} (hn6:news.length=6) (hnew:UserAt lo w role x.us.length nu news) (hg:w.grownBy w1 v.ownBlock)
    (u1:w.ownsRow lo 63 6 v x.us.length xs) (u2:∀ b,v.ownBlock=some b->role b=.usr) (u3:∀ i u,x.us[i]? = some u->UserAt lo w role i u ((xs.drop (i*6)).take 6))
    (h':w1.ownsRow lo 63 6 v' (x.us.length+1) (xs++news)) (hat:v'.ownBlock=v.ownBlock \/ v'.ownBlock=some w.heap.size) (hlo:lo<=w.heap.size) :
    ∃ role',RfAt lo (w1.setCell ⟨R,7,none⟩ v') R v' role' { x with us:=x.us++[nu] }:=by
  have hRlt:=h.lt R (by rw [h.rR];intro e;cases e)
  have hvR:v'.ownBlock≠some R:=fun e=>by
    rcases hat with h1 | h1
    · have:=u2 R (h1.symm.trans e)
      rw [h.rR] at this
      cases this
    · rw [h1] at e
      injection e with e
      omega
  have hvR0:v.ownBlock≠some R:=fun e=>by
    have:=u2 R e
    rw [h.rR] at this
    cases this
  have stay:∀ b,b < w.heap.size->v.ownBlock≠some b->b≠R->(w1.setCell ⟨R,7,none⟩ v').heap[b]? = w.heap[b]?:=fun b hb hv hR=>by
    rw [setCell_heap,if_neg (by show b≠R;exact hR)]
    exact hg.block b hb fun e=>hv e.symm
  have hroles:∀ b,role b≠.no->role b≠.usr->roleOf role v' .usr b=role b:=fun b hb hne=>by
    refine roleOf_other fun e=>?_
    rcases hat with h1 | h1
    · exact hne (u2 b (h1.symm.trans e))
    · have:=h.lt b hb
      rw [h1] at e
      injection e with e
      omega
  have hkeep:∀ b,role b≠.no->role b≠.usr->role b≠.rdr->(w1.setCell ⟨R,7,none⟩ v').heap[b]? = w.heap[b]?:=fun b h1 h2 h3=>stay b (h.lt b h1).2 (fun e=>h2 (u2 b e)) (fun e=>h3 (by rw [e];exact h.rR))
  refine ⟨roleOf role v' .usr,?_,(hroles R (by rw [h.rR];intro e;cases e) (by rw [h.rR];intro e;cases e)).trans h.rR,h.hs,h.hn,⟨xs++news,?_,fun b hb=>roleOf_self hb,fun i u hu=>?_⟩,fun b hb=>?_,h.wf⟩
  · have:=hg.block R hRlt.2 fun e=>hvR0 e.symm
    rw [set_heap (this.trans h.hR),rf_set7]
    rfl
  · show (w1.setCell ⟨R,7,none⟩ v').ownsRow lo 63 6 v' (x.us++[nu]).length (xs++news)
    rw [List.length_append]
    exact owns_keep h' fun b hb=>by
      rw [setCell_heap,if_neg (by show b≠R;intro e;rw [e] at hb;exact hvR hb)]
  · have hu:(x.us++[nu])[i]? = some u:=hu
    have hk:∀ i' u' cs,UserAt lo w role i' u' cs->UserAt lo (w1.setCell ⟨R,7,none⟩ v') (roleOf role v' .usr) i' u' cs:=fun i' u' cs hua=>hua.keep fun b hb=>⟨hroles b ?_ ?_,hkeep b ?_ ?_ ?_⟩
    · rcases Nat.lt_or_ge i x.us.length with hi | hi
      · rw [List.getElem?_append_left hi] at hu
        rw [take6_app u1.1 hi]
        exact hk i u _ (u3 i u hu)
      · have hi2 : i = x.us.length := by
          have:=(List.getElem?_eq_some_iff.1 hu).1
          rw [List.length_append] at this
          have:i < x.us.length+1:=this
          omega
        subst hi2
        rw [List.getElem?_append_right (Nat.le_refl _),Nat.sub_self] at hu
        injection hu with hu
        rw [<-hu,show x.us.length*6=xs.length from u1.1.symm,List.drop_left,List.take_of_length_le (by omega)]
        exact hk _ _ _ hnew
    all_goals (rcases hb with hb | hb <;> (rw [hb];intro e;cases e))
  · have h1s : w.heap.size <= (w1.setCell ⟨R, 7, none⟩ v').heap.size := by
      have:=hg.size
      simpa [World.setCell] using this
    by_cases he:v'.ownBlock=some b
    · have:=h'.lt b he
      refine ⟨this.1,?_⟩
      have h3:=this.2
      simpa [World.setCell] using h3
    · rw [roleOf_other he] at hb
      have:=h.lt b hb
      exact ⟨this.1,by omega⟩
theorem rf_put {lo:Nat} {w w1:World} {R U n cap i:Nat} {role:Nat->Role} {x:RfSt} (h:RfAt lo w R (.slice (some ⟨U,0,none⟩) n cap) role x) {u:UserD} {r:RuleD} {news rs xs:List Value} {nm:ByteArray} {vs vd vr vr':Value} (hu:x.us[i]? = some u) (hn7:news.length=7) (hnew:RepD w noC ruleT r news)
    (u1:w.ownsRow lo 63 6 (.slice (some ⟨U,0,none⟩) n cap) x.us.length xs) (u2:role U=.usr) (u3:∀ i u,x.us[i]? = some u->UserAt lo w role i u ((xs.drop (i*6)).take 6))
    (hcs:(xs.drop (i*6)).take 6=[.string nm,vs,vd,.int .i64 u.2.2.1,.complex .f64 u.2.2.2.1.1 u.2.2.2.1.2,vr]) (hnm:bytesL nm=u.1) (hnmz:nm.size<=maxLen) (hwf:(Lit.int .i64 u.2.2.1).wf=true)
    (hvs:RowAt lo w role .flat 5 (.int .u8) u.2.1.1 vs) (hvd:RowAt lo w role .flat 5 (.int .u8) u.2.1.2 vd) (r1:w.ownsRow lo 68 7 vr u.2.2.2.2.length rs) (r2:∀ b,vr.ownBlock=some b->role b=.row i) (r3:∀ (j:Nat) (y:ruleT.D),(show List ruleT.D from u.2.2.2.2)[j]? = some y->RepD w noC ruleT y ((rs.drop (j*7)).take 7))
    (hg:w.grownBy w1 vr.ownBlock) (h':w1.ownsRow lo 68 7 vr' (u.2.2.2.2.length+1) (rs++news)) (hat:vr'.ownBlock=vr.ownBlock \/ vr'.ownBlock=some w.heap.size) :
    ∃ role',RfAt lo (w1.setCell ⟨U,i*6+5,none⟩ vr') R (.slice (some ⟨U,0,none⟩) n cap) role' { x with us:=x.us.set i (u.1,u.2.1,u.2.2.1,u.2.2.2.1,u.2.2.2.2++[r]) }:=by
  have hRlt:=h.lt R (by rw [h.rR];intro e;cases e)
  have hUlt:=h.lt U (by rw [u2];intro e;cases e)
  have hil:i < x.us.length:=(List.getElem?_eq_some_iff.1 hu).1
  have hvU:vr.ownBlock≠some U:=fun e=>by
    have:=r2 U e
    rw [u2] at this
    cases this
  have hRU:R≠U:=fun e=>by
    have:=h.rR
    rw [e,u2] at this
    cases this
  have stay:∀ b,b < w.heap.size->vr.ownBlock≠some b->b≠U->(w1.setCell ⟨U,i*6+5,none⟩ vr').heap[b]? = w.heap[b]?:=fun b hb hv hR=>by
    rw [setCell_heap,if_neg (by show b≠U;exact hR)]
    exact hg.block b hb fun e=>hv e.symm
  have hroles:∀ b,role b≠.no->role b≠.row i->roleOf role vr' (.row i) b=role b:=fun b hb hne=>by
    refine roleOf_other fun e=>?_
    rcases hat with h1 | h1
    · exact hne (r2 b (h1.symm.trans e))
    · have:=h.lt b hb
      rw [h1] at e
      injection e with e
      omega
  have hrow:∀ b,role b=.row i->roleOf role vr' (.row i) b=.row i:=fun b hb=>by
    by_cases e:vr'.ownBlock=some b
    · exact roleOf_self e
    · rw [roleOf_other e];exact hb
  have hkeep:∀ b,role b≠.no->role b≠.usr->role b≠.row i->(w1.setCell ⟨U,i*6+5,none⟩ vr').heap[b]? = w.heap[b]?:=fun b h1 h2 h3=>stay b (h.lt b h1).2 (fun e=>h3 (r2 b e)) (fun e=>h2 (by rw [e];exact u2))
  have hUw:w1.ownsRow lo 63 6 (.slice (some ⟨U,0,none⟩) n cap) x.us.length xs:=owns_keep u1 fun b hb=>by
    have e:U=b:=by injection hb
    subst e
    exact hg.block U hUlt.2 fun e=>hvU e.symm
  have hn:n=x.us.length:=by
    rcases u1.2 with ⟨e,_⟩ | ⟨g,cap',cur,e,_⟩
    · cases e
    · injection e
  subst hn
  have hst:=(hUw.stored (i*6+5) vr').1
  refine ⟨roleOf role vr' (.row i),?_,(hroles R (by rw [h.rR];intro e;cases e) (by rw [h.rR];intro e;cases e)).trans h.rR,h.hs,h.hn,⟨xs.set (i*6+5) vr',?_,fun b hb=>?_,fun j y hy=>?_⟩,fun b hb=>?_,h.wf⟩
  · exact (stay R hRlt.2 (fun e=>by have:=r2 R e;rw [h.rR] at this;cases this) hRU).trans h.hR
  · show (w1.setCell ⟨U,i*6+5,none⟩ vr').ownsRow lo 63 6 _ (x.us.set i _).length _
    rw [List.length_set]
    exact hst
  · have e:U=b:=by injection hb
    subst e
    exact (hroles U (by rw [u2];intro e;cases e) (by rw [u2];intro e;cases e)).trans u2
  · have hy:(x.us.set i (u.1,u.2.1,u.2.2.1,u.2.2.2.1,u.2.2.2.2++[r]))[j]? = some y:=hy
    rw [List.getElem?_set] at hy
    have hxl:=u1.1
    by_cases hji:i=j
    · subst hji
      rw [if_pos rfl,if_pos hil] at hy
      injection hy with hy
      subst hy
      have hcut:((xs.set (i*6+5) vr').drop (i*6)).take 6=[.string nm,vs,vd,.int .i64 u.2.2.1,.complex .f64 u.2.2.2.1.1 u.2.2.2.1.2,vr']:=by
        rw [List.drop_set,if_neg (by omega),List.take_set,hcs,show i*6+5 - i*6=5 by omega]
        rfl
      refine ⟨nm,vs,vd,vr',hcut,hnm,hnmz,hwf,hvs.keep rfl (by intro e;cases e) fun b hb=>⟨(hroles b ?_ ?_).trans hb,hkeep b ?_ ?_ ?_⟩,hvd.keep rfl (by intro e;cases e) fun b hb=>⟨(hroles b ?_ ?_).trans hb,hkeep b ?_ ?_ ?_⟩,rs++news,?_,fun b hb=>roleOf_self hb,fun k z hz=>?_⟩
      all_goals first | (rw [hb];intro e;cases e) | skip
      · show (w1.setCell ⟨U,i*6+5,none⟩ vr').ownsRow lo 68 7 vr' (u.2.2.2.2++[r]).length (rs++news)
        rw [List.length_append]
        exact owns_keep h' fun b hb=>by
          rw [setCell_heap,if_neg (by
            show b≠U
            intro e
            rw [e] at hb
            rcases hat with h1 | h1
            · exact hvU (h1.symm.trans hb)
            · rw [h1] at hb
              injection hb with hb
              omega)]
      · have hz:(show List ruleT.D from u.2.2.2.2++[r])[k]? = some z:=hz
        have hrl:rs.length=(show List ruleT.D from u.2.2.2.2).length*7:=r1.1
        show RepD _ noC ruleT z (((rs++news).drop (k*7)).take 7)
        rcases Nat.lt_or_ge k (show List ruleT.D from u.2.2.2.2).length with hk | hk
        · have hz : (show List ruleT.D from u.2.2.2.2)[k]? = some z := by
            rw [<-hz]
            exact (List.getElem?_append_left hk).symm
          rw [List.drop_append_of_le_length (by omega),List.take_append_of_le_length (by rw [List.length_drop];omega)]
          exact repD_flat rfl (r3 k z hz)
        · have hk2 : k = (show List ruleT.D from u.2.2.2.2).length := by
            have h1:=(List.getElem?_eq_some_iff.1 hz).1
            have h2:k < (show List ruleT.D from u.2.2.2.2).length+1:=by
              have e:(show List ruleT.D from u.2.2.2.2++[r]).length=(show List ruleT.D from u.2.2.2.2).length+1:=List.length_append
              rw [<-e];exact h1
            omega
          subst hk2
          have hzr:r=z:=by
            have e:(show List ruleT.D from u.2.2.2.2++[r])[(show List ruleT.D from u.2.2.2.2).length]? = some r:=by
              show (u.2.2.2.2++[r])[u.2.2.2.2.length]? = some r
              rw [List.getElem?_append_right (Nat.le_refl _),Nat.sub_self];rfl
            rw [e] at hz
            injection hz
          rw [<-hrl,List.drop_left,List.take_of_length_le (by omega),<- hzr]
          exact repD_flat rfl hnew
    · rw [if_neg hji] at hy
      have hjl:j < x.us.length:=(List.getElem?_eq_some_iff.1 hy).1
      have hcut:((xs.set (i*6+5) vr').drop (j*6)).take 6=(xs.drop (j*6)).take 6:=by
        rw [List.drop_set]
        split
        · rfl
        · rw [List.take_set_of_le (by omega)]
      rw [hcut]
      refine (u3 j y hy).keep fun b hb=>⟨hroles b ?_ ?_,hkeep b ?_ ?_ ?_⟩
      all_goals (rcases hb with hb | hb <;> (rw [hb];intro e;first | (cases e;done) | (injection e with e;exact hji e.symm)))
  · have h1s : w.heap.size <= (w1.setCell ⟨U, i * 6 + 5, none⟩ vr').heap.size := by
      have:=hg.size
      simpa [World.setCell] using this
    by_cases he:vr'.ownBlock=some b
    · have:=h'.lt b he
      refine ⟨this.1,?_⟩
      have h3:=this.2
      simpa [World.setCell] using h3
    · rw [roleOf_other he] at hb
      have:=h.lt b hb
      exact ⟨this.1,by omega⟩
theorem rf_new {lo:Nat} {w w2 w3 w4 w7:World} {R:Nat} {v:Value} {role:Nat->Role} {x:RfSt} (h:RfAt lo w7 R v role x) (hrl:∀ b,role b≠.no->b < w.heap.size) (hlo:lo<=w.heap.size) (h2:w.heap.size<=w2.heap.size) {vs vd:Value} {sa di:List Int}
  (hs:∃ xs,w3.ownsRow w2.heap.size 5 1 vs sa.length xs /\ ∀ (i:Nat) (x:Int),sa[i]? = some x->RepD w3 noC (.int .u8) x ((xs.drop (i*1)).take 1)) (b37:Below w3.heap.size w3 w7) (h3:w.heap.size<=w3.heap.size)
  (hd:∃ xs,w4.ownsRow w3.heap.size 5 1 vd di.length xs /\ ∀ (i:Nat) (x:Int),di[i]? = some x->RepD w4 noC (.int .u8) x ((xs.drop (i*1)).take 1)) (b47:Below w4.heap.size w4 w7) :
  ∃ role1,RfAt lo w7 R v role1 x /\ RowAt lo w7 role1 .flat 5 (.int .u8) sa vs /\ RowAt lo w7 role1 .flat 5 (.int .u8) di vd:=by
 obtain ⟨xs,s1,s2⟩:=hs
 obtain ⟨ys,d1,d2⟩:=hd
 have hsl:∀ b,vs.ownBlock=some b->w.heap.size<=b /\ b < w7.heap.size:=fun b hb=>by
  have:=s1.lt b hb
  have:=b37.size
  omega
 have hdl:∀ b,vd.ownBlock=some b->w.heap.size<=b /\ b < w7.heap.size:=fun b hb=>by
  have:=d1.lt b hb
  have:=b47.size
  omega
 have hold:∀ b,role b≠.no->roleOf (roleOf role vs .flat) vd .flat b=role b:=fun b hb=>by
  have hb':=hrl b hb
  rw [roleOf_other fun e=>by have:=hdl b e;omega,roleOf_other fun e=>by have:=hsl b e;omega]
 refine ⟨roleOf (roleOf role vs .flat) vd .flat,h.roles hold fun b hb=>?_,⟨xs,owns_keep (w:=w3) ⟨s1.1,s1.2.imp id fun ⟨g,cap,cur,q1,q2,q3⟩=>⟨g,cap,cur,q1,by omega,q3⟩⟩ fun b hb=>b37.block b (s1.lt b hb).2,fun b hb=>?_,fun i x hx=>repD_flat rfl (s2 i x hx)⟩,⟨ys,owns_keep (w:=w4) ⟨d1.1,d1.2.imp id fun ⟨g,cap,cur,q1,q2,q3⟩=>⟨g,cap,cur,q1,by omega,q3⟩⟩ fun b hb=>b47.block b (d1.lt b hb).2,fun b hb=>roleOf_self hb,fun i x hx=>repD_flat rfl (d2 i x hx)⟩⟩
 ·by_cases e1:vd.ownBlock=some b
  ·have:=hdl b e1
   omega
  ·rw [roleOf_other e1] at hb
   by_cases e2:vs.ownBlock=some b
   ·have:=hsl b e2
    omega
   ·rw [roleOf_other e2] at hb
    exact h.lt b hb
 ·by_cases e1:vd.ownBlock=some b
  ·exact roleOf_self e1
  ·rw [roleOf_other e1]
   exact roleOf_self hb
theorem rf_keepR {lo:Nat} {w w0 w1:World} {R:Nat} {v:Value} {role:Nat->Role} {x:RfSt} (h:RfAt lo w R v role x) (u2:∀ b,v.ownBlock=some b->role b=.usr) (hg:w0.grownBy w1 v.ownBlock) (h0:∀ b,b < w.heap.size->w0.heap[b]? = w.heap[b]?) (hs:w.heap.size<=w0.heap.size) :
  w1.cell? ⟨R,7,none⟩=some v /\ w1.frozen? ⟨R,7,none⟩=false:=by
 have hR:=h.lt R (by rw [h.rR];intro e;cases e)
 have h1:w1.heap[R]? = some _:=((hg.block R (by omega) fun e=>by
  have:=u2 R e.symm
  rw [h.rR] at this
  cases this).trans (h0 R hR.2)).trans h.hR
 exact ⟨(rf_cells h1).1,(rf_cells h1).2.2.2 7⟩
def RfPost (lo:Nat) (R:Nat) (x':RfSt) (e':Int) (e:Ending) (w w':World):Prop:=e=.returned (.int .i64 e') /\ Below lo w w' /\ (e'=0 -> ∃ v' role',RfAt lo w' R v' role' x')
theorem rf_user_end {lo:Nat} {w w7 W0 wz w':World} {R:Nat} {v v':Value} {role1:Nat->Role} {x:RfSt} {xs:List Value} {nm:ByteArray} {vs vd:Value} {sa di:List Int} {n:Int} {p q m:Nat} (hm:x.us.length=m) (hlo:lo<=w.heap.size) (hb7:Below w.heap.size w w7) (h:RfAt lo w7 R v role1 x)
  (u1:w7.ownsRow lo 63 6 v m xs) (u2:∀ b,v.ownBlock=some b->role1 b=.usr) (u3:∀ i u,x.us[i]? = some u->UserAt lo w7 role1 i u ((xs.drop (i*6)).take 6)) (hrs:RowAt lo w7 role1 .flat 5 (.int .u8) sa vs) (hrd:RowAt lo w7 role1 .flat 5 (.int .u8) di vd)
  (hz:nm.size<=maxLen) (hn:(Lit.int .i64 n).wf=true) (hg:W0.grownBy wz v.ownBlock) (hown:wz.ownsRow lo 63 6 v' (m+1) (xs++[.string nm,vs,vd,.int .i64 n,.complex .f64 p q,.slice none 0 0])) (hat:v'.ownBlock=v.ownBlock \/ v'.ownBlock=some W0.heap.size)
  (hW:∀ b,b < w7.heap.size->W0.heap[b]? = w7.heap[b]?) (hWs:w7.heap.size<=W0.heap.size) (hWq:W0.os=w7.os /\ W0.tape=w7.tape /\ W0.output=w7.output) (he:w'.heap=(wz.setCell ⟨R,7,none⟩ v').heap) (hq:w'.os=wz.os /\ w'.tape=wz.tape /\ w'.output=wz.output) :
  RfPost lo R { x with us:=x.us++[(bytesL nm,(sa,di),n,(p,q),[])] } 0 (.returned (.int .i64 0)) w w':=by
 subst hm
 have hk:∀ b,role1 b≠.no->W0.heap[b]? = w7.heap[b]?:=fun b hb=>hW b (h.lt b hb).2
 have hk0:∀ b,role1 b=.flat->role1 b=.flat /\ W0.heap[b]? = w7.heap[b]?:=fun b hb=>⟨hb,hk b (by rw [hb];intro e;cases e)⟩
 have hRlt:=h.lt R (by rw [h.rR];intro e;cases e)
 obtain ⟨role',hr⟩:=rf_push (h.keep hk hWs) (nu:=(bytesL nm,(sa,di),n,(p,q),[])) (news:=[.string nm,vs,vd,.int .i64 n,.complex .f64 p q,.slice none 0 0]) rfl (userAt_new hz hn (hrs.keep rfl (by intro e;cases e) hk0) (hrd.keep rfl (by intro e;cases e) hk0)) hg (owns_keep u1 fun b hb=>hk b (by rw [u2 b hb];intro e;cases e)) u2
  (fun i u hu=>(u3 i u hu).keep fun b hb=>⟨rfl,hk b (by rcases hb with hb | hb <;> (rw [hb];intro e;cases e))⟩) hown hat (by have:=hb7.size;omega)
 refine ⟨rfl,⟨hq.1.trans (hg.os.trans (hWq.1.trans hb7.os)),hq.2.1.trans (hg.tape.trans (hWq.2.1.trans hb7.tape)),hq.2.2.trans (hg.output.trans (hWq.2.2.trans hb7.output)),?_,fun b hb=>?_⟩,fun _=>⟨v',role',hr.keep (fun b _=>by rw [he]) (by rw [he];exact Nat.le_refl _)⟩⟩
 ·rw [he]
  have h1:=hb7.size
  have h2:=hg.size
  have h3:(wz.setCell ⟨R,7,none⟩ v').heap.size=wz.heap.size:=by simp [World.setCell]
  omega
 ·have h1:=hb7.size
  rw [he,setCell_heap,if_neg (by show b≠R;omega),hg.block b (by omega) fun e=>?_,hW b (by omega),hb7.block b (by omega)]
  have:=(h.lt b (by rw [u2 b e.symm];intro e;cases e)).1
  omega
theorem tab0 (W:World):∀ p∈([]:Tab),∃ ty fr,W.heap[p.1]? = some (.cells p.2 ty fr):=fun p h=>by cases h
theorem rNum_calls {W:World} {s:ByteArray} (hs:s.size<=maxLen) {lo hi:Int} (wlo:(Lit.int .i64 lo).wf=true) (whi:(Lit.int .i64 hi).wf=true) {n:Int} {b:Bool} (h:F_wlvref_Num (bytesL s) lo hi=some (n,b)) :
  Calls Tryz.prog 98 #[.string s,.int .i64 lo,.int .i64 hi] W fun e W'=>e=.returned (.tuple #[.int .i64 n,.bool b]) /\ (Lit.int .i64 n).wf=true /\ Below W.heap.size W W':=by
 refine (fn_calls (tab0 W) (s:=F_wlvref_Num_sig) (al:=[⟨false,flat .str (bytesL s),.string s⟩,⟨false,flat (.int .i64) lo,.int .i64 lo⟩,⟨false,flat (.int .i64) hi,.int .i64 hi⟩]) (y:=((n,b):Int×Bool)) F_wlvref_Num_sound rfl Tryz.func98
  (List.forall_mem_cons.2 ⟨str_ok hs,List.forall_mem_cons.2 ⟨int_ok wlo,List.forall_mem_cons.2 ⟨int_ok whi,fun a h=>by cases h⟩⟩⟩) (appF_c (appF_c (appF_c (appF_n h))))).mono ?_
 rintro e W' ⟨us,g',st',rfl,h1,h2,h3,h4⟩
 have e2:(exitSt F_wlvref_Num_sig ((n,b):Int×Bool)).map (fun st=>(st.φ 0,st.φ 1))=some (.w false [.d (.int .i64) n],.w false [.d .bool b]):=rfl
 rw [h2] at e2
 injection e2 with e2
 have r0:=h4 0
 have r1:=h4 1
 rw [show st'.φ 0=_ from congrArg Prod.fst e2] at r0
 rw [show st'.φ 1=_ from congrArg Prod.snd e2] at r1
 obtain ⟨q0,q1⟩:=rInt r0
 rw [two_of h1,q0,rBool r1]
 exact ⟨rfl,q1,h3⟩
theorem one_of {us:List Value} (h:us.length=1):us=[us.getD 0 undef]:=by
 match us,h with
 | [a],_=>rfl
theorem rname_calls {W:World} {s:ByteArray} (hs:s.size<=maxLen) {b:Bool} (h:F_wlvref18_name (bytesL s)=some b) :
  Calls Tryz.prog 99 #[.string s] W fun e W'=>e=.returned (.bool b) /\ Below W.heap.size W W':=by
 refine (fn_calls (tab0 W) (s:=F_wlvref18_name_sig) (al:=[⟨false,flat .str (bytesL s),.string s⟩]) (y:=(b:Bool)) F_wlvref18_name_sound rfl Tryz.func99
  (List.forall_mem_cons.2 ⟨str_ok hs,fun a h=>by cases h⟩) (appF_c (appF_n h))).mono ?_
 rintro e W' ⟨us,g',st',rfl,h1,h2,h3,h4⟩
 have e2:(exitSt F_wlvref18_name_sig (b:Bool)).map (fun st=>st.φ 0)=some (.w false [.d .bool b]):=rfl
 rw [h2] at e2
 injection e2 with e2
 have r0:=h4 0
 rw [show st'.φ 0=_ from e2] at r0
 rw [one_of h1,rBool r0]
 exact ⟨rfl,h3⟩
theorem rports_calls {W:World} {s:ByteArray} (hs:s.size<=maxLen) {n m:Int} {b:Bool} (h:F_wlvref18_ports (bytesL s)=some (n,m,b)) :
  Calls Tryz.prog 101 #[.string s] W fun e W'=>e=.returned (.tuple #[.int .i64 n,.int .i64 m,.bool b]) /\ (Lit.int .i64 n).wf=true /\ (Lit.int .i64 m).wf=true /\ Below W.heap.size W W':=by
 refine (fn_calls (tab0 W) (s:=F_wlvref18_ports_sig) (al:=[⟨false,flat .str (bytesL s),.string s⟩]) (y:=((n,m,b):Int×Int×Bool)) F_wlvref18_ports_sound rfl Tryz.func101
  (List.forall_mem_cons.2 ⟨str_ok hs,fun a h=>by cases h⟩) (appF_c (appF_n h))).mono ?_
 rintro e W' ⟨us,g',st',rfl,h1,h2,h3,h4⟩
 have e2:(exitSt F_wlvref18_ports_sig ((n,m,b):Int×Int×Bool)).map (fun st=>(st.φ 0,st.φ 1,st.φ 2))=some (.w false [.d (.int .i64) n],.w false [.d (.int .i64) m],.w false [.d .bool b]):=rfl
 rw [h2] at e2
 injection e2 with e2
 have r0:=h4 0
 have r1:=h4 1
 have r2:=h4 2
 rw [show st'.φ 0=_ from congrArg Prod.fst e2] at r0
 rw [show st'.φ 1=_ from congrArg (fun p=>p.2.1) e2] at r1
 rw [show st'.φ 2=_ from congrArg (fun p=>p.2.2) e2] at r2
 obtain ⟨q0,q1⟩:=rInt r0
 obtain ⟨q2,q3⟩:=rInt r1
 rw [three_of h1,q0,q2,rBool r2]
 exact ⟨rfl,q1,q3,h3⟩
theorem rnet_calls {W:World} {s:ByteArray} (hs:s.size<=maxLen) {ip:List Int} {n e0:Int} (h:F_wlvref15_ParseNet (bytesL s)=some (ip,n,e0)) :
  Calls Tryz.prog 102 #[.string s] W fun e W'=>∃ t:ByteArray,e=.returned (.tuple #[.agg #[.string t,.int .i64 n],.int .i64 e0]) /\ bytesL t=ip /\ t.size<=maxLen /\ (Lit.int .i64 n).wf=true /\ Below W.heap.size W W':=by
 refine (fn_calls (tab0 W) (s:=F_wlvref15_ParseNet_sig) (al:=[⟨false,flat .str (bytesL s),.string s⟩]) (y:=((ip,n,e0):List Int×Int×Int)) F_wlvref15_ParseNet_sound rfl Tryz.func102
  (List.forall_mem_cons.2 ⟨str_ok hs,fun a h=>by cases h⟩) (appF_c (appF_n h))).mono ?_
 rintro e W' ⟨us,g',st',rfl,h1,h2,h3,h4⟩
 have e2:(exitSt F_wlvref15_ParseNet_sig ((ip,n,e0):List Int×Int×Int)).map (fun st=>(st.φ 0,st.φ 1))=some (.w true [.d .str ip,.d (.int .i64) n],.w false [.d (.int .i64) e0]):=rfl
 rw [h2] at e2
 injection e2 with e2
 have q0:=h4 0
 have q1:=h4 1
 rw [show st'.φ 0=_ from congrArg Prod.fst e2] at q0
 rw [show st'.φ 1=_ from congrArg Prod.snd e2] at q1
 obtain ⟨cs,k1,k2⟩:=q0
 have k2:us.getD 0 undef=.agg ⟨cs⟩:=k2
 have k3:=unflatAll_rep (t:=.pr .str (.int .i64)) (x:=((ip,n):List Int×Int)) rfl k1
 obtain ⟨d1,d2,rfl,⟨t,rfl,g1,g2⟩,rfl,g3⟩:=k3
 rw [two_of h1,k2,(rInt q1).1]
 exact ⟨t,rfl,g1,g2,g3,h3⟩
theorem rhost_calls {W:World} {s:ByteArray} (hs:s.size<=maxLen) {l:List Int} {e0:Int} (h:F_wlvref15_Name (bytesL s)=some (l,e0)) :
  Calls Tryz.prog 103 #[.string s] W fun e W'=>∃ t:ByteArray,e=.returned (.tuple #[.string t,.int .i64 e0]) /\ bytesL t=l /\ t.size<=maxLen /\ Below W.heap.size W W':=by
 refine (fn_calls (tab0 W) (s:=F_wlvref15_Name_sig) (al:=[⟨false,flat .str (bytesL s),.string s⟩]) (y:=((l,e0):List Int×Int)) F_wlvref15_Name_sound rfl Tryz.func103
  (List.forall_mem_cons.2 ⟨str_ok hs,fun a h=>by cases h⟩) (appF_c (appF_n h))).mono ?_
 rintro e W' ⟨us,g',st',rfl,h1,h2,h3,h4⟩
 have e2:(exitSt F_wlvref15_Name_sig ((l,e0):List Int×Int)).map (fun st=>(st.φ 0,st.φ 1))=some (.w false [.d .str l],.w false [.d (.int .i64) e0]):=rfl
 rw [h2] at e2
 injection e2 with e2
 have r0:=h4 0
 have r1:=h4 1
 rw [show st'.φ 0=_ from congrArg Prod.fst e2] at r0
 rw [show st'.φ 1=_ from congrArg Prod.snd e2] at r1
 obtain ⟨t,k1,k2,k3⟩:=rel_leaf.1 r0
 injection k1 with k1
 rw [two_of h1,k1,(rInt r1).1]
 exact ⟨t,rfl,k2,k3,h3⟩
theorem rf_row {W:World} {nt:Nat} {g:Gh} {w:World} {O:Tok->Bool} {tmf:Nat->Value} {u:Value} {τ:Tok} {E:TypeId} {e:Ty} {l:List e.D} (h:RelP (F00 W nt) g w O tmf u (.w false [.own τ E e l])) (hO:O τ=true) (hl:l≠[]) :
  ∃ (B cap:Nat) (cur:Array Value),u=.slice (some ⟨B,0,none⟩) l.length cap /\ w.heap[B]? = some (.cells cur E (0,0)) /\ l.length<=cap /\ cap<=maxLen /\ cur.size=cap*e.size /\ (∀ (i:Nat) (x:e.D),l[i]? = some x->RepD w g.C e x ((cur.toList.drop (i*e.size)).take e.size)) /\ W.heap.size<=B:=by
 obtain ⟨cs,g1,g2⟩:=h
 have g2:cs=[u]:=g2
 subst g2
 obtain ⟨c1,c2,g3,⟨hrd,hown⟩,g4⟩:=g1
 have g4:c2=[]:=g4
 subst g4
 rw [List.append_nil] at g3
 subst g3
 obtain ⟨v,hv,hOw⟩:=hown hO
 injection hv with hv
 subst hv
 rcases hOw with ⟨a,_,hnil,_⟩ | ⟨bl,cap,cur,hv2,hblk,hcell,hlc,hcm,hcs,hel,hC,hW⟩
 ·exact absurd hnil hl
 refine ⟨bl,cap,cur,hv2,hcell,hlc,hcm,hcs,hel,?_⟩
 rcases hW _ (Nat.le_refl _) with h | h
 ·exact h
 ·exact h.elim
theorem strs_cells {W:World} {C:Com} {B:Nat} {cur:Array Value} {E:TypeId} {fr:Nat×Nat} {cap:Nat} {l:List (List Int)} (hcell:W.heap[B]? = some (.cells cur E fr)) (hlc:l.length<=cap) (hcs:cur.size=cap*1) (hel:∀ (i:Nat) (x:List Int),l[i]? = some x->RepD W C .str x ((cur.toList.drop (i*1)).take 1)) :
  ∃ ws:List ByteArray,ws.map bytesL=l /\ ∀ (i:Nat) (t:ByteArray),ws[i]? = some t->W.cell? ⟨B,i,none⟩=some (.string t) /\ t.size<=maxLen:=by
 have hel2:∀ (i:Nat) (y:List Int),l[i]? = some y -> ∃ t:ByteArray,cur[i]? = some (.string t) /\ bytesL t=y /\ t.size<=maxLen:=fun i y hy=>by
  obtain ⟨t,ht,ht2,ht3⟩:=hel i y hy
  have hi:i < l.length:=(List.getElem?_eq_some_iff.1 hy).1
  have hic:i < cur.size:=by omega
  refine ⟨t,?_,ht2,ht3⟩
  rw [Nat.mul_one,List.drop_eq_getElem_cons (by simpa using hic)] at ht
  simp only [List.take_succ_cons,List.take_zero,List.cons.injEq,and_true,Array.getElem_toList] at ht
  rw [Array.getElem?_eq_getElem hic,ht]
 obtain ⟨ws,hwl,hw2⟩:=strs_of l cur hel2
 exact ⟨ws,hwl,fun i t ht=>⟨by rw [cell_at hcell];exact (hw2 i t ht).1,(hw2 i t ht).2⟩⟩
theorem ints_cells {W:World} {C:Com} {B:Nat} {cur:Array Value} {E:TypeId} {fr:Nat×Nat} {cap:Nat} {l:List Int} (hcell:W.heap[B]? = some (.cells cur E fr)) (hlc:l.length<=cap) (hcs:cur.size=cap*1) (hel:∀ (i:Nat) (x:Int),l[i]? = some x->RepD W C (.int .i64) x ((cur.toList.drop (i*1)).take 1)) (i:Nat) (x:Int) (hx:l[i]? = some x):W.cell? ⟨B,i,none⟩=some (.int .i64 x):=by
 obtain ⟨ht,_⟩:=hel i x hx
 have hi:i < l.length:=(List.getElem?_eq_some_iff.1 hx).1
 have hic:i < cur.size:=by omega
 rw [Nat.mul_one,List.drop_eq_getElem_cons (by simpa using hic)] at ht
 simp only [List.take_succ_cons,List.take_zero,List.cons.injEq,and_true,Array.getElem_toList] at ht
 rw [cell_at hcell,Array.getElem?_eq_getElem hic,ht]
def rfNames:List (List Int):=[[99,111,110,110,115],[115,116,114,101,97,109,115],[98,117,102,102,101,114],[108,111,103],[105,100,108,101],[100,105,97,108],[108,105,115,116]]
def rfMost:List Int:=[16,100,65535,100000,1099511627776,1099511627776,16384]
theorem own_len {W:World} {nt:Nat} {g:Gh} {w:World} {O:Tok->Bool} {tmf:Nat->Value} {u:Value} {τ:Tok} {E:TypeId} {e:Ty} {l:List e.D} (h:RelP (F00 W nt) g w O tmf u (.w false [.own τ E e l])) (hO:O τ=true):∃ a c,u=.slice a l.length c:=by
 obtain ⟨cs,g1,g2⟩:=h
 have g2:cs=[u]:=g2
 subst g2
 obtain ⟨c1,c2,g3,⟨hrd,hown⟩,g4⟩:=g1
 have g4:c2=[]:=g4
 subst g4
 rw [List.append_nil] at g3
 subst g3
 obtain ⟨v,hv,hOw⟩:=hown hO
 injection hv with hv
 subst hv
 rcases hOw with ⟨a,hv,hnil,_⟩ | ⟨bl,cap,cur,hv2,_⟩
 ·rw [hnil];exact ⟨_,_,hv⟩
 ·exact ⟨_,_,hv2⟩
theorem rsplit_calls {W:World} {s:ByteArray} (hs:s.size<=maxLen) {l:List (List Int)} (h:F_wlvref_Split (bytesL s) 32=some l) (hl:l≠[]) :
  Calls Tryz.prog 55 #[.string s,.int .u8 32] W fun e W'=>∃ (B cap:Nat) (ws:List ByteArray),e=.returned (.slice (some ⟨B,0,none⟩) ws.length cap) /\ ws.map bytesL=l /\ W.heap.size<=B /\ B < W'.heap.size /\ ws.length<=cap /\ (∀ (i:Nat) (t:ByteArray),ws[i]? = some t->W'.cell? ⟨B,i,none⟩=some (.string t) /\ t.size<=maxLen) /\ Below W.heap.size W W':=by
 refine (fn_calls (tab0 W) (s:=F_wlvref_Split_sig) (al:=[⟨false,flat .str (bytesL s),.string s⟩,⟨false,flat (.int .u8) (32:Int),.int .u8 32⟩]) (y:=(l:List (List Int))) F_wlvref_Split_sound rfl Tryz.func55
  (List.forall_mem_cons.2 ⟨str_ok hs,List.forall_mem_cons.2 ⟨Arg.mk_ok (τ:=.int .u8) (cs:=[.int .u8 32]) (ag:=false) ⟨rfl,by decide⟩ rfl,fun a h=>by cases h⟩⟩) (appF_c (appF_c (appF_n h)))).mono ?_
 rintro e W' ⟨us,g',st',rfl,h1,h2,h3,h4⟩
 have e2:(exitSt F_wlvref_Split_sig (l:List (List Int))).map (fun st=>(st.φ 0,st.O (.hd 0 0)))=some (.w false [.own (.hd 0 0) 9 .str l],true):=rfl
 rw [h2] at e2
 injection e2 with e2
 have q0:=h4 0
 rw [show st'.φ 0=_ from congrArg Prod.fst e2] at q0
 have hO:st'.O (.hd 0 0)=true:=congrArg Prod.snd e2
 obtain ⟨B,cap,cur,k1,k2,k3,k4,k5,k6,k7⟩:=rf_row q0 hO hl
 obtain ⟨ws,w1,w2⟩:=strs_cells (cap:=cap) k2 k3 k5 k6
 have hwl:ws.length=List.length l:=by rw [<-w1,List.length_map]
 refine ⟨B,cap,ws,?_,w1,k7,(Array.getElem?_eq_some_iff.1 k2).1,by rw [hwl];exact k3,w2,h3⟩
 rw [one_of h1,k1,hwl]
 rfl
theorem rlimits_calls {W:World} :
  Calls Tryz.prog 73 #[] W fun e W'=>∃ (B D cap cbp:Nat) (ws:List ByteArray),e=.returned (.tuple #[.slice (some ⟨B,0,none⟩) 7 cap,.slice (some ⟨D,0,none⟩) 7 cbp]) /\ ws.map bytesL=rfNames /\ 7<=cap /\ 7<=cbp /\ W.heap.size<=B /\ B < W'.heap.size /\ W.heap.size<=D /\ D < W'.heap.size /\ (∀ (i:Nat) (t:ByteArray),ws[i]? = some t->W'.cell? ⟨B,i,none⟩=some (.string t)) /\ (∀ (i:Nat) (x:Int),rfMost[i]? = some x->W'.cell? ⟨D,i,none⟩=some (.int .i64 x)) /\ Below W.heap.size W W':=by
 refine (fn_calls (tab0 W) (s:=F_wlvref18_limits_sig) (al:=[]) (y:=((rfNames,rfMost):List (List Int)×List Int)) F_wlvref18_limits_sound rfl Tryz.func73 (fun a h=>by cases h) (appF_n rfl)).mono ?_
 rintro e W' ⟨us,g',st',rfl,h1,h2,h3,h4⟩
 have e2:(exitSt F_wlvref18_limits_sig ((rfNames,rfMost):List (List Int)×List Int)).map (fun st=>(st.φ 0,st.φ 1,st.O (.hd 0 0),st.O (.hd 0 1)))=some (.w false [.own (.hd 0 0) 9 .str rfNames],.w false [.own (.hd 0 1) 3 (.int .i64) rfMost],true,true):=rfl
 rw [h2] at e2
 injection e2 with e2
 have q0:=h4 0
 have q1:=h4 1
 rw [show st'.φ 0=_ from congrArg Prod.fst e2] at q0
 rw [show st'.φ 1=_ from congrArg (fun p=>p.2.1) e2] at q1
 have hO:st'.O (.hd 0 0)=true:=congrArg (fun p=>p.2.2.1) e2
 have hO':st'.O (.hd 0 1)=true:=congrArg (fun p=>p.2.2.2) e2
 obtain ⟨B,cap,cur,k1,k2,k3,k4,k5,k6,k7⟩:=rf_row q0 hO (by intro e;cases e)
 obtain ⟨D,cbp,cvr,j1,j2,j3,j4,j5,j6,j7⟩:=rf_row q1 hO' (by intro e;cases e)
 obtain ⟨ws,w1,w2⟩:=strs_cells (cap:=cap) k2 k3 k5 k6
 refine ⟨B,D,cap,cbp,ws,?_,w1,k3,j3,k7,(Array.getElem?_eq_some_iff.1 k2).1,j7,(Array.getElem?_eq_some_iff.1 j2).1,fun i t h=>(w2 i t h).1,ints_cells (cap:=cbp) j2 j3 j5 j6,h3⟩
 rw [two_of h1,k1,j1]
 rfl
theorem unhex_calls {W:World} {s:ByteArray} (hs:s.size<=maxLen) {l:List Int} {b:Bool} (h:F_wlvref18_unhex (bytesL s)=some (l,b)) :
  Calls Tryz.prog 100 #[.string s] W fun e W'=>∃ v,e=.returned (.tuple #[v,.bool b]) /\ (∃ a c,v=.slice a l.length c) /\ (l≠[] -> ∃ xs,W'.ownsRow W.heap.size 5 1 v l.length xs /\ ∀ (i:Nat) (x:Int),l[i]? = some x->RepD W' noC (.int .u8) x ((xs.drop (i*1)).take 1)) /\ Below W.heap.size W W':=by
 refine (fn_calls (tab0 W) (s:=F_wlvref18_unhex_sig) (al:=[⟨false,flat .str (bytesL s),.string s⟩]) (y:=((l,b):List Int×Bool)) F_wlvref18_unhex_sound rfl Tryz.func100
  (List.forall_mem_cons.2 ⟨str_ok hs,fun a h=>by cases h⟩) (appF_c (appF_n h))).mono ?_
 rintro e W' ⟨us,g',st',rfl,h1,h2,h3,h4⟩
 have e2:(exitSt F_wlvref18_unhex_sig ((l,b):List Int×Bool)).map (fun st=>(st.φ 0,st.φ 1,st.O (.hd 0 0)))=some (.w false [.own (.hd 0 0) 5 (.int .u8) l],.w false [.d .bool b],true):=rfl
 rw [h2] at e2
 injection e2 with e2
 have q0:=h4 0
 have q1:=h4 1
 rw [show st'.φ 0=_ from congrArg Prod.fst e2] at q0
 rw [show st'.φ 1=_ from congrArg (fun p=>p.2.1) e2] at q1
 have hO:st'.O (.hd 0 0)=true:=congrArg (fun p=>p.2.2) e2
 rw [two_of h1,rBool q1]
 refine ⟨_,rfl,?_,fun hl=>?_,h3⟩
 ·exact own_len q0 hO
 ·obtain ⟨B,cap,cur,k1,k2,k3,k4,k5,k6,k7⟩:=rf_row q0 hO hl
  rw [k1]
  refine ⟨cur.toList.take (List.length l*1),⟨?_,.inr ⟨B,cap,cur,rfl,k7,?_,k3,k4,k5,rfl⟩⟩,fun i x hx=>?_⟩
  ·have e3:cur.toList.length=cap*1:=Array.length_toList.trans k5
   have e4:List.length l*1<=cur.toList.length:=by rw [e3];exact Nat.mul_le_mul_right _ k3
   rw [List.length_take,Nat.min_eq_left e4]
  ·exact k2
  ·rw [take_row (List.getElem?_eq_some_iff.1 hx).1]
   exact repD_flat rfl (k6 i x hx)
def usHas (us:List UserD) (s:List Int):Bool:=us.any fun u=>u.1==s
theorem sizeUs:sizeT Tryz.prog 63=some 6:=by kernel_rfl
theorem agUs:isAg Tryz.prog 63=true:=by kernel_rfl
theorem find_ret {w:World} {R:Nat} {v0 v1 v2 v3 v4 v5 v:Value} {T:TypeId} {a:Act} {Z:Ending->World->Prop} (hd:a.defers=[]) (h2:a.tmps.getD 4 undef=.pointer (some ⟨R,0,none⟩)) (h3:a.tmps.getD 5 undef=v)
  (hR:w.heap[R]? = some (.cells #[v0,v1,v2,v3,v4,v5] T (0,0)))
  (hZ:Z (.returned (.tuple #[.agg #[v0,v1,v2,v3,v4,v5],v])) w):bodyPost Tryz.prog Tryz.f35 Z .ret a w:=by
 have hl:=run_loadVar_cells (P:=Tryz.prog) (w:=w) (t:=63) (ad:=⟨R,0,none⟩) (us:=[v0,v1,v2,v3,v4,v5]) sizeUs rfl agUs (fun j x hj=>by
  show w.cell? ((⟨R,0,none⟩:Addr).add j)=_
  have e:(⟨R,0,none⟩:Addr).add j=⟨R,j,none⟩:=by unfold Addr.add;simp;omega
  rw [e,Lib.cell_of_heap hR]
  rw [<-hj];simp)
 refine bodyPost_ret ?_ hd hZ
 rw [results_cell_tmp (p:=4) (u:=5) (ty:=63) rfl,h2,h3]
 simp [asAddr,hl]
set_option maxHeartbeats 4000000 in
theorem set6 {w W:World} {b:Nat} {u0 u1 u2 u3 u4 u5 v0 v1 v2 v3 v4 v5:Value} {T:TypeId} (h:w.heap[b]? = some (.cells #[u0,u1,u2,u3,u4,u5] T (0,0))) (hW:((((((w.setCell ⟨b,0,none⟩ v0).setCell ⟨b,1,none⟩ v1).setCell ⟨b,2,none⟩ v2).setCell ⟨b,3,none⟩ v3).setCell ⟨b,4,none⟩ v4).setCell ⟨b,5,none⟩ v5)=W) :
  W.heap[b]? = some (.cells #[v0,v1,v2,v3,v4,v5] T (0,0)) /\ (∀ k,k≠b->W.heap[k]? = w.heap[k]?) /\ W.heap.size=w.heap.size /\ W.os=w.os /\ W.tape=w.tape /\ W.output=w.output:=by
 have hsz:∀ (w:World) (a:Addr) (u:Value),(w.setCell a u).heap.size=w.heap.size:=fun w a u=>by simp [World.setCell]
 have hos:∀ (w:World) (a:Addr) (u:Value),(w.setCell a u).os=w.os /\ (w.setCell a u).tape=w.tape /\ (w.setCell a u).output=w.output:=fun w a u=>⟨rfl,rfl,rfl⟩
 subst hW
 refine ⟨?_,fun k hk=>?_,by rw [hsz,hsz,hsz,hsz,hsz,hsz],by rw [(hos _ _ _).1,(hos _ _ _).1,(hos _ _ _).1,(hos _ _ _).1,(hos _ _ _).1,(hos _ _ _).1],by rw [(hos _ _ _).2.1,(hos _ _ _).2.1,(hos _ _ _).2.1,(hos _ _ _).2.1,(hos _ _ _).2.1,(hos _ _ _).2.1],by rw [(hos _ _ _).2.2,(hos _ _ _).2.2,(hos _ _ _).2.2,(hos _ _ _).2.2,(hos _ _ _).2.2,(hos _ _ _).2.2]⟩
 ·rw [set_heap (set_heap (set_heap (set_heap (set_heap (set_heap h)))))]
  rfl
 ·rw [setCell_heap,if_neg hk,setCell_heap,if_neg hk,setCell_heap,if_neg hk,setCell_heap,if_neg hk,setCell_heap,if_neg hk,setCell_heap,if_neg hk]
theorem store_cpx {P:Program} {w:World} {a:Addr} {x y:Nat} {m:Mode}:(store a (.complex .f64 x y) m).run P w=stored P w a (.complex .f64 x y) m:=run_store P w a _ m rfl
def findW (w:World) (v:Value):World:=(w.alloc (.cells #[.int .i64 0,.int .i64 0,.int .i64 0,.int .i64 0,.int .i64 0,.int .i64 0,.int .i64 0,v] 51)).alloc (.cells #[.string ⟨#[]⟩,.slice none 0 0,.slice none 0 0,.int .i64 0,.complex .f64 0 0,.slice none 0 0] 63)
theorem findW_at (w:World) (v:Value):(findW w v).heap[w.heap.size]? = some (.cells #[.int .i64 0,.int .i64 0,.int .i64 0,.int .i64 0,.int .i64 0,.int .i64 0,.int .i64 0,v] 51 (0,0)) /\ (findW w v).heap[w.heap.size+1]? = some (.cells #[.string ⟨#[]⟩,.slice none 0 0,.slice none 0 0,.int .i64 0,.complex .f64 0 0,.slice none 0 0] 63 (0,0)) /\ Below w.heap.size w (findW w v):=by
 refine ⟨?_,?_,((Below.refl _ _).alloc (Nat.le_refl _) _).alloc (by simp) _⟩
 ·unfold findW
  rw [heap_alloc_old _ _ (by simp)]
  exact heap_alloc_new _ _
 ·unfold findW
  have:=heap_alloc_new (w.alloc (.cells #[.int .i64 0,.int .i64 0,.int .i64 0,.int .i64 0,.int .i64 0,.int .i64 0,.int .i64 0,v] 51)) (.cells #[.string ⟨#[]⟩,.slice none 0 0,.slice none 0 0,.int .i64 0,.complex .f64 0 0,.slice none 0 0] 63)
  rw [show (w.alloc (Obj.cells #[.int .i64 0,.int .i64 0,.int .i64 0,.int .i64 0,.int .i64 0,.int .i64 0,.int .i64 0,v] 51)).heap.size=w.heap.size+1 by simp] at this
  exact this
set_option maxHeartbeats 8000000 in
set_option maxRecDepth 1000000 in
theorem rfind_walk {lo:Nat} {w:World} {role:Nat->Role} {us:List UserD} {v:Value} (hU:UsAt lo w role us v) (hlen:us.length<=16) (nm:ByteArray) :
  Calls Tryz.prog 35 #[.agg #[.int .i64 0,.int .i64 0,.int .i64 0,.int .i64 0,.int .i64 0,.int .i64 0,.int .i64 0,v],.string nm] w fun e w'=>∃ (c0:ByteArray) (p1:Option Addr) (l1 m1:Nat) (p2:Option Addr) (l2 m2:Nat) (x3:Int) (x4 y4:Nat) (p5:Option Addr) (l5 m5:Nat),e=.returned (.tuple #[.agg #[.string c0,.slice p1 l1 m1,.slice p2 l2 m2,.int .i64 x3,.complex .f64 x4 y4,.slice p5 l5 m5],.bool (usHas us (bytesL nm))]) /\ Below w.heap.size w w':=by
 obtain ⟨xs,h1,h2,h3⟩:=hU
 obtain ⟨ad,cap,hv⟩:∃ ad cap,v=.slice ad us.length cap:=by
  rcases h1.2 with ⟨rfl,hn⟩ | ⟨g,cap,cur,rfl,_⟩
  ·exact ⟨none,0,by rw [hn]⟩
  ·exact ⟨_,_,rfl⟩
 obtain ⟨n,hn⟩:∃ n,us.length=n:=⟨_,rfl⟩
 have hcells:∀ i u,us[i]? = some u -> ∃ (U:Nat) (c0:ByteArray) (p1:Option Addr) (l1 m1:Nat) (p2:Option Addr) (l2 m2:Nat) (x3:Int) (x4 y4:Nat) (p5:Option Addr) (l5 m5:Nat),ad=some ⟨U,0,none⟩ /\ U < w.heap.size /\ bytesL c0=u.1 /\ w.cell? ⟨U,i*6,none⟩=some (.string c0) /\ w.cell? ⟨U,i*6+1,none⟩=some (.slice p1 l1 m1) /\ w.cell? ⟨U,i*6+2,none⟩=some (.slice p2 l2 m2) /\ w.cell? ⟨U,i*6+3,none⟩=some (.int .i64 x3) /\ w.cell? ⟨U,i*6+4,none⟩=some (.complex .f64 x4 y4) /\ w.cell? ⟨U,i*6+5,none⟩=some (.slice p5 l5 m5):=fun i u hu=>by
  obtain ⟨nm',vs,vd,vr,q1,q2,_,_,r1,r2,r3⟩:=h3 i u hu
  obtain ⟨p1,l1,m1,rfl⟩:=row_slice r1
  obtain ⟨p2,l2,m2,rfl⟩:=row_slice r2
  obtain ⟨p5,l5,m5,rfl⟩:=row_slice r3
  rcases h1.2 with ⟨rfl,hn⟩ | ⟨g,cap',cur,rfl,_,hg,_⟩
  ·have:=(List.getElem?_eq_some_iff.1 hu).1
   omega
  ·injection hv with e1 e2 e3
   obtain ⟨k0,k1,k2,k3,k4,k5⟩:=user_cells h1 q1
   exact ⟨g,nm',p1,l1,m1,p2,l2,m2,_,_,_,p5,l5,m5,e1.symm,(Array.getElem?_eq_some_iff.1 hg).1,q2,k0,k1,k2,k3,k4,k5⟩
 rw [hv,hn]
 rw [hn] at hlen
 clear h1 h2 h3 hv
 have HC:Aside (∀ i u,us[i]? = some u -> ∃ (U:Nat) (c0:ByteArray) (p1:Option Addr) (l1 m1:Nat) (p2:Option Addr) (l2 m2:Nat) (x3:Int) (x4 y4:Nat) (p5:Option Addr) (l5 m5:Nat),ad=some ⟨U,0,none⟩ /\ U < w.heap.size /\ bytesL c0=u.1 /\ w.cell? ⟨U,i*6,none⟩=some (.string c0) /\ w.cell? ⟨U,i*6+1,none⟩=some (.slice p1 l1 m1) /\ w.cell? ⟨U,i*6+2,none⟩=some (.slice p2 l2 m2) /\ w.cell? ⟨U,i*6+3,none⟩=some (.int .i64 x3) /\ w.cell? ⟨U,i*6+4,none⟩=some (.complex .f64 x4 y4) /\ w.cell? ⟨U,i*6+5,none⟩=some (.slice p5 l5 m5)):=hcells
 have HN:Aside (us.length=n):=hn
 clear hcells hn
 have hcx:=@store_cpx
 go_enter Tryz.func35,Tryz.ntmps35
 go_wp2
 have HW:Aside (_ /\ _ /\ _):=findW_at w (.slice ad n cap)
 go_loopw [6] (fun v wr=>∃ k:Nat,k<=n /\ v=.int .i64 k /\ wr=findW w (.slice ad n cap) /\ Aside (∀ i:Nat,i < k -> ∀ u,us[i]? = some u->(u.1==bytesL nm)=false)) (fun v _=>n - (intOf v).toNat)
 case atStart=>exact ⟨0,by omega,rfl,rfl,fun i hi=>absurd hi (by omega)⟩
 case round=>
  obtain ⟨k,hk,rfl,hwr,HA⟩:=hrel
  have hb:Below w.heap.size w wr:=by rw [hwr];exact HW.out.2.2
  have h0:=HW.out.1
  rw [<-hwr] at h0
  obtain ⟨_,_,_,_,_,_,_,z7,_⟩:=cells8 h0
  have hr6:=HW.out.2.1
  rw [<-hwr] at hr6
  clear h0
  have hs:w.heap.size+1 < wr.heap.size:=(Array.getElem?_eq_some_iff.1 hr6).1
  have f6:∀ o,wr.frozen? ⟨w.heap.size+1,o,none⟩=false:=fun o=>by simp [World.frozen?,hr6]
  have f60:=f6 0
  have f61:=f6 1
  have f62:=f6 2
  have f63:=f6 3
  have f64:=f6 4
  have f65:=f6 5
  have g6:∀ o,o < 6 -> ∃ u,wr.cell? ⟨w.heap.size+1,o,none⟩=some u:=fun o ho=>by
   rw [cell_at hr6]
   exact ⟨_,Array.getElem?_eq_getElem (by simpa using ho)⟩
  obtain ⟨_,g60⟩:=g6 0 (by decide)
  obtain ⟨_,g61⟩:=g6 1 (by decide)
  obtain ⟨_,g62⟩:=g6 2 (by decide)
  obtain ⟨_,g63⟩:=g6 3 (by decide)
  obtain ⟨_,g64⟩:=g6 4 (by decide)
  obtain ⟨_,g65⟩:=g6 5 (by decide)
  have H6:Aside (_ /\ _):=⟨hr6,hwr⟩
  clear hr6 hwr f6 g6
  by_cases hlt:k < n
  ·have hkl:k < us.length:=by rw [HN.out];exact hlt
   obtain ⟨u,hu⟩:∃ u,us[k]? = some u:=⟨_,List.getElem?_eq_getElem hkl⟩
   obtain ⟨U,c0,p1,l1,m1,p2,l2,m2,x3,x4,y4,p5,l5,m5,rfl,hUl,hnm,k0,k1,k2,k3,k4,k5⟩:=HC.out k u hu
   rw [<-hb.cell hUl] at k0 k1 k2 k3 k4 k5
   have hq0:=bytes_eq c0 nm
   rw [hnm] at hq0
   have hUne:U≠w.heap.size+1:=by omega
   have HU:Aside (us[k]? = some u):=hu
   clear hu hnm
   cases hq:u.1==bytesL nm with
   | true=>
    rw [hq] at hq0
    have HQ:Aside ((u.1==bytesL nm)=true):=hq
    clear hq
    go_wp2
    generalize hW:World.setCell _ _ _=W6
    obtain ⟨y1,y2,y3,y4⟩:=set6 H6.out.1 hW
    have hh:usHas us (bytesL nm)=true:=List.any_eq_true.2 ⟨u,List.mem_of_getElem? HU.out,HQ.out⟩
    rw [hh]
    exact find_ret rfl rfl rfl y1 ⟨_,_,_,_,_,_,_,_,_,_,_,_,_,rfl,⟨y4.1.trans hb.os,y4.2.1.trans hb.tape,y4.2.2.trans hb.output,by rw [y3];exact hb.size,fun b hb'=>(y2 b (by omega)).trans (hb.block b hb')⟩⟩
   | false=>
    rw [hq] at hq0
    have HQ:Aside ((u.1==bytesL nm)=false):=hq
    clear hq
    go_wp2
    refine ⟨⟨k+1,by omega,by simp,H6.out.2,fun i hi u' hu'=>?_⟩,by simp [intOf];omega⟩
    rcases Nat.lt_or_ge i k with h | h
    ·exact HA.out i h u' hu'
    ·obtain rfl:i=k:=by omega
     rw [HU.out] at hu'
     injection hu' with hu'
     rw [<-hu']
     exact HQ.out
  ·obtain rfl:k=n:=by omega
   go_wp2
   generalize hW:World.setCell _ _ _=W6
   obtain ⟨y1,y2,y3,y4⟩:=set6 H6.out.1 hW
   have hh:usHas us (bytesL nm)=false:=by
    rw [Bool.eq_false_iff]
    intro h
    obtain ⟨u,hu,hq⟩:=List.any_eq_true.1 h
    obtain ⟨i,hi⟩:=List.getElem?_of_mem hu
    have:=HA.out i (by rw [<-HN.out];exact (List.getElem?_eq_some_iff.1 hi).1) u hi
    rw [this] at hq
    cases hq
   rw [hh]
   exact find_ret rfl rfl rfl y1 ⟨_,_,_,_,_,_,_,_,_,_,_,_,_,rfl,⟨y4.1.trans hb.os,y4.2.1.trans hb.tape,y4.2.2.trans hb.output,by rw [y3];exact hb.size,fun b hb'=>(y2 b (by omega)).trans (hb.block b hb')⟩⟩
def rfLo (k:Nat):Int:=cond (Nat.beq k 3) 0 1
noncomputable def rlimitP (x:RfSt):List (List Int)->Option (RfSt×Bool)
 | [_,a,b]=>match limAt a with
  | none=>some (x,false)
  | some k=>(F_wlvref_Num b (rfLo k) (rfMost.getD k 0)).bind fun p=>some (cond (!p.2||x.set.getD k false) (x,false) ({ x with set:=x.set.set k true,n:=x.n.set k p.1 },true))
 | _=>some (x,false)
def RlPost (lo:Nat) (R:Nat) (x':RfSt) (e':Bool) (e:Ending) (w w':World):Prop:=e=.returned (.bool e') /\ Below lo w w' /\ (e'=true -> ∃ v' role',RfAt lo w' R v' role' x')
theorem rfNames_lim:∀ k,k < 7->rfNames[k]? = some (bytesL (limW k)):=by
 intro k hk
 match k,hk with
 | 0,_=>rfl
 | 1,_=>rfl
 | 2,_=>rfl
 | 3,_=>rfl
 | 4,_=>rfl
 | 5,_=>rfl
 | 6,_=>rfl
theorem rfMost_wf (k:Nat) (hk:k < 7):∃ m,rfMost[k]? = some m /\ (Lit.int .i64 m).wf=true:=by
 match k,hk with
 | 0,_=>exact ⟨_,rfl,by decide⟩
 | 1,_=>exact ⟨_,rfl,by decide⟩
 | 2,_=>exact ⟨_,rfl,by decide⟩
 | 3,_=>exact ⟨_,rfl,by decide⟩
 | 4,_=>exact ⟨_,rfl,by decide⟩
 | 5,_=>exact ⟨_,rfl,by decide⟩
 | 6,_=>exact ⟨_,rfl,by decide⟩
theorem rf_told {lo:Nat} {w w':World} {R:Nat} {v:Value} {role:Nat->Role} {x:RfSt} (h:RfAt lo w R v role x) {k:Nat} (hk:k < 7) {n:Int} (hn:(Lit.int .i64 n).wf=true) (he:w'.heap=((w.setCell ⟨R,8+k,none⟩ (.bool true)).setCell ⟨R,15+k,none⟩ (.int .i64 n)).heap) :
  RfAt lo w' R v role { x with set:=x.set.set k true,n:=x.n.set k n }:=by
 have h1:=set_heap (u:=.bool true) (o:=8+k) h.hR
 rw [rf_sets v x h.hs hk] at h1
 have h2:=set_heap (u:=.int .i64 n) (o:=15+k) h1
 rw [rf_setn v _ (by show (x.set.set k true).length=7;rw [List.length_set];exact h.hs)] at h2
 have hne:∀ b,role b≠.no->role b≠.rdr->w'.heap[b]? = w.heap[b]?:=fun b _ h2=>by
  have hb:b≠R:=fun e=>h2 (by rw [e];exact h.rR)
  rw [he,setCell_heap,if_neg (by show b≠R;exact hb),setCell_heap,if_neg (by show b≠R;exact hb)]
 obtain ⟨xs,u1,u2,u3⟩:=h.hU
 refine ⟨by rw [he];exact h2,h.rR,by show (x.set.set k true).length=7;rw [List.length_set];exact h.hs,by show (x.n.set k n).length=7;rw [List.length_set];exact h.hn,⟨xs,owns_keep u1 fun b hb=>hne b (by rw [u2 b hb];intro e;cases e) (by rw [u2 b hb];intro e;cases e),u2,fun i u hu=>(u3 i u hu).keep fun b hb=>⟨rfl,hne b ?_ ?_⟩⟩,fun b hb=>?_,fun c hc=>?_⟩
 ·rcases hb with hb | hb <;> (rw [hb];intro e;cases e)
 ·rcases hb with hb | hb <;> (rw [hb];intro e;cases e)
 ·have:=h.lt b hb
  refine ⟨this.1,?_⟩
  rw [he]
  simpa [World.setCell] using this.2
 ·have hc:c∈x.n.set k n:=hc
  rcases List.mem_or_eq_of_mem_set hc with h' | h'
  ·exact h.wf c h'
  ·rw [h'];exact hn
set_option maxHeartbeats 16000000 in
set_option maxRecDepth 1000000 in
theorem rlimit_three {lo:Nat} {w:World} {R:Nat} {v:Value} {role:Nat->Role} {x:RfSt} (h:RfAt lo w R v role x) (hlo:lo<=w.heap.size) {ad:Addr} {c:Nat} {s0 s1 s2:ByteArray} (c1:w.cell? ⟨ad.block,ad.off+1,none⟩=some (.string s1)) (c2:w.cell? ⟨ad.block,ad.off+2,none⟩=some (.string s2)) (z2:s2.size<=maxLen)
    {x':RfSt} {e':Bool} (hF:(match limAt (bytesL s1) with
    | none=>some (x,false)
    | some k=>(F_wlvref_Num (bytesL s2) (rfLo k) (rfMost.getD k 0)).bind fun p=>some (cond (!p.2||x.set.getD k false) (x,false) (({ x with set:=x.set.set k true,n:=x.n.set k p.1 }:RfSt),true)))=some (x',e')) :
    Calls Tryz.prog 56 #[.pointer (some ⟨R,0,none⟩),.slice (some ad) 3 c] w fun e w'=>RlPost lo R x' e' e w w':=by
  have HL:Aside (lo<=w.heap.size /\ RfAt lo w R v role x):=⟨hlo,h⟩
  have HF:Aside ((match limAt (bytesL s1) with
    | none=>some (x,false)
    | some k=>(F_wlvref_Num (bytesL s2) (rfLo k) (rfMost.getD k 0)).bind fun p=>some (cond (!p.2||x.set.getD k false) (x,false) (({ x with set:=x.set.set k true,n:=x.n.set k p.1 }:RfSt),true)))=some (x',e')):=hF
  clear h hlo hF
  go_enter Tryz.func56,Tryz.ntmps56
  go_wp2_with (go_at_call 73;refine rlimits_calls.mono ?_;rintro e W1 ⟨B,D,cap,cbp,ws,rfl,hws,hc7,hd7,hB1,hB2,hD1,hD2,hcs,hcn,hb1⟩;have HB:Aside (_ /\ _ /\ _ /\ _):=⟨hws,hcs,hcn,hb1⟩;clear hws hcs hcn)
  go_loopw [7] (fun vi wr=>∃ k:Nat,vi=.int .i64 k /\ k<=7 /\ Below W1.heap.size W1 wr /\ Aside (∀ j,j < k->(bytesL (limW j)==bytesL s1)=false)) (fun vi _=>7 - (intOf vi).toNat)
  case atStart=>exact ⟨0,rfl,by omega,Below.refl _ _,fun j hj=>absurd hj (by omega)⟩
  case round=>
    obtain ⟨k,rfl,hk,hbr,HA⟩:=hrel
    have hb2:Below w.heap.size w wr:=hb1.trans (hbr.mono hb1.size)
    by_cases hk7:k < 7
    · have hwl : k < ws.length := by
        have:=congrArg List.length HB.out.1
        rw [List.length_map] at this
        rw [this];exact hk7
      obtain ⟨t,ht⟩:∃ t,ws[k]? = some t:=⟨_,List.getElem?_eq_getElem hwl⟩
      have htk:bytesL t=bytesL (limW k):=by
        have h1:=rfNames_lim k hk7
        rw [<-HB.out.1,List.getElem?_map,ht] at h1
        injection h1
      have cB:=(hbr.cell hB2).trans (HB.out.2.1 k t ht)
      have c1r:=cell_b c1 hb2
      have c2r:=cell_b c2 hb2
      have hadl:ad.block < wr.heap.size:=show (⟨ad.block,ad.off+1,none⟩:Addr).block < _ from cell_lt c1r
      have hwd:=bytes_eq t s1
      rw [htk] at hwd
      have HT:Aside (_ /\ _):=⟨ht,htk⟩
      clear ht htk hwl
      cases hq:bytesL (limW k)==bytesL s1 with
      | false=>
        rw [hq] at hwd
        have HQ:Aside ((bytesL (limW k)==bytesL s1)=false):=hq
        clear hq
        go_wp2
        go_region
        go_wp2
        refine ⟨⟨k+1,by simp,by omega,Below.drew hbr,fun j hj=>?_⟩,by simp [intOf];omega⟩
        rcases Nat.lt_or_ge j k with h | h
        · exact HA.out j h
        · obtain rfl:j=k:=by omega
          exact HQ.out
      | true=>
        rw [hq] at hwd
        have hfind:limAt (bytesL s1)=some k:=limAt_some hk7 hq HA.out
        have hF:=HF.out
        rw [hfind] at hF
        obtain ⟨⟨n,b⟩,hnum,hF⟩:=Option.bind_eq_some_iff.1 hF
        injection hF with hF
        obtain ⟨most,hm1,hm2⟩:=rfMost_wf k hk7
        have cD:=(hbr.cell hD2).trans (HB.out.2.2.1 k most hm1)
        rw [List.getD_eq_getElem?_getD,hm1,Option.getD_some] at hnum
        obtain ⟨sk,hsk⟩:∃ sk,x.set[k]? = some sk:=⟨_,List.getElem?_eq_getElem (by rw [HL.out.2.hs];exact hk7)⟩
        obtain ⟨nk,hnk⟩:∃ nk,x.n[k]? = some nk:=⟨_,List.getElem?_eq_getElem (by rw [HL.out.2.hn];exact hk7)⟩
        rw [List.getD_eq_getElem?_getD,hsk,Option.getD_some] at hF
        have hF:cond (!b||sk) (x,false) (({ x with set:=x.set.set k true,n:=x.n.set k n }:RfSt),true)=(x',e'):=hF
        have hwb:w.heap.size<=wr.heap.size:=hb2.size
        have hst:∀ w9,Below wr.heap.size wr w9->RfAt lo w9 R v role x:=fun w9 h=>(HL.out.2.below (hb2.trans (h.mono hwb)))
        have hcell:∀ w9,RfAt lo w9 R v role x->w9.cell? ⟨R,8+k,none⟩=some (.bool sk) /\ w9.cell? ⟨R,15+k,none⟩=some (.int .i64 nk) /\ w9.frozen? ⟨R,8+k,none⟩=false /\ w9.frozen? ⟨R,15+k,none⟩=false:=fun w9 h=>by
          obtain ⟨_,g1,g2,g3⟩:=rf_cells h.hR
          exact ⟨g1 k sk hsk,g2 k nk h.hs hnk,g3 _,g3 _⟩
        have htold:=fun (w9 w':World) (h:RfAt lo w9 R v role x) (hn:(Lit.int .i64 n).wf=true) (he:w'.heap=((w9.setCell ⟨R,8+k,none⟩ (.bool true)).setCell ⟨R,15+k,none⟩ (.int .i64 n)).heap)=>rf_told h hk7 hn he
        have HX:Aside (_ /\ _ /\ _ /\ _ /\ _ /\ _):=⟨hnum,hm2,hst,hcell,htold,hF⟩
        clear hnum hm2 hst hcell htold hF HF hfind hq hm1
        have key:k=3 \/ k≠3:=by omega
        rcases key with rfl | h3
        · have hnum:F_wlvref_Num (bytesL s2) 0 most=some (n,b):=HX.out.1
          have HNM:Aside (_ /\ _):=⟨hnum,(show (Lit.int .i64 0).wf=true by decide)⟩
          clear hnum
          go_wp2
          go_region
          go_wp2
          go_region_with (go_at_call 98;(refine (rNum_calls z2 HNM.out.2 HX.out.2.1 HNM.out.1).mono ?_;rintro e w9 ⟨rfl,hwn,hb9⟩))
          all_goals
            have hbd:Below wr.heap.size wr w9:=⟨hb9.os,hb9.tape,hb9.output,hb9.size,hb9.block⟩
            have hr9:=HX.out.2.2.1 w9 hbd
            obtain ⟨q8,q15,f8,f15⟩:=HX.out.2.2.2.1 w9 hr9
            simp only [Nat.reduceAdd] at q8 q15 f8 f15
            have H9:Aside (_ /\ _ /\ _):=⟨hr9,hwn,hb2.trans (hbd.mono hwb)⟩
            have hRl:R < w9.heap.size:=(hr9.lt R (by rw [hr9.rR];intro e;cases e)).2
            clear hbd hr9 hwn hb9
            have hF:=HX.out.2.2.2.2.2
            cases b with
            | false=>
              obtain ⟨rfl,rfl⟩:=Prod.mk.inj hF
              go_wp2
              go_ret
              exact ⟨rfl,H9.out.2.2.mono HL.out.1,fun e=>by cases e⟩
            | true=>
              cases sk with
              | true=>
                obtain ⟨rfl,rfl⟩:=Prod.mk.inj hF
                go_wp2
                go_ret
                exact ⟨rfl,H9.out.2.2.mono HL.out.1,fun e=>by cases e⟩
              | false=>
                obtain ⟨rfl,rfl⟩:=Prod.mk.inj hF
                go_wp2
                go_region
                all_goals
                  go_wp2
                  go_ret
                  refine ⟨rfl,?_,fun _=>⟨v,role,HX.out.2.2.2.2.1 _ _ H9.out.1 H9.out.2.1 rfl⟩⟩
                  have hl2:=(HL.out.2.lt R (by rw [HL.out.2.rR];intro e;cases e)).1
                  have h9:=H9.out.2.2.mono HL.out.1
                  refine ⟨h9.os,h9.tape,h9.output,?_,fun b hb=>?_⟩
                  · have:=h9.size
                    simpa [World.setCell,World.drew] using this
                  · show ((World.setCell _ _ _).setCell _ _).heap[b]? = _
                    rw [setCell_heap,if_neg (by show b≠R;omega),setCell_heap,if_neg (by show b≠R;omega)]
                    exact h9.block b hb
        · have hnum : F_wlvref_Num (bytesL s2) 1 most = some (n, b) := by
            have:=HX.out.1
            unfold rfLo at this
            rw [show Nat.beq k 3=false from Bool.eq_false_iff.2 fun h=>h3 (Nat.eq_of_beq_eq_true h)] at this
            exact this
          have HNM:Aside (_ /\ _):=⟨hnum,(show (Lit.int .i64 1).wf=true by decide)⟩
          clear hnum
          go_wp2
          go_region
          go_wp2
          go_region_with (go_at_call 98;(refine (rNum_calls z2 HNM.out.2 HX.out.2.1 HNM.out.1).mono ?_;rintro e w9 ⟨rfl,hwn,hb9⟩))
          all_goals
            have hbd:Below wr.heap.size wr w9:=⟨hb9.os,hb9.tape,hb9.output,hb9.size,hb9.block⟩
            have hr9:=HX.out.2.2.1 w9 hbd
            obtain ⟨q8,q15,f8,f15⟩:=HX.out.2.2.2.1 w9 hr9
            have H9:Aside (_ /\ _ /\ _):=⟨hr9,hwn,hb2.trans (hbd.mono hwb)⟩
            have hRl:R < w9.heap.size:=(hr9.lt R (by rw [hr9.rR];intro e;cases e)).2
            clear hbd hr9 hwn hb9
            have hF:=HX.out.2.2.2.2.2
            cases b with
            | false=>
              obtain ⟨rfl,rfl⟩:=Prod.mk.inj hF
              go_wp2
              go_ret
              exact ⟨rfl,H9.out.2.2.mono HL.out.1,fun e=>by cases e⟩
            | true=>
              cases sk with
              | true=>
                obtain ⟨rfl,rfl⟩:=Prod.mk.inj hF
                go_wp2
                go_ret
                exact ⟨rfl,H9.out.2.2.mono HL.out.1,fun e=>by cases e⟩
              | false=>
                obtain ⟨rfl,rfl⟩:=Prod.mk.inj hF
                go_wp2
                go_region
                all_goals
                  go_wp2
                  go_ret
                  refine ⟨rfl,?_,fun _=>⟨v,role,HX.out.2.2.2.2.1 _ _ H9.out.1 H9.out.2.1 rfl⟩⟩
                  have hl2:=(HL.out.2.lt R (by rw [HL.out.2.rR];intro e;cases e)).1
                  have h9:=H9.out.2.2.mono HL.out.1
                  refine ⟨h9.os,h9.tape,h9.output,?_,fun b hb=>?_⟩
                  · have:=h9.size
                    simpa [World.setCell,World.drew] using this
                  · show ((World.setCell _ _ _).setCell _ _).heap[b]? = _
                    rw [setCell_heap,if_neg (by show b≠R;omega),setCell_heap,if_neg (by show b≠R;omega)]
                    exact h9.block b hb
    · obtain rfl:k=7:=by omega
      have hx:some (x,false)=some (x',e'):=by
        rw [<-HF.out,limAt_none HA.out]
      injection hx with hx
      obtain ⟨rfl,rfl⟩:=Prod.mk.inj hx
      clear HF
      go_wp2
      go_ret
      exact ⟨rfl,hb2.mono HL.out.1,fun e=>by cases e⟩
set_option maxHeartbeats 8000000 in
set_option maxRecDepth 1000000 in
theorem rlimit_walk {lo:Nat} {w:World} {R:Nat} {v:Value} {role:Nat->Role} {x:RfSt} (h:RfAt lo w R v role x) (hlo:lo<=w.heap.size) {a:Option Addr} {n c:Nat} {ws:List ByteArray} (hn:ws.length=n) (hws:∀ i s,ws[i]? = some s -> ∃ ad,a=some ad /\ w.cell? (ad.add i)=some (.string s) /\ s.size<=maxLen) {x':RfSt} {e':Bool} (hF:rlimitP x (ws.map bytesL)=some (x',e')) :
    Calls Tryz.prog 56 #[.pointer (some ⟨R,0,none⟩),.slice a n c] w fun e w'=>RlPost lo R x' e' e w w':=by
  by_cases h3:n=3
  · subst h3
    match ws,hn,hws,hF with
    | [s0,s1,s2],_,hws,hF=>
    obtain ⟨ad,rfl,c0,z0⟩:=hws 0 s0 rfl
    obtain ⟨_,e1,c1,z1⟩:=hws 1 s1 rfl
    injection e1 with e1
    subst e1
    obtain ⟨_,e1,c2,z2⟩:=hws 2 s2 rfl
    injection e1 with e1
    subst e1
    rw [add_pos _ (by decide)] at c1 c2
    exact rlimit_three (s0:=s0) h hlo c1 c2 z2 hF
  · have hF : some (x, false) = some (x', e') := by
      rw [<-hF]
      match ws,hn with
      | [],_=>rfl
      | [_],_=>rfl
      | [_,_],_=>rfl
      | [_,_,_],hn=>exact absurd hn.symm h3
      | _::_::_::_::_,_=>rfl
    injection hF with hF
    obtain ⟨rfl,rfl⟩:=Prod.mk.inj hF
    clear hws hn
    go_enter Tryz.func56,Tryz.ntmps56
    go_wp2
    go_ret
    exact ⟨rfl,Below.refl _ _,fun e=>by cases e⟩
end Go.Proofs.YtgfmfgombmpodaaGreatDoor
namespace Go.Proofs.YtgfmfgombmpodaaGreatDoor
open Go.RowKit Pv Vc
set_option linter.unusedVariables false
def ruserC (x:RfSt) (a:List Int) (sa di:List Int×Bool) (n up dn:Int×Bool):Bool:=
 sa.2&&(Nat.ble 1 sa.1.length&&(Nat.ble sa.1.length 32&&(di.2&&(Nat.beq di.1.length 32&&(n.2&&(up.2&&(dn.2 && !usHas x.us a)))))))
noncomputable def ruserG (x:RfSt) (a:List Int) (sa di:List Int×Bool) (n up dn:Int×Bool):Option (RfSt×Int):=
 cond (ruserC x a sa di n up dn) (cond (Nat.ble 16 x.us.length) (some (x,7)) (some ({ x with us:=x.us++[(a,(sa.1,di.1),n.1,(fl up.1,fl dn.1),[])] },0))) (some (x,2))
noncomputable def ruserP (x:RfSt):List (List Int)->Option (RfSt×Int)
  | [_, a, b, c, d, e, f] => (F_wlvref18_name a).bind fun q => cond q (
      (F_wlvref18_unhex b).bind fun sa=>(F_wlvref18_unhex c).bind fun di=>(F_wlvref_Num d 1 1000).bind fun n=>(F_wlvref_Num e 0 1125899906842624).bind fun up=>(F_wlvref_Num f 0 1125899906842624).bind fun dn=>ruserG x a sa di n up dn) (some (x,2))
  | _=>some (x,2)
structure RusAns (s1 s2 s3 s4 s5 s6:ByteArray) (sa di:List Int×Bool) (n up dn:Int×Bool):Prop where
 h1:F_wlvref18_name (bytesL s1)=some true
 h2:F_wlvref18_unhex (bytesL s2)=some sa
 h3:F_wlvref18_unhex (bytesL s3)=some di
 h4:F_wlvref_Num (bytesL s4) 1 1000=some n
 h5:F_wlvref_Num (bytesL s5) 0 1125899906842624=some up
 h6:F_wlvref_Num (bytesL s6) 0 1125899906842624=some dn
theorem rf_zero {w:World} {R:Nat} {v:Value} {x:RfSt} {T:TypeId} (h:w.heap[R]? = some (.cells (rfCells v x).toArray T (0,0))) :
  w.cell? ⟨R,0,none⟩=some (.int .i64 0) /\ w.cell? ⟨R,1,none⟩=some (.int .i64 0) /\ w.cell? ⟨R,2,none⟩=some (.int .i64 0) /\ w.cell? ⟨R,3,none⟩=some (.int .i64 0) /\ w.cell? ⟨R,4,none⟩=some (.int .i64 0) /\ w.cell? ⟨R,5,none⟩=some (.int .i64 0) /\ w.cell? ⟨R,6,none⟩=some (.int .i64 0):=by
 refine ⟨?_,?_,?_,?_,?_,?_,?_⟩ <;> (rw [cell_at h];rfl)
theorem RfAt.more {lo:Nat} {w:World} {R:Nat} {v:Value} {role:Nat->Role} {x:RfSt} (h:RfAt lo w R v role x) (o:Obj):RfAt lo (w.alloc o).drew R v role x:=
 h.keep (fun b hb=>heap_alloc_old w o (h.lt b hb).2) (by show w.heap.size<=(w.alloc o).heap.size;simp)
theorem ruC_true {b1 b2 b3 b4 b5 q:Bool} {l d:Nat} (h1:b1=true) (h2:1<=l) (h3:l<=32) (h4:b2=true) (h5:d=32) (h6:b3=true) (h7:b4=true) (h8:b5=true) (h9:q=false) :
  (b1&&(Nat.ble 1 l&&(Nat.ble l 32&&(b2&&(Nat.beq d 32&&(b3&&(b4&&(b5 && !q))))))))=true:=by
 subst h1 h4 h5 h6 h7 h8 h9
 rw [Nat.ble_eq_true_of_le h2,Nat.ble_eq_true_of_le h3]
 rfl
theorem cells6 {w:World} {b:Nat} {v0 v1 v2 v3 v4 v5:Value} {T:TypeId} (h:w.heap[b]? = some (.cells #[v0,v1,v2,v3,v4,v5] T (0,0))):w.cell? ⟨b,0,none⟩=some v0 /\ w.cell? ⟨b,1,none⟩=some v1 /\ w.cell? ⟨b,2,none⟩=some v2 /\ w.cell? ⟨b,3,none⟩=some v3 /\ w.cell? ⟨b,4,none⟩=some v4 /\ w.cell? ⟨b,5,none⟩=some v5 /\
  w.frozen? ⟨b,0,none⟩=false /\ w.frozen? ⟨b,1,none⟩=false /\ w.frozen? ⟨b,2,none⟩=false /\ w.frozen? ⟨b,3,none⟩=false /\ w.frozen? ⟨b,4,none⟩=false /\ w.frozen? ⟨b,5,none⟩=false:=by
 refine ⟨?_,?_,?_,?_,?_,?_,?_,?_,?_,?_,?_,?_⟩ <;> first | (rw [cell_at h];rfl) | simp [World.frozen?,h]
theorem below_more {lo:Nat} {w w6 w7:World} {o:Obj} (h6:Below lo w w6) (hl:lo<=w6.heap.size) (h7:Below (w6.alloc o).drew.heap.size (w6.alloc o).drew w7):Below lo w w7:=by
 have hs:(w6.alloc o).drew.heap.size=w6.heap.size+1:=by show (w6.alloc o).heap.size=_;simp
 refine ⟨h7.os.trans h6.os,h7.tape.trans h6.tape,h7.output.trans h6.output,?_,fun b hb=>?_⟩
 ·have:=h7.size
  have:=h6.size
  omega
 ·rw [h7.block b (by omega)]
  show (w6.alloc o).heap[b]? = _
  rw [heap_alloc_old w6 o (by omega)]
  exact h6.block b hb
set_option maxHeartbeats 8000000 in
set_option maxRecDepth 1000000 in
theorem ruser_bad {lo:Nat} {w:World} {R:Nat} {x:RfSt} (hlo:lo<=w.heap.size) {ad:Addr} {c:Nat} {s1:ByteArray} (c1:w.cell? ⟨ad.block,ad.off+1,none⟩=some (.string s1)) (z1:s1.size<=maxLen) (hq:F_wlvref18_name (bytesL s1)=some false) :
  Calls Tryz.prog 57 #[.pointer (some ⟨R,0,none⟩),.slice (some ad) 7 c] w fun e w'=>RfPost lo R x 2 e w w':=by
 have HL:Aside (lo<=w.heap.size /\ F_wlvref18_name (bytesL s1)=some false):=⟨hlo,hq⟩
 clear hlo hq
 go_enter Tryz.func57,Tryz.ntmps57
 go_wp2_with (go_at_call 99;refine (rname_calls z1 HL.out.2).mono ?_;rintro e w1 ⟨rfl,hb1⟩)
 go_ret
 exact ⟨rfl,hb1.mono HL.out.1,fun e=>by cases e⟩
set_option maxHeartbeats 16000000 in
set_option maxRecDepth 1000000 in
theorem ruser_seven {lo:Nat} {w:World} {R:Nat} {v:Value} {role:Nat->Role} {x:RfSt} (h:RfAt lo w R v role x) (hlo:lo<=w.heap.size) (few:x.us.length<=16) {ad:Addr} {c:Nat} {s1 s2 s3 s4 s5 s6:ByteArray} (c1:w.cell? ⟨ad.block,ad.off+1,none⟩=some (.string s1)) (c2:w.cell? ⟨ad.block,ad.off+2,none⟩=some (.string s2)) (c3:w.cell? ⟨ad.block,ad.off+3,none⟩=some (.string s3)) (c4:w.cell? ⟨ad.block,ad.off+4,none⟩=some (.string s4)) (c5:w.cell? ⟨ad.block,ad.off+5,none⟩=some (.string s5)) (c6:w.cell? ⟨ad.block,ad.off+6,none⟩=some (.string s6))
    (z1:s1.size<=maxLen) (z2:s2.size<=maxLen) (z3:s3.size<=maxLen) (z4:s4.size<=maxLen) (z5:s5.size<=maxLen) (z6:s6.size<=maxLen)
    {sa di:List Int} {n up dn:Int} {b1 b2 b3 b4 b5:Bool} (hA:RusAns s1 s2 s3 s4 s5 s6 (sa,b1) (di,b2) (n,b3) (up,b4) (dn,b5)) {x':RfSt} {e':Int} (hF:ruserG x (bytesL s1) (sa,b1) (di,b2) (n,b3) (up,b4) (dn,b5)=some (x',e')) :
    Calls Tryz.prog 57 #[.pointer (some ⟨R,0,none⟩),.slice (some ad) 7 c] w fun e w'=>RfPost lo R x' e' e w w':=by
  have HLN:Aside (x.us.length<=16):=few
  have HF:Aside (ruserG x (bytesL s1) (sa,b1) (di,b2) (n,b3) (up,b4) (dn,b5)=some (x',e')):=hF
  have HA:Aside (RusAns s1 s2 s3 s4 s5 s6 (sa,b1) (di,b2) (n,b3) (up,b4) (dn,b5)):=hA
  obtain ⟨m,hm⟩:∃ m,x.us.length=m:=⟨_,rfl⟩
  obtain ⟨va,vc,rfl⟩:∃ va vc,v=.slice va m vc:=by
    obtain ⟨xs,u1,_⟩:=h.hU
    rw [hm] at u1
    rcases u1.2 with ⟨rfl,hn0⟩ | ⟨g,cap,cur,rfl,_⟩
    · exact ⟨none,0,by rw [hn0]⟩
    · exact ⟨_,_,rfl⟩
  have HL:Aside (lo<=w.heap.size /\ RfAt lo w R (.slice va m vc) role x):=⟨hlo,h⟩
  have HM:Aside (x.us.length=m):=hm
  obtain ⟨q,hq⟩:∃ q,usHas x.us (bytesL s1)=q:=⟨_,rfl⟩
  have HQ:Aside (usHas x.us (bytesL s1)=q):=hq
  have hcx:=@store_cpx
  clear hF hlo few h hA hm hq
  go_enter Tryz.func57,Tryz.ntmps57
  go_wp2_with (first
    | (go_at_call 99;refine (rname_calls z1 HA.out.h1).mono ?_;rintro e w1 ⟨rfl,hb1⟩;have c21:=cell_b c2 hb1)
    | (go_at_call 100;((with_reducible refine (unhex_calls z2 HA.out.h2).mono ?_);rintro e w2 ⟨vs,rfl,⟨vsa,vsc,rfl⟩,hvs,hb2'⟩;have hb2:=hb1.trans (hb2'.mono hb1.size);have HVS:Aside (w.heap.size<=w1.heap.size /\ _ /\ _):=⟨hb1.size,hvs,hb2'⟩;clear hvs hb2';have c32:=cell_b c3 hb2))
    | (go_at_call 100;((with_reducible refine (unhex_calls z3 HA.out.h3).mono ?_);rintro e w3 ⟨vd,rfl,⟨vda,vdc,rfl⟩,hvd,hb3'⟩;have hb3:=hb2.trans (hb3'.mono hb2.size);have HVD:Aside (w.heap.size<=w2.heap.size /\ _ /\ _):=⟨hb2.size,hvd,hb3'⟩;clear hvd hb3';have c43:=cell_b c4 hb3))
    | (go_at_call 98;((with_reducible refine (rNum_calls z4 (by decide) (by decide) HA.out.h4).mono ?_);rintro e w4 ⟨rfl,hwn,hb4'⟩;have hb4:=hb3.trans (hb4'.mono hb3.size);have HWN:Aside (_ /\ _):=⟨hwn,hb4'⟩;clear hwn hb4';have c54:=cell_b c5 hb4))
    | (go_at_call 98;((with_reducible refine (rNum_calls z5 (by decide) (by decide) HA.out.h5).mono ?_);rintro e w5 ⟨rfl,_,hb5'⟩;have hb5:=hb4.trans (hb5'.mono hb4.size);have HW5:Aside _:=hb5';clear hb5';have c65:=cell_b c6 hb5))
    | (go_at_call 98;((with_reducible refine (rNum_calls z6 (by decide) (by decide) HA.out.h6).mono ?_);rintro e w6 ⟨rfl,_,hb6'⟩;have hb6:=hb5.trans (hb6'.mono hb5.size);have HW6:Aside _:=hb6';clear hb6';have c16:=cell_b c1 hb6;have hadl:ad.block < w6.heap.size:=show (⟨ad.block,ad.off+1,none⟩:Addr).block < _ from cell_lt c16;have HR6:Aside (RfAt lo w6 R (.slice va m vc) role x):=HL.out.2.below hb6;obtain ⟨r0,r1,r2,r3,r4,r5,r6⟩:=rf_zero HR6.out.hR;have r7:=(rf_cells HR6.out.hR).1;have hRl:R < w6.heap.size:=(HR6.out.lt R (by rw [HR6.out.rR];intro e;cases e)).2)))
  rename_i K8 hK8
  have tail:∀ (u15 u17 u18 u19 u20 u21 u22 u23 u24 u25 u26 u27 u28 u29 u30 u31 u32 u33 u34 u35 u36 u37 u38 u39 u40 u41 u42 u43 u44 u45 u46 u47 u48 u49 u50 u51 u52 u53 u54 u55 u56 u57 u58 u59 u60 u61 u62 u63 u64 u65 u66 u67 u68 u69 u70 u71 u72:Value) (W8:World),Below w6.heap.size w6 W8->K8 ⟨#[Value.pointer (some ⟨R,0,none⟩),Value.slice (some ad) 7 c,undef,undef,Value.int IntKind.i64 0,Value.slice vsa sa.length vsc,Value.bool b1,Value.slice vda di.length vdc,Value.bool b2,Value.int IntKind.i64 n,Value.bool b3,Value.int IntKind.i64 up,Value.bool b4,Value.int IntKind.i64 dn,Value.bool b5,u15,Value.bool q,u17,u18,u19,u20,u21,u22,u23,u24,u25,u26,u27,u28,u29,u30,u31,u32,u33,u34,u35,u36,u37,u38,u39,u40,u41,u42,u43,u44,u45,u46,u47,u48,u49,u50,u51,u52,u53,u54,u55,u56,u57,u58,u59,u60,u61,u62,u63,u64,u65,u66,u67,u68,u69,u70,u71,u72,undef,undef,undef,undef,undef,undef,undef,undef,undef,undef,undef,undef,undef,undef,undef,undef,undef,undef,undef,undef,undef,undef,undef,undef,undef,undef,undef,undef,undef,undef,undef,undef,undef,undef,undef,undef,undef,undef,undef,undef,undef,undef,undef,undef,undef,undef,undef,undef,undef,undef,undef,undef,undef,undef,undef,undef,undef,undef,undef,undef,undef,undef,undef,undef,undef,undef,undef],[]⟩ W8:=by
    intro u15 u17 u18 u19 u20 u21 u22 u23 u24 u25 u26 u27 u28 u29 u30 u31 u32 u33 u34 u35 u36 u37 u38 u39 u40 u41 u42 u43 u44 u45 u46 u47 u48 u49 u50 u51 u52 u53 u54 u55 u56 u57 u58 u59 u60 u61 u62 u63 u64 u65 u66 u67 u68 u69 u70 u71 u72 W8 hb8'
    have hb8:Below w.heap.size w W8:=hb6.trans (hb8'.mono hb6.size)
    refine hK8 _ _ ?_
    clear hK8 c1 c2 c3 c4 c5 c6 c21 c32 c43 c54 c65 r0 r1 r2 r3 r4 r5 r6 r7 hRl z2 z3 z4 z5 z6 hcx
    cases hc:b1&&(Nat.ble 1 sa.length&&(Nat.ble sa.length 32&&(b2&&(Nat.beq di.length 32&&(b3&&(b4&&(b5 && !q))))))) with
    | false=>
      have hx:some (x,(2:Int))=some (x',e'):=by
        rw [<-HF.out]
        unfold ruserG ruserC
        dsimp only
        rw [HQ.out,hc];rfl
      injection hx with hx
      obtain ⟨rfl,rfl⟩:=Prod.mk.inj hx
      have HC:Aside (_=false):=hc
      clear HF hc
      have hlo:=HL.out.1
      have fin:RfPost lo R x 2 (.returned (.int .i64 2)) w W8:=⟨rfl,hb8.mono hlo,fun e=>by cases e⟩
      have FIN:Aside _:=fin
      clear fin hb8 hb8' HVS HVD HWN HW5 HW6 HR6 hb1 hb2 hb3 hb4 hb5 hb6 c16 hadl hlo
      go_wp2
      all_goals first
        | (exact absurd ((ruC_true (by assumption) (by omega) (by omega) (by assumption) (by omega) (by assumption) (by assumption) (by assumption) (And.right (by assumption:(1<=(sa.length:Int) /\ (sa.length:Int)<=32) /\ q=false))).symm.trans HC.out) (by decide))
        | (go_ret
           exact ⟨rfl,FIN.out.2.1,fun e=>by cases e⟩)
    | true=>
      simp only [Bool.and_eq_true] at hc
      obtain ⟨rfl,h1,h2,rfl,h3,rfl,rfl,rfl,hq⟩:=hc
      have h1:=Nat.le_of_ble_eq_true h1
      have h2:=Nat.le_of_ble_eq_true h2
      have h3:=Nat.eq_of_beq_eq_true h3
      obtain rfl:q=false:=by
        cases q
        · rfl
        · cases hq
      clear hq
      have HR8:Aside (RfAt lo W8 R (.slice va m vc) role x):=HR6.out.below hb8'
      have c18:=cell_b c16 hb8'
      have hadl8:ad.block < W8.heap.size:=show (⟨ad.block,ad.off+1,none⟩:Addr).block < _ from cell_lt c18
      have r78:=(rf_cells HR8.out.hR).1
      have f78:=(rf_cells HR8.out.hR).2.2.2 7
      have hRl:R < W8.heap.size:=(HR8.out.lt R (by rw [HR8.out.rR];intro e;cases e)).2
      have hm16:m<=16:=by rw [<-HM.out];exact HLN.out
      have hg:cond (Nat.ble 16 m) (some (x,(7:Int))) (some (({ x with us:=x.us++[(bytesL s1,(sa,di),n,(fl up,fl dn),[])] }:RfSt),(0:Int)))=some (x',e'):=by
        rw [<-HF.out]
        unfold ruserG
        rw [show ruserC x (bytesL s1) (sa,true) (di,true) (n,true) (up,true) (dn,true)=true from by
          unfold ruserC
          dsimp only
          rw [HQ.out,h3,Nat.ble_eq_true_of_le h1,Nat.ble_eq_true_of_le h2];rfl,HM.out]
        rfl
      have H0:Aside (_ /\ _):=⟨hb8,hb8'⟩
      clear HF hb1 hb2 hb3 hb4 hb5 hb6 hb8 hb8' c16 hadl
      by_cases h16:m=16
      · rw [h16] at hg
        have hx:some (x,(7:Int))=some (x',e'):=hg
        injection hx with hx
        obtain ⟨rfl,rfl⟩:=Prod.mk.inj hx
        clear hg hx
        go_wp2
        go_ret
        exact ⟨rfl,H0.out.1.mono HL.out.1,fun e=>by cases e⟩
      · have hx : some (({ x with us := x.us ++ [(bytesL s1, (sa, di), n, (fl up, fl dn), [])] } : RfSt), (0 : Int)) = some (x', e') := by
          rw [<-hg,show Nat.ble 16 m=false from Bool.eq_false_iff.2 fun h=>h16 (by have:=Nat.le_of_ble_eq_true h;omega)];rfl
        injection hx with hx
        obtain ⟨rfl,rfl⟩:=Prod.mk.inj hx
        clear hg hx
        obtain ⟨role1,HR1,hrs,hrd⟩:=rf_new HR8.out (fun b hb=>(HL.out.2.lt b hb).2) HL.out.1 HVS.out.1 (HVS.out.2.1 fun e=>by rw [e] at h1;exact absurd h1 (by decide)) ((((HVD.out.2.2.trans (HWN.out.2.mono HVD.out.2.2.size)).trans (HW5.out.mono (Nat.le_trans HVD.out.2.2.size HWN.out.2.size))).trans (HW6.out.mono (Nat.le_trans (Nat.le_trans HVD.out.2.2.size HWN.out.2.size) HW5.out.size))).trans (H0.out.2.mono (Nat.le_trans (Nat.le_trans (Nat.le_trans HVD.out.2.2.size HWN.out.2.size) HW5.out.size) HW6.out.size))) HVD.out.1 (HVD.out.2.1 fun e=>by rw [e] at h3;cases h3) (((HWN.out.2.trans (HW5.out.mono HWN.out.2.size)).trans (HW6.out.mono (Nat.le_trans HWN.out.2.size HW5.out.size))).trans (H0.out.2.mono (Nat.le_trans (Nat.le_trans HWN.out.2.size HW5.out.size) HW6.out.size)))
        rw [show Value.slice vda di.length vdc=Value.slice vda 32 vdc by rw [h3]] at hrd
        obtain ⟨xs,u1,u2,u3⟩:=HR1.hU
        rw [HM.out] at u1
        have HU:Aside (_ /\ _ /\ _ /\ _ /\ _ /\ _):=⟨u1,u2,u3,HR1,hrs,hrd⟩
        clear u1 u2 u3 HR1 hrs hrd
        obtain ⟨i0,hi,hz0,hz1,hz2⟩:=info_parts infoUs
        have HI:Aside (_ /\ _ /\ _ /\ _):=⟨hi,hz0,hz1,hz2⟩
        clear hi hz0 hz1 hz2
        go_wp2
        go_region_law (refine step_append_own_at rfl (.tmp 121) (.tmp 135) 49 rfl lo 63 i0 userZ 6 _ Tryz.underlying49 HI.out.1 HI.out.2.1 HI.out.2.2.1 HI.out.2.2.2 rfl (by decide) (.slice va m vc) m xs (by simp [Act.eval]) (owns_keep HU.out.1 fun b hb=>heap_alloc_old _ _ (HU.out.1.lt b hb).2) ⟨W8.heap.size,0,none⟩ 1 1 [.string s1,.slice vsa sa.length vsc,.slice vda 32 vdc,.int .i64 n,.complex .f64 (fl up) (fl dn),.slice none 0 0] (by simp [Act.eval]) rfl (cells_new _ _ _) (fun u hu=>List.all_eq_true.1 (show List.all [Value.string s1,.slice vsa sa.length vsc,.slice vda 32 vdc,.int .i64 n,.complex .f64 (fl up) (fl dn),.slice none 0 0] Value.oneCell'=true from rfl) u hu) (by unfold maxLen;omega) (by omega) (Nat.le_trans HL.out.1 (Nat.le_trans H0.out.1.size (by simp))) ?_;intro v' wz hown' hgrow hat';obtain ⟨va',vc',rfl⟩:=own_slice hown';obtain ⟨c7z,f7z⟩:=rf_keepR HU.out.2.2.2.1 HU.out.2.1 hgrow (fun b hb=>heap_alloc_old _ _ hb) (by simp))
        all_goals
          go_wp2
          go_ret
          obtain ⟨k1,k2,k3,k4,k5,k6⟩:=HU.out
          exact rf_user_end HM.out HL.out.1 H0.out.1 k4 k1 k2 k3 k5 k6 z1 HWN.out.1 hgrow hown' hat' (fun b hb=>heap_alloc_old _ _ hb) (by simp) ⟨rfl,rfl,rfl⟩ rfl ⟨rfl,rfl,rfl⟩
  have HTL:Aside _:=tail
  clear tail
  go_region_with (go_at_call 35;first
    | (refine (rfind_walk (w:=w6.drew) (HR6.out.keep (fun b _=>rfl) (Nat.le_refl _)).hU HLN.out s1).mono ?_;rintro e w7 ⟨d0,p1,l1,m1,p2,l2,m2,x3,x4,y4,p5,l5,m5,rfl,hb7'⟩;have hb7:Below w6.heap.size w6 w7:=⟨hb7'.os,hb7'.tape,hb7'.output,hb7'.size,hb7'.block⟩;clear hb7';have hqf:=HQ.out;rw [hqf])
    | (refine (rfind_walk (w:=(w6.alloc _).drew) (HR6.out.more _).hU HLN.out s1).mono ?_;rintro e w7 ⟨d0,p1,l1,m1,p2,l2,m2,x3,x4,y4,p5,l5,m5,rfl,hb7'⟩;have hb7:Below w6.heap.size w6 w7:=below_more (Below.refl _ _) (Nat.le_refl _) hb7';have hz7:=(hb7'.block w6.heap.size (by simp)).trans (heap_alloc_new w6 _);have HZ7:Aside _:=hz7;have hs7:w6.heap.size < w7.heap.size:=(Array.getElem?_eq_some_iff.1 hz7).1;obtain ⟨y0,y1,y2,y3,y4',y5,g0,g1,g2,g3,g4,g5⟩:=cells6 hz7;clear hb7' hz7;have hqf:=HQ.out;rw [hqf]))
  all_goals
    go_step
    try go_simp
  all_goals first
    | (generalize hW : World.setCell _ _ _ = W8
       obtain ⟨y1,y2,y3,y4⟩:=set6 HZ7.out hW
       have hbw:Below w6.heap.size w6 W8:=⟨y4.1.trans hb7.os,y4.2.1.trans hb7.tape,y4.2.2.trans hb7.output,by rw [y3];exact hb7.size,fun b hb'=>(y2 b (by omega)).trans (hb7.block b hb')⟩
       with_reducible exact HTL.out _ _ _ _ _ _ _ _ _ _ _ _ _ _ _ _ _ _ _ _ _ _ _ _ _ _ _ _ _ _ _ _ _ _ _ _ _ _ _ _ _ _ _ _ _ _ _ _ _ _ _ _ _ _ _ _ _ W8 hbw)
    | (generalize hW : World.alloc _ _ = W8
       have hbw:Below w6.heap.size w6 W8:=by
         rw [<-hW]
         exact hb7.alloc hb7.size _
       with_reducible exact HTL.out _ _ _ _ _ _ _ _ _ _ _ _ _ _ _ _ _ _ _ _ _ _ _ _ _ _ _ _ _ _ _ _ _ _ _ _ _ _ _ _ _ _ _ _ _ _ _ _ _ _ _ _ _ _ _ _ _ W8 hbw)
set_option maxHeartbeats 8000000 in
set_option maxRecDepth 1000000 in
theorem ruser_walk {lo:Nat} {w:World} {R:Nat} {v:Value} {role:Nat->Role} {x:RfSt} (h:RfAt lo w R v role x) (hlo:lo<=w.heap.size) (few:x.us.length<=16) {a:Option Addr} {n c:Nat} {ws:List ByteArray} (hn:ws.length=n) (hws:∀ i s,ws[i]? = some s -> ∃ ad,a=some ad /\ w.cell? (ad.add i)=some (.string s) /\ s.size<=maxLen) {x':RfSt} {e':Int} (hF:ruserP x (ws.map bytesL)=some (x',e')) :
    Calls Tryz.prog 57 #[.pointer (some ⟨R,0,none⟩),.slice a n c] w fun e w'=>RfPost lo R x' e' e w w':=by
  by_cases h7:n=7
  · subst h7
    match ws,hn,hws,hF with
    | [s0,s1,s2,s3,s4,s5,s6],_,hws,hF=>
    obtain ⟨ad,rfl,c0,z0⟩:=hws 0 s0 rfl
    obtain ⟨_,e1,c1,z1⟩:=hws 1 s1 rfl
    injection e1 with e1
    subst e1
    obtain ⟨_,e1,c2,z2⟩:=hws 2 s2 rfl
    injection e1 with e1
    subst e1
    obtain ⟨_,e1,c3,z3⟩:=hws 3 s3 rfl
    injection e1 with e1
    subst e1
    obtain ⟨_,e1,c4,z4⟩:=hws 4 s4 rfl
    injection e1 with e1
    subst e1
    obtain ⟨_,e1,c5,z5⟩:=hws 5 s5 rfl
    injection e1 with e1
    subst e1
    obtain ⟨_,e1,c6,z6⟩:=hws 6 s6 rfl
    injection e1 with e1
    subst e1
    rw [add_pos _ (by decide)] at c1 c2 c3 c4 c5 c6
    have hF:(F_wlvref18_name (bytesL s1)).bind (fun q=>cond q (
      (F_wlvref18_unhex (bytesL s2)).bind fun sa=>(F_wlvref18_unhex (bytesL s3)).bind fun di=>(F_wlvref_Num (bytesL s4) 1 1000).bind fun n=>(F_wlvref_Num (bytesL s5) 0 1125899906842624).bind fun up=>(F_wlvref_Num (bytesL s6) 0 1125899906842624).bind fun dn=>ruserG x (bytesL s1) sa di n up dn) (some (x,2)))=some (x',e'):=hF
    cases hq0:F_wlvref18_name (bytesL s1) with
    | none=>rw [hq0] at hF;cases hF
    | some q0=>
    rw [hq0,Option.bind_some] at hF
    cases q0 with
    | false=>
      injection hF with hF
      obtain ⟨rfl,rfl⟩:=Prod.mk.inj hF
      exact ruser_bad hlo c1 z1 hq0
    | true=>
      rw [cond_true] at hF
      obtain ⟨sa,h1,hF⟩:=Option.bind_eq_some_iff.1 hF
      obtain ⟨di,h2,hF⟩:=Option.bind_eq_some_iff.1 hF
      obtain ⟨n,h3,hF⟩:=Option.bind_eq_some_iff.1 hF
      obtain ⟨up,h4,hF⟩:=Option.bind_eq_some_iff.1 hF
      obtain ⟨dn,h5,hF⟩:=Option.bind_eq_some_iff.1 hF
      exact ruser_seven h hlo few c1 c2 c3 c4 c5 c6 z1 z2 z3 z4 z5 z6 ⟨hq0,h1,h2,h3,h4,h5⟩ hF
  · have hF : some (x, (2 : Int)) = some (x', e') := by
      rw [<-hF]
      match ws,hn with
      | [],_=>rfl
      | [_],_=>rfl
      | [_,_],_=>rfl
      | [_,_,_],_=>rfl
      | [_,_,_,_],_=>rfl
      | [_,_,_,_,_],_=>rfl
      | [_,_,_,_,_,_],_=>rfl
      | [_,_,_,_,_,_,_],hn=>exact absurd hn.symm h7
      | _::_::_::_::_::_::_::_::_,_=>rfl
    injection hF with hF
    obtain ⟨rfl,rfl⟩:=Prod.mk.inj hF
    clear hws hn
    go_enter Tryz.func57,Tryz.ntmps57
    go_wp2
    go_ret
    exact ⟨rfl,Below.refl _ _,fun e=>by cases e⟩
end Go.Proofs.YtgfmfgombmpodaaGreatDoor
namespace Go.Proofs.YtgfmfgombmpodaaGreatDoor
open Go.RowKit Pv
set_option linter.unusedVariables false
def lastN (us:List UserD) (s:List Int):Nat->Int
 | 0=>-1
 | k+1=>match us[k]? with
  | some u=>cond (u.1==s) (k:Int) (lastN us s k)
  | none=>lastN us s k
theorem lastN_in (us:List UserD) (s:List Int):∀ k,-1<=lastN us s k /\ lastN us s k < (k:Int)
 | 0=>⟨Int.le_refl _,by show (-1:Int) < 0;decide⟩
 | k+1=>by
  have ih:=lastN_in us s k
  unfold lastN
  cases us[k]? with
  | none=>exact ⟨ih.1,by show lastN us s k < _;omega⟩
  | some u=>
   show -1<=cond (u.1==s) (k:Int) (lastN us s k) /\ cond (u.1==s) (k:Int) (lastN us s k) < ((k+1:Nat):Int)
   cases u.1==s
   ·show -1<=lastN us s k /\ lastN us s k < _
    omega
   ·show -1<=(k:Int) /\ (k:Int) < _
    omega
abbrev PatR:=Int×List Int×List Int×Int
noncomputable def rpatG (b:List Int) (nt:List Int×Int×Int) (hn:List Int×Int):Option (Option PatR):=
 cond (b==[42]) (some (some (0,[],[],0))) (cond (Nat.ble 2 b.length&&(b.headD 0==46)) ((F_wlvref15_Name (b.drop 1)).bind fun sg=>cond (sg.2==0) (cond (Nat.ble (1+sg.1.length) maxLen) (some (some (2,46::sg.1,[],0))) none) (some none))
  (cond (nt.2.2==0) (some (some (3,[],nt.1,nt.2.1))) (cond (hn.2==0) (some (some (1,hn.1,[],0))) (some none))))
def rruleG (x:RfSt) (a:List Int) (allow:Bool) (pf pt:Int) (p:Option PatR):Option (RfSt×Int):=
 match p with
 | none=>some (x,2)
 | some p=>match x.us[(lastN x.us a x.us.length).toNat]? with
  | none=>none
  | some u=>cond (Nat.ble 64 u.2.2.2.2.length) (some (x,7)) (some ({ x with us:=x.us.set (lastN x.us a x.us.length).toNat (u.1,u.2.1,u.2.2.1,u.2.2.2.1,u.2.2.2.2++[(allow,p.1,p.2.1,(p.2.2.1,p.2.2.2),pf,pt)]) },0))
noncomputable def rruleP (x:RfSt):List (List Int)->Option (RfSt×Int)
 | [w,a,b,c]=>(F_wlvref18_ports c).bind fun sp=>cond (decide (lastN x.us a x.us.length < 0) || !sp.2.2) (some (x,2)) ((F_wlvref15_ParseNet b).bind fun nt=>(F_wlvref15_Name b).bind fun hn=>(rpatG b nt hn).bind fun p=>rruleG x a (w==lbA) sp.1 sp.2.1 p)
 | _=>some (x,2)
theorem rf_rule_end {lo:Nat} {w W0 wz w':World} {R U cap m i k:Nat} {role:Nat->Role} {x:RfSt} {u:UserD} {r:RuleD} {news rs xs:List Value} {nm:ByteArray} {vs vd vr':Value} {ra:Option Addr} {rc:Nat} (hm:x.us.length=m) (hlo:lo<=w.heap.size) (h:RfAt lo w R (.slice (some ⟨U,0,none⟩) m cap) role x)
    (hU:w.ownsRow lo 63 6 (.slice (some ⟨U,0,none⟩) x.us.length cap) x.us.length xs /\ (∀ i u,x.us[i]? = some u->UserAt lo w role i u ((xs.drop (i*6)).take 6)) /\ role U=.usr) (hu:x.us[i]? = some u) (hcs:(xs.drop (i*6)).take 6=[.string nm,vs,vd,.int .i64 u.2.2.1,.complex .f64 u.2.2.2.1.1 u.2.2.2.1.2,.slice ra u.2.2.2.2.length rc]) (hnm:bytesL nm=u.1) (hnmz:nm.size<=maxLen) (hwf:(Lit.int .i64 u.2.2.1).wf=true)
    (hvs:RowAt lo w role .flat 5 (.int .u8) u.2.1.1 vs) (hvd:RowAt lo w role .flat 5 (.int .u8) u.2.1.2 vd) (r1:w.ownsRow lo 68 ruleT.size (.slice ra u.2.2.2.2.length rc) u.2.2.2.2.length rs) (r2:∀ b,(Value.slice ra u.2.2.2.2.length rc).ownBlock=some b->role b=.row i) (r3:∀ (j:Nat) (y:ruleT.D),(show List ruleT.D from u.2.2.2.2)[j]? = some y->RepD w noC ruleT y ((rs.drop (j*ruleT.size)).take ruleT.size)) (hk:u.2.2.2.2.length=k)
    (hn7:news.length=7) (hnew:RepD w noC ruleT r news) (hg:W0.grownBy wz (Value.slice ra k rc).ownBlock) (hown:wz.ownsRow lo 68 7 vr' (k+1) (rs++news)) (hat:vr'.ownBlock=(Value.slice ra k rc).ownBlock \/ vr'.ownBlock=some W0.heap.size)
    (hW:∀ b,b < w.heap.size->W0.heap[b]? = w.heap[b]?) (hWs:w.heap.size<=W0.heap.size) (hWq:W0.os=w.os /\ W0.tape=w.tape /\ W0.output=w.output) (he:w'.heap=(wz.setCell ⟨U,i*6+5,none⟩ vr').heap) (hq:w'.os=wz.os /\ w'.tape=wz.tape /\ w'.output=wz.output) :
    RfPost lo R { x with us:=x.us.set i (u.1,u.2.1,u.2.2.1,u.2.2.2.1,u.2.2.2.2++[r]) } 0 (.returned (.int .i64 0)) w w':=by
  subst hm
  subst hk
  obtain ⟨u1,u3,u2⟩:=hU
  have hk:∀ b,role b≠.no->W0.heap[b]? = w.heap[b]?:=fun b hb=>hW b (h.lt b hb).2
  have hk0:∀ b,role b=.flat->role b=.flat /\ W0.heap[b]? = w.heap[b]?:=fun b hb=>⟨hb,hk b (by rw [hb];intro e;cases e)⟩
  have hUlt:=h.lt U (by rw [u2];intro e;cases e)
  have hvU:(Value.slice ra u.2.2.2.2.length rc).ownBlock≠some U:=fun e=>by
    have:=r2 U e
    rw [u2] at this
    cases this
  obtain ⟨role', hr⟩ := rf_put (h.keep hk hWs) hu hn7 (repD_flat rfl hnew) (owns_keep u1 fun b hb => hk b (by
      have e:U=b:=by injection hb
      rw [<-e,u2];intro e;cases e)) u2 (fun j y hy=>(u3 j y hy).keep fun b hb=>⟨rfl,hk b (by rcases hb with hb | hb <;> (rw [hb];intro e;cases e))⟩) hcs hnm hnmz hwf (hvs.keep rfl (by intro e;cases e) hk0) (hvd.keep rfl (by intro e;cases e) hk0)
    (owns_keep r1 fun b hb=>hk b (by rw [r2 b hb];intro e;cases e)) r2 (fun j y hy=>repD_flat rfl (r3 j y hy)) hg hown hat
  refine ⟨rfl,⟨hq.1.trans (hg.os.trans hWq.1),hq.2.1.trans (hg.tape.trans hWq.2.1),hq.2.2.trans (hg.output.trans hWq.2.2),?_,fun b hb=>?_⟩,fun _=>⟨_,role',hr.keep (fun b _=>by rw [he]) (by rw [he];exact Nat.le_refl _)⟩⟩
  · rw [he]
    have h2:=hg.size
    have h3:(wz.setCell ⟨U,i*6+5,none⟩ vr').heap.size=wz.heap.size:=by simp [World.setCell]
    omega
  · rw [he,setCell_heap,if_neg (by show b≠U;omega),hg.block b (by omega) fun e=>?_,hW b (by omega)]
    have:=(h.lt b (by rw [r2 b e.symm];intro e;cases e)).1
    omega
theorem below_two {w w1:World} {L o1 o2:Nat} {v1 v2:Value} (hb:Below w.heap.size w w1) (hL:w.heap.size<=L):Below w.heap.size w ((w1.setCell ⟨L,o1,none⟩ v1).setCell ⟨L,o2,none⟩ v2):=by
 refine ⟨hb.os,hb.tape,hb.output,?_,fun k hk=>?_⟩
 ·have:=hb.size
  simpa [World.setCell] using this
 ·rw [setCell_heap,if_neg (by show k≠L;omega),setCell_heap,if_neg (by show k≠L;omega)]
  exact hb.block k hk
theorem rf_stored {w5 ws:World} {L:Nat} {v0 v1 v2 v3 v4 v5 v6 f t:Value} {T:TypeId} (h:w5.heap[L]? = some (.cells #[v0,v1,v2,v3,v4,v5,v6] T (0,0))) (hws:(w5.setCell ⟨L,5,none⟩ f).setCell ⟨L,6,none⟩ t=ws) :
  ws.heap[L]? = some (.cells #[v0,v1,v2,v3,v4,f,t] T (0,0)) /\ ws.os=w5.os /\ ws.tape=w5.tape /\ ws.output=w5.output:=by
 subst hws
 refine ⟨?_,rfl,rfl,rfl⟩
 rw [set_heap (set_heap h)]
 rfl
theorem rf_net {w w3:World} {L:Nat} {v0 v1 v2 v3 v4 v5 v6 a b c:Value} {T:TypeId} (hb:Below w.heap.size w w3) (hL:w.heap.size<=L) (h:w3.heap[L]? = some (.cells #[v0,v1,v2,v3,v4,v5,v6] T (0,0))) :
  Below w.heap.size w (((w3.setCell ⟨L,1,none⟩ a).setCell ⟨L,3,none⟩ b).setCell ⟨L,4,none⟩ c).drew /\ (((w3.setCell ⟨L,1,none⟩ a).setCell ⟨L,3,none⟩ b).setCell ⟨L,4,none⟩ c).drew.heap[L]? = some (.cells #[v0,a,v2,b,c,v5,v6] T (0,0)):=by
 have hb2:=below_two (o1:=1) (v1:=a) (o2:=3) (v2:=b) hb hL
 refine ⟨⟨hb2.os,hb2.tape,hb2.output,?_,fun k hk=>?_⟩,?_⟩
 ·have:=hb2.size
  simpa [World.setCell,World.drew] using this
 ·show (((w3.setCell ⟨L,1,none⟩ a).setCell ⟨L,3,none⟩ b).setCell ⟨L,4,none⟩ c).heap[k]? = _
  rw [setCell_heap,if_neg (by show k≠L;omega)]
  exact hb2.block k hk
 ·show (((w3.setCell ⟨L,1,none⟩ a).setCell ⟨L,3,none⟩ b).setCell ⟨L,4,none⟩ c).heap[L]? = _
  rw [set_heap (set_heap (set_heap h))]
  rfl
theorem rf_host {w w3:World} {L:Nat} {v0 v1 v2 v3 v4 v5 v6 a b:Value} {T:TypeId} (hb:Below w.heap.size w w3) (hL:w.heap.size<=L) (h:w3.heap[L]? = some (.cells #[v0,v1,v2,v3,v4,v5,v6] T (0,0))) :
  Below w.heap.size w ((w3.setCell ⟨L,1,none⟩ a).setCell ⟨L,2,none⟩ b) /\ ((w3.setCell ⟨L,1,none⟩ a).setCell ⟨L,2,none⟩ b).heap[L]? = some (.cells #[v0,a,b,v3,v4,v5,v6] T (0,0)):=by
 refine ⟨below_two (o1:=1) (v1:=a) (o2:=2) (v2:=b) hb hL,?_⟩
 rw [set_heap (set_heap h)]
 rfl
set_option maxHeartbeats 16000000 in
set_option maxRecDepth 1000000 in
theorem rrule_four {lo:Nat} {w:World} {R:Nat} {v:Value} {role:Nat->Role} {x:RfSt} (h:RfAt lo w R v role x) (hlo:lo<=w.heap.size) (few:x.us.length<=16) {ad:Addr} {c:Nat} {s0 s1 s2 s3:ByteArray} (c0:w.cell? ad=some (.string s0)) (c1:w.cell? ⟨ad.block,ad.off+1,none⟩=some (.string s1)) (c2:w.cell? ⟨ad.block,ad.off+2,none⟩=some (.string s2)) (c3:w.cell? ⟨ad.block,ad.off+3,none⟩=some (.string s3))
    (z2:s2.size<=maxLen) (z3:s3.size<=maxLen) {pf pt:Int} {ok:Bool} (hsp:F_wlvref18_ports (bytesL s3)=some (pf,pt,ok)) {x':RfSt} {e':Int}
    (hF:cond (decide (lastN x.us (bytesL s1) x.us.length < 0) || !ok) (some (x,2)) ((F_wlvref15_ParseNet (bytesL s2)).bind fun nt=>(F_wlvref15_Name (bytesL s2)).bind fun hn=>(rpatG (bytesL s2) nt hn).bind fun p=>rruleG x (bytesL s1) (bytesL s0==lbA) pf pt p)=some (x',e')) :
    Calls Tryz.prog 58 #[.pointer (some ⟨R,0,none⟩),.slice (some ad) 4 c] w fun e w'=>RfPost lo R x' e' e w w':=by
  obtain ⟨xs,t1,t2,t3⟩:=h.hU
  obtain ⟨m,hm⟩:∃ m,x.us.length=m:=⟨_,rfl⟩
  obtain ⟨va,vc,rfl⟩:∃ va vc,v=.slice va m vc:=by
    rw [hm] at t1
    rcases t1.2 with ⟨rfl,hn0⟩ | ⟨g,cap,cur,rfl,_⟩
    · exact ⟨none,0,by rw [hn0]⟩
    · exact ⟨_,_,rfl⟩
  have hcells:∀ i u,x.us[i]? = some u -> ∃ (U:Nat) (d0:ByteArray),va=some ⟨U,0,none⟩ /\ U < w.heap.size /\ bytesL d0=u.1 /\ w.cell? ⟨U,i*6,none⟩=some (.string d0):=fun i u hu=>by
    obtain ⟨nm',vs,vd,vr,q1,q2,_⟩:=t3 i u hu
    rcases t1.2 with ⟨e,hn⟩ | ⟨g,cap',cur,e,_,hg,_⟩
    · have:=(List.getElem?_eq_some_iff.1 hu).1
      omega
    · injection e with e1 e2 e3
      subst e1
      have u1':=t1
      rw [<-hm] at u1'
      obtain ⟨k0,_⟩:=user_cells u1' q1
      exact ⟨g,nm',rfl,(Array.getElem?_eq_some_iff.1 hg).1,q2,k0⟩
  have HC:Aside (∀ i u,x.us[i]? = some u -> ∃ (U:Nat) (d0:ByteArray),va=some ⟨U,0,none⟩ /\ U < w.heap.size /\ bytesL d0=u.1 /\ w.cell? ⟨U,i*6,none⟩=some (.string d0)):=hcells
  have hal:(s0.toList==[97,108,108,111,119])=(bytesL s0==lbA):=ln_lit s0 [97,108,108,111,119]
  obtain ⟨al,hal2⟩:∃ al,(bytesL s0==lbA)=al:=⟨_,rfl⟩
  rw [hal2] at hal hF
  have HL:Aside (lo<=w.heap.size /\ RfAt lo w R (.slice va m vc) role x /\ x.us.length=m /\ x.us.length<=16):=⟨hlo,h,hm,few⟩
  have hm16:m<=16:=by rw [<-hm];exact few
  have HF:Aside _:=hF
  have HSP:Aside (F_wlvref18_ports (bytesL s3)=some (pf,pt,ok)):=hsp
  clear hF hsp hlo h few hal2 hcells t1 t2 t3 xs
  go_enter Tryz.func58,Tryz.ntmps58
  go_wp2
  go_loopw [5,6] (fun vt vi wr=>∃ k:Nat,k<=m /\ vi=.int .i64 k /\ vt=.int .i64 (lastN x.us (bytesL s1) k) /\ Below w.heap.size w wr) (fun _ vi _=>m - (intOf vi).toNat)
  case atStart=>exact ⟨0,by omega,rfl,rfl,Below.refl _ _⟩
  case round=>
    obtain ⟨k,hk,rfl,rfl,hb⟩:=hrel
    have HRr:Aside (RfAt lo wr R (.slice va m vc) role x):=HL.out.2.1.below hb
    have r7:=(rf_cells HRr.out.hR).1
    have c0r:=cell_b c0 hb
    have c1r:=cell_b c1 hb
    have c2r:=cell_b c2 hb
    have c3r:=cell_b c3 hb
    have hadl:ad.block < wr.heap.size:=cell_lt c0r
    by_cases hlt:k < m
    · obtain ⟨u,hu⟩:∃ u,x.us[k]? = some u:=⟨_,List.getElem?_eq_getElem (by rw [HL.out.2.2.1];exact hlt)⟩
      obtain ⟨U,d0,rfl,hUl,hnm,k0⟩:=HC.out k u hu
      rw [<-hb.cell hUl] at k0
      have hq0:=bytes_eq d0 s1
      rw [hnm] at hq0
      have HU:Aside (x.us[k]? = some u):=hu
      have hlk:lastN x.us (bytesL s1) (k+1)=cond (u.1==bytesL s1) (k:Int) (lastN x.us (bytesL s1) k):=by
        show (match x.us[k]? with | some u=>cond (u.1==bytesL s1) (k:Int) (lastN x.us (bytesL s1) k) | none=>lastN x.us (bytesL s1) k)=_
        rw [hu]
      have HLK:Aside _:=hlk
      clear hu hnm hlk
      cases hq:u.1==bytesL s1 with
      | true=>
        rw [hq] at hq0
        have HQ:Aside ((u.1==bytesL s1)=true):=hq
        clear hq
        go_wp2
        go_region
        all_goals
          go_wp2
          refine ⟨⟨k+1,by omega,by simp,by rw [HLK.out,HQ.out];rfl,Below.drew hb⟩,by simp [intOf];omega⟩
      | false=>
        rw [hq] at hq0
        have HQ:Aside ((u.1==bytesL s1)=false):=hq
        clear hq
        go_wp2
        go_region
        all_goals
          go_wp2
          refine ⟨⟨k+1,by omega,by simp,by rw [HLK.out,HQ.out];rfl,Below.drew hb⟩,by simp [intOf];omega⟩
    · obtain rfl:k=m:=by omega
      obtain ⟨A,hA⟩:∃ A,lastN x.us (bytesL s1) k=A:=⟨_,rfl⟩
      have hAi:=lastN_in x.us (bytesL s1) k
      rw [hA] at hAi ⊢
      obtain ⟨hA1,hA2⟩:=hAi
      have HA:Aside (lastN x.us (bytesL s1) x.us.length=A):=by
        show lastN x.us (bytesL s1) x.us.length=A
        rw [HL.out.2.2.1];exact hA
      clear hA hlt
      have hRl:R < wr.heap.size:=(HRr.out.lt R (by rw [HRr.out.rR];intro e;cases e)).2
      have hF:=HF.out
      rw [HA.out] at hF
      have HB:Aside (Below w.heap.size w wr):=hb
      by_cases hneg:A < 0
      · rw [decide_eq_true hneg] at hF
        have hx:some (x,(2:Int))=some (x',e'):=hF
        injection hx with hx
        obtain ⟨rfl,rfl⟩:=Prod.mk.inj hx
        clear hF HF hx
        go_wp2_with (go_at_call 101;refine (rports_calls z3 HSP.out).mono ?_;rintro e w1 ⟨rfl,q1,q2,hb1'⟩;have hz1:=(hb1'.block wr.heap.size (by simp)).trans (heap_alloc_new wr _);have hb1:Below w.heap.size w w1:=(HB.out.alloc HB.out.size _).trans (hb1'.mono (by simp;exact Nat.le_succ_of_le HB.out.size));have hs1:wr.heap.size < w1.heap.size:=(Array.getElem?_eq_some_iff.1 hz1).1;obtain ⟨l0,l1,l2,l3,l4,l5,l6,lz⟩:=cells7 hz1;clear hb1' hz1)
        go_ret
        exact ⟨rfl,(below_two hb1 HB.out.size).mono HL.out.1,fun e=>by cases e⟩
      · rw [decide_eq_false hneg] at hF
        cases ok with
        | false=>
          have hx:some (x,(2:Int))=some (x',e'):=hF
          injection hx with hx
          obtain ⟨rfl,rfl⟩:=Prod.mk.inj hx
          clear hF HF hx
          go_wp2_with (go_at_call 101;refine (rports_calls z3 HSP.out).mono ?_;rintro e w1 ⟨rfl,q1,q2,hb1'⟩;have hz1:=(hb1'.block wr.heap.size (by simp)).trans (heap_alloc_new wr _);have hb1:Below w.heap.size w w1:=(HB.out.alloc HB.out.size _).trans (hb1'.mono (by simp;exact Nat.le_succ_of_le HB.out.size));have hs1:wr.heap.size < w1.heap.size:=(Array.getElem?_eq_some_iff.1 hz1).1;obtain ⟨l0,l1,l2,l3,l4,l5,l6,lz⟩:=cells7 hz1;clear hb1' hz1)
          go_ret
          exact ⟨rfl,(below_two hb1 HB.out.size).mono HL.out.1,fun e=>by cases e⟩
        | true=>
        have hF:((F_wlvref15_ParseNet (bytesL s2)).bind fun nt=>(F_wlvref15_Name (bytesL s2)).bind fun hn=>(rpatG (bytesL s2) nt hn).bind fun p=>rruleG x (bytesL s1) al pf pt p)=some (x',e'):=hF
        clear HF
        obtain ⟨⟨nip,nb,ne⟩,hnt,hF1⟩:=Option.bind_eq_some_iff.1 hF
        clear hF
        obtain ⟨⟨hnl,hne⟩,hhn,hF2⟩:=Option.bind_eq_some_iff.1 hF1
        clear hF1
        obtain ⟨p,hpp,hF3⟩:=Option.bind_eq_some_iff.1 hF2
        clear hF2
        have HG:Aside (_ /\ _ /\ _ /\ _):=⟨hnt,hhn,hpp,hF3⟩
        clear hF3 hnt hhn hpp
        go_wp2_with (go_at_call 101;refine (rports_calls z3 HSP.out).mono ?_;rintro e w1 ⟨rfl,q1,q2,hb1'⟩;have hz1:=(hb1'.block wr.heap.size (by simp)).trans (heap_alloc_new wr _);have hb1:Below w.heap.size w w1:=(HB.out.alloc HB.out.size _).trans (hb1'.mono (by simp;exact Nat.le_succ_of_le HB.out.size));have hs1:wr.heap.size < w1.heap.size:=(Array.getElem?_eq_some_iff.1 hz1).1;obtain ⟨l0,l1,l2,l3,l4,l5,l6,lz⟩:=cells7 hz1;have c21:=cell_b c2 hb1;have HZ1:Aside _:=hz1;have HQ1:Aside (_ /\ _):=⟨q1,q2⟩;clear hb1' hz1 q1 q2)
        go_at_call 102
        generalize hws:World.setCell _ _ _=ws
        obtain ⟨g1,g2,g3,g4⟩:=rf_stored HZ1.out hws
        have hbs:Below w.heap.size w ws:=by { rw [<-hws];exact below_two hb1 HB.out.size }
        clear l0 l1 l2 l3 l4 l5 l6 lz hws
        refine (rnet_calls z2 HG.out.1).mono ?_
        rintro e w2 ⟨ts,rfl,n1,n2,n3,hb2'⟩
        have hb2:Below w.heap.size w w2:=hbs.trans (hb2'.mono hbs.size)
        have hz2:=(hb2'.block wr.heap.size (Array.getElem?_eq_some_iff.1 g1).1).trans g1
        have hs2:wr.heap.size < w2.heap.size:=(Array.getElem?_eq_some_iff.1 hz2).1
        have HZ2:Aside _:=hz2
        have c22:=cell_b c2 hb2
        have hadl2:ad.block < w2.heap.size:=cell_lt (a:=⟨ad.block,ad.off+2,none⟩) c22
        have HN:Aside (_ /\ _ /\ _):=⟨n1,n2,n3⟩
        clear hb2' hz2 g1 g2 g3 g4 n1 n2 n3
        go_wp2_with (go_at_call 101;skip)
        go_at_call 103
        refine (rhost_calls z2 HG.out.2.1).mono ?_
        rintro e w3 ⟨th,rfl,m1,m2,hb3'⟩
        go_simp
        iterate 20 go_step
        rename_i K8 hK8
        have tail:∀ (u6 u8 u9 u10 u11 u12 u13 u14 u15 u16 u17 u18 u19 u20 u21 u22 u23 u24 u25 u26 u27 u28 u29 u30 u31 u32 u33 u34 u35 u36 u37 u38 u39 u40 u41 u42 u43 u44 u45 u46 u47 u48 u49 u50 u51 u52 u53 u54 u55 u56 u57 u58 u59 u60 u61 u62 u63 u64 u65 u66 u67 u68 u69 u70 u71 u72 u73 u74 u75 u76 u77 u78 u79 u80 u81 u82 u83 u84 u85 u86 u87 u88 u89 u90 u91 u92 u93 u94 u95 u96 u97 u98 u99 u100 u101 u102 u103 u104 u105 u106 u107 u108 u109 u110 u111 u112 u113 u114 u115 u116 u117 u118 u119 u120:Value) (kd nb8:Int) (hs ns:ByteArray) (W8:World),hs.size<=maxLen->ns.size<=maxLen->(Lit.int .i64 kd).wf=true->(Lit.int .i64 nb8).wf=true->Below w.heap.size w W8->W8.heap[wr.heap.size]? = some (.cells #[.bool al,.int .i64 kd,.string hs,.string ns,.int .i64 nb8,.int .i64 pf,.int .i64 pt] 68 (0,0))->rruleG x (bytesL s1) al pf pt (some (kd,bytesL hs,bytesL ns,nb8))=some (x',e')->K8 ⟨#[Value.pointer (some ⟨R,0,none⟩),Value.slice (some ad) 4 c,undef,undef,Value.int IntKind.i64 0,Value.int IntKind.i64 A,u6,Value.pointer (some ⟨wr.heap.size,0,none⟩),u8,u9,u10,u11,u12,u13,u14,u15,u16,u17,u18,u19,u20,u21,u22,u23,u24,u25,u26,u27,u28,u29,u30,u31,u32,u33,u34,u35,u36,u37,u38,u39,u40,u41,u42,u43,u44,u45,u46,u47,u48,u49,u50,u51,u52,u53,u54,u55,u56,u57,u58,u59,u60,u61,u62,u63,u64,u65,u66,u67,u68,u69,u70,u71,u72,u73,u74,u75,u76,u77,u78,u79,u80,u81,u82,u83,u84,u85,u86,u87,u88,u89,u90,u91,u92,u93,u94,u95,u96,u97,u98,u99,u100,u101,u102,u103,u104,u105,u106,u107,u108,u109,u110,u111,u112,u113,u114,u115,u116,u117,u118,u119,u120,undef,undef,undef,undef,undef,undef,undef,undef,undef,undef,undef,undef,undef,undef,undef,undef,undef,undef,undef,undef,undef,undef,undef,undef,undef,undef,undef,undef,undef,undef,undef],[]⟩ W8:=by
          intro u6 u8 u9 u10 u11 u12 u13 u14 u15 u16 u17 u18 u19 u20 u21 u22 u23 u24 u25 u26 u27 u28 u29 u30 u31 u32 u33 u34 u35 u36 u37 u38 u39 u40 u41 u42 u43 u44 u45 u46 u47 u48 u49 u50 u51 u52 u53 u54 u55 u56 u57 u58 u59 u60 u61 u62 u63 u64 u65 u66 u67 u68 u69 u70 u71 u72 u73 u74 u75 u76 u77 u78 u79 u80 u81 u82 u83 u84 u85 u86 u87 u88 u89 u90 u91 u92 u93 u94 u95 u96 u97 u98 u99 u100 u101 u102 u103 u104 u105 u106 u107 u108 u109 u110 u111 u112 u113 u114 u115 u116 u117 u118 u119 u120 kd nb8 hs ns W8 z4 z5 wk wn hb8 hL8 hg
          refine hK8 _ _ ?_
          clear hK8 hb3' c22 hadl2 c0r c1r c2r c3r hadl r7 c0 c1 c2 c3
          obtain ⟨i,rfl⟩:∃ i:Nat,A=(i:Int):=⟨A.toNat,by omega⟩
          have hik:i < k:=by omega
          obtain ⟨u,hu⟩:∃ u,x.us[i]? = some u:=⟨_,List.getElem?_eq_getElem (by rw [HL.out.2.2.1];exact hik)⟩
          obtain ⟨xs,t1,t2,t3⟩:=HL.out.2.1.hU
          obtain ⟨U,rfl⟩:∃ U,va=some ⟨U,0,none⟩:=by
            obtain ⟨U,_,h1,_⟩:=HC.out i u hu
            exact ⟨U,h1⟩
          have t1':w.ownsRow lo 63 6 (.slice (some ⟨U,0,none⟩) x.us.length vc) x.us.length xs:=by
            rw [HL.out.2.2.1]
            rw [HL.out.2.2.1] at t1
            exact t1
          have HU:Aside (w.ownsRow lo 63 6 (.slice (some ⟨U,0,none⟩) x.us.length vc) x.us.length xs /\ (∀ i u,x.us[i]? = some u->UserAt lo w role i u ((xs.drop (i*6)).take 6)) /\ role U=.usr):=⟨t1',t3,t2 U rfl⟩
          obtain ⟨nm,vs,vd,vr,y1,y2,y3,y4,y5,y6,rs,r1,r2,r3⟩:=t3 i u hu
          obtain ⟨ra,rc,rfl⟩:∃ ra rc,vr=.slice ra u.2.2.2.2.length rc:=by
            rcases r1.2 with ⟨rfl,hn0⟩ | ⟨g,cap',cur,rfl,_⟩
            · exact ⟨none,0,by rw [show u.2.2.2.2.length=0 from hn0]⟩
            · exact ⟨_,_,rfl⟩
          have cU:=(user_cells HU.out.1 y1).2.2.2.2.2
          obtain ⟨j,hj⟩:∃ j,u.2.2.2.2.length=j:=⟨_,rfl⟩
          have HRW:Aside (w.ownsRow lo 68 7 (.slice ra j rc) j rs /\ ∀ b,(Value.slice ra j rc).ownBlock=some b->role b=.row i):=by
            rw [<-hj]
            exact ⟨r1,r2⟩
          have HY:Aside (_ /\ _ /\ _ /\ _ /\ _ /\ _ /\ _ /\ _ /\ _ /\ _):=⟨hu,y1,y2,y3,y4,y5,y6,r1,r2,r3⟩
          rw [hj] at cU
          have HKK:Aside (u.2.2.2.2.length=j):=hj
          have hg:cond (Nat.ble 64 j) (some (x,(7:Int))) (some (({ x with us:=x.us.set i (u.1,u.2.1,u.2.2.1,u.2.2.2.1,u.2.2.2.2++[(al,kd,bytesL hs,(bytesL ns,nb8),pf,pt)]) }:RfSt),(0:Int)))=some (x',e'):=by
            rw [<-hg]
            unfold rruleG
            dsimp only
            rw [HA.out,Int.toNat_natCast,hu]
            dsimp only
            rw [hj]
          have HR8:Aside (RfAt lo W8 R (.slice (some ⟨U,0,none⟩) k vc) role x):=HL.out.2.1.below hb8
          have r78:=(rf_cells HR8.out.hR).1
          have cU8:=cell_b cU hb8
          have hRl8:R < W8.heap.size:=(HR8.out.lt R (by rw [HR8.out.rR];intro e;cases e)).2
          have HB8:Aside _:=hb8
          have HL8:Aside _:=hL8
          have HZZ:Aside (_ /\ _ /\ _ /\ _):=⟨z4,z5,wk,wn⟩
          clear hu y1 y2 y3 y4 y5 y6 r1 r2 r3 t1 t2 t3 t1' hj hb8 hL8 z4 z5 wk wn HC cU hneg
          by_cases h64:64<=j
          · rw [Nat.ble_eq_true_of_le h64] at hg
            have hx:some (x,(7:Int))=some (x',e'):=hg
            injection hx with hx
            obtain ⟨rfl,rfl⟩:=Prod.mk.inj hx
            clear hg hx
            go_wp2
            go_ret
            exact ⟨rfl,HB8.out.mono HL.out.1,fun e=>by cases e⟩
          · rw [show Nat.ble 64 j=false from Bool.eq_false_iff.2 fun h=>h64 (Nat.le_of_ble_eq_true h)] at hg
            have hx:some (({ x with us:=x.us.set i (u.1,u.2.1,u.2.2.1,u.2.2.2.1,u.2.2.2.2++[(al,kd,bytesL hs,(bytesL ns,nb8),pf,pt)]) }:RfSt),(0:Int))=some (x',e'):=hg
            injection hx with hx
            obtain ⟨rfl,rfl⟩:=Prod.mk.inj hx
            clear hg hx
            obtain ⟨i0,hi0,hz0,hz1,hz2⟩:=info_parts infoR
            have HI:Aside (_ /\ _ /\ _ /\ _):=⟨hi0,hz0,hz1,hz2⟩
            clear hi0 hz0 hz1 hz2
            obtain ⟨l0,l1,l2,l3,l4,l5,l6,lz⟩:=cells7 HL8.out
            have hUw:U < w.heap.size:=(HL.out.2.1.lt U (by rw [HU.out.2.2];intro e;cases e)).2
            have hws:w.heap.size<=W8.heap.size:=HB8.out.size
            have fU8:W8.frozen? ⟨U,i*6+5,none⟩=false:=(World.frozen?_of_block (HB8.out.block U hUw)).trans (HU.out.1.frozenAt _)
            have hUs:U < W8.heap.size:=by omega
            have hLs:wr.heap.size < W8.heap.size:=(Array.getElem?_eq_some_iff.1 HL8.out).1
            have HVU:Aside (some U≠(Value.slice ra j rc).ownBlock):=fun e=>by
              have h1:=HRW.out.2 U e.symm
              rw [HU.out.2.2] at h1
              cases h1
            have HVR:Aside (some R≠(Value.slice ra j rc).ownBlock):=fun e=>by
              have h1:=HRW.out.2 R e.symm
              rw [HL.out.2.1.rR] at h1
              cases h1
            have HO:Aside (W8.ownsRow lo 68 7 (.slice ra j rc) j rs):=by
              exact owns_keep HRW.out.1 fun b hb=>HB8.out.block b (HL.out.2.1.lt b (by rw [HRW.out.2 b hb];intro e;cases e)).2
            clear lz
            go_wp2
            go_region_law ((refine step_append_own_at rfl (.tmp 146) (.tmp 148) 61 rfl lo 68 i0 ruleZ 7 72 Tryz.underlying61 HI.out.1 HI.out.2.1 HI.out.2.2.1 HI.out.2.2.2 rfl (by decide) (.slice ra j rc) j rs (by simp [Act.eval]) (owns_keep HO.out fun b hb=>heap_alloc_old _ _ (HO.out.lt b hb).2) ⟨W8.heap.size,0,none⟩ 1 1 [.bool al,.int .i64 kd,.string hs,.string ns,.int .i64 nb8,.int .i64 pf,.int .i64 pt] (by simp [Act.eval]) rfl (cells_new _ _ _) (fun u hu=>List.all_eq_true.1 (show List.all [Value.bool al,.int .i64 kd,.string hs,.string ns,.int .i64 nb8,.int .i64 pf,.int .i64 pt] Value.oneCell'=true from rfl) u hu) (by unfold maxLen;omega) (by omega) (Nat.le_trans HL.out.1 (Nat.le_trans hws (by simp))) ?_;intro v' wz hown' hgrow hat';obtain ⟨va',vc',rfl⟩:=own_slice hown';have hUz:wz.heap[U]? = W8.heap[U]?:=(hgrow.block U (by simp;omega) HVU.out).trans (heap_alloc_old _ _ hUs);have cUz:wz.cell? ⟨U,i*6+5,none⟩=some (.slice ra j rc):=(World.cell?_of_block hUz).trans cU8;have fUz:wz.frozen? ⟨U,i*6+5,none⟩=false:=(World.frozen?_of_block hUz).trans fU8;have cRz:wz.cell? ⟨R,7,none⟩=some (.slice (some ⟨U,0,none⟩) k vc):=(World.cell?_of_block ((hgrow.block R (by simp;omega) HVR.out).trans (heap_alloc_old _ _ hRl8))).trans r78))
            all_goals
              go_wp2
              go_ret
              obtain ⟨y0,y1,y2,y3,y4,y5,y6,r1,r2,r3⟩:=HY.out
              exact rf_rule_end HL.out.2.2.1 HL.out.1 HL.out.2.1 HU.out y0 y1 y2 y3 y4 y5 y6 r1 r2 r3 HKK.out rfl (rule_rep HZZ.out.1 HZZ.out.2.1 HZZ.out.2.2.1 HZZ.out.2.2.2 HQ1.out.1 HQ1.out.2) hgrow hown' hat' (fun b hb=>(heap_alloc_old _ _ (Nat.lt_of_lt_of_le hb hws)).trans (HB8.out.block b hb)) (Nat.le_trans hws (by simp)) ⟨HB8.out.os,HB8.out.tape,HB8.out.output⟩ rfl ⟨rfl,rfl,rfl⟩
        have HTL:Aside _:=tail
        clear tail
        have hb3:Below w.heap.size w w3:=(hb2.alloc hb2.size _).trans (hb3'.mono (by simp;exact Nat.le_succ_of_le hb2.size))
        have hz3:=(hb3'.block wr.heap.size (by simp;omega)).trans ((heap_alloc_old w2 _ hs2).trans HZ2.out)
        have hy3:=(hb3'.block w2.heap.size (by simp)).trans (heap_alloc_new w2 _)
        have hs3:wr.heap.size < w3.heap.size:=(Array.getElem?_eq_some_iff.1 hz3).1
        have ht3:w2.heap.size < w3.heap.size:=(Array.getElem?_eq_some_iff.1 hy3).1
        obtain ⟨l0,l1,l2,l3,l4,l5,l6,lz⟩:=cells7 hz3
        have c23:=cell_b c2 hb3
        have HZ3:Aside _:=hz3
        have HY3:Aside _:=hy3
        have HB3:Aside _:=hb3
        clear hz3 hy3 hb3 hb3' c22 hadl2 c0r c1r c2r c3r r7 hK8
        have hp:=HG.out.2.2.1
        unfold rpatG at hp
        have hstar:(s2.toList==[42])=(bytesL s2==[42]):=ln_lit s2 [42]
        cases hst:bytesL s2==[42] with
        | true=>
          rw [hst] at hp hstar
          injection hp with hp
          subst hp
          clear hst
          have hrr:rruleG x (bytesL s1) al pf pt (some (0,bytesL ⟨#[]⟩,bytesL ⟨#[]⟩,0))=some (x',e'):=HG.out.2.2.2
          go_wp2
          with_reducible exact HTL.out _ _ _ _ _ _ _ _ _ _ _ _ _ _ _ _ _ _ _ _ _ _ _ _ _ _ _ _ _ _ _ _ _ _ _ _ _ _ _ _ _ _ _ _ _ _ _ _ _ _ _ _ _ _ _ _ _ _ _ _ _ _ _ _ _ _ _ _ _ _ _ _ _ _ _ _ _ _ _ _ _ _ _ _ _ _ _ _ _ _ _ _ _ _ _ _ _ _ _ _ _ _ _ _ _ _ _ _ _ _ _ _ _ _ 0 0 ⟨#[]⟩ ⟨#[]⟩ w3 (by decide) (by decide) (by decide) (by decide) HB3.out HZ3.out hrr
        | false=>
        rw [hst,cond_false] at hp
        rw [hst] at hstar
        clear hst
        have hne0:∀ h0:0 < s2.size,(bytesL s2).headD 0=(((s2[0]'h0).toNat:Nat):Int):=fun h0=>by
          have h2:s2.data.toList[0]? = some (s2[0]'h0):=Lib.data_getElem? s2 0 h0
          show (s2.data.toList.map byteI).headD 0=_
          cases hq:s2.data.toList with
          | nil=>rw [hq] at h2;cases h2
          | cons y r=>
            rw [hq] at h2
            injection h2 with h2
            rw [<-h2]
            rfl
        obtain ⟨k0,k1⟩:w3.cell? ⟨w2.heap.size,0,none⟩=some (.string ts) /\ w3.cell? ⟨w2.heap.size,1,none⟩=some (.int .i64 nb):=by
          refine ⟨?_,?_⟩ <;> (rw [cell_at HY3.out];rfl)
        by_cases h1:1 < s2.size
        · have h0:0 < s2.size:=by omega
          by_cases hd:(((s2[0]'h0).toNat:Nat):Int)=46
          · have hb1 : (Nat.ble 2 (bytesL s2).length && ((bytesL s2).headD 0 == 46)) = true := by
              rw [bytes_len,Nat.ble_eq_true_of_le h1,hne0 h0,hd];rfl
            rw [hb1,cond_true] at hp
            obtain ⟨⟨sl,se⟩,hsg,hp1⟩:=Option.bind_eq_some_iff.1 hp
            have hsx:F_wlvref15_Name (bytesL (s2.extract 1 s2.size))=some (sl,se):=by
              rw [bytes_extract,List.take_of_length_le (by rw [bytes_len];omega)]
              exact hsg
            have zx:(s2.extract 1 s2.size).size<=maxLen:=by rw [ByteArray.size_extract];omega
            clear hp hsg hne0 hb1
            cases hs0:se==0 with
            | true=>
              rw [hs0,cond_true] at hp1
              have hsl:Nat.ble (1+sl.length) maxLen=true:=by
                cases hq:Nat.ble (1+sl.length) maxLen with
                | true=>rfl
                | false=>rw [hq] at hp1;cases hp1
              rw [hsl,cond_true] at hp1
              injection hp1 with hp1
              subst hp1
              obtain rfl:se=0:=by simpa using hs0
              have HP1:Aside (rruleG x (bytesL s1) al pf pt (some (2,46::sl,[],0))=some (x',e')):=HG.out.2.2.2
              have HSL:Aside (Nat.ble (1+sl.length) maxLen=true):=hsl
              clear hs0 hsl
              have htt:(⟨#[46]⟩:ByteArray).size=1:=rfl
              go_wp2_with (go_at_call 103;refine (rhost_calls zx hsx).mono ?_;rintro e w4 ⟨tg,rfl,o1,o2,hb4'⟩;have hz4:=(hb4'.block wr.heap.size hs3).trans HZ3.out;obtain ⟨m0,m1,m2,m3,m4,m5,m6,mz⟩:=cells7 hz4;have hts:1+tg.size<=maxLen:=(by rw [<-bytes_len,o1];exact Nat.le_of_ble_eq_true HSL.out);have HZ4:Aside _:=hz4;have HB4:Aside (Below w.heap.size w w4):=HB3.out.trans (hb4'.mono HB3.out.size);clear hz4 hb4')
              all_goals first
                | (exfalso;have h9:=hts;unfold maxLen at h9;omega)
                | (obtain ⟨b1, b2⟩ := rf_host (a := .int .i64 2) (b := .string (⟨#[46]⟩ ++ tg)) HB4.out HB.out.size HZ4.out
                   exact HTL.out _ _ _ _ _ _ _ _ _ _ _ _ _ _ _ _ _ _ _ _ _ _ _ _ _ _ _ _ _ _ _ _ _ _ _ _ _ _ _ _ _ _ _ _ _ _ _ _ _ _ _ _ _ _ _ _ _ _ _ _ _ _ _ _ _ _ _ _ _ _ _ _ _ _ _ _ _ _ _ _ _ _ _ _ _ _ _ _ _ _ _ _ _ _ _ _ _ _ _ _ _ _ _ _ _ _ _ _ _ _ _ _ _ _ 2 0 (⟨#[46]⟩++tg) ⟨#[]⟩ _ (by rw [ByteArray.size_append];exact hts) (by decide) (by decide) (by decide) b1 b2 (by rw [bytes_append,o1];exact HP1.out))
            | false=>
              rw [hs0,cond_false] at hp1
              injection hp1 with hp1
              subst hp1
              have HX:Aside (some (x,(2:Int))=some (x',e')):=HG.out.2.2.2
              go_wp2_with (go_at_call 103;refine (rhost_calls zx hsx).mono ?_;rintro e w4 ⟨tg,rfl,o1,o2,hb4'⟩)
              obtain ⟨rfl,rfl⟩:=Prod.mk.inj (Option.some.inj HX.out)
              go_ret
              exact ⟨rfl,(HB3.out.trans (hb4'.mono HB3.out.size)).mono HL.out.1,fun e=>by cases e⟩
          · rw [show (Nat.ble 2 (bytesL s2).length && ((bytesL s2).headD 0 == 46)) = false from by
              rw [hne0 h0,Bool.and_eq_false_iff]
              exact .inr (by simpa using hd),cond_false] at hp
            cases hn0:ne==0 with
            | true=>
              rw [hn0,cond_true] at hp
              injection hp with hp
              subst hp
              obtain rfl:ne=0:=by simpa using hn0
              have hrr:rruleG x (bytesL s1) al pf pt (some (3,bytesL ⟨#[]⟩,bytesL ts,nb))=some (x',e'):=by
                rw [HN.out.1]
                exact HG.out.2.2.2
              clear hn0 hne0
              go_wp2
              go_region
              all_goals
                go_step
                try go_simp
                obtain ⟨b1,b2⟩:=rf_net (a:=.int .i64 3) (b:=.string ts) (c:=.int .i64 nb) HB3.out HB.out.size HZ3.out
                exact HTL.out _ _ _ _ _ _ _ _ _ _ _ _ _ _ _ _ _ _ _ _ _ _ _ _ _ _ _ _ _ _ _ _ _ _ _ _ _ _ _ _ _ _ _ _ _ _ _ _ _ _ _ _ _ _ _ _ _ _ _ _ _ _ _ _ _ _ _ _ _ _ _ _ _ _ _ _ _ _ _ _ _ _ _ _ _ _ _ _ _ _ _ _ _ _ _ _ _ _ _ _ _ _ _ _ _ _ _ _ _ _ _ _ _ _ 3 nb ⟨#[]⟩ ts _ (by decide) HN.out.2.1 (by decide) HN.out.2.2 b1 b2 hrr
            | false=>
              rw [hn0,cond_false] at hp
              cases hh0:hne==0 with
              | true=>
                rw [hh0,cond_true] at hp
                injection hp with hp
                subst hp
                obtain rfl:hne=0:=by simpa using hh0
                have hrr:rruleG x (bytesL s1) al pf pt (some (1,bytesL th,bytesL ⟨#[]⟩,0))=some (x',e'):=by
                  rw [m1]
                  exact HG.out.2.2.2
                clear hh0 hne0
                go_wp2
                obtain ⟨b1,b2⟩:=rf_host (a:=.int .i64 1) (b:=.string th) HB3.out HB.out.size HZ3.out
                exact HTL.out _ _ _ _ _ _ _ _ _ _ _ _ _ _ _ _ _ _ _ _ _ _ _ _ _ _ _ _ _ _ _ _ _ _ _ _ _ _ _ _ _ _ _ _ _ _ _ _ _ _ _ _ _ _ _ _ _ _ _ _ _ _ _ _ _ _ _ _ _ _ _ _ _ _ _ _ _ _ _ _ _ _ _ _ _ _ _ _ _ _ _ _ _ _ _ _ _ _ _ _ _ _ _ _ _ _ _ _ _ _ _ _ _ _ 1 0 th ⟨#[]⟩ _ m2 (by decide) (by decide) (by decide) b1 b2 hrr
              | false=>
                rw [hh0,cond_false] at hp
                injection hp with hp
                subst hp
                have hx:some (x,(2:Int))=some (x',e'):=HG.out.2.2.2
                injection hx with hx
                obtain ⟨rfl,rfl⟩:=Prod.mk.inj hx
                clear hx hne0
                go_wp2
                go_ret
                exact ⟨rfl,HB3.out.mono HL.out.1,fun e=>by cases e⟩
        · rw [show (Nat.ble 2 (bytesL s2).length && ((bytesL s2).headD 0 == 46)) = false from by
            rw [bytes_len,show Nat.ble 2 s2.size=false from Bool.eq_false_iff.2 fun h=>by have:=Nat.le_of_ble_eq_true h;omega];rfl,cond_false] at hp
          cases hn0:ne==0 with
          | true=>
            rw [hn0,cond_true] at hp
            injection hp with hp
            subst hp
            obtain rfl:ne=0:=by simpa using hn0
            have hrr:rruleG x (bytesL s1) al pf pt (some (3,bytesL ⟨#[]⟩,bytesL ts,nb))=some (x',e'):=by
              rw [HN.out.1]
              exact HG.out.2.2.2
            clear hn0 hne0
            go_wp2
            go_region
            all_goals
              go_step
              try go_simp
              obtain ⟨b1,b2⟩:=rf_net (a:=.int .i64 3) (b:=.string ts) (c:=.int .i64 nb) HB3.out HB.out.size HZ3.out
              exact HTL.out _ _ _ _ _ _ _ _ _ _ _ _ _ _ _ _ _ _ _ _ _ _ _ _ _ _ _ _ _ _ _ _ _ _ _ _ _ _ _ _ _ _ _ _ _ _ _ _ _ _ _ _ _ _ _ _ _ _ _ _ _ _ _ _ _ _ _ _ _ _ _ _ _ _ _ _ _ _ _ _ _ _ _ _ _ _ _ _ _ _ _ _ _ _ _ _ _ _ _ _ _ _ _ _ _ _ _ _ _ _ _ _ _ _ 3 nb ⟨#[]⟩ ts _ (by decide) HN.out.2.1 (by decide) HN.out.2.2 b1 b2 hrr
          | false=>
            rw [hn0,cond_false] at hp
            cases hh0:hne==0 with
            | true=>
              rw [hh0,cond_true] at hp
              injection hp with hp
              subst hp
              obtain rfl:hne=0:=by simpa using hh0
              have hrr:rruleG x (bytesL s1) al pf pt (some (1,bytesL th,bytesL ⟨#[]⟩,0))=some (x',e'):=by
                rw [m1]
                exact HG.out.2.2.2
              clear hh0 hne0
              go_wp2
              obtain ⟨b1,b2⟩:=rf_host (a:=.int .i64 1) (b:=.string th) HB3.out HB.out.size HZ3.out
              exact HTL.out _ _ _ _ _ _ _ _ _ _ _ _ _ _ _ _ _ _ _ _ _ _ _ _ _ _ _ _ _ _ _ _ _ _ _ _ _ _ _ _ _ _ _ _ _ _ _ _ _ _ _ _ _ _ _ _ _ _ _ _ _ _ _ _ _ _ _ _ _ _ _ _ _ _ _ _ _ _ _ _ _ _ _ _ _ _ _ _ _ _ _ _ _ _ _ _ _ _ _ _ _ _ _ _ _ _ _ _ _ _ _ _ _ _ 1 0 th ⟨#[]⟩ _ m2 (by decide) (by decide) (by decide) b1 b2 hrr
            | false=>
              rw [hh0,cond_false] at hp
              injection hp with hp
              subst hp
              have hx:some (x,(2:Int))=some (x',e'):=HG.out.2.2.2
              injection hx with hx
              obtain ⟨rfl,rfl⟩:=Prod.mk.inj hx
              clear hx hne0
              go_wp2
              go_ret
              exact ⟨rfl,HB3.out.mono HL.out.1,fun e=>by cases e⟩
set_option maxHeartbeats 8000000 in
set_option maxRecDepth 1000000 in
theorem rrule_walk {lo:Nat} {w:World} {R:Nat} {v:Value} {role:Nat->Role} {x:RfSt} (h:RfAt lo w R v role x) (hlo:lo<=w.heap.size) (few:x.us.length<=16) {a:Option Addr} {n c:Nat} {ws:List ByteArray} (hn:ws.length=n) (hws:∀ i s,ws[i]? = some s -> ∃ ad,a=some ad /\ w.cell? (ad.add i)=some (.string s) /\ s.size<=maxLen) {x':RfSt} {e':Int} (hF:rruleP x (ws.map bytesL)=some (x',e')) :
    Calls Tryz.prog 58 #[.pointer (some ⟨R,0,none⟩),.slice a n c] w fun e w'=>RfPost lo R x' e' e w w':=by
  by_cases h4:n=4
  · subst h4
    match ws,hn,hws,hF with
    | [s0,s1,s2,s3],_,hws,hF=>
    obtain ⟨ad,rfl,c0,z0⟩:=hws 0 s0 rfl
    obtain ⟨_,e1,c1,z1⟩:=hws 1 s1 rfl
    injection e1 with e1
    subst e1
    obtain ⟨_,e1,c2,z2⟩:=hws 2 s2 rfl
    injection e1 with e1
    subst e1
    obtain ⟨_,e1,c3,z3⟩:=hws 3 s3 rfl
    injection e1 with e1
    subst e1
    rw [add_pos _ (by decide)] at c1 c2 c3
    have hF:(F_wlvref18_ports (bytesL s3)).bind (fun sp=>cond (decide (lastN x.us (bytesL s1) x.us.length < 0) || !sp.2.2) (some (x,2)) ((F_wlvref15_ParseNet (bytesL s2)).bind fun nt=>(F_wlvref15_Name (bytesL s2)).bind fun hn=>(rpatG (bytesL s2) nt hn).bind fun p=>rruleG x (bytesL s1) (bytesL s0==lbA) sp.1 sp.2.1 p))=some (x',e'):=hF
    obtain ⟨⟨pf,pt,ok⟩,h1,hF⟩:=Option.bind_eq_some_iff.1 hF
    rw [show ad.add 0=ad from by unfold Addr.add;simp] at c0
    exact rrule_four h hlo few c0 c1 c2 c3 z2 z3 h1 hF
  · have hF : some (x, (2 : Int)) = some (x', e') := by
      rw [<-hF]
      match ws,hn with
      | [],_=>rfl
      | [_],_=>rfl
      | [_,_],_=>rfl
      | [_,_,_],_=>rfl
      | [_,_,_,_],hn=>exact absurd hn.symm h4
      | _::_::_::_::_::_,_=>rfl
    injection hF with hF
    obtain ⟨rfl,rfl⟩:=Prod.mk.inj hF
    clear hws hn
    go_enter Tryz.func58,Tryz.ntmps58
    go_wp2
    go_ret
    exact ⟨rfl,Below.refl _ _,fun e=>by cases e⟩
def rfst0:RfSt:=⟨[false,false,false,false,false,false,false],[16,100,65535,1000,1000000,1000,16384],[]⟩
noncomputable def rlineW (x:RfSt) (ws:List (List Int)) (w0:List Int):Option (RfSt×Int):=
 cond (w0==lbL) ((rlimitP x ws).map fun p=>(p.1,cond p.2 0 2)) (cond (w0==lbU) (ruserP x ws) (cond (w0==lbA||w0==lbD) (rruleP x ws) (some (x,2))))
noncomputable def rlineP (x:RfSt) (s:List Int):Option (RfSt×Int):=cond (Nat.ble x.us.length 16) ((F_wlvref_Split s 32).bind fun ws=>match ws with | []=>none | w0::_=>rlineW x ws w0) none
noncomputable def rparseL:List (List Int)->RfSt->Option (RfSt×Int)
 | [],x=>some (x,0)
 | s::r,x=>cond (skipL s) (rparseL r x) ((rlineP x s).bind fun p=>cond (decide (p.2=0)) (rparseL r p.1) (some p))
def rfW (w:World):World:=(w.alloc (Obj.cells #[Value.int IntKind.i64 0,Value.int IntKind.i64 0,Value.int IntKind.i64 0,Value.int IntKind.i64 0,Value.int IntKind.i64 0,Value.int IntKind.i64 0,Value.int IntKind.i64 0,Value.slice none 0 0] 51)).alloc (Obj.cells (rfCells (.slice none 0 0) rfst0).toArray 116)
theorem start_rf (w:World):RfAt (w.heap.size+1) (rfW w) (w.heap.size+1) (.slice none 0 0) (fun b=>if b=w.heap.size+1 then .rdr else .no) rfst0:=by
 have sz:∀ (w:World) (o:Obj),(w.alloc o).heap.size=w.heap.size+1:=fun w o=>by simp
 have hs:(rfW w).heap.size=w.heap.size+1+1:=by
  unfold rfW
  rw [sz,sz]
 refine ⟨?_,if_pos rfl,rfl,rfl,⟨[],World.ownsRow_nil _ _ _ _,fun b hb=>(by cases hb),fun i u hu=>(by simp [rfst0] at hu)⟩,fun b hb=>?_,fun c hc=>?_⟩
 ·unfold rfW
  have:=heap_alloc_new (w.alloc (Obj.cells #[Value.int IntKind.i64 0,Value.int IntKind.i64 0,Value.int IntKind.i64 0,Value.int IntKind.i64 0,Value.int IntKind.i64 0,Value.int IntKind.i64 0,Value.int IntKind.i64 0,Value.slice none 0 0] 51)) (Obj.cells (rfCells (.slice none 0 0) rfst0).toArray 116)
  rw [sz] at this
  exact this
 ·rw [hs]
  by_cases h1:b=w.heap.size+1
  ·omega
  ·exact absurd (if_neg h1) hb
 ·simp [rfst0] at hc
  rcases hc with rfl | rfl | rfl | rfl | rfl | rfl | rfl <;> decide
theorem rf_two (w:World) {W':World} (o1 o2:Obj) (h:(w.alloc o1).alloc o2=W'):Below w.heap.size w W' /\ W'.heap[w.heap.size]? = some o1:=by
 have sz:∀ (w:World) (o:Obj),(w.alloc o).heap.size=w.heap.size+1:=fun w o=>by simp
 rw [<-h]
 refine ⟨((Below.refl _ w).alloc (Nat.le_refl _) _).alloc (by rw [sz];omega) _,?_⟩
 rw [heap_alloc_old _ _ (by rw [sz];omega)]
 exact heap_alloc_new w o1
def RpPost (w:World) (xf:RfSt) (ef:Int) (e:Ending) (w':World):Prop:=Below w.heap.size w w' /\ (ef≠0->e=.returned (.tuple #[.agg #[.int .i64 0,.int .i64 0,.int .i64 0,.int .i64 0,.int .i64 0,.int .i64 0,.int .i64 0,.slice none 0 0],.int .i64 ef])) /\
 (ef=0 -> ∃ v role n0 n1 n2 n3 n4 n5 n6,xf.n=[n0,n1,n2,n3,n4,n5,n6] /\ e=.returned (.tuple #[.agg #[.int .i64 n0,.int .i64 n1,.int .i64 n2,.int .i64 n3,.int .i64 n4,.int .i64 n5,.int .i64 n6,v],.int .i64 0]) /\ RfAt (w.heap.size+1) w' (w.heap.size+1) v role xf)
theorem rconf_ret {w:World} {R:Nat} {v0 v1 v2 v3 v4 v5 v6 v7 v:Value} {T:TypeId} {a:Act} {Z:Ending->World->Prop} (hd:a.defers=[]) (h2:a.tmps.getD 2 undef=.pointer (some ⟨R,0,none⟩)) (h3:a.tmps.getD 3 undef=v)
  (hR:w.heap[R]? = some (.cells #[v0,v1,v2,v3,v4,v5,v6,v7] T (0,0)))
  (hZ:Z (.returned (.tuple #[.agg #[v0,v1,v2,v3,v4,v5,v6,v7],v])) w):bodyPost Tryz.prog Tryz.f28 Z .ret a w:=by
 have hl:=run_loadVar_cells (P:=Tryz.prog) (w:=w) (t:=51) (ad:=⟨R,0,none⟩) (us:=[v0,v1,v2,v3,v4,v5,v6,v7]) sizeC rfl agC (fun j x hj=>by
  show w.cell? ((⟨R,0,none⟩:Addr).add j)=_
  have e:(⟨R,0,none⟩:Addr).add j=⟨R,j,none⟩:=by unfold Addr.add;simp;omega
  rw [e,Lib.cell_of_heap hR]
  rw [<-hj];simp)
 refine bodyPost_ret ?_ hd hZ
 rw [results_cell_tmp (p:=2) (u:=3) (ty:=51) rfl,h2,h3]
 simp [asAddr,hl]
theorem rf_seven {α:Type} {l:List α} (h:l.length=7):∃ a b c d e f g,l=[a,b,c,d,e,f,g]:=by
 match l,h with
 | [a,b,c,d,e,f,g],_=>exact ⟨a,b,c,d,e,f,g,rfl⟩
set_option maxHeartbeats 4000000 in
theorem set7d {w W:World} {b:Nat} {u0 u1 u2 u3 u4 u5 u6 u7 v0 v1 v2 v3 v4 v5 v6:Value} {T:TypeId} (h:w.heap[b]? = some (.cells #[u0,u1,u2,u3,u4,u5,u6,u7] T (0,0))) (hW:(((((((w.setCell ⟨b,0,none⟩ v0).setCell ⟨b,1,none⟩ v1).setCell ⟨b,2,none⟩ v2).setCell ⟨b,3,none⟩ v3).setCell ⟨b,4,none⟩ v4).setCell ⟨b,5,none⟩ v5).setCell ⟨b,6,none⟩ v6).drew=W) :
  W.heap[b]? = some (.cells #[v0,v1,v2,v3,v4,v5,v6,u7] T (0,0)) /\ (∀ k,k≠b->W.heap[k]? = w.heap[k]?) /\ W.heap.size=w.heap.size /\ W.os=w.os /\ W.tape=w.tape /\ W.output=w.output:=by
 have hd:∀ (w:World),w.drew.heap=w.heap:=fun w=>rfl
 have hsz:∀ (w:World) (a:Addr) (u:Value),(w.setCell a u).heap.size=w.heap.size:=fun w a u=>by simp [World.setCell]
 have hos:∀ (w:World) (a:Addr) (u:Value),(w.setCell a u).os=w.os /\ (w.setCell a u).tape=w.tape /\ (w.setCell a u).output=w.output:=fun w a u=>⟨rfl,rfl,rfl⟩
 have hdo:∀ (w:World),w.drew.os=w.os /\ w.drew.tape=w.tape /\ w.drew.output=w.output:=fun w=>⟨rfl,rfl,rfl⟩
 subst hW
 refine ⟨?_,fun k hk=>?_,by rw [hd,hsz,hsz,hsz,hsz,hsz,hsz,hsz],by rw [(hdo _).1,(hos _ _ _).1,(hos _ _ _).1,(hos _ _ _).1,(hos _ _ _).1,(hos _ _ _).1,(hos _ _ _).1,(hos _ _ _).1],by rw [(hdo _).2.1,(hos _ _ _).2.1,(hos _ _ _).2.1,(hos _ _ _).2.1,(hos _ _ _).2.1,(hos _ _ _).2.1,(hos _ _ _).2.1,(hos _ _ _).2.1],by rw [(hdo _).2.2,(hos _ _ _).2.2,(hos _ _ _).2.2,(hos _ _ _).2.2,(hos _ _ _).2.2,(hos _ _ _).2.2,(hos _ _ _).2.2,(hos _ _ _).2.2]⟩
 ·rw [hd,set_heap (set_heap (set_heap (set_heap (set_heap (set_heap (set_heap h))))))]
  rfl
 ·rw [hd,setCell_heap,if_neg hk,setCell_heap,if_neg hk,setCell_heap,if_neg hk,setCell_heap,if_neg hk,setCell_heap,if_neg hk,setCell_heap,if_neg hk,setCell_heap,if_neg hk]
set_option maxHeartbeats 16000000 in
set_option maxRecDepth 1000000 in
theorem rpar_walk {w:World} {a:Option Addr} {n c:Nat} {ls:List ByteArray} (hn:ls.length=n) (hsm:n<=1000000) (hls:∀ i s,ls[i]? = some s -> ∃ ad,a=some ad /\ w.cell? (ad.add i)=some (.string s) /\ s.size<=maxLen) {xf:RfSt} {ef:Int} (hF:rparseL (ls.map bytesL) rfst0=some (xf,ef)) :
    Calls Tryz.prog 28 #[.slice a n c] w fun e w'=>RpPost w xf ef e w':=by
  have hs0:=start_rf w
  have HL:Aside (ls.length=n /\ (∀ i s,ls[i]? = some s -> ∃ ad,a=some ad /\ w.cell? (ad.add i)=some (.string s) /\ s.size<=maxLen) /\ rparseL (ls.map bytesL) rfst0=some (xf,ef)):=⟨hn,hls,hF⟩
  have HS0:Aside (RfAt (w.heap.size+1) (rfW w) (w.heap.size+1) (.slice none 0 0) (fun b=>if b=w.heap.size+1 then .rdr else .no) rfst0):=hs0
  clear hn hls hF hs0
  go_enter Tryz.func28,Tryz.ntmps28
  go_wp2
  go_loopw [3,5] (fun u vi wr=>u=.int .i64 0 /\ ∃ k:Nat,vi=.int .i64 k /\ k<=n /\ Aside (∃ x v role,RfAt (w.heap.size+1) wr (w.heap.size+1) v role x /\ rparseL ((ls.drop k).map bytesL) x=some (xf,ef)) /\ Aside (wr.heap[w.heap.size]? = some (Obj.cells #[Value.int IntKind.i64 0,Value.int IntKind.i64 0,Value.int IntKind.i64 0,Value.int IntKind.i64 0,Value.int IntKind.i64 0,Value.int IntKind.i64 0,Value.int IntKind.i64 0,Value.slice none 0 0] 51 (0,0))) /\ Below w.heap.size w wr) (fun _ vi _=>n - (intOf vi).toNat)
  case atStart=>
    refine ⟨rfl,0,rfl,by omega,⟨rfst0,_,_,HS0.out,HL.out.2.2⟩,?_,?_⟩
    · exact (rf_two w _ _ rfl).2
    · exact (rf_two w _ _ rfl).1
  case round=>
    obtain ⟨rfl,k,rfl,hk,HX,HZ,hb⟩:=hrel
    have hwr:w.heap.size<=wr.heap.size:=hb.size
    by_cases hlt:k < n
    · obtain ⟨x,v,role,hrd,hp⟩:=HX.out
      have hkl:k < ls.length:=by rw [HL.out.1];exact hlt
      obtain ⟨s,hsk⟩:∃ s,ls[k]? = some s:=⟨_,List.getElem?_eq_getElem hkl⟩
      obtain ⟨ad,rfl,hc0,hz⟩:=HL.out.2.1 k s hsk
      have hcr:=par_cell hc0 hb
      rw [List.drop_eq_getElem_cons hkl,List.map_cons,show ls[k]=s from by rw [List.getElem?_eq_getElem hkl] at hsk;injection hsk] at hp
      have hp:cond (skipL (bytesL s)) (rparseL ((ls.drop (k+1)).map bytesL) x) ((rlineP x (bytesL s)).bind fun p=>cond (decide (p.2=0)) (rparseL ((ls.drop (k+1)).map bytesL) p.1) (some p))=some (xf,ef):=hp
      clear HX hsk hc0
      have hne:∀ h0:0 < s.size,bytesL s=(((s[0]'h0).toNat:Nat):Int)::(bytesL s).tail:=fun h0=>by
        have h1:s.data.toList.length=s.size:=by simp
        have h2:s.data.toList[0]? = some (s[0]'h0):=Lib.data_getElem? s 0 h0
        show s.data.toList.map byteI=_
        cases hq:s.data.toList with
        | nil=>rw [hq] at h2;cases h2
        | cons y r=>
          rw [hq] at h2
          injection h2 with h2
          show byteI y::r.map byteI=_
          rw [<-h2]
          show _=_::(s.data.toList.map byteI).tail
          rw [hq]
          rfl
      cases hsk:skipL (bytesL s) with
      | true=>
        rw [hsk,cond_true] at hp
        have HN:Aside (∃ x v role,RfAt (w.heap.size+1) wr (w.heap.size+1) v role x /\ rparseL ((ls.drop (k+1)).map bytesL) x=some (xf,ef)):=⟨x,v,role,hrd,hp⟩
        clear hrd hp
        by_cases h0:0 < s.size
        · have hc : (((s[0]'h0).toNat : Nat) : Int) = 35 := by
            unfold skipL at hsk
            rw [hne h0] at hsk
            simpa using hsk
          have hnn:¬ s.toList=[]:=fun e=>by
            have:=(bytes_nil s).2 e
            rw [hne h0] at this
            cases this
          clear hsk hne
          go_wp2
          all_goals exact ⟨⟨by first | rfl | trivial,k+1,by simp,by omega,HN,HZ,hb⟩,by simp [intOf];omega⟩
        · have hnn:s.toList=[]:=(bytes_nil s).1 (List.eq_nil_of_length_eq_zero (by rw [bytes_len];omega))
          clear hsk hne
          go_wp2
          all_goals exact ⟨⟨by first | rfl | trivial,k+1,by simp,by omega,HN,HZ,hb⟩,by simp [intOf];omega⟩
      | false=>
        rw [hsk,cond_false] at hp
        obtain ⟨⟨x1,e1⟩,hl1,hp⟩:=Option.bind_eq_some_iff.1 hp
        have hnn:¬ s.toList=[]:=fun e=>by
          have:=(bytes_nil s).2 e
          rw [this] at hsk
          cases hsk
        have h0:0 < s.size:=by
          rcases Nat.lt_or_ge 0 s.size with h | h
          · exact h
          · exact absurd ((bytes_nil s).1 (List.eq_nil_of_length_eq_zero (by rw [bytes_len];omega))) hnn
        have hc:¬ (((s[0]'h0).toNat:Nat):Int)=35:=fun e=>by
          unfold skipL at hsk
          rw [hne h0,e] at hsk
          cases hsk
        have hlw:w.heap.size+1<=wr.heap.size:=(Array.getElem?_eq_some_iff.1 HZ.out).1
        have hzb:∀ w2,Below (w.heap.size+1) wr w2->w2.heap[w.heap.size]? = _:=fun w2 h=>(h.block w.heap.size (by omega)).trans HZ.out
        unfold rlineP at hl1
        cases hfew:Nat.ble x.us.length 16 with
        | false=>rw [hfew] at hl1;cases hl1
        | true=>
        rw [hfew,cond_true] at hl1
        have few:=Nat.le_of_ble_eq_true hfew
        obtain ⟨wl,hspl,hl1⟩:=Option.bind_eq_some_iff.1 hl1
        cases wl with
        | nil=>cases hl1
        | cons w0 rest=>
        have hl1:rlineW x (w0::rest) w0=some (x1,e1):=hl1
        have HN:Aside (_ /\ _ /\ _ /\ _):=⟨hp,hzb,hrd,few⟩
        have HSP:Aside (_ /\ _):=⟨hspl,hz⟩
        have HW:Aside _:=hl1
        clear hrd hp hsk hne hl1 hzb hspl few hfew
        go_wp2_with (go_at_call 101;skip)
        all_goals first
          | (exfalso;rename_i hor;rcases hor with hor | hor;exact hnn (List.isEmpty_iff.1 hor);exact hc (by simpa using hor))
          | skip
        go_at_call 55
        refine (rsplit_calls HSP.out.2 HSP.out.1 (by intro e;cases e)).mono ?_
        rintro e w2 ⟨B,cap,bs,rfl,hbs,hB1,hB2,hcap,hcell,hb2⟩
        cases bs with
        | nil=>cases hbs
        | cons t0 ts=>
        obtain ⟨hbs0,hbsr⟩:=List.cons.inj hbs
        obtain ⟨m,hm⟩:∃ m,(t0::ts).length=m:=⟨_,rfl⟩
        rw [hm] at hcap ⊢
        have hm0:0 < m:=by rw [<-hm];simp
        have k0:w2.cell? ⟨B,0,none⟩=some (.string t0):=(hcell 0 t0 rfl).1
        have hws:∀ i s,(t0::ts)[i]? = some s -> ∃ ad,some (⟨B,0,none⟩:Addr)=some ad /\ w2.cell? (ad.add i)=some (.string s) /\ s.size<=maxLen:=fun i s h=>⟨_,rfl,by rw [add_at,Nat.zero_add];exact (hcell i s h).1,(hcell i s h).2⟩
        have hrd2:=HN.out.2.2.1.below hb2
        have hlw2:w.heap.size+1<=w2.heap.size:=Nat.le_trans hlw hb2.size
        have hbl:bytesL t0::ts.map bytesL=w0::rest:=hbs
        have hL:=ln_lit t0 [108,105,109,105,116]
        have hU:=ln_lit t0 [117,115,101,114]
        have hA:=ln_lit t0 [97,108,108,111,119]
        have hD:=ln_lit t0 [100,101,110,121]
        rw [show bytesL t0=w0 from hbs0] at hL hU hA hD
        have HH:Aside (_ /\ _ /\ _ /\ _):=⟨hws,hrd2,hlw2,hb2⟩
        have HM:Aside ((t0::ts).length=m /\ (t0::ts).map bytesL=w0::rest):=⟨hm,hbs⟩
        clear hws hrd2 hlw2 hb2 hcell hbs hbs0 hbsr hbl hm
        have hG:∀ w3,Below (w.heap.size+1) w2 w3->w3.heap[w.heap.size]? = some (Obj.cells #[Value.int IntKind.i64 0,Value.int IntKind.i64 0,Value.int IntKind.i64 0,Value.int IntKind.i64 0,Value.int IntKind.i64 0,Value.int IntKind.i64 0,Value.int IntKind.i64 0,Value.slice none 0 0] 51 (0,0)) /\ Below w.heap.size w w3:=fun w3 h3=>
          ⟨HN.out.2.1 w3 ((HH.out.2.2.2.mono hlw).trans h3),hb.trans (((HH.out.2.2.2.mono hlw).trans h3).mono (by omega))⟩
        have HG:Aside _:=hG
        have hl1:=HW.out
        unfold rlineW at hl1
        replace hL:(t0.toList==[108,105,109,105,116])=(w0==lbL):=hL
        replace hU:(t0.toList==[117,115,101,114])=(w0==lbU):=hU
        replace hA:(t0.toList==[97,108,108,111,119])=(w0==lbA):=hA
        replace hD:(t0.toList==[100,101,110,121])=(w0==lbD):=hD
        clear hG
        go_simp
        cases q1:w0==lbL with
        | true=>
          rw [q1,cond_true] at hl1
          rw [q1] at hL
          obtain ⟨⟨y,b⟩,h2,h3⟩:=Option.map_eq_some_iff.1 hl1
          obtain ⟨rfl,rfl⟩:=Prod.mk.inj h3
          have hwk:=rlimit_walk (c:=cap) HH.out.2.1 HH.out.2.2.1 HM.out.1 HH.out.1 (by rw [HM.out.2];exact h2)
          clear h2 h3 hl1 q1
          have HN0:=HN.out.1
          cases b with
          | true=>
            go_wp2_with (go_at_call 56;(refine hwk.mono ?_;rintro e w3 ⟨rfl,hb3,h3⟩;have H3:Aside (_ /\ _):=⟨hb3,h3⟩;obtain ⟨z0,z1,z2,z3,z4,z5,z6,z7,f0,f1,f2,f3,f4,f5,f6,f7⟩:=cells8 (HG.out w3 hb3).1;clear hb3 h3))
            all_goals
              obtain ⟨v',role',hrd'⟩:=H3.out.2 (by first | rfl | trivial)
              exact ⟨⟨by first | rfl | trivial,k+1,by simp,by omega,⟨_,v',role',hrd',HN.out.1⟩,(HG.out _ H3.out.1).1,(HG.out _ H3.out.1).2⟩,by simp [intOf];omega⟩
          | false=>
            have he:¬ (2:Int)=0:=by decide
            have hpe:some (y,(2:Int))=some (xf,ef):=HN0
            injection hpe with hpe
            obtain ⟨rfl,rfl⟩:=Prod.mk.inj hpe
            go_wp2_with (go_at_call 56;(refine hwk.mono ?_;rintro e w3 ⟨rfl,hb3,h3⟩;have H3:Aside (_ /\ _):=⟨hb3,h3⟩;obtain ⟨z0,z1,z2,z3,z4,z5,z6,z7,f0,f1,f2,f3,f4,f5,f6,f7⟩:=cells8 (HG.out w3 hb3).1;clear hb3 h3))
            all_goals
              generalize hW:World.setCell _ _ _=W8
              obtain ⟨y1,y2,y3,y4⟩:=set8 (HG.out _ H3.out.1).1 hW
              exact rconf_ret rfl rfl rfl y1 ⟨below_set (HG.out _ H3.out.1).2 y2 y3 y4,fun _=>rfl,fun h=>absurd h he⟩
        | false=>
        rw [q1,cond_false] at hl1
        rw [q1] at hL
        cases q2:w0==lbU with
        | true=>
          rw [q2,cond_true] at hl1
          rw [q2] at hU
          have hwk:=ruser_walk (c:=cap) HH.out.2.1 HH.out.2.2.1 HN.out.2.2.2 HM.out.1 HH.out.1 (by rw [HM.out.2];exact hl1)
          clear hl1 q1 q2
          have HN0:=HN.out.1
          by_cases he:e1=0
          · subst he
            go_wp2_with (go_at_call 57;(refine hwk.mono ?_;rintro e w3 ⟨rfl,hb3,h3⟩;have H3:Aside (_ /\ _):=⟨hb3,h3⟩;obtain ⟨z0,z1,z2,z3,z4,z5,z6,z7,f0,f1,f2,f3,f4,f5,f6,f7⟩:=cells8 (HG.out w3 hb3).1;clear hb3 h3))
            all_goals
              obtain ⟨v',role',hrd'⟩:=H3.out.2 (by first | rfl | trivial)
              exact ⟨⟨by first | rfl | trivial,k+1,by simp,by omega,⟨_,v',role',hrd',HN.out.1⟩,(HG.out _ H3.out.1).1,(HG.out _ H3.out.1).2⟩,by simp [intOf];omega⟩
          · have hpe : some (x1, e1) = some (xf, ef) := by
              rw [decide_eq_false he] at HN0
              exact HN0
            injection hpe with hpe
            obtain ⟨rfl,rfl⟩:=Prod.mk.inj hpe
            go_wp2_with (go_at_call 57;(refine hwk.mono ?_;rintro e w3 ⟨rfl,hb3,h3⟩;have H3:Aside (_ /\ _):=⟨hb3,h3⟩;obtain ⟨z0,z1,z2,z3,z4,z5,z6,z7,f0,f1,f2,f3,f4,f5,f6,f7⟩:=cells8 (HG.out w3 hb3).1;clear hb3 h3))
            all_goals
              generalize hW:World.setCell _ _ _=W8
              obtain ⟨y1,y2,y3,y4⟩:=set8 (HG.out _ H3.out.1).1 hW
              exact rconf_ret rfl rfl rfl y1 ⟨below_set (HG.out _ H3.out.1).2 y2 y3 y4,fun _=>rfl,fun h=>absurd h he⟩
        | false=>
        rw [q2,cond_false] at hl1
        rw [q2] at hU
        cases q3:w0==lbA with
        | true=>
          rw [q3] at hl1 hA
          have hl1:rruleP x (w0::rest)=some (x1,e1):=hl1
          have hwk:=rrule_walk (c:=cap) HH.out.2.1 HH.out.2.2.1 HN.out.2.2.2 HM.out.1 HH.out.1 (by rw [HM.out.2];exact hl1)
          clear hl1 q1 q2 q3
          have HN0:=HN.out.1
          by_cases he:e1=0
          · subst he
            go_wp2_with (go_at_call 58;(refine hwk.mono ?_;rintro e w3 ⟨rfl,hb3,h3⟩;have H3:Aside (_ /\ _):=⟨hb3,h3⟩;obtain ⟨z0,z1,z2,z3,z4,z5,z6,z7,f0,f1,f2,f3,f4,f5,f6,f7⟩:=cells8 (HG.out w3 hb3).1;clear hb3 h3))
            all_goals
              obtain ⟨v',role',hrd'⟩:=H3.out.2 (by first | rfl | trivial)
              exact ⟨⟨by first | rfl | trivial,k+1,by simp,by omega,⟨_,v',role',hrd',HN.out.1⟩,(HG.out _ H3.out.1).1,(HG.out _ H3.out.1).2⟩,by simp [intOf];omega⟩
          · have hpe : some (x1, e1) = some (xf, ef) := by
              rw [decide_eq_false he] at HN0
              exact HN0
            injection hpe with hpe
            obtain ⟨rfl,rfl⟩:=Prod.mk.inj hpe
            go_wp2_with (go_at_call 58;(refine hwk.mono ?_;rintro e w3 ⟨rfl,hb3,h3⟩;have H3:Aside (_ /\ _):=⟨hb3,h3⟩;obtain ⟨z0,z1,z2,z3,z4,z5,z6,z7,f0,f1,f2,f3,f4,f5,f6,f7⟩:=cells8 (HG.out w3 hb3).1;clear hb3 h3))
            all_goals
              generalize hW:World.setCell _ _ _=W8
              obtain ⟨y1,y2,y3,y4⟩:=set8 (HG.out _ H3.out.1).1 hW
              exact rconf_ret rfl rfl rfl y1 ⟨below_set (HG.out _ H3.out.1).2 y2 y3 y4,fun _=>rfl,fun h=>absurd h he⟩
        | false=>
        rw [q3] at hl1 hA
        cases q4:w0==lbD with
        | true=>
          rw [q4] at hl1 hD
          have hl1:rruleP x (w0::rest)=some (x1,e1):=hl1
          have hwk:=rrule_walk (c:=cap) HH.out.2.1 HH.out.2.2.1 HN.out.2.2.2 HM.out.1 HH.out.1 (by rw [HM.out.2];exact hl1)
          clear hl1 q1 q2 q3 q4
          have HN0:=HN.out.1
          by_cases he:e1=0
          · subst he
            go_wp2_with (go_at_call 58;(refine hwk.mono ?_;rintro e w3 ⟨rfl,hb3,h3⟩;have H3:Aside (_ /\ _):=⟨hb3,h3⟩;obtain ⟨z0,z1,z2,z3,z4,z5,z6,z7,f0,f1,f2,f3,f4,f5,f6,f7⟩:=cells8 (HG.out w3 hb3).1;clear hb3 h3))
            all_goals
              obtain ⟨v',role',hrd'⟩:=H3.out.2 (by first | rfl | trivial)
              exact ⟨⟨by first | rfl | trivial,k+1,by simp,by omega,⟨_,v',role',hrd',HN.out.1⟩,(HG.out _ H3.out.1).1,(HG.out _ H3.out.1).2⟩,by simp [intOf];omega⟩
          · have hpe : some (x1, e1) = some (xf, ef) := by
              rw [decide_eq_false he] at HN0
              exact HN0
            injection hpe with hpe
            obtain ⟨rfl,rfl⟩:=Prod.mk.inj hpe
            go_wp2_with (go_at_call 58;(refine hwk.mono ?_;rintro e w3 ⟨rfl,hb3,h3⟩;have H3:Aside (_ /\ _):=⟨hb3,h3⟩;obtain ⟨z0,z1,z2,z3,z4,z5,z6,z7,f0,f1,f2,f3,f4,f5,f6,f7⟩:=cells8 (HG.out w3 hb3).1;clear hb3 h3))
            all_goals
              generalize hW:World.setCell _ _ _=W8
              obtain ⟨y1,y2,y3,y4⟩:=set8 (HG.out _ H3.out.1).1 hW
              exact rconf_ret rfl rfl rfl y1 ⟨below_set (HG.out _ H3.out.1).2 y2 y3 y4,fun _=>rfl,fun h=>absurd h he⟩
        | false=>
          rw [q4] at hl1 hD
          have hl1:some (x,(2:Int))=some (x1,e1):=hl1
          injection hl1 with hl1
          obtain ⟨rfl,rfl⟩:=Prod.mk.inj hl1
          have HN0:=HN.out.1
          have he:¬ (2:Int)=0:=by decide
          have hpe:some (x,(2:Int))=some (xf,ef):=HN0
          injection hpe with hpe
          obtain ⟨rfl,rfl⟩:=Prod.mk.inj hpe
          have hbr:Below (w.heap.size+1) w2 w2:=(Below.refl _ w2).mono (by omega)
          obtain ⟨z0,z1,z2,z3,z4,z5,z6,z7,f0,f1,f2,f3,f4,f5,f6,f7⟩:=cells8 (HG.out w2 hbr).1
          have H3:Aside (Below (w.heap.size+1) w2 w2):=hbr
          go_wp2
          all_goals
            generalize hW:World.setCell _ _ _=W8
            obtain ⟨y1,y2,y3,y4⟩:=set8 (HG.out _ H3.out).1 hW
            exact rconf_ret rfl rfl rfl y1 ⟨below_set (HG.out _ H3.out).2 y2 y3 y4,fun _=>rfl,fun h=>absurd h he⟩
    · obtain rfl:k=n:=by omega
      obtain ⟨x,v,role,hrd,hp⟩:=HX.out
      rw [List.drop_eq_nil_of_le (by rw [HL.out.1];exact Nat.le_refl _)] at hp
      have hp:some (x,(0:Int))=some (xf,ef):=hp
      injection hp with hp
      obtain ⟨rfl,rfl⟩:=Prod.mk.inj hp
      obtain ⟨va,vn,vc,rfl⟩:∃ a n c,v=.slice a n c:=by
        obtain ⟨xs,u1,_⟩:=hrd.hU
        rcases u1.2 with ⟨rfl,_⟩ | ⟨g,cap,cur,rfl,_⟩
        · exact ⟨_,_,_,rfl⟩
        · exact ⟨_,_,_,rfl⟩
      have hR:=hrd.hR
      obtain ⟨b0,b1,b2,b3,b4,b5,b6,hset⟩:=rf_seven hrd.hs
      obtain ⟨n0,n1,n2,n3,n4,n5,n6,hnn⟩:=rf_seven hrd.hn
      have e22:rfCells (.slice va vn vc) x=[.int .i64 0,.int .i64 0,.int .i64 0,.int .i64 0,.int .i64 0,.int .i64 0,.int .i64 0,.slice va vn vc,.bool b0,.bool b1,.bool b2,.bool b3,.bool b4,.bool b5,.bool b6,.int .i64 n0,.int .i64 n1,.int .i64 n2,.int .i64 n3,.int .i64 n4,.int .i64 n5,.int .i64 n6]:=by
        unfold rfCells
        rw [hset,hnn]
        rfl
      rw [e22] at hR
      obtain ⟨r0,r1,r2,r3,r4,r5,r6,r7,r15,r16,r17,r18,r19,r20,r21⟩:wr.cell? ⟨w.heap.size+1,0,none⟩=some (.int .i64 0) /\ wr.cell? ⟨w.heap.size+1,1,none⟩=some (.int .i64 0) /\ wr.cell? ⟨w.heap.size+1,2,none⟩=some (.int .i64 0) /\ wr.cell? ⟨w.heap.size+1,3,none⟩=some (.int .i64 0) /\ wr.cell? ⟨w.heap.size+1,4,none⟩=some (.int .i64 0) /\ wr.cell? ⟨w.heap.size+1,5,none⟩=some (.int .i64 0) /\ wr.cell? ⟨w.heap.size+1,6,none⟩=some (.int .i64 0) /\ wr.cell? ⟨w.heap.size+1,7,none⟩=some (.slice va vn vc) /\ wr.cell? ⟨w.heap.size+1,15,none⟩=some (.int .i64 n0) /\ wr.cell? ⟨w.heap.size+1,16,none⟩=some (.int .i64 n1) /\ wr.cell? ⟨w.heap.size+1,17,none⟩=some (.int .i64 n2) /\ wr.cell? ⟨w.heap.size+1,18,none⟩=some (.int .i64 n3) /\ wr.cell? ⟨w.heap.size+1,19,none⟩=some (.int .i64 n4) /\ wr.cell? ⟨w.heap.size+1,20,none⟩=some (.int .i64 n5) /\ wr.cell? ⟨w.heap.size+1,21,none⟩=some (.int .i64 n6):=by
        refine ⟨?_,?_,?_,?_,?_,?_,?_,?_,?_,?_,?_,?_,?_,?_,?_⟩ <;> (rw [cell_at hR];rfl)
      have hRs:w.heap.size+1 < wr.heap.size:=(Array.getElem?_eq_some_iff.1 hR).1
      obtain ⟨z0,z1,z2,z3,z4,z5,z6,z7,f0,f1,f2,f3,f4,f5,f6,f7⟩:=cells8 HZ.out
      have HR:Aside (_ /\ _ /\ _):=⟨hR,hrd,hnn⟩
      clear hR hrd hset hnn e22
      go_wp2
      generalize hW:World.alloc wr _=W1
      have hb1:Below wr.heap.size wr W1:=by
        rw [<-hW]
        exact (Below.refl _ wr).alloc (Nat.le_refl _) _
      have hL1:W1.heap[wr.heap.size]? = some (.cells #[.int .i64 0,.int .i64 0,.int .i64 0,.int .i64 0,.int .i64 0,.int .i64 0,.int .i64 0,.slice va vn vc] 51 (0,0)):=by
        rw [<-hW]
        exact heap_alloc_new wr _
      clear hW
      obtain ⟨l0,l1,l2,l3,l4,l5,l6,l7,g0,g1,g2,g3,g4,g5,g6,g7⟩:=cells8 hL1
      replace r15:=cell_b r15 hb1
      replace r16:=cell_b r16 hb1
      replace r17:=cell_b r17 hb1
      replace r18:=cell_b r18 hb1
      replace r19:=cell_b r19 hb1
      replace r20:=cell_b r20 hb1
      replace r21:=cell_b r21 hb1
      clear r0 r1 r2 r3 r4 r5 r6 r7 z0 z1 z2 z3 z4 z5 z6 z7 f0 f1 f2 f3 f4 f5 f6 f7
      have hne1:wr.heap.size≠w.heap.size+1:=by omega
      have HB1:Aside (_ /\ _):=⟨hb1,hL1⟩
      clear hb1 hL1
      go_region_held (fun w'=>w'.cell? ⟨w.heap.size+1,15,none⟩=some (.int .i64 n0) /\ w'.cell? ⟨w.heap.size+1,16,none⟩=some (.int .i64 n1) /\ w'.cell? ⟨w.heap.size+1,17,none⟩=some (.int .i64 n2) /\ w'.cell? ⟨w.heap.size+1,18,none⟩=some (.int .i64 n3) /\ w'.cell? ⟨w.heap.size+1,19,none⟩=some (.int .i64 n4) /\ w'.cell? ⟨w.heap.size+1,20,none⟩=some (.int .i64 n5) /\ w'.cell? ⟨w.heap.size+1,21,none⟩=some (.int .i64 n6)) (go_keep) (fail)
      generalize hW:World.drew _=W2
      obtain ⟨hL2,x2,x3,x4,x5,x6⟩:=set7d HB1.out.2 hW
      have hb2:Below wr.heap.size wr W2:=⟨x4.trans HB1.out.1.os,x5.trans HB1.out.1.tape,x6.trans HB1.out.1.output,by rw [x3];exact HB1.out.1.size,fun b hb=>(x2 b (by omega)).trans (HB1.out.1.block b hb)⟩
      clear hW x2 x3 x4 x5 x6 l0 l1 l2 l3 l4 l5 l6 l7 g0 g1 g2 g3 g4 g5 g6 g7 r15 r16 r17 r18 r19 r20 r21
      obtain ⟨l0,l1,l2,l3,l4,l5,l6,l7,g0,g1,g2,g3,g4,g5,g6,g7⟩:=cells8 hL2
      have hZ2:=(hb2.block w.heap.size (by omega)).trans HZ.out
      obtain ⟨z0,z1,z2,z3,z4,z5,z6,z7,f0,f1,f2,f3,f4,f5,f6,f7⟩:=cells8 hZ2
      have HB2:Aside (_ /\ _):=⟨hb2,hZ2⟩
      clear hb2 hZ2 hL2
      go_wp2
      generalize hW:World.setCell _ _ _=W8
      obtain ⟨y1,y2,y3,y4⟩:=set8 HB2.out.2 hW
      refine rconf_ret rfl rfl rfl y1 ⟨below_set (hb.trans (HB2.out.1.mono hb.size)) y2 y3 y4,fun h=>absurd rfl h,fun _=>⟨_,_,n0,n1,n2,n3,n4,n5,n6,HR.out.2.2,rfl,(HR.out.2.1.below HB2.out.1).keep (fun b hr=>y2 b (by have:=(HR.out.2.1.lt b hr).1;omega)) (by rw [y3];exact Nat.le_refl _)⟩⟩
def F_wlvref18_Parse_sig:Sig:=F_conf_Parse_sig
noncomputable def F_wlvref18_Parse (l:List (List Int)):Option ConfR:=cond (Nat.ble l.length 1000000) ((rparseL l rfst0).bind fun p=>cond (decide (p.2=0)) (some (p.1.n.getD 0 0,p.1.n.getD 1 0,p.1.n.getD 2 0,p.1.n.getD 3 0,p.1.n.getD 4 0,p.1.n.getD 5 0,p.1.n.getD 6 0,p.1.us,0)) (cond (decide (0 < p.2)&&decide (p.2 < 10)) (some (0,0,0,0,0,0,0,[],p.2)) none)) none
theorem F_wlvref18_Parse_sound {T:Tab}:SoundFn Tryz.prog T 28 F_wlvref18_Parse_sig ⟨F_wlvref18_Parse⟩:=by
  refine sound_of rfl fun F g O xs ls y tmf w args hT hw hlim hls happ hsz hr=>?_
  obtain ⟨(l:List (List Int)),xs',rfl,h2⟩:=appF_inv_c (ts:=[]) happ
  obtain ⟨rfl,h3⟩:=appF_inv_n h2
  have hls':some [Leaf.d (.sl .str) l]=some ls:=hls
  injection hls' with hls'
  subst hls'
  obtain ⟨a,n,c,e0,e1,e2,e3,e4⟩:=rel_leaf.1 (hr 0)
  have e0:args.getD 0 undef=.slice a n c:=by injection e0
  rw [args_1 hsz,e0]
  have h3:F_wlvref18_Parse l=some y:=h3
  unfold F_wlvref18_Parse at h3
  cases hb:Nat.ble l.length 1000000 with
  | false=>rw [hb] at h3;cases h3
  | true=>
    rw [hb,cond_true] at h3
    obtain ⟨⟨xf,ef⟩,hp,h3⟩:=Option.bind_eq_some_iff.1 h3
    have hble:=Nat.le_of_ble_eq_true hb
    have e1:l.length=n:=e1
    obtain ⟨bs,hbs,hbc⟩:=strs_any (P:=fun i t=>∃ ad,a=some ad /\ w.cell? (ad.add i)=some (.string t) /\ t.size<=maxLen) l fun i s hs=>by
      obtain ⟨ad,us,q1,q2,q3,t,q4,q5,q6⟩:=e4 i s hs
      refine ⟨t,⟨ad,q1,?_,q6⟩,q5⟩
      have:=(q3 0 (.string t) (by rw [q4];rfl)).1
      rw [show (Ty.str).size=1 from rfl,Nat.mul_one,Nat.add_zero] at this
      exact this
    have hbl:bs.length=n:=by rw [<-e1,<- hbs,List.length_map]
    refine (rpar_walk hbl (by omega) hbc (by rw [hbs];exact hp)).mono ?_
    rintro e w' ⟨hbel,hno,hyes⟩
    by_cases he:ef=0
    · subst he
      obtain ⟨v,role,n0,n1,n2,n3,n4,n5,n6,hxn,rfl,hrd⟩:=hyes rfl
      have hy:((n0,n1,n2,n3,n4,n5,n6,xf.us,0):ConfR)=y:=by
        have h3:some ((xf.n.getD 0 0,xf.n.getD 1 0,xf.n.getD 2 0,xf.n.getD 3 0,xf.n.getD 4 0,xf.n.getD 5 0,xf.n.getD 6 0,xf.us,0):ConfR)=some y:=h3
        rw [hxn] at h3
        have h3:some ((n0,n1,n2,n3,n4,n5,n6,xf.us,0):ConfR)=some y:=h3
        injection h3
      subst hy
      obtain ⟨xs,u1,u2,u3⟩:=hrd.hU
      have hwfs:=hrd.wf
      have ti:∀ {C:Com} {bk:Tok->Option Nat} {x:Int},(Lit.int .i64 x).wf=true->RepL F ⟨C,bk,g.ρ,fun _ _=>[]⟩ w' (exitO F_wlvref18_Parse_sig) (.d (.int .i64) x) [.int .i64 x]:=fun h=>⟨rfl,h⟩
      have h70:∀ {k:Tok} {v0:Option Nat} {b:Nat},(match tokEq k (.hd 0 7) with | true=>v0 | false=>none)=some b->k=.hd 0 7 /\ v0=some b:=fun {k v0 b} hk=>by
        cases hq:tokEq k (.hd 0 7) with
        | false=>rw [hq] at hk;cases hk
        | true=>
          rw [hq] at hk
          refine ⟨?_,hk⟩
          cases k with
          | hd d j=>
            have:(Nat.beq d 0&&Nat.beq j 7)=true:=hq
            simp only [Bool.and_eq_true] at this
            rw [Nat.eq_of_beq_eq_true this.1,Nat.eq_of_beq_eq_true this.2]
          | zero=>cases hq
          | op _ _=>cases hq
      have fin : ∀ (C' : Com) (bk : Option Nat), (∀ b o, b < w.heap.size -> (C' b o ↔ g.C b o)) -> (∀ b o, C' b o -> b < w'.heap.size) -> (∀ b, bk = some b -> w.heap.size <= b /\ b < w'.heap.size) -> RepL F ⟨C', fun k => match tokEq k (.hd 0 7) with | true => bk | false => none, g.ρ, fun _ _ => []⟩ w' (exitO F_wlvref18_Parse_sig) (.own (.hd 0 7) 63 userT xf.us) [v] ->
          ∃ us os C' blk',Ending.returned (.tuple #[.agg #[.int .i64 n0,.int .i64 n1,.int .i64 n2,.int .i64 n3,.int .i64 n4,.int .i64 n5,.int .i64 n6,v],.int .i64 0])=.returned (retV us) /\ us.length=F_wlvref18_Parse_sig.rs.length /\ mkLs (Tok.hd 0) F_wlvref18_Parse_sig.outs 0 (unpackD (F_wlvref18_Parse_sig.outs.map LT.ty) ((n0,n1,n2,n3,n4,n5,n6,xf.us,0):ConfR))=some os /\ Below w.heap.size w w' /\
            (∀ b o,b < w.heap.size->(C' b o↔g.C b o)) /\ (∀ b o,C' b o->b < w'.heap.size) /\ blk' .zero=none /\ (∀ k b,blk' k=some b->w.heap.size<=b /\ b < w'.heap.size) /\ (∀ k k' b,blk' k=some b->blk' k'=some b->k=k') /\
            ∀ i,i < F_wlvref18_Parse_sig.rs.length->RelP F ⟨C',blk',g.ρ,fun _ _=>[]⟩ w' (exitO F_wlvref18_Parse_sig) tmf (us.getD i undef) (resAt F_wlvref18_Parse_sig.rs os i):=fun C' bk h1 h2 h3 h4=>by
        refine ⟨[.agg #[.int .i64 n0,.int .i64 n1,.int .i64 n2,.int .i64 n3,.int .i64 n4,.int .i64 n5,.int .i64 n6,v],.int .i64 0],_,C',fun k=>match tokEq k (.hd 0 7) with | true=>bk | false=>none,rfl,rfl,rfl,hbel,h1,h2,rfl,fun k b hk=>h3 b (h70 hk).2,fun k k' b hk hk'=>(h70 hk).1.trans (h70 hk').1.symm,fun i hi=>?_⟩
        match i,hi with
        | 0,_=>
          refine ⟨[.int .i64 n0,.int .i64 n1,.int .i64 n2,.int .i64 n3,.int .i64 n4,.int .i64 n5,.int .i64 n6,v],?_,rfl⟩
          have k0:(Lit.int .i64 n0).wf=true:=hwfs _ (by rw [hxn];simp)
          have k1:(Lit.int .i64 n1).wf=true:=hwfs _ (by rw [hxn];simp)
          have k2:(Lit.int .i64 n2).wf=true:=hwfs _ (by rw [hxn];simp)
          have k3:(Lit.int .i64 n3).wf=true:=hwfs _ (by rw [hxn];simp)
          have k4:(Lit.int .i64 n4).wf=true:=hwfs _ (by rw [hxn];simp)
          have k5:(Lit.int .i64 n5).wf=true:=hwfs _ (by rw [hxn];simp)
          have k6:(Lit.int .i64 n6).wf=true:=hwfs _ (by rw [hxn];simp)
          exact ⟨[_],_,rfl,ti k0,[_],_,rfl,ti k1,[_],_,rfl,ti k2,[_],_,rfl,ti k3,[_],_,rfl,ti k4,[_],_,rfl,ti k5,[_],_,rfl,ti k6,[_],[],rfl,h4,rfl⟩
        | 1,_=>exact rel_leaf.2 ⟨rfl,rfl⟩
        | i+2,hi=>exact absurd hi (by show ¬ i+2 < 2;omega)
      rcases u1.2 with ⟨rfl,hn0⟩ | ⟨U,cap,cur,rfl,hUlo,hcell,hlc,hcm,hcs,htake⟩
      · have hnil:xf.us=[]:=List.eq_nil_of_length_eq_zero hn0
        refine fin g.C none (fun _ _ _=>Iff.rfl) (fun b o h=>Nat.lt_of_lt_of_le (hlim b o h) hbel.size) (fun b h=>(by cases h)) ?_
        rw [hnil]
        exact ⟨⟨none,0,0,rfl,rfl,Nat.le_refl _,by unfold maxLen;omega,fun i x hx=>by
          have hx:List.nil[i]? = some x:=hx
          simp at hx⟩,fun _=>⟨_,rfl,.inl ⟨none,rfl,rfl,rfl⟩⟩⟩
      · have hUs:U < w'.heap.size:=(Array.getElem?_eq_some_iff.1 hcell).1
        have hroU:=u2 U rfl
        have hel:∀ (i:Nat) (x:UserD),xf.us[i]? = some x->RepD w' (fun b o=>g.C b o \/ (w.heap.size<=b /\ b < w'.heap.size /\ (b=U->o < xf.us.length*6))) userT x ((cur.toList.drop (i*6)).take 6):=fun i x hx=>by
          have h1:=user_rep (C:=fun b o=>g.C b o \/ (w.heap.size<=b /\ b < w'.heap.size /\ (b=U->o < xf.us.length*6))) (u3 i x hx) fun b o hb=>.inr (by
            have hne:role b≠.no:=by rcases hb with hb | hb <;> (rw [hb];intro e;cases e)
            have h2:=hrd.lt b hne
            refine ⟨by omega,h2.2,fun e=>?_⟩
            rw [e,hroU] at hb
            rcases hb with hb | hb <;> cases hb)
          rw [<-htake,take_row (List.getElem?_eq_some_iff.1 hx).1] at h1
          exact h1
        refine fin (fun b o=>g.C b o \/ (w.heap.size<=b /\ b < w'.heap.size /\ (b=U->o < xf.us.length*6))) (some U) (fun b o hb=>⟨fun h=>h.elim id fun h=>absurd h.1 (by omega),.inl⟩) (fun b o h=>h.elim (fun h=>Nat.lt_of_lt_of_le (hlim b o h) hbel.size) fun h=>h.2.1) (fun b h=>by injection h with h;rw [<-h];exact ⟨by omega,hUs⟩) ⟨⟨_,_,_,rfl,rfl,hlc,hcm,fun i x hx=>?_⟩,fun _=>⟨_,rfl,.inr ⟨U,cap,cur,rfl,rfl,hcell,hlc,hcm,hcs,hel,fun o=>?_,fun o _=>.inl (by rw [hw];omega)⟩⟩⟩
        · have hx:xf.us[i]? = some x:=hx
          have hr:=hel i x hx
          have hi:=(List.getElem?_eq_some_iff.1 hx).1
          refine ⟨_,_,rfl,RepD.len hr,fun j u hj=>?_,hr⟩
          have hjl:j < 6:=by
            have h4:=(List.getElem?_eq_some_iff.1 hj).1
            have h5:_=6:=RepD.len hr
            omega
          rw [List.getElem?_take,if_pos hjl,List.getElem?_drop] at hj
          rw [add_at]
          refine ⟨?_,.inr ⟨by show w.heap.size<=U;omega,hUs,fun _=>?_⟩⟩
          · rw [cell_at hcell,<- Array.getElem?_toList,Nat.zero_add];exact hj
          · show 0+(i*6+j) < _
            omega
        · show (g.C U o \/ (w.heap.size<=U /\ U < w'.heap.size /\ (U=U->o < xf.us.length*6)))↔o < xf.us.length*6
          constructor
          · rintro (h | h)
            · have:=hlim _ _ h
              omega
            · exact h.2.2 rfl
          · intro h
            exact .inr ⟨by omega,hUs,fun _=>h⟩
    · rw [hno he]
      have h3:cond (decide (ef=0)) (some ((xf.n.getD 0 0,xf.n.getD 1 0,xf.n.getD 2 0,xf.n.getD 3 0,xf.n.getD 4 0,xf.n.getD 5 0,xf.n.getD 6 0,xf.us,0):ConfR)) (cond (decide (0 < ef)&&decide (ef < 10)) (some ((0,0,0,0,0,0,0,[],ef):ConfR)) none)=some y:=h3
      rw [decide_eq_false he,cond_false] at h3
      cases hlt:(decide (0 < ef)&&decide (ef < 10)) with
      | false=>rw [hlt] at h3;cases h3
      | true=>
      rw [hlt] at h3
      have hy:((0,0,0,0,0,0,0,[],ef):ConfR)=y:=by
        have h3:some _=some y:=h3
        injection h3
      subst hy
      rw [Bool.and_eq_true,decide_eq_true_eq,decide_eq_true_eq] at hlt
      refine ⟨[.agg #[.int .i64 0,.int .i64 0,.int .i64 0,.int .i64 0,.int .i64 0,.int .i64 0,.int .i64 0,.slice none 0 0],.int .i64 ef],_,g.C,fun _=>none,rfl,rfl,rfl,hbel,fun _ _ _=>Iff.rfl,fun b o h=>Nat.lt_of_lt_of_le (hlim b o h) hbel.size,rfl,fun k b h=>(by cases h),fun k k' b h=>(by cases h),fun i hi=>?_⟩
      match i,hi with
      | 0,_=>
        have ti:∀ {x:Int},(Lit.int .i64 x).wf=true->RepL F ⟨g.C,fun _=>none,g.ρ,fun _ _=>[]⟩ w' (exitO F_wlvref18_Parse_sig) (.d (.int .i64) x) [.int .i64 x]:=fun h=>⟨rfl,h⟩
        refine ⟨[.int .i64 0,.int .i64 0,.int .i64 0,.int .i64 0,.int .i64 0,.int .i64 0,.int .i64 0,.slice none 0 0],?_,rfl⟩
        refine ⟨[_],_,rfl,ti rfl,[_],_,rfl,ti rfl,[_],_,rfl,ti rfl,[_],_,rfl,ti rfl,[_],_,rfl,ti rfl,[_],_,rfl,ti rfl,[_],_,rfl,ti rfl,[_],[],rfl,?_,rfl⟩
        exact ⟨⟨none,0,0,rfl,rfl,Nat.le_refl _,by unfold maxLen;omega,fun i x hx=>by
          have hx:List.nil[i]? = some x:=hx
          simp at hx⟩,fun _=>⟨_,rfl,.inl ⟨none,rfl,rfl,rfl⟩⟩⟩
      | 1,_=>
        have kw:(Lit.int .i64 ef).wf=true:=wf_of (by omega)
        exact rel_leaf.2 ⟨rfl,kw⟩
      | i+2,hi=>exact absurd hi (by show ¬ i+2 < 2;omega)
end Go.Proofs.YtgfmfgombmpodaaGreatDoor
namespace Go.Proofs.YtgfmfgombmpodaaGreatDoor
open Pv
set_option linter.unusedVariables false
end Go.Proofs.YtgfmfgombmpodaaGreatDoor
namespace Go.Proofs.YtgfmfgombmpodaaGreatDoor
open Pv
end Go.Proofs.YtgfmfgombmpodaaGreatDoor
namespace Go.Proofs.YtgfmfgombmpodaaGreatDoor
open Go.RowKit Pv
set_option linter.unusedVariables false
end Go.Proofs.YtgfmfgombmpodaaGreatDoor
namespace Go.Proofs.YtgfmfgombmpodaaGreatDoor
set_option linter.unusedVariables false
end Go.Proofs.YtgfmfgombmpodaaGreatDoor
namespace Go.Proofs.YtgfmfgombmpodaaGreatDoor
open Pv
set_option linter.unusedVariables false
end Go.Proofs.YtgfmfgombmpodaaGreatDoor
namespace Go.Proofs.YtgfmfgombmpodaaGreatDoor
open Go.RowKit Go.Lib Pv
set_option linter.unusedVariables false

end Go.Proofs.YtgfmfgombmpodaaGreatDoor
namespace Go.Proofs.YtgfmfgombmpodaaGreatDoor
open Go.RowKit
namespace Pv
set_option linter.unusedVariables false
end Pv
end Go.Proofs.YtgfmfgombmpodaaGreatDoor
namespace Go.Proofs.YtgfmfgombmpodaaGreatDoor
open Pv
set_option linter.unusedVariables false
end Go.Proofs.YtgfmfgombmpodaaGreatDoor
namespace Go.Proofs.YtgfmfgombmpodaaGreatDoor
open Go.RowKit Pv
set_option linter.unusedVariables false
end Go.Proofs.YtgfmfgombmpodaaGreatDoor
namespace Go.Proofs.YtgfmfgombmpodaaGreatDoor
open Go.RowKit Go.Shelf Pv
set_option linter.unusedVariables false
end Go.Proofs.YtgfmfgombmpodaaGreatDoor
namespace Go.Proofs.YtgfmfgombmpodaaGreatDoor
open Pv
end Go.Proofs.YtgfmfgombmpodaaGreatDoor
namespace Go.Proofs.YtgfmfgombmpodaaGreatDoor
open Go.RowKit Pv
set_option linter.unusedVariables false
end Go.Proofs.YtgfmfgombmpodaaGreatDoor
namespace Go.Proofs.YtgfmfgombmpodaaGreatDoor
open Pv
set_option linter.unusedVariables false
noncomputable def F_wlvlaw18_Few_L4 (l1:List (List Int)) (s:Int×Int):Option (((Bool)⊕(Int))⊕(Int×Int)):=
 let i2:=s.1;let i3:=s.2
 cond ((decide (i3 < (l1.length:Int)))&&(decide (i3 < 300)))
 ((getI l1 i3).bind fun s4=>
 some (.inr ((IntKind.i64.wrap (i2+(minI (s4.length:Int) 20001))),(IntKind.i64.wrap (i3+1)))))
 (some (.inl (.inr i2)))
noncomputable def F_wlvlaw18_Few_J2 (l1:List (List Int)) (s:Int):Option (Bool):=
 let i5:=s
 some ((decide ((l1.length:Int)<=300))&&(decide (i5<=20000)))
noncomputable def F_wlvlaw18_Few (l1:List (List Int)):Option (Bool):=
 joinC (S:=Int) (R:=Bool)
 (loopC (S:=Int×Int) (R:=(Bool)⊕(Int)) (F_wlvlaw18_Few_L4 l1) (0,0))
 (F_wlvlaw18_Few_J2 l1)
def F_wlvlaw18_Few_sig:Sig:=⟨[.v false [.d (.sl .str)]],[(false,[.d .bool])]⟩
def F_wlvlaw18_Few_ann:List (Nat×Ann):=[(2,⟨3,[(3,false,[.d (.int .i64)])],[],(List.range' 4 19),[]⟩),(4,⟨5,[(3,false,[.d (.int .i64)]),(4,false,[.d (.int .i64)])],[],(List.range' 5 18),[]⟩)]
noncomputable def F_wlvlaw18_Few_env:Env:=⟨Tryz.prog,[],[]⟩
theorem F_wlvlaw18_Few_text:pvFn F_wlvlaw18_Few_env F_wlvlaw18_Few_ann Tryz.f26 F_wlvlaw18_Few_sig=F_wlvlaw18_Few:=by kernel_rfl
noncomputable def F_wlvref_Bytes (l1:List Int) (l2:List Int):Option (Bool):=
 some (l1==l2)
def F_wlvref_Bytes_sig:Sig:=⟨[.v false [.d (.sl (.int .u8))],.v false [.d (.sl (.int .u8))]],[(false,[.d .bool])]⟩
def F_wlvref_Bytes_ann:List (Nat×Ann):=[]
noncomputable def F_wlvref_Bytes_env:Env:=⟨Tryz.prog,[],[]⟩
theorem F_wlvref_Bytes_text:pvFn F_wlvref_Bytes_env F_wlvref_Bytes_ann Tryz.f104 F_wlvref_Bytes_sig=F_wlvref_Bytes:=by kernel_rfl
noncomputable def F_wlvref18_sameUser_L6 (l6:List RuleD) (l12:List RuleD) (s:Int):Option (((Bool)⊕(Unit))⊕(Int)):=
 let i15:=s
 cond (decide (i15 < (l6.length:Int)))
 ((getI l6 i15).bind fun x16=>
 (getI l12 i15).bind fun x17=>
 cond (!((bEq x16.1 x17.1)&&((eqI x16.2.1 x17.2.1)&&((eqL x16.2.2.1 x17.2.2.1)&&(((eqL x16.2.2.2.1.1 x17.2.2.2.1.1)&&((eqI x16.2.2.2.1.2 x17.2.2.2.1.2)&&true))&&((eqI x16.2.2.2.2.1 x17.2.2.2.2.1)&&((eqI x16.2.2.2.2.2 x17.2.2.2.2.2)&&true)))))))
 (some (.inl (.inl false)))
 (some (.inr (IntKind.i64.wrap (i15+1)))))
 (some (.inl (.inr ())))
noncomputable def F_wlvref18_sameUser_J4 (s:Unit):Option (Bool):=
 some true
noncomputable def F_wlvref18_sameUser (s1:List Int) (l2:List Int) (l3:List Int) (i4:Int) (z5:(Nat×Nat)) (l6:List RuleD) (s7:List Int) (l8:List Int) (l9:List Int) (i10:Int) (z11:(Nat×Nat)) (l12:List RuleD):Option (Bool):=
 cond (!(s1==s7))
 (some false)
 ((F_wlvref_Bytes l2 l8).bind fun b13=>
 cond (!b13)
 (some false)
 ((F_wlvref_Bytes l3 l9).bind fun b14=>
 cond (!b14)
 (some false)
 (cond (i4 != i10)
 (some false)
 (cond (!(feq .f64 z5.1 z11.1&&feq .f64 z5.2 z11.2))
 (some false)
 (cond ((l6.length:Int) != (l12.length:Int))
 (some false)
 (joinC (S:=Unit) (R:=Bool)
 (loopC (S:=Int) (R:=(Bool)⊕(Unit)) (F_wlvref18_sameUser_L6 l6 l12) 0)
 (F_wlvref18_sameUser_J4)))))))
def F_wlvref18_sameUser_sig:Sig:=⟨[.v true [.d .str,.d (.sl (.int .u8)),.d (.sl (.int .u8)),.d (.int .i64),.d (.cpx .f64),.d (.sl (.pr .bool (.pr (.int .i64) (.pr .str (.pr (.pr .str (.int .i64)) (.pr (.int .i64) (.int .i64)))))))],.v true [.d .str,.d (.sl (.int .u8)),.d (.sl (.int .u8)),.d (.int .i64),.d (.cpx .f64),.d (.sl (.pr .bool (.pr (.int .i64) (.pr .str (.pr (.pr .str (.int .i64)) (.pr (.int .i64) (.int .i64)))))))]],[(false,[.d .bool])]⟩
def F_wlvref18_sameUser_ann:List (Nat×Ann):=[(4,⟨5,[],[],([4,5]++List.range' 54 18),[]⟩),(6,⟨7,[(5,false,[.d (.int .i64)])],[],([4]++List.range' 54 18),[2,3]⟩)]
noncomputable def F_wlvref18_sameUser_env:Env:=⟨Tryz.prog,[(104,⟨F_wlvref_Bytes_sig,⟨F_wlvref_Bytes⟩⟩)],[]⟩
theorem F_wlvref18_sameUser_text:pvFn F_wlvref18_sameUser_env F_wlvref18_sameUser_ann Tryz.f59 F_wlvref18_sameUser_sig=F_wlvref18_sameUser:=by kernel_rfl
noncomputable def F_wlvref18_Same_L6 (l8:List UserD) (l16:List UserD) (s:Int):Option (((Bool)⊕(Unit))⊕(Int)):=
 let i17:=s
 cond (decide (i17 < (l8.length:Int)))
 ((getI l8 i17).bind fun x18=>
 (getI l16 i17).bind fun x19=>
 (F_wlvref18_sameUser x18.1 x18.2.1.1 x18.2.1.2 x18.2.2.1 x18.2.2.2.1 x18.2.2.2.2 x19.1 x19.2.1.1 x19.2.1.2 x19.2.2.1 x19.2.2.2.1 x19.2.2.2.2).bind fun b20=>
 cond (!b20)
 (some (.inl (.inl false)))
 (some (.inr (IntKind.i64.wrap (i17+1)))))
 (some (.inl (.inr ())))
noncomputable def F_wlvref18_Same_J4 (s:Unit):Option (Bool):=
 some true
noncomputable def F_wlvref18_Same (i1:Int) (i2:Int) (i3:Int) (i4:Int) (i5:Int) (i6:Int) (i7:Int) (l8:List UserD) (i9:Int) (i10:Int) (i11:Int) (i12:Int) (i13:Int) (i14:Int) (i15:Int) (l16:List UserD):Option (Bool):=
 cond (i1 != i9)
 (some false)
 (cond (i2 != i10)
 (some false)
 (cond (i3 != i11)
 (some false)
 (cond (i4 != i12)
 (some false)
 (cond (i5 != i13)
 (some false)
 (cond (i6 != i14)
 (some false)
 (cond (i7 != i15)
 (some false)
 (cond ((l8.length:Int) != (l16.length:Int))
 (some false)
 (joinC (S:=Unit) (R:=Bool)
 (loopC (S:=Int) (R:=(Bool)⊕(Unit)) (F_wlvref18_Same_L6 l8 l16) 0)
 (F_wlvref18_Same_J4)))))))))
def F_wlvref18_Same_sig:Sig:=⟨[.v true [.d (.int .i64),.d (.int .i64),.d (.int .i64),.d (.int .i64),.d (.int .i64),.d (.int .i64),.d (.int .i64),.d (.sl (.pr .str (.pr (.pr (.sl (.int .u8)) (.sl (.int .u8))) (.pr (.int .i64) (.pr (.cpx .f64) (.sl (.pr .bool (.pr (.int .i64) (.pr .str (.pr (.pr .str (.int .i64)) (.pr (.int .i64) (.int .i64))))))))))))],.v true [.d (.int .i64),.d (.int .i64),.d (.int .i64),.d (.int .i64),.d (.int .i64),.d (.int .i64),.d (.int .i64),.d (.sl (.pr .str (.pr (.pr (.sl (.int .u8)) (.sl (.int .u8))) (.pr (.int .i64) (.pr (.cpx .f64) (.sl (.pr .bool (.pr (.int .i64) (.pr .str (.pr (.pr .str (.int .i64)) (.pr (.int .i64) (.int .i64))))))))))))]],[(false,[.d .bool])]⟩
def F_wlvref18_Same_ann:List (Nat×Ann):=[(4,⟨5,[],[],([4,5]++List.range' 62 19),[]⟩),(6,⟨7,[(5,false,[.d (.int .i64)])],[],([4]++List.range' 62 19),[2,3]⟩)]
noncomputable def F_wlvref18_Same_env:Env:=⟨Tryz.prog,[(59,⟨F_wlvref18_sameUser_sig,⟨F_wlvref18_sameUser⟩⟩)],[]⟩
theorem F_wlvref18_Same_text:pvFn F_wlvref18_Same_env F_wlvref18_Same_ann Tryz.f29 F_wlvref18_Same_sig=F_wlvref18_Same:=by kernel_rfl
noncomputable def F_wlvlaw18_ConfReads (l1:List (List Int)):Option (Bool):=
 (F_wlvlaw18_first).bind fun b2=>
 cond (!b2)
 (some false)
 ((F_wlvlaw18_Few l1).bind fun b3=>
 cond (!b3)
 ((F_wlvlaw18_first).bind fun b4=>
 some b4)
 ((F_conf_Parse l1).bind fun x5=>
 (F_wlvref18_Parse l1).bind fun x6=>
 (F_wlvlaw18_first).bind fun b7=>
 cond (b7&&(x5.2.2.2.2.2.2.2.2==x6.2.2.2.2.2.2.2.2))
 ((F_wlvref18_Same x5.1 x5.2.1 x5.2.2.1 x5.2.2.2.1 x5.2.2.2.2.1 x5.2.2.2.2.2.1 x5.2.2.2.2.2.2.1 x5.2.2.2.2.2.2.2.1 x6.1 x6.2.1 x6.2.2.1 x6.2.2.2.1 x6.2.2.2.2.1 x6.2.2.2.2.2.1 x6.2.2.2.2.2.2.1 x6.2.2.2.2.2.2.2.1).bind fun b8=>
 some b8)
 (some false)))
def F_wlvlaw18_ConfReads_sig:Sig:=⟨[.v false [.d (.sl .str)]],[(false,[.d .bool])]⟩
def F_wlvlaw18_ConfReads_ann:List (Nat×Ann):=[]
noncomputable def F_wlvlaw18_ConfReads_env:Env:=⟨Tryz.prog,[(25,⟨F_wlvlaw18_first_sig,⟨F_wlvlaw18_first⟩⟩),(26,⟨F_wlvlaw18_Few_sig,⟨F_wlvlaw18_Few⟩⟩),(27,⟨F_conf_Parse_sig,⟨F_conf_Parse⟩⟩),(28,⟨F_wlvref18_Parse_sig,⟨F_wlvref18_Parse⟩⟩),(29,⟨F_wlvref18_Same_sig,⟨F_wlvref18_Same⟩⟩)],[]⟩
theorem F_wlvlaw18_ConfReads_text:pvFn F_wlvlaw18_ConfReads_env F_wlvlaw18_ConfReads_ann Tryz.f4 F_wlvlaw18_ConfReads_sig=F_wlvlaw18_ConfReads:=by kernel_rfl
end Go.Proofs.YtgfmfgombmpodaaGreatDoor
namespace Go.Proofs.YtgfmfgombmpodaaGreatDoor
open Pv
theorem F_wlvlaw18_Few_sound {T:Tab}:SoundFn Tryz.prog T 26 F_wlvlaw18_Few_sig ⟨F_wlvlaw18_Few⟩:=by
 have h:=fn_sound (T:=T) (E:=F_wlvlaw18_Few_env) (by unfold Env.ok;exact fun p h=>by cases h) (A:=F_wlvlaw18_Few_ann) (f:=26) (fn:=Tryz.f26) (s:=F_wlvlaw18_Few_sig) Tryz.func26
 rw [F_wlvlaw18_Few_text] at h
 exact h
theorem F_wlvref_Bytes_sound {T:Tab}:SoundFn Tryz.prog T 104 F_wlvref_Bytes_sig ⟨F_wlvref_Bytes⟩:=by
 have h:=fn_sound (T:=T) (E:=F_wlvref_Bytes_env) (by unfold Env.ok;exact fun p h=>by cases h) (A:=F_wlvref_Bytes_ann) (f:=104) (fn:=Tryz.f104) (s:=F_wlvref_Bytes_sig) Tryz.func104
 rw [F_wlvref_Bytes_text] at h
 exact h
theorem F_wlvref18_sameUser_sound {T:Tab}:SoundFn Tryz.prog T 59 F_wlvref18_sameUser_sig ⟨F_wlvref18_sameUser⟩:=by
 have h:=fn_sound (T:=T) (E:=F_wlvref18_sameUser_env) (by unfold Env.ok;exact List.forall_mem_cons.2 ⟨F_wlvref_Bytes_sound,fun p h=>by cases h⟩) (A:=F_wlvref18_sameUser_ann) (f:=59) (fn:=Tryz.f59) (s:=F_wlvref18_sameUser_sig) Tryz.func59
 rw [F_wlvref18_sameUser_text] at h
 exact h
theorem F_wlvref18_Same_sound {T:Tab}:SoundFn Tryz.prog T 29 F_wlvref18_Same_sig ⟨F_wlvref18_Same⟩:=by
 have h:=fn_sound (T:=T) (E:=F_wlvref18_Same_env) (by unfold Env.ok;exact List.forall_mem_cons.2 ⟨F_wlvref18_sameUser_sound,fun p h=>by cases h⟩) (A:=F_wlvref18_Same_ann) (f:=29) (fn:=Tryz.f29) (s:=F_wlvref18_Same_sig) Tryz.func29
 rw [F_wlvref18_Same_text] at h
 exact h
theorem F_wlvlaw18_ConfReads_sound {T:Tab} (h_maxlen:has_maxlen T) (h_pow10:tab_pow10∈T) (h_errs:has_errs T):SoundFn Tryz.prog T 4 F_wlvlaw18_ConfReads_sig ⟨F_wlvlaw18_ConfReads⟩:=by
 have h:=fn_sound (T:=T) (E:=F_wlvlaw18_ConfReads_env) (by unfold Env.ok;exact List.forall_mem_cons.2 ⟨F_wlvlaw18_first_sound h_maxlen h_pow10 h_errs,List.forall_mem_cons.2 ⟨F_wlvlaw18_Few_sound,List.forall_mem_cons.2 ⟨F_conf_Parse_sound h_maxlen h_pow10 h_errs,List.forall_mem_cons.2 ⟨F_wlvref18_Parse_sound,List.forall_mem_cons.2 ⟨F_wlvref18_Same_sound,fun p h=>by cases h⟩⟩⟩⟩⟩) (A:=F_wlvlaw18_ConfReads_ann) (f:=4) (fn:=Tryz.f4) (s:=F_wlvlaw18_ConfReads_sig) Tryz.func4
 rw [F_wlvlaw18_ConfReads_text] at h
 exact h
end Go.Proofs.YtgfmfgombmpodaaGreatDoor

namespace Go.Proofs.YtgfmfgombmpodaaGreatDoor
open Pv
set_option linter.unusedVariables false
def isDig (c:Int):Bool:=decide (48<=c)&&decide (c<=57)
def valI (s:List Int):Int:=s.foldl (fun a c=>a*10+(c - 48)) 0
def canonB (s:List Int):Bool:=s.all isDig&&match s with
 | []=>false
 | [_]=>true
 | c::_=>c != 48
theorem valI_snoc (s:List Int) (c:Int):valI (s++[c])=valI s*10+(c - 48):=by
 unfold valI
 rw [List.foldl_append];rfl
theorem dig_of {c:Int} (h:isDig c=true):48<=c /\ c<=57:=by
 simpa [isDig] using h
theorem valI_nn:∀ (k:Nat) (s:List Int),s.length=k->s.all isDig=true->0<=valI s:=fun k=>by
 induction k with
 | zero=>intro s h _;rw [List.length_eq_zero_iff.1 h];decide
 | succ k ih=>
  intro s h hd
  rcases List.eq_nil_or_concat s with rfl | ⟨s',c,rfl⟩
  ·decide
  ·rw [List.concat_eq_append] at h hd ⊢
   rw [List.all_append,Bool.and_eq_true] at hd
   have hc:=dig_of (c:=c) (by simpa using hd.2)
   have:=ih s' (by simp at h;omega) hd.1
   rw [valI_snoc]
   omega
def dgs (n:Nat):List Int:=(Lib.decDigits n).map byteI
theorem dgs_one {n:Nat} (h:n < 10):dgs n=[48+(n:Int)]:=by
 unfold dgs
 rw [Lib.decDigits_one h]
 show [byteI (UInt8.ofNat (48+n))]=_
 unfold byteI
 rw [UInt8.toNat_ofNat',Nat.mod_eq_of_lt (by omega)]
 congr 1
theorem dgs_more {n:Nat} (h:¬ n < 10):dgs n=dgs (n / 10)++[48+((n % 10:Nat):Int)]:=by
 unfold dgs
 rw [Lib.decDigits,dif_neg h,List.map_append]
 congr 1
 show [byteI (UInt8.ofNat (48+n % 10))]=_
 unfold byteI
 rw [UInt8.toNat_ofNat',Nat.mod_eq_of_lt (by omega)]
 congr 1
theorem itoa_dgs (n:Nat):itoaI (n:Int)=dgs n:=by
 unfold itoaI dgs
 rw [Lib.itoa_nonneg]
theorem dgs_spec:∀ (k n:Nat),n < k->(dgs n).all isDig=true /\ valI (dgs n)=n /\ dgs n≠[] /\ (1<=n->(dgs n).head? ≠ some 48):=fun k=>by
 induction k with
 | zero=>intro n h;omega
 | succ k ih=>
  intro n h
  by_cases h10:n < 10
  ·rw [dgs_one h10]
   refine ⟨by simp [isDig];omega,by simp [valI];omega,by simp,fun h1=>?_⟩
   show some (48+(n:Int))≠some 48
   intro e
   injection e with e
   omega
  ·obtain ⟨a,b,c,d⟩:=ih (n / 10) (by omega)
   rw [dgs_more h10]
   refine ⟨?_,?_,by simp,fun _=>?_⟩
   ·rw [List.all_append,a]
    simp [isDig]
    omega
   ·rw [valI_snoc,b]
    omega
   ·cases hq:dgs (n / 10) with
    | nil=>exact absurd hq c
    | cons x r=>
     rw [hq] at d
     exact d (by omega)
theorem canon_dgs (n:Nat):canonB (dgs n)=true:=by
 obtain ⟨a,b,c,d⟩:=dgs_spec (n+1) n (by omega)
 unfold canonB
 rw [a,Bool.true_and]
 by_cases h10:n < 10
 ·rw [dgs_one h10]
 ·have hd:=d (by omega)
  have hl:2<=(dgs n).length:=by
   rw [dgs_more h10,List.length_append]
   have:0 < (dgs (n / 10)).length:=List.length_pos_iff.2 (dgs_spec (n / 10+1) (n / 10) (by omega)).2.2.1
   simp
   omega
  match hs:dgs n,hd,hl with
  | x::y::r,hd,_=>
   show (x != 48)=true
   exact bne_iff_ne.2 fun e=>hd (by rw [e];rfl)
theorem val_pos:∀ (k:Nat) (s:List Int),s.length=k->s.all isDig=true->(∃ c r,s=c::r /\ c≠48)->1<=valI s:=fun k=>by
 induction k with
 | zero=>intro s h _ ⟨c,r,e,_⟩;subst e;simp at h
 | succ k ih=>
  intro s h hd ⟨c,r,e,hc⟩
  rcases List.eq_nil_or_concat s with rfl | ⟨s',x,e'⟩
  ·cases e
  ·rw [List.concat_eq_append] at e'
   subst e'
   rw [List.all_append,Bool.and_eq_true] at hd
   have hx:=dig_of (c:=x) (by simpa using hd.2)
   rw [valI_snoc]
   cases s' with
   | nil=>
    have:x=c:=by simpa using congrArg List.head? e
    subst this
    show 1<=(0:Int)*10+(x - 48)
    omega
   | cons c' r'=>
    have:c'=c:=by simpa using congrArg List.head? e
    subst this
    have:=ih (c'::r') (by simp at h ⊢;omega) hd.1 ⟨c',r',rfl,hc⟩
    omega
theorem canon_eq:∀ (k:Nat) (s:List Int),s.length=k->canonB s=true -> ∃ n:Nat,s=dgs n /\ valI s=n:=fun k=>by
 induction k with
 | zero=>intro s h hc;rw [List.length_eq_zero_iff.1 h] at hc;cases hc
 | succ k ih=>
  intro s h hc
  have hd:s.all isDig=true:=by unfold canonB at hc;exact (Bool.and_eq_true _ _ ▸ hc).1
  rcases List.eq_nil_or_concat s with rfl | ⟨s',x,e'⟩
  ·cases hc
  ·rw [List.concat_eq_append] at e'
   subst e'
   have hd':=hd
   rw [List.all_append,Bool.and_eq_true] at hd'
   have hx:=dig_of (c:=x) (by simpa using hd'.2)
   cases s' with
   | nil=>
    refine ⟨(x - 48).toNat,?_,?_⟩
    ·rw [dgs_one (by omega)]
     show [x]=_
     congr 1
     omega
    ·show (0:Int)*10+(x - 48)=_
     omega
   | cons c' r'=>
    have hne:c'≠48:=by
     unfold canonB at hc
     rw [hd,Bool.true_and] at hc
     cases r' with
     | nil=>exact bne_iff_ne.1 hc
     | cons=>exact bne_iff_ne.1 hc
    have hcan:canonB (c'::r')=true:=by
     unfold canonB
     rw [hd'.1,Bool.true_and]
     cases r' with
     | nil=>rfl
     | cons=>exact bne_iff_ne.2 hne
    obtain ⟨n,h1,h2⟩:=ih (c'::r') (by simp at h ⊢;omega) hcan
    have hp:=val_pos _ (c'::r') rfl hd'.1 ⟨c',r',rfl,hne⟩
    refine ⟨n*10+(x - 48).toNat,?_,?_⟩
    ·rw [dgs_more (by omega),show (n*10+(x - 48).toNat) / 10=n by omega,show (n*10+(x - 48).toNat) % 10=(x - 48).toNat by omega,<- h1]
     congr 2
     omega
    ·rw [valI_snoc,h2]
     omega
theorem parse_snoc (c:UInt8):∀ (l:List UInt8) (acc m:Nat),Lib.parseUint10 acc l=.ok m->Lib.parseUint10 acc (l++[c])=Lib.parseUint10 m [c]
 | [],acc,m,h=>by
  have:acc=m:=by
   have h:Lib.NumEnd.ok acc=.ok m:=h
   injection h
  subst this;rfl
 | x::l,acc,m,h=>by
  rw [List.cons_append]
  unfold Lib.parseUint10 at h ⊢
  split at h
  ·rename_i h1
   rw [if_pos h1]
   split at h
   ·cases h
   ·rename_i h2
    rw [if_neg h2]
    split at h
    ·cases h
    ·rename_i h3
     rw [if_neg h3]
     rw [parse_snoc c l _ m h]
     rfl
  ·cases h
theorem parse_dec:∀ (k n:Nat),n < k->n < 18446744073709551616->Lib.parseUint10 0 (Lib.decDigits n)=.ok n:=fun k=>by
 induction k with
 | zero=>intro n h;omega
 | succ k ih=>
  intro n h hn
  have hc:(UInt8.ofNat (48+n % 10)).toNat=48+n % 10:=by rw [UInt8.toNat_ofNat',Nat.mod_eq_of_lt (by omega)]
  have step:∀ acc,acc=n / 10->Lib.parseUint10 acc [UInt8.ofNat (48+n % 10)]=.ok n:=fun acc e=>by
   unfold Lib.parseUint10
   rw [hc,if_pos (by omega),if_neg (by omega),if_neg (by omega)]
   show Lib.NumEnd.ok _=_
   congr 1
   omega
  rw [Lib.decDigits]
  by_cases h10:n < 10
  ·rw [dif_pos h10]
   have:=step 0 (by omega)
   rwa [Nat.mod_eq_of_lt h10] at this
  ·rw [dif_neg h10,parse_snoc _ _ _ _ (ih (n / 10) (by omega) (by omega))]
   exact step _ rfl
theorem dec_cons (n:Nat):∃ c r,Lib.decDigits n=c::r /\ c.toNat≠43 /\ c.toNat≠45:=by
 obtain ⟨a,b,c,d⟩:=dgs_spec (n+1) n (by omega)
 cases h:Lib.decDigits n with
 | nil=>exact absurd (by unfold dgs;rw [h];rfl) c
 | cons x r=>
  refine ⟨x,r,rfl,?_⟩
  unfold dgs at a
  rw [h,List.map_cons,List.all_cons,Bool.and_eq_true] at a
  have:=dig_of a.1
  unfold byteI at this
  omega
theorem toB_dgs (n:Nat):toB (dgs n)=Lib.decDigits n:=by
 unfold toB dgs
 rw [List.map_map]
 conv=>rhs;rw [<-List.map_id (Lib.decDigits n)]
 apply List.map_congr_left
 intro b _
 show (((b.toNat:Nat):Int).toNat).toUInt8=b
 rw [Int.toNat_natCast,Nat.toUInt8_eq,UInt8.ofNat_toNat]
theorem atoi_dgs (n:Nat) (h:n < 9223372036854775808):atoiP (dgs n)=((n:Int),false):=by
 unfold atoiP
 rw [toB_dgs]
 obtain ⟨c,r,h1,h2,h3⟩:=dec_cons n
 have hp:=parse_dec (n+1) n (by omega) (by omega)
 have:Lib.atoiAll (Lib.decDigits n)=.ok (n:Int):=by
  rw [h1,Lib.atoiAll_plain c r h2 h3,<- h1]
  unfold Lib.parseMag
  rw [if_neg (by rw [h1];simp),hp]
  unfold Lib.signless
  simp
  omega
 rw [this]
theorem decimal_law (s:List Int) (most:Int) (hm:most<=9223372036854775807) :
  (canonB s=true /\ valI s<=most->(atoiP s).2=false /\ (atoiP s).1=valI s /\ itoaI (valI s)=s) /\
  ((atoiP s).2=false->0<=(atoiP s).1->(atoiP s).1<=most->itoaI (atoiP s).1=s->canonB s=true /\ valI s=(atoiP s).1):=by
 refine ⟨fun ⟨hc,hv⟩=>?_,fun h1 h2 h3 h4=>?_⟩
 ·obtain ⟨n,e1,e2⟩:=canon_eq _ s rfl hc
  rw [e2] at hv ⊢
  rw [itoa_dgs,e1,atoi_dgs n (by omega)]
  exact ⟨rfl,rfl,rfl⟩
 ·obtain ⟨n,hn⟩:∃ n:Nat,(atoiP s).1=n:=⟨(atoiP s).1.toNat,by omega⟩
  rw [hn,itoa_dgs] at h4
  rw [hn,<- h4]
  exact ⟨canon_dgs n,(dgs_spec (n+1) n (by omega)).2.1⟩
theorem dgs_len:∀ (k n:Nat),n < 10 ^ (k+1)->(dgs n).length<=k+1:=fun k=>by
 induction k with
 | zero=>intro n h;rw [dgs_one (by omega)];simp
 | succ k ih=>
  intro n h
  by_cases h10:n < 10
  ·rw [dgs_one h10];simp
  ·rw [dgs_more h10,List.length_append]
   have:=ih (n / 10) (by
    rw [Nat.pow_succ] at h
    omega)
   simp
   omega
end Go.Proofs.YtgfmfgombmpodaaGreatDoor
namespace Go.Proofs.YtgfmfgombmpodaaGreatDoor
namespace Pv
set_option linter.unusedVariables false
section
variable {S R T : Type} {body : S -> Option (R ⊕ S)} {s s' : S} {r r' : R}
theorem iter_uniq:∀ {n m:Nat} {s:S},iterC body n s=some r->iterC body m s=some r'->r=r'
 | 0,_,_,h,_=>by cases h
 | _+1,0,_,_,h=>by cases h
 | n+1,m+1,s,h,k=>by
  unfold iterC at h k
  split at h
  ·cases h
  ·rename_i x hx
   rw [hx] at k
   injection h with h;injection k with k
   exact h.symm.trans k
  ·rename_i x hx
   rw [hx] at k
   exact iter_uniq h k
theorem loop_of_iter {n:Nat} (h:iterC body n s=some r):loopC body s=some r:=by
 unfold loopC
 have hex:∃ r n,iterC body n s=some r:=⟨r,n,h⟩
 rw [dif_pos hex]
 obtain ⟨m,hm⟩:=hex.choose_spec
 rw [iter_uniq hm h]
theorem iter_of_loop' (h:loopC body s=some r):∃ n,iterC body n s=some r:=by
 unfold loopC at h
 split at h
 ·rename_i hex
  injection h with h
  obtain ⟨n,hn⟩:=hex.choose_spec
  exact ⟨n,by rw [hn,h]⟩
 ·cases h
theorem loop_inl (h:body s=some (.inl r)):loopC body s=some r:=loop_of_iter (n:=1) (by unfold iterC;rw [h])
theorem loop_inr (h:body s=some (.inr s')) (k:loopC body s'=some r):loopC body s=some r:=by
 obtain ⟨n,hn⟩:=iter_of_loop' k
 exact loop_of_iter (n:=n+1) (by unfold iterC;rw [h];exact hn)
theorem loop_inv {I:S->Prop} {m:S->Nat} {Q:R->Prop} (h:∀ s,I s->(∃ r,body s=some (.inl r) /\ Q r) \/ ∃ s',body s=some (.inr s') /\ I s' /\ m s' < m s) (s:S) (hs:I s):∃ r,loopC body s=some r /\ Q r:=by
 have key:∀ n s,m s < n->I s -> ∃ r,loopC body s=some r /\ Q r:=fun n=>by
  induction n with
  | zero=>intro s hn;omega
  | succ n ih=>
   intro s hn hs
   rcases h s hs with ⟨r,h1,h2⟩ | ⟨s',h1,h2,h3⟩
   ·exact ⟨r,loop_inl h1,h2⟩
   ·obtain ⟨r,k1,k2⟩:=ih s' (by omega) h2
    exact ⟨r,loop_inr h1 k1,k2⟩
 exact key _ s (Nat.lt_succ_self _) hs
theorem join_inl {A:Option (R⊕S)} {B:S->Option R} (h:A=some (.inl r)):joinC A B=some r:=by rw [h];rfl
theorem join_inr {A:Option (R⊕S)} {B:S->Option R} (h:A=some (.inr s)):joinC A B=B s:=by rw [h];rfl
theorem getI_of {α:Type} {l:List α} {j:Int} (h0:0<=j) (h1:j < l.length):∃ x,getI l j=some x /\ l[j.toNat]? = some x:=by
 have hlt:j.toNat < l.length:=by omega
 exact ⟨l[j.toNat],by unfold getI;rw [decide_eq_true h0];simp [hlt],by simp [hlt]⟩
theorem wrap_in {x:Int} (h0 : -9223372036854775808<=x) (h1:x<=9223372036854775807):IntKind.i64.wrap x=x:=by
 show (if (true&&decide (x % 18446744073709551616 >= 9223372036854775808))=true then x % 18446744073709551616 - 18446744073709551616 else x % 18446744073709551616)=x
 simp only [Bool.true_and,decide_eq_true_eq]
 split <;> omega
end
end Pv
end Go.Proofs.YtgfmfgombmpodaaGreatDoor
namespace Go.Proofs.YtgfmfgombmpodaaGreatDoor
open Pv
set_option linter.unusedVariables false
theorem cutI_nat {α:Type} {s:List α} {a b:Nat} (h1:a<=b) (h2:b<=s.length):cutI s (a:Int) (b:Int)=some ((s.take b).drop a):=by
 unfold cutI
 rw [decide_eq_true (show (0:Int)<=(a:Int) by omega),decide_eq_true (show (a:Int)<=(b:Int) by omega),decide_eq_true (show (b:Int)<=(s.length:Int) by omega)]
 rfl
theorem getI_nat {α:Type} {s:List α} {i:Nat} {x:α} (h:s[i]? = some x):getI s (i:Int)=some x:=by
 unfold getI
 rw [decide_eq_true (by omega),cond_true,Int.toNat_natCast,h]
theorem chk16 {a b:Nat} (h:a+b<=10000000):(decide ((a+b)*16<=140737488355328)&&decide (a+b<=maxLen))=true:=by
 rw [decide_eq_true (by omega),decide_eq_true (by have:maxLen=9223372036854775807:=rfl;omega)];rfl
theorem chk1 {a b:Nat} (h:a+b<=10000000):(decide ((a+b)*1<=140737488355328)&&decide (a+b<=maxLen))=true:=by
 rw [decide_eq_true (by omega),decide_eq_true (by have:maxLen=9223372036854775807:=rfl;omega)];rfl
theorem Split_eq (s:List Int) (c:Int) (hs:s.length<=1000000):F_wlvref_Split s c=some (splitI s c):=by
 obtain ⟨r,h1,h2⟩:=loop_inv (body:=F_wlvref_Split_L5 s c)
  (I:=fun st=>∃ (l:List (List Int)) (f i:Nat),st=(l,(f:Int),(i:Int)) /\ ((i<=s.length /\ f<=i /\ l.length<=i /\ (∀ x∈(s.take i).drop f,x≠c) /\ splitI s c=l++splitI (s.drop f) c) \/ (i=s.length+1 /\ l=splitI s c)))
  (m:=fun st=>s.length+1 - st.2.2.toNat) (Q:=fun q=>q=.inr (splitI s c)) (fun st ⟨l,f,i,e,h⟩=>by
  subst e
  unfold F_wlvref_Split_L5
  dsimp only
  rcases h with ⟨h1,h2,h3,h4,h5⟩ | ⟨h1,h2⟩
  ·rw [decide_eq_true (show (i:Int)<=(s.length:Int) by omega),cond_true]
   have hw:IntKind.i64.wrap ((i:Int)+1)=((i+1:Nat):Int):=by rw [wrap_in (by omega) (by omega)];omega
   have hcut:=cutI_nat (s:=s) h2 h1
   unfold chk
   rw [hw]
   by_cases hl:i=s.length
   ·rw [show ((i:Int)==(s.length:Int))=true from beq_iff_eq.2 (by omega),cond_true,hcut,Option.bind_some,chk16 (by show l.length+1<=_;omega),cond_true]
    refine .inr ⟨_,rfl,⟨_,i+1,i+1,rfl,.inr ⟨by omega,?_⟩⟩,?_⟩
    ·rw [List.take_of_length_le (by omega)] at h4 ⊢
     rw [h5,splitI_miss h4]
    ·show s.length+1 - ((i+1:Nat):Int).toNat < s.length+1 - (i:Int).toNat
     omega
   ·have hlt:i < s.length:=by omega
    rw [show ((i:Int)==(s.length:Int))=false from beq_eq_false_iff_ne.2 (by omega),cond_false,getI_nat (List.getElem?_eq_getElem hlt),Option.bind_some]
    have hm:s.length+1 - ((i+1:Nat):Int).toNat < s.length+1 - (i:Int).toNat:=by omega
    have hsp:s.drop f=(s.take i).drop f++s[i]::s.drop (i+1):=by
     have e1:s=s.take i++s[i]::s.drop (i+1):=by rw [List.getElem_cons_drop,List.take_append_drop]
     conv=>lhs;rw [e1]
     rw [List.drop_append_of_le_length (by rw [List.length_take];omega)]
    by_cases hc:s[i]=c
    ·rw [show (s[i]==c)=true from beq_iff_eq.2 hc,cond_true,hcut,Option.bind_some,chk16 (by show l.length+1<=_;omega),cond_true]
     refine .inr ⟨_,rfl,⟨_,i+1,i+1,rfl,.inl ⟨by omega,by omega,by simp;omega,?_,?_⟩⟩,hm⟩
     ·rw [List.drop_of_length_le (by rw [List.length_take];omega)]
      intro x hx;cases hx
     ·rw [h5,hsp,hc,splitI_hit h4,List.append_assoc];rfl
    ·rw [show (s[i]==c)=false from beq_eq_false_iff_ne.2 hc,cond_false]
     refine .inr ⟨_,rfl,⟨l,f,i+1,rfl,.inl ⟨by omega,by omega,by omega,?_,h5⟩⟩,hm⟩
     intro x hx
     rw [List.take_add_one,List.getElem?_eq_getElem hlt,List.drop_append_of_le_length (by rw [List.length_take];omega)] at hx
     rcases List.mem_append.1 hx with hx | hx
     ·exact h4 x hx
     ·have:x=s[i]:=by simpa using hx
      rw [this];exact hc
  ·rw [decide_eq_false (by omega),cond_false]
   exact .inl ⟨_,rfl,by rw [h2]⟩) (([]:List (List Int)),0,0) ⟨[],0,0,rfl,.inl ⟨by omega,by omega,by simp,by simp,rfl⟩⟩
 subst h2
 unfold F_wlvref_Split
 rw [h1]
 rfl
theorem SplitL_eq (s:List Int) (c:Int) (hs:s.length<=1000000):F_strings_Split s [c]=some (splitI s c):=by
 show cond (Nat.ble s.length 4000000000) (some (splitI s c)) none=_
 rw [Nat.ble_eq_true_of_le (by omega)];rfl
theorem decimal_eq (s:List Int) (most:Int) (hs:s.length<=1000000) (hm:most<=9223372036854775807) :
  ∃ x,F_addr_decimal s most=some (x,canonB s&&decide (valI s<=most)) /\ (canonB s=true->valI s<=most->x=valI s):=by
 obtain ⟨k1,k2⟩:=decimal_law s most hm
 unfold F_addr_decimal
 have ha:F_strconv_Atoi s=some (atoiP s):=by
  unfold F_strconv_Atoi
  rw [Nat.ble_eq_true_of_le (by omega)];rfl
 rw [ha,Option.bind_some]
 refine ⟨(atoiP s).1,?_,fun h1 h2=>(k1 ⟨h1,h2⟩).2.1⟩
 cases hc:(canonB s&&decide (valI s<=most)) with
 | true=>
  rw [Bool.and_eq_true,decide_eq_true_iff] at hc
  obtain ⟨q1,q2,q3⟩:=k1 hc
  have hp:=valI_nn _ s rfl (by have:=hc.1;unfold canonB at this;exact (Bool.and_eq_true _ _ ▸ this).1)
  rw [q1,q2,decide_eq_true (show valI s >= 0 from hp),decide_eq_true hc.2]
  rw [show (notB false&&true&&true)=true from rfl,cond_true]
  unfold F_strconv_Itoa
  rw [Option.bind_some,q3,beq_self_eq_true]
 | false=>
  cases hq:(notB (atoiP s).2&&decide ((atoiP s).1 >= 0))&&decide ((atoiP s).1<=most) with
  | false=>rfl
  | true=>
   rw [cond_true]
   unfold F_strconv_Itoa
   rw [Option.bind_some]
   have hq':=hq
   rw [Bool.and_eq_true,Bool.and_eq_true,decide_eq_true_iff,decide_eq_true_iff] at hq'
   cases he:itoaI (atoiP s).1==s with
   | false=>rfl
   | true=>
    exfalso
    obtain ⟨r1,r2⟩:=k2 (by
     have:=hq'.1.1
     cases hb:(atoiP s).2 with
     | false=>rfl
     | true=>rw [hb] at this;cases this) hq'.1.2 hq'.2 (beq_iff_eq.1 he)
    rw [r1,r2,decide_eq_true hq'.2] at hc
    cases hc
theorem val_lt:∀ (k:Nat) (s:List Int),s.length=k->s.all isDig=true->valI s < 10 ^ k:=fun k=>by
 induction k with
 | zero=>intro s h _;rw [List.length_eq_zero_iff.1 h];decide
 | succ k ih=>
  intro s h hd
  rcases List.eq_nil_or_concat s with rfl | ⟨s',c,rfl⟩
  ·simp at h
  ·rw [List.concat_eq_append] at h hd ⊢
   rw [List.all_append,Bool.and_eq_true] at hd
   have hc:=dig_of (c:=c) (by simpa using hd.2)
   have:=ih s' (by simp at h;omega) hd.1
   rw [valI_snoc,Int.pow_succ]
   omega
theorem u8_in {x:Int} (h0:0<=x) (h1:x<=255):IntKind.u8.wrap x=x:=by
 show (if (false&&decide (x % 256 >= 128))=true then x % 256 - 256 else x % 256)=x
 simp
 omega
theorem Num_loop (s:List Int) (h17:s.length<=17):loopC (F_wlvref_Num_L7 s) (0,0)=some (cond (s.all isDig) (.inr (valI s)) (.inl (0,false))):=by
 obtain ⟨r,h1,h2⟩:=loop_inv (body:=F_wlvref_Num_L7 s) (I:=fun st=>∃ i:Nat,i<=s.length /\ (s.take i).all isDig=true /\ st=(valI (s.take i),(i:Int))) (m:=fun st=>s.length - st.2.toNat) (Q:=fun q=>q=cond (s.all isDig) (.inr (valI s)) (.inl (0,false))) (fun st ⟨i,hi,hd,e⟩=>by
  subst e
  unfold F_wlvref_Num_L7
  dsimp only
  by_cases hl:i < s.length
  ·have hg:=getI_nat (List.getElem?_eq_getElem hl)
   rw [decide_eq_true (by omega),cond_true,hg,Option.bind_some]
   have hall:isDig s[i]=false->s.all isDig=false:=fun h=>by
    rw [List.all_eq_false]
    exact ⟨s[i],List.getElem_mem hl,by rw [h];decide⟩
   by_cases h48:s[i] < 48
   ·rw [decide_eq_true h48,cond_true,hall (by unfold isDig;rw [decide_eq_false (by omega)];rfl)]
    exact .inl ⟨_,rfl,rfl⟩
   ·rw [decide_eq_false h48,cond_false,Option.bind_some]
    by_cases h57:s[i] > 57
    ·rw [decide_eq_true h57,cond_true,hall (by unfold isDig;rw [decide_eq_false (show ¬ s[i]<=57 by omega),Bool.and_false])]
     exact .inl ⟨_,rfl,rfl⟩
    ·rw [decide_eq_false h57,cond_false,Option.bind_some]
     have hv0:=valI_nn _ (s.take i) rfl hd
     have hv1:=val_lt _ (s.take i) rfl hd
     have hv2:(10:Int) ^ (s.take i).length<=10 ^ 17:=by
      rw [List.length_take]
      have:(10:Nat) ^ (min i s.length)<=10 ^ 17:=Nat.pow_le_pow_right (by omega) (by omega)
      exact_mod_cast this
     have hv3:(10:Int) ^ 17=100000000000000000:=by decide
     have ht:s.take (i+1)=s.take i++[s[i]]:=by rw [List.take_add_one,List.getElem?_eq_getElem hl];rfl
     refine .inr ⟨_,rfl,⟨i+1,by omega,?_,?_⟩,?_⟩
     ·rw [ht,List.all_append,hd]
      simp [isDig]
      omega
     ·rw [ht,valI_snoc,u8_in (by omega) (by omega),wrap_in (x:=valI (s.take i)*10) (by omega) (by omega),wrap_in (x:=s[i] - 48) (by omega) (by omega),wrap_in (by omega) (by omega),wrap_in (by omega) (by omega)]
      rfl
     ·show s.length - (IntKind.i64.wrap ((i:Int)+1)).toNat < s.length - (i:Int).toNat
      rw [wrap_in (by omega) (by omega)]
      omega
  ·rw [decide_eq_false (by omega),cond_false]
   rw [List.take_of_length_le (by omega)] at hd
   refine .inl ⟨_,rfl,?_⟩
   rw [hd,cond_true,List.take_of_length_le (by omega)]) (0,0) ⟨0,by omega,by simp,by simp [valI]⟩
 rw [h1,h2]
theorem Num_eq (s:List Int) (lo hi:Int) :
  ∃ x,F_wlvref_Num s lo hi=some (x,canonB s&&decide (s.length<=17)&&(decide (lo<=valI s)&&decide (valI s<=hi))) /\ (canonB s=true->s.length<=17->x=valI s):=by
 unfold F_wlvref_Num
 match s with
 | []=>exact ⟨0,rfl,fun h=>by cases h⟩
 | c::r=>
  by_cases h17:(c::r).length<=17
  ·have:(decide (((c::r).length:Int) < 1)||decide (((c::r).length:Int) > 17))=false:=by simp at h17 ⊢;omega
   rw [this,cond_false,decide_eq_true h17,Bool.and_true]
   have key:joinC (S:=Int) (R:=Int×Bool) (loopC (S:=Int×Int) (R:=(Int×Bool)⊕(Int)) (F_wlvref_Num_L7 (c::r)) (0,0)) (F_wlvref_Num_J5 lo hi)=some (cond ((c::r).all isDig) (valI (c::r),decide (lo<=valI (c::r))&&decide (valI (c::r)<=hi)) (0,false)):=by
    rw [Num_loop _ h17]
    cases (c::r).all isDig <;> rfl
   cases r with
   | nil=>
    rw [decide_eq_false (by simp),cond_false,key]
    have hcan:canonB [c]=[c].all isDig:=by unfold canonB;rw [Bool.and_true]
    rw [hcan]
    cases hd:[c].all isDig with
    | true=>exact ⟨_,rfl,fun _ _=>rfl⟩
    | false=>exact ⟨_,rfl,fun h=>by cases h⟩
   | cons d r=>
    have hcan:canonB (c::d::r)=((c::d::r).all isDig&&(c != 48)):=rfl
    rw [decide_eq_true (by simp;omega),cond_true,show getI (c::d::r) 0=some c from rfl,Option.bind_some,key,hcan]
    by_cases h48:c=48
    ·rw [beq_iff_eq.2 h48,cond_true,show (c != 48)=false by rw [h48];rfl,Bool.and_false]
     exact ⟨_,rfl,fun h=>by cases h⟩
    ·rw [beq_eq_false_iff_ne.2 h48,cond_false,bne_iff_ne.2 h48,Bool.and_true]
     cases hd:(c::d::r).all isDig with
     | true=>exact ⟨_,rfl,fun _ _=>rfl⟩
     | false=>exact ⟨_,rfl,fun h=>by cases h⟩
  ·have:(decide (((c::r).length:Int) < 1)||decide (((c::r).length:Int) > 17))=true:=by simp at h17 ⊢;omega
   rw [this,cond_true,decide_eq_false h17,Bool.and_false]
   exact ⟨_,rfl,fun _ h=>absurd h h17⟩
def byteB (w:List Int):Bool:=canonB w&&decide (valI w<=255)
def fourR (s:List Int):List Int×Bool:=cond (decide ((splitI s 46).length=4)&&(splitI s 46).all byteB) ((splitI s 46).map valI,true) ([],false)
theorem byte_val {w:List Int} (h:byteB w=true):0<=valI w /\ valI w<=255:=by
 unfold byteB at h
 rw [Bool.and_eq_true,decide_eq_true_iff] at h
 have:=h.1
 unfold canonB at this
 exact ⟨valI_nn _ w rfl (Bool.and_eq_true _ _ ▸ this).1,h.2⟩
theorem split_mem_len {s w:List Int} {c:Int} (h:w∈splitI s c):w.length<=s.length:=by
 have h1:=splitI_sum s c
 have h2:w.length<=((splitI s c).map List.length).sum:=mem_sum (List.mem_map.2 ⟨w,h,rfl⟩)
 have h3:0 < (splitI s c).length:=List.length_pos_iff.2 (splitI_ne s c)
 omega
theorem all_snoc {l:List (List Int)} {i:Nat} {w:List Int} (h:l[i]? = some w) (ha:(l.take i).all byteB=true) (hw:byteB w=true):(l.take (i+1)).all byteB=true:=by
 rw [List.take_add_one,h,List.all_append,ha]
 simp [hw]
theorem all_bad {l:List (List Int)} {i:Nat} {w:List Int} (h:l[i]? = some w) (hw:byteB w=false):l.all byteB=false:=by
 rw [List.all_eq_false]
 exact ⟨w,List.mem_of_getElem? h,by rw [hw];decide⟩
theorem map_snoc {l:List (List Int)} {i:Nat} {w:List Int} (h:l[i]? = some w):(l.take (i+1)).map valI=(l.take i).map valI++[valI w]:=by
 rw [List.take_add_one,h,List.map_append];rfl
theorem dotted_loop (l:List (List Int)) (hl:l.length=4) (hw:∀ w∈l,w.length<=1000000):loopC (F_addr_dotted_L8 l) (([]:List Int),l,0)=some (cond (l.all byteB) (.inr (l.map valI)) (.inl ([],false))):=by
 obtain ⟨r,h1,h2⟩:=loop_inv (body:=F_addr_dotted_L8 l) (I:=fun st=>∃ i:Nat,i<=4 /\ (l.take i).all byteB=true /\ st=((l.take i).map valI,l,(i:Int))) (m:=fun st=>4 - st.2.2.toNat) (Q:=fun q=>q=cond (l.all byteB) (.inr (l.map valI)) (.inl ([],false))) (fun st ⟨i,hi,hd,e⟩=>by
  subst e
  unfold F_addr_dotted_L8
  dsimp only
  by_cases hlt:i < 4
  ·have hg:=List.getElem?_eq_getElem (l:=l) (i:=i) (by omega)
   obtain ⟨x,hx1,hx2⟩:=decimal_eq l[i] 255 (hw _ (List.getElem_mem _)) (by omega)
   rw [show (canonB l[i]&&decide (valI l[i]<=255))=byteB l[i] from rfl] at hx1
   rw [decide_eq_true (by omega),cond_true,getI_nat hg,Option.bind_some,hx1,Option.bind_some]
   cases hb:byteB l[i] with
   | false=>
    rw [all_bad hg hb]
    exact .inl ⟨_,rfl,rfl⟩
   | true=>
    have hv:=byte_val hb
    have hxv:x=valI l[i]:=by
     unfold byteB at hb
     rw [Bool.and_eq_true,decide_eq_true_iff] at hb
     exact hx2 hb.1 hb.2
    subst hxv
    unfold chk
    rw [Bool.not_true,cond_false,chk1 (by rw [List.length_map,List.length_take];show _+1<=_;omega),cond_true,u8_in hv.1 hv.2,wrap_in (by omega) (by omega)]
    refine .inr ⟨_,rfl,⟨i+1,by omega,all_snoc hg hd hb,by rw [map_snoc hg];rfl⟩,?_⟩
    show 4 - ((i:Int)+1).toNat < 4 - (i:Int).toNat
    omega
  ·rw [decide_eq_false (by omega),cond_false]
   rw [List.take_of_length_le (by omega)] at hd
   refine .inl ⟨_,rfl,?_⟩
   rw [hd,cond_true,List.take_of_length_le (by omega)]) (([]:List Int),l,0) ⟨0,by omega,by simp,by simp⟩
 rw [h1,h2]
theorem dotted_eq (s:List Int) (hs:s.length<=1000000):F_addr_dotted s=some (fourR s):=by
 unfold F_addr_dotted fourR
 rw [SplitL_eq s 46 hs,Option.bind_some]
 by_cases h4:(splitI s 46).length=4
 ·rw [show (((splitI s 46).length:Int) != 4)=false by rw [h4];rfl,cond_false,decide_eq_true h4,Bool.true_and,dotted_loop _ h4 fun w hw=>by have:=split_mem_len hw;omega]
  cases (splitI s 46).all byteB <;> rfl
 ·rw [show (((splitI s 46).length:Int) != 4)=true from bne_iff_ne.2 (by omega),cond_true,decide_eq_false h4]
  rfl
theorem byte_num (w:List Int):(canonB w&&decide (w.length<=17)&&(decide (0<=valI w)&&decide (valI w<=255)))=byteB w:=by
 unfold byteB
 cases hc:canonB w with
 | false=>rfl
 | true=>
  by_cases hv:valI w<=255
  ·obtain ⟨n,h1,h2⟩:=canon_eq _ w rfl hc
   have:=dgs_len 2 n (by omega)
   rw [<-h1] at this
   rw [decide_eq_true (show w.length<=17 by omega),decide_eq_true hv,decide_eq_true (by omega)];rfl
  ·rw [decide_eq_false hv]
   simp
theorem four_loop (l:List (List Int)) (hl:l.length=4):loopC F_wlvref15_four_L8 (l,([]:List Int),0)=some (cond (l.all byteB) (.inr (l.map valI)) (.inl ([],false))):=by
 obtain ⟨r,h1,h2⟩:=loop_inv (body:=F_wlvref15_four_L8) (I:=fun st=>∃ i:Nat,i<=4 /\ (l.take i).all byteB=true /\ st=(l,(l.take i).map valI,(i:Int))) (m:=fun st=>4 - st.2.2.toNat) (Q:=fun q=>q=cond (l.all byteB) (.inr (l.map valI)) (.inl ([],false))) (fun st ⟨i,hi,hd,e⟩=>by
  subst e
  unfold F_wlvref15_four_L8
  dsimp only
  by_cases hlt:i < 4
  ·have hg:=List.getElem?_eq_getElem (l:=l) (i:=i) (by omega)
   obtain ⟨x,hx1,hx2⟩:=Num_eq l[i] 0 255
   rw [byte_num] at hx1
   rw [decide_eq_true (by omega),cond_true,getI_nat hg,Option.bind_some,hx1,Option.bind_some]
   cases hb:byteB l[i] with
   | false=>
    rw [all_bad hg hb]
    exact .inl ⟨_,rfl,rfl⟩
   | true=>
    have hv:=byte_val hb
    have hxv:x=valI l[i]:=by
     have hq:=byte_num l[i]
     rw [hb,Bool.and_eq_true,Bool.and_eq_true,decide_eq_true_iff] at hq
     exact hx2 hq.1.1 hq.1.2
    subst hxv
    unfold chk
    rw [Bool.not_true,cond_false,chk1 (by rw [List.length_map,List.length_take];show _+1<=_;omega),cond_true,u8_in hv.1 hv.2,wrap_in (by omega) (by omega)]
    refine .inr ⟨_,rfl,⟨i+1,by omega,all_snoc hg hd hb,by rw [map_snoc hg];rfl⟩,?_⟩
    show 4 - ((i:Int)+1).toNat < 4 - (i:Int).toNat
    omega
  ·rw [decide_eq_false (by omega),cond_false]
   rw [List.take_of_length_le (by omega)] at hd
   refine .inl ⟨_,rfl,?_⟩
   rw [hd,cond_true,List.take_of_length_le (by omega)]) (l,([]:List Int),0) ⟨0,by omega,by simp,by simp⟩
 rw [h1,h2]
theorem four_eq (s:List Int) (hs:s.length<=1000000):F_wlvref15_four s=some (fourR s):=by
 unfold F_wlvref15_four fourR
 rw [Split_eq s 46 hs,Option.bind_some]
 by_cases h4:(splitI s 46).length=4
 ·rw [show (((splitI s 46).length:Int) != 4)=false by rw [h4];rfl,cond_false,decide_eq_true h4,Bool.true_and,four_loop _ h4]
  cases (splitI s 46).all byteB <;> rfl
 ·rw [show (((splitI s 46).length:Int) != 4)=true from bne_iff_ne.2 (by omega),cond_true,decide_eq_false h4]
  rfl
theorem cond_ex {b:Bool} {x y:Option Int} (hx:∃ d,x=some d) (hy:∃ d,y=some d):∃ d,cond b x y=some d:=by
 cases b
 ·exact hy
 ·exact hx
theorem some_ex (x:Int):∃ d,some x=some d:=⟨x,rfl⟩
noncomputable def sg (c:Int):Int:=(F_host_sign c).getD 0
theorem sign_eq (c:Int):F_host_sign c=some (sg c):=by
 have:∃ d,F_host_sign c=some d:=by
  unfold F_host_sign
  repeat' (first | with_reducible exact some_ex _ | with_reducible apply cond_ex)
 obtain ⟨d,hd⟩:=this
 unfold sg
 rw [hd];rfl
def endsB (out:List Int) (n:Nat):Bool:=n==0||out.getLast? == some 45
noncomputable def nameP:List Int->Nat->List Int->Option (List Int)
 | out,n,[]=>cond (endsB out n) none (some out)
 | out,n,c::r=>cond (c==46) (cond (endsB out n) none (nameP (out++[46]) 0 r)) (cond (sg c==0||n==63||(sg c==45&&n==0)) none (nameP (out++[sg c]) (n+1) r))
def resN:Option (List Int)->List Int×Int
 | none=>([],2)
 | some b=>(b,0)
noncomputable def nameR (s:List Int):List Int×Int:=resN (cond (decide (253 < s.length)) none (nameP [] 0 s))
theorem name_wrong (s:List Int) (x:List Int×Int×Int):loopC (F_host_Name_G1 s) (0,x)=some ([],2):=loop_inl rfl
theorem last_of {out:List Int} (h:out≠[]) (hl:out.length<=1000):∃ x,getI out (IntKind.i64.wrap ((out.length:Int) - 1))=some x /\ out.getLast? = some x:=by
 have:0 < out.length:=List.length_pos_iff.2 h
 rw [wrap_in (by omega) (by omega)]
 obtain ⟨x,h1,h2⟩:=getI_of (l:=out) (j:=(out.length:Int) - 1) (by omega) (by omega)
 refine ⟨x,h1,?_⟩
 rw [List.getLast?_eq_getElem?,<- h2]
 congr 1
 omega
theorem chk_out {a b:Nat} (h:a+b<=1000000):(decide ((a+b)*1<=140737488355328)&&decide (a+b<=maxLen))=true:=by
 rw [decide_eq_true (by omega),decide_eq_true (by have:maxLen=9223372036854775807:=rfl;omega)];rfl
theorem beq_nat (a b:Nat):((a:Int)==(b:Int))=(a==b):=by
 by_cases h:a=b
 ·subst h;simp
 ·rw [beq_eq_false_iff_ne.2 h,beq_eq_false_iff_ne.2 (by omega)]
theorem name_end {s out:List Int} {i n:Nat} (hn:n=0 \/ out≠[]) (ho:out.length<=253) :
  (endsB out n=true->loopC (F_host_Name_G1 s) (1,(out,(i:Int),(n:Int)))=some ([],2)) /\
  (endsB out n=false->(i=s.length->loopC (F_host_Name_G1 s) (1,(out,(i:Int),(n:Int)))=some (out,0)) /\ (i < s.length->i<=253 -> ∀ r,loopC (F_host_Name_G1 s) (2,(out++[46],((i+1:Nat):Int),((0:Nat):Int)))=some r->loopC (F_host_Name_G1 s) (1,(out,(i:Int),(n:Int)))=some r)):=by
 have hG:F_host_Name_G1 s (1,(out,(i:Int),(n:Int)))=F_host_Name_G1_1 s (out,(i:Int),(n:Int)):=rfl
 by_cases h0:n=0
 ·subst h0
  refine ⟨fun _=>loop_inr (s':=(0,(out,(i:Int),0))) ?_ (name_wrong s _),fun h=>by simp [endsB] at h⟩
  rw [hG];rfl
 ·obtain ⟨x,h1,h2⟩:=last_of (hn.resolve_left h0) (by omega)
  have hz:((n:Int)==0)=false:=beq_eq_false_iff_ne.2 (by omega)
  have hz':(n==0)=false:=beq_eq_false_iff_ne.2 h0
  by_cases hx:x=45
  ·subst hx
   refine ⟨fun _=>loop_inr (s':=(0,(out,(i:Int),(n:Int)))) ?_ (name_wrong s _),fun h=>by simp [endsB,h2] at h⟩
   rw [hG]
   unfold F_host_Name_G1_1
   dsimp only
   rw [hz,cond_false,h1];rfl
  ·have hx':(x==45)=false:=beq_eq_false_iff_ne.2 hx
   refine ⟨fun h=>?_,fun _=>⟨fun hi=>loop_inl ?_,fun hi hi2 r hr=>loop_inr ?_ hr⟩⟩
   ·unfold endsB at h
    rw [hz',h2] at h
    simp [hx] at h
   ·rw [hG]
    unfold F_host_Name_G1_1
    dsimp only
    rw [hz,cond_false,h1,Option.bind_some,hx',cond_false,beq_nat,hi,beq_self_eq_true,cond_true]
   ·rw [hG]
    unfold F_host_Name_G1_1
    dsimp only
    rw [hz,cond_false,h1,Option.bind_some,hx',cond_false,beq_nat,beq_eq_false_iff_ne.2 (by omega),cond_false]
    unfold chk
    rw [chk_out (by show out.length+1<=_;omega),cond_true,wrap_in (by omega) (by omega)]
    rfl
theorem name_loop (s:List Int) (hs:s.length<=253):∀ (r out:List Int) (n i:Nat),s.drop i=r->i<=s.length->(n=0 \/ out≠[])->out.length<=i->n<=63->loopC (F_host_Name_G1 s) (2,(out,(i:Int),(n:Int)))=some (resN (nameP out n r))
 | [],out,n,i,hd,hi,hn,ho,hn2=>by
  have hl:i=s.length:=by
   have:=congrArg List.length hd
   simp at this
   omega
  have hG:F_host_Name_G1 s (2,(out,(i:Int),(n:Int)))=some (.inr (1,(out,(i:Int),(n:Int)))):=by
   show F_host_Name_G1_2 s (out,(i:Int),(n:Int))=_
   unfold F_host_Name_G1_2
   dsimp only
   rw [beq_nat,hl,beq_self_eq_true,cond_true]
  have he:=name_end (s:=s) (i:=i) hn (by omega)
  refine loop_inr hG ?_
  unfold nameP
  cases hb:endsB out n with
  | true=>exact he.1 hb
  | false=>exact (he.2 hb).1 hl
 | c::r,out,n,i,hd,hi,hn,ho,hn2=>by
  have hlt:i < s.length:=by
   have:=congrArg List.length hd
   simp at this
   omega
  have hr:s.drop (i+1)=r:=by rw [<-List.tail_drop,hd];rfl
  have hc:s[i]? = some c:=by rw [<-List.head?_drop,hd];rfl
  have hg:getI s (i:Int)=some c:=by
   unfold getI
   rw [decide_eq_true (by omega),cond_true,Int.toNat_natCast,hc]
  have hG:F_host_Name_G1 s (2,(out,(i:Int),(n:Int)))=cond (c==46) (some (.inr (1,(out,(i:Int),(n:Int))))) (cond ((sg c==0)||((n:Int)==63)) (some (.inr (0,(out,(i:Int),(n:Int))))) (cond ((sg c==45)&&((n:Int)==0)) (some (.inr (0,(out,(i:Int),(n:Int))))) (some (.inr (2,(out++[sg c],((i+1:Nat):Int),((n+1:Nat):Int))))))):=by
   show F_host_Name_G1_2 s (out,(i:Int),(n:Int))=_
   unfold F_host_Name_G1_2
   dsimp only
   rw [beq_nat,beq_eq_false_iff_ne.2 (show i≠s.length by omega),cond_false,hg,Option.bind_some,Option.bind_some,sign_eq,Option.bind_some]
   unfold chk
   rw [chk_out (by show out.length+1<=_;omega),cond_true,wrap_in (by omega) (by omega),wrap_in (by omega) (by omega)]
   rfl
  have he:=name_end (s:=s) (i:=i) hn (by omega)
  unfold nameP
  cases h46:c==46 with
  | true=>
   rw [h46,cond_true] at hG
   rw [cond_true]
   refine loop_inr hG ?_
   cases hb:endsB out n with
   | true=>exact he.1 hb
   | false=>
    refine (he.2 hb).2 hlt (by omega) _ ?_
    exact name_loop s hs r (out++[46]) 0 (i+1) hr (by omega) (.inl rfl) (by simp;omega) (by omega)
  | false=>
   have e63:((n:Int)==63)=(n==63):=beq_nat n 63
   have e0:((n:Int)==0)=(n==0):=beq_nat n 0
   rw [h46,cond_false,e63,e0] at hG
   rw [cond_false]
   cases h1:(sg c==0)||(n==63) with
   | true=>
    rw [h1,cond_true] at hG
    rw [Bool.true_or,cond_true]
    exact loop_inr hG (name_wrong s _)
   | false=>
    rw [h1,cond_false] at hG
    rw [Bool.false_or]
    cases h2:(sg c==45)&&(n==0) with
    | true=>
     rw [h2,cond_true] at hG
     rw [cond_true]
     exact loop_inr hG (name_wrong s _)
    | false=>
     rw [h2,cond_false] at hG
     rw [cond_false]
     have hne:n≠63:=by
      rcases Bool.or_eq_false_iff.1 h1 with ⟨_,h⟩
      exact beq_eq_false_iff_ne.1 h
     refine loop_inr hG ?_
     exact name_loop s hs r (out++[sg c]) (n+1) (i+1) hr (by omega) (.inr (by simp)) (by simp;omega) (by omega)
theorem name_form (s:List Int):F_host_Name s=joinC (S:=Nat×List Int×Int×Int) (R:=List Int×Int) (cond (decide ((s.length:Int) > 253)) (some (.inr (0,(([]:List Int),0,0)))) (F_host_Name_G1_2 s ([],0,0))) (fun p=>loopC (S:=Nat×List Int×Int×Int) (R:=List Int×Int) (F_host_Name_G1 s) p):=rfl
theorem name_eq (s:List Int):F_host_Name s=some (nameR s):=by
 rw [name_form]
 unfold nameR
 by_cases h:253 < s.length
 ·rw [decide_eq_true (show (s.length:Int) > 253 by omega),decide_eq_true h,cond_true,cond_true]
  exact name_wrong s _
 ·rw [decide_eq_false (show ¬ (s.length:Int) > 253 by omega),decide_eq_false h,cond_false,cond_false]
  have hl:=name_loop s (by omega) s [] 0 0 rfl (by omega) (.inl rfl) (by simp) (by omega)
  obtain ⟨k,hk⟩:=iter_of_loop' hl
  cases k with
  | zero=>cases hk
  | succ k=>
   unfold iterC at hk
   have hG:F_host_Name_G1 s (2,(([]:List Int),((0:Nat):Int),((0:Nat):Int)))=F_host_Name_G1_2 s ([],0,0):=rfl
   rw [hG] at hk
   split at hk
   ·cases hk
   ·rename_i r hr
    rw [hr]
    exact hk
   ·rename_i x hx
    rw [hx]
    exact loop_of_iter hk
theorem prefix_lit (s p:List Int) (hs:s.length<=1000000):F_strings_HasPrefix s p=some (decide (p.length<=s.length)&&(s.take p.length==p)):=by
 unfold F_strings_HasPrefix F_internal_stringslite_HasPrefix
 by_cases h:p.length<=s.length
 ·rw [decide_eq_true (show (s.length:Int) >= (p.length:Int) by omega),cond_true,decide_eq_true h,Bool.true_and]
  have:=cutI_nat (s:=s) (a:=0) (b:=p.length) (by omega) h
  rw [show cutI s 0 (p.length:Int)=some (s.take p.length) from this]
  rfl
 ·rw [decide_eq_false (show ¬ (s.length:Int) >= (p.length:Int) by omega),cond_false,decide_eq_false h]
  rfl
theorem byte_len {w:List Int} (h:byteB w=true):w.length<=3:=by
 unfold byteB at h
 rw [Bool.and_eq_true,decide_eq_true_iff] at h
 obtain ⟨n,h1,h2⟩:=canon_eq _ w rfl h.1
 have:=dgs_len 2 n (by omega)
 rwa [<-h1] at this
theorem four_len {s:List Int} (h:(fourR s).2=true):s.length<=15 /\ (fourR s).1.length=4:=by
 unfold fourR at h ⊢
 cases hc:(decide ((splitI s 46).length=4)&&(splitI s 46).all byteB) with
 | false=>rw [hc] at h;cases h
 | true=>
  rw [Bool.and_eq_true,decide_eq_true_iff] at hc
  have h1:=splitI_sum s 46
  have:∀ l:List (List Int),l.all byteB=true->(l.map List.length).sum<=3*l.length:=fun l=>by
   induction l with
   | nil=>intro _;simp
   | cons w l ih=>
    intro h
    rw [List.all_cons,Bool.and_eq_true] at h
    have:=byte_len h.1
    have:=ih h.2
    simp
    omega
  have:=this _ hc.2
  refine ⟨by omega,?_⟩
  rw [cond_true,List.length_map]
  exact hc.1
def dg (c:Int):Int:=if 48<=c /\ c<=57 then c - 48 else if 97<=c /\ c<=102 then c - 87 else if 65<=c /\ c<=70 then c - 55 else -1
theorem dg_in (c:Int) : -1<=dg c /\ dg c < 16:=by unfold dg;split;omega;split;omega;split;omega;omega
theorem u8_sm {x:Int} (h0:0<=x) (h1:x < 256):IntKind.u8.wrap x=x:=by rw [IntKind.wrap_u8];omega
theorem digit_eq (c:Int):F_addr_digit c=some (dg c):=by
 unfold F_addr_digit dg
 by_cases h1:48<=c /\ c<=57
 ·rw [show (decide (c >= 48)&&decide (c<=57))=true by simpa using h1,cond_true,if_pos h1,u8_sm (by omega) (by omega),wrap_in (by omega) (by omega)]
 ·rw [show (decide (c >= 48)&&decide (c<=57))=false by simp;omega,cond_false,if_neg h1]
  by_cases h2:97<=c /\ c<=102
  ·rw [show (decide (c >= 97)&&decide (c<=102))=true by simpa using h2,cond_true,if_pos h2,u8_sm (by omega) (by omega),wrap_in (x:=c - 97) (by omega) (by omega),wrap_in (by omega) (by omega)]
   congr 1;omega
  ·rw [show (decide (c >= 97)&&decide (c<=102))=false by simp;omega,cond_false,if_neg h2]
   by_cases h3:65<=c /\ c<=70
   ·rw [show (decide (c >= 65)&&decide (c<=70))=true by simpa using h3,cond_true,if_pos h3,u8_sm (by omega) (by omega),wrap_in (x:=c - 65) (by omega) (by omega),wrap_in (by omega) (by omega)]
    congr 1;omega
   ·rw [show (decide (c >= 65)&&decide (c<=70))=false by simp;omega,cond_false,if_neg h3]
theorem or16 {n d:Int} (h0:0<=n) (h1:n < 65536) (h2:0<=d) (h3:d < 16):bits .or .i64 (IntKind.i64.wrap (n*2 ^ 4)) d=n*16+d:=by
  have e:n*2 ^ 4=n*16:=rfl
  rw [e,wrap_in (by omega) (by omega)]
  exact bits_join .i64 40 (by decide) (fun n h0 h1 => wrap_in (by omega) (by have e : (2 : Int) ^ 40 = 1099511627776 := by decide
                                                                             omega)) 4 (n * 16) d (by omega) (by omega) (by have e : (2 : Int) ^ 40 = 1099511627776 := by decide
                                                                                                                            omega) h2 h3 (by have e : (2 : Int) ^ 40 = 1099511627776 := by decide
                                                                                                                                             omega)
def digs:List Int->Int->Nat->Int×List Int
 | [],n,_=>(n,[])
 | c::r,n,z=>cond (decide (0<=dg c)&&decide (z < 4)) (digs r (n*16+dg c) (z+1)) (n,c::r)
def by2 (n:Int):List Int:=[n / 256 % 256,n % 256]
theorem by2_eq {n:Int} (h0:0<=n):([(IntKind.u8.wrap (Int.fdiv n (2 ^ 8))),(IntKind.u8.wrap n)]:List Int)=by2 n:=by
 rw [IntKind.wrap_u8,IntKind.wrap_u8,Int.fdiv_eq_ediv_of_nonneg _ (by decide)];rfl
def overM (b:List Int) (g:Int):Option (List Int):=cond (decide (g < 0)) (cond (b.length==16) (some b) none) (cond (decide (16<=b.length)) none (some (insZ b g.toNat)))
def tail3 (f:List Int->Int->List Int->Option (List Int)) (b:List Int):List Int->Option (List Int)
 | []=>overM b b.length
 | e::r3=>f b b.length (e::r3)
def tail2 (f:List Int->Int->List Int->Option (List Int)) (b:List Int) (g:Int):List Int->Option (List Int)
 | []=>none
 | d::r2=>cond (d != 58) (f b g (d::r2)) (cond (decide (0<=g)) none (tail3 f b r2))
def tailM (f:List Int->Int->List Int->Option (List Int)) (b:List Int) (g:Int):List Int->Option (List Int)
 | []=>overM b g
 | c::r=>cond (c != 58||b.length==16) none (tail2 f b g r)
def colM:Nat->List Int->Int->List Int->Option (List Int)
 | 0,_,_,_=>none
 | _+1,_,_,[]=>none
 | k+1,b,g,c::r=>cond (decide (0<=dg c)) (tailM (colM k) (b++by2 (digs r (dg c) 1).1) g (digs r (dg c) 1).2) none
def RelC (o:Option (List Int×Bool)) (m:Option (List Int)):Prop:=match m with
 | some x=>o=some (x,true)
 | none=>∃ v:List Int,o=some (v,false) /\ v.length<=16
theorem relC_fail:RelC (some (([]:List Int),false)) none:=⟨[],rfl,by simp⟩
theorem over_rel (s b:List Int) (g i n z:Int) (hb:b.length<=16) (h1 : -1<=g) (h2:g<=b.length):RelC (loopC (F_addr_coloned_G1 s) (0,(b,g,i,n,z))) (overM b g):=by
  have hbody:F_addr_coloned_G1 s (0,(b,g,i,n,z))=F_addr_coloned_G1_0 (b,g,i,n,z):=rfl
  unfold overM
  unfold F_addr_coloned_G1_0 at hbody
  dsimp only at hbody
  by_cases hg:g < 0
  · rw [decide_eq_true hg,cond_true] at hbody ⊢
    rw [loop_inl hbody]
    cases h16:b.length==16 with
    | true=>rw [beq_iff_eq.2 (show (b.length:Int)=16 by have:=beq_iff_eq.1 h16;omega)];rfl
    | false=>rw [beq_eq_false_iff_ne.2 (show (b.length:Int)≠16 by have:=beq_eq_false_iff_ne.1 h16;omega)];exact ⟨b,rfl,hb⟩
  · rw [decide_eq_false hg,cond_false] at hbody ⊢
    by_cases h16:16<=b.length
    · rw [decide_eq_true (show (b.length:Int) >= 16 by omega),cond_true] at hbody
      rw [loop_inl hbody,decide_eq_true h16]
      exact relC_fail
    · have hok : insOk b g = true := by
        unfold insOk
        simp only [Bool.and_eq_true,decide_eq_true_eq]
        exact ⟨⟨by omega,h2⟩,by rw [Nat.blt_eq];omega⟩
      rw [decide_eq_false (show ¬ (b.length:Int) >= 16 by omega),cond_false,hok] at hbody
      rw [loop_inl hbody,decide_eq_false h16]
      rfl
structure AtG (b:List Int) (g:Int):Prop where
 len:b.length<=14
 even:b.length % 2=0
 lo : -1<=g
 hi:g<=b.length
theorem len2 (b:List Int) (n:Int):(b++by2 n).length=b.length+2:=by rw [List.length_append];rfl
theorem drop_cons {s r:List Int} {c:Int} {i:Nat} (h:s.drop i=c::r):i < s.length /\ s[i]? = some c /\ s.drop (i+1)=r:=by
 have hl:i < s.length:=by
  rcases Nat.lt_or_ge i s.length with h1 | h1
  ·exact h1
  ·rw [List.drop_of_length_le h1] at h;cases h
 rw [List.drop_eq_getElem_cons hl] at h
 injection h with h1 h2
 exact ⟨hl,by rw [List.getElem?_eq_getElem hl,h1],h2⟩
theorem drop_nil' {s:List Int} {i:Nat} (h:s.drop i=[]) (hi:i<=s.length):i=s.length:=by
 have:=List.drop_eq_nil_iff.1 h
 omega
theorem tail_rel (s:List Int) (hs:s.length<=1000000) (f:List Int->Int->List Int->Option (List Int)) (b:List Int) (g:Int) (hA:AtG b g) (i:Nat) (n:Int) (z:Nat) (r:List Int) (hr:s.drop i=r) (hi:i<=s.length) (h0:0<=n) (h1:n < 65536) (hz:1<=z) (hz4:z<=4)
  (hstop:r=[] \/ ∃ c r',r=c::r' /\ (decide (0<=dg c)&&decide (z < 4))=false)
  (ih:∀ (b':List Int) (g':Int) (j:Nat) (r':List Int) (n' z':Int),AtG b' g'->s.drop j=r'->j<=s.length->i < j->RelC (loopC (F_addr_coloned_G1 s) (1,(b',g',(j:Int),n',z'))) (f b' g' r')) (hf:∀ b g,f b g []=none) :
  RelC (loopC (F_addr_coloned_G1 s) (2,(b,g,(i:Int),n,(z:Int)))) (tailM f (b++by2 n) g r):=by
 have hbody:F_addr_coloned_G1 s (2,(b,g,(i:Int),n,(z:Int)))=F_addr_coloned_G1_2 s (b,g,(i:Int),n,(z:Int)):=rfl
 unfold F_addr_coloned_G1_2 chk at hbody
 dsimp only at hbody
 have hb14:=hA.len
 have hck:(decide ((b.length+(by2 n).length)*1<=140737488355328)&&decide (b.length+(by2 n).length<=maxLen))=true:=chk1 (by show b.length+2<=_;omega)
 have hz0:((z:Int)==0)=false:=beq_eq_false_iff_ne.2 (by omega)
 have hl2:=len2 b n
 rw [by2_eq h0,hck,hz0] at hbody
 simp only [cond_true,cond_false] at hbody
 rcases hstop with rfl | ⟨c,r',rfl,hc⟩
 ·have hie:=drop_nil' hr hi
  rw [decide_eq_false (show ¬ (i:Int) < (s.length:Int) by omega),cond_false,beq_iff_eq.2 (show (i:Int)=(s.length:Int) by omega),cond_true] at hbody
  have ho:=over_rel s (b++by2 n) g i n z (by omega) hA.lo (by have:=hA.hi;omega)
  show RelC _ (overM (b++by2 n) g)
  cases hm:loopC (F_addr_coloned_G1 s) (0,(b++by2 n,g,(i:Int),n,(z:Int))) with
  | none=>
   rw [hm] at ho
   unfold RelC at ho
   split at ho
   ·cases ho
   ·obtain ⟨v,hv,_⟩:=ho;cases hv
  | some x=>
   rw [loop_inr hbody hm]
   rw [hm] at ho
   exact ho
 ·obtain ⟨hlt,hget,hdrop⟩:=drop_cons hr
  have hg1:=getI_nat hget
  have hdz:(decide (dg c >= 0)&&decide ((z:Int) < 4))=false:=by
   rw [<-hc]
   congr 1
   exact decide_eq_decide.2 (by omega)
  rw [decide_eq_true (show (i:Int) < (s.length:Int) by omega),cond_true,hg1] at hbody
  simp only [Option.bind_some,digit_eq,hdz,cond_false] at hbody
  rw [beq_eq_false_iff_ne.2 (show (i:Int)≠(s.length:Int) by omega),cond_false,show ((((b++by2 n).length:Nat):Int)==16)=((b++by2 n).length==16) by rw [Bool.eq_iff_iff,beq_iff_eq,beq_iff_eq];omega] at hbody
  have pass:∀ {x:Nat×List Int×Int×Int×Int×Int} {m:Option (List Int)},F_addr_coloned_G1 s (2,(b,g,(i:Int),n,(z:Int)))=some (.inr x)->RelC (loopC (F_addr_coloned_G1 s) x) m->RelC (loopC (F_addr_coloned_G1 s) (2,(b,g,(i:Int),n,(z:Int)))) m:=fun {x m} he hm=>by
   cases hl:loopC (F_addr_coloned_G1 s) x with
   | none=>
    rw [hl] at hm
    unfold RelC at hm
    split at hm
    ·cases hm
    ·obtain ⟨v,hv,_⟩:=hm;cases hv
   | some y=>
    rw [loop_inr he hl]
    rw [hl] at hm
    exact hm
  show RelC _ (cond (c != 58||(b++by2 n).length==16) none (tail2 f (b++by2 n) g r'))
  cases hx:(c != 58||(b++by2 n).length==16) with
  | true=>
   rw [hx,cond_true] at hbody
   rw [loop_inl hbody]
   exact relC_fail
  | false=>
   rw [hx,cond_false,wrap_in (x:=(i:Int)+1) (by omega) (by omega)] at hbody
   rw [cond_false]
   have hne:¬ (b++by2 n).length=16:=beq_eq_false_iff_ne.1 (Bool.or_eq_false_iff.1 hx).2
   have hA':AtG (b++by2 n) g:=⟨by have:=hA.even;omega,by rw [hl2];have:=hA.even;omega,hA.lo,by have:=hA.hi;omega⟩
   cases r' with
   | nil=>
    have hie:=drop_nil' hdrop (by omega)
    rw [beq_iff_eq.2 (show (i:Int)+1=(s.length:Int) by omega),cond_true] at hbody
    have:=ih (b++by2 n) g (i+1) [] n z hA' hdrop (by omega) (by omega)
    rw [hf] at this
    exact pass hbody (by exact_mod_cast this)
   | cons d r2=>
    obtain ⟨hlt2,hget2,hdrop2⟩:=drop_cons hdrop
    have hg2:getI s ((i:Int)+1)=some d:=getI_nat (i:=i+1) hget2
    rw [beq_eq_false_iff_ne.2 (show (i:Int)+1≠(s.length:Int) by omega),cond_false,hg2,Option.bind_some] at hbody
    show RelC _ (cond (d != 58) (f (b++by2 n) g (d::r2)) (cond (decide (0<=g)) none (tail3 f (b++by2 n) r2)))
    cases hd:d != 58 with
    | true=>
     rw [hd,cond_true] at hbody
     rw [cond_true]
     have:=ih (b++by2 n) g (i+1) (d::r2) n z hA' hdrop (by omega) (by omega)
     exact pass hbody (by exact_mod_cast this)
    | false=>
     rw [hd,cond_false] at hbody
     by_cases hg0:0<=g
     ·rw [decide_eq_true (show g >= 0 from hg0),cond_true] at hbody
      rw [loop_inl hbody,cond_false,decide_eq_true hg0]
      exact relC_fail
     ·rw [decide_eq_false (show ¬ g >= 0 from hg0),cond_false,wrap_in (x:=(i:Int)+1+1) (by omega) (by omega)] at hbody
      rw [cond_false,decide_eq_false hg0,cond_false]
      have hA2:AtG (b++by2 n) ((b++by2 n).length:Int):=⟨hA'.len,hA'.even,by omega,Int.le_refl _⟩
      cases r2 with
      | nil=>
       have hie:=drop_nil' hdrop2 (by omega)
       rw [decide_eq_false (show ¬ (i:Int)+1+1 < (s.length:Int) by omega),cond_false,decide_eq_false (show ¬ ((b++by2 n).length:Int) < 0 by omega),cond_false] at hbody
       show RelC _ (overM (b++by2 n) ((b++by2 n).length:Int))
       unfold overM
       rw [decide_eq_false (show ¬ ((b++by2 n).length:Int) < 0 by omega),cond_false]
       have h14:=hA'.len
       rw [decide_eq_false (show ¬ ((b++by2 n).length:Int) >= 16 by omega),cond_false] at hbody
       have hok:insOk (b++by2 n) ((b++by2 n).length:Int)=true:=by
        unfold insOk
        simp only [Bool.and_eq_true,decide_eq_true_eq]
        exact ⟨⟨by omega,Int.le_refl _⟩,by rw [Nat.blt_eq];omega⟩
       rw [hok,cond_true] at hbody
       rw [loop_inl hbody,decide_eq_false (show ¬ 16<=(b++by2 n).length by omega)]
       rfl
      | cons e r3=>
       obtain ⟨hlt3,_,_⟩:=drop_cons hdrop2
       rw [decide_eq_true (show (i:Int)+1+1 < (s.length:Int) by omega),cond_true] at hbody
       have:=ih (b++by2 n) ((b++by2 n).length:Int) (i+1+1) (e::r3) n z hA2 hdrop2 (by omega) (by omega)
       exact pass hbody (by exact_mod_cast this)
theorem rel_some {o:Option (List Int×Bool)} {m:Option (List Int)} (h:RelC o m):∃ x,o=some x:=by
 unfold RelC at h
 split at h
 ·exact ⟨_,h⟩
 ·obtain ⟨v,hv,_⟩:=h;exact ⟨_,hv⟩
theorem rel_inr {s:List Int} {y x:Nat×List Int×Int×Int×Int×Int} {m:Option (List Int)} (he:F_addr_coloned_G1 s y=some (.inr x)) (hm:RelC (loopC (F_addr_coloned_G1 s) x) m):RelC (loopC (F_addr_coloned_G1 s) y) m:=by
 obtain ⟨v,hv⟩:=rel_some hm
 rw [loop_inr he hv]
 rw [hv] at hm
 exact hm
theorem pow16:∀ z:Nat,1<=z->z<=4->(16:Int) ^ z<=65536
 | 1,_,_=>by decide
 | 2,_,_=>by decide
 | 3,_,_=>by decide
 | 4,_,_=>by decide
 | 0,h,_=>absurd h (by decide)
 | n+5,_,h=>absurd h (by omega)
theorem digs_rel (s:List Int) (hs:s.length<=1000000) (f:List Int->Int->List Int->Option (List Int)) (b:List Int) (g:Int) (hA:AtG b g) (hf:∀ b g,f b g []=none):∀ (r:List Int) (i:Nat) (n:Int) (z:Nat),s.drop i=r->i<=s.length->0<=n->n < 16 ^ z->1<=z->z<=4 ->
  (∀ (b':List Int) (g':Int) (j:Nat) (r':List Int) (n' z':Int),AtG b' g'->s.drop j=r'->j<=s.length->i<=j->RelC (loopC (F_addr_coloned_G1 s) (1,(b',g',(j:Int),n',z'))) (f b' g' r')) ->
  RelC (loopC (F_addr_coloned_G1 s) (2,(b,g,(i:Int),n,(z:Int)))) (tailM f (b++by2 (digs r n z).1) g (digs r n z).2)
 | [],i,n,z,hr,hi,h0,h1,hz,hz4,ih=>by
  have hp:=pow16 z hz hz4
  exact tail_rel s hs f b g hA i n z [] hr hi h0 (by omega) hz hz4 (.inl rfl) (fun b' g' j r' n' z' a1 a2 a3 a4=>ih b' g' j r' n' z' a1 a2 a3 (by omega)) hf
 | c::r,i,n,z,hr,hi,h0,h1,hz,hz4,ih=>by
  have hp:=pow16 z hz hz4
  have h65:n < 65536:=by omega
  unfold digs
  cases hc:decide (0<=dg c)&&decide (z < 4) with
  | false=>
   rw [cond_false]
   exact tail_rel s hs f b g hA i n z (c::r) hr hi h0 h65 hz hz4 (.inr ⟨c,r,rfl,hc⟩) (fun b' g' j r' n' z' a1 a2 a3 a4=>ih b' g' j r' n' z' a1 a2 a3 (by omega)) hf
  | true=>
   rw [cond_true]
   obtain ⟨hlt,hget,hdrop⟩:=drop_cons hr
   simp only [Bool.and_eq_true,decide_eq_true_eq] at hc
   obtain ⟨hd0,hz3⟩:=hc
   obtain ⟨_,hd1⟩:=dg_in c
   have hp2:(16:Int) ^ (z+1)=16 ^ z*16:=Int.pow_succ ..
   have hrec:=digs_rel s hs f b g hA hf r (i+1) (n*16+dg c) (z+1) hdrop (by omega) (by omega) (by rw [hp2];omega) (by omega) (by omega) (fun b' g' j r' n' z' a1 a2 a3 a4=>ih b' g' j r' n' z' a1 a2 a3 (by omega))
   refine rel_inr (x:=(2,(b,g,((i+1:Nat):Int),n*16+dg c,((z+1:Nat):Int)))) ?_ hrec
   show F_addr_coloned_G1_2 s (b,g,(i:Int),n,(z:Int))=_
   unfold F_addr_coloned_G1_2
   dsimp only
   rw [decide_eq_true (show (i:Int) < (s.length:Int) by omega),cond_true,getI_nat hget]
   simp only [Option.bind_some,digit_eq]
   rw [decide_eq_true (show dg c >= 0 from hd0),decide_eq_true (show (z:Int) < 4 by omega),Bool.true_and,cond_true,or16 h0 h65 hd0 hd1,wrap_in (x:=(i:Int)+1) (by omega) (by omega),wrap_in (x:=(z:Int)+1) (by omega) (by omega)]
   rfl
theorem colM_nil:∀ (k:Nat) (b:List Int) (g:Int),colM k b g []=none
 | 0,_,_=>rfl
 | _+1,_,_=>rfl
theorem colM_rel (s:List Int) (hs:s.length<=1000000):∀ (k:Nat) (b:List Int) (g:Int) (i:Nat) (r:List Int) (n z:Int),r.length < k->AtG b g->s.drop i=r->i<=s.length->RelC (loopC (F_addr_coloned_G1 s) (1,(b,g,(i:Int),n,z))) (colM k b g r)
 | 0,_,_,_,_,_,_,hk,_,_,_=>absurd hk (Nat.not_lt_zero _)
 | k+1,b,g,i,r,n,z,hk,hA,hr,hi=>by
  have hbody:F_addr_coloned_G1 s (1,(b,g,(i:Int),n,z))=F_addr_coloned_G1_1 s (b,g,(i:Int),n,z):=rfl
  unfold F_addr_coloned_G1_1 at hbody
  dsimp only at hbody
  cases r with
  | nil=>
   have hie:=drop_nil' hr hi
   rw [decide_eq_false (show ¬ (i:Int) < (s.length:Int) by omega),cond_false] at hbody
   rw [loop_inl hbody]
   exact relC_fail
  | cons c r=>
   obtain ⟨hlt,hget,hdrop⟩:=drop_cons hr
   obtain ⟨_,hd1⟩:=dg_in c
   rw [decide_eq_true (show (i:Int) < (s.length:Int) by omega),cond_true,getI_nat hget] at hbody
   simp only [Option.bind_some,digit_eq] at hbody
   unfold colM
   by_cases hd0:0<=dg c
   ·rw [decide_eq_true (show dg c >= 0 from hd0),show (true&&decide ((0:Int) < 4))=true from rfl,cond_true,or16 (by decide) (by decide) hd0 hd1,wrap_in (x:=(i:Int)+1) (by omega) (by omega)] at hbody
    rw [decide_eq_true hd0,cond_true]
    have hlen:(s.drop i).length=s.length - i:=List.length_drop ..
    rw [hr,List.length_cons] at hlen
    have hrec:=digs_rel s hs (colM k) b g hA (colM_nil k) r (i+1) (dg c) 1 hdrop (by omega) hd0 (by simpa using hd1) (by omega) (by omega) (fun b' g' j r' n' z' a1 a2 a3 a4=>by
     refine colM_rel s hs k b' g' j r' n' z' ?_ a1 a2 a3
     have h2:(s.drop j).length=s.length - j:=List.length_drop ..
     rw [a2] at h2
     have hk':r.length+1 < k+1:=hk
     omega)
    refine rel_inr (x:=(2,(b,g,((i+1:Nat):Int),dg c,((1:Nat):Int)))) ?_ hrec
    rw [hbody]
    have e:(0:Int)*16+dg c=dg c:=by omega
    rw [e]
    rfl
   ·rw [decide_eq_false (show ¬ dg c >= 0 from hd0),show (false&&decide ((0:Int) < 4))=false from rfl,cond_false] at hbody
    rw [loop_inl hbody,decide_eq_false hd0]
    exact relC_fail
theorem join_loop {S R:Type} {body:S->Option (R⊕S)} {s0:S} {r:R} (h:loopC body s0=some r):joinC (body s0) (fun p=>loopC body p)=some r:=by
 obtain ⟨n,hn⟩:=iter_of_loop' h
 cases n with
 | zero=>cases hn
 | succ n=>
  unfold iterC at hn
  split at hn
  ·cases hn
  ·rename_i x hx
   injection hn with hn
   rw [hx,hn];rfl
  ·rename_i x hx
   rw [hx]
   exact loop_of_iter hn
def colR (s:List Int):Option (List Int):=
 cond (s.take 2==[58,58]) (cond (s.drop 2==[]) (some (insZ [] 0)) (colM s.length [] 0 (s.drop 2))) (colM (s.length+1) [] (-1) s)
theorem coloned_rel (s:List Int) (hs:s.length<=1000000):RelC (F_addr_coloned s) (colR s):=by
 have hA1:AtG [] (-1):=⟨by simp,rfl,by omega,by simp⟩
 have hA0:AtG [] 0:=⟨by simp,rfl,by omega,by simp⟩
 have go:∀ (g:Int) (i:Nat) (A:Option ((List Int×Bool)⊕(Nat×List Int×Int×Int×Int×Int))) (k:Nat),(s.drop i).length < k->AtG [] g->i<=s.length->A=F_addr_coloned_G1_1 s (([]:List Int),g,(i:Int),0,0)->RelC (joinC A (fun p=>loopC (F_addr_coloned_G1 s) p)) (colM k [] g (s.drop i)):=fun g i A k hk hA hi he=>by
  have:=colM_rel s hs k [] g i (s.drop i) 0 0 hk hA rfl hi
  obtain ⟨v,hv⟩:=rel_some this
  have he':A=F_addr_coloned_G1 s (1,(([]:List Int),g,(i:Int),0,0)):=he
  rw [he',join_loop hv]
  rw [hv] at this
  exact this
 have hpre:(decide (([58,58]:List Int).length<=s.length)&&(s.take ([58,58]:List Int).length==[58,58]))=(s.take 2==[58,58]):=by
  show (decide (2<=s.length)&&(s.take 2==[58,58]))=_
  by_cases h:2<=s.length
  ·rw [decide_eq_true h,Bool.true_and]
  ·rw [decide_eq_false h,Bool.false_and]
   refine (beq_eq_false_iff_ne.2 fun e=>?_).symm
   have:=congrArg List.length e
   rw [List.length_take] at this
   simp at this
   omega
 unfold F_addr_coloned colR
 rw [prefix_lit s _ hs,Option.bind_some,hpre]
 cases h2:s.take 2==[58,58] with
 | false=>
  rw [cond_false,cond_false]
  have:=go (-1) 0 _ (s.length+1) (by rw [List.drop_zero];omega) hA1 (by omega) rfl
  rw [List.drop_zero] at this
  exact this
 | true=>
  rw [cond_true,cond_true]
  have hlen:2<=s.length:=by
   have:=congrArg List.length (beq_iff_eq.1 h2)
   rw [List.length_take] at this
   simp at this
   omega
  have hdl:(s.drop 2).length=s.length - 2:=List.length_drop ..
  cases hd:s.drop 2 with
  | nil=>
   rw [hd] at hdl
   have hl2:s.length=2:=by simp at hdl;omega
   rw [beq_iff_eq.2 (show (2:Int)=(s.length:Int) by omega),cond_true,show (([]:List Int)==[])=true from rfl,cond_true]
   rw [join_inr (s:=(0,(([]:List Int),0,2,0,0))) rfl]
   exact loop_inl rfl
  | cons c r=>
   rw [hd,List.length_cons] at hdl
   rw [beq_eq_false_iff_ne.2 (show (2:Int)≠(s.length:Int) by omega),cond_false,show ((c::r)==([]:List Int))=false from rfl,cond_false]
   have:=go 0 2 _ s.length (by rw [hd,List.length_cons];omega) hA0 hlen rfl
   rw [hd] at this
   exact this
end Go.Proofs.YtgfmfgombmpodaaGreatDoor
