/- Texts of this claim, one behind the other. -/
import Derived.Test.YtgfmfgombmpodaaGreatDoorConfPrintsM3
import Derived.Laws.Cover3
import Derived.Deep.RegionHeld
set_option maxRecDepth 100000
namespace Go.Proofs.YtgfmfgombmpodaaGreatDoor
open Pv
set_option linter.unusedVariables false
noncomputable def F_wlvref_Split_L5 (s1:List Int) (i2:Int) (s:List (List Int)×Int×Int):Option (((List (List Int))⊕(List (List Int)))⊕(List (List Int)×Int×Int)):=
 let l3:=s.1;let i4:=s.2.1;let i5:=s.2.2
 cond (decide (i5<=(s1.length:Int)))
 (cond (i5==(s1.length:Int))
 ((cutI s1 i4 i5).bind fun s6=>
 chk (decide ((l3.length+([s6]:List (List Int)).length)*16<=140737488355328)&&decide (l3.length+([s6]:List (List Int)).length<=maxLen))
 (some (.inr ((l3++([s6]:List (List Int))),(IntKind.i64.wrap (i5+1)),(IntKind.i64.wrap (i5+1))))))
 ((getI s1 i5).bind fun i7=>
 cond (i7==i2)
 ((cutI s1 i4 i5).bind fun s8=>
 chk (decide ((l3.length+([s8]:List (List Int)).length)*16<=140737488355328)&&decide (l3.length+([s8]:List (List Int)).length<=maxLen))
 (some (.inr ((l3++([s8]:List (List Int))),(IntKind.i64.wrap (i5+1)),(IntKind.i64.wrap (i5+1))))))
 (some (.inr (l3,i4,(IntKind.i64.wrap (i5+1)))))))
 (some (.inl (.inr l3)))
noncomputable def F_wlvref_Split_J3 (s:List (List Int)):Option (List (List Int)):=
 let l9:=s
 some l9
noncomputable def F_wlvref_Split (s1:List Int) (i2:Int):Option (List (List Int)):=
 joinC (S:=List (List Int)) (R:=List (List Int))
 (loopC (S:=List (List Int)×Int×Int) (R:=(List (List Int))⊕(List (List Int))) (F_wlvref_Split_L5 s1 i2) (([]:List (List Int)),0,0))
 (F_wlvref_Split_J3)
def F_wlvref_Split_sig:Sig:=⟨[.v false [.d .str],.v false [.d (.int .u8)]],[(false,[.own 9 .str])]⟩
def F_wlvref_Split_ann:List (Nat×Ann):=[(3,⟨4,[(5,false,[.own 9 .str])],[],(List.range' 6 28),[]⟩),(5,⟨6,[(5,false,[.own 9 .str]),(6,false,[.d (.int .i64)]),(7,false,[.d (.int .i64)])],[],(List.range' 8 26),[]⟩)]
noncomputable def F_wlvref_Split_env:Env:=⟨Tryz.prog,[],[]⟩
theorem F_wlvref_Split_text:pvFn F_wlvref_Split_env F_wlvref_Split_ann Tryz.f55 F_wlvref_Split_sig=F_wlvref_Split:=by kernel_rfl
noncomputable def F_wlvref18_limits:Option (List (List Int)×List Int):=
 some (([([99,111,110,110,115]:List Int),([115,116,114,101,97,109,115]:List Int),([98,117,102,102,101,114]:List Int),([108,111,103]:List Int),([105,100,108,101]:List Int),([100,105,97,108]:List Int),([108,105,115,116]:List Int)]:List (List Int)),([16,100,65535,100000,1099511627776,1099511627776,16384]:List Int))
def F_wlvref18_limits_sig:Sig:=⟨[],[(false,[.own 9 .str]),(false,[.own 3 (.int .i64)])]⟩
def F_wlvref18_limits_ann:List (Nat×Ann):=[]
noncomputable def F_wlvref18_limits_env:Env:=⟨Tryz.prog,[],[]⟩
theorem F_wlvref18_limits_text:pvFn F_wlvref18_limits_env F_wlvref18_limits_ann Tryz.f73 F_wlvref18_limits_sig=F_wlvref18_limits:=by kernel_rfl
noncomputable def F_wlvref_Num_L7 (s1:List Int) (s:Int×Int):Option (((Int×Bool)⊕(Int))⊕(Int×Int)):=
 let i5:=s.1;let i6:=s.2
 cond (decide (i6 < (s1.length:Int)))
 ((getI s1 i6).bind fun i7=>
 cond (decide (i7 < 48))
 (some (.inl (.inl (0,false))))
 ((getI s1 i6).bind fun i8=>
 cond (decide (i8 > 57))
 (some (.inl (.inl (0,false))))
 ((getI s1 i6).bind fun i9=>
 some (.inr ((IntKind.i64.wrap ((IntKind.i64.wrap (i5*10))+(IntKind.i64.wrap (IntKind.u8.wrap (i9 - 48))))),(IntKind.i64.wrap (i6+1)))))))
 (some (.inl (.inr i5)))
noncomputable def F_wlvref_Num_J5 (i2:Int) (i3:Int) (s:Int):Option (Int×Bool):=
 let i10:=s
 some (i10,((decide (i10 >= i2))&&(decide (i10<=i3))))
noncomputable def F_wlvref_Num (s1:List Int) (i2:Int) (i3:Int):Option (Int×Bool):=
 cond ((decide ((s1.length:Int) < 1))||(decide ((s1.length:Int) > 17)))
 (some (0,false))
 (cond (decide ((s1.length:Int) > 1))
 ((getI s1 0).bind fun i4=>
 cond (i4==48)
 (some (0,false))
 (joinC (S:=Int) (R:=Int×Bool)
 (loopC (S:=Int×Int) (R:=(Int×Bool)⊕(Int)) (F_wlvref_Num_L7 s1) (0,0))
 (F_wlvref_Num_J5 i2 i3)))
 (joinC (S:=Int) (R:=Int×Bool)
 (loopC (S:=Int×Int) (R:=(Int×Bool)⊕(Int)) (F_wlvref_Num_L7 s1) (0,0))
 (F_wlvref_Num_J5 i2 i3)))
def F_wlvref_Num_sig:Sig:=⟨[.v false [.d .str],.v false [.d (.int .i64)],.v false [.d (.int .i64)]],[(false,[.d (.int .i64)]),(false,[.d .bool])]⟩
def F_wlvref_Num_ann:List (Nat×Ann):=[(5,⟨6,[(8,false,[.d (.int .i64)])],[],([6,7,9]++List.range' 28 24),[]⟩),(7,⟨8,[(8,false,[.d (.int .i64)]),(9,false,[.d (.int .i64)])],[],([6,7]++List.range' 28 24),[]⟩)]
noncomputable def F_wlvref_Num_env:Env:=⟨Tryz.prog,[],[]⟩
theorem F_wlvref_Num_text:pvFn F_wlvref_Num_env F_wlvref_Num_ann Tryz.f98 F_wlvref_Num_sig=F_wlvref_Num:=by kernel_rfl
noncomputable def F_wlvref18_name_L6 (s1:List Int) (s:Int):Option (((Bool)⊕(Unit))⊕(Int)):=
 let i2:=s
 cond (decide (i2 < (s1.length:Int)))
 ((getI s1 i2).bind fun i3=>
 cond ((decide (i3 < 97))||(decide (i3 > 122)))
 (cond ((decide (i3 < 65))||(decide (i3 > 90)))
 (cond (((((decide (i3 < 48))||(decide (i3 > 57)))&&(i3 != 46))&&(i3 != 95))&&(i3 != 45))
 (some (.inl (.inl false)))
 (some (.inr (IntKind.i64.wrap (i2+1)))))
 (some (.inr (IntKind.i64.wrap (i2+1)))))
 (cond false
 (cond (((((decide (i3 < 48))||(decide (i3 > 57)))&&(i3 != 46))&&(i3 != 95))&&(i3 != 45))
 (some (.inl (.inl false)))
 (some (.inr (IntKind.i64.wrap (i2+1)))))
 (some (.inr (IntKind.i64.wrap (i2+1))))))
 (some (.inl (.inr ())))
noncomputable def F_wlvref18_name_J4 (s:Unit):Option (Bool):=
 some true
noncomputable def F_wlvref18_name (s1:List Int):Option (Bool):=
 cond ((decide ((s1.length:Int) < 1))||(decide ((s1.length:Int) > 64)))
 (some false)
 (joinC (S:=Unit) (R:=Bool)
 (loopC (S:=Int) (R:=(Bool)⊕(Unit)) (F_wlvref18_name_L6 s1) 0)
 (F_wlvref18_name_J4))
def F_wlvref18_name_sig:Sig:=⟨[.v false [.d .str]],[(false,[.d .bool])]⟩
def F_wlvref18_name_ann:List (Nat×Ann):=[(4,⟨5,[],[],([2,3,4]++List.range' 13 43),[]⟩),(6,⟨7,[(3,false,[.d (.int .i64)])],[],([2,4]++List.range' 13 43),[]⟩)]
noncomputable def F_wlvref18_name_env:Env:=⟨Tryz.prog,[],[]⟩
theorem F_wlvref18_name_text:pvFn F_wlvref18_name_env F_wlvref18_name_ann Tryz.f99 F_wlvref18_name_sig=F_wlvref18_name:=by kernel_rfl
noncomputable def F_wlvref18_digit_L3 (i1:Int) (s:Int):Option (((Int)⊕(Unit))⊕(Int)):=
 let i2:=s
 cond (decide (i2 < 16))
 ((getI ([48,49,50,51,52,53,54,55,56,57,97,98,99,100,101,102]:List Int) i2).bind fun i3=>
 cond (i3==i1)
 (some (.inl (.inl i2)))
 (some (.inr (IntKind.i64.wrap (i2+1)))))
 (some (.inl (.inr ())))
noncomputable def F_wlvref18_digit_J1 (s:Unit):Option (Int):=
 some (-1)
noncomputable def F_wlvref18_digit (i1:Int):Option (Int):=
 joinC (S:=Unit) (R:=Int)
 (loopC (S:=Int) (R:=(Int)⊕(Unit)) (F_wlvref18_digit_L3 i1) 0)
 (F_wlvref18_digit_J1)
def F_wlvref18_digit_sig:Sig:=⟨[.v false [.d (.int .u8)]],[(false,[.d (.int .i64)])]⟩
def F_wlvref18_digit_ann:List (Nat×Ann):=[(1,⟨2,[],[],(List.range' 2 11),[]⟩),(3,⟨4,[(3,false,[.d (.int .i64)])],[],([2]++List.range' 4 9),[]⟩)]
noncomputable def F_wlvref18_digit_env:Env:=⟨Tryz.prog,[],[]⟩
theorem F_wlvref18_digit_text:pvFn F_wlvref18_digit_env F_wlvref18_digit_ann Tryz.f138 F_wlvref18_digit_sig=F_wlvref18_digit:=by kernel_rfl
noncomputable def F_wlvref18_unhex_L7 (s1:List Int) (s:List Int×Int):Option (((List Int×Bool)⊕(List Int))⊕(List Int×Int)):=
 let l2:=s.1;let i3:=s.2
 cond (decide (i3 < (s1.length:Int)))
 ((getI s1 i3).bind fun i4=>
 (F_wlvref18_digit i4).bind fun i5=>
 (getI s1 (IntKind.i64.wrap (i3+1))).bind fun i6=>
 (F_wlvref18_digit i6).bind fun i7=>
 cond ((decide (i5 < 0))||(decide (i7 < 0)))
 (some (.inl (.inl (([]:List Int),false))))
 (chk (decide ((l2.length+([(IntKind.u8.wrap (IntKind.i64.wrap ((IntKind.i64.wrap (16*i5))+i7)))]:List Int).length)*1<=140737488355328)&&decide (l2.length+([(IntKind.u8.wrap (IntKind.i64.wrap ((IntKind.i64.wrap (16*i5))+i7)))]:List Int).length<=maxLen))
 (some (.inr ((l2++([(IntKind.u8.wrap (IntKind.i64.wrap ((IntKind.i64.wrap (16*i5))+i7)))]:List Int)),(IntKind.i64.wrap (i3+2)))))))
 (some (.inl (.inr l2)))
noncomputable def F_wlvref18_unhex_J5 (s:List Int):Option (List Int×Bool):=
 let l8:=s
 some (l8,true)
noncomputable def F_wlvref18_unhex (s1:List Int):Option (List Int×Bool):=
 cond ((Int.tmod (s1.length:Int) 2) != 0)
 (some (([]:List Int),false))
 (joinC (S:=List Int) (R:=List Int×Bool)
 (loopC (S:=List Int×Int) (R:=(List Int×Bool)⊕(List Int)) (F_wlvref18_unhex_L7 s1) (([]:List Int),0))
 (F_wlvref18_unhex_J5))
def F_wlvref18_unhex_sig:Sig:=⟨[.v false [.d .str]],[(false,[.own 5 (.int .u8)]),(false,[.d .bool])]⟩
def F_wlvref18_unhex_ann:List (Nat×Ann):=[(5,⟨6,[(4,false,[.own 5 (.int .u8)])],[],([2,3,5,6,7]++List.range' 12 29),[]⟩),(7,⟨8,[(4,false,[.own 5 (.int .u8)]),(5,false,[.d (.int .i64)])],[],([2,3,6,7]++List.range' 12 29),[]⟩)]
noncomputable def F_wlvref18_unhex_env:Env:=⟨Tryz.prog,[(138,⟨F_wlvref18_digit_sig,⟨F_wlvref18_digit⟩⟩)],[]⟩
theorem F_wlvref18_unhex_text:pvFn F_wlvref18_unhex_env F_wlvref18_unhex_ann Tryz.f100 F_wlvref18_unhex_sig=F_wlvref18_unhex:=by kernel_rfl
noncomputable def F_wlvref18_ports (s1:List Int):Option (Int×Int×Bool):=
 cond (s1==([42]:List Int))
 (some (1,65535,true))
 ((F_wlvref_Split s1 45).bind fun l2=>
 (getI l2 0).bind fun s3=>
 (F_wlvref_Num s3 1 65535).bind fun x4=>
 cond ((l2.length:Int)==1)
 (some (x4.1,x4.1,x4.2))
 ((getI l2 1).bind fun s5=>
 (F_wlvref_Num s5 x4.1 65535).bind fun x6=>
 some (x4.1,x6.1,((x4.2&&x6.2)&&((l2.length:Int)==2)))))
def F_wlvref18_ports_sig:Sig:=⟨[.v false [.d .str]],[(false,[.d (.int .i64)]),(false,[.d (.int .i64)]),(false,[.d .bool])]⟩
def F_wlvref18_ports_ann:List (Nat×Ann):=[]
noncomputable def F_wlvref18_ports_env:Env:=⟨Tryz.prog,[(55,⟨F_wlvref_Split_sig,⟨F_wlvref_Split⟩⟩),(98,⟨F_wlvref_Num_sig,⟨F_wlvref_Num⟩⟩)],[]⟩
theorem F_wlvref18_ports_text:pvFn F_wlvref18_ports_env F_wlvref18_ports_ann Tryz.f101 F_wlvref18_ports_sig=F_wlvref18_ports:=by kernel_rfl
noncomputable def F_wlvref15_four_L8 (s:List (List Int)×List Int×Int):Option (((List Int×Bool)⊕(List Int))⊕(List (List Int)×List Int×Int)):=
 let l3:=s.1;let l4:=s.2.1;let i5:=s.2.2
 cond (decide (i5 < 4))
 ((getI l3 i5).bind fun s6=>
 (F_wlvref_Num s6 0 255).bind fun x7=>
 cond (!x7.2)
 (some (.inl (.inl (([]:List Int),false))))
 (chk (decide ((l4.length+([(IntKind.u8.wrap x7.1)]:List Int).length)*1<=140737488355328)&&decide (l4.length+([(IntKind.u8.wrap x7.1)]:List Int).length<=maxLen))
 (some (.inr (l3,(l4++([(IntKind.u8.wrap x7.1)]:List Int)),(IntKind.i64.wrap (i5+1)))))))
 (some (.inl (.inr l4)))
noncomputable def F_wlvref15_four_J6 (s:List Int):Option (List Int×Bool):=
 let l8:=s
 some (l8,true)
noncomputable def F_wlvref15_four (s1:List Int):Option (List Int×Bool):=
 (F_wlvref_Split s1 46).bind fun l2=>
 cond ((l2.length:Int) != 4)
 (some (([]:List Int),false))
 (joinC (S:=List Int) (R:=List Int×Bool)
 (loopC (S:=List (List Int)×List Int×Int) (R:=(List Int×Bool)⊕(List Int)) (F_wlvref15_four_L8) (l2,([]:List Int),0))
 (F_wlvref15_four_J6))
def F_wlvref15_four_sig:Sig:=⟨[.v false [.d .str]],[(false,[.d .str]),(false,[.d .bool])]⟩
def F_wlvref15_four_ann:List (Nat×Ann):=[(6,⟨7,[(5,false,[.own 5 (.int .u8)])],[],([2,3,6,7,8]++List.range' 14 19),[]⟩),(8,⟨9,[(4,false,[.own 9 .str]),(5,false,[.own 5 (.int .u8)]),(6,false,[.d (.int .i64)])],[],([2,3,7,8]++List.range' 14 19),[]⟩)]
noncomputable def F_wlvref15_four_env:Env:=⟨Tryz.prog,[(55,⟨F_wlvref_Split_sig,⟨F_wlvref_Split⟩⟩),(98,⟨F_wlvref_Num_sig,⟨F_wlvref_Num⟩⟩)],[]⟩
theorem F_wlvref15_four_text:pvFn F_wlvref15_four_env F_wlvref15_four_ann Tryz.f176 F_wlvref15_four_sig=F_wlvref15_four:=by kernel_rfl
noncomputable def F_wlvref15_group_L7 (s1:List Int) (s:Int×Int):Option (((Int×Bool)⊕(Int))⊕(Int×Int)):=
 let i2:=s.1;let i3:=s.2
 cond (decide (i3 < (s1.length:Int)))
 ((getI s1 i3).bind fun i4=>
 cond ((decide (i4 >= 48))&&(decide (i4<=57)))
 (some (.inr ((IntKind.i64.wrap ((IntKind.i64.wrap (i2*16))+(IntKind.i64.wrap (IntKind.u8.wrap (i4 - 48))))),(IntKind.i64.wrap (i3+1)))))
 (cond ((decide (i4 >= 97))&&(decide (i4<=102)))
 (some (.inr ((IntKind.i64.wrap ((IntKind.i64.wrap ((IntKind.i64.wrap (i2*16))+(IntKind.i64.wrap (IntKind.u8.wrap (i4 - 97)))))+10)),(IntKind.i64.wrap (i3+1)))))
 (cond ((decide (i4 >= 65))&&(decide (i4<=70)))
 (some (.inr ((IntKind.i64.wrap ((IntKind.i64.wrap ((IntKind.i64.wrap (i2*16))+(IntKind.i64.wrap (IntKind.u8.wrap (i4 - 65)))))+10)),(IntKind.i64.wrap (i3+1)))))
 (some (.inl (.inl (0,false)))))))
 (some (.inl (.inr i2)))
noncomputable def F_wlvref15_group_J5 (s:Int):Option (Int×Bool):=
 let i5:=s
 some (i5,true)
noncomputable def F_wlvref15_group (s1:List Int):Option (Int×Bool):=
 cond ((decide ((s1.length:Int) < 1))||(decide ((s1.length:Int) > 4)))
 (some (0,false))
 (joinC (S:=Int) (R:=Int×Bool)
 (loopC (S:=Int×Int) (R:=(Int×Bool)⊕(Int)) (F_wlvref15_group_L7 s1) (0,0))
 (F_wlvref15_group_J5))
def F_wlvref15_group_sig:Sig:=⟨[.v false [.d .str]],[(false,[.d (.int .i64)]),(false,[.d .bool])]⟩
def F_wlvref15_group_ann:List (Nat×Ann):=[(5,⟨6,[(4,false,[.d (.int .i64)])],[],([2,3,5,6]++List.range' 15 50),[]⟩),(7,⟨8,[(4,false,[.d (.int .i64)]),(5,false,[.d (.int .i64)])],[],([2,3,6]++List.range' 15 50),[]⟩)]
noncomputable def F_wlvref15_group_env:Env:=⟨Tryz.prog,[],[]⟩
theorem F_wlvref15_group_text:pvFn F_wlvref15_group_env F_wlvref15_group_ann Tryz.f234 F_wlvref15_group_sig=F_wlvref15_group:=by kernel_rfl
noncomputable def F_wlvref15_groups_L8 (s:List (List Int)×List Int×Int):Option (((List Int×Bool)⊕(List (List Int)×List Int))⊕(List (List Int)×List Int×Int)):=
 let l3:=s.1;let l4:=s.2.1;let i5:=s.2.2
 cond ((decide (i5 < (l3.length:Int)))&&(decide (i5 < 9)))
 ((getI l3 i5).bind fun s6=>
 (F_wlvref15_group s6).bind fun x7=>
 cond (!x7.2)
 (some (.inl (.inl (([]:List Int),false))))
 (chk (decide ((l4.length+([(IntKind.u8.wrap (Int.fdiv x7.1 (2 ^ 8))),(IntKind.u8.wrap x7.1)]:List Int).length)*1<=140737488355328)&&decide (l4.length+([(IntKind.u8.wrap (Int.fdiv x7.1 (2 ^ 8))),(IntKind.u8.wrap x7.1)]:List Int).length<=maxLen))
 (some (.inr (l3,(l4++([(IntKind.u8.wrap (Int.fdiv x7.1 (2 ^ 8))),(IntKind.u8.wrap x7.1)]:List Int)),(IntKind.i64.wrap (i5+1)))))))
 (some (.inl (.inr (l3,l4))))
noncomputable def F_wlvref15_groups_J6 (s:List (List Int)×List Int):Option (List Int×Bool):=
 let l8:=s.1;let l9:=s.2
 some (l9,(decide ((l8.length:Int)<=8)))
noncomputable def F_wlvref15_groups (s1:List Int):Option (List Int×Bool):=
 cond (s1==([]:List Int))
 (some (([]:List Int),true))
 ((F_wlvref_Split s1 58).bind fun l2=>
 joinC (S:=List (List Int)×List Int) (R:=List Int×Bool)
 (loopC (S:=List (List Int)×List Int×Int) (R:=(List Int×Bool)⊕(List (List Int)×List Int)) (F_wlvref15_groups_L8) (l2,([]:List Int),0))
 (F_wlvref15_groups_J6))
def F_wlvref15_groups_sig:Sig:=⟨[.v false [.d .str]],[(false,[.own 5 (.int .u8)]),(false,[.d .bool])]⟩
def F_wlvref15_groups_ann:List (Nat×Ann):=[(6,⟨7,[(4,false,[.own 9 .str]),(5,false,[.own 5 (.int .u8)])],[],([2,3,6,7,8]++List.range' 13 28),[]⟩),(8,⟨9,[(4,false,[.own 9 .str]),(5,false,[.own 5 (.int .u8)]),(6,false,[.d (.int .i64)])],[],([2,3,7,8]++List.range' 13 28),[]⟩)]
noncomputable def F_wlvref15_groups_env:Env:=⟨Tryz.prog,[(55,⟨F_wlvref_Split_sig,⟨F_wlvref_Split⟩⟩),(234,⟨F_wlvref15_group_sig,⟨F_wlvref15_group⟩⟩)],[]⟩
theorem F_wlvref15_groups_text:pvFn F_wlvref15_groups_env F_wlvref15_groups_ann Tryz.f206 F_wlvref15_groups_sig=F_wlvref15_groups:=by kernel_rfl
noncomputable def F_wlvref15_eight_L4 (s1:List Int) (s:Int×Int):Option (((List Int×Bool)⊕(Int))⊕(Int×Int)):=
 let i2:=s.1;let i3:=s.2
 cond (decide ((IntKind.i64.wrap (i3+1)) < (s1.length:Int)))
 ((getI s1 i3).bind fun i4=>
 cond (i4==58)
 ((getI s1 (IntKind.i64.wrap (i3+1))).bind fun i5=>
 cond ((i5==58)&&(decide (i2 < 0)))
 (some (.inr (i3,(IntKind.i64.wrap (i3+1)))))
 (some (.inr (i2,(IntKind.i64.wrap (i3+1))))))
 (some (.inr (i2,(IntKind.i64.wrap (i3+1))))))
 (some (.inl (.inr i2)))
noncomputable def F_wlvref15_eight_L20 (s:List Int×List Int):Option (((List Int×Bool)⊕(List Int×List Int))⊕(List Int×List Int)):=
 let l12:=s.1;let l13:=s.2
 cond (decide ((l13.length:Int) < (IntKind.i64.wrap (16 - (l12.length:Int)))))
 (chk (decide ((l13.length+([0]:List Int).length)*1<=140737488355328)&&decide (l13.length+([0]:List Int).length<=maxLen))
 (some (.inr (l12,(l13++([0]:List Int))))))
 (some (.inl (.inr (l12,l13))))
noncomputable def F_wlvref15_eight_J19 (s:List Int×List Int):Option (List Int×Bool):=
 let l14:=s.1;let l15:=s.2
 chk (decide ((l15.length+l14.length)*1<=140737488355328)&&decide (l15.length+l14.length<=maxLen))
 (some ((l15++l14),true))
noncomputable def F_wlvref15_eight_J2 (s1:List Int) (s:Int):Option (List Int×Bool):=
 let i6:=s
 cond (decide (i6 < 0))
 ((F_wlvref15_groups s1).bind fun x7=>
 some (x7.1,(x7.2&&((x7.1.length:Int)==16))))
 ((cutI s1 0 i6).bind fun s8=>
 (F_wlvref15_groups s8).bind fun x9=>
 (cutI s1 (IntKind.i64.wrap (i6+2)) (s1.length:Int)).bind fun s10=>
 (F_wlvref15_groups s10).bind fun x11=>
 cond (((!x9.2)||(!x11.2))||(decide ((IntKind.i64.wrap ((x9.1.length:Int)+(x11.1.length:Int))) > 14)))
 (some (([]:List Int),false))
 (chk (decide ((([]:List Int).length+x9.1.length)*1<=140737488355328)&&decide (([]:List Int).length+x9.1.length<=maxLen))
 (joinC (S:=List Int×List Int) (R:=List Int×Bool)
 (loopC (S:=List Int×List Int) (R:=(List Int×Bool)⊕(List Int×List Int)) (F_wlvref15_eight_L20) (x11.1,(([]:List Int)++x9.1)))
 (F_wlvref15_eight_J19))))
noncomputable def F_wlvref15_eight (s1:List Int):Option (List Int×Bool):=
 joinC (S:=Int) (R:=List Int×Bool)
 (loopC (S:=Int×Int) (R:=(List Int×Bool)⊕(Int)) (F_wlvref15_eight_L4 s1) ((-1),0))
 (F_wlvref15_eight_J2 s1)
def F_wlvref15_eight_sig:Sig:=⟨[.v false [.d .str]],[(false,[.d .str]),(false,[.d .bool])]⟩
def F_wlvref15_eight_ann:List (Nat×Ann):=[(2,⟨3,[(4,false,[.d (.int .i64)])],[],([5]++List.range' 13 23),[]⟩),(4,⟨5,[(4,false,[.d (.int .i64)]),(5,false,[.d (.int .i64)])],[],(List.range' 13 23),[]⟩),(19,⟨20,[(10,false,[.own 5 (.int .u8)]),(12,false,[.own 5 (.int .u8)])],[],(List.range' 83 9),[]⟩),(20,⟨21,[(10,false,[.own 5 (.int .u8)]),(12,false,[.own 5 (.int .u8)])],[],(List.range' 83 9),[]⟩)]
noncomputable def F_wlvref15_eight_env:Env:=⟨Tryz.prog,[(206,⟨F_wlvref15_groups_sig,⟨F_wlvref15_groups⟩⟩)],[]⟩
theorem F_wlvref15_eight_text:pvFn F_wlvref15_eight_env F_wlvref15_eight_ann Tryz.f177 F_wlvref15_eight_sig=F_wlvref15_eight:=by kernel_rfl
noncomputable def F_wlvref15_Mapped (s1:List Int):Option (Bool):=
 cond ((s1.length:Int)==16)
 ((cutI s1 0 12).bind fun s2=>
 chk (decide (0<=(10:Int))&&decide ((10:Int)<=(10:Int))&&decide ((10:Int)*1<=140737488355328)&&decide ((10:Int)<=maxLen))
 (chk (Nat.ble ((List.replicate ((10:Int)).toNat (0:Int)).length+([255,255]:List Int).length) maxLen)
 (some (s2==((List.replicate ((10:Int)).toNat (0:Int))++([255,255]:List Int))))))
 (some false)
def F_wlvref15_Mapped_sig:Sig:=⟨[.v false [.d .str]],[(false,[.d .bool])]⟩
def F_wlvref15_Mapped_ann:List (Nat×Ann):=[]
noncomputable def F_wlvref15_Mapped_env:Env:=⟨Tryz.prog,[],[]⟩
theorem F_wlvref15_Mapped_text:pvFn F_wlvref15_Mapped_env F_wlvref15_Mapped_ann Tryz.f178 F_wlvref15_Mapped_sig=F_wlvref15_Mapped:=by kernel_rfl
noncomputable def F_wlvref15_Parse (s1:List Int):Option (List Int×Int):=
 cond (decide ((s1.length:Int) > 50))
 (some (([]:List Int),2))
 ((F_wlvref15_four s1).bind fun x2=>
 cond x2.2
 (some (x2.1,0))
 ((F_wlvref15_eight s1).bind fun x3=>
 cond (!x3.2)
 (some (([]:List Int),2))
 ((F_wlvref15_Mapped x3.1).bind fun b4=>
 cond b4
 ((cutI x3.1 12 (x3.1.length:Int)).bind fun s5=>
 some (s5,0))
 (some (x3.1,0)))))
def F_wlvref15_Parse_sig:Sig:=⟨[.v false [.d .str]],[(false,[.d .str]),(false,[.d (.int .i64)])]⟩
def F_wlvref15_Parse_ann:List (Nat×Ann):=[]
noncomputable def F_wlvref15_Parse_env:Env:=⟨Tryz.prog,[(176,⟨F_wlvref15_four_sig,⟨F_wlvref15_four⟩⟩),(177,⟨F_wlvref15_eight_sig,⟨F_wlvref15_eight⟩⟩),(178,⟨F_wlvref15_Mapped_sig,⟨F_wlvref15_Mapped⟩⟩)],[]⟩
theorem F_wlvref15_Parse_text:pvFn F_wlvref15_Parse_env F_wlvref15_Parse_ann Tryz.f139 F_wlvref15_Parse_sig=F_wlvref15_Parse:=by kernel_rfl
noncomputable def F_wlvref15_bit (s1:List Int) (i2:Int):Option (Int):=
 (getI s1 (IntKind.i64.wrap (Int.tdiv i2 8))).bind fun i3=>
 chk (decide (0<=(IntKind.u64.wrap (IntKind.i64.wrap (7 - (Int.tmod i2 8))))))
 (some (bits .and .i64 (Int.fdiv (IntKind.i64.wrap i3) (2 ^ (min ((IntKind.u64.wrap (IntKind.i64.wrap (7 - (Int.tmod i2 8))))).toNat 64))) 1))
def F_wlvref15_bit_sig:Sig:=⟨[.v false [.d .str],.v false [.d (.int .i64)]],[(false,[.d (.int .i64)])]⟩
def F_wlvref15_bit_ann:List (Nat×Ann):=[]
noncomputable def F_wlvref15_bit_env:Env:=⟨Tryz.prog,[],[]⟩
theorem F_wlvref15_bit_text:pvFn F_wlvref15_bit_env F_wlvref15_bit_ann Tryz.f140 F_wlvref15_bit_sig=F_wlvref15_bit:=by kernel_rfl
noncomputable def F_wlvref15_ParseNet_L15 (x4:List Int×Int) (s:Int×List Int×Int×List Int×Int):Option (((List Int×Int×Int)⊕(List Int×Int×List Int×Int))⊕(Int×List Int×Int×List Int×Int)):=
 let i7:=s.1;let s8:=s.2.1;let i9:=s.2.2.1;let s10:=s.2.2.2.1;let i11:=s.2.2.2.2
 cond (decide (i7 < (IntKind.i64.wrap (8*(x4.1.length:Int)))))
 ((F_wlvref15_bit x4.1 i7).bind fun i12=>
 cond (i12 != 0)
 (some (.inl (.inl (([]:List Int),0,2))))
 (some (.inr ((IntKind.i64.wrap (i7+1)),s8,i9,s10,i11))))
 (some (.inl (.inr (s8,i9,s10,i11))))
noncomputable def F_wlvref15_ParseNet_J13 (s:List Int×Int×List Int×Int):Option (List Int×Int×Int):=
 let s13:=s.1;let i14:=s.2.1;let s15:=s.2.2.1;let i16:=s.2.2.2
 some (s15,i16,0)
noncomputable def F_wlvref15_ParseNet (s1:List Int):Option (List Int×Int×Int):=
 (F_wlvref_Split s1 47).bind fun l2=>
 (getI l2 0).bind fun s3=>
 (F_wlvref15_Parse s3).bind fun x4=>
 cond ((x4.2 != 0)||(decide ((l2.length:Int) > 2)))
 (some (([]:List Int),0,2))
 (cond ((l2.length:Int)==2)
 ((getI l2 1).bind fun s5=>
 (F_wlvref_Num s5 0 (IntKind.i64.wrap (8*(x4.1.length:Int)))).bind fun x6=>
 cond (!x6.2)
 (some (([]:List Int),0,2))
 (joinC (S:=List Int×Int×List Int×Int) (R:=List Int×Int×Int)
 (loopC (S:=Int×List Int×Int×List Int×Int) (R:=(List Int×Int×Int)⊕(List Int×Int×List Int×Int)) (F_wlvref15_ParseNet_L15 x4) (x6.1,([]:List Int),0,x4.1,x6.1))
 (F_wlvref15_ParseNet_J13)))
 (joinC (S:=List Int×Int×List Int×Int) (R:=List Int×Int×Int)
 (loopC (S:=Int×List Int×Int×List Int×Int) (R:=(List Int×Int×Int)⊕(List Int×Int×List Int×Int)) (F_wlvref15_ParseNet_L15 x4) ((IntKind.i64.wrap (8*(x4.1.length:Int))),([]:List Int),0,x4.1,(IntKind.i64.wrap (8*(x4.1.length:Int)))))
 (F_wlvref15_ParseNet_J13)))
def F_wlvref15_ParseNet_sig:Sig:=⟨[.v false [.d .str]],[(true,[.d .str,.d (.int .i64)]),(false,[.d (.int .i64)])]⟩
def F_wlvref15_ParseNet_ann:List (Nat×Ann):=[(13,⟨14,[],[(2,[.d .str,.d (.int .i64)]),(7,[.d .str,.d (.int .i64)])],([3,10]++List.range' 51 14),[]⟩),(15,⟨16,[(10,false,[.d (.int .i64)])],[(2,[.d .str,.d (.int .i64)]),(7,[.d .str,.d (.int .i64)])],([3]++List.range' 53 12),[]⟩)]
noncomputable def F_wlvref15_ParseNet_env:Env:=⟨Tryz.prog,[(55,⟨F_wlvref_Split_sig,⟨F_wlvref_Split⟩⟩),(98,⟨F_wlvref_Num_sig,⟨F_wlvref_Num⟩⟩),(139,⟨F_wlvref15_Parse_sig,⟨F_wlvref15_Parse⟩⟩),(140,⟨F_wlvref15_bit_sig,⟨F_wlvref15_bit⟩⟩)],[]⟩
theorem F_wlvref15_ParseNet_text:pvFn F_wlvref15_ParseNet_env F_wlvref15_ParseNet_ann Tryz.f102 F_wlvref15_ParseNet_sig=F_wlvref15_ParseNet:=by kernel_rfl
noncomputable def F_wlvref_Lower_L4 (s1:List Int) (s:Int×List Int):Option (((List Int)⊕(List Int))⊕(Int×List Int)):=
 let i2:=s.1;let l3:=s.2
 cond (decide (i2 < (s1.length:Int)))
 (chk (decide (0<=i2)&&decide (i2 < (s1.length:Int)))
 ((getI l3 i2).bind fun i4=>
 cond (decide (i4 >= 65))
 (chk (decide (0<=i2)&&decide (i2 < (s1.length:Int)))
 ((getI l3 i2).bind fun i5=>
 cond (decide (i5<=90))
 (chk (decide (0<=i2)&&decide (i2 < (s1.length:Int)))
 ((getI l3 i2).bind fun i6=>
 chk (decide (0<=i2)&&decide (i2 < (s1.length:Int)))
 (chk (decide (i2 < (l3.length:Int)))
 (some (.inr ((IntKind.i64.wrap (i2+1)),(l3.set (i2).toNat (IntKind.u8.wrap (i6+32)))))))))
 (some (.inr ((IntKind.i64.wrap (i2+1)),l3)))))
 (some (.inr ((IntKind.i64.wrap (i2+1)),l3)))))
 (some (.inl (.inr l3)))
noncomputable def F_wlvref_Lower_J2 (s1:List Int) (s:List Int):Option (List Int):=
 let l7:=s
 chk (Nat.ble s1.length (List.length l7))
 (some (List.take s1.length l7))
noncomputable def F_wlvref_Lower (s1:List Int):Option (List Int):=
 joinC (S:=List Int) (R:=List Int)
 (loopC (S:=Int×List Int) (R:=(List Int)⊕(List Int)) (F_wlvref_Lower_L4 s1) (0,s1))
 (F_wlvref_Lower_J2 s1)
def F_wlvref_Lower_sig:Sig:=⟨[.v false [.d .str]],[(false,[.d .str])]⟩
def F_wlvref_Lower_ann:List (Nat×Ann):=[(2,⟨3,[],[(6,[.row (.int .u8)])],([4]++List.range' 7 24),[]⟩),(4,⟨5,[(4,false,[.d (.int .i64)])],[(6,[.row (.int .u8)])],(List.range' 7 24),[]⟩)]
noncomputable def F_wlvref_Lower_env:Env:=⟨Tryz.prog,[],[6]⟩
theorem F_wlvref_Lower_text:pvFn F_wlvref_Lower_env F_wlvref_Lower_ann Tryz.f141 F_wlvref_Lower_sig=F_wlvref_Lower:=by kernel_rfl
noncomputable def F_wlvref15_Name_L17 (s6:List Int) (s:List (List Int)×Int):Option (((((List Int×Int)⊕(Unit))⊕(List (List Int)×Int))⊕(List (List Int)))⊕(List (List Int)×Int)):=
 let l9:=s.1;let i10:=s.2
 cond (decide (i10 < (s6.length:Int)))
 ((getI s6 i10).bind fun i11=>
 cond ((decide (i11 < 97))||(decide (i11 > 122)))
 (cond ((((decide (i11 < 48))||(decide (i11 > 57)))&&(i11 != 45))&&(i11 != 95))
 (some (.inl (.inl (.inl (.inl (([]:List Int),2))))))
 (some (.inr (l9,(IntKind.i64.wrap (i10+1))))))
 (some (.inr (l9,(IntKind.i64.wrap (i10+1))))))
 (some (.inl (.inr l9)))
noncomputable def F_wlvref15_Name_J11 (i5:Int) (s:List (List Int)):Option (((List Int×Int)⊕(Unit))⊕(List (List Int)×Int)):=
 let l12:=s
 some (.inr (l12,(IntKind.i64.wrap (i5+1))))
noncomputable def F_wlvref15_Name_L8 (s:List (List Int)×Int):Option (((List Int×Int)⊕(Unit))⊕(List (List Int)×Int)):=
 let l4:=s.1;let i5:=s.2
 cond (decide (i5 < (l4.length:Int)))
 (joinC (S:=List (List Int)) (R:=((List Int×Int)⊕(Unit))⊕(List (List Int)×Int))
 ((getI l4 i5).bind fun s6=>
 cond ((decide ((s6.length:Int) < 1))||(decide ((s6.length:Int) > 63)))
 (some (.inl (.inl (.inl (([]:List Int),2)))))
 ((getI s6 0).bind fun i7=>
 cond (i7==45)
 (some (.inl (.inl (.inl (([]:List Int),2)))))
 ((getI s6 (IntKind.i64.wrap ((s6.length:Int) - 1))).bind fun i8=>
 cond (i8==45)
 (some (.inl (.inl (.inl (([]:List Int),2)))))
 (loopC (S:=List (List Int)×Int) (R:=(((List Int×Int)⊕(Unit))⊕(List (List Int)×Int))⊕(List (List Int))) (F_wlvref15_Name_L17 s6) (l4,0)))))
 (F_wlvref15_Name_J11 i5))
 (some (.inl (.inr ())))
noncomputable def F_wlvref15_Name_J6 (s2:List Int) (s:Unit):Option (List Int×Int):=
 some (s2,0)
noncomputable def F_wlvref15_Name (s1:List Int):Option (List Int×Int):=
 cond ((decide ((s1.length:Int) < 1))||(decide ((s1.length:Int) > 253)))
 (some (([]:List Int),2))
 ((F_wlvref_Lower s1).bind fun s2=>
 (F_wlvref_Split s2 46).bind fun l3=>
 joinC (S:=Unit) (R:=List Int×Int)
 (loopC (S:=List (List Int)×Int) (R:=(List Int×Int)⊕(Unit)) (F_wlvref15_Name_L8) (l3,0))
 (F_wlvref15_Name_J6 s2))
def F_wlvref15_Name_sig:Sig:=⟨[.v false [.d .str]],[(false,[.d .str]),(false,[.d (.int .i64)])]⟩
def F_wlvref15_Name_ann:List (Nat×Ann):=[(6,⟨7,[],[],([2,3,5,6,7,8]++List.range' 21 62),[]⟩),(8,⟨9,[(4,false,[.own 9 .str]),(5,false,[.d (.int .i64)])],[],([2,3,6,7,8]++List.range' 21 62),[]⟩),(11,⟨12,[(4,false,[.own 9 .str])],[],([2,3,6,7,8]++List.range' 27 56),[]⟩),(17,⟨18,[(4,false,[.own 9 .str]),(7,false,[.d (.int .i64)])],[],([2,3,8]++List.range' 52 31),[]⟩)]
noncomputable def F_wlvref15_Name_env:Env:=⟨Tryz.prog,[(55,⟨F_wlvref_Split_sig,⟨F_wlvref_Split⟩⟩),(141,⟨F_wlvref_Lower_sig,⟨F_wlvref_Lower⟩⟩)],[]⟩
theorem F_wlvref15_Name_text:pvFn F_wlvref15_Name_env F_wlvref15_Name_ann Tryz.f103 F_wlvref15_Name_sig=F_wlvref15_Name:=by kernel_rfl
end Go.Proofs.YtgfmfgombmpodaaGreatDoor
namespace Go.Proofs.YtgfmfgombmpodaaGreatDoor
open Pv
theorem F_wlvref_Dec_fuel_sound {T:Tab}:∀ k:Nat,SoundFn Tryz.prog T 30 F_wlvref_Dec_sig ⟨F_wlvref_Dec_fuel k⟩
 | 0=>by
  intro F g st xs y tmf w args _ _ happ
  have e:none=some y:=(appF_bot (α:=(F_wlvref_Dec_sig).out.D) ((parsT (F_wlvref_Dec_sig).ps).map LT.ty) xs).symm.trans happ
  cases e
 | k+1=>by
  have ih:=F_wlvref_Dec_fuel_sound (T:=T) k
  have h:=fn_sound (T:=T) (E:=F_wlvref_Dec_env (F_wlvref_Dec_fuel k)) (by unfold Env.ok;exact List.forall_mem_cons.2 ⟨ih,fun p h=>by cases h⟩) (A:=F_wlvref_Dec_ann) (f:=30) (fn:=Tryz.f30) (s:=F_wlvref_Dec_sig) Tryz.func30
  rw [F_wlvref_Dec_text] at h
  exact h
theorem F_wlvref_Dec_sound {T:Tab}:SoundFn Tryz.prog T 30 F_wlvref_Dec_sig ⟨F_wlvref_Dec⟩:=F_wlvref_Dec_fuel_sound 64
theorem F_wlvref_Split_sound {T:Tab}:SoundFn Tryz.prog T 55 F_wlvref_Split_sig ⟨F_wlvref_Split⟩:=by
 have h:=fn_sound (T:=T) (E:=F_wlvref_Split_env) (by unfold Env.ok;exact fun p h=>by cases h) (A:=F_wlvref_Split_ann) (f:=55) (fn:=Tryz.f55) (s:=F_wlvref_Split_sig) Tryz.func55
 rw [F_wlvref_Split_text] at h
 exact h
theorem F_wlvref18_limits_sound {T:Tab}:SoundFn Tryz.prog T 73 F_wlvref18_limits_sig ⟨F_wlvref18_limits⟩:=by
 have h:=fn_sound (T:=T) (E:=F_wlvref18_limits_env) (by unfold Env.ok;exact fun p h=>by cases h) (A:=F_wlvref18_limits_ann) (f:=73) (fn:=Tryz.f73) (s:=F_wlvref18_limits_sig) Tryz.func73
 rw [F_wlvref18_limits_text] at h
 exact h
theorem F_wlvref_Num_sound {T:Tab}:SoundFn Tryz.prog T 98 F_wlvref_Num_sig ⟨F_wlvref_Num⟩:=by
 have h:=fn_sound (T:=T) (E:=F_wlvref_Num_env) (by unfold Env.ok;exact fun p h=>by cases h) (A:=F_wlvref_Num_ann) (f:=98) (fn:=Tryz.f98) (s:=F_wlvref_Num_sig) Tryz.func98
 rw [F_wlvref_Num_text] at h
 exact h
theorem F_wlvref18_name_sound {T:Tab}:SoundFn Tryz.prog T 99 F_wlvref18_name_sig ⟨F_wlvref18_name⟩:=by
 have h:=fn_sound (T:=T) (E:=F_wlvref18_name_env) (by unfold Env.ok;exact fun p h=>by cases h) (A:=F_wlvref18_name_ann) (f:=99) (fn:=Tryz.f99) (s:=F_wlvref18_name_sig) Tryz.func99
 rw [F_wlvref18_name_text] at h
 exact h
theorem F_wlvref18_digit_sound {T:Tab}:SoundFn Tryz.prog T 138 F_wlvref18_digit_sig ⟨F_wlvref18_digit⟩:=by
 have h:=fn_sound (T:=T) (E:=F_wlvref18_digit_env) (by unfold Env.ok;exact fun p h=>by cases h) (A:=F_wlvref18_digit_ann) (f:=138) (fn:=Tryz.f138) (s:=F_wlvref18_digit_sig) Tryz.func138
 rw [F_wlvref18_digit_text] at h
 exact h
theorem F_wlvref18_unhex_sound {T:Tab}:SoundFn Tryz.prog T 100 F_wlvref18_unhex_sig ⟨F_wlvref18_unhex⟩:=by
 have h:=fn_sound (T:=T) (E:=F_wlvref18_unhex_env) (by unfold Env.ok;exact List.forall_mem_cons.2 ⟨F_wlvref18_digit_sound,fun p h=>by cases h⟩) (A:=F_wlvref18_unhex_ann) (f:=100) (fn:=Tryz.f100) (s:=F_wlvref18_unhex_sig) Tryz.func100
 rw [F_wlvref18_unhex_text] at h
 exact h
theorem F_wlvref18_ports_sound {T:Tab}:SoundFn Tryz.prog T 101 F_wlvref18_ports_sig ⟨F_wlvref18_ports⟩:=by
 have h:=fn_sound (T:=T) (E:=F_wlvref18_ports_env) (by unfold Env.ok;exact List.forall_mem_cons.2 ⟨F_wlvref_Split_sound,List.forall_mem_cons.2 ⟨F_wlvref_Num_sound,fun p h=>by cases h⟩⟩) (A:=F_wlvref18_ports_ann) (f:=101) (fn:=Tryz.f101) (s:=F_wlvref18_ports_sig) Tryz.func101
 rw [F_wlvref18_ports_text] at h
 exact h
theorem F_wlvref15_four_sound {T:Tab}:SoundFn Tryz.prog T 176 F_wlvref15_four_sig ⟨F_wlvref15_four⟩:=by
 have h:=fn_sound (T:=T) (E:=F_wlvref15_four_env) (by unfold Env.ok;exact List.forall_mem_cons.2 ⟨F_wlvref_Split_sound,List.forall_mem_cons.2 ⟨F_wlvref_Num_sound,fun p h=>by cases h⟩⟩) (A:=F_wlvref15_four_ann) (f:=176) (fn:=Tryz.f176) (s:=F_wlvref15_four_sig) Tryz.func176
 rw [F_wlvref15_four_text] at h
 exact h
theorem F_wlvref15_group_sound {T:Tab}:SoundFn Tryz.prog T 234 F_wlvref15_group_sig ⟨F_wlvref15_group⟩:=by
 have h:=fn_sound (T:=T) (E:=F_wlvref15_group_env) (by unfold Env.ok;exact fun p h=>by cases h) (A:=F_wlvref15_group_ann) (f:=234) (fn:=Tryz.f234) (s:=F_wlvref15_group_sig) Tryz.func234
 rw [F_wlvref15_group_text] at h
 exact h
theorem F_wlvref15_groups_sound {T:Tab}:SoundFn Tryz.prog T 206 F_wlvref15_groups_sig ⟨F_wlvref15_groups⟩:=by
 have h:=fn_sound (T:=T) (E:=F_wlvref15_groups_env) (by unfold Env.ok;exact List.forall_mem_cons.2 ⟨F_wlvref_Split_sound,List.forall_mem_cons.2 ⟨F_wlvref15_group_sound,fun p h=>by cases h⟩⟩) (A:=F_wlvref15_groups_ann) (f:=206) (fn:=Tryz.f206) (s:=F_wlvref15_groups_sig) Tryz.func206
 rw [F_wlvref15_groups_text] at h
 exact h
theorem F_wlvref15_eight_sound {T:Tab}:SoundFn Tryz.prog T 177 F_wlvref15_eight_sig ⟨F_wlvref15_eight⟩:=by
 have h:=fn_sound (T:=T) (E:=F_wlvref15_eight_env) (by unfold Env.ok;exact List.forall_mem_cons.2 ⟨F_wlvref15_groups_sound,fun p h=>by cases h⟩) (A:=F_wlvref15_eight_ann) (f:=177) (fn:=Tryz.f177) (s:=F_wlvref15_eight_sig) Tryz.func177
 rw [F_wlvref15_eight_text] at h
 exact h
theorem F_wlvref15_Mapped_sound {T:Tab}:SoundFn Tryz.prog T 178 F_wlvref15_Mapped_sig ⟨F_wlvref15_Mapped⟩:=by
 have h:=fn_sound (T:=T) (E:=F_wlvref15_Mapped_env) (by unfold Env.ok;exact fun p h=>by cases h) (A:=F_wlvref15_Mapped_ann) (f:=178) (fn:=Tryz.f178) (s:=F_wlvref15_Mapped_sig) Tryz.func178
 rw [F_wlvref15_Mapped_text] at h
 exact h
theorem F_wlvref15_Parse_sound {T:Tab}:SoundFn Tryz.prog T 139 F_wlvref15_Parse_sig ⟨F_wlvref15_Parse⟩:=by
 have h:=fn_sound (T:=T) (E:=F_wlvref15_Parse_env) (by unfold Env.ok;exact List.forall_mem_cons.2 ⟨F_wlvref15_four_sound,List.forall_mem_cons.2 ⟨F_wlvref15_eight_sound,List.forall_mem_cons.2 ⟨F_wlvref15_Mapped_sound,fun p h=>by cases h⟩⟩⟩) (A:=F_wlvref15_Parse_ann) (f:=139) (fn:=Tryz.f139) (s:=F_wlvref15_Parse_sig) Tryz.func139
 rw [F_wlvref15_Parse_text] at h
 exact h
theorem F_wlvref15_bit_sound {T:Tab}:SoundFn Tryz.prog T 140 F_wlvref15_bit_sig ⟨F_wlvref15_bit⟩:=by
 have h:=fn_sound (T:=T) (E:=F_wlvref15_bit_env) (by unfold Env.ok;exact fun p h=>by cases h) (A:=F_wlvref15_bit_ann) (f:=140) (fn:=Tryz.f140) (s:=F_wlvref15_bit_sig) Tryz.func140
 rw [F_wlvref15_bit_text] at h
 exact h
theorem F_wlvref15_ParseNet_sound {T:Tab}:SoundFn Tryz.prog T 102 F_wlvref15_ParseNet_sig ⟨F_wlvref15_ParseNet⟩:=by
 have h:=fn_sound (T:=T) (E:=F_wlvref15_ParseNet_env) (by unfold Env.ok;exact List.forall_mem_cons.2 ⟨F_wlvref_Split_sound,List.forall_mem_cons.2 ⟨F_wlvref_Num_sound,List.forall_mem_cons.2 ⟨F_wlvref15_Parse_sound,List.forall_mem_cons.2 ⟨F_wlvref15_bit_sound,fun p h=>by cases h⟩⟩⟩⟩) (A:=F_wlvref15_ParseNet_ann) (f:=102) (fn:=Tryz.f102) (s:=F_wlvref15_ParseNet_sig) Tryz.func102
 rw [F_wlvref15_ParseNet_text] at h
 exact h
theorem F_wlvref_Lower_sound {T:Tab}:SoundFn Tryz.prog T 141 F_wlvref_Lower_sig ⟨F_wlvref_Lower⟩:=by
 have h:=fn_sound (T:=T) (E:=F_wlvref_Lower_env) (by unfold Env.ok;exact fun p h=>by cases h) (A:=F_wlvref_Lower_ann) (f:=141) (fn:=Tryz.f141) (s:=F_wlvref_Lower_sig) Tryz.func141
 rw [F_wlvref_Lower_text] at h
 exact h
theorem F_wlvref15_Name_sound {T:Tab}:SoundFn Tryz.prog T 103 F_wlvref15_Name_sig ⟨F_wlvref15_Name⟩:=by
 have h:=fn_sound (T:=T) (E:=F_wlvref15_Name_env) (by unfold Env.ok;exact List.forall_mem_cons.2 ⟨F_wlvref_Split_sound,List.forall_mem_cons.2 ⟨F_wlvref_Lower_sound,fun p h=>by cases h⟩⟩) (A:=F_wlvref15_Name_ann) (f:=103) (fn:=Tryz.f103) (s:=F_wlvref15_Name_sig) Tryz.func103
 rw [F_wlvref15_Name_text] at h
 exact h
end Go.Proofs.YtgfmfgombmpodaaGreatDoor
namespace Go.Proofs.YtgfmfgombmpodaaGreatDoor
open Go.RowKit Pv
set_option linter.unusedVariables false
structure RfSt where
 set:List Bool
 n:List Int
 us:List UserD
def rfCells (v:Value) (x:RfSt):List Value:=[.int .i64 0,.int .i64 0,.int .i64 0,.int .i64 0,.int .i64 0,.int .i64 0,.int .i64 0,v]++(x.set.map Value.bool++x.n.map (Value.int .i64))
structure RfAt (lo:Nat) (w:World) (R:Nat) (v:Value) (role:Nat->Role) (x:RfSt):Prop where
 hR:w.heap[R]? = some (.cells (rfCells v x).toArray 116 (0,0))
 rR:role R=.rdr
 hs:x.set.length=7
 hn:x.n.length=7
 hU:UsAt lo w role x.us v
 lt:∀ b,role b≠.no->lo<=b /\ b < w.heap.size
 wf:∀ c∈x.n,(Lit.int .i64 c).wf=true
theorem rf_cells {w:World} {R:Nat} {v:Value} {x:RfSt} {T:TypeId} (h:w.heap[R]? = some (.cells (rfCells v x).toArray T (0,0))) :
  w.cell? ⟨R,7,none⟩=some v /\ (∀ k b,x.set[k]? = some b->w.cell? ⟨R,8+k,none⟩=some (.bool b)) /\ (∀ k n,x.set.length=7->x.n[k]? = some n->w.cell? ⟨R,15+k,none⟩=some (.int .i64 n)) /\ ∀ o,w.frozen? ⟨R,o,none⟩=false:=by
 refine ⟨?_,fun k b hk=>?_,fun k n h7 hk=>?_,fun o=>?_⟩
 ·rw [cell_at h];rfl
 ·rw [cell_at h]
  have hl:k < x.set.length:=(List.getElem?_eq_some_iff.1 hk).1
  simp only [List.getElem?_toArray,rfCells]
  rw [List.getElem?_append_right (by simp),List.getElem?_append_left (by simp;omega),List.getElem?_map]
  simp only [List.length_cons,List.length_nil]
  rw [show 8+k - (0+1+1+1+1+1+1+1+1)=k by omega,hk];rfl
 ·rw [cell_at h]
  have hl:k < x.n.length:=(List.getElem?_eq_some_iff.1 hk).1
  simp only [List.getElem?_toArray,rfCells]
  rw [List.getElem?_append_right (by simp;omega),List.getElem?_append_right (by simp;omega),List.getElem?_map]
  simp only [List.length_cons,List.length_nil,List.length_map]
  rw [show 15+k - (0+1+1+1+1+1+1+1+1) - x.set.length=k by omega,hk];rfl
 ·simp [World.frozen?,h]
theorem rf_set7 (v v':Value) (x:RfSt):(rfCells v x).toArray.setIfInBounds 7 v'=(rfCells v' x).toArray:=by
 rw [List.setIfInBounds_toArray];rfl
theorem rf_sets (v:Value) (x:RfSt) {k:Nat} (hs:x.set.length=7) (hk:k < 7) (b:Bool):(rfCells v x).toArray.setIfInBounds (8+k) (.bool b)=(rfCells v { x with set:=x.set.set k b }).toArray:=by
 rw [List.setIfInBounds_toArray]
 unfold rfCells
 rw [List.set_append_right _ _ (by simp),List.set_append_left _ _ (by simp;omega),List.map_set]
 simp only [List.length_cons,List.length_nil]
 rw [show 8+k - (0+1+1+1+1+1+1+1+1)=k by omega]
theorem rf_setn (v:Value) (x:RfSt) {k:Nat} (hs:x.set.length=7) (n:Int):(rfCells v x).toArray.setIfInBounds (15+k) (.int .i64 n)=(rfCells v { x with n:=x.n.set k n }).toArray:=by
 rw [List.setIfInBounds_toArray]
 unfold rfCells
 rw [List.set_append_right _ _ (by simp;omega),List.set_append_right _ _ (by simp;omega),List.map_set]
 simp only [List.length_cons,List.length_nil,List.length_map]
 rw [show 15+k - (0+1+1+1+1+1+1+1+1) - x.set.length=k by omega]
theorem RfAt.keep {lo:Nat} {w w':World} {R:Nat} {v:Value} {role:Nat->Role} {x:RfSt} (h:RfAt lo w R v role x) (hk:∀ b,role b≠.no->w'.heap[b]? = w.heap[b]?) (hs:w.heap.size<=w'.heap.size):RfAt lo w' R v role x:=by
 obtain ⟨xs,u1,u2,u3⟩:=h.hU
 refine ⟨(hk R (by rw [h.rR];intro e;cases e)).trans h.hR,h.rR,h.hs,h.hn,⟨xs,owns_keep u1 fun b hb=>hk b (by rw [u2 b hb];intro e;cases e),u2,fun i u hu=>(u3 i u hu).keep fun b hb=>⟨rfl,hk b ?_⟩⟩,fun b hb=>?_,h.wf⟩
 ·rcases hb with hb | hb <;> (rw [hb];intro e;cases e)
 ·obtain ⟨h1,h2⟩:=h.lt b hb
  exact ⟨h1,by omega⟩
theorem RfAt.below {lo:Nat} {w w':World} {R:Nat} {v:Value} {role:Nat->Role} {x:RfSt} (h:RfAt lo w R v role x) (hb:Below w.heap.size w w'):RfAt lo w' R v role x:=
 h.keep (fun b hr=>hb.block b (h.lt b hr).2) hb.size
theorem RfAt.roles {lo:Nat} {w:World} {R:Nat} {v:Value} {role role':Nat->Role} {x:RfSt} (h:RfAt lo w R v role x) (hk:∀ b,role b≠.no->role' b=role b) (hl:∀ b,role' b≠.no->lo<=b /\ b < w.heap.size):RfAt lo w R v role' x:=by
 obtain ⟨xs,u1,u2,u3⟩:=h.hU
 refine ⟨h.hR,(hk R (by rw [h.rR];intro e;cases e)).trans h.rR,h.hs,h.hn,⟨xs,u1,fun b hb=>(hk b (by rw [u2 b hb];intro e;cases e)).trans (u2 b hb),fun i u hu=>(u3 i u hu).keep fun b hb=>⟨hk b ?_,rfl⟩⟩,hl,h.wf⟩
 rcases hb with hb | hb <;> (rw [hb];intro e;cases e)
theorem rf_push {lo:Nat} {w w1:World} {R:Nat} {v v':Value} {role:Nat->Role} {x:RfSt} (h:RfAt lo w R v role x) {nu:UserD} {news xs:List Value} (hn6:news.length=6) (hnew:UserAt lo w role x.us.length nu news) (hg:w.grownBy w1 v.ownBlock)
    (u1:w.ownsRow lo 63 6 v x.us.length xs) (u2:∀ b,v.ownBlock=some b->role b=.usr) (u3:∀ i u,x.us[i]? = some u->UserAt lo w role i u ((xs.drop (i*6)).take 6))
    (h':w1.ownsRow lo 63 6 v' (x.us.length+1) (xs++news)) (hat:v'.ownBlock=v.ownBlock \/ v'.ownBlock=some w.heap.size) (hlo:lo<=w.heap.size) :
    ∃ role',RfAt lo (w1.setCell ⟨R,7,none⟩ v') R v' role' { x with us:=x.us++[nu] }:=by
  have hRlt:=h.lt R (by rw [h.rR];intro e;cases e)
  have hvR:v'.ownBlock≠some R:=fun e=>by
    rcases hat with h1 | h1
    · have:=u2 R (h1.symm.trans e)
      rw [h.rR] at this
      cases this
    · rw [h1] at e
      injection e with e
      omega
  have hvR0:v.ownBlock≠some R:=fun e=>by
    have:=u2 R e
    rw [h.rR] at this
    cases this
  have stay:∀ b,b < w.heap.size->v.ownBlock≠some b->b≠R->(w1.setCell ⟨R,7,none⟩ v').heap[b]? = w.heap[b]?:=fun b hb hv hR=>by
    rw [setCell_heap,if_neg (by show b≠R;exact hR)]
    exact hg.block b hb fun e=>hv e.symm
  have hroles:∀ b,role b≠.no->role b≠.usr->roleOf role v' .usr b=role b:=fun b hb hne=>by
    refine roleOf_other fun e=>?_
    rcases hat with h1 | h1
    · exact hne (u2 b (h1.symm.trans e))
    · have:=h.lt b hb
      rw [h1] at e
      injection e with e
      omega
  have hkeep:∀ b,role b≠.no->role b≠.usr->role b≠.rdr->(w1.setCell ⟨R,7,none⟩ v').heap[b]? = w.heap[b]?:=fun b h1 h2 h3=>stay b (h.lt b h1).2 (fun e=>h2 (u2 b e)) (fun e=>h3 (by rw [e];exact h.rR))
  refine ⟨roleOf role v' .usr,?_,(hroles R (by rw [h.rR];intro e;cases e) (by rw [h.rR];intro e;cases e)).trans h.rR,h.hs,h.hn,⟨xs++news,?_,fun b hb=>roleOf_self hb,fun i u hu=>?_⟩,fun b hb=>?_,h.wf⟩
  · have:=hg.block R hRlt.2 fun e=>hvR0 e.symm
    rw [set_heap (this.trans h.hR),rf_set7]
    rfl
  · show (w1.setCell ⟨R,7,none⟩ v').ownsRow lo 63 6 v' (x.us++[nu]).length (xs++news)
    rw [List.length_append]
    exact owns_keep h' fun b hb=>by
      rw [setCell_heap,if_neg (by show b≠R;intro e;rw [e] at hb;exact hvR hb)]
  · have hu:(x.us++[nu])[i]? = some u:=hu
    have hk:∀ i' u' cs,UserAt lo w role i' u' cs->UserAt lo (w1.setCell ⟨R,7,none⟩ v') (roleOf role v' .usr) i' u' cs:=fun i' u' cs hua=>hua.keep fun b hb=>⟨hroles b ?_ ?_,hkeep b ?_ ?_ ?_⟩
    · rcases Nat.lt_or_ge i x.us.length with hi | hi
      · rw [List.getElem?_append_left hi] at hu
        rw [take6_app u1.1 hi]
        exact hk i u _ (u3 i u hu)
      · have hi2 : i = x.us.length := by
          have:=(List.getElem?_eq_some_iff.1 hu).1
          rw [List.length_append] at this
          have:i < x.us.length+1:=this
          omega
        subst hi2
        rw [List.getElem?_append_right (Nat.le_refl _),Nat.sub_self] at hu
        injection hu with hu
        rw [<-hu,show x.us.length*6=xs.length from u1.1.symm,List.drop_left,List.take_of_length_le (by omega)]
        exact hk _ _ _ hnew
    all_goals (rcases hb with hb | hb <;> (rw [hb];intro e;cases e))
  · have h1s : w.heap.size <= (w1.setCell ⟨R, 7, none⟩ v').heap.size := by
      have:=hg.size
      simpa [World.setCell] using this
    by_cases he:v'.ownBlock=some b
    · have:=h'.lt b he
      refine ⟨this.1,?_⟩
      have h3:=this.2
      simpa [World.setCell] using h3
    · rw [roleOf_other he] at hb
      have:=h.lt b hb
      exact ⟨this.1,by omega⟩
theorem rf_put {lo:Nat} {w w1:World} {R U n cap i:Nat} {role:Nat->Role} {x:RfSt} (h:RfAt lo w R (.slice (some ⟨U,0,none⟩) n cap) role x) {u:UserD} {r:RuleD} {news rs xs:List Value} {nm:ByteArray} {vs vd vr vr':Value} (hu:x.us[i]? = some u) (hn7:news.length=7) (hnew:RepD w noC ruleT r news)
    (u1:w.ownsRow lo 63 6 (.slice (some ⟨U,0,none⟩) n cap) x.us.length xs) (u2:role U=.usr) (u3:∀ i u,x.us[i]? = some u->UserAt lo w role i u ((xs.drop (i*6)).take 6))
    (hcs:(xs.drop (i*6)).take 6=[.string nm,vs,vd,.int .i64 u.2.2.1,.complex .f64 u.2.2.2.1.1 u.2.2.2.1.2,vr]) (hnm:bytesL nm=u.1) (hnmz:nm.size<=maxLen) (hwf:(Lit.int .i64 u.2.2.1).wf=true)
    (hvs:RowAt lo w role .flat 5 (.int .u8) u.2.1.1 vs) (hvd:RowAt lo w role .flat 5 (.int .u8) u.2.1.2 vd) (r1:w.ownsRow lo 68 7 vr u.2.2.2.2.length rs) (r2:∀ b,vr.ownBlock=some b->role b=.row i) (r3:∀ (j:Nat) (y:ruleT.D),(show List ruleT.D from u.2.2.2.2)[j]? = some y->RepD w noC ruleT y ((rs.drop (j*7)).take 7))
    (hg:w.grownBy w1 vr.ownBlock) (h':w1.ownsRow lo 68 7 vr' (u.2.2.2.2.length+1) (rs++news)) (hat:vr'.ownBlock=vr.ownBlock \/ vr'.ownBlock=some w.heap.size) :
    ∃ role',RfAt lo (w1.setCell ⟨U,i*6+5,none⟩ vr') R (.slice (some ⟨U,0,none⟩) n cap) role' { x with us:=x.us.set i (u.1,u.2.1,u.2.2.1,u.2.2.2.1,u.2.2.2.2++[r]) }:=by
  have hRlt:=h.lt R (by rw [h.rR];intro e;cases e)
  have hUlt:=h.lt U (by rw [u2];intro e;cases e)
  have hil:i < x.us.length:=(List.getElem?_eq_some_iff.1 hu).1
  have hvU:vr.ownBlock≠some U:=fun e=>by
    have:=r2 U e
    rw [u2] at this
    cases this
  have hRU:R≠U:=fun e=>by
    have:=h.rR
    rw [e,u2] at this
    cases this
  have stay:∀ b,b < w.heap.size->vr.ownBlock≠some b->b≠U->(w1.setCell ⟨U,i*6+5,none⟩ vr').heap[b]? = w.heap[b]?:=fun b hb hv hR=>by
    rw [setCell_heap,if_neg (by show b≠U;exact hR)]
    exact hg.block b hb fun e=>hv e.symm
  have hroles:∀ b,role b≠.no->role b≠.row i->roleOf role vr' (.row i) b=role b:=fun b hb hne=>by
    refine roleOf_other fun e=>?_
    rcases hat with h1 | h1
    · exact hne (r2 b (h1.symm.trans e))
    · have:=h.lt b hb
      rw [h1] at e
      injection e with e
      omega
  have hrow:∀ b,role b=.row i->roleOf role vr' (.row i) b=.row i:=fun b hb=>by
    by_cases e:vr'.ownBlock=some b
    · exact roleOf_self e
    · rw [roleOf_other e];exact hb
  have hkeep:∀ b,role b≠.no->role b≠.usr->role b≠.row i->(w1.setCell ⟨U,i*6+5,none⟩ vr').heap[b]? = w.heap[b]?:=fun b h1 h2 h3=>stay b (h.lt b h1).2 (fun e=>h3 (r2 b e)) (fun e=>h2 (by rw [e];exact u2))
  have hUw:w1.ownsRow lo 63 6 (.slice (some ⟨U,0,none⟩) n cap) x.us.length xs:=owns_keep u1 fun b hb=>by
    have e:U=b:=by injection hb
    subst e
    exact hg.block U hUlt.2 fun e=>hvU e.symm
  have hn:n=x.us.length:=by
    rcases u1.2 with ⟨e,_⟩ | ⟨g,cap',cur,e,_⟩
    · cases e
    · injection e
  subst hn
  have hst:=(hUw.stored (i*6+5) vr').1
  refine ⟨roleOf role vr' (.row i),?_,(hroles R (by rw [h.rR];intro e;cases e) (by rw [h.rR];intro e;cases e)).trans h.rR,h.hs,h.hn,⟨xs.set (i*6+5) vr',?_,fun b hb=>?_,fun j y hy=>?_⟩,fun b hb=>?_,h.wf⟩
  · exact (stay R hRlt.2 (fun e=>by have:=r2 R e;rw [h.rR] at this;cases this) hRU).trans h.hR
  · show (w1.setCell ⟨U,i*6+5,none⟩ vr').ownsRow lo 63 6 _ (x.us.set i _).length _
    rw [List.length_set]
    exact hst
  · have e:U=b:=by injection hb
    subst e
    exact (hroles U (by rw [u2];intro e;cases e) (by rw [u2];intro e;cases e)).trans u2
  · have hy:(x.us.set i (u.1,u.2.1,u.2.2.1,u.2.2.2.1,u.2.2.2.2++[r]))[j]? = some y:=hy
    rw [List.getElem?_set] at hy
    have hxl:=u1.1
    by_cases hji:i=j
    · subst hji
      rw [if_pos rfl,if_pos hil] at hy
      injection hy with hy
      subst hy
      have hcut:((xs.set (i*6+5) vr').drop (i*6)).take 6=[.string nm,vs,vd,.int .i64 u.2.2.1,.complex .f64 u.2.2.2.1.1 u.2.2.2.1.2,vr']:=by
        rw [List.drop_set,if_neg (by omega),List.take_set,hcs,show i*6+5 - i*6=5 by omega]
        rfl
      refine ⟨nm,vs,vd,vr',hcut,hnm,hnmz,hwf,hvs.keep rfl (by intro e;cases e) fun b hb=>⟨(hroles b ?_ ?_).trans hb,hkeep b ?_ ?_ ?_⟩,hvd.keep rfl (by intro e;cases e) fun b hb=>⟨(hroles b ?_ ?_).trans hb,hkeep b ?_ ?_ ?_⟩,rs++news,?_,fun b hb=>roleOf_self hb,fun k z hz=>?_⟩
      all_goals first | (rw [hb];intro e;cases e) | skip
      · show (w1.setCell ⟨U,i*6+5,none⟩ vr').ownsRow lo 68 7 vr' (u.2.2.2.2++[r]).length (rs++news)
        rw [List.length_append]
        exact owns_keep h' fun b hb=>by
          rw [setCell_heap,if_neg (by
            show b≠U
            intro e
            rw [e] at hb
            rcases hat with h1 | h1
            · exact hvU (h1.symm.trans hb)
            · rw [h1] at hb
              injection hb with hb
              omega)]
      · have hz:(show List ruleT.D from u.2.2.2.2++[r])[k]? = some z:=hz
        have hrl:rs.length=(show List ruleT.D from u.2.2.2.2).length*7:=r1.1
        show RepD _ noC ruleT z (((rs++news).drop (k*7)).take 7)
        rcases Nat.lt_or_ge k (show List ruleT.D from u.2.2.2.2).length with hk | hk
        · have hz : (show List ruleT.D from u.2.2.2.2)[k]? = some z := by
            rw [<-hz]
            exact (List.getElem?_append_left hk).symm
          rw [List.drop_append_of_le_length (by omega),List.take_append_of_le_length (by rw [List.length_drop];omega)]
          exact repD_flat rfl (r3 k z hz)
        · have hk2 : k = (show List ruleT.D from u.2.2.2.2).length := by
            have h1:=(List.getElem?_eq_some_iff.1 hz).1
            have h2:k < (show List ruleT.D from u.2.2.2.2).length+1:=by
              have e:(show List ruleT.D from u.2.2.2.2++[r]).length=(show List ruleT.D from u.2.2.2.2).length+1:=List.length_append
              rw [<-e];exact h1
            omega
          subst hk2
          have hzr:r=z:=by
            have e:(show List ruleT.D from u.2.2.2.2++[r])[(show List ruleT.D from u.2.2.2.2).length]? = some r:=by
              show (u.2.2.2.2++[r])[u.2.2.2.2.length]? = some r
              rw [List.getElem?_append_right (Nat.le_refl _),Nat.sub_self];rfl
            rw [e] at hz
            injection hz
          rw [<-hrl,List.drop_left,List.take_of_length_le (by omega),<- hzr]
          exact repD_flat rfl hnew
    · rw [if_neg hji] at hy
      have hjl:j < x.us.length:=(List.getElem?_eq_some_iff.1 hy).1
      have hcut:((xs.set (i*6+5) vr').drop (j*6)).take 6=(xs.drop (j*6)).take 6:=by
        rw [List.drop_set]
        split
        · rfl
        · rw [List.take_set_of_le (by omega)]
      rw [hcut]
      refine (u3 j y hy).keep fun b hb=>⟨hroles b ?_ ?_,hkeep b ?_ ?_ ?_⟩
      all_goals (rcases hb with hb | hb <;> (rw [hb];intro e;first | (cases e;done) | (injection e with e;exact hji e.symm)))
  · have h1s : w.heap.size <= (w1.setCell ⟨U, i * 6 + 5, none⟩ vr').heap.size := by
      have:=hg.size
      simpa [World.setCell] using this
    by_cases he:vr'.ownBlock=some b
    · have:=h'.lt b he
      refine ⟨this.1,?_⟩
      have h3:=this.2
      simpa [World.setCell] using h3
    · rw [roleOf_other he] at hb
      have:=h.lt b hb
      exact ⟨this.1,by omega⟩
theorem rf_new {lo:Nat} {w w2 w3 w4 w7:World} {R:Nat} {v:Value} {role:Nat->Role} {x:RfSt} (h:RfAt lo w7 R v role x) (hrl:∀ b,role b≠.no->b < w.heap.size) (hlo:lo<=w.heap.size) (h2:w.heap.size<=w2.heap.size) {vs vd:Value} {sa di:List Int}
  (hs:∃ xs,w3.ownsRow w2.heap.size 5 1 vs sa.length xs /\ ∀ (i:Nat) (x:Int),sa[i]? = some x->RepD w3 noC (.int .u8) x ((xs.drop (i*1)).take 1)) (b37:Below w3.heap.size w3 w7) (h3:w.heap.size<=w3.heap.size)
  (hd:∃ xs,w4.ownsRow w3.heap.size 5 1 vd di.length xs /\ ∀ (i:Nat) (x:Int),di[i]? = some x->RepD w4 noC (.int .u8) x ((xs.drop (i*1)).take 1)) (b47:Below w4.heap.size w4 w7) :
  ∃ role1,RfAt lo w7 R v role1 x /\ RowAt lo w7 role1 .flat 5 (.int .u8) sa vs /\ RowAt lo w7 role1 .flat 5 (.int .u8) di vd:=by
 obtain ⟨xs,s1,s2⟩:=hs
 obtain ⟨ys,d1,d2⟩:=hd
 have hsl:∀ b,vs.ownBlock=some b->w.heap.size<=b /\ b < w7.heap.size:=fun b hb=>by
  have:=s1.lt b hb
  have:=b37.size
  omega
 have hdl:∀ b,vd.ownBlock=some b->w.heap.size<=b /\ b < w7.heap.size:=fun b hb=>by
  have:=d1.lt b hb
  have:=b47.size
  omega
 have hold:∀ b,role b≠.no->roleOf (roleOf role vs .flat) vd .flat b=role b:=fun b hb=>by
  have hb':=hrl b hb
  rw [roleOf_other fun e=>by have:=hdl b e;omega,roleOf_other fun e=>by have:=hsl b e;omega]
 refine ⟨roleOf (roleOf role vs .flat) vd .flat,h.roles hold fun b hb=>?_,⟨xs,owns_keep (w:=w3) ⟨s1.1,s1.2.imp id fun ⟨g,cap,cur,q1,q2,q3⟩=>⟨g,cap,cur,q1,by omega,q3⟩⟩ fun b hb=>b37.block b (s1.lt b hb).2,fun b hb=>?_,fun i x hx=>repD_flat rfl (s2 i x hx)⟩,⟨ys,owns_keep (w:=w4) ⟨d1.1,d1.2.imp id fun ⟨g,cap,cur,q1,q2,q3⟩=>⟨g,cap,cur,q1,by omega,q3⟩⟩ fun b hb=>b47.block b (d1.lt b hb).2,fun b hb=>roleOf_self hb,fun i x hx=>repD_flat rfl (d2 i x hx)⟩⟩
 ·by_cases e1:vd.ownBlock=some b
  ·have:=hdl b e1
   omega
  ·rw [roleOf_other e1] at hb
   by_cases e2:vs.ownBlock=some b
   ·have:=hsl b e2
    omega
   ·rw [roleOf_other e2] at hb
    exact h.lt b hb
 ·by_cases e1:vd.ownBlock=some b
  ·exact roleOf_self e1
  ·rw [roleOf_other e1]
   exact roleOf_self hb
theorem rf_keepR {lo:Nat} {w w0 w1:World} {R:Nat} {v:Value} {role:Nat->Role} {x:RfSt} (h:RfAt lo w R v role x) (u2:∀ b,v.ownBlock=some b->role b=.usr) (hg:w0.grownBy w1 v.ownBlock) (h0:∀ b,b < w.heap.size->w0.heap[b]? = w.heap[b]?) (hs:w.heap.size<=w0.heap.size) :
  w1.cell? ⟨R,7,none⟩=some v /\ w1.frozen? ⟨R,7,none⟩=false:=by
 have hR:=h.lt R (by rw [h.rR];intro e;cases e)
 have h1:w1.heap[R]? = some _:=((hg.block R (by omega) fun e=>by
  have:=u2 R e.symm
  rw [h.rR] at this
  cases this).trans (h0 R hR.2)).trans h.hR
 exact ⟨(rf_cells h1).1,(rf_cells h1).2.2.2 7⟩
def RfPost (lo:Nat) (R:Nat) (x':RfSt) (e':Int) (e:Ending) (w w':World):Prop:=e=.returned (.int .i64 e') /\ Below lo w w' /\ (e'=0 -> ∃ v' role',RfAt lo w' R v' role' x')
theorem rf_user_end {lo:Nat} {w w7 W0 wz w':World} {R:Nat} {v v':Value} {role1:Nat->Role} {x:RfSt} {xs:List Value} {nm:ByteArray} {vs vd:Value} {sa di:List Int} {n:Int} {p q m:Nat} (hm:x.us.length=m) (hlo:lo<=w.heap.size) (hb7:Below w.heap.size w w7) (h:RfAt lo w7 R v role1 x)
  (u1:w7.ownsRow lo 63 6 v m xs) (u2:∀ b,v.ownBlock=some b->role1 b=.usr) (u3:∀ i u,x.us[i]? = some u->UserAt lo w7 role1 i u ((xs.drop (i*6)).take 6)) (hrs:RowAt lo w7 role1 .flat 5 (.int .u8) sa vs) (hrd:RowAt lo w7 role1 .flat 5 (.int .u8) di vd)
  (hz:nm.size<=maxLen) (hn:(Lit.int .i64 n).wf=true) (hg:W0.grownBy wz v.ownBlock) (hown:wz.ownsRow lo 63 6 v' (m+1) (xs++[.string nm,vs,vd,.int .i64 n,.complex .f64 p q,.slice none 0 0])) (hat:v'.ownBlock=v.ownBlock \/ v'.ownBlock=some W0.heap.size)
  (hW:∀ b,b < w7.heap.size->W0.heap[b]? = w7.heap[b]?) (hWs:w7.heap.size<=W0.heap.size) (hWq:W0.os=w7.os /\ W0.tape=w7.tape /\ W0.output=w7.output) (he:w'.heap=(wz.setCell ⟨R,7,none⟩ v').heap) (hq:w'.os=wz.os /\ w'.tape=wz.tape /\ w'.output=wz.output) :
  RfPost lo R { x with us:=x.us++[(bytesL nm,(sa,di),n,(p,q),[])] } 0 (.returned (.int .i64 0)) w w':=by
 subst hm
 have hk:∀ b,role1 b≠.no->W0.heap[b]? = w7.heap[b]?:=fun b hb=>hW b (h.lt b hb).2
 have hk0:∀ b,role1 b=.flat->role1 b=.flat /\ W0.heap[b]? = w7.heap[b]?:=fun b hb=>⟨hb,hk b (by rw [hb];intro e;cases e)⟩
 have hRlt:=h.lt R (by rw [h.rR];intro e;cases e)
 obtain ⟨role',hr⟩:=rf_push (h.keep hk hWs) (nu:=(bytesL nm,(sa,di),n,(p,q),[])) (news:=[.string nm,vs,vd,.int .i64 n,.complex .f64 p q,.slice none 0 0]) rfl (userAt_new hz hn (hrs.keep rfl (by intro e;cases e) hk0) (hrd.keep rfl (by intro e;cases e) hk0)) hg (owns_keep u1 fun b hb=>hk b (by rw [u2 b hb];intro e;cases e)) u2
  (fun i u hu=>(u3 i u hu).keep fun b hb=>⟨rfl,hk b (by rcases hb with hb | hb <;> (rw [hb];intro e;cases e))⟩) hown hat (by have:=hb7.size;omega)
 refine ⟨rfl,⟨hq.1.trans (hg.os.trans (hWq.1.trans hb7.os)),hq.2.1.trans (hg.tape.trans (hWq.2.1.trans hb7.tape)),hq.2.2.trans (hg.output.trans (hWq.2.2.trans hb7.output)),?_,fun b hb=>?_⟩,fun _=>⟨v',role',hr.keep (fun b _=>by rw [he]) (by rw [he];exact Nat.le_refl _)⟩⟩
 ·rw [he]
  have h1:=hb7.size
  have h2:=hg.size
  have h3:(wz.setCell ⟨R,7,none⟩ v').heap.size=wz.heap.size:=by simp [World.setCell]
  omega
 ·have h1:=hb7.size
  rw [he,setCell_heap,if_neg (by show b≠R;omega),hg.block b (by omega) fun e=>?_,hW b (by omega),hb7.block b (by omega)]
  have:=(h.lt b (by rw [u2 b e.symm];intro e;cases e)).1
  omega
theorem tab0 (W:World):∀ p∈([]:Tab),∃ ty fr,W.heap[p.1]? = some (.cells p.2 ty fr):=fun p h=>by cases h
theorem rNum_calls {W:World} {s:ByteArray} (hs:s.size<=maxLen) {lo hi:Int} (wlo:(Lit.int .i64 lo).wf=true) (whi:(Lit.int .i64 hi).wf=true) {n:Int} {b:Bool} (h:F_wlvref_Num (bytesL s) lo hi=some (n,b)) :
  Calls Tryz.prog 98 #[.string s,.int .i64 lo,.int .i64 hi] W fun e W'=>e=.returned (.tuple #[.int .i64 n,.bool b]) /\ (Lit.int .i64 n).wf=true /\ Below W.heap.size W W':=by
 refine (fn_calls (tab0 W) (s:=F_wlvref_Num_sig) (al:=[⟨false,flat .str (bytesL s),.string s⟩,⟨false,flat (.int .i64) lo,.int .i64 lo⟩,⟨false,flat (.int .i64) hi,.int .i64 hi⟩]) (y:=((n,b):Int×Bool)) F_wlvref_Num_sound rfl Tryz.func98
  (List.forall_mem_cons.2 ⟨str_ok hs,List.forall_mem_cons.2 ⟨int_ok wlo,List.forall_mem_cons.2 ⟨int_ok whi,fun a h=>by cases h⟩⟩⟩) (appF_c (appF_c (appF_c (appF_n h))))).mono ?_
 rintro e W' ⟨us,g',st',rfl,h1,h2,h3,h4⟩
 have e2:(exitSt F_wlvref_Num_sig ((n,b):Int×Bool)).map (fun st=>(st.φ 0,st.φ 1))=some (.w false [.d (.int .i64) n],.w false [.d .bool b]):=rfl
 rw [h2] at e2
 injection e2 with e2
 have r0:=h4 0
 have r1:=h4 1
 rw [show st'.φ 0=_ from congrArg Prod.fst e2] at r0
 rw [show st'.φ 1=_ from congrArg Prod.snd e2] at r1
 obtain ⟨q0,q1⟩:=rInt r0
 rw [two_of h1,q0,rBool r1]
 exact ⟨rfl,q1,h3⟩
theorem one_of {us:List Value} (h:us.length=1):us=[us.getD 0 undef]:=by
 match us,h with
 | [a],_=>rfl
theorem rname_calls {W:World} {s:ByteArray} (hs:s.size<=maxLen) {b:Bool} (h:F_wlvref18_name (bytesL s)=some b) :
  Calls Tryz.prog 99 #[.string s] W fun e W'=>e=.returned (.bool b) /\ Below W.heap.size W W':=by
 refine (fn_calls (tab0 W) (s:=F_wlvref18_name_sig) (al:=[⟨false,flat .str (bytesL s),.string s⟩]) (y:=(b:Bool)) F_wlvref18_name_sound rfl Tryz.func99
  (List.forall_mem_cons.2 ⟨str_ok hs,fun a h=>by cases h⟩) (appF_c (appF_n h))).mono ?_
 rintro e W' ⟨us,g',st',rfl,h1,h2,h3,h4⟩
 have e2:(exitSt F_wlvref18_name_sig (b:Bool)).map (fun st=>st.φ 0)=some (.w false [.d .bool b]):=rfl
 rw [h2] at e2
 injection e2 with e2
 have r0:=h4 0
 rw [show st'.φ 0=_ from e2] at r0
 rw [one_of h1,rBool r0]
 exact ⟨rfl,h3⟩
theorem rports_calls {W:World} {s:ByteArray} (hs:s.size<=maxLen) {n m:Int} {b:Bool} (h:F_wlvref18_ports (bytesL s)=some (n,m,b)) :
  Calls Tryz.prog 101 #[.string s] W fun e W'=>e=.returned (.tuple #[.int .i64 n,.int .i64 m,.bool b]) /\ (Lit.int .i64 n).wf=true /\ (Lit.int .i64 m).wf=true /\ Below W.heap.size W W':=by
 refine (fn_calls (tab0 W) (s:=F_wlvref18_ports_sig) (al:=[⟨false,flat .str (bytesL s),.string s⟩]) (y:=((n,m,b):Int×Int×Bool)) F_wlvref18_ports_sound rfl Tryz.func101
  (List.forall_mem_cons.2 ⟨str_ok hs,fun a h=>by cases h⟩) (appF_c (appF_n h))).mono ?_
 rintro e W' ⟨us,g',st',rfl,h1,h2,h3,h4⟩
 have e2:(exitSt F_wlvref18_ports_sig ((n,m,b):Int×Int×Bool)).map (fun st=>(st.φ 0,st.φ 1,st.φ 2))=some (.w false [.d (.int .i64) n],.w false [.d (.int .i64) m],.w false [.d .bool b]):=rfl
 rw [h2] at e2
 injection e2 with e2
 have r0:=h4 0
 have r1:=h4 1
 have r2:=h4 2
 rw [show st'.φ 0=_ from congrArg Prod.fst e2] at r0
 rw [show st'.φ 1=_ from congrArg (fun p=>p.2.1) e2] at r1
 rw [show st'.φ 2=_ from congrArg (fun p=>p.2.2) e2] at r2
 obtain ⟨q0,q1⟩:=rInt r0
 obtain ⟨q2,q3⟩:=rInt r1
 rw [three_of h1,q0,q2,rBool r2]
 exact ⟨rfl,q1,q3,h3⟩
theorem rnet_calls {W:World} {s:ByteArray} (hs:s.size<=maxLen) {ip:List Int} {n e0:Int} (h:F_wlvref15_ParseNet (bytesL s)=some (ip,n,e0)) :
  Calls Tryz.prog 102 #[.string s] W fun e W'=>∃ t:ByteArray,e=.returned (.tuple #[.agg #[.string t,.int .i64 n],.int .i64 e0]) /\ bytesL t=ip /\ t.size<=maxLen /\ (Lit.int .i64 n).wf=true /\ Below W.heap.size W W':=by
 refine (fn_calls (tab0 W) (s:=F_wlvref15_ParseNet_sig) (al:=[⟨false,flat .str (bytesL s),.string s⟩]) (y:=((ip,n,e0):List Int×Int×Int)) F_wlvref15_ParseNet_sound rfl Tryz.func102
  (List.forall_mem_cons.2 ⟨str_ok hs,fun a h=>by cases h⟩) (appF_c (appF_n h))).mono ?_
 rintro e W' ⟨us,g',st',rfl,h1,h2,h3,h4⟩
 have e2:(exitSt F_wlvref15_ParseNet_sig ((ip,n,e0):List Int×Int×Int)).map (fun st=>(st.φ 0,st.φ 1))=some (.w true [.d .str ip,.d (.int .i64) n],.w false [.d (.int .i64) e0]):=rfl
 rw [h2] at e2
 injection e2 with e2
 have q0:=h4 0
 have q1:=h4 1
 rw [show st'.φ 0=_ from congrArg Prod.fst e2] at q0
 rw [show st'.φ 1=_ from congrArg Prod.snd e2] at q1
 obtain ⟨cs,k1,k2⟩:=q0
 have k2:us.getD 0 undef=.agg ⟨cs⟩:=k2
 have k3:=unflatAll_rep (t:=.pr .str (.int .i64)) (x:=((ip,n):List Int×Int)) rfl k1
 obtain ⟨d1,d2,rfl,⟨t,rfl,g1,g2⟩,rfl,g3⟩:=k3
 rw [two_of h1,k2,(rInt q1).1]
 exact ⟨t,rfl,g1,g2,g3,h3⟩
theorem rhost_calls {W:World} {s:ByteArray} (hs:s.size<=maxLen) {l:List Int} {e0:Int} (h:F_wlvref15_Name (bytesL s)=some (l,e0)) :
  Calls Tryz.prog 103 #[.string s] W fun e W'=>∃ t:ByteArray,e=.returned (.tuple #[.string t,.int .i64 e0]) /\ bytesL t=l /\ t.size<=maxLen /\ Below W.heap.size W W':=by
 refine (fn_calls (tab0 W) (s:=F_wlvref15_Name_sig) (al:=[⟨false,flat .str (bytesL s),.string s⟩]) (y:=((l,e0):List Int×Int)) F_wlvref15_Name_sound rfl Tryz.func103
  (List.forall_mem_cons.2 ⟨str_ok hs,fun a h=>by cases h⟩) (appF_c (appF_n h))).mono ?_
 rintro e W' ⟨us,g',st',rfl,h1,h2,h3,h4⟩
 have e2:(exitSt F_wlvref15_Name_sig ((l,e0):List Int×Int)).map (fun st=>(st.φ 0,st.φ 1))=some (.w false [.d .str l],.w false [.d (.int .i64) e0]):=rfl
 rw [h2] at e2
 injection e2 with e2
 have r0:=h4 0
 have r1:=h4 1
 rw [show st'.φ 0=_ from congrArg Prod.fst e2] at r0
 rw [show st'.φ 1=_ from congrArg Prod.snd e2] at r1
 obtain ⟨t,k1,k2,k3⟩:=rel_leaf.1 r0
 injection k1 with k1
 rw [two_of h1,k1,(rInt r1).1]
 exact ⟨t,rfl,k2,k3,h3⟩
theorem rf_row {W:World} {nt:Nat} {g:Gh} {w:World} {O:Tok->Bool} {tmf:Nat->Value} {u:Value} {τ:Tok} {E:TypeId} {e:Ty} {l:List e.D} (h:RelP (F00 W nt) g w O tmf u (.w false [.own τ E e l])) (hO:O τ=true) (hl:l≠[]) :
  ∃ (B cap:Nat) (cur:Array Value),u=.slice (some ⟨B,0,none⟩) l.length cap /\ w.heap[B]? = some (.cells cur E (0,0)) /\ l.length<=cap /\ cap<=maxLen /\ cur.size=cap*e.size /\ (∀ (i:Nat) (x:e.D),l[i]? = some x->RepD w g.C e x ((cur.toList.drop (i*e.size)).take e.size)) /\ W.heap.size<=B:=by
 obtain ⟨cs,g1,g2⟩:=h
 have g2:cs=[u]:=g2
 subst g2
 obtain ⟨c1,c2,g3,⟨hrd,hown⟩,g4⟩:=g1
 have g4:c2=[]:=g4
 subst g4
 rw [List.append_nil] at g3
 subst g3
 obtain ⟨v,hv,hOw⟩:=hown hO
 injection hv with hv
 subst hv
 rcases hOw with ⟨a,_,hnil,_⟩ | ⟨bl,cap,cur,hv2,hblk,hcell,hlc,hcm,hcs,hel,hC,hW⟩
 ·exact absurd hnil hl
 refine ⟨bl,cap,cur,hv2,hcell,hlc,hcm,hcs,hel,?_⟩
 rcases hW _ (Nat.le_refl _) with h | h
 ·exact h
 ·exact h.elim
theorem strs_cells {W:World} {C:Com} {B:Nat} {cur:Array Value} {E:TypeId} {fr:Nat×Nat} {cap:Nat} {l:List (List Int)} (hcell:W.heap[B]? = some (.cells cur E fr)) (hlc:l.length<=cap) (hcs:cur.size=cap*1) (hel:∀ (i:Nat) (x:List Int),l[i]? = some x->RepD W C .str x ((cur.toList.drop (i*1)).take 1)) :
  ∃ ws:List ByteArray,ws.map bytesL=l /\ ∀ (i:Nat) (t:ByteArray),ws[i]? = some t->W.cell? ⟨B,i,none⟩=some (.string t) /\ t.size<=maxLen:=by
 have hel2:∀ (i:Nat) (y:List Int),l[i]? = some y -> ∃ t:ByteArray,cur[i]? = some (.string t) /\ bytesL t=y /\ t.size<=maxLen:=fun i y hy=>by
  obtain ⟨t,ht,ht2,ht3⟩:=hel i y hy
  have hi:i < l.length:=(List.getElem?_eq_some_iff.1 hy).1
  have hic:i < cur.size:=by omega
  refine ⟨t,?_,ht2,ht3⟩
  rw [Nat.mul_one,List.drop_eq_getElem_cons (by simpa using hic)] at ht
  simp only [List.take_succ_cons,List.take_zero,List.cons.injEq,and_true,Array.getElem_toList] at ht
  rw [Array.getElem?_eq_getElem hic,ht]
 obtain ⟨ws,hwl,hw2⟩:=strs_of l cur hel2
 exact ⟨ws,hwl,fun i t ht=>⟨by rw [cell_at hcell];exact (hw2 i t ht).1,(hw2 i t ht).2⟩⟩
theorem ints_cells {W:World} {C:Com} {B:Nat} {cur:Array Value} {E:TypeId} {fr:Nat×Nat} {cap:Nat} {l:List Int} (hcell:W.heap[B]? = some (.cells cur E fr)) (hlc:l.length<=cap) (hcs:cur.size=cap*1) (hel:∀ (i:Nat) (x:Int),l[i]? = some x->RepD W C (.int .i64) x ((cur.toList.drop (i*1)).take 1)) (i:Nat) (x:Int) (hx:l[i]? = some x):W.cell? ⟨B,i,none⟩=some (.int .i64 x):=by
 obtain ⟨ht,_⟩:=hel i x hx
 have hi:i < l.length:=(List.getElem?_eq_some_iff.1 hx).1
 have hic:i < cur.size:=by omega
 rw [Nat.mul_one,List.drop_eq_getElem_cons (by simpa using hic)] at ht
 simp only [List.take_succ_cons,List.take_zero,List.cons.injEq,and_true,Array.getElem_toList] at ht
 rw [cell_at hcell,Array.getElem?_eq_getElem hic,ht]
def rfNames:List (List Int):=[[99,111,110,110,115],[115,116,114,101,97,109,115],[98,117,102,102,101,114],[108,111,103],[105,100,108,101],[100,105,97,108],[108,105,115,116]]
def rfMost:List Int:=[16,100,65535,100000,1099511627776,1099511627776,16384]
theorem own_len {W:World} {nt:Nat} {g:Gh} {w:World} {O:Tok->Bool} {tmf:Nat->Value} {u:Value} {τ:Tok} {E:TypeId} {e:Ty} {l:List e.D} (h:RelP (F00 W nt) g w O tmf u (.w false [.own τ E e l])) (hO:O τ=true):∃ a c,u=.slice a l.length c:=by
 obtain ⟨cs,g1,g2⟩:=h
 have g2:cs=[u]:=g2
 subst g2
 obtain ⟨c1,c2,g3,⟨hrd,hown⟩,g4⟩:=g1
 have g4:c2=[]:=g4
 subst g4
 rw [List.append_nil] at g3
 subst g3
 obtain ⟨v,hv,hOw⟩:=hown hO
 injection hv with hv
 subst hv
 rcases hOw with ⟨a,hv,hnil,_⟩ | ⟨bl,cap,cur,hv2,_⟩
 ·rw [hnil];exact ⟨_,_,hv⟩
 ·exact ⟨_,_,hv2⟩
theorem rsplit_calls {W:World} {s:ByteArray} (hs:s.size<=maxLen) {l:List (List Int)} (h:F_wlvref_Split (bytesL s) 32=some l) (hl:l≠[]) :
  Calls Tryz.prog 55 #[.string s,.int .u8 32] W fun e W'=>∃ (B cap:Nat) (ws:List ByteArray),e=.returned (.slice (some ⟨B,0,none⟩) ws.length cap) /\ ws.map bytesL=l /\ W.heap.size<=B /\ B < W'.heap.size /\ ws.length<=cap /\ (∀ (i:Nat) (t:ByteArray),ws[i]? = some t->W'.cell? ⟨B,i,none⟩=some (.string t) /\ t.size<=maxLen) /\ Below W.heap.size W W':=by
 refine (fn_calls (tab0 W) (s:=F_wlvref_Split_sig) (al:=[⟨false,flat .str (bytesL s),.string s⟩,⟨false,flat (.int .u8) (32:Int),.int .u8 32⟩]) (y:=(l:List (List Int))) F_wlvref_Split_sound rfl Tryz.func55
  (List.forall_mem_cons.2 ⟨str_ok hs,List.forall_mem_cons.2 ⟨Arg.mk_ok (τ:=.int .u8) (cs:=[.int .u8 32]) (ag:=false) ⟨rfl,by decide⟩ rfl,fun a h=>by cases h⟩⟩) (appF_c (appF_c (appF_n h)))).mono ?_
 rintro e W' ⟨us,g',st',rfl,h1,h2,h3,h4⟩
 have e2:(exitSt F_wlvref_Split_sig (l:List (List Int))).map (fun st=>(st.φ 0,st.O (.hd 0 0)))=some (.w false [.own (.hd 0 0) 9 .str l],true):=rfl
 rw [h2] at e2
 injection e2 with e2
 have q0:=h4 0
 rw [show st'.φ 0=_ from congrArg Prod.fst e2] at q0
 have hO:st'.O (.hd 0 0)=true:=congrArg Prod.snd e2
 obtain ⟨B,cap,cur,k1,k2,k3,k4,k5,k6,k7⟩:=rf_row q0 hO hl
 obtain ⟨ws,w1,w2⟩:=strs_cells (cap:=cap) k2 k3 k5 k6
 have hwl:ws.length=List.length l:=by rw [<-w1,List.length_map]
 refine ⟨B,cap,ws,?_,w1,k7,(Array.getElem?_eq_some_iff.1 k2).1,by rw [hwl];exact k3,w2,h3⟩
 rw [one_of h1,k1,hwl]
 rfl
theorem rlimits_calls {W:World} :
  Calls Tryz.prog 73 #[] W fun e W'=>∃ (B D cap cbp:Nat) (ws:List ByteArray),e=.returned (.tuple #[.slice (some ⟨B,0,none⟩) 7 cap,.slice (some ⟨D,0,none⟩) 7 cbp]) /\ ws.map bytesL=rfNames /\ 7<=cap /\ 7<=cbp /\ W.heap.size<=B /\ B < W'.heap.size /\ W.heap.size<=D /\ D < W'.heap.size /\ (∀ (i:Nat) (t:ByteArray),ws[i]? = some t->W'.cell? ⟨B,i,none⟩=some (.string t)) /\ (∀ (i:Nat) (x:Int),rfMost[i]? = some x->W'.cell? ⟨D,i,none⟩=some (.int .i64 x)) /\ Below W.heap.size W W':=by
 refine (fn_calls (tab0 W) (s:=F_wlvref18_limits_sig) (al:=[]) (y:=((rfNames,rfMost):List (List Int)×List Int)) F_wlvref18_limits_sound rfl Tryz.func73 (fun a h=>by cases h) (appF_n rfl)).mono ?_
 rintro e W' ⟨us,g',st',rfl,h1,h2,h3,h4⟩
 have e2:(exitSt F_wlvref18_limits_sig ((rfNames,rfMost):List (List Int)×List Int)).map (fun st=>(st.φ 0,st.φ 1,st.O (.hd 0 0),st.O (.hd 0 1)))=some (.w false [.own (.hd 0 0) 9 .str rfNames],.w false [.own (.hd 0 1) 3 (.int .i64) rfMost],true,true):=rfl
 rw [h2] at e2
 injection e2 with e2
 have q0:=h4 0
 have q1:=h4 1
 rw [show st'.φ 0=_ from congrArg Prod.fst e2] at q0
 rw [show st'.φ 1=_ from congrArg (fun p=>p.2.1) e2] at q1
 have hO:st'.O (.hd 0 0)=true:=congrArg (fun p=>p.2.2.1) e2
 have hO':st'.O (.hd 0 1)=true:=congrArg (fun p=>p.2.2.2) e2
 obtain ⟨B,cap,cur,k1,k2,k3,k4,k5,k6,k7⟩:=rf_row q0 hO (by intro e;cases e)
 obtain ⟨D,cbp,cvr,j1,j2,j3,j4,j5,j6,j7⟩:=rf_row q1 hO' (by intro e;cases e)
 obtain ⟨ws,w1,w2⟩:=strs_cells (cap:=cap) k2 k3 k5 k6
 refine ⟨B,D,cap,cbp,ws,?_,w1,k3,j3,k7,(Array.getElem?_eq_some_iff.1 k2).1,j7,(Array.getElem?_eq_some_iff.1 j2).1,fun i t h=>(w2 i t h).1,ints_cells (cap:=cbp) j2 j3 j5 j6,h3⟩
 rw [two_of h1,k1,j1]
 rfl
theorem unhex_calls {W:World} {s:ByteArray} (hs:s.size<=maxLen) {l:List Int} {b:Bool} (h:F_wlvref18_unhex (bytesL s)=some (l,b)) :
  Calls Tryz.prog 100 #[.string s] W fun e W'=>∃ v,e=.returned (.tuple #[v,.bool b]) /\ (∃ a c,v=.slice a l.length c) /\ (l≠[] -> ∃ xs,W'.ownsRow W.heap.size 5 1 v l.length xs /\ ∀ (i:Nat) (x:Int),l[i]? = some x->RepD W' noC (.int .u8) x ((xs.drop (i*1)).take 1)) /\ Below W.heap.size W W':=by
 refine (fn_calls (tab0 W) (s:=F_wlvref18_unhex_sig) (al:=[⟨false,flat .str (bytesL s),.string s⟩]) (y:=((l,b):List Int×Bool)) F_wlvref18_unhex_sound rfl Tryz.func100
  (List.forall_mem_cons.2 ⟨str_ok hs,fun a h=>by cases h⟩) (appF_c (appF_n h))).mono ?_
 rintro e W' ⟨us,g',st',rfl,h1,h2,h3,h4⟩
 have e2:(exitSt F_wlvref18_unhex_sig ((l,b):List Int×Bool)).map (fun st=>(st.φ 0,st.φ 1,st.O (.hd 0 0)))=some (.w false [.own (.hd 0 0) 5 (.int .u8) l],.w false [.d .bool b],true):=rfl
 rw [h2] at e2
 injection e2 with e2
 have q0:=h4 0
 have q1:=h4 1
 rw [show st'.φ 0=_ from congrArg Prod.fst e2] at q0
 rw [show st'.φ 1=_ from congrArg (fun p=>p.2.1) e2] at q1
 have hO:st'.O (.hd 0 0)=true:=congrArg (fun p=>p.2.2) e2
 rw [two_of h1,rBool q1]
 refine ⟨_,rfl,?_,fun hl=>?_,h3⟩
 ·exact own_len q0 hO
 ·obtain ⟨B,cap,cur,k1,k2,k3,k4,k5,k6,k7⟩:=rf_row q0 hO hl
  rw [k1]
  refine ⟨cur.toList.take (List.length l*1),⟨?_,.inr ⟨B,cap,cur,rfl,k7,?_,k3,k4,k5,rfl⟩⟩,fun i x hx=>?_⟩
  ·have e3:cur.toList.length=cap*1:=Array.length_toList.trans k5
   have e4:List.length l*1<=cur.toList.length:=by rw [e3];exact Nat.mul_le_mul_right _ k3
   rw [List.length_take,Nat.min_eq_left e4]
  ·exact k2
  ·rw [take_row (List.getElem?_eq_some_iff.1 hx).1]
   exact repD_flat rfl (k6 i x hx)
def usHas (us:List UserD) (s:List Int):Bool:=us.any fun u=>u.1==s
theorem sizeUs:sizeT Tryz.prog 63=some 6:=by kernel_rfl
theorem agUs:isAg Tryz.prog 63=true:=by kernel_rfl
theorem find_ret {w:World} {R:Nat} {v0 v1 v2 v3 v4 v5 v:Value} {T:TypeId} {a:Act} {Z:Ending->World->Prop} (hd:a.defers=[]) (h2:a.tmps.getD 4 undef=.pointer (some ⟨R,0,none⟩)) (h3:a.tmps.getD 5 undef=v)
  (hR:w.heap[R]? = some (.cells #[v0,v1,v2,v3,v4,v5] T (0,0)))
  (hZ:Z (.returned (.tuple #[.agg #[v0,v1,v2,v3,v4,v5],v])) w):bodyPost Tryz.prog Tryz.f35 Z .ret a w:=by
 have hl:=run_loadVar_cells (P:=Tryz.prog) (w:=w) (t:=63) (ad:=⟨R,0,none⟩) (us:=[v0,v1,v2,v3,v4,v5]) sizeUs rfl agUs (fun j x hj=>by
  show w.cell? ((⟨R,0,none⟩:Addr).add j)=_
  have e:(⟨R,0,none⟩:Addr).add j=⟨R,j,none⟩:=by unfold Addr.add;simp;omega
  rw [e,Lib.cell_of_heap hR]
  rw [<-hj];simp)
 refine bodyPost_ret ?_ hd hZ
 rw [results_cell_tmp (p:=4) (u:=5) (ty:=63) rfl,h2,h3]
 simp [asAddr,hl]
set_option maxHeartbeats 4000000 in
theorem set6 {w W:World} {b:Nat} {u0 u1 u2 u3 u4 u5 v0 v1 v2 v3 v4 v5:Value} {T:TypeId} (h:w.heap[b]? = some (.cells #[u0,u1,u2,u3,u4,u5] T (0,0))) (hW:((((((w.setCell ⟨b,0,none⟩ v0).setCell ⟨b,1,none⟩ v1).setCell ⟨b,2,none⟩ v2).setCell ⟨b,3,none⟩ v3).setCell ⟨b,4,none⟩ v4).setCell ⟨b,5,none⟩ v5)=W) :
  W.heap[b]? = some (.cells #[v0,v1,v2,v3,v4,v5] T (0,0)) /\ (∀ k,k≠b->W.heap[k]? = w.heap[k]?) /\ W.heap.size=w.heap.size /\ W.os=w.os /\ W.tape=w.tape /\ W.output=w.output:=by
 have hsz:∀ (w:World) (a:Addr) (u:Value),(w.setCell a u).heap.size=w.heap.size:=fun w a u=>by simp [World.setCell]
 have hos:∀ (w:World) (a:Addr) (u:Value),(w.setCell a u).os=w.os /\ (w.setCell a u).tape=w.tape /\ (w.setCell a u).output=w.output:=fun w a u=>⟨rfl,rfl,rfl⟩
 subst hW
 refine ⟨?_,fun k hk=>?_,by rw [hsz,hsz,hsz,hsz,hsz,hsz],by rw [(hos _ _ _).1,(hos _ _ _).1,(hos _ _ _).1,(hos _ _ _).1,(hos _ _ _).1,(hos _ _ _).1],by rw [(hos _ _ _).2.1,(hos _ _ _).2.1,(hos _ _ _).2.1,(hos _ _ _).2.1,(hos _ _ _).2.1,(hos _ _ _).2.1],by rw [(hos _ _ _).2.2,(hos _ _ _).2.2,(hos _ _ _).2.2,(hos _ _ _).2.2,(hos _ _ _).2.2,(hos _ _ _).2.2]⟩
 ·rw [set_heap (set_heap (set_heap (set_heap (set_heap (set_heap h)))))]
  rfl
 ·rw [setCell_heap,if_neg hk,setCell_heap,if_neg hk,setCell_heap,if_neg hk,setCell_heap,if_neg hk,setCell_heap,if_neg hk,setCell_heap,if_neg hk]
theorem store_cpx {P:Program} {w:World} {a:Addr} {x y:Nat} {m:Mode}:(store a (.complex .f64 x y) m).run P w=stored P w a (.complex .f64 x y) m:=run_store P w a _ m rfl
def findW (w:World) (v:Value):World:=(w.alloc (.cells #[.int .i64 0,.int .i64 0,.int .i64 0,.int .i64 0,.int .i64 0,.int .i64 0,.int .i64 0,v] 51)).alloc (.cells #[.string ⟨#[]⟩,.slice none 0 0,.slice none 0 0,.int .i64 0,.complex .f64 0 0,.slice none 0 0] 63)
theorem findW_at (w:World) (v:Value):(findW w v).heap[w.heap.size]? = some (.cells #[.int .i64 0,.int .i64 0,.int .i64 0,.int .i64 0,.int .i64 0,.int .i64 0,.int .i64 0,v] 51 (0,0)) /\ (findW w v).heap[w.heap.size+1]? = some (.cells #[.string ⟨#[]⟩,.slice none 0 0,.slice none 0 0,.int .i64 0,.complex .f64 0 0,.slice none 0 0] 63 (0,0)) /\ Below w.heap.size w (findW w v):=by
 refine ⟨?_,?_,((Below.refl _ _).alloc (Nat.le_refl _) _).alloc (by simp) _⟩
 ·unfold findW
  rw [heap_alloc_old _ _ (by simp)]
  exact heap_alloc_new _ _
 ·unfold findW
  have:=heap_alloc_new (w.alloc (.cells #[.int .i64 0,.int .i64 0,.int .i64 0,.int .i64 0,.int .i64 0,.int .i64 0,.int .i64 0,v] 51)) (.cells #[.string ⟨#[]⟩,.slice none 0 0,.slice none 0 0,.int .i64 0,.complex .f64 0 0,.slice none 0 0] 63)
  rw [show (w.alloc (Obj.cells #[.int .i64 0,.int .i64 0,.int .i64 0,.int .i64 0,.int .i64 0,.int .i64 0,.int .i64 0,v] 51)).heap.size=w.heap.size+1 by simp] at this
  exact this
set_option maxHeartbeats 8000000 in
set_option maxRecDepth 1000000 in
theorem rfind_walk {lo:Nat} {w:World} {role:Nat->Role} {us:List UserD} {v:Value} (hU:UsAt lo w role us v) (hlen:us.length<=16) (nm:ByteArray) :
  Calls Tryz.prog 35 #[.agg #[.int .i64 0,.int .i64 0,.int .i64 0,.int .i64 0,.int .i64 0,.int .i64 0,.int .i64 0,v],.string nm] w fun e w'=>∃ (c0:ByteArray) (p1:Option Addr) (l1 m1:Nat) (p2:Option Addr) (l2 m2:Nat) (x3:Int) (x4 y4:Nat) (p5:Option Addr) (l5 m5:Nat),e=.returned (.tuple #[.agg #[.string c0,.slice p1 l1 m1,.slice p2 l2 m2,.int .i64 x3,.complex .f64 x4 y4,.slice p5 l5 m5],.bool (usHas us (bytesL nm))]) /\ Below w.heap.size w w':=by
 obtain ⟨xs,h1,h2,h3⟩:=hU
 obtain ⟨ad,cap,hv⟩:∃ ad cap,v=.slice ad us.length cap:=by
  rcases h1.2 with ⟨rfl,hn⟩ | ⟨g,cap,cur,rfl,_⟩
  ·exact ⟨none,0,by rw [hn]⟩
  ·exact ⟨_,_,rfl⟩
 obtain ⟨n,hn⟩:∃ n,us.length=n:=⟨_,rfl⟩
 have hcells:∀ i u,us[i]? = some u -> ∃ (U:Nat) (c0:ByteArray) (p1:Option Addr) (l1 m1:Nat) (p2:Option Addr) (l2 m2:Nat) (x3:Int) (x4 y4:Nat) (p5:Option Addr) (l5 m5:Nat),ad=some ⟨U,0,none⟩ /\ U < w.heap.size /\ bytesL c0=u.1 /\ w.cell? ⟨U,i*6,none⟩=some (.string c0) /\ w.cell? ⟨U,i*6+1,none⟩=some (.slice p1 l1 m1) /\ w.cell? ⟨U,i*6+2,none⟩=some (.slice p2 l2 m2) /\ w.cell? ⟨U,i*6+3,none⟩=some (.int .i64 x3) /\ w.cell? ⟨U,i*6+4,none⟩=some (.complex .f64 x4 y4) /\ w.cell? ⟨U,i*6+5,none⟩=some (.slice p5 l5 m5):=fun i u hu=>by
  obtain ⟨nm',vs,vd,vr,q1,q2,_,_,r1,r2,r3⟩:=h3 i u hu
  obtain ⟨p1,l1,m1,rfl⟩:=row_slice r1
  obtain ⟨p2,l2,m2,rfl⟩:=row_slice r2
  obtain ⟨p5,l5,m5,rfl⟩:=row_slice r3
  rcases h1.2 with ⟨rfl,hn⟩ | ⟨g,cap',cur,rfl,_,hg,_⟩
  ·have:=(List.getElem?_eq_some_iff.1 hu).1
   omega
  ·injection hv with e1 e2 e3
   obtain ⟨k0,k1,k2,k3,k4,k5⟩:=user_cells h1 q1
   exact ⟨g,nm',p1,l1,m1,p2,l2,m2,_,_,_,p5,l5,m5,e1.symm,(Array.getElem?_eq_some_iff.1 hg).1,q2,k0,k1,k2,k3,k4,k5⟩
 rw [hv,hn]
 rw [hn] at hlen
 clear h1 h2 h3 hv
 have HC:Aside (∀ i u,us[i]? = some u -> ∃ (U:Nat) (c0:ByteArray) (p1:Option Addr) (l1 m1:Nat) (p2:Option Addr) (l2 m2:Nat) (x3:Int) (x4 y4:Nat) (p5:Option Addr) (l5 m5:Nat),ad=some ⟨U,0,none⟩ /\ U < w.heap.size /\ bytesL c0=u.1 /\ w.cell? ⟨U,i*6,none⟩=some (.string c0) /\ w.cell? ⟨U,i*6+1,none⟩=some (.slice p1 l1 m1) /\ w.cell? ⟨U,i*6+2,none⟩=some (.slice p2 l2 m2) /\ w.cell? ⟨U,i*6+3,none⟩=some (.int .i64 x3) /\ w.cell? ⟨U,i*6+4,none⟩=some (.complex .f64 x4 y4) /\ w.cell? ⟨U,i*6+5,none⟩=some (.slice p5 l5 m5)):=hcells
 have HN:Aside (us.length=n):=hn
 clear hcells hn
 have hcx:=@store_cpx
 go_enter Tryz.func35,Tryz.ntmps35
 go_wp2
 have HW:Aside (_ /\ _ /\ _):=findW_at w (.slice ad n cap)
 go_loopw [6] (fun v wr=>∃ k:Nat,k<=n /\ v=.int .i64 k /\ wr=findW w (.slice ad n cap) /\ Aside (∀ i:Nat,i < k -> ∀ u,us[i]? = some u->(u.1==bytesL nm)=false)) (fun v _=>n - (intOf v).toNat)
 case atStart=>exact ⟨0,by omega,rfl,rfl,fun i hi=>absurd hi (by omega)⟩
 case round=>
  obtain ⟨k,hk,rfl,hwr,HA⟩:=hrel
  have hb:Below w.heap.size w wr:=by rw [hwr];exact HW.out.2.2
  have h0:=HW.out.1
  rw [<-hwr] at h0
  obtain ⟨_,_,_,_,_,_,_,z7,_⟩:=cells8 h0
  have hr6:=HW.out.2.1
  rw [<-hwr] at hr6
  clear h0
  have hs:w.heap.size+1 < wr.heap.size:=(Array.getElem?_eq_some_iff.1 hr6).1
  have f6:∀ o,wr.frozen? ⟨w.heap.size+1,o,none⟩=false:=fun o=>by simp [World.frozen?,hr6]
  have f60:=f6 0
  have f61:=f6 1
  have f62:=f6 2
  have f63:=f6 3
  have f64:=f6 4
  have f65:=f6 5
  have g6:∀ o,o < 6 -> ∃ u,wr.cell? ⟨w.heap.size+1,o,none⟩=some u:=fun o ho=>by
   rw [cell_at hr6]
   exact ⟨_,Array.getElem?_eq_getElem (by simpa using ho)⟩
  obtain ⟨_,g60⟩:=g6 0 (by decide)
  obtain ⟨_,g61⟩:=g6 1 (by decide)
  obtain ⟨_,g62⟩:=g6 2 (by decide)
  obtain ⟨_,g63⟩:=g6 3 (by decide)
  obtain ⟨_,g64⟩:=g6 4 (by decide)
  obtain ⟨_,g65⟩:=g6 5 (by decide)
  have H6:Aside (_ /\ _):=⟨hr6,hwr⟩
  clear hr6 hwr f6 g6
  by_cases hlt:k < n
  ·have hkl:k < us.length:=by rw [HN.out];exact hlt
   obtain ⟨u,hu⟩:∃ u,us[k]? = some u:=⟨_,List.getElem?_eq_getElem hkl⟩
   obtain ⟨U,c0,p1,l1,m1,p2,l2,m2,x3,x4,y4,p5,l5,m5,rfl,hUl,hnm,k0,k1,k2,k3,k4,k5⟩:=HC.out k u hu
   rw [<-hb.cell hUl] at k0 k1 k2 k3 k4 k5
   have hq0:=bytes_eq c0 nm
   rw [hnm] at hq0
   have hUne:U≠w.heap.size+1:=by omega
   have HU:Aside (us[k]? = some u):=hu
   clear hu hnm
   cases hq:u.1==bytesL nm with
   | true=>
    rw [hq] at hq0
    have HQ:Aside ((u.1==bytesL nm)=true):=hq
    clear hq
    go_wp2
    generalize hW:World.setCell _ _ _=W6
    obtain ⟨y1,y2,y3,y4⟩:=set6 H6.out.1 hW
    have hh:usHas us (bytesL nm)=true:=List.any_eq_true.2 ⟨u,List.mem_of_getElem? HU.out,HQ.out⟩
    rw [hh]
    exact find_ret rfl rfl rfl y1 ⟨_,_,_,_,_,_,_,_,_,_,_,_,_,rfl,⟨y4.1.trans hb.os,y4.2.1.trans hb.tape,y4.2.2.trans hb.output,by rw [y3];exact hb.size,fun b hb'=>(y2 b (by omega)).trans (hb.block b hb')⟩⟩
   | false=>
    rw [hq] at hq0
    have HQ:Aside ((u.1==bytesL nm)=false):=hq
    clear hq
    go_wp2
    refine ⟨⟨k+1,by omega,by simp,H6.out.2,fun i hi u' hu'=>?_⟩,by simp [intOf];omega⟩
    rcases Nat.lt_or_ge i k with h | h
    ·exact HA.out i h u' hu'
    ·obtain rfl:i=k:=by omega
     rw [HU.out] at hu'
     injection hu' with hu'
     rw [<-hu']
     exact HQ.out
  ·obtain rfl:k=n:=by omega
   go_wp2
   generalize hW:World.setCell _ _ _=W6
   obtain ⟨y1,y2,y3,y4⟩:=set6 H6.out.1 hW
   have hh:usHas us (bytesL nm)=false:=by
    rw [Bool.eq_false_iff]
    intro h
    obtain ⟨u,hu,hq⟩:=List.any_eq_true.1 h
    obtain ⟨i,hi⟩:=List.getElem?_of_mem hu
    have:=HA.out i (by rw [<-HN.out];exact (List.getElem?_eq_some_iff.1 hi).1) u hi
    rw [this] at hq
    cases hq
   rw [hh]
   exact find_ret rfl rfl rfl y1 ⟨_,_,_,_,_,_,_,_,_,_,_,_,_,rfl,⟨y4.1.trans hb.os,y4.2.1.trans hb.tape,y4.2.2.trans hb.output,by rw [y3];exact hb.size,fun b hb'=>(y2 b (by omega)).trans (hb.block b hb')⟩⟩
def rfLo (k:Nat):Int:=cond (Nat.beq k 3) 0 1
noncomputable def rlimitP (x:RfSt):List (List Int)->Option (RfSt×Bool)
 | [_,a,b]=>match limAt a with
  | none=>some (x,false)
  | some k=>(F_wlvref_Num b (rfLo k) (rfMost.getD k 0)).bind fun p=>some (cond (!p.2||x.set.getD k false) (x,false) ({ x with set:=x.set.set k true,n:=x.n.set k p.1 },true))
 | _=>some (x,false)
def RlPost (lo:Nat) (R:Nat) (x':RfSt) (e':Bool) (e:Ending) (w w':World):Prop:=e=.returned (.bool e') /\ Below lo w w' /\ (e'=true -> ∃ v' role',RfAt lo w' R v' role' x')
theorem rfNames_lim:∀ k,k < 7->rfNames[k]? = some (bytesL (limW k)):=by
 intro k hk
 match k,hk with
 | 0,_=>rfl
 | 1,_=>rfl
 | 2,_=>rfl
 | 3,_=>rfl
 | 4,_=>rfl
 | 5,_=>rfl
 | 6,_=>rfl
theorem rfMost_wf (k:Nat) (hk:k < 7):∃ m,rfMost[k]? = some m /\ (Lit.int .i64 m).wf=true:=by
 match k,hk with
 | 0,_=>exact ⟨_,rfl,by decide⟩
 | 1,_=>exact ⟨_,rfl,by decide⟩
 | 2,_=>exact ⟨_,rfl,by decide⟩
 | 3,_=>exact ⟨_,rfl,by decide⟩
 | 4,_=>exact ⟨_,rfl,by decide⟩
 | 5,_=>exact ⟨_,rfl,by decide⟩
 | 6,_=>exact ⟨_,rfl,by decide⟩
theorem rf_told {lo:Nat} {w w':World} {R:Nat} {v:Value} {role:Nat->Role} {x:RfSt} (h:RfAt lo w R v role x) {k:Nat} (hk:k < 7) {n:Int} (hn:(Lit.int .i64 n).wf=true) (he:w'.heap=((w.setCell ⟨R,8+k,none⟩ (.bool true)).setCell ⟨R,15+k,none⟩ (.int .i64 n)).heap) :
  RfAt lo w' R v role { x with set:=x.set.set k true,n:=x.n.set k n }:=by
 have h1:=set_heap (u:=.bool true) (o:=8+k) h.hR
 rw [rf_sets v x h.hs hk] at h1
 have h2:=set_heap (u:=.int .i64 n) (o:=15+k) h1
 rw [rf_setn v _ (by show (x.set.set k true).length=7;rw [List.length_set];exact h.hs)] at h2
 have hne:∀ b,role b≠.no->role b≠.rdr->w'.heap[b]? = w.heap[b]?:=fun b _ h2=>by
  have hb:b≠R:=fun e=>h2 (by rw [e];exact h.rR)
  rw [he,setCell_heap,if_neg (by show b≠R;exact hb),setCell_heap,if_neg (by show b≠R;exact hb)]
 obtain ⟨xs,u1,u2,u3⟩:=h.hU
 refine ⟨by rw [he];exact h2,h.rR,by show (x.set.set k true).length=7;rw [List.length_set];exact h.hs,by show (x.n.set k n).length=7;rw [List.length_set];exact h.hn,⟨xs,owns_keep u1 fun b hb=>hne b (by rw [u2 b hb];intro e;cases e) (by rw [u2 b hb];intro e;cases e),u2,fun i u hu=>(u3 i u hu).keep fun b hb=>⟨rfl,hne b ?_ ?_⟩⟩,fun b hb=>?_,fun c hc=>?_⟩
 ·rcases hb with hb | hb <;> (rw [hb];intro e;cases e)
 ·rcases hb with hb | hb <;> (rw [hb];intro e;cases e)
 ·have:=h.lt b hb
  refine ⟨this.1,?_⟩
  rw [he]
  simpa [World.setCell] using this.2
 ·have hc:c∈x.n.set k n:=hc
  rcases List.mem_or_eq_of_mem_set hc with h' | h'
  ·exact h.wf c h'
  ·rw [h'];exact hn
set_option maxHeartbeats 16000000 in
set_option maxRecDepth 1000000 in
theorem rlimit_three {lo:Nat} {w:World} {R:Nat} {v:Value} {role:Nat->Role} {x:RfSt} (h:RfAt lo w R v role x) (hlo:lo<=w.heap.size) {ad:Addr} {c:Nat} {s0 s1 s2:ByteArray} (c1:w.cell? ⟨ad.block,ad.off+1,none⟩=some (.string s1)) (c2:w.cell? ⟨ad.block,ad.off+2,none⟩=some (.string s2)) (z2:s2.size<=maxLen)
    {x':RfSt} {e':Bool} (hF:(match limAt (bytesL s1) with
    | none=>some (x,false)
    | some k=>(F_wlvref_Num (bytesL s2) (rfLo k) (rfMost.getD k 0)).bind fun p=>some (cond (!p.2||x.set.getD k false) (x,false) (({ x with set:=x.set.set k true,n:=x.n.set k p.1 }:RfSt),true)))=some (x',e')) :
    Calls Tryz.prog 56 #[.pointer (some ⟨R,0,none⟩),.slice (some ad) 3 c] w fun e w'=>RlPost lo R x' e' e w w':=by
  have HL:Aside (lo<=w.heap.size /\ RfAt lo w R v role x):=⟨hlo,h⟩
  have HF:Aside ((match limAt (bytesL s1) with
    | none=>some (x,false)
    | some k=>(F_wlvref_Num (bytesL s2) (rfLo k) (rfMost.getD k 0)).bind fun p=>some (cond (!p.2||x.set.getD k false) (x,false) (({ x with set:=x.set.set k true,n:=x.n.set k p.1 }:RfSt),true)))=some (x',e')):=hF
  clear h hlo hF
  go_enter Tryz.func56,Tryz.ntmps56
  go_wp2_with (go_at_call 73;refine rlimits_calls.mono ?_;rintro e W1 ⟨B,D,cap,cbp,ws,rfl,hws,hc7,hd7,hB1,hB2,hD1,hD2,hcs,hcn,hb1⟩;have HB:Aside (_ /\ _ /\ _ /\ _):=⟨hws,hcs,hcn,hb1⟩;clear hws hcs hcn)
  go_loopw [7] (fun vi wr=>∃ k:Nat,vi=.int .i64 k /\ k<=7 /\ Below W1.heap.size W1 wr /\ Aside (∀ j,j < k->(bytesL (limW j)==bytesL s1)=false)) (fun vi _=>7 - (intOf vi).toNat)
  case atStart=>exact ⟨0,rfl,by omega,Below.refl _ _,fun j hj=>absurd hj (by omega)⟩
  case round=>
    obtain ⟨k,rfl,hk,hbr,HA⟩:=hrel
    have hb2:Below w.heap.size w wr:=hb1.trans (hbr.mono hb1.size)
    by_cases hk7:k < 7
    · have hwl : k < ws.length := by
        have:=congrArg List.length HB.out.1
        rw [List.length_map] at this
        rw [this];exact hk7
      obtain ⟨t,ht⟩:∃ t,ws[k]? = some t:=⟨_,List.getElem?_eq_getElem hwl⟩
      have htk:bytesL t=bytesL (limW k):=by
        have h1:=rfNames_lim k hk7
        rw [<-HB.out.1,List.getElem?_map,ht] at h1
        injection h1
      have cB:=(hbr.cell hB2).trans (HB.out.2.1 k t ht)
      have c1r:=cell_b c1 hb2
      have c2r:=cell_b c2 hb2
      have hadl:ad.block < wr.heap.size:=show (⟨ad.block,ad.off+1,none⟩:Addr).block < _ from cell_lt c1r
      have hwd:=bytes_eq t s1
      rw [htk] at hwd
      have HT:Aside (_ /\ _):=⟨ht,htk⟩
      clear ht htk hwl
      cases hq:bytesL (limW k)==bytesL s1 with
      | false=>
        rw [hq] at hwd
        have HQ:Aside ((bytesL (limW k)==bytesL s1)=false):=hq
        clear hq
        go_wp2
        go_region
        go_wp2
        refine ⟨⟨k+1,by simp,by omega,Below.drew hbr,fun j hj=>?_⟩,by simp [intOf];omega⟩
        rcases Nat.lt_or_ge j k with h | h
        · exact HA.out j h
        · obtain rfl:j=k:=by omega
          exact HQ.out
      | true=>
        rw [hq] at hwd
        have hfind:limAt (bytesL s1)=some k:=limAt_some hk7 hq HA.out
        have hF:=HF.out
        rw [hfind] at hF
        obtain ⟨⟨n,b⟩,hnum,hF⟩:=Option.bind_eq_some_iff.1 hF
        injection hF with hF
        obtain ⟨most,hm1,hm2⟩:=rfMost_wf k hk7
        have cD:=(hbr.cell hD2).trans (HB.out.2.2.1 k most hm1)
        rw [List.getD_eq_getElem?_getD,hm1,Option.getD_some] at hnum
        obtain ⟨sk,hsk⟩:∃ sk,x.set[k]? = some sk:=⟨_,List.getElem?_eq_getElem (by rw [HL.out.2.hs];exact hk7)⟩
        obtain ⟨nk,hnk⟩:∃ nk,x.n[k]? = some nk:=⟨_,List.getElem?_eq_getElem (by rw [HL.out.2.hn];exact hk7)⟩
        rw [List.getD_eq_getElem?_getD,hsk,Option.getD_some] at hF
        have hF:cond (!b||sk) (x,false) (({ x with set:=x.set.set k true,n:=x.n.set k n }:RfSt),true)=(x',e'):=hF
        have hwb:w.heap.size<=wr.heap.size:=hb2.size
        have hst:∀ w9,Below wr.heap.size wr w9->RfAt lo w9 R v role x:=fun w9 h=>(HL.out.2.below (hb2.trans (h.mono hwb)))
        have hcell:∀ w9,RfAt lo w9 R v role x->w9.cell? ⟨R,8+k,none⟩=some (.bool sk) /\ w9.cell? ⟨R,15+k,none⟩=some (.int .i64 nk) /\ w9.frozen? ⟨R,8+k,none⟩=false /\ w9.frozen? ⟨R,15+k,none⟩=false:=fun w9 h=>by
          obtain ⟨_,g1,g2,g3⟩:=rf_cells h.hR
          exact ⟨g1 k sk hsk,g2 k nk h.hs hnk,g3 _,g3 _⟩
        have htold:=fun (w9 w':World) (h:RfAt lo w9 R v role x) (hn:(Lit.int .i64 n).wf=true) (he:w'.heap=((w9.setCell ⟨R,8+k,none⟩ (.bool true)).setCell ⟨R,15+k,none⟩ (.int .i64 n)).heap)=>rf_told h hk7 hn he
        have HX:Aside (_ /\ _ /\ _ /\ _ /\ _ /\ _):=⟨hnum,hm2,hst,hcell,htold,hF⟩
        clear hnum hm2 hst hcell htold hF HF hfind hq hm1
        have key:k=3 \/ k≠3:=by omega
        rcases key with rfl | h3
        · have hnum:F_wlvref_Num (bytesL s2) 0 most=some (n,b):=HX.out.1
          have HNM:Aside (_ /\ _):=⟨hnum,(show (Lit.int .i64 0).wf=true by decide)⟩
          clear hnum
          go_wp2
          go_region
          go_wp2
          go_region_with (go_at_call 98;(refine (rNum_calls z2 HNM.out.2 HX.out.2.1 HNM.out.1).mono ?_;rintro e w9 ⟨rfl,hwn,hb9⟩))
          all_goals
            have hbd:Below wr.heap.size wr w9:=⟨hb9.os,hb9.tape,hb9.output,hb9.size,hb9.block⟩
            have hr9:=HX.out.2.2.1 w9 hbd
            obtain ⟨q8,q15,f8,f15⟩:=HX.out.2.2.2.1 w9 hr9
            simp only [Nat.reduceAdd] at q8 q15 f8 f15
            have H9:Aside (_ /\ _ /\ _):=⟨hr9,hwn,hb2.trans (hbd.mono hwb)⟩
            have hRl:R < w9.heap.size:=(hr9.lt R (by rw [hr9.rR];intro e;cases e)).2
            clear hbd hr9 hwn hb9
            have hF:=HX.out.2.2.2.2.2
            cases b with
            | false=>
              obtain ⟨rfl,rfl⟩:=Prod.mk.inj hF
              go_wp2
              go_ret
              exact ⟨rfl,H9.out.2.2.mono HL.out.1,fun e=>by cases e⟩
            | true=>
              cases sk with
              | true=>
                obtain ⟨rfl,rfl⟩:=Prod.mk.inj hF
                go_wp2
                go_ret
                exact ⟨rfl,H9.out.2.2.mono HL.out.1,fun e=>by cases e⟩
              | false=>
                obtain ⟨rfl,rfl⟩:=Prod.mk.inj hF
                go_wp2
                go_region
                all_goals
                  go_wp2
                  go_ret
                  refine ⟨rfl,?_,fun _=>⟨v,role,HX.out.2.2.2.2.1 _ _ H9.out.1 H9.out.2.1 rfl⟩⟩
                  have hl2:=(HL.out.2.lt R (by rw [HL.out.2.rR];intro e;cases e)).1
                  have h9:=H9.out.2.2.mono HL.out.1
                  refine ⟨h9.os,h9.tape,h9.output,?_,fun b hb=>?_⟩
                  · have:=h9.size
                    simpa [World.setCell,World.drew] using this
                  · show ((World.setCell _ _ _).setCell _ _).heap[b]? = _
                    rw [setCell_heap,if_neg (by show b≠R;omega),setCell_heap,if_neg (by show b≠R;omega)]
                    exact h9.block b hb
        · have hnum : F_wlvref_Num (bytesL s2) 1 most = some (n, b) := by
            have:=HX.out.1
            unfold rfLo at this
            rw [show Nat.beq k 3=false from Bool.eq_false_iff.2 fun h=>h3 (Nat.eq_of_beq_eq_true h)] at this
            exact this
          have HNM:Aside (_ /\ _):=⟨hnum,(show (Lit.int .i64 1).wf=true by decide)⟩
          clear hnum
          go_wp2
          go_region
          go_wp2
          go_region_with (go_at_call 98;(refine (rNum_calls z2 HNM.out.2 HX.out.2.1 HNM.out.1).mono ?_;rintro e w9 ⟨rfl,hwn,hb9⟩))
          all_goals
            have hbd:Below wr.heap.size wr w9:=⟨hb9.os,hb9.tape,hb9.output,hb9.size,hb9.block⟩
            have hr9:=HX.out.2.2.1 w9 hbd
            obtain ⟨q8,q15,f8,f15⟩:=HX.out.2.2.2.1 w9 hr9
            have H9:Aside (_ /\ _ /\ _):=⟨hr9,hwn,hb2.trans (hbd.mono hwb)⟩
            have hRl:R < w9.heap.size:=(hr9.lt R (by rw [hr9.rR];intro e;cases e)).2
            clear hbd hr9 hwn hb9
            have hF:=HX.out.2.2.2.2.2
            cases b with
            | false=>
              obtain ⟨rfl,rfl⟩:=Prod.mk.inj hF
              go_wp2
              go_ret
              exact ⟨rfl,H9.out.2.2.mono HL.out.1,fun e=>by cases e⟩
            | true=>
              cases sk with
              | true=>
                obtain ⟨rfl,rfl⟩:=Prod.mk.inj hF
                go_wp2
                go_ret
                exact ⟨rfl,H9.out.2.2.mono HL.out.1,fun e=>by cases e⟩
              | false=>
                obtain ⟨rfl,rfl⟩:=Prod.mk.inj hF
                go_wp2
                go_region
                all_goals
                  go_wp2
                  go_ret
                  refine ⟨rfl,?_,fun _=>⟨v,role,HX.out.2.2.2.2.1 _ _ H9.out.1 H9.out.2.1 rfl⟩⟩
                  have hl2:=(HL.out.2.lt R (by rw [HL.out.2.rR];intro e;cases e)).1
                  have h9:=H9.out.2.2.mono HL.out.1
                  refine ⟨h9.os,h9.tape,h9.output,?_,fun b hb=>?_⟩
                  · have:=h9.size
                    simpa [World.setCell,World.drew] using this
                  · show ((World.setCell _ _ _).setCell _ _).heap[b]? = _
                    rw [setCell_heap,if_neg (by show b≠R;omega),setCell_heap,if_neg (by show b≠R;omega)]
                    exact h9.block b hb
    · obtain rfl:k=7:=by omega
      have hx:some (x,false)=some (x',e'):=by
        rw [<-HF.out,limAt_none HA.out]
      injection hx with hx
      obtain ⟨rfl,rfl⟩:=Prod.mk.inj hx
      clear HF
      go_wp2
      go_ret
      exact ⟨rfl,hb2.mono HL.out.1,fun e=>by cases e⟩
set_option maxHeartbeats 8000000 in
set_option maxRecDepth 1000000 in
theorem rlimit_walk {lo:Nat} {w:World} {R:Nat} {v:Value} {role:Nat->Role} {x:RfSt} (h:RfAt lo w R v role x) (hlo:lo<=w.heap.size) {a:Option Addr} {n c:Nat} {ws:List ByteArray} (hn:ws.length=n) (hws:∀ i s,ws[i]? = some s -> ∃ ad,a=some ad /\ w.cell? (ad.add i)=some (.string s) /\ s.size<=maxLen) {x':RfSt} {e':Bool} (hF:rlimitP x (ws.map bytesL)=some (x',e')) :
    Calls Tryz.prog 56 #[.pointer (some ⟨R,0,none⟩),.slice a n c] w fun e w'=>RlPost lo R x' e' e w w':=by
  by_cases h3:n=3
  · subst h3
    match ws,hn,hws,hF with
    | [s0,s1,s2],_,hws,hF=>
    obtain ⟨ad,rfl,c0,z0⟩:=hws 0 s0 rfl
    obtain ⟨_,e1,c1,z1⟩:=hws 1 s1 rfl
    injection e1 with e1
    subst e1
    obtain ⟨_,e1,c2,z2⟩:=hws 2 s2 rfl
    injection e1 with e1
    subst e1
    rw [add_pos _ (by decide)] at c1 c2
    exact rlimit_three (s0:=s0) h hlo c1 c2 z2 hF
  · have hF : some (x, false) = some (x', e') := by
      rw [<-hF]
      match ws,hn with
      | [],_=>rfl
      | [_],_=>rfl
      | [_,_],_=>rfl
      | [_,_,_],hn=>exact absurd hn.symm h3
      | _::_::_::_::_,_=>rfl
    injection hF with hF
    obtain ⟨rfl,rfl⟩:=Prod.mk.inj hF
    clear hws hn
    go_enter Tryz.func56,Tryz.ntmps56
    go_wp2
    go_ret
    exact ⟨rfl,Below.refl _ _,fun e=>by cases e⟩
end Go.Proofs.YtgfmfgombmpodaaGreatDoor
namespace Go.Proofs.YtgfmfgombmpodaaGreatDoor
open Go.RowKit Pv Vc
set_option linter.unusedVariables false
def ruserC (x:RfSt) (a:List Int) (sa di:List Int×Bool) (n up dn:Int×Bool):Bool:=
 sa.2&&(Nat.ble 1 sa.1.length&&(Nat.ble sa.1.length 32&&(di.2&&(Nat.beq di.1.length 32&&(n.2&&(up.2&&(dn.2 && !usHas x.us a)))))))
noncomputable def ruserG (x:RfSt) (a:List Int) (sa di:List Int×Bool) (n up dn:Int×Bool):Option (RfSt×Int):=
 cond (ruserC x a sa di n up dn) (cond (Nat.ble 16 x.us.length) (some (x,7)) (some ({ x with us:=x.us++[(a,(sa.1,di.1),n.1,(fl up.1,fl dn.1),[])] },0))) (some (x,2))
noncomputable def ruserP (x:RfSt):List (List Int)->Option (RfSt×Int)
  | [_, a, b, c, d, e, f] => (F_wlvref18_name a).bind fun q => cond q (
      (F_wlvref18_unhex b).bind fun sa=>(F_wlvref18_unhex c).bind fun di=>(F_wlvref_Num d 1 1000).bind fun n=>(F_wlvref_Num e 0 1125899906842624).bind fun up=>(F_wlvref_Num f 0 1125899906842624).bind fun dn=>ruserG x a sa di n up dn) (some (x,2))
  | _=>some (x,2)
structure RusAns (s1 s2 s3 s4 s5 s6:ByteArray) (sa di:List Int×Bool) (n up dn:Int×Bool):Prop where
 h1:F_wlvref18_name (bytesL s1)=some true
 h2:F_wlvref18_unhex (bytesL s2)=some sa
 h3:F_wlvref18_unhex (bytesL s3)=some di
 h4:F_wlvref_Num (bytesL s4) 1 1000=some n
 h5:F_wlvref_Num (bytesL s5) 0 1125899906842624=some up
 h6:F_wlvref_Num (bytesL s6) 0 1125899906842624=some dn
theorem rf_zero {w:World} {R:Nat} {v:Value} {x:RfSt} {T:TypeId} (h:w.heap[R]? = some (.cells (rfCells v x).toArray T (0,0))) :
  w.cell? ⟨R,0,none⟩=some (.int .i64 0) /\ w.cell? ⟨R,1,none⟩=some (.int .i64 0) /\ w.cell? ⟨R,2,none⟩=some (.int .i64 0) /\ w.cell? ⟨R,3,none⟩=some (.int .i64 0) /\ w.cell? ⟨R,4,none⟩=some (.int .i64 0) /\ w.cell? ⟨R,5,none⟩=some (.int .i64 0) /\ w.cell? ⟨R,6,none⟩=some (.int .i64 0):=by
 refine ⟨?_,?_,?_,?_,?_,?_,?_⟩ <;> (rw [cell_at h];rfl)
theorem RfAt.more {lo:Nat} {w:World} {R:Nat} {v:Value} {role:Nat->Role} {x:RfSt} (h:RfAt lo w R v role x) (o:Obj):RfAt lo (w.alloc o).drew R v role x:=
 h.keep (fun b hb=>heap_alloc_old w o (h.lt b hb).2) (by show w.heap.size<=(w.alloc o).heap.size;simp)
theorem ruC_true {b1 b2 b3 b4 b5 q:Bool} {l d:Nat} (h1:b1=true) (h2:1<=l) (h3:l<=32) (h4:b2=true) (h5:d=32) (h6:b3=true) (h7:b4=true) (h8:b5=true) (h9:q=false) :
  (b1&&(Nat.ble 1 l&&(Nat.ble l 32&&(b2&&(Nat.beq d 32&&(b3&&(b4&&(b5 && !q))))))))=true:=by
 subst h1 h4 h5 h6 h7 h8 h9
 rw [Nat.ble_eq_true_of_le h2,Nat.ble_eq_true_of_le h3]
 rfl
theorem cells6 {w:World} {b:Nat} {v0 v1 v2 v3 v4 v5:Value} {T:TypeId} (h:w.heap[b]? = some (.cells #[v0,v1,v2,v3,v4,v5] T (0,0))):w.cell? ⟨b,0,none⟩=some v0 /\ w.cell? ⟨b,1,none⟩=some v1 /\ w.cell? ⟨b,2,none⟩=some v2 /\ w.cell? ⟨b,3,none⟩=some v3 /\ w.cell? ⟨b,4,none⟩=some v4 /\ w.cell? ⟨b,5,none⟩=some v5 /\
  w.frozen? ⟨b,0,none⟩=false /\ w.frozen? ⟨b,1,none⟩=false /\ w.frozen? ⟨b,2,none⟩=false /\ w.frozen? ⟨b,3,none⟩=false /\ w.frozen? ⟨b,4,none⟩=false /\ w.frozen? ⟨b,5,none⟩=false:=by
 refine ⟨?_,?_,?_,?_,?_,?_,?_,?_,?_,?_,?_,?_⟩ <;> first | (rw [cell_at h];rfl) | simp [World.frozen?,h]
theorem below_more {lo:Nat} {w w6 w7:World} {o:Obj} (h6:Below lo w w6) (hl:lo<=w6.heap.size) (h7:Below (w6.alloc o).drew.heap.size (w6.alloc o).drew w7):Below lo w w7:=by
 have hs:(w6.alloc o).drew.heap.size=w6.heap.size+1:=by show (w6.alloc o).heap.size=_;simp
 refine ⟨h7.os.trans h6.os,h7.tape.trans h6.tape,h7.output.trans h6.output,?_,fun b hb=>?_⟩
 ·have:=h7.size
  have:=h6.size
  omega
 ·rw [h7.block b (by omega)]
  show (w6.alloc o).heap[b]? = _
  rw [heap_alloc_old w6 o (by omega)]
  exact h6.block b hb
set_option maxHeartbeats 8000000 in
set_option maxRecDepth 1000000 in
theorem ruser_bad {lo:Nat} {w:World} {R:Nat} {x:RfSt} (hlo:lo<=w.heap.size) {ad:Addr} {c:Nat} {s1:ByteArray} (c1:w.cell? ⟨ad.block,ad.off+1,none⟩=some (.string s1)) (z1:s1.size<=maxLen) (hq:F_wlvref18_name (bytesL s1)=some false) :
  Calls Tryz.prog 57 #[.pointer (some ⟨R,0,none⟩),.slice (some ad) 7 c] w fun e w'=>RfPost lo R x 2 e w w':=by
 have HL:Aside (lo<=w.heap.size /\ F_wlvref18_name (bytesL s1)=some false):=⟨hlo,hq⟩
 clear hlo hq
 go_enter Tryz.func57,Tryz.ntmps57
 go_wp2_with (go_at_call 99;refine (rname_calls z1 HL.out.2).mono ?_;rintro e w1 ⟨rfl,hb1⟩)
 go_ret
 exact ⟨rfl,hb1.mono HL.out.1,fun e=>by cases e⟩
set_option maxHeartbeats 16000000 in
set_option maxRecDepth 1000000 in
theorem ruser_seven {lo:Nat} {w:World} {R:Nat} {v:Value} {role:Nat->Role} {x:RfSt} (h:RfAt lo w R v role x) (hlo:lo<=w.heap.size) (few:x.us.length<=16) {ad:Addr} {c:Nat} {s1 s2 s3 s4 s5 s6:ByteArray} (c1:w.cell? ⟨ad.block,ad.off+1,none⟩=some (.string s1)) (c2:w.cell? ⟨ad.block,ad.off+2,none⟩=some (.string s2)) (c3:w.cell? ⟨ad.block,ad.off+3,none⟩=some (.string s3)) (c4:w.cell? ⟨ad.block,ad.off+4,none⟩=some (.string s4)) (c5:w.cell? ⟨ad.block,ad.off+5,none⟩=some (.string s5)) (c6:w.cell? ⟨ad.block,ad.off+6,none⟩=some (.string s6))
    (z1:s1.size<=maxLen) (z2:s2.size<=maxLen) (z3:s3.size<=maxLen) (z4:s4.size<=maxLen) (z5:s5.size<=maxLen) (z6:s6.size<=maxLen)
    {sa di:List Int} {n up dn:Int} {b1 b2 b3 b4 b5:Bool} (hA:RusAns s1 s2 s3 s4 s5 s6 (sa,b1) (di,b2) (n,b3) (up,b4) (dn,b5)) {x':RfSt} {e':Int} (hF:ruserG x (bytesL s1) (sa,b1) (di,b2) (n,b3) (up,b4) (dn,b5)=some (x',e')) :
    Calls Tryz.prog 57 #[.pointer (some ⟨R,0,none⟩),.slice (some ad) 7 c] w fun e w'=>RfPost lo R x' e' e w w':=by
  have HLN:Aside (x.us.length<=16):=few
  have HF:Aside (ruserG x (bytesL s1) (sa,b1) (di,b2) (n,b3) (up,b4) (dn,b5)=some (x',e')):=hF
  have HA:Aside (RusAns s1 s2 s3 s4 s5 s6 (sa,b1) (di,b2) (n,b3) (up,b4) (dn,b5)):=hA
  obtain ⟨m,hm⟩:∃ m,x.us.length=m:=⟨_,rfl⟩
  obtain ⟨va,vc,rfl⟩:∃ va vc,v=.slice va m vc:=by
    obtain ⟨xs,u1,_⟩:=h.hU
    rw [hm] at u1
    rcases u1.2 with ⟨rfl,hn0⟩ | ⟨g,cap,cur,rfl,_⟩
    · exact ⟨none,0,by rw [hn0]⟩
    · exact ⟨_,_,rfl⟩
  have HL:Aside (lo<=w.heap.size /\ RfAt lo w R (.slice va m vc) role x):=⟨hlo,h⟩
  have HM:Aside (x.us.length=m):=hm
  obtain ⟨q,hq⟩:∃ q,usHas x.us (bytesL s1)=q:=⟨_,rfl⟩
  have HQ:Aside (usHas x.us (bytesL s1)=q):=hq
  have hcx:=@store_cpx
  clear hF hlo few h hA hm hq
  go_enter Tryz.func57,Tryz.ntmps57
  go_wp2_with (first
    | (go_at_call 99;refine (rname_calls z1 HA.out.h1).mono ?_;rintro e w1 ⟨rfl,hb1⟩;have c21:=cell_b c2 hb1)
    | (go_at_call 100;((with_reducible refine (unhex_calls z2 HA.out.h2).mono ?_);rintro e w2 ⟨vs,rfl,⟨vsa,vsc,rfl⟩,hvs,hb2'⟩;have hb2:=hb1.trans (hb2'.mono hb1.size);have HVS:Aside (w.heap.size<=w1.heap.size /\ _ /\ _):=⟨hb1.size,hvs,hb2'⟩;clear hvs hb2';have c32:=cell_b c3 hb2))
    | (go_at_call 100;((with_reducible refine (unhex_calls z3 HA.out.h3).mono ?_);rintro e w3 ⟨vd,rfl,⟨vda,vdc,rfl⟩,hvd,hb3'⟩;have hb3:=hb2.trans (hb3'.mono hb2.size);have HVD:Aside (w.heap.size<=w2.heap.size /\ _ /\ _):=⟨hb2.size,hvd,hb3'⟩;clear hvd hb3';have c43:=cell_b c4 hb3))
    | (go_at_call 98;((with_reducible refine (rNum_calls z4 (by decide) (by decide) HA.out.h4).mono ?_);rintro e w4 ⟨rfl,hwn,hb4'⟩;have hb4:=hb3.trans (hb4'.mono hb3.size);have HWN:Aside (_ /\ _):=⟨hwn,hb4'⟩;clear hwn hb4';have c54:=cell_b c5 hb4))
    | (go_at_call 98;((with_reducible refine (rNum_calls z5 (by decide) (by decide) HA.out.h5).mono ?_);rintro e w5 ⟨rfl,_,hb5'⟩;have hb5:=hb4.trans (hb5'.mono hb4.size);have HW5:Aside _:=hb5';clear hb5';have c65:=cell_b c6 hb5))
    | (go_at_call 98;((with_reducible refine (rNum_calls z6 (by decide) (by decide) HA.out.h6).mono ?_);rintro e w6 ⟨rfl,_,hb6'⟩;have hb6:=hb5.trans (hb6'.mono hb5.size);have HW6:Aside _:=hb6';clear hb6';have c16:=cell_b c1 hb6;have hadl:ad.block < w6.heap.size:=show (⟨ad.block,ad.off+1,none⟩:Addr).block < _ from cell_lt c16;have HR6:Aside (RfAt lo w6 R (.slice va m vc) role x):=HL.out.2.below hb6;obtain ⟨r0,r1,r2,r3,r4,r5,r6⟩:=rf_zero HR6.out.hR;have r7:=(rf_cells HR6.out.hR).1;have hRl:R < w6.heap.size:=(HR6.out.lt R (by rw [HR6.out.rR];intro e;cases e)).2)))
  rename_i K8 hK8
  have tail:∀ (u15 u17 u18 u19 u20 u21 u22 u23 u24 u25 u26 u27 u28 u29 u30 u31 u32 u33 u34 u35 u36 u37 u38 u39 u40 u41 u42 u43 u44 u45 u46 u47 u48 u49 u50 u51 u52 u53 u54 u55 u56 u57 u58 u59 u60 u61 u62 u63 u64 u65 u66 u67 u68 u69 u70 u71 u72:Value) (W8:World),Below w6.heap.size w6 W8->K8 ⟨#[Value.pointer (some ⟨R,0,none⟩),Value.slice (some ad) 7 c,undef,undef,Value.int IntKind.i64 0,Value.slice vsa sa.length vsc,Value.bool b1,Value.slice vda di.length vdc,Value.bool b2,Value.int IntKind.i64 n,Value.bool b3,Value.int IntKind.i64 up,Value.bool b4,Value.int IntKind.i64 dn,Value.bool b5,u15,Value.bool q,u17,u18,u19,u20,u21,u22,u23,u24,u25,u26,u27,u28,u29,u30,u31,u32,u33,u34,u35,u36,u37,u38,u39,u40,u41,u42,u43,u44,u45,u46,u47,u48,u49,u50,u51,u52,u53,u54,u55,u56,u57,u58,u59,u60,u61,u62,u63,u64,u65,u66,u67,u68,u69,u70,u71,u72,undef,undef,undef,undef,undef,undef,undef,undef,undef,undef,undef,undef,undef,undef,undef,undef,undef,undef,undef,undef,undef,undef,undef,undef,undef,undef,undef,undef,undef,undef,undef,undef,undef,undef,undef,undef,undef,undef,undef,undef,undef,undef,undef,undef,undef,undef,undef,undef,undef,undef,undef,undef,undef,undef,undef,undef,undef,undef,undef,undef,undef,undef,undef,undef,undef,undef,undef],[]⟩ W8:=by
    intro u15 u17 u18 u19 u20 u21 u22 u23 u24 u25 u26 u27 u28 u29 u30 u31 u32 u33 u34 u35 u36 u37 u38 u39 u40 u41 u42 u43 u44 u45 u46 u47 u48 u49 u50 u51 u52 u53 u54 u55 u56 u57 u58 u59 u60 u61 u62 u63 u64 u65 u66 u67 u68 u69 u70 u71 u72 W8 hb8'
    have hb8:Below w.heap.size w W8:=hb6.trans (hb8'.mono hb6.size)
    refine hK8 _ _ ?_
    clear hK8 c1 c2 c3 c4 c5 c6 c21 c32 c43 c54 c65 r0 r1 r2 r3 r4 r5 r6 r7 hRl z2 z3 z4 z5 z6 hcx
    cases hc:b1&&(Nat.ble 1 sa.length&&(Nat.ble sa.length 32&&(b2&&(Nat.beq di.length 32&&(b3&&(b4&&(b5 && !q))))))) with
    | false=>
      have hx:some (x,(2:Int))=some (x',e'):=by
        rw [<-HF.out]
        unfold ruserG ruserC
        dsimp only
        rw [HQ.out,hc];rfl
      injection hx with hx
      obtain ⟨rfl,rfl⟩:=Prod.mk.inj hx
      have HC:Aside (_=false):=hc
      clear HF hc
      have hlo:=HL.out.1
      have fin:RfPost lo R x 2 (.returned (.int .i64 2)) w W8:=⟨rfl,hb8.mono hlo,fun e=>by cases e⟩
      have FIN:Aside _:=fin
      clear fin hb8 hb8' HVS HVD HWN HW5 HW6 HR6 hb1 hb2 hb3 hb4 hb5 hb6 c16 hadl hlo
      go_wp2
      all_goals first
        | (exact absurd ((ruC_true (by assumption) (by omega) (by omega) (by assumption) (by omega) (by assumption) (by assumption) (by assumption) (And.right (by assumption:(1<=(sa.length:Int) /\ (sa.length:Int)<=32) /\ q=false))).symm.trans HC.out) (by decide))
        | (go_ret
           exact ⟨rfl,FIN.out.2.1,fun e=>by cases e⟩)
    | true=>
      simp only [Bool.and_eq_true] at hc
      obtain ⟨rfl,h1,h2,rfl,h3,rfl,rfl,rfl,hq⟩:=hc
      have h1:=Nat.le_of_ble_eq_true h1
      have h2:=Nat.le_of_ble_eq_true h2
      have h3:=Nat.eq_of_beq_eq_true h3
      obtain rfl:q=false:=by
        cases q
        · rfl
        · cases hq
      clear hq
      have HR8:Aside (RfAt lo W8 R (.slice va m vc) role x):=HR6.out.below hb8'
      have c18:=cell_b c16 hb8'
      have hadl8:ad.block < W8.heap.size:=show (⟨ad.block,ad.off+1,none⟩:Addr).block < _ from cell_lt c18
      have r78:=(rf_cells HR8.out.hR).1
      have f78:=(rf_cells HR8.out.hR).2.2.2 7
      have hRl:R < W8.heap.size:=(HR8.out.lt R (by rw [HR8.out.rR];intro e;cases e)).2
      have hm16:m<=16:=by rw [<-HM.out];exact HLN.out
      have hg:cond (Nat.ble 16 m) (some (x,(7:Int))) (some (({ x with us:=x.us++[(bytesL s1,(sa,di),n,(fl up,fl dn),[])] }:RfSt),(0:Int)))=some (x',e'):=by
        rw [<-HF.out]
        unfold ruserG
        rw [show ruserC x (bytesL s1) (sa,true) (di,true) (n,true) (up,true) (dn,true)=true from by
          unfold ruserC
          dsimp only
          rw [HQ.out,h3,Nat.ble_eq_true_of_le h1,Nat.ble_eq_true_of_le h2];rfl,HM.out]
        rfl
      have H0:Aside (_ /\ _):=⟨hb8,hb8'⟩
      clear HF hb1 hb2 hb3 hb4 hb5 hb6 hb8 hb8' c16 hadl
      by_cases h16:m=16
      · rw [h16] at hg
        have hx:some (x,(7:Int))=some (x',e'):=hg
        injection hx with hx
        obtain ⟨rfl,rfl⟩:=Prod.mk.inj hx
        clear hg hx
        go_wp2
        go_ret
        exact ⟨rfl,H0.out.1.mono HL.out.1,fun e=>by cases e⟩
      · have hx : some (({ x with us := x.us ++ [(bytesL s1, (sa, di), n, (fl up, fl dn), [])] } : RfSt), (0 : Int)) = some (x', e') := by
          rw [<-hg,show Nat.ble 16 m=false from Bool.eq_false_iff.2 fun h=>h16 (by have:=Nat.le_of_ble_eq_true h;omega)];rfl
        injection hx with hx
        obtain ⟨rfl,rfl⟩:=Prod.mk.inj hx
        clear hg hx
        obtain ⟨role1,HR1,hrs,hrd⟩:=rf_new HR8.out (fun b hb=>(HL.out.2.lt b hb).2) HL.out.1 HVS.out.1 (HVS.out.2.1 fun e=>by rw [e] at h1;exact absurd h1 (by decide)) ((((HVD.out.2.2.trans (HWN.out.2.mono HVD.out.2.2.size)).trans (HW5.out.mono (Nat.le_trans HVD.out.2.2.size HWN.out.2.size))).trans (HW6.out.mono (Nat.le_trans (Nat.le_trans HVD.out.2.2.size HWN.out.2.size) HW5.out.size))).trans (H0.out.2.mono (Nat.le_trans (Nat.le_trans (Nat.le_trans HVD.out.2.2.size HWN.out.2.size) HW5.out.size) HW6.out.size))) HVD.out.1 (HVD.out.2.1 fun e=>by rw [e] at h3;cases h3) (((HWN.out.2.trans (HW5.out.mono HWN.out.2.size)).trans (HW6.out.mono (Nat.le_trans HWN.out.2.size HW5.out.size))).trans (H0.out.2.mono (Nat.le_trans (Nat.le_trans HWN.out.2.size HW5.out.size) HW6.out.size)))
        rw [show Value.slice vda di.length vdc=Value.slice vda 32 vdc by rw [h3]] at hrd
        obtain ⟨xs,u1,u2,u3⟩:=HR1.hU
        rw [HM.out] at u1
        have HU:Aside (_ /\ _ /\ _ /\ _ /\ _ /\ _):=⟨u1,u2,u3,HR1,hrs,hrd⟩
        clear u1 u2 u3 HR1 hrs hrd
        obtain ⟨i0,hi,hz0,hz1,hz2⟩:=info_parts infoUs
        have HI:Aside (_ /\ _ /\ _ /\ _):=⟨hi,hz0,hz1,hz2⟩
        clear hi hz0 hz1 hz2
        go_wp2
        go_region_law (refine step_append_own_at rfl (.tmp 121) (.tmp 135) 49 rfl lo 63 i0 userZ 6 _ Tryz.underlying49 HI.out.1 HI.out.2.1 HI.out.2.2.1 HI.out.2.2.2 rfl (by decide) (.slice va m vc) m xs (by simp [Act.eval]) (owns_keep HU.out.1 fun b hb=>heap_alloc_old _ _ (HU.out.1.lt b hb).2) ⟨W8.heap.size,0,none⟩ 1 1 [.string s1,.slice vsa sa.length vsc,.slice vda 32 vdc,.int .i64 n,.complex .f64 (fl up) (fl dn),.slice none 0 0] (by simp [Act.eval]) rfl (cells_new _ _ _) (fun u hu=>List.all_eq_true.1 (show List.all [Value.string s1,.slice vsa sa.length vsc,.slice vda 32 vdc,.int .i64 n,.complex .f64 (fl up) (fl dn),.slice none 0 0] Value.oneCell'=true from rfl) u hu) (by unfold maxLen;omega) (by omega) (Nat.le_trans HL.out.1 (Nat.le_trans H0.out.1.size (by simp))) ?_;intro v' wz hown' hgrow hat';obtain ⟨va',vc',rfl⟩:=own_slice hown';obtain ⟨c7z,f7z⟩:=rf_keepR HU.out.2.2.2.1 HU.out.2.1 hgrow (fun b hb=>heap_alloc_old _ _ hb) (by simp))
        all_goals
          go_wp2
          go_ret
          obtain ⟨k1,k2,k3,k4,k5,k6⟩:=HU.out
          exact rf_user_end HM.out HL.out.1 H0.out.1 k4 k1 k2 k3 k5 k6 z1 HWN.out.1 hgrow hown' hat' (fun b hb=>heap_alloc_old _ _ hb) (by simp) ⟨rfl,rfl,rfl⟩ rfl ⟨rfl,rfl,rfl⟩
  have HTL:Aside _:=tail
  clear tail
  go_region_with (go_at_call 35;first
    | (refine (rfind_walk (w:=w6.drew) (HR6.out.keep (fun b _=>rfl) (Nat.le_refl _)).hU HLN.out s1).mono ?_;rintro e w7 ⟨d0,p1,l1,m1,p2,l2,m2,x3,x4,y4,p5,l5,m5,rfl,hb7'⟩;have hb7:Below w6.heap.size w6 w7:=⟨hb7'.os,hb7'.tape,hb7'.output,hb7'.size,hb7'.block⟩;clear hb7';have hqf:=HQ.out;rw [hqf])
    | (refine (rfind_walk (w:=(w6.alloc _).drew) (HR6.out.more _).hU HLN.out s1).mono ?_;rintro e w7 ⟨d0,p1,l1,m1,p2,l2,m2,x3,x4,y4,p5,l5,m5,rfl,hb7'⟩;have hb7:Below w6.heap.size w6 w7:=below_more (Below.refl _ _) (Nat.le_refl _) hb7';have hz7:=(hb7'.block w6.heap.size (by simp)).trans (heap_alloc_new w6 _);have HZ7:Aside _:=hz7;have hs7:w6.heap.size < w7.heap.size:=(Array.getElem?_eq_some_iff.1 hz7).1;obtain ⟨y0,y1,y2,y3,y4',y5,g0,g1,g2,g3,g4,g5⟩:=cells6 hz7;clear hb7' hz7;have hqf:=HQ.out;rw [hqf]))
  all_goals
    go_step
    try go_simp
  all_goals first
    | (generalize hW : World.setCell _ _ _ = W8
       obtain ⟨y1,y2,y3,y4⟩:=set6 HZ7.out hW
       have hbw:Below w6.heap.size w6 W8:=⟨y4.1.trans hb7.os,y4.2.1.trans hb7.tape,y4.2.2.trans hb7.output,by rw [y3];exact hb7.size,fun b hb'=>(y2 b (by omega)).trans (hb7.block b hb')⟩
       with_reducible exact HTL.out _ _ _ _ _ _ _ _ _ _ _ _ _ _ _ _ _ _ _ _ _ _ _ _ _ _ _ _ _ _ _ _ _ _ _ _ _ _ _ _ _ _ _ _ _ _ _ _ _ _ _ _ _ _ _ _ _ W8 hbw)
    | (generalize hW : World.alloc _ _ = W8
       have hbw:Below w6.heap.size w6 W8:=by
         rw [<-hW]
         exact hb7.alloc hb7.size _
       with_reducible exact HTL.out _ _ _ _ _ _ _ _ _ _ _ _ _ _ _ _ _ _ _ _ _ _ _ _ _ _ _ _ _ _ _ _ _ _ _ _ _ _ _ _ _ _ _ _ _ _ _ _ _ _ _ _ _ _ _ _ _ W8 hbw)
set_option maxHeartbeats 8000000 in
set_option maxRecDepth 1000000 in
theorem ruser_walk {lo:Nat} {w:World} {R:Nat} {v:Value} {role:Nat->Role} {x:RfSt} (h:RfAt lo w R v role x) (hlo:lo<=w.heap.size) (few:x.us.length<=16) {a:Option Addr} {n c:Nat} {ws:List ByteArray} (hn:ws.length=n) (hws:∀ i s,ws[i]? = some s -> ∃ ad,a=some ad /\ w.cell? (ad.add i)=some (.string s) /\ s.size<=maxLen) {x':RfSt} {e':Int} (hF:ruserP x (ws.map bytesL)=some (x',e')) :
    Calls Tryz.prog 57 #[.pointer (some ⟨R,0,none⟩),.slice a n c] w fun e w'=>RfPost lo R x' e' e w w':=by
  by_cases h7:n=7
  · subst h7
    match ws,hn,hws,hF with
    | [s0,s1,s2,s3,s4,s5,s6],_,hws,hF=>
    obtain ⟨ad,rfl,c0,z0⟩:=hws 0 s0 rfl
    obtain ⟨_,e1,c1,z1⟩:=hws 1 s1 rfl
    injection e1 with e1
    subst e1
    obtain ⟨_,e1,c2,z2⟩:=hws 2 s2 rfl
    injection e1 with e1
    subst e1
    obtain ⟨_,e1,c3,z3⟩:=hws 3 s3 rfl
    injection e1 with e1
    subst e1
    obtain ⟨_,e1,c4,z4⟩:=hws 4 s4 rfl
    injection e1 with e1
    subst e1
    obtain ⟨_,e1,c5,z5⟩:=hws 5 s5 rfl
    injection e1 with e1
    subst e1
    obtain ⟨_,e1,c6,z6⟩:=hws 6 s6 rfl
    injection e1 with e1
    subst e1
    rw [add_pos _ (by decide)] at c1 c2 c3 c4 c5 c6
    have hF:(F_wlvref18_name (bytesL s1)).bind (fun q=>cond q (
      (F_wlvref18_unhex (bytesL s2)).bind fun sa=>(F_wlvref18_unhex (bytesL s3)).bind fun di=>(F_wlvref_Num (bytesL s4) 1 1000).bind fun n=>(F_wlvref_Num (bytesL s5) 0 1125899906842624).bind fun up=>(F_wlvref_Num (bytesL s6) 0 1125899906842624).bind fun dn=>ruserG x (bytesL s1) sa di n up dn) (some (x,2)))=some (x',e'):=hF
    cases hq0:F_wlvref18_name (bytesL s1) with
    | none=>rw [hq0] at hF;cases hF
    | some q0=>
    rw [hq0,Option.bind_some] at hF
    cases q0 with
    | false=>
      injection hF with hF
      obtain ⟨rfl,rfl⟩:=Prod.mk.inj hF
      exact ruser_bad hlo c1 z1 hq0
    | true=>
      rw [cond_true] at hF
      obtain ⟨sa,h1,hF⟩:=Option.bind_eq_some_iff.1 hF
      obtain ⟨di,h2,hF⟩:=Option.bind_eq_some_iff.1 hF
      obtain ⟨n,h3,hF⟩:=Option.bind_eq_some_iff.1 hF
      obtain ⟨up,h4,hF⟩:=Option.bind_eq_some_iff.1 hF
      obtain ⟨dn,h5,hF⟩:=Option.bind_eq_some_iff.1 hF
      exact ruser_seven h hlo few c1 c2 c3 c4 c5 c6 z1 z2 z3 z4 z5 z6 ⟨hq0,h1,h2,h3,h4,h5⟩ hF
  · have hF : some (x, (2 : Int)) = some (x', e') := by
      rw [<-hF]
      match ws,hn with
      | [],_=>rfl
      | [_],_=>rfl
      | [_,_],_=>rfl
      | [_,_,_],_=>rfl
      | [_,_,_,_],_=>rfl
      | [_,_,_,_,_],_=>rfl
      | [_,_,_,_,_,_],_=>rfl
      | [_,_,_,_,_,_,_],hn=>exact absurd hn.symm h7
      | _::_::_::_::_::_::_::_::_,_=>rfl
    injection hF with hF
    obtain ⟨rfl,rfl⟩:=Prod.mk.inj hF
    clear hws hn
    go_enter Tryz.func57,Tryz.ntmps57
    go_wp2
    go_ret
    exact ⟨rfl,Below.refl _ _,fun e=>by cases e⟩
end Go.Proofs.YtgfmfgombmpodaaGreatDoor
namespace Go.Proofs.YtgfmfgombmpodaaGreatDoor
open Go.RowKit Pv
set_option linter.unusedVariables false
def lastN (us:List UserD) (s:List Int):Nat->Int
 | 0=>-1
 | k+1=>match us[k]? with
  | some u=>cond (u.1==s) (k:Int) (lastN us s k)
  | none=>lastN us s k
theorem lastN_in (us:List UserD) (s:List Int):∀ k,-1<=lastN us s k /\ lastN us s k < (k:Int)
 | 0=>⟨Int.le_refl _,by show (-1:Int) < 0;decide⟩
 | k+1=>by
  have ih:=lastN_in us s k
  unfold lastN
  cases us[k]? with
  | none=>exact ⟨ih.1,by show lastN us s k < _;omega⟩
  | some u=>
   show -1<=cond (u.1==s) (k:Int) (lastN us s k) /\ cond (u.1==s) (k:Int) (lastN us s k) < ((k+1:Nat):Int)
   cases u.1==s
   ·show -1<=lastN us s k /\ lastN us s k < _
    omega
   ·show -1<=(k:Int) /\ (k:Int) < _
    omega
abbrev PatR:=Int×List Int×List Int×Int
noncomputable def rpatG (b:List Int) (nt:List Int×Int×Int) (hn:List Int×Int):Option (Option PatR):=
 cond (b==[42]) (some (some (0,[],[],0))) (cond (Nat.ble 2 b.length&&(b.headD 0==46)) ((F_wlvref15_Name (b.drop 1)).bind fun sg=>cond (sg.2==0) (cond (Nat.ble (1+sg.1.length) maxLen) (some (some (2,46::sg.1,[],0))) none) (some none))
  (cond (nt.2.2==0) (some (some (3,[],nt.1,nt.2.1))) (cond (hn.2==0) (some (some (1,hn.1,[],0))) (some none))))
def rruleG (x:RfSt) (a:List Int) (allow:Bool) (pf pt:Int) (p:Option PatR):Option (RfSt×Int):=
 match p with
 | none=>some (x,2)
 | some p=>match x.us[(lastN x.us a x.us.length).toNat]? with
  | none=>none
  | some u=>cond (Nat.ble 64 u.2.2.2.2.length) (some (x,7)) (some ({ x with us:=x.us.set (lastN x.us a x.us.length).toNat (u.1,u.2.1,u.2.2.1,u.2.2.2.1,u.2.2.2.2++[(allow,p.1,p.2.1,(p.2.2.1,p.2.2.2),pf,pt)]) },0))
noncomputable def rruleP (x:RfSt):List (List Int)->Option (RfSt×Int)
 | [w,a,b,c]=>(F_wlvref18_ports c).bind fun sp=>cond (decide (lastN x.us a x.us.length < 0) || !sp.2.2) (some (x,2)) ((F_wlvref15_ParseNet b).bind fun nt=>(F_wlvref15_Name b).bind fun hn=>(rpatG b nt hn).bind fun p=>rruleG x a (w==lbA) sp.1 sp.2.1 p)
 | _=>some (x,2)
theorem rf_rule_end {lo:Nat} {w W0 wz w':World} {R U cap m i k:Nat} {role:Nat->Role} {x:RfSt} {u:UserD} {r:RuleD} {news rs xs:List Value} {nm:ByteArray} {vs vd vr':Value} {ra:Option Addr} {rc:Nat} (hm:x.us.length=m) (hlo:lo<=w.heap.size) (h:RfAt lo w R (.slice (some ⟨U,0,none⟩) m cap) role x)
    (hU:w.ownsRow lo 63 6 (.slice (some ⟨U,0,none⟩) x.us.length cap) x.us.length xs /\ (∀ i u,x.us[i]? = some u->UserAt lo w role i u ((xs.drop (i*6)).take 6)) /\ role U=.usr) (hu:x.us[i]? = some u) (hcs:(xs.drop (i*6)).take 6=[.string nm,vs,vd,.int .i64 u.2.2.1,.complex .f64 u.2.2.2.1.1 u.2.2.2.1.2,.slice ra u.2.2.2.2.length rc]) (hnm:bytesL nm=u.1) (hnmz:nm.size<=maxLen) (hwf:(Lit.int .i64 u.2.2.1).wf=true)
    (hvs:RowAt lo w role .flat 5 (.int .u8) u.2.1.1 vs) (hvd:RowAt lo w role .flat 5 (.int .u8) u.2.1.2 vd) (r1:w.ownsRow lo 68 ruleT.size (.slice ra u.2.2.2.2.length rc) u.2.2.2.2.length rs) (r2:∀ b,(Value.slice ra u.2.2.2.2.length rc).ownBlock=some b->role b=.row i) (r3:∀ (j:Nat) (y:ruleT.D),(show List ruleT.D from u.2.2.2.2)[j]? = some y->RepD w noC ruleT y ((rs.drop (j*ruleT.size)).take ruleT.size)) (hk:u.2.2.2.2.length=k)
    (hn7:news.length=7) (hnew:RepD w noC ruleT r news) (hg:W0.grownBy wz (Value.slice ra k rc).ownBlock) (hown:wz.ownsRow lo 68 7 vr' (k+1) (rs++news)) (hat:vr'.ownBlock=(Value.slice ra k rc).ownBlock \/ vr'.ownBlock=some W0.heap.size)
    (hW:∀ b,b < w.heap.size->W0.heap[b]? = w.heap[b]?) (hWs:w.heap.size<=W0.heap.size) (hWq:W0.os=w.os /\ W0.tape=w.tape /\ W0.output=w.output) (he:w'.heap=(wz.setCell ⟨U,i*6+5,none⟩ vr').heap) (hq:w'.os=wz.os /\ w'.tape=wz.tape /\ w'.output=wz.output) :
    RfPost lo R { x with us:=x.us.set i (u.1,u.2.1,u.2.2.1,u.2.2.2.1,u.2.2.2.2++[r]) } 0 (.returned (.int .i64 0)) w w':=by
  subst hm
  subst hk
  obtain ⟨u1,u3,u2⟩:=hU
  have hk:∀ b,role b≠.no->W0.heap[b]? = w.heap[b]?:=fun b hb=>hW b (h.lt b hb).2
  have hk0:∀ b,role b=.flat->role b=.flat /\ W0.heap[b]? = w.heap[b]?:=fun b hb=>⟨hb,hk b (by rw [hb];intro e;cases e)⟩
  have hUlt:=h.lt U (by rw [u2];intro e;cases e)
  have hvU:(Value.slice ra u.2.2.2.2.length rc).ownBlock≠some U:=fun e=>by
    have:=r2 U e
    rw [u2] at this
    cases this
  obtain ⟨role', hr⟩ := rf_put (h.keep hk hWs) hu hn7 (repD_flat rfl hnew) (owns_keep u1 fun b hb => hk b (by
      have e:U=b:=by injection hb
      rw [<-e,u2];intro e;cases e)) u2 (fun j y hy=>(u3 j y hy).keep fun b hb=>⟨rfl,hk b (by rcases hb with hb | hb <;> (rw [hb];intro e;cases e))⟩) hcs hnm hnmz hwf (hvs.keep rfl (by intro e;cases e) hk0) (hvd.keep rfl (by intro e;cases e) hk0)
    (owns_keep r1 fun b hb=>hk b (by rw [r2 b hb];intro e;cases e)) r2 (fun j y hy=>repD_flat rfl (r3 j y hy)) hg hown hat
  refine ⟨rfl,⟨hq.1.trans (hg.os.trans hWq.1),hq.2.1.trans (hg.tape.trans hWq.2.1),hq.2.2.trans (hg.output.trans hWq.2.2),?_,fun b hb=>?_⟩,fun _=>⟨_,role',hr.keep (fun b _=>by rw [he]) (by rw [he];exact Nat.le_refl _)⟩⟩
  · rw [he]
    have h2:=hg.size
    have h3:(wz.setCell ⟨U,i*6+5,none⟩ vr').heap.size=wz.heap.size:=by simp [World.setCell]
    omega
  · rw [he,setCell_heap,if_neg (by show b≠U;omega),hg.block b (by omega) fun e=>?_,hW b (by omega)]
    have:=(h.lt b (by rw [r2 b e.symm];intro e;cases e)).1
    omega
theorem below_two {w w1:World} {L o1 o2:Nat} {v1 v2:Value} (hb:Below w.heap.size w w1) (hL:w.heap.size<=L):Below w.heap.size w ((w1.setCell ⟨L,o1,none⟩ v1).setCell ⟨L,o2,none⟩ v2):=by
 refine ⟨hb.os,hb.tape,hb.output,?_,fun k hk=>?_⟩
 ·have:=hb.size
  simpa [World.setCell] using this
 ·rw [setCell_heap,if_neg (by show k≠L;omega),setCell_heap,if_neg (by show k≠L;omega)]
  exact hb.block k hk
theorem rf_stored {w5 ws:World} {L:Nat} {v0 v1 v2 v3 v4 v5 v6 f t:Value} {T:TypeId} (h:w5.heap[L]? = some (.cells #[v0,v1,v2,v3,v4,v5,v6] T (0,0))) (hws:(w5.setCell ⟨L,5,none⟩ f).setCell ⟨L,6,none⟩ t=ws) :
  ws.heap[L]? = some (.cells #[v0,v1,v2,v3,v4,f,t] T (0,0)) /\ ws.os=w5.os /\ ws.tape=w5.tape /\ ws.output=w5.output:=by
 subst hws
 refine ⟨?_,rfl,rfl,rfl⟩
 rw [set_heap (set_heap h)]
 rfl
theorem rf_net {w w3:World} {L:Nat} {v0 v1 v2 v3 v4 v5 v6 a b c:Value} {T:TypeId} (hb:Below w.heap.size w w3) (hL:w.heap.size<=L) (h:w3.heap[L]? = some (.cells #[v0,v1,v2,v3,v4,v5,v6] T (0,0))) :
  Below w.heap.size w (((w3.setCell ⟨L,1,none⟩ a).setCell ⟨L,3,none⟩ b).setCell ⟨L,4,none⟩ c).drew /\ (((w3.setCell ⟨L,1,none⟩ a).setCell ⟨L,3,none⟩ b).setCell ⟨L,4,none⟩ c).drew.heap[L]? = some (.cells #[v0,a,v2,b,c,v5,v6] T (0,0)):=by
 have hb2:=below_two (o1:=1) (v1:=a) (o2:=3) (v2:=b) hb hL
 refine ⟨⟨hb2.os,hb2.tape,hb2.output,?_,fun k hk=>?_⟩,?_⟩
 ·have:=hb2.size
  simpa [World.setCell,World.drew] using this
 ·show (((w3.setCell ⟨L,1,none⟩ a).setCell ⟨L,3,none⟩ b).setCell ⟨L,4,none⟩ c).heap[k]? = _
  rw [setCell_heap,if_neg (by show k≠L;omega)]
  exact hb2.block k hk
 ·show (((w3.setCell ⟨L,1,none⟩ a).setCell ⟨L,3,none⟩ b).setCell ⟨L,4,none⟩ c).heap[L]? = _
  rw [set_heap (set_heap (set_heap h))]
  rfl
theorem rf_host {w w3:World} {L:Nat} {v0 v1 v2 v3 v4 v5 v6 a b:Value} {T:TypeId} (hb:Below w.heap.size w w3) (hL:w.heap.size<=L) (h:w3.heap[L]? = some (.cells #[v0,v1,v2,v3,v4,v5,v6] T (0,0))) :
  Below w.heap.size w ((w3.setCell ⟨L,1,none⟩ a).setCell ⟨L,2,none⟩ b) /\ ((w3.setCell ⟨L,1,none⟩ a).setCell ⟨L,2,none⟩ b).heap[L]? = some (.cells #[v0,a,b,v3,v4,v5,v6] T (0,0)):=by
 refine ⟨below_two (o1:=1) (v1:=a) (o2:=2) (v2:=b) hb hL,?_⟩
 rw [set_heap (set_heap h)]
 rfl
set_option maxHeartbeats 16000000 in
set_option maxRecDepth 1000000 in
theorem rrule_four {lo:Nat} {w:World} {R:Nat} {v:Value} {role:Nat->Role} {x:RfSt} (h:RfAt lo w R v role x) (hlo:lo<=w.heap.size) (few:x.us.length<=16) {ad:Addr} {c:Nat} {s0 s1 s2 s3:ByteArray} (c0:w.cell? ad=some (.string s0)) (c1:w.cell? ⟨ad.block,ad.off+1,none⟩=some (.string s1)) (c2:w.cell? ⟨ad.block,ad.off+2,none⟩=some (.string s2)) (c3:w.cell? ⟨ad.block,ad.off+3,none⟩=some (.string s3))
    (z2:s2.size<=maxLen) (z3:s3.size<=maxLen) {pf pt:Int} {ok:Bool} (hsp:F_wlvref18_ports (bytesL s3)=some (pf,pt,ok)) {x':RfSt} {e':Int}
    (hF:cond (decide (lastN x.us (bytesL s1) x.us.length < 0) || !ok) (some (x,2)) ((F_wlvref15_ParseNet (bytesL s2)).bind fun nt=>(F_wlvref15_Name (bytesL s2)).bind fun hn=>(rpatG (bytesL s2) nt hn).bind fun p=>rruleG x (bytesL s1) (bytesL s0==lbA) pf pt p)=some (x',e')) :
    Calls Tryz.prog 58 #[.pointer (some ⟨R,0,none⟩),.slice (some ad) 4 c] w fun e w'=>RfPost lo R x' e' e w w':=by
  obtain ⟨xs,t1,t2,t3⟩:=h.hU
  obtain ⟨m,hm⟩:∃ m,x.us.length=m:=⟨_,rfl⟩
  obtain ⟨va,vc,rfl⟩:∃ va vc,v=.slice va m vc:=by
    rw [hm] at t1
    rcases t1.2 with ⟨rfl,hn0⟩ | ⟨g,cap,cur,rfl,_⟩
    · exact ⟨none,0,by rw [hn0]⟩
    · exact ⟨_,_,rfl⟩
  have hcells:∀ i u,x.us[i]? = some u -> ∃ (U:Nat) (d0:ByteArray),va=some ⟨U,0,none⟩ /\ U < w.heap.size /\ bytesL d0=u.1 /\ w.cell? ⟨U,i*6,none⟩=some (.string d0):=fun i u hu=>by
    obtain ⟨nm',vs,vd,vr,q1,q2,_⟩:=t3 i u hu
    rcases t1.2 with ⟨e,hn⟩ | ⟨g,cap',cur,e,_,hg,_⟩
    · have:=(List.getElem?_eq_some_iff.1 hu).1
      omega
    · injection e with e1 e2 e3
      subst e1
      have u1':=t1
      rw [<-hm] at u1'
      obtain ⟨k0,_⟩:=user_cells u1' q1
      exact ⟨g,nm',rfl,(Array.getElem?_eq_some_iff.1 hg).1,q2,k0⟩
  have HC:Aside (∀ i u,x.us[i]? = some u -> ∃ (U:Nat) (d0:ByteArray),va=some ⟨U,0,none⟩ /\ U < w.heap.size /\ bytesL d0=u.1 /\ w.cell? ⟨U,i*6,none⟩=some (.string d0)):=hcells
  have hal:(s0.toList==[97,108,108,111,119])=(bytesL s0==lbA):=ln_lit s0 [97,108,108,111,119]
  obtain ⟨al,hal2⟩:∃ al,(bytesL s0==lbA)=al:=⟨_,rfl⟩
  rw [hal2] at hal hF
  have HL:Aside (lo<=w.heap.size /\ RfAt lo w R (.slice va m vc) role x /\ x.us.length=m /\ x.us.length<=16):=⟨hlo,h,hm,few⟩
  have hm16:m<=16:=by rw [<-hm];exact few
  have HF:Aside _:=hF
  have HSP:Aside (F_wlvref18_ports (bytesL s3)=some (pf,pt,ok)):=hsp
  clear hF hsp hlo h few hal2 hcells t1 t2 t3 xs
  go_enter Tryz.func58,Tryz.ntmps58
  go_wp2
  go_loopw [5,6] (fun vt vi wr=>∃ k:Nat,k<=m /\ vi=.int .i64 k /\ vt=.int .i64 (lastN x.us (bytesL s1) k) /\ Below w.heap.size w wr) (fun _ vi _=>m - (intOf vi).toNat)
  case atStart=>exact ⟨0,by omega,rfl,rfl,Below.refl _ _⟩
  case round=>
    obtain ⟨k,hk,rfl,rfl,hb⟩:=hrel
    have HRr:Aside (RfAt lo wr R (.slice va m vc) role x):=HL.out.2.1.below hb
    have r7:=(rf_cells HRr.out.hR).1
    have c0r:=cell_b c0 hb
    have c1r:=cell_b c1 hb
    have c2r:=cell_b c2 hb
    have c3r:=cell_b c3 hb
    have hadl:ad.block < wr.heap.size:=cell_lt c0r
    by_cases hlt:k < m
    · obtain ⟨u,hu⟩:∃ u,x.us[k]? = some u:=⟨_,List.getElem?_eq_getElem (by rw [HL.out.2.2.1];exact hlt)⟩
      obtain ⟨U,d0,rfl,hUl,hnm,k0⟩:=HC.out k u hu
      rw [<-hb.cell hUl] at k0
      have hq0:=bytes_eq d0 s1
      rw [hnm] at hq0
      have HU:Aside (x.us[k]? = some u):=hu
      have hlk:lastN x.us (bytesL s1) (k+1)=cond (u.1==bytesL s1) (k:Int) (lastN x.us (bytesL s1) k):=by
        show (match x.us[k]? with | some u=>cond (u.1==bytesL s1) (k:Int) (lastN x.us (bytesL s1) k) | none=>lastN x.us (bytesL s1) k)=_
        rw [hu]
      have HLK:Aside _:=hlk
      clear hu hnm hlk
      cases hq:u.1==bytesL s1 with
      | true=>
        rw [hq] at hq0
        have HQ:Aside ((u.1==bytesL s1)=true):=hq
        clear hq
        go_wp2
        go_region
        all_goals
          go_wp2
          refine ⟨⟨k+1,by omega,by simp,by rw [HLK.out,HQ.out];rfl,Below.drew hb⟩,by simp [intOf];omega⟩
      | false=>
        rw [hq] at hq0
        have HQ:Aside ((u.1==bytesL s1)=false):=hq
        clear hq
        go_wp2
        go_region
        all_goals
          go_wp2
          refine ⟨⟨k+1,by omega,by simp,by rw [HLK.out,HQ.out];rfl,Below.drew hb⟩,by simp [intOf];omega⟩
    · obtain rfl:k=m:=by omega
      obtain ⟨A,hA⟩:∃ A,lastN x.us (bytesL s1) k=A:=⟨_,rfl⟩
      have hAi:=lastN_in x.us (bytesL s1) k
      rw [hA] at hAi ⊢
      obtain ⟨hA1,hA2⟩:=hAi
      have HA:Aside (lastN x.us (bytesL s1) x.us.length=A):=by
        show lastN x.us (bytesL s1) x.us.length=A
        rw [HL.out.2.2.1];exact hA
      clear hA hlt
      have hRl:R < wr.heap.size:=(HRr.out.lt R (by rw [HRr.out.rR];intro e;cases e)).2
      have hF:=HF.out
      rw [HA.out] at hF
      have HB:Aside (Below w.heap.size w wr):=hb
      by_cases hneg:A < 0
      · rw [decide_eq_true hneg] at hF
        have hx:some (x,(2:Int))=some (x',e'):=hF
        injection hx with hx
        obtain ⟨rfl,rfl⟩:=Prod.mk.inj hx
        clear hF HF hx
        go_wp2_with (go_at_call 101;refine (rports_calls z3 HSP.out).mono ?_;rintro e w1 ⟨rfl,q1,q2,hb1'⟩;have hz1:=(hb1'.block wr.heap.size (by simp)).trans (heap_alloc_new wr _);have hb1:Below w.heap.size w w1:=(HB.out.alloc HB.out.size _).trans (hb1'.mono (by simp;exact Nat.le_succ_of_le HB.out.size));have hs1:wr.heap.size < w1.heap.size:=(Array.getElem?_eq_some_iff.1 hz1).1;obtain ⟨l0,l1,l2,l3,l4,l5,l6,lz⟩:=cells7 hz1;clear hb1' hz1)
        go_ret
        exact ⟨rfl,(below_two hb1 HB.out.size).mono HL.out.1,fun e=>by cases e⟩
      · rw [decide_eq_false hneg] at hF
        cases ok with
        | false=>
          have hx:some (x,(2:Int))=some (x',e'):=hF
          injection hx with hx
          obtain ⟨rfl,rfl⟩:=Prod.mk.inj hx
          clear hF HF hx
          go_wp2_with (go_at_call 101;refine (rports_calls z3 HSP.out).mono ?_;rintro e w1 ⟨rfl,q1,q2,hb1'⟩;have hz1:=(hb1'.block wr.heap.size (by simp)).trans (heap_alloc_new wr _);have hb1:Below w.heap.size w w1:=(HB.out.alloc HB.out.size _).trans (hb1'.mono (by simp;exact Nat.le_succ_of_le HB.out.size));have hs1:wr.heap.size < w1.heap.size:=(Array.getElem?_eq_some_iff.1 hz1).1;obtain ⟨l0,l1,l2,l3,l4,l5,l6,lz⟩:=cells7 hz1;clear hb1' hz1)
          go_ret
          exact ⟨rfl,(below_two hb1 HB.out.size).mono HL.out.1,fun e=>by cases e⟩
        | true=>
        have hF:((F_wlvref15_ParseNet (bytesL s2)).bind fun nt=>(F_wlvref15_Name (bytesL s2)).bind fun hn=>(rpatG (bytesL s2) nt hn).bind fun p=>rruleG x (bytesL s1) al pf pt p)=some (x',e'):=hF
        clear HF
        obtain ⟨⟨nip,nb,ne⟩,hnt,hF1⟩:=Option.bind_eq_some_iff.1 hF
        clear hF
        obtain ⟨⟨hnl,hne⟩,hhn,hF2⟩:=Option.bind_eq_some_iff.1 hF1
        clear hF1
        obtain ⟨p,hpp,hF3⟩:=Option.bind_eq_some_iff.1 hF2
        clear hF2
        have HG:Aside (_ /\ _ /\ _ /\ _):=⟨hnt,hhn,hpp,hF3⟩
        clear hF3 hnt hhn hpp
        go_wp2_with (go_at_call 101;refine (rports_calls z3 HSP.out).mono ?_;rintro e w1 ⟨rfl,q1,q2,hb1'⟩;have hz1:=(hb1'.block wr.heap.size (by simp)).trans (heap_alloc_new wr _);have hb1:Below w.heap.size w w1:=(HB.out.alloc HB.out.size _).trans (hb1'.mono (by simp;exact Nat.le_succ_of_le HB.out.size));have hs1:wr.heap.size < w1.heap.size:=(Array.getElem?_eq_some_iff.1 hz1).1;obtain ⟨l0,l1,l2,l3,l4,l5,l6,lz⟩:=cells7 hz1;have c21:=cell_b c2 hb1;have HZ1:Aside _:=hz1;have HQ1:Aside (_ /\ _):=⟨q1,q2⟩;clear hb1' hz1 q1 q2)
        go_at_call 102
        generalize hws:World.setCell _ _ _=ws
        obtain ⟨g1,g2,g3,g4⟩:=rf_stored HZ1.out hws
        have hbs:Below w.heap.size w ws:=by { rw [<-hws];exact below_two hb1 HB.out.size }
        clear l0 l1 l2 l3 l4 l5 l6 lz hws
        refine (rnet_calls z2 HG.out.1).mono ?_
        rintro e w2 ⟨ts,rfl,n1,n2,n3,hb2'⟩
        have hb2:Below w.heap.size w w2:=hbs.trans (hb2'.mono hbs.size)
        have hz2:=(hb2'.block wr.heap.size (Array.getElem?_eq_some_iff.1 g1).1).trans g1
        have hs2:wr.heap.size < w2.heap.size:=(Array.getElem?_eq_some_iff.1 hz2).1
        have HZ2:Aside _:=hz2
        have c22:=cell_b c2 hb2
        have hadl2:ad.block < w2.heap.size:=cell_lt (a:=⟨ad.block,ad.off+2,none⟩) c22
        have HN:Aside (_ /\ _ /\ _):=⟨n1,n2,n3⟩
        clear hb2' hz2 g1 g2 g3 g4 n1 n2 n3
        go_wp2_with (go_at_call 101;skip)
        go_at_call 103
        refine (rhost_calls z2 HG.out.2.1).mono ?_
        rintro e w3 ⟨th,rfl,m1,m2,hb3'⟩
        go_simp
        iterate 20 go_step
        rename_i K8 hK8
        have tail:∀ (u6 u8 u9 u10 u11 u12 u13 u14 u15 u16 u17 u18 u19 u20 u21 u22 u23 u24 u25 u26 u27 u28 u29 u30 u31 u32 u33 u34 u35 u36 u37 u38 u39 u40 u41 u42 u43 u44 u45 u46 u47 u48 u49 u50 u51 u52 u53 u54 u55 u56 u57 u58 u59 u60 u61 u62 u63 u64 u65 u66 u67 u68 u69 u70 u71 u72 u73 u74 u75 u76 u77 u78 u79 u80 u81 u82 u83 u84 u85 u86 u87 u88 u89 u90 u91 u92 u93 u94 u95 u96 u97 u98 u99 u100 u101 u102 u103 u104 u105 u106 u107 u108 u109 u110 u111 u112 u113 u114 u115 u116 u117 u118 u119 u120:Value) (kd nb8:Int) (hs ns:ByteArray) (W8:World),hs.size<=maxLen->ns.size<=maxLen->(Lit.int .i64 kd).wf=true->(Lit.int .i64 nb8).wf=true->Below w.heap.size w W8->W8.heap[wr.heap.size]? = some (.cells #[.bool al,.int .i64 kd,.string hs,.string ns,.int .i64 nb8,.int .i64 pf,.int .i64 pt] 68 (0,0))->rruleG x (bytesL s1) al pf pt (some (kd,bytesL hs,bytesL ns,nb8))=some (x',e')->K8 ⟨#[Value.pointer (some ⟨R,0,none⟩),Value.slice (some ad) 4 c,undef,undef,Value.int IntKind.i64 0,Value.int IntKind.i64 A,u6,Value.pointer (some ⟨wr.heap.size,0,none⟩),u8,u9,u10,u11,u12,u13,u14,u15,u16,u17,u18,u19,u20,u21,u22,u23,u24,u25,u26,u27,u28,u29,u30,u31,u32,u33,u34,u35,u36,u37,u38,u39,u40,u41,u42,u43,u44,u45,u46,u47,u48,u49,u50,u51,u52,u53,u54,u55,u56,u57,u58,u59,u60,u61,u62,u63,u64,u65,u66,u67,u68,u69,u70,u71,u72,u73,u74,u75,u76,u77,u78,u79,u80,u81,u82,u83,u84,u85,u86,u87,u88,u89,u90,u91,u92,u93,u94,u95,u96,u97,u98,u99,u100,u101,u102,u103,u104,u105,u106,u107,u108,u109,u110,u111,u112,u113,u114,u115,u116,u117,u118,u119,u120,undef,undef,undef,undef,undef,undef,undef,undef,undef,undef,undef,undef,undef,undef,undef,undef,undef,undef,undef,undef,undef,undef,undef,undef,undef,undef,undef,undef,undef,undef,undef],[]⟩ W8:=by
          intro u6 u8 u9 u10 u11 u12 u13 u14 u15 u16 u17 u18 u19 u20 u21 u22 u23 u24 u25 u26 u27 u28 u29 u30 u31 u32 u33 u34 u35 u36 u37 u38 u39 u40 u41 u42 u43 u44 u45 u46 u47 u48 u49 u50 u51 u52 u53 u54 u55 u56 u57 u58 u59 u60 u61 u62 u63 u64 u65 u66 u67 u68 u69 u70 u71 u72 u73 u74 u75 u76 u77 u78 u79 u80 u81 u82 u83 u84 u85 u86 u87 u88 u89 u90 u91 u92 u93 u94 u95 u96 u97 u98 u99 u100 u101 u102 u103 u104 u105 u106 u107 u108 u109 u110 u111 u112 u113 u114 u115 u116 u117 u118 u119 u120 kd nb8 hs ns W8 z4 z5 wk wn hb8 hL8 hg
          refine hK8 _ _ ?_
          clear hK8 hb3' c22 hadl2 c0r c1r c2r c3r hadl r7 c0 c1 c2 c3
          obtain ⟨i,rfl⟩:∃ i:Nat,A=(i:Int):=⟨A.toNat,by omega⟩
          have hik:i < k:=by omega
          obtain ⟨u,hu⟩:∃ u,x.us[i]? = some u:=⟨_,List.getElem?_eq_getElem (by rw [HL.out.2.2.1];exact hik)⟩
          obtain ⟨xs,t1,t2,t3⟩:=HL.out.2.1.hU
          obtain ⟨U,rfl⟩:∃ U,va=some ⟨U,0,none⟩:=by
            obtain ⟨U,_,h1,_⟩:=HC.out i u hu
            exact ⟨U,h1⟩
          have t1':w.ownsRow lo 63 6 (.slice (some ⟨U,0,none⟩) x.us.length vc) x.us.length xs:=by
            rw [HL.out.2.2.1]
            rw [HL.out.2.2.1] at t1
            exact t1
          have HU:Aside (w.ownsRow lo 63 6 (.slice (some ⟨U,0,none⟩) x.us.length vc) x.us.length xs /\ (∀ i u,x.us[i]? = some u->UserAt lo w role i u ((xs.drop (i*6)).take 6)) /\ role U=.usr):=⟨t1',t3,t2 U rfl⟩
          obtain ⟨nm,vs,vd,vr,y1,y2,y3,y4,y5,y6,rs,r1,r2,r3⟩:=t3 i u hu
          obtain ⟨ra,rc,rfl⟩:∃ ra rc,vr=.slice ra u.2.2.2.2.length rc:=by
            rcases r1.2 with ⟨rfl,hn0⟩ | ⟨g,cap',cur,rfl,_⟩
            · exact ⟨none,0,by rw [show u.2.2.2.2.length=0 from hn0]⟩
            · exact ⟨_,_,rfl⟩
          have cU:=(user_cells HU.out.1 y1).2.2.2.2.2
          obtain ⟨j,hj⟩:∃ j,u.2.2.2.2.length=j:=⟨_,rfl⟩
          have HRW:Aside (w.ownsRow lo 68 7 (.slice ra j rc) j rs /\ ∀ b,(Value.slice ra j rc).ownBlock=some b->role b=.row i):=by
            rw [<-hj]
            exact ⟨r1,r2⟩
          have HY:Aside (_ /\ _ /\ _ /\ _ /\ _ /\ _ /\ _ /\ _ /\ _ /\ _):=⟨hu,y1,y2,y3,y4,y5,y6,r1,r2,r3⟩
          rw [hj] at cU
          have HKK:Aside (u.2.2.2.2.length=j):=hj
          have hg:cond (Nat.ble 64 j) (some (x,(7:Int))) (some (({ x with us:=x.us.set i (u.1,u.2.1,u.2.2.1,u.2.2.2.1,u.2.2.2.2++[(al,kd,bytesL hs,(bytesL ns,nb8),pf,pt)]) }:RfSt),(0:Int)))=some (x',e'):=by
            rw [<-hg]
            unfold rruleG
            dsimp only
            rw [HA.out,Int.toNat_natCast,hu]
            dsimp only
            rw [hj]
          have HR8:Aside (RfAt lo W8 R (.slice (some ⟨U,0,none⟩) k vc) role x):=HL.out.2.1.below hb8
          have r78:=(rf_cells HR8.out.hR).1
          have cU8:=cell_b cU hb8
          have hRl8:R < W8.heap.size:=(HR8.out.lt R (by rw [HR8.out.rR];intro e;cases e)).2
          have HB8:Aside _:=hb8
          have HL8:Aside _:=hL8
          have HZZ:Aside (_ /\ _ /\ _ /\ _):=⟨z4,z5,wk,wn⟩
          clear hu y1 y2 y3 y4 y5 y6 r1 r2 r3 t1 t2 t3 t1' hj hb8 hL8 z4 z5 wk wn HC cU hneg
          by_cases h64:64<=j
          · rw [Nat.ble_eq_true_of_le h64] at hg
            have hx:some (x,(7:Int))=some (x',e'):=hg
            injection hx with hx
            obtain ⟨rfl,rfl⟩:=Prod.mk.inj hx
            clear hg hx
            go_wp2
            go_ret
            exact ⟨rfl,HB8.out.mono HL.out.1,fun e=>by cases e⟩
          · rw [show Nat.ble 64 j=false from Bool.eq_false_iff.2 fun h=>h64 (Nat.le_of_ble_eq_true h)] at hg
            have hx:some (({ x with us:=x.us.set i (u.1,u.2.1,u.2.2.1,u.2.2.2.1,u.2.2.2.2++[(al,kd,bytesL hs,(bytesL ns,nb8),pf,pt)]) }:RfSt),(0:Int))=some (x',e'):=hg
            injection hx with hx
            obtain ⟨rfl,rfl⟩:=Prod.mk.inj hx
            clear hg hx
            obtain ⟨i0,hi0,hz0,hz1,hz2⟩:=info_parts infoR
            have HI:Aside (_ /\ _ /\ _ /\ _):=⟨hi0,hz0,hz1,hz2⟩
            clear hi0 hz0 hz1 hz2
            obtain ⟨l0,l1,l2,l3,l4,l5,l6,lz⟩:=cells7 HL8.out
            have hUw:U < w.heap.size:=(HL.out.2.1.lt U (by rw [HU.out.2.2];intro e;cases e)).2
            have hws:w.heap.size<=W8.heap.size:=HB8.out.size
            have fU8:W8.frozen? ⟨U,i*6+5,none⟩=false:=(World.frozen?_of_block (HB8.out.block U hUw)).trans (HU.out.1.frozenAt _)
            have hUs:U < W8.heap.size:=by omega
            have hLs:wr.heap.size < W8.heap.size:=(Array.getElem?_eq_some_iff.1 HL8.out).1
            have HVU:Aside (some U≠(Value.slice ra j rc).ownBlock):=fun e=>by
              have h1:=HRW.out.2 U e.symm
              rw [HU.out.2.2] at h1
              cases h1
            have HVR:Aside (some R≠(Value.slice ra j rc).ownBlock):=fun e=>by
              have h1:=HRW.out.2 R e.symm
              rw [HL.out.2.1.rR] at h1
              cases h1
            have HO:Aside (W8.ownsRow lo 68 7 (.slice ra j rc) j rs):=by
              exact owns_keep HRW.out.1 fun b hb=>HB8.out.block b (HL.out.2.1.lt b (by rw [HRW.out.2 b hb];intro e;cases e)).2
            clear lz
            go_wp2
            go_region_law ((refine step_append_own_at rfl (.tmp 146) (.tmp 148) 61 rfl lo 68 i0 ruleZ 7 72 Tryz.underlying61 HI.out.1 HI.out.2.1 HI.out.2.2.1 HI.out.2.2.2 rfl (by decide) (.slice ra j rc) j rs (by simp [Act.eval]) (owns_keep HO.out fun b hb=>heap_alloc_old _ _ (HO.out.lt b hb).2) ⟨W8.heap.size,0,none⟩ 1 1 [.bool al,.int .i64 kd,.string hs,.string ns,.int .i64 nb8,.int .i64 pf,.int .i64 pt] (by simp [Act.eval]) rfl (cells_new _ _ _) (fun u hu=>List.all_eq_true.1 (show List.all [Value.bool al,.int .i64 kd,.string hs,.string ns,.int .i64 nb8,.int .i64 pf,.int .i64 pt] Value.oneCell'=true from rfl) u hu) (by unfold maxLen;omega) (by omega) (Nat.le_trans HL.out.1 (Nat.le_trans hws (by simp))) ?_;intro v' wz hown' hgrow hat';obtain ⟨va',vc',rfl⟩:=own_slice hown';have hUz:wz.heap[U]? = W8.heap[U]?:=(hgrow.block U (by simp;omega) HVU.out).trans (heap_alloc_old _ _ hUs);have cUz:wz.cell? ⟨U,i*6+5,none⟩=some (.slice ra j rc):=(World.cell?_of_block hUz).trans cU8;have fUz:wz.frozen? ⟨U,i*6+5,none⟩=false:=(World.frozen?_of_block hUz).trans fU8;have cRz:wz.cell? ⟨R,7,none⟩=some (.slice (some ⟨U,0,none⟩) k vc):=(World.cell?_of_block ((hgrow.block R (by simp;omega) HVR.out).trans (heap_alloc_old _ _ hRl8))).trans r78))
            all_goals
              go_wp2
              go_ret
              obtain ⟨y0,y1,y2,y3,y4,y5,y6,r1,r2,r3⟩:=HY.out
              exact rf_rule_end HL.out.2.2.1 HL.out.1 HL.out.2.1 HU.out y0 y1 y2 y3 y4 y5 y6 r1 r2 r3 HKK.out rfl (rule_rep HZZ.out.1 HZZ.out.2.1 HZZ.out.2.2.1 HZZ.out.2.2.2 HQ1.out.1 HQ1.out.2) hgrow hown' hat' (fun b hb=>(heap_alloc_old _ _ (Nat.lt_of_lt_of_le hb hws)).trans (HB8.out.block b hb)) (Nat.le_trans hws (by simp)) ⟨HB8.out.os,HB8.out.tape,HB8.out.output⟩ rfl ⟨rfl,rfl,rfl⟩
        have HTL:Aside _:=tail
        clear tail
        have hb3:Below w.heap.size w w3:=(hb2.alloc hb2.size _).trans (hb3'.mono (by simp;exact Nat.le_succ_of_le hb2.size))
        have hz3:=(hb3'.block wr.heap.size (by simp;omega)).trans ((heap_alloc_old w2 _ hs2).trans HZ2.out)
        have hy3:=(hb3'.block w2.heap.size (by simp)).trans (heap_alloc_new w2 _)
        have hs3:wr.heap.size < w3.heap.size:=(Array.getElem?_eq_some_iff.1 hz3).1
        have ht3:w2.heap.size < w3.heap.size:=(Array.getElem?_eq_some_iff.1 hy3).1
        obtain ⟨l0,l1,l2,l3,l4,l5,l6,lz⟩:=cells7 hz3
        have c23:=cell_b c2 hb3
        have HZ3:Aside _:=hz3
        have HY3:Aside _:=hy3
        have HB3:Aside _:=hb3
        clear hz3 hy3 hb3 hb3' c22 hadl2 c0r c1r c2r c3r r7 hK8
        have hp:=HG.out.2.2.1
        unfold rpatG at hp
        have hstar:(s2.toList==[42])=(bytesL s2==[42]):=ln_lit s2 [42]
        cases hst:bytesL s2==[42] with
        | true=>
          rw [hst] at hp hstar
          injection hp with hp
          subst hp
          clear hst
          have hrr:rruleG x (bytesL s1) al pf pt (some (0,bytesL ⟨#[]⟩,bytesL ⟨#[]⟩,0))=some (x',e'):=HG.out.2.2.2
          go_wp2
          with_reducible exact HTL.out _ _ _ _ _ _ _ _ _ _ _ _ _ _ _ _ _ _ _ _ _ _ _ _ _ _ _ _ _ _ _ _ _ _ _ _ _ _ _ _ _ _ _ _ _ _ _ _ _ _ _ _ _ _ _ _ _ _ _ _ _ _ _ _ _ _ _ _ _ _ _ _ _ _ _ _ _ _ _ _ _ _ _ _ _ _ _ _ _ _ _ _ _ _ _ _ _ _ _ _ _ _ _ _ _ _ _ _ _ _ _ _ _ _ 0 0 ⟨#[]⟩ ⟨#[]⟩ w3 (by decide) (by decide) (by decide) (by decide) HB3.out HZ3.out hrr
        | false=>
        rw [hst,cond_false] at hp
        rw [hst] at hstar
        clear hst
        have hne0:∀ h0:0 < s2.size,(bytesL s2).headD 0=(((s2[0]'h0).toNat:Nat):Int):=fun h0=>by
          have h2:s2.data.toList[0]? = some (s2[0]'h0):=Lib.data_getElem? s2 0 h0
          show (s2.data.toList.map byteI).headD 0=_
          cases hq:s2.data.toList with
          | nil=>rw [hq] at h2;cases h2
          | cons y r=>
            rw [hq] at h2
            injection h2 with h2
            rw [<-h2]
            rfl
        obtain ⟨k0,k1⟩:w3.cell? ⟨w2.heap.size,0,none⟩=some (.string ts) /\ w3.cell? ⟨w2.heap.size,1,none⟩=some (.int .i64 nb):=by
          refine ⟨?_,?_⟩ <;> (rw [cell_at HY3.out];rfl)
        by_cases h1:1 < s2.size
        · have h0:0 < s2.size:=by omega
          by_cases hd:(((s2[0]'h0).toNat:Nat):Int)=46
          · have hb1 : (Nat.ble 2 (bytesL s2).length && ((bytesL s2).headD 0 == 46)) = true := by
              rw [bytes_len,Nat.ble_eq_true_of_le h1,hne0 h0,hd];rfl
            rw [hb1,cond_true] at hp
            obtain ⟨⟨sl,se⟩,hsg,hp1⟩:=Option.bind_eq_some_iff.1 hp
            have hsx:F_wlvref15_Name (bytesL (s2.extract 1 s2.size))=some (sl,se):=by
              rw [bytes_extract,List.take_of_length_le (by rw [bytes_len];omega)]
              exact hsg
            have zx:(s2.extract 1 s2.size).size<=maxLen:=by rw [ByteArray.size_extract];omega
            clear hp hsg hne0 hb1
            cases hs0:se==0 with
            | true=>
              rw [hs0,cond_true] at hp1
              have hsl:Nat.ble (1+sl.length) maxLen=true:=by
                cases hq:Nat.ble (1+sl.length) maxLen with
                | true=>rfl
                | false=>rw [hq] at hp1;cases hp1
              rw [hsl,cond_true] at hp1
              injection hp1 with hp1
              subst hp1
              obtain rfl:se=0:=by simpa using hs0
              have HP1:Aside (rruleG x (bytesL s1) al pf pt (some (2,46::sl,[],0))=some (x',e')):=HG.out.2.2.2
              have HSL:Aside (Nat.ble (1+sl.length) maxLen=true):=hsl
              clear hs0 hsl
              have htt:(⟨#[46]⟩:ByteArray).size=1:=rfl
              go_wp2_with (go_at_call 103;refine (rhost_calls zx hsx).mono ?_;rintro e w4 ⟨tg,rfl,o1,o2,hb4'⟩;have hz4:=(hb4'.block wr.heap.size hs3).trans HZ3.out;obtain ⟨m0,m1,m2,m3,m4,m5,m6,mz⟩:=cells7 hz4;have hts:1+tg.size<=maxLen:=(by rw [<-bytes_len,o1];exact Nat.le_of_ble_eq_true HSL.out);have HZ4:Aside _:=hz4;have HB4:Aside (Below w.heap.size w w4):=HB3.out.trans (hb4'.mono HB3.out.size);clear hz4 hb4')
              all_goals first
                | (exfalso;have h9:=hts;unfold maxLen at h9;omega)
                | (obtain ⟨b1, b2⟩ := rf_host (a := .int .i64 2) (b := .string (⟨#[46]⟩ ++ tg)) HB4.out HB.out.size HZ4.out
                   exact HTL.out _ _ _ _ _ _ _ _ _ _ _ _ _ _ _ _ _ _ _ _ _ _ _ _ _ _ _ _ _ _ _ _ _ _ _ _ _ _ _ _ _ _ _ _ _ _ _ _ _ _ _ _ _ _ _ _ _ _ _ _ _ _ _ _ _ _ _ _ _ _ _ _ _ _ _ _ _ _ _ _ _ _ _ _ _ _ _ _ _ _ _ _ _ _ _ _ _ _ _ _ _ _ _ _ _ _ _ _ _ _ _ _ _ _ 2 0 (⟨#[46]⟩++tg) ⟨#[]⟩ _ (by rw [ByteArray.size_append];exact hts) (by decide) (by decide) (by decide) b1 b2 (by rw [bytes_append,o1];exact HP1.out))
            | false=>
              rw [hs0,cond_false] at hp1
              injection hp1 with hp1
              subst hp1
              have HX:Aside (some (x,(2:Int))=some (x',e')):=HG.out.2.2.2
              go_wp2_with (go_at_call 103;refine (rhost_calls zx hsx).mono ?_;rintro e w4 ⟨tg,rfl,o1,o2,hb4'⟩)
              obtain ⟨rfl,rfl⟩:=Prod.mk.inj (Option.some.inj HX.out)
              go_ret
              exact ⟨rfl,(HB3.out.trans (hb4'.mono HB3.out.size)).mono HL.out.1,fun e=>by cases e⟩
          · rw [show (Nat.ble 2 (bytesL s2).length && ((bytesL s2).headD 0 == 46)) = false from by
              rw [hne0 h0,Bool.and_eq_false_iff]
              exact .inr (by simpa using hd),cond_false] at hp
            cases hn0:ne==0 with
            | true=>
              rw [hn0,cond_true] at hp
              injection hp with hp
              subst hp
              obtain rfl:ne=0:=by simpa using hn0
              have hrr:rruleG x (bytesL s1) al pf pt (some (3,bytesL ⟨#[]⟩,bytesL ts,nb))=some (x',e'):=by
                rw [HN.out.1]
                exact HG.out.2.2.2
              clear hn0 hne0
              go_wp2
              go_region
              all_goals
                go_step
                try go_simp
                obtain ⟨b1,b2⟩:=rf_net (a:=.int .i64 3) (b:=.string ts) (c:=.int .i64 nb) HB3.out HB.out.size HZ3.out
                exact HTL.out _ _ _ _ _ _ _ _ _ _ _ _ _ _ _ _ _ _ _ _ _ _ _ _ _ _ _ _ _ _ _ _ _ _ _ _ _ _ _ _ _ _ _ _ _ _ _ _ _ _ _ _ _ _ _ _ _ _ _ _ _ _ _ _ _ _ _ _ _ _ _ _ _ _ _ _ _ _ _ _ _ _ _ _ _ _ _ _ _ _ _ _ _ _ _ _ _ _ _ _ _ _ _ _ _ _ _ _ _ _ _ _ _ _ 3 nb ⟨#[]⟩ ts _ (by decide) HN.out.2.1 (by decide) HN.out.2.2 b1 b2 hrr
            | false=>
              rw [hn0,cond_false] at hp
              cases hh0:hne==0 with
              | true=>
                rw [hh0,cond_true] at hp
                injection hp with hp
                subst hp
                obtain rfl:hne=0:=by simpa using hh0
                have hrr:rruleG x (bytesL s1) al pf pt (some (1,bytesL th,bytesL ⟨#[]⟩,0))=some (x',e'):=by
                  rw [m1]
                  exact HG.out.2.2.2
                clear hh0 hne0
                go_wp2
                obtain ⟨b1,b2⟩:=rf_host (a:=.int .i64 1) (b:=.string th) HB3.out HB.out.size HZ3.out
                exact HTL.out _ _ _ _ _ _ _ _ _ _ _ _ _ _ _ _ _ _ _ _ _ _ _ _ _ _ _ _ _ _ _ _ _ _ _ _ _ _ _ _ _ _ _ _ _ _ _ _ _ _ _ _ _ _ _ _ _ _ _ _ _ _ _ _ _ _ _ _ _ _ _ _ _ _ _ _ _ _ _ _ _ _ _ _ _ _ _ _ _ _ _ _ _ _ _ _ _ _ _ _ _ _ _ _ _ _ _ _ _ _ _ _ _ _ 1 0 th ⟨#[]⟩ _ m2 (by decide) (by decide) (by decide) b1 b2 hrr
              | false=>
                rw [hh0,cond_false] at hp
                injection hp with hp
                subst hp
                have hx:some (x,(2:Int))=some (x',e'):=HG.out.2.2.2
                injection hx with hx
                obtain ⟨rfl,rfl⟩:=Prod.mk.inj hx
                clear hx hne0
                go_wp2
                go_ret
                exact ⟨rfl,HB3.out.mono HL.out.1,fun e=>by cases e⟩
        · rw [show (Nat.ble 2 (bytesL s2).length && ((bytesL s2).headD 0 == 46)) = false from by
            rw [bytes_len,show Nat.ble 2 s2.size=false from Bool.eq_false_iff.2 fun h=>by have:=Nat.le_of_ble_eq_true h;omega];rfl,cond_false] at hp
          cases hn0:ne==0 with
          | true=>
            rw [hn0,cond_true] at hp
            injection hp with hp
            subst hp
            obtain rfl:ne=0:=by simpa using hn0
            have hrr:rruleG x (bytesL s1) al pf pt (some (3,bytesL ⟨#[]⟩,bytesL ts,nb))=some (x',e'):=by
              rw [HN.out.1]
              exact HG.out.2.2.2
            clear hn0 hne0
            go_wp2
            go_region
            all_goals
              go_step
              try go_simp
              obtain ⟨b1,b2⟩:=rf_net (a:=.int .i64 3) (b:=.string ts) (c:=.int .i64 nb) HB3.out HB.out.size HZ3.out
              exact HTL.out _ _ _ _ _ _ _ _ _ _ _ _ _ _ _ _ _ _ _ _ _ _ _ _ _ _ _ _ _ _ _ _ _ _ _ _ _ _ _ _ _ _ _ _ _ _ _ _ _ _ _ _ _ _ _ _ _ _ _ _ _ _ _ _ _ _ _ _ _ _ _ _ _ _ _ _ _ _ _ _ _ _ _ _ _ _ _ _ _ _ _ _ _ _ _ _ _ _ _ _ _ _ _ _ _ _ _ _ _ _ _ _ _ _ 3 nb ⟨#[]⟩ ts _ (by decide) HN.out.2.1 (by decide) HN.out.2.2 b1 b2 hrr
          | false=>
            rw [hn0,cond_false] at hp
            cases hh0:hne==0 with
            | true=>
              rw [hh0,cond_true] at hp
              injection hp with hp
              subst hp
              obtain rfl:hne=0:=by simpa using hh0
              have hrr:rruleG x (bytesL s1) al pf pt (some (1,bytesL th,bytesL ⟨#[]⟩,0))=some (x',e'):=by
                rw [m1]
                exact HG.out.2.2.2
              clear hh0 hne0
              go_wp2
              obtain ⟨b1,b2⟩:=rf_host (a:=.int .i64 1) (b:=.string th) HB3.out HB.out.size HZ3.out
              exact HTL.out _ _ _ _ _ _ _ _ _ _ _ _ _ _ _ _ _ _ _ _ _ _ _ _ _ _ _ _ _ _ _ _ _ _ _ _ _ _ _ _ _ _ _ _ _ _ _ _ _ _ _ _ _ _ _ _ _ _ _ _ _ _ _ _ _ _ _ _ _ _ _ _ _ _ _ _ _ _ _ _ _ _ _ _ _ _ _ _ _ _ _ _ _ _ _ _ _ _ _ _ _ _ _ _ _ _ _ _ _ _ _ _ _ _ 1 0 th ⟨#[]⟩ _ m2 (by decide) (by decide) (by decide) b1 b2 hrr
            | false=>
              rw [hh0,cond_false] at hp
              injection hp with hp
              subst hp
              have hx:some (x,(2:Int))=some (x',e'):=HG.out.2.2.2
              injection hx with hx
              obtain ⟨rfl,rfl⟩:=Prod.mk.inj hx
              clear hx hne0
              go_wp2
              go_ret
              exact ⟨rfl,HB3.out.mono HL.out.1,fun e=>by cases e⟩
set_option maxHeartbeats 8000000 in
set_option maxRecDepth 1000000 in
theorem rrule_walk {lo:Nat} {w:World} {R:Nat} {v:Value} {role:Nat->Role} {x:RfSt} (h:RfAt lo w R v role x) (hlo:lo<=w.heap.size) (few:x.us.length<=16) {a:Option Addr} {n c:Nat} {ws:List ByteArray} (hn:ws.length=n) (hws:∀ i s,ws[i]? = some s -> ∃ ad,a=some ad /\ w.cell? (ad.add i)=some (.string s) /\ s.size<=maxLen) {x':RfSt} {e':Int} (hF:rruleP x (ws.map bytesL)=some (x',e')) :
    Calls Tryz.prog 58 #[.pointer (some ⟨R,0,none⟩),.slice a n c] w fun e w'=>RfPost lo R x' e' e w w':=by
  by_cases h4:n=4
  · subst h4
    match ws,hn,hws,hF with
    | [s0,s1,s2,s3],_,hws,hF=>
    obtain ⟨ad,rfl,c0,z0⟩:=hws 0 s0 rfl
    obtain ⟨_,e1,c1,z1⟩:=hws 1 s1 rfl
    injection e1 with e1
    subst e1
    obtain ⟨_,e1,c2,z2⟩:=hws 2 s2 rfl
    injection e1 with e1
    subst e1
    obtain ⟨_,e1,c3,z3⟩:=hws 3 s3 rfl
    injection e1 with e1
    subst e1
    rw [add_pos _ (by decide)] at c1 c2 c3
    have hF:(F_wlvref18_ports (bytesL s3)).bind (fun sp=>cond (decide (lastN x.us (bytesL s1) x.us.length < 0) || !sp.2.2) (some (x,2)) ((F_wlvref15_ParseNet (bytesL s2)).bind fun nt=>(F_wlvref15_Name (bytesL s2)).bind fun hn=>(rpatG (bytesL s2) nt hn).bind fun p=>rruleG x (bytesL s1) (bytesL s0==lbA) sp.1 sp.2.1 p))=some (x',e'):=hF
    obtain ⟨⟨pf,pt,ok⟩,h1,hF⟩:=Option.bind_eq_some_iff.1 hF
    rw [show ad.add 0=ad from by unfold Addr.add;simp] at c0
    exact rrule_four h hlo few c0 c1 c2 c3 z2 z3 h1 hF
  · have hF : some (x, (2 : Int)) = some (x', e') := by
      rw [<-hF]
      match ws,hn with
      | [],_=>rfl
      | [_],_=>rfl
      | [_,_],_=>rfl
      | [_,_,_],_=>rfl
      | [_,_,_,_],hn=>exact absurd hn.symm h4
      | _::_::_::_::_::_,_=>rfl
    injection hF with hF
    obtain ⟨rfl,rfl⟩:=Prod.mk.inj hF
    clear hws hn
    go_enter Tryz.func58,Tryz.ntmps58
    go_wp2
    go_ret
    exact ⟨rfl,Below.refl _ _,fun e=>by cases e⟩
def rfst0:RfSt:=⟨[false,false,false,false,false,false,false],[16,100,65535,1000,1000000,1000,16384],[]⟩
noncomputable def rlineW (x:RfSt) (ws:List (List Int)) (w0:List Int):Option (RfSt×Int):=
 cond (w0==lbL) ((rlimitP x ws).map fun p=>(p.1,cond p.2 0 2)) (cond (w0==lbU) (ruserP x ws) (cond (w0==lbA||w0==lbD) (rruleP x ws) (some (x,2))))
noncomputable def rlineP (x:RfSt) (s:List Int):Option (RfSt×Int):=cond (Nat.ble x.us.length 16) ((F_wlvref_Split s 32).bind fun ws=>match ws with | []=>none | w0::_=>rlineW x ws w0) none
noncomputable def rparseL:List (List Int)->RfSt->Option (RfSt×Int)
 | [],x=>some (x,0)
 | s::r,x=>cond (skipL s) (rparseL r x) ((rlineP x s).bind fun p=>cond (decide (p.2=0)) (rparseL r p.1) (some p))
def rfW (w:World):World:=(w.alloc (Obj.cells #[Value.int IntKind.i64 0,Value.int IntKind.i64 0,Value.int IntKind.i64 0,Value.int IntKind.i64 0,Value.int IntKind.i64 0,Value.int IntKind.i64 0,Value.int IntKind.i64 0,Value.slice none 0 0] 51)).alloc (Obj.cells (rfCells (.slice none 0 0) rfst0).toArray 116)
theorem start_rf (w:World):RfAt (w.heap.size+1) (rfW w) (w.heap.size+1) (.slice none 0 0) (fun b=>if b=w.heap.size+1 then .rdr else .no) rfst0:=by
 have sz:∀ (w:World) (o:Obj),(w.alloc o).heap.size=w.heap.size+1:=fun w o=>by simp
 have hs:(rfW w).heap.size=w.heap.size+1+1:=by
  unfold rfW
  rw [sz,sz]
 refine ⟨?_,if_pos rfl,rfl,rfl,⟨[],World.ownsRow_nil _ _ _ _,fun b hb=>(by cases hb),fun i u hu=>(by simp [rfst0] at hu)⟩,fun b hb=>?_,fun c hc=>?_⟩
 ·unfold rfW
  have:=heap_alloc_new (w.alloc (Obj.cells #[Value.int IntKind.i64 0,Value.int IntKind.i64 0,Value.int IntKind.i64 0,Value.int IntKind.i64 0,Value.int IntKind.i64 0,Value.int IntKind.i64 0,Value.int IntKind.i64 0,Value.slice none 0 0] 51)) (Obj.cells (rfCells (.slice none 0 0) rfst0).toArray 116)
  rw [sz] at this
  exact this
 ·rw [hs]
  by_cases h1:b=w.heap.size+1
  ·omega
  ·exact absurd (if_neg h1) hb
 ·simp [rfst0] at hc
  rcases hc with rfl | rfl | rfl | rfl | rfl | rfl | rfl <;> decide
theorem rf_two (w:World) {W':World} (o1 o2:Obj) (h:(w.alloc o1).alloc o2=W'):Below w.heap.size w W' /\ W'.heap[w.heap.size]? = some o1:=by
 have sz:∀ (w:World) (o:Obj),(w.alloc o).heap.size=w.heap.size+1:=fun w o=>by simp
 rw [<-h]
 refine ⟨((Below.refl _ w).alloc (Nat.le_refl _) _).alloc (by rw [sz];omega) _,?_⟩
 rw [heap_alloc_old _ _ (by rw [sz];omega)]
 exact heap_alloc_new w o1
def RpPost (w:World) (xf:RfSt) (ef:Int) (e:Ending) (w':World):Prop:=Below w.heap.size w w' /\ (ef≠0->e=.returned (.tuple #[.agg #[.int .i64 0,.int .i64 0,.int .i64 0,.int .i64 0,.int .i64 0,.int .i64 0,.int .i64 0,.slice none 0 0],.int .i64 ef])) /\
 (ef=0 -> ∃ v role n0 n1 n2 n3 n4 n5 n6,xf.n=[n0,n1,n2,n3,n4,n5,n6] /\ e=.returned (.tuple #[.agg #[.int .i64 n0,.int .i64 n1,.int .i64 n2,.int .i64 n3,.int .i64 n4,.int .i64 n5,.int .i64 n6,v],.int .i64 0]) /\ RfAt (w.heap.size+1) w' (w.heap.size+1) v role xf)
theorem rconf_ret {w:World} {R:Nat} {v0 v1 v2 v3 v4 v5 v6 v7 v:Value} {T:TypeId} {a:Act} {Z:Ending->World->Prop} (hd:a.defers=[]) (h2:a.tmps.getD 2 undef=.pointer (some ⟨R,0,none⟩)) (h3:a.tmps.getD 3 undef=v)
  (hR:w.heap[R]? = some (.cells #[v0,v1,v2,v3,v4,v5,v6,v7] T (0,0)))
  (hZ:Z (.returned (.tuple #[.agg #[v0,v1,v2,v3,v4,v5,v6,v7],v])) w):bodyPost Tryz.prog Tryz.f28 Z .ret a w:=by
 have hl:=run_loadVar_cells (P:=Tryz.prog) (w:=w) (t:=51) (ad:=⟨R,0,none⟩) (us:=[v0,v1,v2,v3,v4,v5,v6,v7]) sizeC rfl agC (fun j x hj=>by
  show w.cell? ((⟨R,0,none⟩:Addr).add j)=_
  have e:(⟨R,0,none⟩:Addr).add j=⟨R,j,none⟩:=by unfold Addr.add;simp;omega
  rw [e,Lib.cell_of_heap hR]
  rw [<-hj];simp)
 refine bodyPost_ret ?_ hd hZ
 rw [results_cell_tmp (p:=2) (u:=3) (ty:=51) rfl,h2,h3]
 simp [asAddr,hl]
theorem rf_seven {α:Type} {l:List α} (h:l.length=7):∃ a b c d e f g,l=[a,b,c,d,e,f,g]:=by
 match l,h with
 | [a,b,c,d,e,f,g],_=>exact ⟨a,b,c,d,e,f,g,rfl⟩
set_option maxHeartbeats 4000000 in
theorem set7d {w W:World} {b:Nat} {u0 u1 u2 u3 u4 u5 u6 u7 v0 v1 v2 v3 v4 v5 v6:Value} {T:TypeId} (h:w.heap[b]? = some (.cells #[u0,u1,u2,u3,u4,u5,u6,u7] T (0,0))) (hW:(((((((w.setCell ⟨b,0,none⟩ v0).setCell ⟨b,1,none⟩ v1).setCell ⟨b,2,none⟩ v2).setCell ⟨b,3,none⟩ v3).setCell ⟨b,4,none⟩ v4).setCell ⟨b,5,none⟩ v5).setCell ⟨b,6,none⟩ v6).drew=W) :
  W.heap[b]? = some (.cells #[v0,v1,v2,v3,v4,v5,v6,u7] T (0,0)) /\ (∀ k,k≠b->W.heap[k]? = w.heap[k]?) /\ W.heap.size=w.heap.size /\ W.os=w.os /\ W.tape=w.tape /\ W.output=w.output:=by
 have hd:∀ (w:World),w.drew.heap=w.heap:=fun w=>rfl
 have hsz:∀ (w:World) (a:Addr) (u:Value),(w.setCell a u).heap.size=w.heap.size:=fun w a u=>by simp [World.setCell]
 have hos:∀ (w:World) (a:Addr) (u:Value),(w.setCell a u).os=w.os /\ (w.setCell a u).tape=w.tape /\ (w.setCell a u).output=w.output:=fun w a u=>⟨rfl,rfl,rfl⟩
 have hdo:∀ (w:World),w.drew.os=w.os /\ w.drew.tape=w.tape /\ w.drew.output=w.output:=fun w=>⟨rfl,rfl,rfl⟩
 subst hW
 refine ⟨?_,fun k hk=>?_,by rw [hd,hsz,hsz,hsz,hsz,hsz,hsz,hsz],by rw [(hdo _).1,(hos _ _ _).1,(hos _ _ _).1,(hos _ _ _).1,(hos _ _ _).1,(hos _ _ _).1,(hos _ _ _).1,(hos _ _ _).1],by rw [(hdo _).2.1,(hos _ _ _).2.1,(hos _ _ _).2.1,(hos _ _ _).2.1,(hos _ _ _).2.1,(hos _ _ _).2.1,(hos _ _ _).2.1,(hos _ _ _).2.1],by rw [(hdo _).2.2,(hos _ _ _).2.2,(hos _ _ _).2.2,(hos _ _ _).2.2,(hos _ _ _).2.2,(hos _ _ _).2.2,(hos _ _ _).2.2,(hos _ _ _).2.2]⟩
 ·rw [hd,set_heap (set_heap (set_heap (set_heap (set_heap (set_heap (set_heap h))))))]
  rfl
 ·rw [hd,setCell_heap,if_neg hk,setCell_heap,if_neg hk,setCell_heap,if_neg hk,setCell_heap,if_neg hk,setCell_heap,if_neg hk,setCell_heap,if_neg hk,setCell_heap,if_neg hk]
set_option maxHeartbeats 16000000 in
set_option maxRecDepth 1000000 in
theorem rpar_walk {w:World} {a:Option Addr} {n c:Nat} {ls:List ByteArray} (hn:ls.length=n) (hsm:n<=1000000) (hls:∀ i s,ls[i]? = some s -> ∃ ad,a=some ad /\ w.cell? (ad.add i)=some (.string s) /\ s.size<=maxLen) {xf:RfSt} {ef:Int} (hF:rparseL (ls.map bytesL) rfst0=some (xf,ef)) :
    Calls Tryz.prog 28 #[.slice a n c] w fun e w'=>RpPost w xf ef e w':=by
  have hs0:=start_rf w
  have HL:Aside (ls.length=n /\ (∀ i s,ls[i]? = some s -> ∃ ad,a=some ad /\ w.cell? (ad.add i)=some (.string s) /\ s.size<=maxLen) /\ rparseL (ls.map bytesL) rfst0=some (xf,ef)):=⟨hn,hls,hF⟩
  have HS0:Aside (RfAt (w.heap.size+1) (rfW w) (w.heap.size+1) (.slice none 0 0) (fun b=>if b=w.heap.size+1 then .rdr else .no) rfst0):=hs0
  clear hn hls hF hs0
  go_enter Tryz.func28,Tryz.ntmps28
  go_wp2
  go_loopw [3,5] (fun u vi wr=>u=.int .i64 0 /\ ∃ k:Nat,vi=.int .i64 k /\ k<=n /\ Aside (∃ x v role,RfAt (w.heap.size+1) wr (w.heap.size+1) v role x /\ rparseL ((ls.drop k).map bytesL) x=some (xf,ef)) /\ Aside (wr.heap[w.heap.size]? = some (Obj.cells #[Value.int IntKind.i64 0,Value.int IntKind.i64 0,Value.int IntKind.i64 0,Value.int IntKind.i64 0,Value.int IntKind.i64 0,Value.int IntKind.i64 0,Value.int IntKind.i64 0,Value.slice none 0 0] 51 (0,0))) /\ Below w.heap.size w wr) (fun _ vi _=>n - (intOf vi).toNat)
  case atStart=>
    refine ⟨rfl,0,rfl,by omega,⟨rfst0,_,_,HS0.out,HL.out.2.2⟩,?_,?_⟩
    · exact (rf_two w _ _ rfl).2
    · exact (rf_two w _ _ rfl).1
  case round=>
    obtain ⟨rfl,k,rfl,hk,HX,HZ,hb⟩:=hrel
    have hwr:w.heap.size<=wr.heap.size:=hb.size
    by_cases hlt:k < n
    · obtain ⟨x,v,role,hrd,hp⟩:=HX.out
      have hkl:k < ls.length:=by rw [HL.out.1];exact hlt
      obtain ⟨s,hsk⟩:∃ s,ls[k]? = some s:=⟨_,List.getElem?_eq_getElem hkl⟩
      obtain ⟨ad,rfl,hc0,hz⟩:=HL.out.2.1 k s hsk
      have hcr:=par_cell hc0 hb
      rw [List.drop_eq_getElem_cons hkl,List.map_cons,show ls[k]=s from by rw [List.getElem?_eq_getElem hkl] at hsk;injection hsk] at hp
      have hp:cond (skipL (bytesL s)) (rparseL ((ls.drop (k+1)).map bytesL) x) ((rlineP x (bytesL s)).bind fun p=>cond (decide (p.2=0)) (rparseL ((ls.drop (k+1)).map bytesL) p.1) (some p))=some (xf,ef):=hp
      clear HX hsk hc0
      have hne:∀ h0:0 < s.size,bytesL s=(((s[0]'h0).toNat:Nat):Int)::(bytesL s).tail:=fun h0=>by
        have h1:s.data.toList.length=s.size:=by simp
        have h2:s.data.toList[0]? = some (s[0]'h0):=Lib.data_getElem? s 0 h0
        show s.data.toList.map byteI=_
        cases hq:s.data.toList with
        | nil=>rw [hq] at h2;cases h2
        | cons y r=>
          rw [hq] at h2
          injection h2 with h2
          show byteI y::r.map byteI=_
          rw [<-h2]
          show _=_::(s.data.toList.map byteI).tail
          rw [hq]
          rfl
      cases hsk:skipL (bytesL s) with
      | true=>
        rw [hsk,cond_true] at hp
        have HN:Aside (∃ x v role,RfAt (w.heap.size+1) wr (w.heap.size+1) v role x /\ rparseL ((ls.drop (k+1)).map bytesL) x=some (xf,ef)):=⟨x,v,role,hrd,hp⟩
        clear hrd hp
        by_cases h0:0 < s.size
        · have hc : (((s[0]'h0).toNat : Nat) : Int) = 35 := by
            unfold skipL at hsk
            rw [hne h0] at hsk
            simpa using hsk
          have hnn:¬ s.toList=[]:=fun e=>by
            have:=(bytes_nil s).2 e
            rw [hne h0] at this
            cases this
          clear hsk hne
          go_wp2
          all_goals exact ⟨⟨by first | rfl | trivial,k+1,by simp,by omega,HN,HZ,hb⟩,by simp [intOf];omega⟩
        · have hnn:s.toList=[]:=(bytes_nil s).1 (List.eq_nil_of_length_eq_zero (by rw [bytes_len];omega))
          clear hsk hne
          go_wp2
          all_goals exact ⟨⟨by first | rfl | trivial,k+1,by simp,by omega,HN,HZ,hb⟩,by simp [intOf];omega⟩
      | false=>
        rw [hsk,cond_false] at hp
        obtain ⟨⟨x1,e1⟩,hl1,hp⟩:=Option.bind_eq_some_iff.1 hp
        have hnn:¬ s.toList=[]:=fun e=>by
          have:=(bytes_nil s).2 e
          rw [this] at hsk
          cases hsk
        have h0:0 < s.size:=by
          rcases Nat.lt_or_ge 0 s.size with h | h
          · exact h
          · exact absurd ((bytes_nil s).1 (List.eq_nil_of_length_eq_zero (by rw [bytes_len];omega))) hnn
        have hc:¬ (((s[0]'h0).toNat:Nat):Int)=35:=fun e=>by
          unfold skipL at hsk
          rw [hne h0,e] at hsk
          cases hsk
        have hlw:w.heap.size+1<=wr.heap.size:=(Array.getElem?_eq_some_iff.1 HZ.out).1
        have hzb:∀ w2,Below (w.heap.size+1) wr w2->w2.heap[w.heap.size]? = _:=fun w2 h=>(h.block w.heap.size (by omega)).trans HZ.out
        unfold rlineP at hl1
        cases hfew:Nat.ble x.us.length 16 with
        | false=>rw [hfew] at hl1;cases hl1
        | true=>
        rw [hfew,cond_true] at hl1
        have few:=Nat.le_of_ble_eq_true hfew
        obtain ⟨wl,hspl,hl1⟩:=Option.bind_eq_some_iff.1 hl1
        cases wl with
        | nil=>cases hl1
        | cons w0 rest=>
        have hl1:rlineW x (w0::rest) w0=some (x1,e1):=hl1
        have HN:Aside (_ /\ _ /\ _ /\ _):=⟨hp,hzb,hrd,few⟩
        have HSP:Aside (_ /\ _):=⟨hspl,hz⟩
        have HW:Aside _:=hl1
        clear hrd hp hsk hne hl1 hzb hspl few hfew
        go_wp2_with (go_at_call 101;skip)
        all_goals first
          | (exfalso;rename_i hor;rcases hor with hor | hor;exact hnn (List.isEmpty_iff.1 hor);exact hc (by simpa using hor))
          | skip
        go_at_call 55
        refine (rsplit_calls HSP.out.2 HSP.out.1 (by intro e;cases e)).mono ?_
        rintro e w2 ⟨B,cap,bs,rfl,hbs,hB1,hB2,hcap,hcell,hb2⟩
        cases bs with
        | nil=>cases hbs
        | cons t0 ts=>
        obtain ⟨hbs0,hbsr⟩:=List.cons.inj hbs
        obtain ⟨m,hm⟩:∃ m,(t0::ts).length=m:=⟨_,rfl⟩
        rw [hm] at hcap ⊢
        have hm0:0 < m:=by rw [<-hm];simp
        have k0:w2.cell? ⟨B,0,none⟩=some (.string t0):=(hcell 0 t0 rfl).1
        have hws:∀ i s,(t0::ts)[i]? = some s -> ∃ ad,some (⟨B,0,none⟩:Addr)=some ad /\ w2.cell? (ad.add i)=some (.string s) /\ s.size<=maxLen:=fun i s h=>⟨_,rfl,by rw [add_at,Nat.zero_add];exact (hcell i s h).1,(hcell i s h).2⟩
        have hrd2:=HN.out.2.2.1.below hb2
        have hlw2:w.heap.size+1<=w2.heap.size:=Nat.le_trans hlw hb2.size
        have hbl:bytesL t0::ts.map bytesL=w0::rest:=hbs
        have hL:=ln_lit t0 [108,105,109,105,116]
        have hU:=ln_lit t0 [117,115,101,114]
        have hA:=ln_lit t0 [97,108,108,111,119]
        have hD:=ln_lit t0 [100,101,110,121]
        rw [show bytesL t0=w0 from hbs0] at hL hU hA hD
        have HH:Aside (_ /\ _ /\ _ /\ _):=⟨hws,hrd2,hlw2,hb2⟩
        have HM:Aside ((t0::ts).length=m /\ (t0::ts).map bytesL=w0::rest):=⟨hm,hbs⟩
        clear hws hrd2 hlw2 hb2 hcell hbs hbs0 hbsr hbl hm
        have hG:∀ w3,Below (w.heap.size+1) w2 w3->w3.heap[w.heap.size]? = some (Obj.cells #[Value.int IntKind.i64 0,Value.int IntKind.i64 0,Value.int IntKind.i64 0,Value.int IntKind.i64 0,Value.int IntKind.i64 0,Value.int IntKind.i64 0,Value.int IntKind.i64 0,Value.slice none 0 0] 51 (0,0)) /\ Below w.heap.size w w3:=fun w3 h3=>
          ⟨HN.out.2.1 w3 ((HH.out.2.2.2.mono hlw).trans h3),hb.trans (((HH.out.2.2.2.mono hlw).trans h3).mono (by omega))⟩
        have HG:Aside _:=hG
        have hl1:=HW.out
        unfold rlineW at hl1
        replace hL:(t0.toList==[108,105,109,105,116])=(w0==lbL):=hL
        replace hU:(t0.toList==[117,115,101,114])=(w0==lbU):=hU
        replace hA:(t0.toList==[97,108,108,111,119])=(w0==lbA):=hA
        replace hD:(t0.toList==[100,101,110,121])=(w0==lbD):=hD
        clear hG
        go_simp
        cases q1:w0==lbL with
        | true=>
          rw [q1,cond_true] at hl1
          rw [q1] at hL
          obtain ⟨⟨y,b⟩,h2,h3⟩:=Option.map_eq_some_iff.1 hl1
          obtain ⟨rfl,rfl⟩:=Prod.mk.inj h3
          have hwk:=rlimit_walk (c:=cap) HH.out.2.1 HH.out.2.2.1 HM.out.1 HH.out.1 (by rw [HM.out.2];exact h2)
          clear h2 h3 hl1 q1
          have HN0:=HN.out.1
          cases b with
          | true=>
            go_wp2_with (go_at_call 56;(refine hwk.mono ?_;rintro e w3 ⟨rfl,hb3,h3⟩;have H3:Aside (_ /\ _):=⟨hb3,h3⟩;obtain ⟨z0,z1,z2,z3,z4,z5,z6,z7,f0,f1,f2,f3,f4,f5,f6,f7⟩:=cells8 (HG.out w3 hb3).1;clear hb3 h3))
            all_goals
              obtain ⟨v',role',hrd'⟩:=H3.out.2 (by first | rfl | trivial)
              exact ⟨⟨by first | rfl | trivial,k+1,by simp,by omega,⟨_,v',role',hrd',HN.out.1⟩,(HG.out _ H3.out.1).1,(HG.out _ H3.out.1).2⟩,by simp [intOf];omega⟩
          | false=>
            have he:¬ (2:Int)=0:=by decide
            have hpe:some (y,(2:Int))=some (xf,ef):=HN0
            injection hpe with hpe
            obtain ⟨rfl,rfl⟩:=Prod.mk.inj hpe
            go_wp2_with (go_at_call 56;(refine hwk.mono ?_;rintro e w3 ⟨rfl,hb3,h3⟩;have H3:Aside (_ /\ _):=⟨hb3,h3⟩;obtain ⟨z0,z1,z2,z3,z4,z5,z6,z7,f0,f1,f2,f3,f4,f5,f6,f7⟩:=cells8 (HG.out w3 hb3).1;clear hb3 h3))
            all_goals
              generalize hW:World.setCell _ _ _=W8
              obtain ⟨y1,y2,y3,y4⟩:=set8 (HG.out _ H3.out.1).1 hW
              exact rconf_ret rfl rfl rfl y1 ⟨below_set (HG.out _ H3.out.1).2 y2 y3 y4,fun _=>rfl,fun h=>absurd h he⟩
        | false=>
        rw [q1,cond_false] at hl1
        rw [q1] at hL
        cases q2:w0==lbU with
        | true=>
          rw [q2,cond_true] at hl1
          rw [q2] at hU
          have hwk:=ruser_walk (c:=cap) HH.out.2.1 HH.out.2.2.1 HN.out.2.2.2 HM.out.1 HH.out.1 (by rw [HM.out.2];exact hl1)
          clear hl1 q1 q2
          have HN0:=HN.out.1
          by_cases he:e1=0
          · subst he
            go_wp2_with (go_at_call 57;(refine hwk.mono ?_;rintro e w3 ⟨rfl,hb3,h3⟩;have H3:Aside (_ /\ _):=⟨hb3,h3⟩;obtain ⟨z0,z1,z2,z3,z4,z5,z6,z7,f0,f1,f2,f3,f4,f5,f6,f7⟩:=cells8 (HG.out w3 hb3).1;clear hb3 h3))
            all_goals
              obtain ⟨v',role',hrd'⟩:=H3.out.2 (by first | rfl | trivial)
              exact ⟨⟨by first | rfl | trivial,k+1,by simp,by omega,⟨_,v',role',hrd',HN.out.1⟩,(HG.out _ H3.out.1).1,(HG.out _ H3.out.1).2⟩,by simp [intOf];omega⟩
          · have hpe : some (x1, e1) = some (xf, ef) := by
              rw [decide_eq_false he] at HN0
              exact HN0
            injection hpe with hpe
            obtain ⟨rfl,rfl⟩:=Prod.mk.inj hpe
            go_wp2_with (go_at_call 57;(refine hwk.mono ?_;rintro e w3 ⟨rfl,hb3,h3⟩;have H3:Aside (_ /\ _):=⟨hb3,h3⟩;obtain ⟨z0,z1,z2,z3,z4,z5,z6,z7,f0,f1,f2,f3,f4,f5,f6,f7⟩:=cells8 (HG.out w3 hb3).1;clear hb3 h3))
            all_goals
              generalize hW:World.setCell _ _ _=W8
              obtain ⟨y1,y2,y3,y4⟩:=set8 (HG.out _ H3.out.1).1 hW
              exact rconf_ret rfl rfl rfl y1 ⟨below_set (HG.out _ H3.out.1).2 y2 y3 y4,fun _=>rfl,fun h=>absurd h he⟩
        | false=>
        rw [q2,cond_false] at hl1
        rw [q2] at hU
        cases q3:w0==lbA with
        | true=>
          rw [q3] at hl1 hA
          have hl1:rruleP x (w0::rest)=some (x1,e1):=hl1
          have hwk:=rrule_walk (c:=cap) HH.out.2.1 HH.out.2.2.1 HN.out.2.2.2 HM.out.1 HH.out.1 (by rw [HM.out.2];exact hl1)
          clear hl1 q1 q2 q3
          have HN0:=HN.out.1
          by_cases he:e1=0
          · subst he
            go_wp2_with (go_at_call 58;(refine hwk.mono ?_;rintro e w3 ⟨rfl,hb3,h3⟩;have H3:Aside (_ /\ _):=⟨hb3,h3⟩;obtain ⟨z0,z1,z2,z3,z4,z5,z6,z7,f0,f1,f2,f3,f4,f5,f6,f7⟩:=cells8 (HG.out w3 hb3).1;clear hb3 h3))
            all_goals
              obtain ⟨v',role',hrd'⟩:=H3.out.2 (by first | rfl | trivial)
              exact ⟨⟨by first | rfl | trivial,k+1,by simp,by omega,⟨_,v',role',hrd',HN.out.1⟩,(HG.out _ H3.out.1).1,(HG.out _ H3.out.1).2⟩,by simp [intOf];omega⟩
          · have hpe : some (x1, e1) = some (xf, ef) := by
              rw [decide_eq_false he] at HN0
              exact HN0
            injection hpe with hpe
            obtain ⟨rfl,rfl⟩:=Prod.mk.inj hpe
            go_wp2_with (go_at_call 58;(refine hwk.mono ?_;rintro e w3 ⟨rfl,hb3,h3⟩;have H3:Aside (_ /\ _):=⟨hb3,h3⟩;obtain ⟨z0,z1,z2,z3,z4,z5,z6,z7,f0,f1,f2,f3,f4,f5,f6,f7⟩:=cells8 (HG.out w3 hb3).1;clear hb3 h3))
            all_goals
              generalize hW:World.setCell _ _ _=W8
              obtain ⟨y1,y2,y3,y4⟩:=set8 (HG.out _ H3.out.1).1 hW
              exact rconf_ret rfl rfl rfl y1 ⟨below_set (HG.out _ H3.out.1).2 y2 y3 y4,fun _=>rfl,fun h=>absurd h he⟩
        | false=>
        rw [q3] at hl1 hA
        cases q4:w0==lbD with
        | true=>
          rw [q4] at hl1 hD
          have hl1:rruleP x (w0::rest)=some (x1,e1):=hl1
          have hwk:=rrule_walk (c:=cap) HH.out.2.1 HH.out.2.2.1 HN.out.2.2.2 HM.out.1 HH.out.1 (by rw [HM.out.2];exact hl1)
          clear hl1 q1 q2 q3 q4
          have HN0:=HN.out.1
          by_cases he:e1=0
          · subst he
            go_wp2_with (go_at_call 58;(refine hwk.mono ?_;rintro e w3 ⟨rfl,hb3,h3⟩;have H3:Aside (_ /\ _):=⟨hb3,h3⟩;obtain ⟨z0,z1,z2,z3,z4,z5,z6,z7,f0,f1,f2,f3,f4,f5,f6,f7⟩:=cells8 (HG.out w3 hb3).1;clear hb3 h3))
            all_goals
              obtain ⟨v',role',hrd'⟩:=H3.out.2 (by first | rfl | trivial)
              exact ⟨⟨by first | rfl | trivial,k+1,by simp,by omega,⟨_,v',role',hrd',HN.out.1⟩,(HG.out _ H3.out.1).1,(HG.out _ H3.out.1).2⟩,by simp [intOf];omega⟩
          · have hpe : some (x1, e1) = some (xf, ef) := by
              rw [decide_eq_false he] at HN0
              exact HN0
            injection hpe with hpe
            obtain ⟨rfl,rfl⟩:=Prod.mk.inj hpe
            go_wp2_with (go_at_call 58;(refine hwk.mono ?_;rintro e w3 ⟨rfl,hb3,h3⟩;have H3:Aside (_ /\ _):=⟨hb3,h3⟩;obtain ⟨z0,z1,z2,z3,z4,z5,z6,z7,f0,f1,f2,f3,f4,f5,f6,f7⟩:=cells8 (HG.out w3 hb3).1;clear hb3 h3))
            all_goals
              generalize hW:World.setCell _ _ _=W8
              obtain ⟨y1,y2,y3,y4⟩:=set8 (HG.out _ H3.out.1).1 hW
              exact rconf_ret rfl rfl rfl y1 ⟨below_set (HG.out _ H3.out.1).2 y2 y3 y4,fun _=>rfl,fun h=>absurd h he⟩
        | false=>
          rw [q4] at hl1 hD
          have hl1:some (x,(2:Int))=some (x1,e1):=hl1
          injection hl1 with hl1
          obtain ⟨rfl,rfl⟩:=Prod.mk.inj hl1
          have HN0:=HN.out.1
          have he:¬ (2:Int)=0:=by decide
          have hpe:some (x,(2:Int))=some (xf,ef):=HN0
          injection hpe with hpe
          obtain ⟨rfl,rfl⟩:=Prod.mk.inj hpe
          have hbr:Below (w.heap.size+1) w2 w2:=(Below.refl _ w2).mono (by omega)
          obtain ⟨z0,z1,z2,z3,z4,z5,z6,z7,f0,f1,f2,f3,f4,f5,f6,f7⟩:=cells8 (HG.out w2 hbr).1
          have H3:Aside (Below (w.heap.size+1) w2 w2):=hbr
          go_wp2
          all_goals
            generalize hW:World.setCell _ _ _=W8
            obtain ⟨y1,y2,y3,y4⟩:=set8 (HG.out _ H3.out).1 hW
            exact rconf_ret rfl rfl rfl y1 ⟨below_set (HG.out _ H3.out).2 y2 y3 y4,fun _=>rfl,fun h=>absurd h he⟩
    · obtain rfl:k=n:=by omega
      obtain ⟨x,v,role,hrd,hp⟩:=HX.out
      rw [List.drop_eq_nil_of_le (by rw [HL.out.1];exact Nat.le_refl _)] at hp
      have hp:some (x,(0:Int))=some (xf,ef):=hp
      injection hp with hp
      obtain ⟨rfl,rfl⟩:=Prod.mk.inj hp
      obtain ⟨va,vn,vc,rfl⟩:∃ a n c,v=.slice a n c:=by
        obtain ⟨xs,u1,_⟩:=hrd.hU
        rcases u1.2 with ⟨rfl,_⟩ | ⟨g,cap,cur,rfl,_⟩
        · exact ⟨_,_,_,rfl⟩
        · exact ⟨_,_,_,rfl⟩
      have hR:=hrd.hR
      obtain ⟨b0,b1,b2,b3,b4,b5,b6,hset⟩:=rf_seven hrd.hs
      obtain ⟨n0,n1,n2,n3,n4,n5,n6,hnn⟩:=rf_seven hrd.hn
      have e22:rfCells (.slice va vn vc) x=[.int .i64 0,.int .i64 0,.int .i64 0,.int .i64 0,.int .i64 0,.int .i64 0,.int .i64 0,.slice va vn vc,.bool b0,.bool b1,.bool b2,.bool b3,.bool b4,.bool b5,.bool b6,.int .i64 n0,.int .i64 n1,.int .i64 n2,.int .i64 n3,.int .i64 n4,.int .i64 n5,.int .i64 n6]:=by
        unfold rfCells
        rw [hset,hnn]
        rfl
      rw [e22] at hR
      obtain ⟨r0,r1,r2,r3,r4,r5,r6,r7,r15,r16,r17,r18,r19,r20,r21⟩:wr.cell? ⟨w.heap.size+1,0,none⟩=some (.int .i64 0) /\ wr.cell? ⟨w.heap.size+1,1,none⟩=some (.int .i64 0) /\ wr.cell? ⟨w.heap.size+1,2,none⟩=some (.int .i64 0) /\ wr.cell? ⟨w.heap.size+1,3,none⟩=some (.int .i64 0) /\ wr.cell? ⟨w.heap.size+1,4,none⟩=some (.int .i64 0) /\ wr.cell? ⟨w.heap.size+1,5,none⟩=some (.int .i64 0) /\ wr.cell? ⟨w.heap.size+1,6,none⟩=some (.int .i64 0) /\ wr.cell? ⟨w.heap.size+1,7,none⟩=some (.slice va vn vc) /\ wr.cell? ⟨w.heap.size+1,15,none⟩=some (.int .i64 n0) /\ wr.cell? ⟨w.heap.size+1,16,none⟩=some (.int .i64 n1) /\ wr.cell? ⟨w.heap.size+1,17,none⟩=some (.int .i64 n2) /\ wr.cell? ⟨w.heap.size+1,18,none⟩=some (.int .i64 n3) /\ wr.cell? ⟨w.heap.size+1,19,none⟩=some (.int .i64 n4) /\ wr.cell? ⟨w.heap.size+1,20,none⟩=some (.int .i64 n5) /\ wr.cell? ⟨w.heap.size+1,21,none⟩=some (.int .i64 n6):=by
        refine ⟨?_,?_,?_,?_,?_,?_,?_,?_,?_,?_,?_,?_,?_,?_,?_⟩ <;> (rw [cell_at hR];rfl)
      have hRs:w.heap.size+1 < wr.heap.size:=(Array.getElem?_eq_some_iff.1 hR).1
      obtain ⟨z0,z1,z2,z3,z4,z5,z6,z7,f0,f1,f2,f3,f4,f5,f6,f7⟩:=cells8 HZ.out
      have HR:Aside (_ /\ _ /\ _):=⟨hR,hrd,hnn⟩
      clear hR hrd hset hnn e22
      go_wp2
      generalize hW:World.alloc wr _=W1
      have hb1:Below wr.heap.size wr W1:=by
        rw [<-hW]
        exact (Below.refl _ wr).alloc (Nat.le_refl _) _
      have hL1:W1.heap[wr.heap.size]? = some (.cells #[.int .i64 0,.int .i64 0,.int .i64 0,.int .i64 0,.int .i64 0,.int .i64 0,.int .i64 0,.slice va vn vc] 51 (0,0)):=by
        rw [<-hW]
        exact heap_alloc_new wr _
      clear hW
      obtain ⟨l0,l1,l2,l3,l4,l5,l6,l7,g0,g1,g2,g3,g4,g5,g6,g7⟩:=cells8 hL1
      replace r15:=cell_b r15 hb1
      replace r16:=cell_b r16 hb1
      replace r17:=cell_b r17 hb1
      replace r18:=cell_b r18 hb1
      replace r19:=cell_b r19 hb1
      replace r20:=cell_b r20 hb1
      replace r21:=cell_b r21 hb1
      clear r0 r1 r2 r3 r4 r5 r6 r7 z0 z1 z2 z3 z4 z5 z6 z7 f0 f1 f2 f3 f4 f5 f6 f7
      have hne1:wr.heap.size≠w.heap.size+1:=by omega
      have HB1:Aside (_ /\ _):=⟨hb1,hL1⟩
      clear hb1 hL1
      go_region_held (fun w'=>w'.cell? ⟨w.heap.size+1,15,none⟩=some (.int .i64 n0) /\ w'.cell? ⟨w.heap.size+1,16,none⟩=some (.int .i64 n1) /\ w'.cell? ⟨w.heap.size+1,17,none⟩=some (.int .i64 n2) /\ w'.cell? ⟨w.heap.size+1,18,none⟩=some (.int .i64 n3) /\ w'.cell? ⟨w.heap.size+1,19,none⟩=some (.int .i64 n4) /\ w'.cell? ⟨w.heap.size+1,20,none⟩=some (.int .i64 n5) /\ w'.cell? ⟨w.heap.size+1,21,none⟩=some (.int .i64 n6)) (go_keep) (fail)
      generalize hW:World.drew _=W2
      obtain ⟨hL2,x2,x3,x4,x5,x6⟩:=set7d HB1.out.2 hW
      have hb2:Below wr.heap.size wr W2:=⟨x4.trans HB1.out.1.os,x5.trans HB1.out.1.tape,x6.trans HB1.out.1.output,by rw [x3];exact HB1.out.1.size,fun b hb=>(x2 b (by omega)).trans (HB1.out.1.block b hb)⟩
      clear hW x2 x3 x4 x5 x6 l0 l1 l2 l3 l4 l5 l6 l7 g0 g1 g2 g3 g4 g5 g6 g7 r15 r16 r17 r18 r19 r20 r21
      obtain ⟨l0,l1,l2,l3,l4,l5,l6,l7,g0,g1,g2,g3,g4,g5,g6,g7⟩:=cells8 hL2
      have hZ2:=(hb2.block w.heap.size (by omega)).trans HZ.out
      obtain ⟨z0,z1,z2,z3,z4,z5,z6,z7,f0,f1,f2,f3,f4,f5,f6,f7⟩:=cells8 hZ2
      have HB2:Aside (_ /\ _):=⟨hb2,hZ2⟩
      clear hb2 hZ2 hL2
      go_wp2
      generalize hW:World.setCell _ _ _=W8
      obtain ⟨y1,y2,y3,y4⟩:=set8 HB2.out.2 hW
      refine rconf_ret rfl rfl rfl y1 ⟨below_set (hb.trans (HB2.out.1.mono hb.size)) y2 y3 y4,fun h=>absurd rfl h,fun _=>⟨_,_,n0,n1,n2,n3,n4,n5,n6,HR.out.2.2,rfl,(HR.out.2.1.below HB2.out.1).keep (fun b hr=>y2 b (by have:=(HR.out.2.1.lt b hr).1;omega)) (by rw [y3];exact Nat.le_refl _)⟩⟩
def F_wlvref18_Parse_sig:Sig:=F_conf_Parse_sig
noncomputable def F_wlvref18_Parse (l:List (List Int)):Option ConfR:=cond (Nat.ble l.length 1000000) ((rparseL l rfst0).bind fun p=>cond (decide (p.2=0)) (some (p.1.n.getD 0 0,p.1.n.getD 1 0,p.1.n.getD 2 0,p.1.n.getD 3 0,p.1.n.getD 4 0,p.1.n.getD 5 0,p.1.n.getD 6 0,p.1.us,0)) (cond (decide (0 < p.2)&&decide (p.2 < 10)) (some (0,0,0,0,0,0,0,[],p.2)) none)) none
theorem F_wlvref18_Parse_sound {T:Tab}:SoundFn Tryz.prog T 28 F_wlvref18_Parse_sig ⟨F_wlvref18_Parse⟩:=by
  refine sound_of rfl fun F g O xs ls y tmf w args hT hw hlim hls happ hsz hr=>?_
  obtain ⟨(l:List (List Int)),xs',rfl,h2⟩:=appF_inv_c (ts:=[]) happ
  obtain ⟨rfl,h3⟩:=appF_inv_n h2
  have hls':some [Leaf.d (.sl .str) l]=some ls:=hls
  injection hls' with hls'
  subst hls'
  obtain ⟨a,n,c,e0,e1,e2,e3,e4⟩:=rel_leaf.1 (hr 0)
  have e0:args.getD 0 undef=.slice a n c:=by injection e0
  rw [args_1 hsz,e0]
  have h3:F_wlvref18_Parse l=some y:=h3
  unfold F_wlvref18_Parse at h3
  cases hb:Nat.ble l.length 1000000 with
  | false=>rw [hb] at h3;cases h3
  | true=>
    rw [hb,cond_true] at h3
    obtain ⟨⟨xf,ef⟩,hp,h3⟩:=Option.bind_eq_some_iff.1 h3
    have hble:=Nat.le_of_ble_eq_true hb
    have e1:l.length=n:=e1
    obtain ⟨bs,hbs,hbc⟩:=strs_any (P:=fun i t=>∃ ad,a=some ad /\ w.cell? (ad.add i)=some (.string t) /\ t.size<=maxLen) l fun i s hs=>by
      obtain ⟨ad,us,q1,q2,q3,t,q4,q5,q6⟩:=e4 i s hs
      refine ⟨t,⟨ad,q1,?_,q6⟩,q5⟩
      have:=(q3 0 (.string t) (by rw [q4];rfl)).1
      rw [show (Ty.str).size=1 from rfl,Nat.mul_one,Nat.add_zero] at this
      exact this
    have hbl:bs.length=n:=by rw [<-e1,<- hbs,List.length_map]
    refine (rpar_walk hbl (by omega) hbc (by rw [hbs];exact hp)).mono ?_
    rintro e w' ⟨hbel,hno,hyes⟩
    by_cases he:ef=0
    · subst he
      obtain ⟨v,role,n0,n1,n2,n3,n4,n5,n6,hxn,rfl,hrd⟩:=hyes rfl
      have hy:((n0,n1,n2,n3,n4,n5,n6,xf.us,0):ConfR)=y:=by
        have h3:some ((xf.n.getD 0 0,xf.n.getD 1 0,xf.n.getD 2 0,xf.n.getD 3 0,xf.n.getD 4 0,xf.n.getD 5 0,xf.n.getD 6 0,xf.us,0):ConfR)=some y:=h3
        rw [hxn] at h3
        have h3:some ((n0,n1,n2,n3,n4,n5,n6,xf.us,0):ConfR)=some y:=h3
        injection h3
      subst hy
      obtain ⟨xs,u1,u2,u3⟩:=hrd.hU
      have hwfs:=hrd.wf
      have ti:∀ {C:Com} {bk:Tok->Option Nat} {x:Int},(Lit.int .i64 x).wf=true->RepL F ⟨C,bk,g.ρ,fun _ _=>[]⟩ w' (exitO F_wlvref18_Parse_sig) (.d (.int .i64) x) [.int .i64 x]:=fun h=>⟨rfl,h⟩
      have h70:∀ {k:Tok} {v0:Option Nat} {b:Nat},(match tokEq k (.hd 0 7) with | true=>v0 | false=>none)=some b->k=.hd 0 7 /\ v0=some b:=fun {k v0 b} hk=>by
        cases hq:tokEq k (.hd 0 7) with
        | false=>rw [hq] at hk;cases hk
        | true=>
          rw [hq] at hk
          refine ⟨?_,hk⟩
          cases k with
          | hd d j=>
            have:(Nat.beq d 0&&Nat.beq j 7)=true:=hq
            simp only [Bool.and_eq_true] at this
            rw [Nat.eq_of_beq_eq_true this.1,Nat.eq_of_beq_eq_true this.2]
          | zero=>cases hq
          | op _ _=>cases hq
      have fin : ∀ (C' : Com) (bk : Option Nat), (∀ b o, b < w.heap.size -> (C' b o ↔ g.C b o)) -> (∀ b o, C' b o -> b < w'.heap.size) -> (∀ b, bk = some b -> w.heap.size <= b /\ b < w'.heap.size) -> RepL F ⟨C', fun k => match tokEq k (.hd 0 7) with | true => bk | false => none, g.ρ, fun _ _ => []⟩ w' (exitO F_wlvref18_Parse_sig) (.own (.hd 0 7) 63 userT xf.us) [v] ->
          ∃ us os C' blk',Ending.returned (.tuple #[.agg #[.int .i64 n0,.int .i64 n1,.int .i64 n2,.int .i64 n3,.int .i64 n4,.int .i64 n5,.int .i64 n6,v],.int .i64 0])=.returned (retV us) /\ us.length=F_wlvref18_Parse_sig.rs.length /\ mkLs (Tok.hd 0) F_wlvref18_Parse_sig.outs 0 (unpackD (F_wlvref18_Parse_sig.outs.map LT.ty) ((n0,n1,n2,n3,n4,n5,n6,xf.us,0):ConfR))=some os /\ Below w.heap.size w w' /\
            (∀ b o,b < w.heap.size->(C' b o↔g.C b o)) /\ (∀ b o,C' b o->b < w'.heap.size) /\ blk' .zero=none /\ (∀ k b,blk' k=some b->w.heap.size<=b /\ b < w'.heap.size) /\ (∀ k k' b,blk' k=some b->blk' k'=some b->k=k') /\
            ∀ i,i < F_wlvref18_Parse_sig.rs.length->RelP F ⟨C',blk',g.ρ,fun _ _=>[]⟩ w' (exitO F_wlvref18_Parse_sig) tmf (us.getD i undef) (resAt F_wlvref18_Parse_sig.rs os i):=fun C' bk h1 h2 h3 h4=>by
        refine ⟨[.agg #[.int .i64 n0,.int .i64 n1,.int .i64 n2,.int .i64 n3,.int .i64 n4,.int .i64 n5,.int .i64 n6,v],.int .i64 0],_,C',fun k=>match tokEq k (.hd 0 7) with | true=>bk | false=>none,rfl,rfl,rfl,hbel,h1,h2,rfl,fun k b hk=>h3 b (h70 hk).2,fun k k' b hk hk'=>(h70 hk).1.trans (h70 hk').1.symm,fun i hi=>?_⟩
        match i,hi with
        | 0,_=>
          refine ⟨[.int .i64 n0,.int .i64 n1,.int .i64 n2,.int .i64 n3,.int .i64 n4,.int .i64 n5,.int .i64 n6,v],?_,rfl⟩
          have k0:(Lit.int .i64 n0).wf=true:=hwfs _ (by rw [hxn];simp)
          have k1:(Lit.int .i64 n1).wf=true:=hwfs _ (by rw [hxn];simp)
          have k2:(Lit.int .i64 n2).wf=true:=hwfs _ (by rw [hxn];simp)
          have k3:(Lit.int .i64 n3).wf=true:=hwfs _ (by rw [hxn];simp)
          have k4:(Lit.int .i64 n4).wf=true:=hwfs _ (by rw [hxn];simp)
          have k5:(Lit.int .i64 n5).wf=true:=hwfs _ (by rw [hxn];simp)
          have k6:(Lit.int .i64 n6).wf=true:=hwfs _ (by rw [hxn];simp)
          exact ⟨[_],_,rfl,ti k0,[_],_,rfl,ti k1,[_],_,rfl,ti k2,[_],_,rfl,ti k3,[_],_,rfl,ti k4,[_],_,rfl,ti k5,[_],_,rfl,ti k6,[_],[],rfl,h4,rfl⟩
        | 1,_=>exact rel_leaf.2 ⟨rfl,rfl⟩
        | i+2,hi=>exact absurd hi (by show ¬ i+2 < 2;omega)
      rcases u1.2 with ⟨rfl,hn0⟩ | ⟨U,cap,cur,rfl,hUlo,hcell,hlc,hcm,hcs,htake⟩
      · have hnil:xf.us=[]:=List.eq_nil_of_length_eq_zero hn0
        refine fin g.C none (fun _ _ _=>Iff.rfl) (fun b o h=>Nat.lt_of_lt_of_le (hlim b o h) hbel.size) (fun b h=>(by cases h)) ?_
        rw [hnil]
        exact ⟨⟨none,0,0,rfl,rfl,Nat.le_refl _,by unfold maxLen;omega,fun i x hx=>by
          have hx:List.nil[i]? = some x:=hx
          simp at hx⟩,fun _=>⟨_,rfl,.inl ⟨none,rfl,rfl,rfl⟩⟩⟩
      · have hUs:U < w'.heap.size:=(Array.getElem?_eq_some_iff.1 hcell).1
        have hroU:=u2 U rfl
        have hel:∀ (i:Nat) (x:UserD),xf.us[i]? = some x->RepD w' (fun b o=>g.C b o \/ (w.heap.size<=b /\ b < w'.heap.size /\ (b=U->o < xf.us.length*6))) userT x ((cur.toList.drop (i*6)).take 6):=fun i x hx=>by
          have h1:=user_rep (C:=fun b o=>g.C b o \/ (w.heap.size<=b /\ b < w'.heap.size /\ (b=U->o < xf.us.length*6))) (u3 i x hx) fun b o hb=>.inr (by
            have hne:role b≠.no:=by rcases hb with hb | hb <;> (rw [hb];intro e;cases e)
            have h2:=hrd.lt b hne
            refine ⟨by omega,h2.2,fun e=>?_⟩
            rw [e,hroU] at hb
            rcases hb with hb | hb <;> cases hb)
          rw [<-htake,take_row (List.getElem?_eq_some_iff.1 hx).1] at h1
          exact h1
        refine fin (fun b o=>g.C b o \/ (w.heap.size<=b /\ b < w'.heap.size /\ (b=U->o < xf.us.length*6))) (some U) (fun b o hb=>⟨fun h=>h.elim id fun h=>absurd h.1 (by omega),.inl⟩) (fun b o h=>h.elim (fun h=>Nat.lt_of_lt_of_le (hlim b o h) hbel.size) fun h=>h.2.1) (fun b h=>by injection h with h;rw [<-h];exact ⟨by omega,hUs⟩) ⟨⟨_,_,_,rfl,rfl,hlc,hcm,fun i x hx=>?_⟩,fun _=>⟨_,rfl,.inr ⟨U,cap,cur,rfl,rfl,hcell,hlc,hcm,hcs,hel,fun o=>?_,fun o _=>.inl (by rw [hw];omega)⟩⟩⟩
        · have hx:xf.us[i]? = some x:=hx
          have hr:=hel i x hx
          have hi:=(List.getElem?_eq_some_iff.1 hx).1
          refine ⟨_,_,rfl,RepD.len hr,fun j u hj=>?_,hr⟩
          have hjl:j < 6:=by
            have h4:=(List.getElem?_eq_some_iff.1 hj).1
            have h5:_=6:=RepD.len hr
            omega
          rw [List.getElem?_take,if_pos hjl,List.getElem?_drop] at hj
          rw [add_at]
          refine ⟨?_,.inr ⟨by show w.heap.size<=U;omega,hUs,fun _=>?_⟩⟩
          · rw [cell_at hcell,<- Array.getElem?_toList,Nat.zero_add];exact hj
          · show 0+(i*6+j) < _
            omega
        · show (g.C U o \/ (w.heap.size<=U /\ U < w'.heap.size /\ (U=U->o < xf.us.length*6)))↔o < xf.us.length*6
          constructor
          · rintro (h | h)
            · have:=hlim _ _ h
              omega
            · exact h.2.2 rfl
          · intro h
            exact .inr ⟨by omega,hUs,fun _=>h⟩
    · rw [hno he]
      have h3:cond (decide (ef=0)) (some ((xf.n.getD 0 0,xf.n.getD 1 0,xf.n.getD 2 0,xf.n.getD 3 0,xf.n.getD 4 0,xf.n.getD 5 0,xf.n.getD 6 0,xf.us,0):ConfR)) (cond (decide (0 < ef)&&decide (ef < 10)) (some ((0,0,0,0,0,0,0,[],ef):ConfR)) none)=some y:=h3
      rw [decide_eq_false he,cond_false] at h3
      cases hlt:(decide (0 < ef)&&decide (ef < 10)) with
      | false=>rw [hlt] at h3;cases h3
      | true=>
      rw [hlt] at h3
      have hy:((0,0,0,0,0,0,0,[],ef):ConfR)=y:=by
        have h3:some _=some y:=h3
        injection h3
      subst hy
      rw [Bool.and_eq_true,decide_eq_true_eq,decide_eq_true_eq] at hlt
      refine ⟨[.agg #[.int .i64 0,.int .i64 0,.int .i64 0,.int .i64 0,.int .i64 0,.int .i64 0,.int .i64 0,.slice none 0 0],.int .i64 ef],_,g.C,fun _=>none,rfl,rfl,rfl,hbel,fun _ _ _=>Iff.rfl,fun b o h=>Nat.lt_of_lt_of_le (hlim b o h) hbel.size,rfl,fun k b h=>(by cases h),fun k k' b h=>(by cases h),fun i hi=>?_⟩
      match i,hi with
      | 0,_=>
        have ti:∀ {x:Int},(Lit.int .i64 x).wf=true->RepL F ⟨g.C,fun _=>none,g.ρ,fun _ _=>[]⟩ w' (exitO F_wlvref18_Parse_sig) (.d (.int .i64) x) [.int .i64 x]:=fun h=>⟨rfl,h⟩
        refine ⟨[.int .i64 0,.int .i64 0,.int .i64 0,.int .i64 0,.int .i64 0,.int .i64 0,.int .i64 0,.slice none 0 0],?_,rfl⟩
        refine ⟨[_],_,rfl,ti rfl,[_],_,rfl,ti rfl,[_],_,rfl,ti rfl,[_],_,rfl,ti rfl,[_],_,rfl,ti rfl,[_],_,rfl,ti rfl,[_],_,rfl,ti rfl,[_],[],rfl,?_,rfl⟩
        exact ⟨⟨none,0,0,rfl,rfl,Nat.le_refl _,by unfold maxLen;omega,fun i x hx=>by
          have hx:List.nil[i]? = some x:=hx
          simp at hx⟩,fun _=>⟨_,rfl,.inl ⟨none,rfl,rfl,rfl⟩⟩⟩
      | 1,_=>
        have kw:(Lit.int .i64 ef).wf=true:=wf_of (by omega)
        exact rel_leaf.2 ⟨rfl,kw⟩
      | i+2,hi=>exact absurd hi (by show ¬ i+2 < 2;omega)
end Go.Proofs.YtgfmfgombmpodaaGreatDoor
namespace Go.Proofs.YtgfmfgombmpodaaGreatDoor
open Pv
set_option linter.unusedVariables false
noncomputable def F_bytes_Equal (l1:List Int) (l2:List Int):Option (Bool):=
 some (l1==l2)
def F_bytes_Equal_sig:Sig:=⟨[.v false [.d (.sl (.int .u8))],.v false [.d (.sl (.int .u8))]],[(false,[.d .bool])]⟩
def F_bytes_Equal_ann:List (Nat×Ann):=[]
noncomputable def F_bytes_Equal_env:Env:=⟨Tryz.prog,[],[]⟩
theorem F_bytes_Equal_text:pvFn F_bytes_Equal_env F_bytes_Equal_ann Tryz.f63 F_bytes_Equal_sig=F_bytes_Equal:=by kernel_rfl
noncomputable def F_slices_Equal_conf_Rule_conf_Rule_L6 (l1:List RuleD) (l2:List RuleD) (s:Int):Option (((Bool)⊕(Unit))⊕(Int)):=
 let i3:=s
 cond (decide (i3 < (l1.length:Int)))
 ((getI l1 i3).bind fun x4=>
 (getI l2 i3).bind fun x5=>
 cond (!((bEq x4.1 x5.1)&&((eqI x4.2.1 x5.2.1)&&((eqL x4.2.2.1 x5.2.2.1)&&(((eqL x4.2.2.2.1.1 x5.2.2.2.1.1)&&((eqI x4.2.2.2.1.2 x5.2.2.2.1.2)&&true))&&((eqI x4.2.2.2.2.1 x5.2.2.2.2.1)&&((eqI x4.2.2.2.2.2 x5.2.2.2.2.2)&&true)))))))
 (some (.inl (.inl false)))
 (some (.inr (IntKind.i64.wrap (i3+1)))))
 (some (.inl (.inr ())))
noncomputable def F_slices_Equal_conf_Rule_conf_Rule_J4 (s:Unit):Option (Bool):=
 some true
noncomputable def F_slices_Equal_conf_Rule_conf_Rule (l1:List RuleD) (l2:List RuleD):Option (Bool):=
 cond ((l1.length:Int) != (l2.length:Int))
 (some false)
 (joinC (S:=Unit) (R:=Bool)
 (loopC (S:=Int) (R:=(Bool)⊕(Unit)) (F_slices_Equal_conf_Rule_conf_Rule_L6 l1 l2) 0)
 (F_slices_Equal_conf_Rule_conf_Rule_J4))
def F_slices_Equal_conf_Rule_conf_Rule_sig:Sig:=⟨[.v false [.d (.sl (.pr .bool (.pr (.int .i64) (.pr .str (.pr (.pr .str (.int .i64)) (.pr (.int .i64) (.int .i64)))))))],.v false [.d (.sl (.pr .bool (.pr (.int .i64) (.pr .str (.pr (.pr .str (.int .i64)) (.pr (.int .i64) (.int .i64)))))))]],[(false,[.d .bool])]⟩
def F_slices_Equal_conf_Rule_conf_Rule_ann:List (Nat×Ann):=[(4,⟨5,[],[],([4,5]++List.range' 11 15),[]⟩),(6,⟨7,[(13,false,[.d (.int .i64)])],[],([4,5]++List.range' 14 12),[]⟩)]
noncomputable def F_slices_Equal_conf_Rule_conf_Rule_env:Env:=⟨Tryz.prog,[],[]⟩
theorem F_slices_Equal_conf_Rule_conf_Rule_text:pvFn F_slices_Equal_conf_Rule_conf_Rule_env F_slices_Equal_conf_Rule_conf_Rule_ann Tryz.f64 F_slices_Equal_conf_Rule_conf_Rule_sig=F_slices_Equal_conf_Rule_conf_Rule:=by kernel_rfl
noncomputable def F_conf_Same_1 (s1:List Int) (l2:List Int) (l3:List Int) (i4:Int) (z5:(Nat×Nat)) (l6:List RuleD) (s7:List Int) (l8:List Int) (l9:List Int) (i10:Int) (z11:(Nat×Nat)) (l12:List RuleD):Option (Bool):=
 cond (s1==s7)
 ((F_bytes_Equal l2 l8).bind fun b13=>
 cond b13
 ((F_bytes_Equal l3 l9).bind fun b14=>
 cond b14
 (cond (i4==i10)
 (cond (feq .f64 z5.1 z11.1&&feq .f64 z5.2 z11.2)
 ((F_slices_Equal_conf_Rule_conf_Rule l6 l12).bind fun b15=>
 some b15)
 (some false))
 (some false))
 (some false))
 (some false))
 (some false)
def F_conf_Same_1_sig:Sig:=⟨[.v true [.d .str,.d (.sl (.int .u8)),.d (.sl (.int .u8)),.d (.int .i64),.d (.cpx .f64),.d (.sl (.pr .bool (.pr (.int .i64) (.pr .str (.pr (.pr .str (.int .i64)) (.pr (.int .i64) (.int .i64)))))))],.v true [.d .str,.d (.sl (.int .u8)),.d (.sl (.int .u8)),.d (.int .i64),.d (.cpx .f64),.d (.sl (.pr .bool (.pr (.int .i64) (.pr .str (.pr (.pr .str (.int .i64)) (.pr (.int .i64) (.int .i64)))))))]],[(false,[.d .bool])]⟩
def F_conf_Same_1_ann:List (Nat×Ann):=[]
noncomputable def F_conf_Same_1_env:Env:=⟨Tryz.prog,[(63,⟨F_bytes_Equal_sig,⟨F_bytes_Equal⟩⟩),(64,⟨F_slices_Equal_conf_Rule_conf_Rule_sig,⟨F_slices_Equal_conf_Rule_conf_Rule⟩⟩)],[]⟩
theorem F_conf_Same_1_text:pvFn F_conf_Same_1_env F_conf_Same_1_ann Tryz.f62 F_conf_Same_1_sig=F_conf_Same_1:=by kernel_rfl
end Go.Proofs.YtgfmfgombmpodaaGreatDoor
namespace Go.Proofs.YtgfmfgombmpodaaGreatDoor
open Pv
theorem F_bytes_Equal_sound {T:Tab}:SoundFn Tryz.prog T 63 F_bytes_Equal_sig ⟨F_bytes_Equal⟩:=by
 have h:=fn_sound (T:=T) (E:=F_bytes_Equal_env) (by unfold Env.ok;exact fun p h=>by cases h) (A:=F_bytes_Equal_ann) (f:=63) (fn:=Tryz.f63) (s:=F_bytes_Equal_sig) Tryz.func63
 rw [F_bytes_Equal_text] at h
 exact h
theorem F_slices_Equal_conf_Rule_conf_Rule_sound {T:Tab}:SoundFn Tryz.prog T 64 F_slices_Equal_conf_Rule_conf_Rule_sig ⟨F_slices_Equal_conf_Rule_conf_Rule⟩:=by
 have h:=fn_sound (T:=T) (E:=F_slices_Equal_conf_Rule_conf_Rule_env) (by unfold Env.ok;exact fun p h=>by cases h) (A:=F_slices_Equal_conf_Rule_conf_Rule_ann) (f:=64) (fn:=Tryz.f64) (s:=F_slices_Equal_conf_Rule_conf_Rule_sig) Tryz.func64
 rw [F_slices_Equal_conf_Rule_conf_Rule_text] at h
 exact h
theorem F_conf_Same_1_sound {T:Tab}:SoundFn Tryz.prog T 62 F_conf_Same_1_sig ⟨F_conf_Same_1⟩:=by
 have h:=fn_sound (T:=T) (E:=F_conf_Same_1_env) (by unfold Env.ok;exact List.forall_mem_cons.2 ⟨F_bytes_Equal_sound,List.forall_mem_cons.2 ⟨F_slices_Equal_conf_Rule_conf_Rule_sound,fun p h=>by cases h⟩⟩) (A:=F_conf_Same_1_ann) (f:=62) (fn:=Tryz.f62) (s:=F_conf_Same_1_sig) Tryz.func62
 rw [F_conf_Same_1_text] at h
 exact h
end Go.Proofs.YtgfmfgombmpodaaGreatDoor
namespace Go.Proofs.YtgfmfgombmpodaaGreatDoor
open Go.RowKit Pv
set_option linter.unusedVariables false
noncomputable def sameU (u v:UserD):Option Bool:=F_conf_Same_1 u.1 u.2.1.1 u.2.1.2 u.2.2.1 u.2.2.2.1 u.2.2.2.2 v.1 v.2.1.1 v.2.1.2 v.2.2.1 v.2.2.2.1 v.2.2.2.2
noncomputable def eqfL:List UserD->List UserD->Option Bool
 | [],_=>some true
 | u::us,v::vs=>(sameU u v).bind fun b=>cond b (eqfL us vs) (some false)
 | _::_,[]=>none
noncomputable def eqfP (us vs:List UserD):Option Bool:=cond (Nat.beq us.length vs.length) (eqfL us vs) (some false)
theorem same1_calls {W:World} {u v:UserD} {cs ds:List Value} (hu:RepD W (C00 W) userT u cs) (hv:RepD W (C00 W) userT v ds) {b:Bool} (h:sameU u v=some b) :
  Calls Tryz.prog 62 #[.agg ⟨cs⟩,.agg ⟨ds⟩] W fun e W'=>e=.returned (.bool b) /\ Below W.heap.size W W':=by
 have hT:∀ p∈([]:Tab),∃ ty fr,W.heap[p.1]? = some (.cells p.2 ty fr):=fun p hp=>by cases hp
 refine (fn_calls (s:=F_conf_Same_1_sig) hT F_conf_Same_1_sound (al:=[Arg.mk true (flat userT u) (.agg ⟨cs⟩),Arg.mk true (flat userT v) (.agg ⟨ds⟩)]) (y:=b) rfl Tryz.func62 (fun a ha=>?_) ?_).mono fun e W' ⟨us,g',st',h1,h2,h3,h4,h5⟩=>?_
 ·rcases List.mem_cons.1 ha with rfl | ha
  ·exact Arg.mk_ok (τ:=userT) (ag:=true) hu rfl
  ·rcases List.mem_cons.1 ha with rfl | ha
   ·exact Arg.mk_ok (τ:=userT) (ag:=true) hv rfl
   ·cases ha
 ·exact h
 ·match us,h2 with
  | [x],_=>
  refine ⟨?_,h4⟩
  have h3:some _=some st':=h3
  injection h3 with h3
  subst h3
  have:=rBool (h5 0)
  rw [h1]
  show Ending.returned x=_
  rw [show x=_ from this]
  rfl
theorem store_cpz {P:Program} {w:World} (a:Addr) (m:Mode) (k:FloatKind) (x y:Nat):(store a (.complex k x y) m).run P w=stored P w a (.complex k x y) m:=run_store P w a _ m rfl
theorem rep_user {w:World} {C:Com} {us:List UserD} {a:Option Addr} {n c:Nat} (h:RepD w C (.sl userT) us [.slice a n c]):us.length=n /\ ∀ (i:Nat) (u:UserD),us[i]? = some u -> ∃ (B o:Nat) (cs:List Value),a=some ⟨B,o,none⟩ /\ cs.length=6 /\ RepD w C userT u cs /\ ∀ j x,cs[j]? = some x->w.cell? ⟨B,o+(i*6+j),none⟩=some x:=by
 obtain ⟨a',n',c',e0,e1,e2,e3,e4⟩:=h
 injection e0 with e0 _
 injection e0 with q1 q2 q3
 subst q1;subst q2;subst q3
 refine ⟨e1,fun i u hu=>?_⟩
 obtain ⟨ad,cs,r1,r2,r3,r4⟩:=e4 i u hu
 have hlen:cs.length=6:=r2
 have hsp:ad.spot=none:=by
  obtain ⟨u0,hu0⟩:∃ u0,us[0]? = some u0:=⟨_,List.getElem?_eq_getElem (by have:=(List.getElem?_eq_some_iff.1 hu).1;omega)⟩
  obtain ⟨ad',cs',s1,s2,s3,s4⟩:=e4 0 u0 hu0
  rw [r1] at s1
  injection s1 with s1
  subst s1
  have hlen':cs'.length=6:=s2
  have hc0:=(s3 0 _ (List.getElem?_eq_getElem (by omega))).1
  rw [Nat.zero_mul,Nat.zero_add,show ad.add 0=ad from by unfold Addr.add;simp] at hc0
  unfold World.cell? at hc0
  split at hc0
  ·split at hc0
   ·cases hc0
   ·rename_i hs
    cases hsx:ad.spot with
    | none=>rfl
    | some q=>rw [hsx] at hs;simp at hs
  ·cases hc0
 obtain ⟨B,o,sp⟩:=ad
 cases hsp
 refine ⟨B,o,cs,r1,hlen,r4,fun j x hj=>?_⟩
 have:=(r3 j x hj).1
 rw [add_at] at this
 exact this
theorem rep_later {w w':World} {t:Ty} {x:t.D} {cs:List Value} (h:RepD w (C00 w) t x cs) (hb:Below w.heap.size w w'):RepD w' (C00 w') t x cs:=
 h.gw fun a u ha hc=>⟨(hb.cell (cell_lt ha)).trans ha,show a.block < w'.heap.size from Nat.lt_of_lt_of_le (cell_lt ha) hb.size⟩
theorem user_form {w:World} {C:Com} {u:UserD} {cs:List Value} (h:RepD w C userT u cs):∃ (s:ByteArray) (a1 a2 a3:Option Addr) (n1 n2 n3 c1 c2 c3:Nat),cs=[.string s,.slice a1 n1 c1,.slice a2 n2 c2,.int .i64 u.2.2.1,.complex .f64 u.2.2.2.1.1 u.2.2.2.1.2,.slice a3 n3 c3]:=by
 obtain ⟨k1,k2,rfl,⟨s,rfl,_⟩,l1,l2,rfl,⟨m1,m2,rfl,⟨a1,n1,c1,rfl,_⟩,⟨a2,n2,c2,rfl,_⟩⟩,o1,o2,rfl,⟨rfl,_⟩,p1,p2,rfl,rfl,⟨a3,n3,c3,rfl,_⟩⟩:=h
 exact ⟨_,_,_,_,_,_,_,_,_,_,rfl⟩
set_option maxHeartbeats 8000000 in
set_option maxRecDepth 1000000 in
theorem eqf_walk {w:World} {us vs:List UserD} {a b:Option Addr} {n m c d:Nat} (hu:RepD w (C00 w) (.sl userT) us [.slice a n c]) (hv:RepD w (C00 w) (.sl userT) vs [.slice b m d]) (hn:n<=1000000) {r:Bool} (h:eqfP us vs=some r) :
    Calls Tryz.prog 61 #[.slice a n c,.slice b m d,.func (.func 62) #[] #[]] w fun e w'=>e=.returned (.bool r) /\ Below w.heap.size w w':=by
  obtain ⟨hul,hu1⟩:=rep_user hu
  obtain ⟨hvl,hv1⟩:=rep_user hv
  have HC:Aside ((∀ (i:Nat) (u:UserD),us[i]? = some u -> ∃ (B o:Nat) (cs:List Value),a=some ⟨B,o,none⟩ /\ cs.length=6 /\ RepD w (C00 w) userT u cs /\ ∀ j x,cs[j]? = some x->w.cell? ⟨B,o+(i*6+j),none⟩=some x) /\ ∀ (i:Nat) (u:UserD),vs[i]? = some u -> ∃ (B o:Nat) (cs:List Value),b=some ⟨B,o,none⟩ /\ cs.length=6 /\ RepD w (C00 w) userT u cs /\ ∀ j x,cs[j]? = some x->w.cell? ⟨B,o+(i*6+j),none⟩=some x):=⟨hu1,hv1⟩
  have HL:Aside (us.length=n /\ vs.length=m):=⟨hul,hvl⟩
  have HH:Aside (eqfP us vs=some r):=h
  clear hu hv hu1 hv1 hul hvl h
  by_cases hnm:n=m
  · subst hnm
    have h:eqfL us vs=some r:=by
      have h:=HH.out
      unfold eqfP at h
      rw [HL.out.1,HL.out.2,show Nat.beq n n=true from by simp,cond_true] at h
      exact h
    have HE:Aside (eqfL us vs=some r):=h
    clear h HH
    go_enter Tryz.func61,Tryz.ntmps61
    go_wp2
    go_loopw [17] (fun v wr=>∃ k:Nat,k<=n /\ v=.int .i64 k /\ Below w.heap.size w wr /\ Aside (eqfL (us.drop k) (vs.drop k)=some r)) (fun v _=>n - (RowKit.intOf v).toNat)
    case atStart=>exact ⟨0,by omega,rfl,Below.refl _ _,HE.out⟩
    case round=>
      obtain ⟨k,hk,rfl,hb,HA⟩:=hrel
      by_cases hlt:k < n
      · obtain ⟨u,hku⟩:∃ u,us[k]? = some u:=⟨_,List.getElem?_eq_getElem (by rw [HL.out.1];exact hlt)⟩
        obtain ⟨v,hkv⟩:∃ v,vs[k]? = some v:=⟨_,List.getElem?_eq_getElem (by rw [HL.out.2];exact hlt)⟩
        obtain ⟨B,o,cs,rfl,hcs6,hru,hcu⟩:=HC.out.1 k u hku
        obtain ⟨B',o',ds,rfl,hds6,hrv,hdv⟩:=HC.out.2 k v hkv
        obtain ⟨s1,p1,p2,p3,n1,n2,n3,e1,e2,e3,rfl⟩:=user_form hru
        obtain ⟨s2,q1,q2,q3,m1,m2,m3,f1,f2,f3,rfl⟩:=user_form hrv
        have cell:∀ {p:Addr} {z:Value},w.cell? p=some z->wr.cell? p=some z:=fun hp=>(hb.cell (cell_lt hp)).trans hp
        have a0:=cell (hcu 0 _ rfl)
        have a1:=cell (hcu 1 _ rfl)
        have a2:=cell (hcu 2 _ rfl)
        have a3:=cell (hcu 3 _ rfl)
        have a4:=cell (hcu 4 _ rfl)
        have a5:=cell (hcu 5 _ rfl)
        have b0:=cell (hdv 0 _ rfl)
        have b1:=cell (hdv 1 _ rfl)
        have b2:=cell (hdv 2 _ rfl)
        have b3:=cell (hdv 3 _ rfl)
        have b4:=cell (hdv 4 _ rfl)
        have b5:=cell (hdv 5 _ rfl)
        simp only [Nat.add_zero,<- Nat.add_assoc] at a0 a1 a2 a3 a4 a5 b0 b1 b2 b3 b4 b5
        have hAlt:=cell_lt a0
        have hBlt:=cell_lt b0
        have hun:us.drop k=u::us.drop (k+1):=by
          have:=List.drop_eq_getElem_cons (l:=us) (i:=k) (by rw [HL.out.1];exact hlt)
          rw [this]
          congr 1
          have h2:=List.getElem?_eq_getElem (l:=us) (i:=k) (by rw [HL.out.1];exact hlt)
          rw [h2] at hku
          injection hku
        have hvn:vs.drop k=v::vs.drop (k+1):=by
          have:=List.drop_eq_getElem_cons (l:=vs) (i:=k) (by rw [HL.out.2];exact hlt)
          rw [this]
          congr 1
          have h2:=List.getElem?_eq_getElem (l:=vs) (i:=k) (by rw [HL.out.2];exact hlt)
          rw [h2] at hkv
          injection hkv
        have hA:=HA.out
        rw [hun,hvn] at hA
        obtain ⟨q,hq,hA⟩:=Option.bind_eq_some_iff.1 (show (sameU u v).bind (fun b=>cond b (eqfL (us.drop (k+1)) (vs.drop (k+1))) (some false))=some r from hA)
        have hcl:∀ {W:World},Below wr.heap.size wr W->Calls Tryz.prog 62 #[.agg #[.string s1,.slice p1 n1 e1,.slice p2 n2 e2,.int .i64 u.2.2.1,.complex .f64 u.2.2.2.1.1 u.2.2.2.1.2,.slice p3 n3 e3],.agg #[.string s2,.slice q1 m1 f1,.slice q2 m2 f2,.int .i64 v.2.2.1,.complex .f64 v.2.2.2.1.1 v.2.2.2.1.2,.slice q3 m3 f3]] W fun e W'=>e=.returned (.bool q) /\ Below W.heap.size W W':=fun hW=>same1_calls (rep_later (rep_later hru hb) hW) (rep_later (rep_later hrv hb) hW) hq
        have hcl:=@hcl
        have HQ:Aside (cond q (eqfL (us.drop (k+1)) (vs.drop (k+1))) (some false)=some r):=hA
        have hs:w.heap.size<=wr.heap.size:=hb.size
        clear hku hkv hru hrv hcu hdv hcs6 hds6 hun hvn hA HA hq HC
        have hsc:=@store_cpz Tryz.prog
        cases q with
        | true=>
          go_wp2_with (first | (go_at_call 62;refine (hcl ?bel).mono ?_;rotate_left;rintro e w' ⟨rfl,hw'⟩) | go_in)
          case bel=>exact ((Below.refl _ _).alloc (Nat.le_refl _) _).alloc (by simp) _
          refine ⟨⟨k+1,by omega,by simp,((hb.alloc hs _).alloc (by simp;omega) _).trans (hw'.mono (by simp;omega)),HQ.out⟩,by simp [RowKit.intOf];omega⟩
        | false=>
          have hr:false=r:=Option.some.inj HQ.out
          subst hr
          go_wp2_with (first | (go_at_call 62;refine (hcl ?bel).mono ?_;rotate_left;rintro e w' ⟨rfl,hw'⟩) | go_in)
          case bel=>exact ((Below.refl _ _).alloc (Nat.le_refl _) _).alloc (by simp) _
          go_ret
          exact ⟨rfl,((hb.alloc hs _).alloc (by simp;omega) _).trans (hw'.mono (by simp;omega))⟩
      · obtain rfl:k=n:=by omega
        have hr:true=r:=by
          have h:=HA.out
          rw [List.drop_of_length_le (by rw [HL.out.1];omega)] at h
          exact Option.some.inj h
        subst hr
        go_wp2
        go_ret
        exact ⟨rfl,hb⟩
  · have hr : false = r := by
      have h:=HH.out
      unfold eqfP at h
      rw [HL.out.1,HL.out.2,show Nat.beq n m=false from Bool.eq_false_iff.2 fun e=>hnm (Nat.eq_of_beq_eq_true e),cond_false] at h
      exact Option.some.inj h
    subst hr
    clear HH HC HL
    go_enter Tryz.func61,Tryz.ntmps61
    go_wp2
    go_ret
    exact ⟨rfl,Below.refl _ _⟩
def confV (C:Nat->Int) (v:Value):Array Value:=#[.int .i64 (C 0),.int .i64 (C 1),.int .i64 (C 2),.int .i64 (C 3),.int .i64 (C 4),.int .i64 (C 5),.int .i64 (C 6),v]
noncomputable def sameC (C D:Nat->Int) (us vs:List UserD):Option Bool:=cond ((List.range 7).all fun k=>C k==D k) (eqfP us vs) (some false)
theorem conf_cell {w:World} {B:Nat} {T:TypeId} {C:Nat->Int} {v:Value} (h:w.heap[B]? = some (.cells (confV C v) T (0,0))) {k:Nat} (hk:k < 7):w.cell? ⟨B,k,none⟩=some (.int .i64 (C k)):=by
 rw [cell_at h]
 match k,hk with
 | 0,_=>rfl
 | 1,_=>rfl
 | 2,_=>rfl
 | 3,_=>rfl
 | 4,_=>rfl
 | 5,_=>rfl
 | 6,_=>rfl
set_option maxHeartbeats 8000000 in
set_option maxRecDepth 1000000 in
theorem same_walk {w:World} {C D:Nat->Int} {us vs:List UserD} {a b:Option Addr} {n m c d:Nat} (hu:RepD w (C00 w) (.sl userT) us [.slice a n c]) (hv:RepD w (C00 w) (.sl userT) vs [.slice b m d]) (hn:n<=1000000) {r:Bool} (h:sameC C D us vs=some r) :
  Calls Tryz.prog 31 #[.agg (confV C (.slice a n c)),.agg (confV D (.slice b m d))] w fun e w'=>e=.returned (.bool r) /\ Below w.heap.size w w':=by
 have HU:Aside (RepD w (C00 w) (.sl userT) us [.slice a n c] /\ RepD w (C00 w) (.sl userT) vs [.slice b m d] /\ sameC C D us vs=some r):=⟨hu,hv,h⟩
 clear hu hv h
 go_enter Tryz.func31,Tryz.ntmps31
 go_wp2_with (go_at_call 60;refine (lims_walk w.heap.size _).mono ?_;rintro e W1 ⟨rfl,hB,hb1⟩)
 have hs1:w.heap.size+3<=W1.heap.size:=by have:=(Array.getElem?_eq_some_iff.1 hB).1;simp at this;omega
 have hC1:W1.heap[w.heap.size]? = some (.cells (confV C (.slice a n c)) 51 (0,0)):=by
  rw [hb1.block _ (by simp;omega),heap_alloc_old _ _ (by simp),heap_alloc_new]
 have hD1:W1.heap[w.heap.size+1]? = some (.cells (confV D (.slice b m d)) 51 (0,0)):=by
  rw [hb1.block _ (by simp),show w.heap.size+1=(w.alloc (.cells (confV C (.slice a n c)) 51)).heap.size from by simp,heap_alloc_new]
 have hb1:Below w.heap.size w W1:=⟨hb1.os,hb1.tape,hb1.output,by omega,fun b hb=>(hb1.block b (by simp;omega)).trans (by rw [heap_alloc_old _ _ (by simp;omega),heap_alloc_old _ _ hb])⟩
 have HB:Aside (W1.heap[w.heap.size+1+1]? = some (.cells (limCells w.heap.size) 124 (0,0)) /\ W1.heap[w.heap.size]? = some (.cells (confV C (.slice a n c)) 51 (0,0)) /\ W1.heap[w.heap.size+1]? = some (.cells (confV D (.slice b m d)) 51 (0,0))):=⟨by simpa using hB,hC1,hD1⟩
 clear hB hC1 hD1
 go_loopw [9] (fun vi wr=>∃ k:Nat,vi=.int .i64 k /\ k<=7 /\ Below W1.heap.size W1 wr /\ Aside (∀ j,j < k->C j=D j)) (fun vi _=>7 - (intOf vi).toNat)
 case atStart=>exact ⟨0,rfl,by omega,Below.refl _ _,fun j hj=>absurd hj (by omega)⟩
 case round=>
  obtain ⟨k,rfl,hk,hbr,HA⟩:=hrel
  have hb2:Below w.heap.size w wr:=hb1.trans (hbr.mono hb1.size)
  have blk:∀ {B:Nat} {o:Obj},W1.heap[B]? = some o->wr.heap[B]? = some o:=fun h=>(hbr.block _ (Array.getElem?_eq_some_iff.1 h).1).trans h
  have hLr:=blk HB.out.1
  have hCr:=blk HB.out.2.1
  have hDr:=blk HB.out.2.2
  have hsr:w.heap.size+3<=wr.heap.size:=Nat.le_trans hs1 hbr.size
  have hl0:w.heap.size < wr.heap.size:=by omega
  have hl1:w.heap.size+1 < wr.heap.size:=by omega
  by_cases hk7:k < 7
  ·obtain ⟨k0,k1,k2,k3⟩:=lim_at hLr hk7
   have hCk:=conf_cell hCr hk7
   obtain ⟨lw,hlw⟩:∃ lw,limW k=lw:=⟨_,rfl⟩
   obtain ⟨llo,hllo⟩:∃ l,limLo k=l:=⟨_,rfl⟩
   obtain ⟨lhi,hlhi⟩:∃ l,limHi k=l:=⟨_,rfl⟩
   rw [hlw] at k0
   rw [hllo] at k1
   rw [hlhi] at k2
   have key:∀ W' W2:World,W'.heap=(wr.alloc (.cells #[.string lw,.int .i64 llo,.int .i64 lhi,.pointer (some ⟨w.heap.size,k,none⟩)] 124)).heap->Below W'.heap.size W' W2->W2.heap[wr.heap.size+1]? = some (.cells (limCells (w.heap.size+1)) 124 (0,0))->W2.cell? ⟨wr.heap.size+1,k*4+3,none⟩=some (.pointer (some ⟨w.heap.size+1,k,none⟩)) /\ W2.cell? ⟨w.heap.size+1,k,none⟩=some (.int .i64 (D k)) /\ W2.cell? ⟨wr.heap.size,3,none⟩=some (.pointer (some ⟨w.heap.size,k,none⟩)) /\ W2.cell? ⟨w.heap.size,k,none⟩=some (.int .i64 (C k)) /\ wr.heap.size+2<=W2.heap.size:=by
    intro W' W2 hW hb hL
    have hz:W'.heap.size=wr.heap.size+1:=by rw [hW];simp
    have old:∀ {B:Nat} {o:Obj},wr.heap[B]? = some o->W2.heap[B]? = some o:=fun {B o} h=>by
     have hB:=(Array.getElem?_eq_some_iff.1 h).1
     rw [hb.block B (by omega),hW,heap_alloc_old _ _ hB,h]
    refine ⟨(lim_at hL hk7).2.2.2,conf_cell (old hDr) hk7,?_,conf_cell (old hCr) hk7,(Array.getElem?_eq_some_iff.1 hL).1⟩
    rw [cell_at (show W2.heap[wr.heap.size]? = _ from by rw [hb.block _ (by omega),hW,heap_alloc_new])]
    rfl
   have hkey:Aside _:=key
   have HR:Aside (_ /\ _ /\ _):=⟨hLr,hCr,hDr⟩
   clear key hlw hllo hlhi hLr hCr hDr blk
   go_wp2
   go_region_with (go_at_call 60;(refine (lims_walk (w.heap.size+1) _).mono ?_;rintro e W2 ⟨rfl,hL2,hb3⟩;obtain ⟨d1,d2,d3,d4,d5⟩:=hkey.out _ W2 (by rfl) hb3 (by simpa using hL2)))
   all_goals
    have hb4:Below W1.heap.size W1 W2:=hbr.trans ⟨hb3.os,hb3.tape,hb3.output,by omega,fun b hb=>(hb3.block b (by simp [World.drew];have:=hbr.size;omega)).trans (heap_alloc_old wr _ (Nat.lt_of_lt_of_le hb hbr.size))⟩
    cases hq:(C k != D k) with
    | false=>
     go_wp2
     refine ⟨⟨k+1,by simp,by omega,hb4,fun j hj=>?_⟩,by simp [intOf];omega⟩
     rcases Nat.lt_or_ge j k with h | h
     ·exact HA.out j h
     ·obtain rfl:j=k:=by omega
      simpa using hq
    | true=>
     go_wp2
     go_ret
     have hr:=HU.out.2.2
     unfold sameC at hr
     rw [show ((List.range 7).all fun k=>C k==D k)=false from by
      rw [List.all_eq_false]
      exact ⟨k,List.mem_range.2 hk7,by simpa using hq⟩] at hr
     injection hr with hr
     subst hr
     refine ⟨rfl,hb1.trans (hb4.mono hb1.size)⟩
  ·have hk7:k=7:=by omega
   subst hk7
   have hr:=HU.out.2.2
   unfold sameC at hr
   rw [show ((List.range 7).all fun k=>C k==D k)=true from by
    rw [List.all_eq_true]
    exact fun j hj=>by simpa using HA.out j (List.mem_range.1 hj)] at hr
   have hC7:wr.cell? ⟨w.heap.size,7,none⟩=some (.slice a n c):=by rw [cell_at hCr];rfl
   have hD7:wr.cell? ⟨w.heap.size+1,7,none⟩=some (.slice b m d):=by rw [cell_at hDr];rfl
   have hcl:Calls Tryz.prog 61 #[.slice a n c,.slice b m d,.func (.func 62) #[] #[]] wr fun e w'=>e=.returned (.bool r) /\ Below wr.heap.size wr w':=eqf_walk (rep_later HU.out.1 hb2) (rep_later HU.out.2.1 hb2) hn hr
   go_wp2_with (go_at_call 61;refine hcl.mono ?_;rintro e w9 ⟨rfl,hb9⟩)
   all_goals
    go_ret
    exact ⟨rfl,hb2.trans (hb9.mono (by omega))⟩
def seven (c0 c1 c2 c3 c4 c5 c6:Int):Nat->Int
 | 0=>c0
 | 1=>c1
 | 2=>c2
 | 3=>c3
 | 4=>c4
 | 5=>c5
 | _=>c6
def F_conf_Same_sig:Sig:=⟨[.v true [.d (.int .i64),.d (.int .i64),.d (.int .i64),.d (.int .i64),.d (.int .i64),.d (.int .i64),.d (.int .i64),.d (.sl userT)],.v true [.d (.int .i64),.d (.int .i64),.d (.int .i64),.d (.int .i64),.d (.int .i64),.d (.int .i64),.d (.int .i64),.d (.sl userT)]],[(false,[.d .bool])]⟩
noncomputable def F_conf_Same (c0 c1 c2 c3 c4 c5 c6:Int) (us:List UserD) (d0 d1 d2 d3 d4 d5 d6:Int) (vs:List UserD):Option Bool:=cond (Nat.ble us.length 1000000) (sameC (seven c0 c1 c2 c3 c4 c5 c6) (seven d0 d1 d2 d3 d4 d5 d6) us vs) none
theorem F_conf_Same_sound {T:Tab}:SoundFn Tryz.prog T 31 F_conf_Same_sig ⟨F_conf_Same⟩:=by
 refine sound_of rfl fun F g O xs ls y tmf w args hT hw hlim hls happ hsz hr=>?_
 obtain ⟨(c0:Int),_,rfl,h1⟩:=appF_inv_c happ
 obtain ⟨(c1:Int),_,rfl,h2⟩:=appF_inv_c h1
 obtain ⟨(c2:Int),_,rfl,h3⟩:=appF_inv_c h2
 obtain ⟨(c3:Int),_,rfl,h4⟩:=appF_inv_c h3
 obtain ⟨(c4:Int),_,rfl,h5⟩:=appF_inv_c h4
 obtain ⟨(c5:Int),_,rfl,h6⟩:=appF_inv_c h5
 obtain ⟨(c6:Int),_,rfl,h7⟩:=appF_inv_c h6
 obtain ⟨(us:List UserD),_,rfl,h8⟩:=appF_inv_c h7
 obtain ⟨(d0:Int),_,rfl,h9⟩:=appF_inv_c h8
 obtain ⟨(d1:Int),_,rfl,h10⟩:=appF_inv_c h9
 obtain ⟨(d2:Int),_,rfl,h11⟩:=appF_inv_c h10
 obtain ⟨(d3:Int),_,rfl,h12⟩:=appF_inv_c h11
 obtain ⟨(d4:Int),_,rfl,h13⟩:=appF_inv_c h12
 obtain ⟨(d5:Int),_,rfl,h14⟩:=appF_inv_c h13
 obtain ⟨(d6:Int),_,rfl,h15⟩:=appF_inv_c h14
 obtain ⟨(vs:List UserD),_,rfl,h16⟩:=appF_inv_c (ts:=[]) h15
 obtain ⟨rfl,h17⟩:=appF_inv_n h16
 have hls':some [Leaf.d (.int .i64) c0,.d (.int .i64) c1,.d (.int .i64) c2,.d (.int .i64) c3,.d (.int .i64) c4,.d (.int .i64) c5,.d (.int .i64) c6,.d (.sl userT) us,.d (.int .i64) d0,.d (.int .i64) d1,.d (.int .i64) d2,.d (.int .i64) d3,.d (.int .i64) d4,.d (.int .i64) d5,.d (.int .i64) d6,.d (.sl userT) vs]=some ls:=hls
 injection hls' with hls'
 subst hls'
 have r0:RelV F g w O (args.getD 0 undef) true [Leaf.d (.int .i64) c0,.d (.int .i64) c1,.d (.int .i64) c2,.d (.int .i64) c3,.d (.int .i64) c4,.d (.int .i64) c5,.d (.int .i64) c6,.d (.sl userT) us]:=hr 0
 have r1:RelV F g w O (args.getD 1 undef) true [Leaf.d (.int .i64) d0,.d (.int .i64) d1,.d (.int .i64) d2,.d (.int .i64) d3,.d (.int .i64) d4,.d (.int .i64) d5,.d (.int .i64) d6,.d (.sl userT) vs]:=hr 1
 obtain ⟨_,⟨_,_,rfl,⟨rfl,_⟩,_,_,rfl,⟨rfl,_⟩,_,_,rfl,⟨rfl,_⟩,_,_,rfl,⟨rfl,_⟩,_,_,rfl,⟨rfl,_⟩,_,_,rfl,⟨rfl,_⟩,_,_,rfl,⟨rfl,_⟩,_,_,rfl,r8,rfl⟩,e0⟩:=r0
 obtain ⟨_,⟨_,_,rfl,⟨rfl,_⟩,_,_,rfl,⟨rfl,_⟩,_,_,rfl,⟨rfl,_⟩,_,_,rfl,⟨rfl,_⟩,_,_,rfl,⟨rfl,_⟩,_,_,rfl,⟨rfl,_⟩,_,_,rfl,⟨rfl,_⟩,_,_,rfl,s8,rfl⟩,e1⟩:=r1
 have r8:RepD w g.C (.sl userT) us _:=r8
 have s8:RepD w g.C (.sl userT) vs _:=s8
 have r9:RepD w (C00 w) (.sl userT) us _:=r8.gw fun a u ha hc=>⟨ha,hlim _ _ hc⟩
 have s9:RepD w (C00 w) (.sl userT) vs _:=s8.gw fun a u ha hc=>⟨ha,hlim _ _ hc⟩
 clear r8 s8
 obtain ⟨a,n,c,rfl,q⟩:=r9
 obtain ⟨b,m,d,rfl,q'⟩:=s9
 rw [args_2 hsz,show args.getD 0 undef=.agg (confV (seven c0 c1 c2 c3 c4 c5 c6) (.slice a n c)) from e0,show args.getD 1 undef=.agg (confV (seven d0 d1 d2 d3 d4 d5 d6) (.slice b m d)) from e1]
 have h:F_conf_Same c0 c1 c2 c3 c4 c5 c6 us d0 d1 d2 d3 d4 d5 d6 vs=some y:=h17
 unfold F_conf_Same at h
 cases hb:Nat.ble us.length 1000000 with
 | false=>rw [hb] at h;cases h
 | true=>
  rw [hb,cond_true] at h
  have hn:n<=1000000:=by
   have:=Nat.le_of_ble_eq_true hb
   have e:us.length=n:=q.1
   omega
  refine (same_walk (w:=w) ⟨a,n,c,rfl,q⟩ ⟨b,m,d,rfl,q'⟩ hn h).mono ?_
  rintro e w' ⟨rfl,hbel⟩
  refine ⟨[.bool y],_,g.C,fun _=>none,rfl,rfl,rfl,hbel,fun _ _ _=>Iff.rfl,fun b o h=>Nat.lt_of_lt_of_le (hlim b o h) hbel.size,rfl,fun k b h=>(by cases h),fun k k' b h=>(by cases h),fun i hi=>?_⟩
  match i,hi with
  | 0,_=>exact rel_leaf.2 rfl
  | i+1,hi=>exact absurd hi (by show ¬ i+1 < 1;omega)
end Go.Proofs.YtgfmfgombmpodaaGreatDoor
namespace Go.Proofs.YtgfmfgombmpodaaGreatDoor
set_option linter.unusedVariables false
def hexd (n:Nat):Int:=if n < 10 then 48+(n:Int) else 87+(n:Int)
def hexF:Nat->Nat->List Int
 | 0,_=>[]
 | k+1,n=>if n < 16 then [hexd n] else hexF k (n / 16)++[hexd (n % 16)]
def hexI (n:Nat):List Int:=hexF 17 n
theorem hexF_more:∀ (k n:Nat),n < 16 ^ k->hexF (k+1) n=hexF k n \/ k=0
 | 0,_,_=>.inr rfl
 | k+1,n,h=>by
  left
  show (if n < 16 then [hexd n] else hexF (k+1) (n / 16)++[hexd (n % 16)])=(if n < 16 then [hexd n] else hexF k (n / 16)++[hexd (n % 16)])
  by_cases h16:n < 16
  ·rw [if_pos h16,if_pos h16]
  ·rw [if_neg h16,if_neg h16]
   have:n / 16 < 16 ^ k:=by rw [Nat.pow_succ] at h;omega
   rcases hexF_more k (n / 16) this with e | e
   ·rw [e]
   ·subst e;omega
theorem hexI_step {n:Nat} (h:¬ n < 16) (hn:n < 65536):hexI n=hexI (n / 16)++[hexd (n % 16)]:=by
  have e:hexI n=hexF 16 (n / 16)++[hexd (n % 16)]:=if_neg h
  rw [e]
  unfold hexI
  rcases hexF_more 16 (n / 16) (by have : (16 : Nat) ^ 16 = 18446744073709551616 := rfl
                                   omega) with e | e
  · rw [e]
  · cases e
theorem hexI_one {n:Nat} (h:n < 16):hexI n=[hexd n]:=if_pos h
theorem hexd_in {q:Nat} (h:q < 16):(48<=hexd q /\ hexd q<=57) \/ (97<=hexd q /\ hexd q<=102):=by
 unfold hexd
 split <;> omega
theorem hex_len:∀ (k n:Nat),n < 16 ^ (k+1)->n < 65536->1<=(hexI n).length /\ (hexI n).length<=k+1
 | 0,n,h,_=>by
  have h:n < 16:=by simpa using h
  rw [hexI_one h];simp
 | k+1,n,h,h2=>by
  by_cases h16:n < 16
  ·rw [hexI_one h16];simp
  ·obtain ⟨a,b⟩:=hex_len k (n / 16) (by rw [Nat.pow_succ] at h;omega) (by omega)
   rw [hexI_step h16 h2,List.length_append]
   simp;omega
theorem hex_mem:∀ (k n:Nat),n < 16 ^ (k+1)->n < 65536 -> ∀ c∈hexI n,(48<=c /\ c<=57) \/ (97<=c /\ c<=102)
 | 0,n,h,_=>by
  have h:n < 16:=by simpa using h
  rw [hexI_one h]
  intro c hc
  rw [List.mem_singleton.1 hc]
  exact hexd_in h
 | k+1,n,h,h2=>by
  by_cases h16:n < 16
  ·rw [hexI_one h16]
   intro c hc
   rw [List.mem_singleton.1 hc]
   exact hexd_in h16
  ·rw [hexI_step h16 h2]
   intro c hc
   rcases List.mem_append.1 hc with hc | hc
   ·exact hex_mem k (n / 16) (by rw [Nat.pow_succ] at h;omega) (by omega) c hc
   ·rw [List.mem_singleton.1 hc]
    exact hexd_in (by omega)
end Go.Proofs.YtgfmfgombmpodaaGreatDoor
namespace Go.Proofs.YtgfmfgombmpodaaGreatDoor
open Pv
set_option linter.unusedVariables false
def F_strconv_FormatInt_sig:Sig:=⟨[.v false [.d (.int .i64)],.v false [.d (.int .i64)]],[(false,[.d .str])]⟩
def F_strconv_FormatInt (n b:Int):Option (List Int):=cond (b==16&&decide (0<=n)&&decide (n < 65536)) (some (hexI n.toNat)) none
def F_bytes_Clone_sig:Sig:=⟨[.v false [.d (.sl (.int .u8))]],[(false,[.own 5 (.int .u8)])]⟩
def F_bytes_Clone (l:List Int):Option (List Int):=cond (Nat.ble l.length 100000000) (some l) none
end Go.Proofs.YtgfmfgombmpodaaGreatDoor
namespace Go.Proofs.YtgfmfgombmpodaaGreatDoor
open Go.RowKit Go.Lib Pv
set_option linter.unusedVariables false

set_option maxHeartbeats 4000000 in
set_option maxRecDepth 1000000 in
theorem bcl_at (a:Addr) (n c:Nat) (l:List Int) (w:World) (hl:l.length=n) (hbig:n<=140737488355328) (hc:∀ (i:Nat) x,l[i]? = some x->w.cell? (a.add i)=some (.int .u8 x)) :
  Calls Tryz.prog 52 #[.slice (some a) n c] w fun e w'=>∃ v',e=.returned v' /\ w'.ownsRow w.heap.size 5 1 v' n (l.map (Value.int .u8)) /\ Below w.heap.size w w':=by
 obtain ⟨i0,hi,hz0,hz1,hz2⟩:=info_parts infoU
 have q22:∀ (w:World) (a:Option Addr) (n c n' c':Nat),(binOp .eql 32 (.slice a n c) (.slice none n' c')).run Tryz.prog w=.ok (.bool a.isNone) w:=fun w a n c n' c'=>Lib.run_eql_slice_nil w _ _ a n c n' c' Tryz.underlying32
 have A:Aside (∀ (i:Nat) x,l[i]? = some x->w.cell? (a.add i)=some (.int .u8 x)):=hc
 clear hc
 go_enter Tryz.func52,Tryz.ntmps52
 go_wp2_with (at_builtin;refine wpList_append_own _ rfl _ _ 32 rfl w.heap.size 5 i0 (.int .u8 0) 1 1 Tryz.underlying32 hi hz0 hz1 hz2 rfl (by decide) _ _ _ rfl (World.ownsRow_made w #[] 0 (Nat.le_refl _) (Nat.zero_le _) rfl) a n c (l.map (Value.int .u8)) rfl ?qc1 ?qc2 ?qc3 ?qc4 ?qc5 ?qc6 ?_)
 case qc1=>simp;omega
 case qc2=>
  intro j u hj
  rw [List.getElem?_map] at hj
  obtain ⟨x,hx,rfl⟩:=Option.map_eq_some_iff.1 hj
  exact Lib.cell?_alloc_some _ (A.out j x hx)
 case qc3=>intro u hu;obtain ⟨x,_,rfl⟩:=List.mem_map.1 hu;rfl
 case qc4=>unfold maxLen;omega
 case qc5=>omega
 case qc6=>simp
 intro v' w1 hown hgrow hnil
 go_wp2
 go_ret
 exact ⟨v',rfl,by simpa using hown,((Below.refl _ w).alloc (Nat.le_refl _) _).grown hgrow (by simp) (by intro k hk;simp [Value.ownBlock] at hk;omega)⟩
set_option maxHeartbeats 4000000 in
theorem bcl_nil (n c:Nat) (w:World):Calls Tryz.prog 52 #[.slice none n c] w fun e w'=>e=.returned (.slice none 0 0) /\ w'=w:=by
 have q22:∀ (w:World) (a:Option Addr) (n c n' c':Nat),(binOp .eql 32 (.slice a n c) (.slice none n' c')).run Tryz.prog w=.ok (.bool a.isNone) w:=fun w a n c n' c'=>Lib.run_eql_slice_nil w _ _ a n c n' c' Tryz.underlying32
 go_enter Tryz.func52,Tryz.ntmps52
 go_wp2
 go_ret
 exact ⟨rfl,rfl⟩
theorem F_bytes_Clone_sound {T:Tab}:SoundFn Tryz.prog T 52 F_bytes_Clone_sig ⟨F_bytes_Clone⟩:=by
 refine sound_of rfl fun F g O xs ls y tmf w args hT hw hlim hls happ hsz hr=>?_
 obtain ⟨(l:List Int),xs',rfl,h2⟩:=appF_inv_c (ts:=[]) happ
 obtain ⟨rfl,h3⟩:=appF_inv_n h2
 have hls':some [Leaf.d (.sl (.int .u8)) l]=some ls:=hls
 injection hls' with hls'
 subst hls'
 obtain ⟨a,n,c,e0,e1,e2,e3,e4,e5,e6⟩:=rel_ints (hr 0)
 rw [args_1 hsz,e0]
 have h3:cond (Nat.ble l.length 100000000) (some l) none=some y:=h3
 cases hb:Nat.ble l.length 100000000 with
 | false=>rw [hb] at h3;cases h3
 | true=>
  rw [hb] at h3
  have hy:l=y:=by injection h3
  have hb:=Nat.le_of_ble_eq_true hb
  subst hy
  cases a with
  | none=>
   have hl:=e6 rfl
   refine (bcl_nil n c w).mono ?_
   rintro e w' ⟨rfl,rfl⟩
   exact own_row (l:=l) hw hlim (Below.refl _ _) (by rw [hl];exact World.ownsRow_nil _ _ _ _) e4 rfl rfl
  | some ad=>
   refine (bcl_at ad n c l w e1 (by omega) (e5 ad rfl)).mono ?_
   rintro e w' ⟨v,rfl,h1,h2⟩
   exact own_row (l:=l) hw hlim h2 (by rw [e1];exact h1) e4 rfl rfl
end Go.Proofs.YtgfmfgombmpodaaGreatDoor
namespace Go.Proofs.YtgfmfgombmpodaaGreatDoor
open Go.RowKit
namespace Pv
set_option linter.unusedVariables false
def headIs (r:Nat):Code->Bool
 | .region id _ _=>Nat.beq id r
 | .seq a _=>headIs r a
 | _=>false
def dropTo (r:Nat):Code->Option Code
 | .seq a b=>match headIs r a with
  | true=>some (.seq a b)
  | false=>dropTo r b
 | _=>none
def midQ (E:Env) (fn:Func) (s:Sig) (x:Xt) (s':PSt):Option s.out.D:=match x with | .normal | .ret=>retF E.P fn.results.toList s s' | _=>none
noncomputable def pvMid (E:Env) (A:List (Nat×Ann)) (k0:Nat) (fn:Func) (s:Sig) (c:Code) (st:PSt):Option s.out.D:=
 match annot A c k0 with
 | some (ac,_)=>match ac.good&&ac.dsts.all (fun d=>Nat.blt d fn.ntmps)&&((List.range s.ps.length).all fun k=>!(isM s.ps k) || !(hasN ac.dsts k))&&Nat.beq fn.results.size s.rs.length with
  | true=>pv E ac (midQ E fn s) st
  | false=>none
 | none=>none
noncomputable def pvMidF (E:Env) (A:List (Nat×Ann)) (k0 r:Nat) (fn:Func) (s:Sig) (st:PSt):Option s.out.D:=match fn.body with
 | some b=>match dropTo r b with | some c=>pvMid E A k0 fn s c st | none=>none
 | none=>none
theorem mid_sound {T:Tab} {E:Env} (hE:E.ok T) {A:List (Nat×Ann)} {k0 r:Nat} {fn:Func} {s:Sig} {b c:Code} {F:Fr} {g:Gh} {st:PSt} {a:Act} {w:World} {y:s.out.D} (hb:fn.body=some b) (hc:dropTo r b=some c) (hT:TabF T F) (hn:F.n=fn.ntmps) (hA:AR F g st a w) (hv:pvMidF E A k0 r fn s st=some y) :
    c.wp E.P (fun e a' w'=>(e=.normal \/ e=.ret) /\ a'.defers=[] /\ ∃ us g' st',(results fn a'.tmps).run E.P w'=.ok (retV us) w' /\ us.length=s.rs.length /\ exitSt s y=some st' /\ MRel F g' st' (fun i=>us.getD i undef) w' /\ ∀ k,isM s.ps k=true->g'.ρ k=g.ρ k) a w:=by
  unfold pvMidF at hv
  rw [hb] at hv
  dsimp only at hv
  rw [hc] at hv
  dsimp only at hv
  unfold pvMid at hv
  split at hv
  case h_2=>cases hv
  rename_i ac k hac
  split at hv
  case h_2=>cases hv
  rename_i hgd
  simp only [Bool.and_eq_true] at hgd
  obtain ⟨⟨⟨hg1,hg2⟩,hg5⟩,hg6⟩:=hgd
  have hdst:∀ d∈ac.dsts,d < F.n:=fun d hd=>by
    have:=List.all_eq_true.1 hg2 d hd
    rw [Nat.blt_eq] at this
    omega
  have he:=annot_erase c k0 ac k hac
  have hs:=pv_sound ⟨T,hE,hT⟩ ac (by rw [annot_hands c k0 ac k hac];intro p hp;cases hp) _ st y g _ w hg1 hdst hA hv
  rw [he] at hs
  have fin : ∀ {x a' w' g' st'}, retF E.P fn.results.toList s st' = some y -> AR F g' st' a' w' -> LftX x (· ∈ ac.dsts) (· ∈ ac.ids) g a w g' a' w' ->
      a'.defers=[] /\ ∃ us g' st',(results fn a'.tmps).run E.P w'=.ok (retV us) w' /\ us.length=s.rs.length /\ exitSt s y=some st' /\ MRel F g' st' (fun i=>us.getD i undef) w' /\ ∀ k,isM s.ps k=true->g'.ρ k=g.ρ k:=fun {x a' w' g' st'} hr hA hl=>by
    obtain ⟨us,g2,stX,r1,r2,r3,r4,r5,r6⟩:=exit_relF hA hr
    refine ⟨hA.defers,us,g2,stX,results_run r2 r3,r1,r4,r5,fun k hk=>?_⟩
    rw [r6]
    refine hl.ρ k fun hm=>?_
    have hlt:k < s.ps.length:=by
      obtain ⟨ts,hts⟩:=isM_iff.1 hk
      exact (List.getElem?_eq_some_iff.1 hts).1
    have:=List.all_eq_true.1 hg5 k (List.mem_range.2 hlt)
    rw [hk,hasN_iff.2 hm] at this
    cases this
  refine Code.wp_mono (fun e a' w' hp=>?_) hs
  obtain ⟨x,st',g',rfl,hQ,hr,hl⟩:=hp
  cases x with
  | exit i=>cases hQ
  | normal=>exact ⟨.inl rfl,fin hQ hr hl⟩
  | ret=>exact ⟨.inr rfl,fin hQ hr hl⟩
  | goto i=>cases hQ
end Pv
end Go.Proofs.YtgfmfgombmpodaaGreatDoor
