/- Texts of this claim, one behind the other. -/
import Derived.Test.YtifbhefbhlbofaaDoorWatchFindsM4
import Derived.Laws.IdiomRangeMap
import Derived.ChangeMaps5
import Derived.Maps.RangeRun
set_option maxRecDepth 100000
namespace Go.Proofs.YtifbhefbhlbofaaDoor
open Pv
set_option linter.unusedVariables false
noncomputable def F_frame_New (i1:Int) (l2:List (Int×List Int)):Option (Int×List (Int×List Int)):=
 some ((l2.length:Int),(l2++[(i1,([]:List Int))]))
def F_frame_New_sig:Sig:=⟨[.v false [.d (.int .i64)]],[(false,[.d (.ptr 73)])],[(1000146,(.pr (.int .i64) (.sl (.int .u8))),true)]⟩
def F_frame_New_ann:List (Nat×Ann):=[]
noncomputable def F_frame_New_env:Env:=⟨Tryd.prog,[],[]⟩
theorem F_frame_New_text:pvFn F_frame_New_env F_frame_New_ann Tryd.f21 F_frame_New_sig=F_frame_New:=by kernel_rfl
noncomputable def F_sets_First:Option (Int×Int×Int×Int×Int×Int):=
 some (4096,1,2147483647,65535,16384,2147483647)
def F_sets_First_sig:Sig:=⟨[],[(true,[.d (.int .i64),.d (.int .i64),.d (.int .i64),.d (.int .i64),.d (.int .i64),.d (.int .i64)])],[]⟩
def F_sets_First_ann:List (Nat×Ann):=[]
noncomputable def F_sets_First_env:Env:=⟨Tryd.prog,[],[]⟩
theorem F_sets_First_text:pvFn F_sets_First_env F_sets_First_ann Tryd.f22 F_sets_First_sig=F_sets_First:=by kernel_rfl
noncomputable def F_stat_Size (s1:List Int) (s2:List Int) (b3:Bool):Option (Int):=
 some (IntKind.i64.wrap ((IntKind.i64.wrap ((s1.length:Int)+(s2.length:Int)))+32))
def F_stat_Size_sig:Sig:=⟨[.v true [.d .str,.d .str,.d .bool]],[(false,[.d (.int .i64)])],[]⟩
def F_stat_Size_ann:List (Nat×Ann):=[]
noncomputable def F_stat_Size_env:Env:=⟨Tryd.prog,[],[]⟩
theorem F_stat_Size_text:pvFn F_stat_Size_env F_stat_Size_ann Tryd.f66 F_stat_Size_sig=F_stat_Size:=by kernel_rfl
noncomputable def F_dyn_Table_shrinks_L2 (p1:Int) (i2:Int) (s:Int×List (List (List Int×List Int×Bool)×Int×Int)):Option (((List (List (List Int×List Int×Bool)×Int×Int))⊕(Int×List (List (List Int×List Int×Bool)×Int×Int)))⊕(Int×List (List (List Int×List Int×Bool)×Int×Int))):=
 let i4:=s.1;let l5:=s.2
 chk (nnI p1)
 ((getI l5 p1).bind fun x6=>
 cond (decide (i4 < (x6.1.length:Int)))
 (chk (nnI p1)
 ((getI l5 p1).bind fun x7=>
 cond (decide (x7.2.1 > i2))
 (chk (nnI p1)
 ((getI l5 p1).bind fun x8=>
 chk (nnI p1)
 ((getI l5 p1).bind fun x9=>
 (getI x9.1 i4).bind fun x10=>
 (F_stat_Size x10.1 x10.2.1 x10.2.2).bind fun i11=>
 chk (nnI p1)
 ((getI l5 p1).bind fun x12=>
 some (.inr ((IntKind.i64.wrap (i4+1)),(l5.set (Int.toNat p1) (x12.1,((IntKind.i64.wrap (x8.2.1 - i11)),x12.2.2)))))))))
 (some (.inl (.inr (i4,l5))))))
 (some (.inl (.inr (i4,l5)))))
noncomputable def F_dyn_Table_shrinks_J1 (p1:Int) (s:Int×List (List (List Int×List Int×Bool)×Int×Int)):Option (List (List (List Int×List Int×Bool)×Int×Int)):=
 let i13:=s.1;let l14:=s.2
 chk (nnI p1)
 ((getI l14 p1).bind fun x15=>
 (cutI x15.1 i13 (x15.1.length:Int)).bind fun l16=>
 chk (nnI p1)
 ((getI l14 p1).bind fun x17=>
 chk (eqI p1 p1)
 (some (l14.set (Int.toNat p1) (l16,x17.2)))))
noncomputable def F_dyn_Table_shrinks (p1:Int) (i2:Int) (l3:List (List (List Int×List Int×Bool)×Int×Int)):Option (List (List (List Int×List Int×Bool)×Int×Int)):=
 joinC (S:=Int×List (List (List Int×List Int×Bool)×Int×Int)) (R:=List (List (List Int×List Int×Bool)×Int×Int))
 (loopC (S:=Int×List (List (List Int×List Int×Bool)×Int×Int)) (R:=(List (List (List Int×List Int×Bool)×Int×Int))⊕(Int×List (List (List Int×List Int×Bool)×Int×Int))) (F_dyn_Table_shrinks_L2 p1 i2) (0,l3))
 (F_dyn_Table_shrinks_J1 p1)
def F_dyn_Table_shrinks_sig:Sig:=⟨[.v false [.d (.ptr 91)],.v false [.d (.int .i64)]],[],[(1000182,(.pr (.os 109 (.pr .str (.pr .str .bool))) (.pr (.int .i64) (.int .i64))),true)]⟩
def F_dyn_Table_shrinks_ann:List (Nat×Ann):=[(1,⟨2,[(4,false,[.d (.int .i64)])],[],(List.range' 5 32),[],[(1000182,(.pr (.os 109 (.pr .str (.pr .str .bool))) (.pr (.int .i64) (.int .i64))),true)],[]⟩),(2,⟨3,[(4,false,[.d (.int .i64)])],[],(List.range' 5 32),[],[(1000182,(.pr (.os 109 (.pr .str (.pr .str .bool))) (.pr (.int .i64) (.int .i64))),true)],[]⟩)]
noncomputable def F_dyn_Table_shrinks_env:Env:=⟨Tryd.prog,[(66,⟨F_stat_Size_sig,⟨F_stat_Size⟩⟩)],[41]⟩
theorem F_dyn_Table_shrinks_text:pvFn F_dyn_Table_shrinks_env F_dyn_Table_shrinks_ann Tryd.f57 F_dyn_Table_shrinks_sig=F_dyn_Table_shrinks:=by kernel_rfl
noncomputable def F_dyn_Table_Limit (p1:Int) (i2:Int) (l3:List (List (List Int×List Int×Bool)×Int×Int)):Option (Int×List (List (List Int×List Int×Bool)×Int×Int)):=
 cond ((decide (i2 < 0))||(decide (i2 > 4096)))
 (some (1,l3))
 (chk (nnI p1)
 ((getI l3 p1).bind fun x4=>
 (F_dyn_Table_shrinks p1 i2 (l3.set (Int.toNat p1) (x4.1,(x4.2.1,i2)))).bind fun l5=>
 chk (nnI p1)
 ((getI l5 p1).bind fun x6=>
 (F_slices_Clone_stat_Field_stat_Field x6.1).bind fun l7=>
 chk (nnI p1)
 ((getI l5 p1).bind fun x8=>
 chk (true)
 (some (0,(l5.set (Int.toNat p1) (l7,x8.2))))))))
def F_dyn_Table_Limit_sig:Sig:=⟨[.v false [.d (.ptr 91)],.v false [.d (.int .i64)]],[(false,[.d (.int .i64)])],[(1000182,(.pr (.os 109 (.pr .str (.pr .str .bool))) (.pr (.int .i64) (.int .i64))),true)]⟩
def F_dyn_Table_Limit_ann:List (Nat×Ann):=[]
noncomputable def F_dyn_Table_Limit_env:Env:=⟨Tryd.prog,[(57,⟨F_dyn_Table_shrinks_sig,⟨F_dyn_Table_shrinks⟩⟩),(58,⟨F_slices_Clone_stat_Field_stat_Field_sig,⟨F_slices_Clone_stat_Field_stat_Field⟩⟩)],[]⟩
theorem F_dyn_Table_Limit_text:pvFn F_dyn_Table_Limit_env F_dyn_Table_Limit_ann Tryd.f37 F_dyn_Table_Limit_sig=F_dyn_Table_Limit:=by kernel_rfl
noncomputable def F_dyn_New (i1:Int) (l2:List (List (List Int×List Int×Bool)×Int×Int)):Option (Int×Int×List (List (List Int×List Int×Bool)×Int×Int)):=
 (F_dyn_Table_Limit (l2.length:Int) i1 (l2++[(([]:List (List Int×List Int×Bool)),(0,0))])).bind fun x3=>
 cond (x3.1 != 0)
 (some ((-1:Int),1,x3.2))
 (some ((l2.length:Int),0,x3.2))
def F_dyn_New_sig:Sig:=⟨[.v false [.d (.int .i64)]],[(false,[.d (.ptr 91)]),(false,[.d (.int .i64)])],[(1000182,(.pr (.os 109 (.pr .str (.pr .str .bool))) (.pr (.int .i64) (.int .i64))),true)]⟩
def F_dyn_New_ann:List (Nat×Ann):=[]
noncomputable def F_dyn_New_env:Env:=⟨Tryd.prog,[(37,⟨F_dyn_Table_Limit_sig,⟨F_dyn_Table_Limit⟩⟩)],[]⟩
theorem F_dyn_New_text:pvFn F_dyn_New_env F_dyn_New_ann Tryd.f30 F_dyn_New_sig=F_dyn_New:=by kernel_rfl
noncomputable def F_unpack_New (l1:List (Int×Bool)) (l2:List (List (List Int×List Int×Bool)×Int×Int)):Option (Int×List (Int×Bool)×List (List (List Int×List Int×Bool)×Int×Int)):=
 (F_dyn_New 4096 l2).bind fun x3=>
 some ((l1.length:Int),(l1++[(x3.1,false)]),x3.2.2)
def F_unpack_New_sig:Sig:=⟨[],[(false,[.d (.ptr 78)])],[(1000156,(.pr (.ptr 91) .bool),true),(1000182,(.pr (.os 109 (.pr .str (.pr .str .bool))) (.pr (.int .i64) (.int .i64))),true)]⟩
def F_unpack_New_ann:List (Nat×Ann):=[]
noncomputable def F_unpack_New_env:Env:=⟨Tryd.prog,[(30,⟨F_dyn_New_sig,⟨F_dyn_New⟩⟩)],[]⟩
theorem F_unpack_New_text:pvFn F_unpack_New_env F_unpack_New_ann Tryd.f23 F_unpack_New_sig=F_unpack_New:=by kernel_rfl
noncomputable def F_watch_New (l1:List (List (Int×Int))) (l2:List (Int×Int×Int×Bool×Bool×Bool×Int×Int×Int×List (List (Int×Int))×(Int×Int×Int×Int×Int×Int)×Int×Int×Bool)) (l3:List (Int×List Int)) (l4:List (Int×Bool)) (l5:List (List (List Int×List Int×Bool)×Int×Int)):Option (Int×List (List (Int×Int))×List (Int×Int×Int×Bool×Bool×Bool×Int×Int×Int×List (List (Int×Int))×(Int×Int×Int×Int×Int×Int)×Int×Int×Bool)×List (Int×List Int)×List (Int×Bool)×List (List (List Int×List Int×Bool)×Int×Int)):=
 (F_frame_New 16384 l3).bind fun x6=>
 (F_frame_New 16384 x6.2).bind fun x7=>
 (F_sets_First).bind fun x8=>
 (F_unpack_New l4 l5).bind fun x9=>
 some ((l2.length:Int),(l1++[[]]),(l2++[(0,(x6.1,(x7.1,(false,(false,(false,(0,((l1.length:Int),(65535,(([]:List (List (Int×Int))),((x8.1,(x8.2.1,(x8.2.2.1,(x8.2.2.2.1,(x8.2.2.2.2.1,x8.2.2.2.2.2))))),(x9.1,(0,false)))))))))))))]),x7.2,x9.2.1,x9.2.2)
def F_watch_New_sig:Sig:=⟨[],[(false,[.d (.ptr 59)])],[(1000103,(.sl (.pr (.int .i64) (.ptr 71))),true),(1000118,(.pr (.int .i64) (.pr (.ptr 73) (.pr (.ptr 73) (.pr .bool (.pr .bool (.pr .bool (.pr (.int .i64) (.pr (.mp 51) (.pr (.int .i64) (.pr (.os 63 (.sl (.pr (.int .i64) (.int .i64)))) (.pr (.pr (.int .i64) (.pr (.int .i64) (.pr (.int .i64) (.pr (.int .i64) (.pr (.int .i64) (.int .i64)))))) (.pr (.ptr 78) (.pr (.int .i64) .bool))))))))))))),true),(1000146,(.pr (.int .i64) (.sl (.int .u8))),true),(1000156,(.pr (.ptr 91) .bool),true),(1000182,(.pr (.os 109 (.pr .str (.pr .str .bool))) (.pr (.int .i64) (.int .i64))),true)]⟩
def F_watch_New_ann:List (Nat×Ann):=[]
noncomputable def F_watch_New_env:Env:=⟨Tryd.prog,[(21,⟨F_frame_New_sig,⟨F_frame_New⟩⟩),(22,⟨F_sets_First_sig,⟨F_sets_First⟩⟩),(23,⟨F_unpack_New_sig,⟨F_unpack_New⟩⟩)],[]⟩
theorem F_watch_New_text:pvFn F_watch_New_env F_watch_New_ann Tryd.f8 F_watch_New_sig=F_watch_New:=by kernel_rfl
noncomputable def F_wlvref10_num_L4 (i1:Int) (s:List Int×Int):Option (((List Int)⊕(List Int))⊕(List Int×Int)):=
 let l3:=s.1;let i4:=s.2
 cond (decide (i4 >= 0))
 (chk (decide (0<=(IntKind.u64.wrap (IntKind.i64.wrap (8*i4)))))
 (chk (decide ((l3.length+([(IntKind.u8.wrap (Int.fdiv i1 (2 ^ (min ((IntKind.u64.wrap (IntKind.i64.wrap (8*i4)))).toNat 64))))]:List Int).length)*1<=140737488355328)&&decide (l3.length+([(IntKind.u8.wrap (Int.fdiv i1 (2 ^ (min ((IntKind.u64.wrap (IntKind.i64.wrap (8*i4)))).toNat 64))))]:List Int).length<=maxLen))
 (some (.inr ((l3++([(IntKind.u8.wrap (Int.fdiv i1 (2 ^ (min ((IntKind.u64.wrap (IntKind.i64.wrap (8*i4)))).toNat 64))))]:List Int)),(IntKind.i64.wrap (i4 - 1)))))))
 (some (.inl (.inr l3)))
noncomputable def F_wlvref10_num_J2 (s:List Int):Option (List Int):=
 let l5:=s
 some l5
noncomputable def F_wlvref10_num (i1:Int) (i2:Int):Option (List Int):=
 joinC (S:=List Int) (R:=List Int)
 (loopC (S:=List Int×Int) (R:=(List Int)⊕(List Int)) (F_wlvref10_num_L4 i1) (([]:List Int),(IntKind.i64.wrap (i2 - 1))))
 (F_wlvref10_num_J2)
def F_wlvref10_num_sig:Sig:=⟨[.v false [.d (.int .i64)],.v false [.d (.int .i64)]],[(false,[.own 5 (.int .u8)])],[]⟩
def F_wlvref10_num_ann:List (Nat×Ann):=[(2,⟨3,[(5,false,[.own 5 (.int .u8)])],[],(List.range' 6 16),[],[],[]⟩),(4,⟨5,[(5,false,[.own 5 (.int .u8)]),(6,false,[.d (.int .i64)])],[],(List.range' 9 13),[],[],[]⟩)]
noncomputable def F_wlvref10_num_env:Env:=⟨Tryd.prog,[],[]⟩
theorem F_wlvref10_num_text:pvFn F_wlvref10_num_env F_wlvref10_num_ann Tryd.f27 F_wlvref10_num_sig=F_wlvref10_num:=by kernel_rfl
noncomputable def F_wlvref10_Settings_L6 (l1:List (Int×Int)) (s:Int×Int×Int×Int×List Int×Int×Int×Int×List Int):Option (((Int×Int×Int×List Int)⊕(Int×Int×Int×List Int×Int×Int×Int×List Int))⊕(Int×Int×Int×Int×List Int×Int×Int×Int×List Int)):=
 let i3:=s.1;let i4:=s.2.1;let i5:=s.2.2.1;let i6:=s.2.2.2.1;let l7:=s.2.2.2.2.1;let i9:=s.2.2.2.2.2.1;let i10:=s.2.2.2.2.2.2.1;let i11:=s.2.2.2.2.2.2.2.1;let l12:=s.2.2.2.2.2.2.2.2
 cond (decide (i3 < (l1.length:Int)))
 ((getI l1 i3).bind fun x13=>
 (F_wlvref10_num x13.1 2).bind fun l14=>
 chk (decide ((l12.length+l14.length)*1<=140737488355328)&&decide (l12.length+l14.length<=maxLen))
 ((getI l1 i3).bind fun x15=>
 (F_wlvref10_num x15.2 4).bind fun l16=>
 chk (decide (((l12++l14).length+l16.length)*1<=140737488355328)&&decide ((l12++l14).length+l16.length<=maxLen))
 (some (.inr ((IntKind.i64.wrap (i3+1)),i4,i5,i6,l7,i9,i10,i11,((l12++l14)++l16))))))
 (some (.inl (.inr (i4,i5,i6,l7,i9,i10,i11,l12))))
noncomputable def F_wlvref10_Settings_J4 (s:Int×Int×Int×List Int×Int×Int×Int×List Int):Option (Int×Int×Int×List Int):=
 let i17:=s.1;let i18:=s.2.1;let i19:=s.2.2.1;let l20:=s.2.2.2.1;let i21:=s.2.2.2.2.1;let i22:=s.2.2.2.2.2.1;let i23:=s.2.2.2.2.2.2.1;let l24:=s.2.2.2.2.2.2.2
 some (i21,i22,i23,l24)
noncomputable def F_wlvref10_Settings (l1:List (Int×Int)) (b2:Bool):Option (Int×Int×Int×List Int):=
 cond b2
 (joinC (S:=Int×Int×Int×List Int×Int×Int×Int×List Int) (R:=Int×Int×Int×List Int)
 (loopC (S:=Int×Int×Int×Int×List Int×Int×Int×Int×List Int) (R:=(Int×Int×Int×List Int)⊕(Int×Int×Int×List Int×Int×Int×Int×List Int)) (F_wlvref10_Settings_L6 l1) (0,0,0,0,([]:List Int),4,1,0,([]:List Int)))
 (F_wlvref10_Settings_J4))
 (joinC (S:=Int×Int×Int×List Int×Int×Int×Int×List Int) (R:=Int×Int×Int×List Int)
 (loopC (S:=Int×Int×Int×Int×List Int×Int×Int×Int×List Int) (R:=(Int×Int×Int×List Int)⊕(Int×Int×Int×List Int×Int×Int×Int×List Int)) (F_wlvref10_Settings_L6 l1) (0,0,0,0,([]:List Int),4,0,0,([]:List Int)))
 (F_wlvref10_Settings_J4))
def F_wlvref10_Settings_sig:Sig:=⟨[.v false [.d (.sl (.pr (.int .i64) (.int .i64)))],.v false [.d .bool]],[(true,[.d (.int .i64),.d (.int .i64),.d (.int .i64),.own 5 (.int .u8)])],[]⟩
def F_wlvref10_Settings_ann:List (Nat×Ann):=[(4,⟨5,[],[(4,[.d (.int .i64),.d (.int .i64),.d (.int .i64),.own 5 (.int .u8)]),(5,[.d (.int .i64),.d (.int .i64),.d (.int .i64),.own 5 (.int .u8)])],([6]++List.range' 10 23),[],[],[]⟩),(6,⟨7,[(6,false,[.d (.int .i64)])],[(4,[.d (.int .i64),.d (.int .i64),.d (.int .i64),.own 5 (.int .u8)]),(5,[.d (.int .i64),.d (.int .i64),.d (.int .i64),.own 5 (.int .u8)])],(List.range' 10 23),[],[],[]⟩)]
noncomputable def F_wlvref10_Settings_env:Env:=⟨Tryd.prog,[(27,⟨F_wlvref10_num_sig,⟨F_wlvref10_num⟩⟩)],[17]⟩
theorem F_wlvref10_Settings_text:pvFn F_wlvref10_Settings_env F_wlvref10_Settings_ann Tryd.f11 F_wlvref10_Settings_sig=F_wlvref10_Settings:=by kernel_rfl
noncomputable def F_frame_Parser_Feed (p1:Int) (l2:List Int) (l3:List (Int×List Int)):Option (List (Int×List Int)):=
 chk (nnI p1)
 ((getI l3 p1).bind fun x4=>
 (F_slices_Concat_byte_byte ([x4.2,l2]:List (List Int))).bind fun l5=>
 chk (nnI p1)
 ((getI l3 p1).bind fun x6=>
 some (l3.set (Int.toNat p1) (x6.1,l5))))
def F_frame_Parser_Feed_sig:Sig:=⟨[.v false [.d (.ptr 73)],.v false [.d (.sl (.int .u8))]],[],[(1000146,(.pr (.int .i64) (.sl (.int .u8))),true)]⟩
def F_frame_Parser_Feed_ann:List (Nat×Ann):=[]
noncomputable def F_frame_Parser_Feed_env:Env:=⟨Tryd.prog,[(31,⟨F_slices_Concat_byte_byte_sig,⟨F_slices_Concat_byte_byte⟩⟩)],[]⟩
theorem F_frame_Parser_Feed_text:pvFn F_frame_Parser_Feed_env F_frame_Parser_Feed_ann Tryd.f24 F_frame_Parser_Feed_sig=F_frame_Parser_Feed:=by kernel_rfl
noncomputable def F_frame_Parser_Next_G1_0 (s:Int×Int×Int×List Int×List (Int×List Int)):Option ((Int×Int×Int×List Int×Int×List (Int×List Int))⊕(Nat×Int×Int×Int×List Int×List (Int×List Int))):=
 let i30:=s.1;let i31:=s.2.1;let i33:=s.2.2.1;let l34:=s.2.2.2.1;let l35:=s.2.2.2.2
 some (.inl (0,0,0,([]:List Int),4,l35))
noncomputable def F_frame_Parser_Next_G1 (p:Nat×Int×Int×Int×List Int×List (Int×List Int)):Option ((Int×Int×Int×List Int×Int×List (Int×List Int))⊕(Nat×Int×Int×Int×List Int×List (Int×List Int))):=
 cond (hasN [0] p.1) (F_frame_Parser_Next_G1_0 p.2) (none)
noncomputable def F_frame_Parser_Next (p1:Int) (l2:List (Int×List Int)):Option (Int×Int×Int×List Int×Int×List (Int×List Int)):=
 joinC (S:=Nat×Int×Int×Int×List Int×List (Int×List Int)) (R:=Int×Int×Int×List Int×Int×List (Int×List Int))
 (chk (nnI p1)
 ((getI l2 p1).bind fun x3=>
 cond (decide ((x3.2.length:Int) < 9))
 (some (.inr (0,(0,0,0,([]:List Int),l2))))
 (chk (nnI p1)
 ((getI l2 p1).bind fun x4=>
 (getI x4.2 0).bind fun i5=>
 chk (nnI p1)
 ((getI l2 p1).bind fun x6=>
 (getI x6.2 1).bind fun i7=>
 chk (nnI p1)
 ((getI l2 p1).bind fun x8=>
 (getI x8.2 2).bind fun i9=>
 chk (nnI p1)
 ((getI l2 p1).bind fun x10=>
 cond (decide ((bits .or .i64 (bits .or .i64 (IntKind.i64.wrap ((IntKind.i64.wrap i5)*2 ^ 16)) (IntKind.i64.wrap ((IntKind.i64.wrap i7)*2 ^ 8))) (IntKind.i64.wrap i9)) > x10.1))
 (some (.inl (0,0,0,([]:List Int),3,l2)))
 (chk (nnI p1)
 ((getI l2 p1).bind fun x11=>
 cond (decide ((IntKind.i64.wrap ((x11.2.length:Int) - 9)) < (bits .or .i64 (bits .or .i64 (IntKind.i64.wrap ((IntKind.i64.wrap i5)*2 ^ 16)) (IntKind.i64.wrap ((IntKind.i64.wrap i7)*2 ^ 8))) (IntKind.i64.wrap i9))))
 (some (.inr (0,(0,0,0,([]:List Int),l2))))
 (chk (nnI p1)
 ((getI l2 p1).bind fun x12=>
 (getI x12.2 3).bind fun i13=>
 chk (nnI p1)
 ((getI l2 p1).bind fun x14=>
 (getI x14.2 4).bind fun i15=>
 chk (nnI p1)
 ((getI l2 p1).bind fun x16=>
 (getI x16.2 5).bind fun i17=>
 chk (nnI p1)
 ((getI l2 p1).bind fun x18=>
 (getI x18.2 6).bind fun i19=>
 chk (nnI p1)
 ((getI l2 p1).bind fun x20=>
 (getI x20.2 7).bind fun i21=>
 chk (nnI p1)
 ((getI l2 p1).bind fun x22=>
 (getI x22.2 8).bind fun i23=>
 chk (nnI p1)
 ((getI l2 p1).bind fun x24=>
 (cutI x24.2 9 (IntKind.i64.wrap (9+(bits .or .i64 (bits .or .i64 (IntKind.i64.wrap ((IntKind.i64.wrap i5)*2 ^ 16)) (IntKind.i64.wrap ((IntKind.i64.wrap i7)*2 ^ 8))) (IntKind.i64.wrap i9))))).bind fun l25=>
 (F_bytes_Clone l25).bind fun l26=>
 chk (nnI p1)
 ((getI l2 p1).bind fun x27=>
 (cutI x27.2 (IntKind.i64.wrap (9+(bits .or .i64 (bits .or .i64 (IntKind.i64.wrap ((IntKind.i64.wrap i5)*2 ^ 16)) (IntKind.i64.wrap ((IntKind.i64.wrap i7)*2 ^ 8))) (IntKind.i64.wrap i9)))) (x27.2.length:Int)).bind fun l28=>
 chk (nnI p1)
 ((getI l2 p1).bind fun x29=>
 some (.inl ((IntKind.i64.wrap i13),(IntKind.i64.wrap i15),(bits .and .i64 (bits .or .i64 (bits .or .i64 (bits .or .i64 (IntKind.i64.wrap ((IntKind.i64.wrap i17)*2 ^ 24)) (IntKind.i64.wrap ((IntKind.i64.wrap i19)*2 ^ 16))) (IntKind.i64.wrap ((IntKind.i64.wrap i21)*2 ^ 8))) (IntKind.i64.wrap i23)) 2147483647),l26,0,(l2.set (Int.toNat p1) (x29.1,l28)))))))))))))))))))))))
 (fun p=>loopC (S:=Nat×Int×Int×Int×List Int×List (Int×List Int)) (R:=Int×Int×Int×List Int×Int×List (Int×List Int)) (F_frame_Parser_Next_G1) p)
def F_frame_Parser_Next_sig:Sig:=⟨[.v false [.d (.ptr 73)]],[(true,[.d (.int .i64),.d (.int .i64),.d (.int .i64),.own 5 (.int .u8)]),(false,[.d (.int .i64)])],[(1000146,(.pr (.int .i64) (.sl (.int .u8))),true)]⟩
def F_frame_Parser_Next_ann:List (Nat×Ann):=[(1,⟨2,[],[(2,[.d (.int .i64),.d (.int .i64),.d (.int .i64),.own 5 (.int .u8)])],(List.range' 3 122),[],[(1000146,(.pr (.int .i64) (.sl (.int .u8))),true)],[]⟩)]
noncomputable def F_frame_Parser_Next_env:Env:=⟨Tryd.prog,[(29,⟨F_bytes_Clone_sig,⟨F_bytes_Clone⟩⟩)],[117]⟩
theorem F_frame_Parser_Next_text:pvFn F_frame_Parser_Next_env F_frame_Parser_Next_ann Tryd.f25 F_frame_Parser_Next_sig=F_frame_Parser_Next:=by kernel_rfl
noncomputable def F_part_conn (i1:Int):Option (List Int×Int×Int×Int×Int×List (Int×Int)×Bool×Bool×Bool×Bool×Bool×Int):=
 some (([]:List Int),0,0,0,0,([]:List (Int×Int)),false,false,false,true,true,i1)
def F_part_conn_sig:Sig:=⟨[.v false [.d (.int .i64)]],[(true,[.own 5 (.int .u8),.d (.int .i64),.d (.int .i64),.d (.int .i64),.d (.int .i64),.own 66 (.pr (.int .i64) (.int .i64)),.d .bool,.d .bool,.d .bool]),(true,[.d .bool,.d .bool,.d (.int .i64)])],[]⟩
def F_part_conn_ann:List (Nat×Ann):=[]
noncomputable def F_part_conn_env:Env:=⟨Tryd.prog,[],[]⟩
theorem F_part_conn_text:pvFn F_part_conn_env F_part_conn_ann Tryd.f41 F_part_conn_sig=F_part_conn:=by kernel_rfl
noncomputable def F_part_bodied_G1_0 (i1:Int) (i2:Int) (s:List Int×Int×List Int×Int×Int×Int×Int×List (Int×Int)×Bool×Bool×Bool×List Int×Int×Int×Int×Int×List (Int×Int)×Bool×Bool×Bool×Bool×Bool×Int):Option ((List Int×Int×Int×Int×Int×List (Int×Int)×Bool×Bool×Bool×Bool×Bool×Int)⊕(Nat×List Int×Int×List Int×Int×Int×Int×Int×List (Int×Int)×Bool×Bool×Bool×List Int×Int×Int×Int×Int×List (Int×Int)×Bool×Bool×Bool×Bool×Bool×Int)):=
 let l24:=s.1;let i25:=s.2.1;let l26:=s.2.2.1;let i27:=s.2.2.2.1;let i28:=s.2.2.2.2.1;let i29:=s.2.2.2.2.2.1;let i30:=s.2.2.2.2.2.2.1;let l31:=s.2.2.2.2.2.2.2.1;let b32:=s.2.2.2.2.2.2.2.2.1;let b33:=s.2.2.2.2.2.2.2.2.2.1;let b34:=s.2.2.2.2.2.2.2.2.2.2.1;let l35:=s.2.2.2.2.2.2.2.2.2.2.2.1;let i36:=s.2.2.2.2.2.2.2.2.2.2.2.2.1;let i37:=s.2.2.2.2.2.2.2.2.2.2.2.2.2.1;let i38:=s.2.2.2.2.2.2.2.2.2.2.2.2.2.2.1;let i39:=s.2.2.2.2.2.2.2.2.2.2.2.2.2.2.2.1;let l40:=s.2.2.2.2.2.2.2.2.2.2.2.2.2.2.2.2.1;let b41:=s.2.2.2.2.2.2.2.2.2.2.2.2.2.2.2.2.2.1;let b42:=s.2.2.2.2.2.2.2.2.2.2.2.2.2.2.2.2.2.2.1;let b43:=s.2.2.2.2.2.2.2.2.2.2.2.2.2.2.2.2.2.2.2.1;let b44:=s.2.2.2.2.2.2.2.2.2.2.2.2.2.2.2.2.2.2.2.2.1;let b45:=s.2.2.2.2.2.2.2.2.2.2.2.2.2.2.2.2.2.2.2.2.2.1;let i46:=s.2.2.2.2.2.2.2.2.2.2.2.2.2.2.2.2.2.2.2.2.2.2
 cond (i1==0)
 (some (.inr (1,(l24,i25,l26,i27,i28,i29,i30,l31,b32,b33,b34,l35,i36,i37,i38,i39,l40,b41,b42,b43,b44,b45,i46))))
 (cond ((bits .and .i64 i2 32)==0)
 (some (.inr (1,(l24,i25,l26,i27,i28,i29,i30,l31,b32,b33,b34,l35,i36,i37,i38,i39,l40,b41,b42,b43,b44,b45,i46))))
 (cond (decide ((l24.length:Int) < 5))
 ((F_part_conn 6).bind fun x47=>
 some (.inl (x47.1,x47.2.1,x47.2.2.1,x47.2.2.2.1,x47.2.2.2.2.1,x47.2.2.2.2.2.1,x47.2.2.2.2.2.2.1,x47.2.2.2.2.2.2.2.1,x47.2.2.2.2.2.2.2.2.1,x47.2.2.2.2.2.2.2.2.2.1,x47.2.2.2.2.2.2.2.2.2.2.1,x47.2.2.2.2.2.2.2.2.2.2.2)))
 ((cutI l24 5 (l24.length:Int)).bind fun l48=>
 cond (decide (i25 > (l48.length:Int)))
 ((F_part_conn 1).bind fun x49=>
 some (.inl (x49.1,x49.2.1,x49.2.2.1,x49.2.2.2.1,x49.2.2.2.2.1,x49.2.2.2.2.2.1,x49.2.2.2.2.2.2.1,x49.2.2.2.2.2.2.2.1,x49.2.2.2.2.2.2.2.2.1,x49.2.2.2.2.2.2.2.2.2.1,x49.2.2.2.2.2.2.2.2.2.2.1,x49.2.2.2.2.2.2.2.2.2.2.2)))
 ((cutI l48 0 (IntKind.i64.wrap ((l48.length:Int) - i25))).bind fun l50=>
 (F_bytes_Clone l50).bind fun l51=>
 some (.inl (l51,i27,i28,i29,i30,l31,b32,b33,b34,false,false,0))))))
noncomputable def F_part_bodied_G1_1 (s:List Int×Int×List Int×Int×Int×Int×Int×List (Int×Int)×Bool×Bool×Bool×List Int×Int×Int×Int×Int×List (Int×Int)×Bool×Bool×Bool×Bool×Bool×Int):Option ((List Int×Int×Int×Int×Int×List (Int×Int)×Bool×Bool×Bool×Bool×Bool×Int)⊕(Nat×List Int×Int×List Int×Int×Int×Int×Int×List (Int×Int)×Bool×Bool×Bool×List Int×Int×Int×Int×Int×List (Int×Int)×Bool×Bool×Bool×Bool×Bool×Int)):=
 let l24:=s.1;let i25:=s.2.1;let l26:=s.2.2.1;let i27:=s.2.2.2.1;let i28:=s.2.2.2.2.1;let i29:=s.2.2.2.2.2.1;let i30:=s.2.2.2.2.2.2.1;let l31:=s.2.2.2.2.2.2.2.1;let b32:=s.2.2.2.2.2.2.2.2.1;let b33:=s.2.2.2.2.2.2.2.2.2.1;let b34:=s.2.2.2.2.2.2.2.2.2.2.1;let l35:=s.2.2.2.2.2.2.2.2.2.2.2.1;let i36:=s.2.2.2.2.2.2.2.2.2.2.2.2.1;let i37:=s.2.2.2.2.2.2.2.2.2.2.2.2.2.1;let i38:=s.2.2.2.2.2.2.2.2.2.2.2.2.2.2.1;let i39:=s.2.2.2.2.2.2.2.2.2.2.2.2.2.2.2.1;let l40:=s.2.2.2.2.2.2.2.2.2.2.2.2.2.2.2.2.1;let b41:=s.2.2.2.2.2.2.2.2.2.2.2.2.2.2.2.2.2.1;let b42:=s.2.2.2.2.2.2.2.2.2.2.2.2.2.2.2.2.2.2.1;let b43:=s.2.2.2.2.2.2.2.2.2.2.2.2.2.2.2.2.2.2.2.1;let b44:=s.2.2.2.2.2.2.2.2.2.2.2.2.2.2.2.2.2.2.2.2.1;let b45:=s.2.2.2.2.2.2.2.2.2.2.2.2.2.2.2.2.2.2.2.2.2.1;let i46:=s.2.2.2.2.2.2.2.2.2.2.2.2.2.2.2.2.2.2.2.2.2.2
 cond (decide (i25 > (l24.length:Int)))
 ((F_part_conn 1).bind fun x52=>
 some (.inl (x52.1,x52.2.1,x52.2.2.1,x52.2.2.2.1,x52.2.2.2.2.1,x52.2.2.2.2.2.1,x52.2.2.2.2.2.2.1,x52.2.2.2.2.2.2.2.1,x52.2.2.2.2.2.2.2.2.1,x52.2.2.2.2.2.2.2.2.2.1,x52.2.2.2.2.2.2.2.2.2.2.1,x52.2.2.2.2.2.2.2.2.2.2.2)))
 ((cutI l24 0 (IntKind.i64.wrap ((l24.length:Int) - i25))).bind fun l53=>
 (F_bytes_Clone l53).bind fun l54=>
 some (.inl (l54,i27,i28,i29,i30,l31,b32,b33,b34,false,false,0)))
noncomputable def F_part_bodied_G1 (i1:Int) (i2:Int) (p:Nat×List Int×Int×List Int×Int×Int×Int×Int×List (Int×Int)×Bool×Bool×Bool×List Int×Int×Int×Int×Int×List (Int×Int)×Bool×Bool×Bool×Bool×Bool×Int):Option ((List Int×Int×Int×Int×Int×List (Int×Int)×Bool×Bool×Bool×Bool×Bool×Int)⊕(Nat×List Int×Int×List Int×Int×Int×Int×Int×List (Int×Int)×Bool×Bool×Bool×List Int×Int×Int×Int×Int×List (Int×Int)×Bool×Bool×Bool×Bool×Bool×Int)):=
 cond (hasN [0] p.1) (F_part_bodied_G1_0 i1 i2 p.2) (cond (hasN [1] p.1) (F_part_bodied_G1_1 p.2) (none))
noncomputable def F_part_bodied (i1:Int) (i2:Int) (i3:Int) (l4:List Int):Option (List Int×Int×Int×Int×Int×List (Int×Int)×Bool×Bool×Bool×Bool×Bool×Int):=
 joinC (S:=Nat×List Int×Int×List Int×Int×Int×Int×Int×List (Int×Int)×Bool×Bool×Bool×List Int×Int×Int×Int×Int×List (Int×Int)×Bool×Bool×Bool×Bool×Bool×Int) (R:=List Int×Int×Int×Int×Int×List (Int×Int)×Bool×Bool×Bool×Bool×Bool×Int)
 (cond (i1==1)
 (cond (i3==0)
 ((F_part_conn 1).bind fun x5=>
 some (.inl (x5.1,x5.2.1,x5.2.2.1,x5.2.2.2.1,x5.2.2.2.2.1,x5.2.2.2.2.2.1,x5.2.2.2.2.2.2.1,x5.2.2.2.2.2.2.2.1,x5.2.2.2.2.2.2.2.2.1,x5.2.2.2.2.2.2.2.2.2.1,x5.2.2.2.2.2.2.2.2.2.2.1,x5.2.2.2.2.2.2.2.2.2.2.2)))
 (cond ((bits .and .i64 i2 8)==0)
 (some (.inr (0,(l4,0,([]:List Int),0,0,0,0,([]:List (Int×Int)),(decide ((bits .and .i64 i2 1) > 0)),false,(decide ((bits .and .i64 i2 4) > 0)),([]:List Int),0,0,0,0,([]:List (Int×Int)),false,false,false,false,false,0))))
 (cond ((l4.length:Int)==0)
 ((F_part_conn 6).bind fun x6=>
 some (.inl (x6.1,x6.2.1,x6.2.2.1,x6.2.2.2.1,x6.2.2.2.2.1,x6.2.2.2.2.2.1,x6.2.2.2.2.2.2.1,x6.2.2.2.2.2.2.2.1,x6.2.2.2.2.2.2.2.2.1,x6.2.2.2.2.2.2.2.2.2.1,x6.2.2.2.2.2.2.2.2.2.2.1,x6.2.2.2.2.2.2.2.2.2.2.2)))
 ((getI l4 0).bind fun i7=>
 (cutI l4 1 (l4.length:Int)).bind fun l8=>
 cond (i1==0)
 (some (.inr (1,(l8,(IntKind.i64.wrap i7),([]:List Int),(IntKind.i64.wrap ((IntKind.i64.wrap i7)+1)),0,0,0,([]:List (Int×Int)),(decide ((bits .and .i64 i2 1) > 0)),false,(decide ((bits .and .i64 i2 4) > 0)),([]:List Int),0,0,0,0,([]:List (Int×Int)),false,false,false,false,false,0))))
 (cond ((bits .and .i64 i2 32)==0)
 (some (.inr (1,(l8,(IntKind.i64.wrap i7),([]:List Int),(IntKind.i64.wrap ((IntKind.i64.wrap i7)+1)),0,0,0,([]:List (Int×Int)),(decide ((bits .and .i64 i2 1) > 0)),false,(decide ((bits .and .i64 i2 4) > 0)),([]:List Int),0,0,0,0,([]:List (Int×Int)),false,false,false,false,false,0))))
 (cond (decide ((l8.length:Int) < 5))
 ((F_part_conn 6).bind fun x9=>
 some (.inl (x9.1,x9.2.1,x9.2.2.1,x9.2.2.2.1,x9.2.2.2.2.1,x9.2.2.2.2.2.1,x9.2.2.2.2.2.2.1,x9.2.2.2.2.2.2.2.1,x9.2.2.2.2.2.2.2.2.1,x9.2.2.2.2.2.2.2.2.2.1,x9.2.2.2.2.2.2.2.2.2.2.1,x9.2.2.2.2.2.2.2.2.2.2.2)))
 ((cutI l8 5 (l8.length:Int)).bind fun l10=>
 cond (decide ((IntKind.i64.wrap i7) > (l10.length:Int)))
 ((F_part_conn 1).bind fun x11=>
 some (.inl (x11.1,x11.2.1,x11.2.2.1,x11.2.2.2.1,x11.2.2.2.2.1,x11.2.2.2.2.2.1,x11.2.2.2.2.2.2.1,x11.2.2.2.2.2.2.2.1,x11.2.2.2.2.2.2.2.2.1,x11.2.2.2.2.2.2.2.2.2.1,x11.2.2.2.2.2.2.2.2.2.2.1,x11.2.2.2.2.2.2.2.2.2.2.2)))
 ((cutI l10 0 (IntKind.i64.wrap ((l10.length:Int) - (IntKind.i64.wrap i7)))).bind fun l12=>
 (F_bytes_Clone l12).bind fun l13=>
 some (.inl (l13,(IntKind.i64.wrap ((IntKind.i64.wrap i7)+1)),0,0,0,([]:List (Int×Int)),(decide ((bits .and .i64 i2 1) > 0)),false,(decide ((bits .and .i64 i2 4) > 0)),false,false,0))))))))))
 (cond (i3==0)
 ((F_part_conn 1).bind fun x14=>
 some (.inl (x14.1,x14.2.1,x14.2.2.1,x14.2.2.2.1,x14.2.2.2.2.1,x14.2.2.2.2.2.1,x14.2.2.2.2.2.2.1,x14.2.2.2.2.2.2.2.1,x14.2.2.2.2.2.2.2.2.1,x14.2.2.2.2.2.2.2.2.2.1,x14.2.2.2.2.2.2.2.2.2.2.1,x14.2.2.2.2.2.2.2.2.2.2.2)))
 (cond ((bits .and .i64 i2 8)==0)
 (some (.inr (0,(l4,0,([]:List Int),0,0,0,0,([]:List (Int×Int)),(decide ((bits .and .i64 i2 1) > 0)),false,false,([]:List Int),0,0,0,0,([]:List (Int×Int)),false,false,false,false,false,0))))
 (cond ((l4.length:Int)==0)
 ((F_part_conn 6).bind fun x15=>
 some (.inl (x15.1,x15.2.1,x15.2.2.1,x15.2.2.2.1,x15.2.2.2.2.1,x15.2.2.2.2.2.1,x15.2.2.2.2.2.2.1,x15.2.2.2.2.2.2.2.1,x15.2.2.2.2.2.2.2.2.1,x15.2.2.2.2.2.2.2.2.2.1,x15.2.2.2.2.2.2.2.2.2.2.1,x15.2.2.2.2.2.2.2.2.2.2.2)))
 ((getI l4 0).bind fun i17=>
 (cutI l4 1 (l4.length:Int)).bind fun l18=>
 cond (i1==0)
 (some (.inr (1,(l18,(IntKind.i64.wrap i17),([]:List Int),(IntKind.i64.wrap ((IntKind.i64.wrap i17)+1)),0,0,0,([]:List (Int×Int)),(decide ((bits .and .i64 i2 1) > 0)),false,false,([]:List Int),0,0,0,0,([]:List (Int×Int)),false,false,false,false,false,0))))
 (cond ((bits .and .i64 i2 32)==0)
 (some (.inr (1,(l18,(IntKind.i64.wrap i17),([]:List Int),(IntKind.i64.wrap ((IntKind.i64.wrap i17)+1)),0,0,0,([]:List (Int×Int)),(decide ((bits .and .i64 i2 1) > 0)),false,false,([]:List Int),0,0,0,0,([]:List (Int×Int)),false,false,false,false,false,0))))
 (cond (decide ((l18.length:Int) < 5))
 ((F_part_conn 6).bind fun x19=>
 some (.inl (x19.1,x19.2.1,x19.2.2.1,x19.2.2.2.1,x19.2.2.2.2.1,x19.2.2.2.2.2.1,x19.2.2.2.2.2.2.1,x19.2.2.2.2.2.2.2.1,x19.2.2.2.2.2.2.2.2.1,x19.2.2.2.2.2.2.2.2.2.1,x19.2.2.2.2.2.2.2.2.2.2.1,x19.2.2.2.2.2.2.2.2.2.2.2)))
 ((cutI l18 5 (l18.length:Int)).bind fun l20=>
 cond (decide ((IntKind.i64.wrap i17) > (l20.length:Int)))
 ((F_part_conn 1).bind fun x21=>
 some (.inl (x21.1,x21.2.1,x21.2.2.1,x21.2.2.2.1,x21.2.2.2.2.1,x21.2.2.2.2.2.1,x21.2.2.2.2.2.2.1,x21.2.2.2.2.2.2.2.1,x21.2.2.2.2.2.2.2.2.1,x21.2.2.2.2.2.2.2.2.2.1,x21.2.2.2.2.2.2.2.2.2.2.1,x21.2.2.2.2.2.2.2.2.2.2.2)))
 ((cutI l20 0 (IntKind.i64.wrap ((l20.length:Int) - (IntKind.i64.wrap i17)))).bind fun l22=>
 (F_bytes_Clone l22).bind fun l23=>
 some (.inl (l23,(IntKind.i64.wrap ((IntKind.i64.wrap i17)+1)),0,0,0,([]:List (Int×Int)),(decide ((bits .and .i64 i2 1) > 0)),false,false,false,false,0)))))))))))
 (fun p=>loopC (S:=Nat×List Int×Int×List Int×Int×Int×Int×Int×List (Int×Int)×Bool×Bool×Bool×List Int×Int×Int×Int×Int×List (Int×Int)×Bool×Bool×Bool×Bool×Bool×Int) (R:=List Int×Int×Int×Int×Int×List (Int×Int)×Bool×Bool×Bool×Bool×Bool×Int) (F_part_bodied_G1 i1 i2) p)
def F_part_bodied_sig:Sig:=⟨[.v true [.d (.int .i64),.d (.int .i64),.d (.int .i64),.d (.sl (.int .u8))]],[(true,[.own 5 (.int .u8),.d (.int .i64),.d (.int .i64),.d (.int .i64),.d (.int .i64),.own 66 (.pr (.int .i64) (.int .i64)),.d .bool,.d .bool,.d .bool]),(true,[.d .bool,.d .bool,.d (.int .i64)])],[]⟩
def F_part_bodied_ann:List (Nat×Ann):=[(1,⟨2,[(5,false,[.d (.sl (.int .u8))]),(6,false,[.d (.int .i64)])],[(4,[.own 5 (.int .u8),.d (.int .i64),.d (.int .i64),.d (.int .i64),.d (.int .i64),.own 66 (.pr (.int .i64) (.int .i64)),.d .bool,.d .bool,.d .bool]),(2,[.own 5 (.int .u8),.d (.int .i64),.d (.int .i64),.d (.int .i64),.d (.int .i64),.own 66 (.pr (.int .i64) (.int .i64)),.d .bool,.d .bool,.d .bool]),(3,[.d .bool,.d .bool,.d (.int .i64)])],([4]++List.range' 7 75),[1],[],[4]⟩)]
noncomputable def F_part_bodied_env:Env:=⟨Tryd.prog,[(29,⟨F_bytes_Clone_sig,⟨F_bytes_Clone⟩⟩),(41,⟨F_part_conn_sig,⟨F_part_conn⟩⟩)],[]⟩
theorem F_part_bodied_text:pvFn F_part_bodied_env F_part_bodied_ann Tryd.f39 F_part_bodied_sig=F_part_bodied:=by kernel_rfl
noncomputable def F_part_number (l1:List Int):Option (Int):=
 (getI l1 0).bind fun i2=>
 (getI l1 1).bind fun i3=>
 (getI l1 2).bind fun i4=>
 (getI l1 3).bind fun i5=>
 some (bits .or .i64 (bits .or .i64 (bits .or .i64 (IntKind.i64.wrap ((IntKind.i64.wrap i2)*2 ^ 24)) (IntKind.i64.wrap ((IntKind.i64.wrap i3)*2 ^ 16))) (IntKind.i64.wrap ((IntKind.i64.wrap i4)*2 ^ 8))) (IntKind.i64.wrap i5))
def F_part_number_sig:Sig:=⟨[.v false [.d (.sl (.int .u8))]],[(false,[.d (.int .i64)])],[]⟩
def F_part_number_ann:List (Nat×Ann):=[]
noncomputable def F_part_number_env:Env:=⟨Tryd.prog,[],[]⟩
theorem F_part_number_text:pvFn F_part_number_env F_part_number_ann Tryd.f45 F_part_number_sig=F_part_number:=by kernel_rfl
noncomputable def F_part_settings_L9 (s:List Int×List Int×Int×Int×Int×Int×List (Int×Int)×Bool×Bool×Bool×Bool×Bool×Int×List Int×Int×Int×Int×Int×List (Int×Int)×Bool×Bool×Bool):Option (((List Int×Int×Int×Int×Int×List (Int×Int)×Bool×Bool×Bool×Bool×Bool×Int)⊕(List Int×Int×Int×Int×Int×List (Int×Int)×Bool×Bool×Bool×Bool×Bool×Int×List Int×Int×Int×Int×Int×List (Int×Int)×Bool×Bool×Bool))⊕(List Int×List Int×Int×Int×Int×Int×List (Int×Int)×Bool×Bool×Bool×Bool×Bool×Int×List Int×Int×Int×Int×Int×List (Int×Int)×Bool×Bool×Bool)):=
 let l8:=s.1;let l9:=s.2.1;let i10:=s.2.2.1;let i11:=s.2.2.2.1;let i12:=s.2.2.2.2.1;let i13:=s.2.2.2.2.2.1;let l14:=s.2.2.2.2.2.2.1;let b15:=s.2.2.2.2.2.2.2.1;let b16:=s.2.2.2.2.2.2.2.2.1;let b17:=s.2.2.2.2.2.2.2.2.2.1;let b18:=s.2.2.2.2.2.2.2.2.2.2.1;let b19:=s.2.2.2.2.2.2.2.2.2.2.2.1;let i20:=s.2.2.2.2.2.2.2.2.2.2.2.2.1;let l21:=s.2.2.2.2.2.2.2.2.2.2.2.2.2.1;let i22:=s.2.2.2.2.2.2.2.2.2.2.2.2.2.2.1;let i23:=s.2.2.2.2.2.2.2.2.2.2.2.2.2.2.2.1;let i24:=s.2.2.2.2.2.2.2.2.2.2.2.2.2.2.2.2.1;let i25:=s.2.2.2.2.2.2.2.2.2.2.2.2.2.2.2.2.2.1;let l26:=s.2.2.2.2.2.2.2.2.2.2.2.2.2.2.2.2.2.2.1;let b27:=s.2.2.2.2.2.2.2.2.2.2.2.2.2.2.2.2.2.2.2.1;let b28:=s.2.2.2.2.2.2.2.2.2.2.2.2.2.2.2.2.2.2.2.2.1;let b29:=s.2.2.2.2.2.2.2.2.2.2.2.2.2.2.2.2.2.2.2.2.2
 cond (decide ((l8.length:Int) > 0))
 ((getI l8 0).bind fun i30=>
 (getI l8 1).bind fun i31=>
 (cutI l8 2 (l8.length:Int)).bind fun l32=>
 (F_part_number l32).bind fun i33=>
 chk (decide ((l26.length+([((bits .or .i64 (IntKind.i64.wrap ((IntKind.i64.wrap i30)*2 ^ 8)) (IntKind.i64.wrap i31)),i33)]:List (Int×Int)).length)*16<=140737488355328)&&decide (l26.length+([((bits .or .i64 (IntKind.i64.wrap ((IntKind.i64.wrap i30)*2 ^ 8)) (IntKind.i64.wrap i31)),i33)]:List (Int×Int)).length<=maxLen))
 ((cutI l8 6 (l8.length:Int)).bind fun l34=>
 some (.inr (l34,l9,i10,i11,i12,i13,l14,b15,b16,b17,b18,b19,i20,l21,i22,i23,i24,i25,(l26++([((bits .or .i64 (IntKind.i64.wrap ((IntKind.i64.wrap i30)*2 ^ 8)) (IntKind.i64.wrap i31)),i33)]:List (Int×Int))),b27,b28,b29))))
 (some (.inl (.inr (l9,i10,i11,i12,i13,l14,b15,b16,b17,b18,b19,i20,l21,i22,i23,i24,i25,l26,b27,b28,b29))))
noncomputable def F_part_settings_J7 (s:List Int×Int×Int×Int×Int×List (Int×Int)×Bool×Bool×Bool×Bool×Bool×Int×List Int×Int×Int×Int×Int×List (Int×Int)×Bool×Bool×Bool):Option (List Int×Int×Int×Int×Int×List (Int×Int)×Bool×Bool×Bool×Bool×Bool×Int):=
 let l35:=s.1;let i36:=s.2.1;let i37:=s.2.2.1;let i38:=s.2.2.2.1;let i39:=s.2.2.2.2.1;let l40:=s.2.2.2.2.2.1;let b41:=s.2.2.2.2.2.2.1;let b42:=s.2.2.2.2.2.2.2.1;let b43:=s.2.2.2.2.2.2.2.2.1;let b44:=s.2.2.2.2.2.2.2.2.2.1;let b45:=s.2.2.2.2.2.2.2.2.2.2.1;let i46:=s.2.2.2.2.2.2.2.2.2.2.2.1;let l47:=s.2.2.2.2.2.2.2.2.2.2.2.2.1;let i48:=s.2.2.2.2.2.2.2.2.2.2.2.2.2.1;let i49:=s.2.2.2.2.2.2.2.2.2.2.2.2.2.2.1;let i50:=s.2.2.2.2.2.2.2.2.2.2.2.2.2.2.2.1;let i51:=s.2.2.2.2.2.2.2.2.2.2.2.2.2.2.2.2.1;let l52:=s.2.2.2.2.2.2.2.2.2.2.2.2.2.2.2.2.2.1;let b53:=s.2.2.2.2.2.2.2.2.2.2.2.2.2.2.2.2.2.2.1;let b54:=s.2.2.2.2.2.2.2.2.2.2.2.2.2.2.2.2.2.2.2.1;let b55:=s.2.2.2.2.2.2.2.2.2.2.2.2.2.2.2.2.2.2.2.2
 some (l47,i48,i49,i50,i51,l52,b53,b54,b55,false,false,0)
noncomputable def F_part_settings (i1:Int) (i2:Int) (i3:Int) (l4:List Int):Option (List Int×Int×Int×Int×Int×List (Int×Int)×Bool×Bool×Bool×Bool×Bool×Int):=
 cond (i3 != 0)
 ((F_part_conn 1).bind fun x5=>
 some (x5.1,x5.2.1,x5.2.2.1,x5.2.2.2.1,x5.2.2.2.2.1,x5.2.2.2.2.2.1,x5.2.2.2.2.2.2.1,x5.2.2.2.2.2.2.2.1,x5.2.2.2.2.2.2.2.2.1,x5.2.2.2.2.2.2.2.2.2.1,x5.2.2.2.2.2.2.2.2.2.2.1,x5.2.2.2.2.2.2.2.2.2.2.2))
 (cond (decide ((bits .and .i64 i2 1) > 0))
 (cond (decide ((l4.length:Int) > 0))
 ((F_part_conn 6).bind fun x6=>
 some (x6.1,x6.2.1,x6.2.2.1,x6.2.2.2.1,x6.2.2.2.2.1,x6.2.2.2.2.2.1,x6.2.2.2.2.2.2.1,x6.2.2.2.2.2.2.2.1,x6.2.2.2.2.2.2.2.2.1,x6.2.2.2.2.2.2.2.2.2.1,x6.2.2.2.2.2.2.2.2.2.2.1,x6.2.2.2.2.2.2.2.2.2.2.2))
 (cond (decide ((Int.tmod (l4.length:Int) 6) > 0))
 ((F_part_conn 6).bind fun x7=>
 some (x7.1,x7.2.1,x7.2.2.1,x7.2.2.2.1,x7.2.2.2.2.1,x7.2.2.2.2.2.1,x7.2.2.2.2.2.2.1,x7.2.2.2.2.2.2.2.1,x7.2.2.2.2.2.2.2.2.1,x7.2.2.2.2.2.2.2.2.2.1,x7.2.2.2.2.2.2.2.2.2.2.1,x7.2.2.2.2.2.2.2.2.2.2.2))
 (joinC (S:=List Int×Int×Int×Int×Int×List (Int×Int)×Bool×Bool×Bool×Bool×Bool×Int×List Int×Int×Int×Int×Int×List (Int×Int)×Bool×Bool×Bool) (R:=List Int×Int×Int×Int×Int×List (Int×Int)×Bool×Bool×Bool×Bool×Bool×Int)
 (loopC (S:=List Int×List Int×Int×Int×Int×Int×List (Int×Int)×Bool×Bool×Bool×Bool×Bool×Int×List Int×Int×Int×Int×Int×List (Int×Int)×Bool×Bool×Bool) (R:=(List Int×Int×Int×Int×Int×List (Int×Int)×Bool×Bool×Bool×Bool×Bool×Int)⊕(List Int×Int×Int×Int×Int×List (Int×Int)×Bool×Bool×Bool×Bool×Bool×Int×List Int×Int×Int×Int×Int×List (Int×Int)×Bool×Bool×Bool)) (F_part_settings_L9) (l4,([]:List Int),0,0,0,0,([]:List (Int×Int)),false,false,false,false,false,0,([]:List Int),0,0,0,0,([]:List (Int×Int)),false,(decide ((bits .and .i64 i2 1) > 0)),false))
 (F_part_settings_J7))))
 (cond (decide ((Int.tmod (l4.length:Int) 6) > 0))
 ((F_part_conn 6).bind fun x56=>
 some (x56.1,x56.2.1,x56.2.2.1,x56.2.2.2.1,x56.2.2.2.2.1,x56.2.2.2.2.2.1,x56.2.2.2.2.2.2.1,x56.2.2.2.2.2.2.2.1,x56.2.2.2.2.2.2.2.2.1,x56.2.2.2.2.2.2.2.2.2.1,x56.2.2.2.2.2.2.2.2.2.2.1,x56.2.2.2.2.2.2.2.2.2.2.2))
 (joinC (S:=List Int×Int×Int×Int×Int×List (Int×Int)×Bool×Bool×Bool×Bool×Bool×Int×List Int×Int×Int×Int×Int×List (Int×Int)×Bool×Bool×Bool) (R:=List Int×Int×Int×Int×Int×List (Int×Int)×Bool×Bool×Bool×Bool×Bool×Int)
 (loopC (S:=List Int×List Int×Int×Int×Int×Int×List (Int×Int)×Bool×Bool×Bool×Bool×Bool×Int×List Int×Int×Int×Int×Int×List (Int×Int)×Bool×Bool×Bool) (R:=(List Int×Int×Int×Int×Int×List (Int×Int)×Bool×Bool×Bool×Bool×Bool×Int)⊕(List Int×Int×Int×Int×Int×List (Int×Int)×Bool×Bool×Bool×Bool×Bool×Int×List Int×Int×Int×Int×Int×List (Int×Int)×Bool×Bool×Bool)) (F_part_settings_L9) (l4,([]:List Int),0,0,0,0,([]:List (Int×Int)),false,false,false,false,false,0,([]:List Int),0,0,0,0,([]:List (Int×Int)),false,(decide ((bits .and .i64 i2 1) > 0)),false))
 (F_part_settings_J7))))
def F_part_settings_sig:Sig:=⟨[.v true [.d (.int .i64),.d (.int .i64),.d (.int .i64),.d (.sl (.int .u8))]],[(true,[.own 5 (.int .u8),.d (.int .i64),.d (.int .i64),.d (.int .i64),.d (.int .i64),.own 66 (.pr (.int .i64) (.int .i64)),.d .bool,.d .bool,.d .bool]),(true,[.d .bool,.d .bool,.d (.int .i64)])],[]⟩
def F_part_settings_ann:List (Nat×Ann):=[(7,⟨8,[],[(2,[.own 5 (.int .u8),.d (.int .i64),.d (.int .i64),.d (.int .i64),.d (.int .i64),.own 66 (.pr (.int .i64) (.int .i64)),.d .bool,.d .bool,.d .bool]),(3,[.d .bool,.d .bool,.d (.int .i64)]),(4,[.own 5 (.int .u8),.d (.int .i64),.d (.int .i64),.d (.int .i64),.d (.int .i64),.own 66 (.pr (.int .i64) (.int .i64)),.d .bool,.d .bool,.d .bool])],([5]++List.range' 37 26),[],[],[]⟩),(9,⟨10,[(5,false,[.d (.sl (.int .u8))])],[(2,[.own 5 (.int .u8),.d (.int .i64),.d (.int .i64),.d (.int .i64),.d (.int .i64),.own 66 (.pr (.int .i64) (.int .i64)),.d .bool,.d .bool,.d .bool]),(3,[.d .bool,.d .bool,.d (.int .i64)]),(4,[.own 5 (.int .u8),.d (.int .i64),.d (.int .i64),.d (.int .i64),.d (.int .i64),.own 66 (.pr (.int .i64) (.int .i64)),.d .bool,.d .bool,.d .bool])],(List.range' 39 24),[],[],[]⟩)]
noncomputable def F_part_settings_env:Env:=⟨Tryd.prog,[(41,⟨F_part_conn_sig,⟨F_part_conn⟩⟩),(45,⟨F_part_number_sig,⟨F_part_number⟩⟩)],[45]⟩
theorem F_part_settings_text:pvFn F_part_settings_env F_part_settings_ann Tryd.f40 F_part_settings_sig=F_part_settings:=by kernel_rfl
noncomputable def F_part_whole (i1:Int) (i2:Int) (i3:Int) (l4:List Int):Option (List Int×Int×Int×Int×Int×List (Int×Int)×Bool×Bool×Bool×Bool×Bool×Int):=
 cond (i3 != 0)
 ((F_part_conn 1).bind fun x5=>
 some (x5.1,x5.2.1,x5.2.2.1,x5.2.2.2.1,x5.2.2.2.2.1,x5.2.2.2.2.2.1,x5.2.2.2.2.2.2.1,x5.2.2.2.2.2.2.2.1,x5.2.2.2.2.2.2.2.2.1,x5.2.2.2.2.2.2.2.2.2.1,x5.2.2.2.2.2.2.2.2.2.2.1,x5.2.2.2.2.2.2.2.2.2.2.2))
 (cond (decide ((l4.length:Int) < 8))
 ((F_part_conn 6).bind fun x6=>
 some (x6.1,x6.2.1,x6.2.2.1,x6.2.2.2.1,x6.2.2.2.2.1,x6.2.2.2.2.2.1,x6.2.2.2.2.2.2.1,x6.2.2.2.2.2.2.2.1,x6.2.2.2.2.2.2.2.2.1,x6.2.2.2.2.2.2.2.2.2.1,x6.2.2.2.2.2.2.2.2.2.2.1,x6.2.2.2.2.2.2.2.2.2.2.2))
 (cond (i1==6)
 (cond (decide ((l4.length:Int) > 8))
 ((F_part_conn 6).bind fun x7=>
 some (x7.1,x7.2.1,x7.2.2.1,x7.2.2.2.1,x7.2.2.2.2.1,x7.2.2.2.2.2.1,x7.2.2.2.2.2.2.1,x7.2.2.2.2.2.2.2.1,x7.2.2.2.2.2.2.2.2.1,x7.2.2.2.2.2.2.2.2.2.1,x7.2.2.2.2.2.2.2.2.2.2.1,x7.2.2.2.2.2.2.2.2.2.2.2))
 (cond (i1==6)
 ((F_bytes_Clone l4).bind fun l8=>
 some (l8,0,0,0,0,([]:List (Int×Int)),false,(decide ((bits .and .i64 i2 1) > 0)),false,false,false,0))
 ((F_part_number l4).bind fun i9=>
 (cutI l4 4 (l4.length:Int)).bind fun l10=>
 (F_part_number l10).bind fun i11=>
 some (([]:List Int),0,i11,(bits .and .i64 i9 2147483647),0,([]:List (Int×Int)),false,false,false,false,false,0))))
 (cond (i1==6)
 ((F_bytes_Clone l4).bind fun l12=>
 some (l12,0,0,0,0,([]:List (Int×Int)),false,(decide ((bits .and .i64 i2 1) > 0)),false,false,false,0))
 ((F_part_number l4).bind fun i13=>
 (cutI l4 4 (l4.length:Int)).bind fun l14=>
 (F_part_number l14).bind fun i15=>
 some (([]:List Int),0,i15,(bits .and .i64 i13 2147483647),0,([]:List (Int×Int)),false,false,false,false,false,0)))))
def F_part_whole_sig:Sig:=⟨[.v true [.d (.int .i64),.d (.int .i64),.d (.int .i64),.d (.sl (.int .u8))]],[(true,[.own 5 (.int .u8),.d (.int .i64),.d (.int .i64),.d (.int .i64),.d (.int .i64),.own 66 (.pr (.int .i64) (.int .i64)),.d .bool,.d .bool,.d .bool]),(true,[.d .bool,.d .bool,.d (.int .i64)])],[]⟩
def F_part_whole_ann:List (Nat×Ann):=[]
noncomputable def F_part_whole_env:Env:=⟨Tryd.prog,[(29,⟨F_bytes_Clone_sig,⟨F_bytes_Clone⟩⟩),(41,⟨F_part_conn_sig,⟨F_part_conn⟩⟩),(45,⟨F_part_number_sig,⟨F_part_number⟩⟩)],[]⟩
theorem F_part_whole_text:pvFn F_part_whole_env F_part_whole_ann Tryd.f42 F_part_whole_sig=F_part_whole:=by kernel_rfl
noncomputable def F_part_stream (i1:Int):Option (List Int×Int×Int×Int×Int×List (Int×Int)×Bool×Bool×Bool×Bool×Bool×Int):=
 some (([]:List Int),0,0,0,0,([]:List (Int×Int)),false,false,false,true,false,i1)
def F_part_stream_sig:Sig:=⟨[.v false [.d (.int .i64)]],[(true,[.own 5 (.int .u8),.d (.int .i64),.d (.int .i64),.d (.int .i64),.d (.int .i64),.own 66 (.pr (.int .i64) (.int .i64)),.d .bool,.d .bool,.d .bool]),(true,[.d .bool,.d .bool,.d (.int .i64)])],[]⟩
def F_part_stream_ann:List (Nat×Ann):=[]
noncomputable def F_part_stream_env:Env:=⟨Tryd.prog,[],[]⟩
theorem F_part_stream_text:pvFn F_part_stream_env F_part_stream_ann Tryd.f44 F_part_stream_sig=F_part_stream:=by kernel_rfl
noncomputable def F_part_update (i1:Int) (i2:Int) (i3:Int) (l4:List Int):Option (List Int×Int×Int×Int×Int×List (Int×Int)×Bool×Bool×Bool×Bool×Bool×Int):=
 cond ((l4.length:Int) != 4)
 ((F_part_conn 6).bind fun x5=>
 some (x5.1,x5.2.1,x5.2.2.1,x5.2.2.2.1,x5.2.2.2.2.1,x5.2.2.2.2.2.1,x5.2.2.2.2.2.2.1,x5.2.2.2.2.2.2.2.1,x5.2.2.2.2.2.2.2.2.1,x5.2.2.2.2.2.2.2.2.2.1,x5.2.2.2.2.2.2.2.2.2.2.1,x5.2.2.2.2.2.2.2.2.2.2.2))
 ((F_part_number l4).bind fun i6=>
 cond ((bits .and .i64 i6 2147483647)==0)
 (cond (i3==0)
 ((F_part_conn 1).bind fun x7=>
 some (x7.1,x7.2.1,x7.2.2.1,x7.2.2.2.1,x7.2.2.2.2.1,x7.2.2.2.2.2.1,x7.2.2.2.2.2.2.1,x7.2.2.2.2.2.2.2.1,x7.2.2.2.2.2.2.2.2.1,x7.2.2.2.2.2.2.2.2.2.1,x7.2.2.2.2.2.2.2.2.2.2.1,x7.2.2.2.2.2.2.2.2.2.2.2))
 (cond ((bits .and .i64 i6 2147483647)==0)
 ((F_part_stream 1).bind fun x8=>
 some (x8.1,x8.2.1,x8.2.2.1,x8.2.2.2.1,x8.2.2.2.2.1,x8.2.2.2.2.2.1,x8.2.2.2.2.2.2.1,x8.2.2.2.2.2.2.2.1,x8.2.2.2.2.2.2.2.2.1,x8.2.2.2.2.2.2.2.2.2.1,x8.2.2.2.2.2.2.2.2.2.2.1,x8.2.2.2.2.2.2.2.2.2.2.2))
 (some (([]:List Int),0,0,0,(bits .and .i64 i6 2147483647),([]:List (Int×Int)),false,false,false,false,false,0))))
 (cond ((bits .and .i64 i6 2147483647)==0)
 ((F_part_stream 1).bind fun x9=>
 some (x9.1,x9.2.1,x9.2.2.1,x9.2.2.2.1,x9.2.2.2.2.1,x9.2.2.2.2.2.1,x9.2.2.2.2.2.2.1,x9.2.2.2.2.2.2.2.1,x9.2.2.2.2.2.2.2.2.1,x9.2.2.2.2.2.2.2.2.2.1,x9.2.2.2.2.2.2.2.2.2.2.1,x9.2.2.2.2.2.2.2.2.2.2.2))
 (some (([]:List Int),0,0,0,(bits .and .i64 i6 2147483647),([]:List (Int×Int)),false,false,false,false,false,0))))
def F_part_update_sig:Sig:=⟨[.v true [.d (.int .i64),.d (.int .i64),.d (.int .i64),.d (.sl (.int .u8))]],[(true,[.own 5 (.int .u8),.d (.int .i64),.d (.int .i64),.d (.int .i64),.d (.int .i64),.own 66 (.pr (.int .i64) (.int .i64)),.d .bool,.d .bool,.d .bool]),(true,[.d .bool,.d .bool,.d (.int .i64)])],[]⟩
def F_part_update_ann:List (Nat×Ann):=[]
noncomputable def F_part_update_env:Env:=⟨Tryd.prog,[(41,⟨F_part_conn_sig,⟨F_part_conn⟩⟩),(44,⟨F_part_stream_sig,⟨F_part_stream⟩⟩),(45,⟨F_part_number_sig,⟨F_part_number⟩⟩)],[]⟩
theorem F_part_update_text:pvFn F_part_update_env F_part_update_ann Tryd.f43 F_part_update_sig=F_part_update:=by kernel_rfl
noncomputable def F_part_Read (i1:Int) (i2:Int) (i3:Int) (l4:List Int):Option (List Int×Int×Int×Int×Int×List (Int×Int)×Bool×Bool×Bool×Bool×Bool×Int):=
 cond (i1==0)
 (cond (i1==0)
 ((F_part_bodied i1 i2 i3 l4).bind fun x5=>
 some (x5.1,x5.2.1,x5.2.2.1,x5.2.2.2.1,x5.2.2.2.2.1,x5.2.2.2.2.2.1,x5.2.2.2.2.2.2.1,x5.2.2.2.2.2.2.2.1,x5.2.2.2.2.2.2.2.2.1,x5.2.2.2.2.2.2.2.2.2.1,x5.2.2.2.2.2.2.2.2.2.2.1,x5.2.2.2.2.2.2.2.2.2.2.2))
 (cond (i1==4)
 ((F_part_settings i1 i2 i3 l4).bind fun x6=>
 some (x6.1,x6.2.1,x6.2.2.1,x6.2.2.2.1,x6.2.2.2.2.1,x6.2.2.2.2.2.1,x6.2.2.2.2.2.2.1,x6.2.2.2.2.2.2.2.1,x6.2.2.2.2.2.2.2.2.1,x6.2.2.2.2.2.2.2.2.2.1,x6.2.2.2.2.2.2.2.2.2.2.1,x6.2.2.2.2.2.2.2.2.2.2.2))
 (cond (i1==5)
 ((F_part_conn 1).bind fun x7=>
 some (x7.1,x7.2.1,x7.2.2.1,x7.2.2.2.1,x7.2.2.2.2.1,x7.2.2.2.2.2.1,x7.2.2.2.2.2.2.1,x7.2.2.2.2.2.2.2.1,x7.2.2.2.2.2.2.2.2.1,x7.2.2.2.2.2.2.2.2.2.1,x7.2.2.2.2.2.2.2.2.2.2.1,x7.2.2.2.2.2.2.2.2.2.2.2))
 (cond (i1==6)
 (cond (i1==6)
 ((F_part_whole i1 i2 i3 l4).bind fun x8=>
 some (x8.1,x8.2.1,x8.2.2.1,x8.2.2.2.1,x8.2.2.2.2.1,x8.2.2.2.2.2.1,x8.2.2.2.2.2.2.1,x8.2.2.2.2.2.2.2.1,x8.2.2.2.2.2.2.2.2.1,x8.2.2.2.2.2.2.2.2.2.1,x8.2.2.2.2.2.2.2.2.2.2.1,x8.2.2.2.2.2.2.2.2.2.2.2))
 (cond (i1==8)
 ((F_part_update i1 i2 i3 l4).bind fun x9=>
 some (x9.1,x9.2.1,x9.2.2.1,x9.2.2.2.1,x9.2.2.2.2.1,x9.2.2.2.2.2.1,x9.2.2.2.2.2.2.1,x9.2.2.2.2.2.2.2.1,x9.2.2.2.2.2.2.2.2.1,x9.2.2.2.2.2.2.2.2.2.1,x9.2.2.2.2.2.2.2.2.2.2.1,x9.2.2.2.2.2.2.2.2.2.2.2))
 (cond (i1==2)
 (cond (i1==2)
 (cond (i3==0)
 ((F_part_conn 1).bind fun x10=>
 some (x10.1,x10.2.1,x10.2.2.1,x10.2.2.2.1,x10.2.2.2.2.1,x10.2.2.2.2.2.1,x10.2.2.2.2.2.2.1,x10.2.2.2.2.2.2.2.1,x10.2.2.2.2.2.2.2.2.1,x10.2.2.2.2.2.2.2.2.2.1,x10.2.2.2.2.2.2.2.2.2.2.1,x10.2.2.2.2.2.2.2.2.2.2.2))
 (cond (i1==9)
 ((F_bytes_Clone l4).bind fun l11=>
 some (l11,0,0,0,0,([]:List (Int×Int)),false,false,(decide ((bits .and .i64 i2 4) > 0)),false,false,0))
 (cond (i1==2)
 (cond ((l4.length:Int) != 5)
 ((F_part_stream 6).bind fun x12=>
 some (x12.1,x12.2.1,x12.2.2.1,x12.2.2.2.1,x12.2.2.2.2.1,x12.2.2.2.2.2.1,x12.2.2.2.2.2.2.1,x12.2.2.2.2.2.2.2.1,x12.2.2.2.2.2.2.2.2.1,x12.2.2.2.2.2.2.2.2.2.1,x12.2.2.2.2.2.2.2.2.2.2.1,x12.2.2.2.2.2.2.2.2.2.2.2))
 (cond (i1==2)
 (some (([]:List Int),0,0,0,0,([]:List (Int×Int)),false,false,false,false,false,0))
 (cond ((l4.length:Int) != 4)
 ((F_part_conn 6).bind fun x13=>
 some (x13.1,x13.2.1,x13.2.2.1,x13.2.2.2.1,x13.2.2.2.2.1,x13.2.2.2.2.2.1,x13.2.2.2.2.2.2.1,x13.2.2.2.2.2.2.2.1,x13.2.2.2.2.2.2.2.2.1,x13.2.2.2.2.2.2.2.2.2.1,x13.2.2.2.2.2.2.2.2.2.2.1,x13.2.2.2.2.2.2.2.2.2.2.2))
 ((F_part_number l4).bind fun i14=>
 some (([]:List Int),0,i14,0,0,([]:List (Int×Int)),false,false,false,false,false,0)))))
 (cond (i1==2)
 (some (([]:List Int),0,0,0,0,([]:List (Int×Int)),false,false,false,false,false,0))
 (cond ((l4.length:Int) != 4)
 ((F_part_conn 6).bind fun x15=>
 some (x15.1,x15.2.1,x15.2.2.1,x15.2.2.2.1,x15.2.2.2.2.1,x15.2.2.2.2.2.1,x15.2.2.2.2.2.2.1,x15.2.2.2.2.2.2.2.1,x15.2.2.2.2.2.2.2.2.1,x15.2.2.2.2.2.2.2.2.2.1,x15.2.2.2.2.2.2.2.2.2.2.1,x15.2.2.2.2.2.2.2.2.2.2.2))
 ((F_part_number l4).bind fun i17=>
 some (([]:List Int),0,i17,0,0,([]:List (Int×Int)),false,false,false,false,false,0)))))))
 (some (([]:List Int),0,0,0,0,([]:List (Int×Int)),false,false,false,false,false,0)))
 (cond (i1==3)
 (cond (i1==3)
 (cond (i3==0)
 ((F_part_conn 1).bind fun x18=>
 some (x18.1,x18.2.1,x18.2.2.1,x18.2.2.2.1,x18.2.2.2.2.1,x18.2.2.2.2.2.1,x18.2.2.2.2.2.2.1,x18.2.2.2.2.2.2.2.1,x18.2.2.2.2.2.2.2.2.1,x18.2.2.2.2.2.2.2.2.2.1,x18.2.2.2.2.2.2.2.2.2.2.1,x18.2.2.2.2.2.2.2.2.2.2.2))
 (cond (i1==9)
 ((F_bytes_Clone l4).bind fun l19=>
 some (l19,0,0,0,0,([]:List (Int×Int)),false,false,(decide ((bits .and .i64 i2 4) > 0)),false,false,0))
 (cond (i1==2)
 (cond ((l4.length:Int) != 5)
 ((F_part_stream 6).bind fun x20=>
 some (x20.1,x20.2.1,x20.2.2.1,x20.2.2.2.1,x20.2.2.2.2.1,x20.2.2.2.2.2.1,x20.2.2.2.2.2.2.1,x20.2.2.2.2.2.2.2.1,x20.2.2.2.2.2.2.2.2.1,x20.2.2.2.2.2.2.2.2.2.1,x20.2.2.2.2.2.2.2.2.2.2.1,x20.2.2.2.2.2.2.2.2.2.2.2))
 (cond (i1==2)
 (some (([]:List Int),0,0,0,0,([]:List (Int×Int)),false,false,false,false,false,0))
 (cond ((l4.length:Int) != 4)
 ((F_part_conn 6).bind fun x21=>
 some (x21.1,x21.2.1,x21.2.2.1,x21.2.2.2.1,x21.2.2.2.2.1,x21.2.2.2.2.2.1,x21.2.2.2.2.2.2.1,x21.2.2.2.2.2.2.2.1,x21.2.2.2.2.2.2.2.2.1,x21.2.2.2.2.2.2.2.2.2.1,x21.2.2.2.2.2.2.2.2.2.2.1,x21.2.2.2.2.2.2.2.2.2.2.2))
 ((F_part_number l4).bind fun i22=>
 some (([]:List Int),0,i22,0,0,([]:List (Int×Int)),false,false,false,false,false,0)))))
 (cond (i1==2)
 (some (([]:List Int),0,0,0,0,([]:List (Int×Int)),false,false,false,false,false,0))
 (cond ((l4.length:Int) != 4)
 ((F_part_conn 6).bind fun x23=>
 some (x23.1,x23.2.1,x23.2.2.1,x23.2.2.2.1,x23.2.2.2.2.1,x23.2.2.2.2.2.1,x23.2.2.2.2.2.2.1,x23.2.2.2.2.2.2.2.1,x23.2.2.2.2.2.2.2.2.1,x23.2.2.2.2.2.2.2.2.2.1,x23.2.2.2.2.2.2.2.2.2.2.1,x23.2.2.2.2.2.2.2.2.2.2.2))
 ((F_part_number l4).bind fun i24=>
 some (([]:List Int),0,i24,0,0,([]:List (Int×Int)),false,false,false,false,false,0)))))))
 (some (([]:List Int),0,0,0,0,([]:List (Int×Int)),false,false,false,false,false,0)))
 (cond (i1==9)
 (cond (i3==0)
 ((F_part_conn 1).bind fun x25=>
 some (x25.1,x25.2.1,x25.2.2.1,x25.2.2.2.1,x25.2.2.2.2.1,x25.2.2.2.2.2.1,x25.2.2.2.2.2.2.1,x25.2.2.2.2.2.2.2.1,x25.2.2.2.2.2.2.2.2.1,x25.2.2.2.2.2.2.2.2.2.1,x25.2.2.2.2.2.2.2.2.2.2.1,x25.2.2.2.2.2.2.2.2.2.2.2))
 (cond (i1==9)
 ((F_bytes_Clone l4).bind fun l26=>
 some (l26,0,0,0,0,([]:List (Int×Int)),false,false,(decide ((bits .and .i64 i2 4) > 0)),false,false,0))
 (cond (i1==2)
 (cond ((l4.length:Int) != 5)
 ((F_part_stream 6).bind fun x27=>
 some (x27.1,x27.2.1,x27.2.2.1,x27.2.2.2.1,x27.2.2.2.2.1,x27.2.2.2.2.2.1,x27.2.2.2.2.2.2.1,x27.2.2.2.2.2.2.2.1,x27.2.2.2.2.2.2.2.2.1,x27.2.2.2.2.2.2.2.2.2.1,x27.2.2.2.2.2.2.2.2.2.2.1,x27.2.2.2.2.2.2.2.2.2.2.2))
 (cond (i1==2)
 (some (([]:List Int),0,0,0,0,([]:List (Int×Int)),false,false,false,false,false,0))
 (cond ((l4.length:Int) != 4)
 ((F_part_conn 6).bind fun x28=>
 some (x28.1,x28.2.1,x28.2.2.1,x28.2.2.2.1,x28.2.2.2.2.1,x28.2.2.2.2.2.1,x28.2.2.2.2.2.2.1,x28.2.2.2.2.2.2.2.1,x28.2.2.2.2.2.2.2.2.1,x28.2.2.2.2.2.2.2.2.2.1,x28.2.2.2.2.2.2.2.2.2.2.1,x28.2.2.2.2.2.2.2.2.2.2.2))
 ((F_part_number l4).bind fun i29=>
 some (([]:List Int),0,i29,0,0,([]:List (Int×Int)),false,false,false,false,false,0)))))
 (cond (i1==2)
 (some (([]:List Int),0,0,0,0,([]:List (Int×Int)),false,false,false,false,false,0))
 (cond ((l4.length:Int) != 4)
 ((F_part_conn 6).bind fun x30=>
 some (x30.1,x30.2.1,x30.2.2.1,x30.2.2.2.1,x30.2.2.2.2.1,x30.2.2.2.2.2.1,x30.2.2.2.2.2.2.1,x30.2.2.2.2.2.2.2.1,x30.2.2.2.2.2.2.2.2.1,x30.2.2.2.2.2.2.2.2.2.1,x30.2.2.2.2.2.2.2.2.2.2.1,x30.2.2.2.2.2.2.2.2.2.2.2))
 ((F_part_number l4).bind fun i31=>
 some (([]:List Int),0,i31,0,0,([]:List (Int×Int)),false,false,false,false,false,0)))))))
 (some (([]:List Int),0,0,0,0,([]:List (Int×Int)),false,false,false,false,false,0)))))))
 (cond (i1==7)
 ((F_part_whole i1 i2 i3 l4).bind fun x32=>
 some (x32.1,x32.2.1,x32.2.2.1,x32.2.2.2.1,x32.2.2.2.2.1,x32.2.2.2.2.2.1,x32.2.2.2.2.2.2.1,x32.2.2.2.2.2.2.2.1,x32.2.2.2.2.2.2.2.2.1,x32.2.2.2.2.2.2.2.2.2.1,x32.2.2.2.2.2.2.2.2.2.2.1,x32.2.2.2.2.2.2.2.2.2.2.2))
 (cond (i1==8)
 ((F_part_update i1 i2 i3 l4).bind fun x33=>
 some (x33.1,x33.2.1,x33.2.2.1,x33.2.2.2.1,x33.2.2.2.2.1,x33.2.2.2.2.2.1,x33.2.2.2.2.2.2.1,x33.2.2.2.2.2.2.2.1,x33.2.2.2.2.2.2.2.2.1,x33.2.2.2.2.2.2.2.2.2.1,x33.2.2.2.2.2.2.2.2.2.2.1,x33.2.2.2.2.2.2.2.2.2.2.2))
 (cond (i1==2)
 (cond (i1==2)
 (cond (i3==0)
 ((F_part_conn 1).bind fun x34=>
 some (x34.1,x34.2.1,x34.2.2.1,x34.2.2.2.1,x34.2.2.2.2.1,x34.2.2.2.2.2.1,x34.2.2.2.2.2.2.1,x34.2.2.2.2.2.2.2.1,x34.2.2.2.2.2.2.2.2.1,x34.2.2.2.2.2.2.2.2.2.1,x34.2.2.2.2.2.2.2.2.2.2.1,x34.2.2.2.2.2.2.2.2.2.2.2))
 (cond (i1==9)
 ((F_bytes_Clone l4).bind fun l35=>
 some (l35,0,0,0,0,([]:List (Int×Int)),false,false,(decide ((bits .and .i64 i2 4) > 0)),false,false,0))
 (cond (i1==2)
 (cond ((l4.length:Int) != 5)
 ((F_part_stream 6).bind fun x36=>
 some (x36.1,x36.2.1,x36.2.2.1,x36.2.2.2.1,x36.2.2.2.2.1,x36.2.2.2.2.2.1,x36.2.2.2.2.2.2.1,x36.2.2.2.2.2.2.2.1,x36.2.2.2.2.2.2.2.2.1,x36.2.2.2.2.2.2.2.2.2.1,x36.2.2.2.2.2.2.2.2.2.2.1,x36.2.2.2.2.2.2.2.2.2.2.2))
 (cond (i1==2)
 (some (([]:List Int),0,0,0,0,([]:List (Int×Int)),false,false,false,false,false,0))
 (cond ((l4.length:Int) != 4)
 ((F_part_conn 6).bind fun x37=>
 some (x37.1,x37.2.1,x37.2.2.1,x37.2.2.2.1,x37.2.2.2.2.1,x37.2.2.2.2.2.1,x37.2.2.2.2.2.2.1,x37.2.2.2.2.2.2.2.1,x37.2.2.2.2.2.2.2.2.1,x37.2.2.2.2.2.2.2.2.2.1,x37.2.2.2.2.2.2.2.2.2.2.1,x37.2.2.2.2.2.2.2.2.2.2.2))
 ((F_part_number l4).bind fun i38=>
 some (([]:List Int),0,i38,0,0,([]:List (Int×Int)),false,false,false,false,false,0)))))
 (cond (i1==2)
 (some (([]:List Int),0,0,0,0,([]:List (Int×Int)),false,false,false,false,false,0))
 (cond ((l4.length:Int) != 4)
 ((F_part_conn 6).bind fun x39=>
 some (x39.1,x39.2.1,x39.2.2.1,x39.2.2.2.1,x39.2.2.2.2.1,x39.2.2.2.2.2.1,x39.2.2.2.2.2.2.1,x39.2.2.2.2.2.2.2.1,x39.2.2.2.2.2.2.2.2.1,x39.2.2.2.2.2.2.2.2.2.1,x39.2.2.2.2.2.2.2.2.2.2.1,x39.2.2.2.2.2.2.2.2.2.2.2))
 ((F_part_number l4).bind fun i40=>
 some (([]:List Int),0,i40,0,0,([]:List (Int×Int)),false,false,false,false,false,0)))))))
 (some (([]:List Int),0,0,0,0,([]:List (Int×Int)),false,false,false,false,false,0)))
 (cond (i1==3)
 (cond (i1==3)
 (cond (i3==0)
 ((F_part_conn 1).bind fun x41=>
 some (x41.1,x41.2.1,x41.2.2.1,x41.2.2.2.1,x41.2.2.2.2.1,x41.2.2.2.2.2.1,x41.2.2.2.2.2.2.1,x41.2.2.2.2.2.2.2.1,x41.2.2.2.2.2.2.2.2.1,x41.2.2.2.2.2.2.2.2.2.1,x41.2.2.2.2.2.2.2.2.2.2.1,x41.2.2.2.2.2.2.2.2.2.2.2))
 (cond (i1==9)
 ((F_bytes_Clone l4).bind fun l42=>
 some (l42,0,0,0,0,([]:List (Int×Int)),false,false,(decide ((bits .and .i64 i2 4) > 0)),false,false,0))
 (cond (i1==2)
 (cond ((l4.length:Int) != 5)
 ((F_part_stream 6).bind fun x43=>
 some (x43.1,x43.2.1,x43.2.2.1,x43.2.2.2.1,x43.2.2.2.2.1,x43.2.2.2.2.2.1,x43.2.2.2.2.2.2.1,x43.2.2.2.2.2.2.2.1,x43.2.2.2.2.2.2.2.2.1,x43.2.2.2.2.2.2.2.2.2.1,x43.2.2.2.2.2.2.2.2.2.2.1,x43.2.2.2.2.2.2.2.2.2.2.2))
 (cond (i1==2)
 (some (([]:List Int),0,0,0,0,([]:List (Int×Int)),false,false,false,false,false,0))
 (cond ((l4.length:Int) != 4)
 ((F_part_conn 6).bind fun x44=>
 some (x44.1,x44.2.1,x44.2.2.1,x44.2.2.2.1,x44.2.2.2.2.1,x44.2.2.2.2.2.1,x44.2.2.2.2.2.2.1,x44.2.2.2.2.2.2.2.1,x44.2.2.2.2.2.2.2.2.1,x44.2.2.2.2.2.2.2.2.2.1,x44.2.2.2.2.2.2.2.2.2.2.1,x44.2.2.2.2.2.2.2.2.2.2.2))
 ((F_part_number l4).bind fun i45=>
 some (([]:List Int),0,i45,0,0,([]:List (Int×Int)),false,false,false,false,false,0)))))
 (cond (i1==2)
 (some (([]:List Int),0,0,0,0,([]:List (Int×Int)),false,false,false,false,false,0))
 (cond ((l4.length:Int) != 4)
 ((F_part_conn 6).bind fun x46=>
 some (x46.1,x46.2.1,x46.2.2.1,x46.2.2.2.1,x46.2.2.2.2.1,x46.2.2.2.2.2.1,x46.2.2.2.2.2.2.1,x46.2.2.2.2.2.2.2.1,x46.2.2.2.2.2.2.2.2.1,x46.2.2.2.2.2.2.2.2.2.1,x46.2.2.2.2.2.2.2.2.2.2.1,x46.2.2.2.2.2.2.2.2.2.2.2))
 ((F_part_number l4).bind fun i47=>
 some (([]:List Int),0,i47,0,0,([]:List (Int×Int)),false,false,false,false,false,0)))))))
 (some (([]:List Int),0,0,0,0,([]:List (Int×Int)),false,false,false,false,false,0)))
 (cond (i1==9)
 (cond (i3==0)
 ((F_part_conn 1).bind fun x48=>
 some (x48.1,x48.2.1,x48.2.2.1,x48.2.2.2.1,x48.2.2.2.2.1,x48.2.2.2.2.2.1,x48.2.2.2.2.2.2.1,x48.2.2.2.2.2.2.2.1,x48.2.2.2.2.2.2.2.2.1,x48.2.2.2.2.2.2.2.2.2.1,x48.2.2.2.2.2.2.2.2.2.2.1,x48.2.2.2.2.2.2.2.2.2.2.2))
 (cond (i1==9)
 ((F_bytes_Clone l4).bind fun l49=>
 some (l49,0,0,0,0,([]:List (Int×Int)),false,false,(decide ((bits .and .i64 i2 4) > 0)),false,false,0))
 (cond (i1==2)
 (cond ((l4.length:Int) != 5)
 ((F_part_stream 6).bind fun x50=>
 some (x50.1,x50.2.1,x50.2.2.1,x50.2.2.2.1,x50.2.2.2.2.1,x50.2.2.2.2.2.1,x50.2.2.2.2.2.2.1,x50.2.2.2.2.2.2.2.1,x50.2.2.2.2.2.2.2.2.1,x50.2.2.2.2.2.2.2.2.2.1,x50.2.2.2.2.2.2.2.2.2.2.1,x50.2.2.2.2.2.2.2.2.2.2.2))
 (cond (i1==2)
 (some (([]:List Int),0,0,0,0,([]:List (Int×Int)),false,false,false,false,false,0))
 (cond ((l4.length:Int) != 4)
 ((F_part_conn 6).bind fun x51=>
 some (x51.1,x51.2.1,x51.2.2.1,x51.2.2.2.1,x51.2.2.2.2.1,x51.2.2.2.2.2.1,x51.2.2.2.2.2.2.1,x51.2.2.2.2.2.2.2.1,x51.2.2.2.2.2.2.2.2.1,x51.2.2.2.2.2.2.2.2.2.1,x51.2.2.2.2.2.2.2.2.2.2.1,x51.2.2.2.2.2.2.2.2.2.2.2))
 ((F_part_number l4).bind fun i52=>
 some (([]:List Int),0,i52,0,0,([]:List (Int×Int)),false,false,false,false,false,0)))))
 (cond (i1==2)
 (some (([]:List Int),0,0,0,0,([]:List (Int×Int)),false,false,false,false,false,0))
 (cond ((l4.length:Int) != 4)
 ((F_part_conn 6).bind fun x53=>
 some (x53.1,x53.2.1,x53.2.2.1,x53.2.2.2.1,x53.2.2.2.2.1,x53.2.2.2.2.2.1,x53.2.2.2.2.2.2.1,x53.2.2.2.2.2.2.2.1,x53.2.2.2.2.2.2.2.2.1,x53.2.2.2.2.2.2.2.2.2.1,x53.2.2.2.2.2.2.2.2.2.2.1,x53.2.2.2.2.2.2.2.2.2.2.2))
 ((F_part_number l4).bind fun i54=>
 some (([]:List Int),0,i54,0,0,([]:List (Int×Int)),false,false,false,false,false,0)))))))
 (some (([]:List Int),0,0,0,0,([]:List (Int×Int)),false,false,false,false,false,0)))))))))))
 (cond (i1==1)
 ((F_part_bodied i1 i2 i3 l4).bind fun x55=>
 some (x55.1,x55.2.1,x55.2.2.1,x55.2.2.2.1,x55.2.2.2.2.1,x55.2.2.2.2.2.1,x55.2.2.2.2.2.2.1,x55.2.2.2.2.2.2.2.1,x55.2.2.2.2.2.2.2.2.1,x55.2.2.2.2.2.2.2.2.2.1,x55.2.2.2.2.2.2.2.2.2.2.1,x55.2.2.2.2.2.2.2.2.2.2.2))
 (cond (i1==4)
 ((F_part_settings i1 i2 i3 l4).bind fun x56=>
 some (x56.1,x56.2.1,x56.2.2.1,x56.2.2.2.1,x56.2.2.2.2.1,x56.2.2.2.2.2.1,x56.2.2.2.2.2.2.1,x56.2.2.2.2.2.2.2.1,x56.2.2.2.2.2.2.2.2.1,x56.2.2.2.2.2.2.2.2.2.1,x56.2.2.2.2.2.2.2.2.2.2.1,x56.2.2.2.2.2.2.2.2.2.2.2))
 (cond (i1==5)
 ((F_part_conn 1).bind fun x57=>
 some (x57.1,x57.2.1,x57.2.2.1,x57.2.2.2.1,x57.2.2.2.2.1,x57.2.2.2.2.2.1,x57.2.2.2.2.2.2.1,x57.2.2.2.2.2.2.2.1,x57.2.2.2.2.2.2.2.2.1,x57.2.2.2.2.2.2.2.2.2.1,x57.2.2.2.2.2.2.2.2.2.2.1,x57.2.2.2.2.2.2.2.2.2.2.2))
 (cond (i1==6)
 (cond (i1==6)
 ((F_part_whole i1 i2 i3 l4).bind fun x58=>
 some (x58.1,x58.2.1,x58.2.2.1,x58.2.2.2.1,x58.2.2.2.2.1,x58.2.2.2.2.2.1,x58.2.2.2.2.2.2.1,x58.2.2.2.2.2.2.2.1,x58.2.2.2.2.2.2.2.2.1,x58.2.2.2.2.2.2.2.2.2.1,x58.2.2.2.2.2.2.2.2.2.2.1,x58.2.2.2.2.2.2.2.2.2.2.2))
 (cond (i1==8)
 ((F_part_update i1 i2 i3 l4).bind fun x59=>
 some (x59.1,x59.2.1,x59.2.2.1,x59.2.2.2.1,x59.2.2.2.2.1,x59.2.2.2.2.2.1,x59.2.2.2.2.2.2.1,x59.2.2.2.2.2.2.2.1,x59.2.2.2.2.2.2.2.2.1,x59.2.2.2.2.2.2.2.2.2.1,x59.2.2.2.2.2.2.2.2.2.2.1,x59.2.2.2.2.2.2.2.2.2.2.2))
 (cond (i1==2)
 (cond (i1==2)
 (cond (i3==0)
 ((F_part_conn 1).bind fun x60=>
 some (x60.1,x60.2.1,x60.2.2.1,x60.2.2.2.1,x60.2.2.2.2.1,x60.2.2.2.2.2.1,x60.2.2.2.2.2.2.1,x60.2.2.2.2.2.2.2.1,x60.2.2.2.2.2.2.2.2.1,x60.2.2.2.2.2.2.2.2.2.1,x60.2.2.2.2.2.2.2.2.2.2.1,x60.2.2.2.2.2.2.2.2.2.2.2))
 (cond (i1==9)
 ((F_bytes_Clone l4).bind fun l61=>
 some (l61,0,0,0,0,([]:List (Int×Int)),false,false,(decide ((bits .and .i64 i2 4) > 0)),false,false,0))
 (cond (i1==2)
 (cond ((l4.length:Int) != 5)
 ((F_part_stream 6).bind fun x62=>
 some (x62.1,x62.2.1,x62.2.2.1,x62.2.2.2.1,x62.2.2.2.2.1,x62.2.2.2.2.2.1,x62.2.2.2.2.2.2.1,x62.2.2.2.2.2.2.2.1,x62.2.2.2.2.2.2.2.2.1,x62.2.2.2.2.2.2.2.2.2.1,x62.2.2.2.2.2.2.2.2.2.2.1,x62.2.2.2.2.2.2.2.2.2.2.2))
 (cond (i1==2)
 (some (([]:List Int),0,0,0,0,([]:List (Int×Int)),false,false,false,false,false,0))
 (cond ((l4.length:Int) != 4)
 ((F_part_conn 6).bind fun x63=>
 some (x63.1,x63.2.1,x63.2.2.1,x63.2.2.2.1,x63.2.2.2.2.1,x63.2.2.2.2.2.1,x63.2.2.2.2.2.2.1,x63.2.2.2.2.2.2.2.1,x63.2.2.2.2.2.2.2.2.1,x63.2.2.2.2.2.2.2.2.2.1,x63.2.2.2.2.2.2.2.2.2.2.1,x63.2.2.2.2.2.2.2.2.2.2.2))
 ((F_part_number l4).bind fun i65=>
 some (([]:List Int),0,i65,0,0,([]:List (Int×Int)),false,false,false,false,false,0)))))
 (cond (i1==2)
 (some (([]:List Int),0,0,0,0,([]:List (Int×Int)),false,false,false,false,false,0))
 (cond ((l4.length:Int) != 4)
 ((F_part_conn 6).bind fun x66=>
 some (x66.1,x66.2.1,x66.2.2.1,x66.2.2.2.1,x66.2.2.2.2.1,x66.2.2.2.2.2.1,x66.2.2.2.2.2.2.1,x66.2.2.2.2.2.2.2.1,x66.2.2.2.2.2.2.2.2.1,x66.2.2.2.2.2.2.2.2.2.1,x66.2.2.2.2.2.2.2.2.2.2.1,x66.2.2.2.2.2.2.2.2.2.2.2))
 ((F_part_number l4).bind fun i67=>
 some (([]:List Int),0,i67,0,0,([]:List (Int×Int)),false,false,false,false,false,0)))))))
 (some (([]:List Int),0,0,0,0,([]:List (Int×Int)),false,false,false,false,false,0)))
 (cond (i1==3)
 (cond (i1==3)
 (cond (i3==0)
 ((F_part_conn 1).bind fun x68=>
 some (x68.1,x68.2.1,x68.2.2.1,x68.2.2.2.1,x68.2.2.2.2.1,x68.2.2.2.2.2.1,x68.2.2.2.2.2.2.1,x68.2.2.2.2.2.2.2.1,x68.2.2.2.2.2.2.2.2.1,x68.2.2.2.2.2.2.2.2.2.1,x68.2.2.2.2.2.2.2.2.2.2.1,x68.2.2.2.2.2.2.2.2.2.2.2))
 (cond (i1==9)
 ((F_bytes_Clone l4).bind fun l69=>
 some (l69,0,0,0,0,([]:List (Int×Int)),false,false,(decide ((bits .and .i64 i2 4) > 0)),false,false,0))
 (cond (i1==2)
 (cond ((l4.length:Int) != 5)
 ((F_part_stream 6).bind fun x70=>
 some (x70.1,x70.2.1,x70.2.2.1,x70.2.2.2.1,x70.2.2.2.2.1,x70.2.2.2.2.2.1,x70.2.2.2.2.2.2.1,x70.2.2.2.2.2.2.2.1,x70.2.2.2.2.2.2.2.2.1,x70.2.2.2.2.2.2.2.2.2.1,x70.2.2.2.2.2.2.2.2.2.2.1,x70.2.2.2.2.2.2.2.2.2.2.2))
 (cond (i1==2)
 (some (([]:List Int),0,0,0,0,([]:List (Int×Int)),false,false,false,false,false,0))
 (cond ((l4.length:Int) != 4)
 ((F_part_conn 6).bind fun x71=>
 some (x71.1,x71.2.1,x71.2.2.1,x71.2.2.2.1,x71.2.2.2.2.1,x71.2.2.2.2.2.1,x71.2.2.2.2.2.2.1,x71.2.2.2.2.2.2.2.1,x71.2.2.2.2.2.2.2.2.1,x71.2.2.2.2.2.2.2.2.2.1,x71.2.2.2.2.2.2.2.2.2.2.1,x71.2.2.2.2.2.2.2.2.2.2.2))
 ((F_part_number l4).bind fun i72=>
 some (([]:List Int),0,i72,0,0,([]:List (Int×Int)),false,false,false,false,false,0)))))
 (cond (i1==2)
 (some (([]:List Int),0,0,0,0,([]:List (Int×Int)),false,false,false,false,false,0))
 (cond ((l4.length:Int) != 4)
 ((F_part_conn 6).bind fun x73=>
 some (x73.1,x73.2.1,x73.2.2.1,x73.2.2.2.1,x73.2.2.2.2.1,x73.2.2.2.2.2.1,x73.2.2.2.2.2.2.1,x73.2.2.2.2.2.2.2.1,x73.2.2.2.2.2.2.2.2.1,x73.2.2.2.2.2.2.2.2.2.1,x73.2.2.2.2.2.2.2.2.2.2.1,x73.2.2.2.2.2.2.2.2.2.2.2))
 ((F_part_number l4).bind fun i74=>
 some (([]:List Int),0,i74,0,0,([]:List (Int×Int)),false,false,false,false,false,0)))))))
 (some (([]:List Int),0,0,0,0,([]:List (Int×Int)),false,false,false,false,false,0)))
 (cond (i1==9)
 (cond (i3==0)
 ((F_part_conn 1).bind fun x75=>
 some (x75.1,x75.2.1,x75.2.2.1,x75.2.2.2.1,x75.2.2.2.2.1,x75.2.2.2.2.2.1,x75.2.2.2.2.2.2.1,x75.2.2.2.2.2.2.2.1,x75.2.2.2.2.2.2.2.2.1,x75.2.2.2.2.2.2.2.2.2.1,x75.2.2.2.2.2.2.2.2.2.2.1,x75.2.2.2.2.2.2.2.2.2.2.2))
 (cond (i1==9)
 ((F_bytes_Clone l4).bind fun l76=>
 some (l76,0,0,0,0,([]:List (Int×Int)),false,false,(decide ((bits .and .i64 i2 4) > 0)),false,false,0))
 (cond (i1==2)
 (cond ((l4.length:Int) != 5)
 ((F_part_stream 6).bind fun x77=>
 some (x77.1,x77.2.1,x77.2.2.1,x77.2.2.2.1,x77.2.2.2.2.1,x77.2.2.2.2.2.1,x77.2.2.2.2.2.2.1,x77.2.2.2.2.2.2.2.1,x77.2.2.2.2.2.2.2.2.1,x77.2.2.2.2.2.2.2.2.2.1,x77.2.2.2.2.2.2.2.2.2.2.1,x77.2.2.2.2.2.2.2.2.2.2.2))
 (cond (i1==2)
 (some (([]:List Int),0,0,0,0,([]:List (Int×Int)),false,false,false,false,false,0))
 (cond ((l4.length:Int) != 4)
 ((F_part_conn 6).bind fun x78=>
 some (x78.1,x78.2.1,x78.2.2.1,x78.2.2.2.1,x78.2.2.2.2.1,x78.2.2.2.2.2.1,x78.2.2.2.2.2.2.1,x78.2.2.2.2.2.2.2.1,x78.2.2.2.2.2.2.2.2.1,x78.2.2.2.2.2.2.2.2.2.1,x78.2.2.2.2.2.2.2.2.2.2.1,x78.2.2.2.2.2.2.2.2.2.2.2))
 ((F_part_number l4).bind fun i79=>
 some (([]:List Int),0,i79,0,0,([]:List (Int×Int)),false,false,false,false,false,0)))))
 (cond (i1==2)
 (some (([]:List Int),0,0,0,0,([]:List (Int×Int)),false,false,false,false,false,0))
 (cond ((l4.length:Int) != 4)
 ((F_part_conn 6).bind fun x80=>
 some (x80.1,x80.2.1,x80.2.2.1,x80.2.2.2.1,x80.2.2.2.2.1,x80.2.2.2.2.2.1,x80.2.2.2.2.2.2.1,x80.2.2.2.2.2.2.2.1,x80.2.2.2.2.2.2.2.2.1,x80.2.2.2.2.2.2.2.2.2.1,x80.2.2.2.2.2.2.2.2.2.2.1,x80.2.2.2.2.2.2.2.2.2.2.2))
 ((F_part_number l4).bind fun i81=>
 some (([]:List Int),0,i81,0,0,([]:List (Int×Int)),false,false,false,false,false,0)))))))
 (some (([]:List Int),0,0,0,0,([]:List (Int×Int)),false,false,false,false,false,0)))))))
 (cond (i1==7)
 ((F_part_whole i1 i2 i3 l4).bind fun x82=>
 some (x82.1,x82.2.1,x82.2.2.1,x82.2.2.2.1,x82.2.2.2.2.1,x82.2.2.2.2.2.1,x82.2.2.2.2.2.2.1,x82.2.2.2.2.2.2.2.1,x82.2.2.2.2.2.2.2.2.1,x82.2.2.2.2.2.2.2.2.2.1,x82.2.2.2.2.2.2.2.2.2.2.1,x82.2.2.2.2.2.2.2.2.2.2.2))
 (cond (i1==8)
 ((F_part_update i1 i2 i3 l4).bind fun x83=>
 some (x83.1,x83.2.1,x83.2.2.1,x83.2.2.2.1,x83.2.2.2.2.1,x83.2.2.2.2.2.1,x83.2.2.2.2.2.2.1,x83.2.2.2.2.2.2.2.1,x83.2.2.2.2.2.2.2.2.1,x83.2.2.2.2.2.2.2.2.2.1,x83.2.2.2.2.2.2.2.2.2.2.1,x83.2.2.2.2.2.2.2.2.2.2.2))
 (cond (i1==2)
 (cond (i1==2)
 (cond (i3==0)
 ((F_part_conn 1).bind fun x84=>
 some (x84.1,x84.2.1,x84.2.2.1,x84.2.2.2.1,x84.2.2.2.2.1,x84.2.2.2.2.2.1,x84.2.2.2.2.2.2.1,x84.2.2.2.2.2.2.2.1,x84.2.2.2.2.2.2.2.2.1,x84.2.2.2.2.2.2.2.2.2.1,x84.2.2.2.2.2.2.2.2.2.2.1,x84.2.2.2.2.2.2.2.2.2.2.2))
 (cond (i1==9)
 ((F_bytes_Clone l4).bind fun l85=>
 some (l85,0,0,0,0,([]:List (Int×Int)),false,false,(decide ((bits .and .i64 i2 4) > 0)),false,false,0))
 (cond (i1==2)
 (cond ((l4.length:Int) != 5)
 ((F_part_stream 6).bind fun x86=>
 some (x86.1,x86.2.1,x86.2.2.1,x86.2.2.2.1,x86.2.2.2.2.1,x86.2.2.2.2.2.1,x86.2.2.2.2.2.2.1,x86.2.2.2.2.2.2.2.1,x86.2.2.2.2.2.2.2.2.1,x86.2.2.2.2.2.2.2.2.2.1,x86.2.2.2.2.2.2.2.2.2.2.1,x86.2.2.2.2.2.2.2.2.2.2.2))
 (cond (i1==2)
 (some (([]:List Int),0,0,0,0,([]:List (Int×Int)),false,false,false,false,false,0))
 (cond ((l4.length:Int) != 4)
 ((F_part_conn 6).bind fun x87=>
 some (x87.1,x87.2.1,x87.2.2.1,x87.2.2.2.1,x87.2.2.2.2.1,x87.2.2.2.2.2.1,x87.2.2.2.2.2.2.1,x87.2.2.2.2.2.2.2.1,x87.2.2.2.2.2.2.2.2.1,x87.2.2.2.2.2.2.2.2.2.1,x87.2.2.2.2.2.2.2.2.2.2.1,x87.2.2.2.2.2.2.2.2.2.2.2))
 ((F_part_number l4).bind fun i88=>
 some (([]:List Int),0,i88,0,0,([]:List (Int×Int)),false,false,false,false,false,0)))))
 (cond (i1==2)
 (some (([]:List Int),0,0,0,0,([]:List (Int×Int)),false,false,false,false,false,0))
 (cond ((l4.length:Int) != 4)
 ((F_part_conn 6).bind fun x89=>
 some (x89.1,x89.2.1,x89.2.2.1,x89.2.2.2.1,x89.2.2.2.2.1,x89.2.2.2.2.2.1,x89.2.2.2.2.2.2.1,x89.2.2.2.2.2.2.2.1,x89.2.2.2.2.2.2.2.2.1,x89.2.2.2.2.2.2.2.2.2.1,x89.2.2.2.2.2.2.2.2.2.2.1,x89.2.2.2.2.2.2.2.2.2.2.2))
 ((F_part_number l4).bind fun i90=>
 some (([]:List Int),0,i90,0,0,([]:List (Int×Int)),false,false,false,false,false,0)))))))
 (some (([]:List Int),0,0,0,0,([]:List (Int×Int)),false,false,false,false,false,0)))
 (cond (i1==3)
 (cond (i1==3)
 (cond (i3==0)
 ((F_part_conn 1).bind fun x91=>
 some (x91.1,x91.2.1,x91.2.2.1,x91.2.2.2.1,x91.2.2.2.2.1,x91.2.2.2.2.2.1,x91.2.2.2.2.2.2.1,x91.2.2.2.2.2.2.2.1,x91.2.2.2.2.2.2.2.2.1,x91.2.2.2.2.2.2.2.2.2.1,x91.2.2.2.2.2.2.2.2.2.2.1,x91.2.2.2.2.2.2.2.2.2.2.2))
 (cond (i1==9)
 ((F_bytes_Clone l4).bind fun l92=>
 some (l92,0,0,0,0,([]:List (Int×Int)),false,false,(decide ((bits .and .i64 i2 4) > 0)),false,false,0))
 (cond (i1==2)
 (cond ((l4.length:Int) != 5)
 ((F_part_stream 6).bind fun x93=>
 some (x93.1,x93.2.1,x93.2.2.1,x93.2.2.2.1,x93.2.2.2.2.1,x93.2.2.2.2.2.1,x93.2.2.2.2.2.2.1,x93.2.2.2.2.2.2.2.1,x93.2.2.2.2.2.2.2.2.1,x93.2.2.2.2.2.2.2.2.2.1,x93.2.2.2.2.2.2.2.2.2.2.1,x93.2.2.2.2.2.2.2.2.2.2.2))
 (cond (i1==2)
 (some (([]:List Int),0,0,0,0,([]:List (Int×Int)),false,false,false,false,false,0))
 (cond ((l4.length:Int) != 4)
 ((F_part_conn 6).bind fun x94=>
 some (x94.1,x94.2.1,x94.2.2.1,x94.2.2.2.1,x94.2.2.2.2.1,x94.2.2.2.2.2.1,x94.2.2.2.2.2.2.1,x94.2.2.2.2.2.2.2.1,x94.2.2.2.2.2.2.2.2.1,x94.2.2.2.2.2.2.2.2.2.1,x94.2.2.2.2.2.2.2.2.2.2.1,x94.2.2.2.2.2.2.2.2.2.2.2))
 ((F_part_number l4).bind fun i95=>
 some (([]:List Int),0,i95,0,0,([]:List (Int×Int)),false,false,false,false,false,0)))))
 (cond (i1==2)
 (some (([]:List Int),0,0,0,0,([]:List (Int×Int)),false,false,false,false,false,0))
 (cond ((l4.length:Int) != 4)
 ((F_part_conn 6).bind fun x96=>
 some (x96.1,x96.2.1,x96.2.2.1,x96.2.2.2.1,x96.2.2.2.2.1,x96.2.2.2.2.2.1,x96.2.2.2.2.2.2.1,x96.2.2.2.2.2.2.2.1,x96.2.2.2.2.2.2.2.2.1,x96.2.2.2.2.2.2.2.2.2.1,x96.2.2.2.2.2.2.2.2.2.2.1,x96.2.2.2.2.2.2.2.2.2.2.2))
 ((F_part_number l4).bind fun i97=>
 some (([]:List Int),0,i97,0,0,([]:List (Int×Int)),false,false,false,false,false,0)))))))
 (some (([]:List Int),0,0,0,0,([]:List (Int×Int)),false,false,false,false,false,0)))
 (cond (i1==9)
 (cond (i3==0)
 ((F_part_conn 1).bind fun x98=>
 some (x98.1,x98.2.1,x98.2.2.1,x98.2.2.2.1,x98.2.2.2.2.1,x98.2.2.2.2.2.1,x98.2.2.2.2.2.2.1,x98.2.2.2.2.2.2.2.1,x98.2.2.2.2.2.2.2.2.1,x98.2.2.2.2.2.2.2.2.2.1,x98.2.2.2.2.2.2.2.2.2.2.1,x98.2.2.2.2.2.2.2.2.2.2.2))
 (cond (i1==9)
 ((F_bytes_Clone l4).bind fun l99=>
 some (l99,0,0,0,0,([]:List (Int×Int)),false,false,(decide ((bits .and .i64 i2 4) > 0)),false,false,0))
 (cond (i1==2)
 (cond ((l4.length:Int) != 5)
 ((F_part_stream 6).bind fun x100=>
 some (x100.1,x100.2.1,x100.2.2.1,x100.2.2.2.1,x100.2.2.2.2.1,x100.2.2.2.2.2.1,x100.2.2.2.2.2.2.1,x100.2.2.2.2.2.2.2.1,x100.2.2.2.2.2.2.2.2.1,x100.2.2.2.2.2.2.2.2.2.1,x100.2.2.2.2.2.2.2.2.2.2.1,x100.2.2.2.2.2.2.2.2.2.2.2))
 (cond (i1==2)
 (some (([]:List Int),0,0,0,0,([]:List (Int×Int)),false,false,false,false,false,0))
 (cond ((l4.length:Int) != 4)
 ((F_part_conn 6).bind fun x101=>
 some (x101.1,x101.2.1,x101.2.2.1,x101.2.2.2.1,x101.2.2.2.2.1,x101.2.2.2.2.2.1,x101.2.2.2.2.2.2.1,x101.2.2.2.2.2.2.2.1,x101.2.2.2.2.2.2.2.2.1,x101.2.2.2.2.2.2.2.2.2.1,x101.2.2.2.2.2.2.2.2.2.2.1,x101.2.2.2.2.2.2.2.2.2.2.2))
 ((F_part_number l4).bind fun i102=>
 some (([]:List Int),0,i102,0,0,([]:List (Int×Int)),false,false,false,false,false,0)))))
 (cond (i1==2)
 (some (([]:List Int),0,0,0,0,([]:List (Int×Int)),false,false,false,false,false,0))
 (cond ((l4.length:Int) != 4)
 ((F_part_conn 6).bind fun x103=>
 some (x103.1,x103.2.1,x103.2.2.1,x103.2.2.2.1,x103.2.2.2.2.1,x103.2.2.2.2.2.1,x103.2.2.2.2.2.2.1,x103.2.2.2.2.2.2.2.1,x103.2.2.2.2.2.2.2.2.1,x103.2.2.2.2.2.2.2.2.2.1,x103.2.2.2.2.2.2.2.2.2.2.1,x103.2.2.2.2.2.2.2.2.2.2.2))
 ((F_part_number l4).bind fun i104=>
 some (([]:List Int),0,i104,0,0,([]:List (Int×Int)),false,false,false,false,false,0)))))))
 (some (([]:List Int),0,0,0,0,([]:List (Int×Int)),false,false,false,false,false,0)))))))))))
def F_part_Read_sig:Sig:=⟨[.v true [.d (.int .i64),.d (.int .i64),.d (.int .i64),.d (.sl (.int .u8))]],[(true,[.own 5 (.int .u8),.d (.int .i64),.d (.int .i64),.d (.int .i64),.d (.int .i64),.own 66 (.pr (.int .i64) (.int .i64)),.d .bool,.d .bool,.d .bool]),(true,[.d .bool,.d .bool,.d (.int .i64)])],[]⟩
def F_part_Read_ann:List (Nat×Ann):=[]
noncomputable def F_part_Read_env:Env:=⟨Tryd.prog,[(29,⟨F_bytes_Clone_sig,⟨F_bytes_Clone⟩⟩),(39,⟨F_part_bodied_sig,⟨F_part_bodied⟩⟩),(40,⟨F_part_settings_sig,⟨F_part_settings⟩⟩),(41,⟨F_part_conn_sig,⟨F_part_conn⟩⟩),(42,⟨F_part_whole_sig,⟨F_part_whole⟩⟩),(43,⟨F_part_update_sig,⟨F_part_update⟩⟩),(44,⟨F_part_stream_sig,⟨F_part_stream⟩⟩),(45,⟨F_part_number_sig,⟨F_part_number⟩⟩)],[]⟩
theorem F_part_Read_text:pvFn F_part_Read_env F_part_Read_ann Tryd.f32 F_part_Read_sig=F_part_Read:=by kernel_rfl
noncomputable def F_sets_wrong (i1:Int) (i2:Int):Option (Int):=
 cond (i1==2)
 (cond (i2 != 0)
 (cond (i2 != 1)
 (cond (i2 != 1)
 (some 1)
 (cond (i1==4)
 (cond (decide (i2 > 2147483647))
 (some 3)
 (some 0))
 (some 0)))
 (cond (i1==5)
 (cond (decide (i2 < 16384))
 (some 1)
 (cond (decide (i2 > 16777215))
 (some 1)
 (cond (i1==4)
 (cond (decide (i2 > 2147483647))
 (some 3)
 (some 0))
 (some 0))))
 (cond (i1==4)
 (cond (decide (i2 > 2147483647))
 (some 3)
 (some 0))
 (some 0))))
 (cond (i1==5)
 (cond (decide (i2 < 16384))
 (some 1)
 (cond (decide (i2 > 16777215))
 (some 1)
 (cond (i1==4)
 (cond (decide (i2 > 2147483647))
 (some 3)
 (some 0))
 (some 0))))
 (cond (i1==4)
 (cond (decide (i2 > 2147483647))
 (some 3)
 (some 0))
 (some 0))))
 (cond (i1==5)
 (cond (decide (i2 < 16384))
 (some 1)
 (cond (decide (i2 > 16777215))
 (some 1)
 (cond (i1==4)
 (cond (decide (i2 > 2147483647))
 (some 3)
 (some 0))
 (some 0))))
 (cond (i1==4)
 (cond (decide (i2 > 2147483647))
 (some 3)
 (some 0))
 (some 0)))
def F_sets_wrong_sig:Sig:=⟨[.v true [.d (.int .i64),.d (.int .i64)]],[(false,[.d (.int .i64)])],[]⟩
def F_sets_wrong_ann:List (Nat×Ann):=[]
noncomputable def F_sets_wrong_env:Env:=⟨Tryd.prog,[],[]⟩
theorem F_sets_wrong_text:pvFn F_sets_wrong_env F_sets_wrong_ann Tryd.f62 F_sets_wrong_sig=F_sets_wrong:=by kernel_rfl
noncomputable def F_sets_Apply_L3 (l7:List (Int×Int)) (s:Int×Int×Int×Int×Int×Int×Int×Int×Int×Int×Int×Int×Int×Bool×Bool×Int):Option (((Int×Int×Int×Int×Int×Int×Bool×Bool×Int)⊕(Int×Int×Int×Int×Int×Int×Int×Int×Int×Int×Int×Int×Bool×Bool×Int))⊕(Int×Int×Int×Int×Int×Int×Int×Int×Int×Int×Int×Int×Int×Bool×Bool×Int)):=
 let i9:=s.1;let i10:=s.2.1;let i11:=s.2.2.1;let i12:=s.2.2.2.1;let i13:=s.2.2.2.2.1;let i14:=s.2.2.2.2.2.1;let i15:=s.2.2.2.2.2.2.1;let i17:=s.2.2.2.2.2.2.2.1;let i18:=s.2.2.2.2.2.2.2.2.1;let i19:=s.2.2.2.2.2.2.2.2.2.1;let i20:=s.2.2.2.2.2.2.2.2.2.2.1;let i21:=s.2.2.2.2.2.2.2.2.2.2.2.1;let i22:=s.2.2.2.2.2.2.2.2.2.2.2.2.1;let b23:=s.2.2.2.2.2.2.2.2.2.2.2.2.2.1;let b24:=s.2.2.2.2.2.2.2.2.2.2.2.2.2.2.1;let i25:=s.2.2.2.2.2.2.2.2.2.2.2.2.2.2.2
 cond (decide (i9 < (l7.length:Int)))
 ((getI l7 i9).bind fun x26=>
 (F_sets_wrong x26.1 x26.2).bind fun i27=>
 cond (i27 != 0)
 (some (.inl (.inl (0,0,0,0,0,0,true,true,i27))))
 (cond (x26.1==1)
 (some (.inr ((IntKind.i64.wrap (i9+1)),(minI x26.2 2147483647),i11,i12,i13,i14,i15,i17,i18,i19,i20,i21,i22,b23,b24,i25)))
 (cond (x26.1==2)
 (some (.inr ((IntKind.i64.wrap (i9+1)),i10,x26.2,i12,i13,i14,i15,i17,i18,i19,i20,i21,i22,b23,b24,i25)))
 (cond (x26.1==3)
 (some (.inr ((IntKind.i64.wrap (i9+1)),i10,i11,(minI x26.2 2147483647),i13,i14,i15,i17,i18,i19,i20,i21,i22,b23,b24,i25)))
 (cond (x26.1==4)
 (some (.inr ((IntKind.i64.wrap (i9+1)),i10,i11,i12,x26.2,i14,i15,i17,i18,i19,i20,i21,i22,b23,b24,i25)))
 (cond (x26.1==5)
 (some (.inr ((IntKind.i64.wrap (i9+1)),i10,i11,i12,i13,x26.2,i15,i17,i18,i19,i20,i21,i22,b23,b24,i25)))
 (cond (x26.1==6)
 (some (.inr ((IntKind.i64.wrap (i9+1)),i10,i11,i12,i13,i14,(minI x26.2 2147483647),i17,i18,i19,i20,i21,i22,b23,b24,i25)))
 (some (.inr ((IntKind.i64.wrap (i9+1)),i10,i11,i12,i13,i14,i15,i17,i18,i19,i20,i21,i22,b23,b24,i25))))))))))
 (some (.inl (.inr (i10,i11,i12,i13,i14,i15,i17,i18,i19,i20,i21,i22,b23,b24,i25))))
noncomputable def F_sets_Apply_J1 (s:Int×Int×Int×Int×Int×Int×Int×Int×Int×Int×Int×Int×Bool×Bool×Int):Option (Int×Int×Int×Int×Int×Int×Bool×Bool×Int):=
 let i28:=s.1;let i29:=s.2.1;let i30:=s.2.2.1;let i31:=s.2.2.2.1;let i33:=s.2.2.2.2.1;let i34:=s.2.2.2.2.2.1;let i35:=s.2.2.2.2.2.2.1;let i36:=s.2.2.2.2.2.2.2.1;let i37:=s.2.2.2.2.2.2.2.2.1;let i38:=s.2.2.2.2.2.2.2.2.2.1;let i39:=s.2.2.2.2.2.2.2.2.2.2.1;let i40:=s.2.2.2.2.2.2.2.2.2.2.2.1;let b41:=s.2.2.2.2.2.2.2.2.2.2.2.2.1;let b42:=s.2.2.2.2.2.2.2.2.2.2.2.2.2.1;let i43:=s.2.2.2.2.2.2.2.2.2.2.2.2.2.2
 some (i28,i29,i30,i31,i33,i34,false,false,0)
noncomputable def F_sets_Apply (i1:Int) (i2:Int) (i3:Int) (i4:Int) (i5:Int) (i6:Int) (l7:List (Int×Int)):Option (Int×Int×Int×Int×Int×Int×Bool×Bool×Int):=
 joinC (S:=Int×Int×Int×Int×Int×Int×Int×Int×Int×Int×Int×Int×Bool×Bool×Int) (R:=Int×Int×Int×Int×Int×Int×Bool×Bool×Int)
 (loopC (S:=Int×Int×Int×Int×Int×Int×Int×Int×Int×Int×Int×Int×Int×Bool×Bool×Int) (R:=(Int×Int×Int×Int×Int×Int×Bool×Bool×Int)⊕(Int×Int×Int×Int×Int×Int×Int×Int×Int×Int×Int×Int×Bool×Bool×Int)) (F_sets_Apply_L3 l7) (0,i1,i2,i3,i4,i5,i6,0,0,0,0,0,0,false,false,0))
 (F_sets_Apply_J1)
def F_sets_Apply_sig:Sig:=⟨[.v true [.d (.int .i64),.d (.int .i64),.d (.int .i64),.d (.int .i64),.d (.int .i64),.d (.int .i64)],.v false [.d (.sl (.pr (.int .i64) (.int .i64)))]],[(true,[.d (.int .i64),.d (.int .i64),.d (.int .i64),.d (.int .i64),.d (.int .i64),.d (.int .i64)]),(true,[.d .bool,.d .bool,.d (.int .i64)])],[]⟩
def F_sets_Apply_ann:List (Nat×Ann):=[(1,⟨2,[],[(2,[.d (.int .i64),.d (.int .i64),.d (.int .i64),.d (.int .i64),.d (.int .i64),.d (.int .i64)]),(4,[.d (.int .i64),.d (.int .i64),.d (.int .i64),.d (.int .i64),.d (.int .i64),.d (.int .i64)]),(5,[.d .bool,.d .bool,.d (.int .i64)])],(List.range' 7 51),[],[],[]⟩),(3,⟨4,[(11,false,[.d (.int .i64)])],[(2,[.d (.int .i64),.d (.int .i64),.d (.int .i64),.d (.int .i64),.d (.int .i64),.d (.int .i64)]),(4,[.d (.int .i64),.d (.int .i64),.d (.int .i64),.d (.int .i64),.d (.int .i64),.d (.int .i64)]),(5,[.d .bool,.d .bool,.d (.int .i64)])],([7,8]++List.range' 12 46),[],[],[]⟩)]
noncomputable def F_sets_Apply_env:Env:=⟨Tryd.prog,[(62,⟨F_sets_wrong_sig,⟨F_sets_wrong⟩⟩)],[]⟩
theorem F_sets_Apply_text:pvFn F_sets_Apply_env F_sets_Apply_ann Tryd.f50 F_sets_Apply_sig=F_sets_Apply:=by kernel_rfl
noncomputable def F_watch_Watch_applies (p1:Int) (l2:List (List (Int×Int))) (l3:List (Int×Int×Int×Bool×Bool×Bool×Int×Int×Int×List (List (Int×Int))×(Int×Int×Int×Int×Int×Int)×Int×Int×Bool)) (l4:List (Option Int×Bool×Bool×Bool×List Int)):Option (Bool×List (Int×Int×Int×Bool×Bool×Bool×Int×Int×Int×List (List (Int×Int))×(Int×Int×Int×Int×Int×Int)×Int×Int×Bool)×List (Option Int×Bool×Bool×Bool×List Int)):=
 chk (nnI p1)
 ((getI l3 p1).bind fun x5=>
 cond ((x5.2.2.2.2.2.2.2.2.2.1.length:Int)==0)
 (some (false,l3,l4))
 (chk (nnI p1)
 ((getI l3 p1).bind fun x6=>
 chk (nnI p1)
 ((getI l3 p1).bind fun x7=>
 (getI x7.2.2.2.2.2.2.2.2.2.1 0).bind fun l8=>
 (F_sets_Apply x6.2.2.2.2.2.2.2.2.2.2.1.1 x6.2.2.2.2.2.2.2.2.2.2.1.2.1 x6.2.2.2.2.2.2.2.2.2.2.1.2.2.1 x6.2.2.2.2.2.2.2.2.2.2.1.2.2.2.1 x6.2.2.2.2.2.2.2.2.2.2.1.2.2.2.2.1 x6.2.2.2.2.2.2.2.2.2.2.1.2.2.2.2.2 l8).bind fun x9=>
 chk (nnI p1)
 ((getI l3 p1).bind fun x10=>
 (cutI x10.2.2.2.2.2.2.2.2.2.1 1 (x10.2.2.2.2.2.2.2.2.2.1.length:Int)).bind fun l11=>
 chk (nnI p1)
 ((getI l3 p1).bind fun x12=>
 chk (eqI p1 p1)
 (chk (nnI p1)
 ((getI (l3.set (Int.toNat p1) (x12.1,(x12.2.1,(x12.2.2.1,(x12.2.2.2.1,(x12.2.2.2.2.1,(x12.2.2.2.2.2.1,(x12.2.2.2.2.2.2.1,(x12.2.2.2.2.2.2.2.1,(x12.2.2.2.2.2.2.2.2.1,(l11,x12.2.2.2.2.2.2.2.2.2.2))))))))))) p1).bind fun x13=>
 chk (nnI p1)
 ((getI (l3.set (Int.toNat p1) (x12.1,(x12.2.1,(x12.2.2.1,(x12.2.2.2.1,(x12.2.2.2.2.1,(x12.2.2.2.2.2.1,(x12.2.2.2.2.2.2.1,(x12.2.2.2.2.2.2.2.1,(x12.2.2.2.2.2.2.2.2.1,(l11,x12.2.2.2.2.2.2.2.2.2.2))))))))))) p1).bind fun x14=>
 chk (nnI p1)
 ((getI ((l3.set (Int.toNat p1) (x12.1,(x12.2.1,(x12.2.2.1,(x12.2.2.2.1,(x12.2.2.2.2.1,(x12.2.2.2.2.2.1,(x12.2.2.2.2.2.2.1,(x12.2.2.2.2.2.2.2.1,(x12.2.2.2.2.2.2.2.2.1,(l11,x12.2.2.2.2.2.2.2.2.2.2))))))))))).set (Int.toNat p1) (x14.1,(x14.2.1,(x14.2.2.1,(x14.2.2.2.1,(x14.2.2.2.2.1,(x14.2.2.2.2.2.1,(x14.2.2.2.2.2.2.1,(x14.2.2.2.2.2.2.2.1,(x14.2.2.2.2.2.2.2.2.1,(x14.2.2.2.2.2.2.2.2.2.1,((x9.1,x9.2.1,x9.2.2.1,x9.2.2.2.1,x9.2.2.2.2.1,x9.2.2.2.2.2.1),x14.2.2.2.2.2.2.2.2.2.2.2)))))))))))) p1).bind fun x15=>
 chk (apOk (IntKind.i64.wrap (x9.2.2.2.1 - x13.2.2.2.2.2.2.2.2.2.2.1.2.2.2.1)) p1 l2 (((l3.set (Int.toNat p1) (x12.1,(x12.2.1,(x12.2.2.1,(x12.2.2.2.1,(x12.2.2.2.2.1,(x12.2.2.2.2.2.1,(x12.2.2.2.2.2.2.1,(x12.2.2.2.2.2.2.2.1,(x12.2.2.2.2.2.2.2.2.1,(l11,x12.2.2.2.2.2.2.2.2.2.2))))))))))).set (Int.toNat p1) (x14.1,(x14.2.1,(x14.2.2.1,(x14.2.2.2.1,(x14.2.2.2.2.1,(x14.2.2.2.2.2.1,(x14.2.2.2.2.2.2.1,(x14.2.2.2.2.2.2.2.1,(x14.2.2.2.2.2.2.2.2.1,(x14.2.2.2.2.2.2.2.2.2.1,((x9.1,x9.2.1,x9.2.2.1,x9.2.2.2.1,x9.2.2.2.2.1,x9.2.2.2.2.2.1),x14.2.2.2.2.2.2.2.2.2.2.2)))))))))))).set (Int.toNat p1) (x15.1,(x15.2.1,(x15.2.2.1,(x15.2.2.2.1,(x9.2.2.2.2.2.2.1,x15.2.2.2.2.2)))))) l4)
 (some (true,(apW (IntKind.i64.wrap (x9.2.2.2.1 - x13.2.2.2.2.2.2.2.2.2.2.1.2.2.2.1)) p1 l2 (((l3.set (Int.toNat p1) (x12.1,(x12.2.1,(x12.2.2.1,(x12.2.2.2.1,(x12.2.2.2.2.1,(x12.2.2.2.2.2.1,(x12.2.2.2.2.2.2.1,(x12.2.2.2.2.2.2.2.1,(x12.2.2.2.2.2.2.2.2.1,(l11,x12.2.2.2.2.2.2.2.2.2.2))))))))))).set (Int.toNat p1) (x14.1,(x14.2.1,(x14.2.2.1,(x14.2.2.2.1,(x14.2.2.2.2.1,(x14.2.2.2.2.2.1,(x14.2.2.2.2.2.2.1,(x14.2.2.2.2.2.2.2.1,(x14.2.2.2.2.2.2.2.2.1,(x14.2.2.2.2.2.2.2.2.2.1,((x9.1,x9.2.1,x9.2.2.1,x9.2.2.2.1,x9.2.2.2.2.1,x9.2.2.2.2.2.1),x14.2.2.2.2.2.2.2.2.2.2.2)))))))))))).set (Int.toNat p1) (x15.1,(x15.2.1,(x15.2.2.1,(x15.2.2.2.1,(x9.2.2.2.2.2.2.1,x15.2.2.2.2.2)))))) l4),(apS (IntKind.i64.wrap (x9.2.2.2.1 - x13.2.2.2.2.2.2.2.2.2.2.1.2.2.2.1)) p1 l2 (((l3.set (Int.toNat p1) (x12.1,(x12.2.1,(x12.2.2.1,(x12.2.2.2.1,(x12.2.2.2.2.1,(x12.2.2.2.2.2.1,(x12.2.2.2.2.2.2.1,(x12.2.2.2.2.2.2.2.1,(x12.2.2.2.2.2.2.2.2.1,(l11,x12.2.2.2.2.2.2.2.2.2.2))))))))))).set (Int.toNat p1) (x14.1,(x14.2.1,(x14.2.2.1,(x14.2.2.2.1,(x14.2.2.2.2.1,(x14.2.2.2.2.2.1,(x14.2.2.2.2.2.2.1,(x14.2.2.2.2.2.2.2.1,(x14.2.2.2.2.2.2.2.2.1,(x14.2.2.2.2.2.2.2.2.2.1,((x9.1,x9.2.1,x9.2.2.1,x9.2.2.2.1,x9.2.2.2.2.1,x9.2.2.2.2.2.1),x14.2.2.2.2.2.2.2.2.2.2.2)))))))))))).set (Int.toNat p1) (x15.1,(x15.2.1,(x15.2.2.1,(x15.2.2.2.1,(x9.2.2.2.2.2.2.1,x15.2.2.2.2.2)))))) l4)))))))))))))
def F_watch_Watch_applies_sig:Sig:=⟨[.v false [.d (.ptr 59)]],[(false,[.d .bool])],[(1000103,(.sl (.pr (.int .i64) (.ptr 71))),false),(1000118,(.pr (.int .i64) (.pr (.ptr 73) (.pr (.ptr 73) (.pr .bool (.pr .bool (.pr .bool (.pr (.int .i64) (.pr (.mp 51) (.pr (.int .i64) (.pr (.os 63 (.sl (.pr (.int .i64) (.int .i64)))) (.pr (.pr (.int .i64) (.pr (.int .i64) (.pr (.int .i64) (.pr (.int .i64) (.pr (.int .i64) (.int .i64)))))) (.pr (.ptr 78) (.pr (.int .i64) .bool))))))))))))),true),(1000142,(.pr .wi (.pr .bool (.pr .bool (.pr .bool (.os 5 (.int .u8)))))),true)]⟩
def F_watch_Watch_applies_ann:List (Nat×Ann):=[(10,⟨910,[],[],[],[],[],[]⟩)]
noncomputable def F_watch_Watch_applies_env:Env:=⟨Tryd.prog,[(50,⟨F_sets_Apply_sig,⟨F_sets_Apply⟩⟩)],[34]⟩
theorem F_watch_Watch_applies_text:pvFnT 7 apTail F_watch_Watch_applies_env F_watch_Watch_applies_ann Tryd.f34 F_watch_Watch_applies_sig=F_watch_Watch_applies:=by kernel_rfl
noncomputable def F_watch_Watch_live (p1:Int) (i2:Int) (l3:List (List (Int×Int))) (l4:List (Int×Int×Int×Bool×Bool×Bool×Int×Int×Int×List (List (Int×Int))×(Int×Int×Int×Int×Int×Int)×Int×Int×Bool)) (l5:List (Option Int×Bool×Bool×Bool×List Int)):Option (Int):=
 chk (nnI p1)
 ((getI l4 p1).bind fun x6=>
 (getI l3 x6.2.2.2.2.2.2.2.1).bind fun m7=>
 cond (!(eqI (getZ (mapGet m7 i2) (-1:Int)) (-1)))
 (chk (nnI (getZ (mapGet m7 i2) (-1:Int)))
 ((getI l5 (getZ (mapGet m7 i2) (-1:Int))).bind fun x8=>
 cond (!x8.2.2.1)
 (chk (nnI (getZ (mapGet m7 i2) (-1:Int)))
 ((getI l5 (getZ (mapGet m7 i2) (-1:Int))).bind fun x9=>
 cond (!x9.2.2.2.1)
 (some (getZ (mapGet m7 i2) (-1:Int)))
 (some (-1:Int))))
 (some (-1:Int))))
 (some (-1:Int)))
def F_watch_Watch_live_sig:Sig:=⟨[.v false [.d (.ptr 59)],.v false [.d (.int .i64)]],[(false,[.d (.ptr 71)])],[(1000103,(.sl (.pr (.int .i64) (.ptr 71))),false),(1000118,(.pr (.int .i64) (.pr (.ptr 73) (.pr (.ptr 73) (.pr .bool (.pr .bool (.pr .bool (.pr (.int .i64) (.pr (.mp 51) (.pr (.int .i64) (.pr (.os 63 (.sl (.pr (.int .i64) (.int .i64)))) (.pr (.pr (.int .i64) (.pr (.int .i64) (.pr (.int .i64) (.pr (.int .i64) (.pr (.int .i64) (.int .i64)))))) (.pr (.ptr 78) (.pr (.int .i64) .bool))))))))))))),false),(1000142,(.pr .wi (.pr .bool (.pr .bool (.pr .bool (.os 5 (.int .u8)))))),false)]⟩
def F_watch_Watch_live_ann:List (Nat×Ann):=[]
noncomputable def F_watch_Watch_live_env:Env:=⟨Tryd.prog,[],[]⟩
theorem F_watch_Watch_live_text:pvFn F_watch_Watch_live_env F_watch_Watch_live_ann Tryd.f52 F_watch_Watch_live_sig=F_watch_Watch_live:=by kernel_rfl
noncomputable def F_pint_ones (i1:Int):Option (Int):=
 cond ((decide (i1 < 1))||(decide (i1 > 8)))
 (some 0)
 (chk (decide (0<=i1))
 (some (IntKind.i64.wrap ((IntKind.i64.wrap (1*2 ^ (min (i1).toNat 64))) - 1))))
def F_pint_ones_sig:Sig:=⟨[.v false [.d (.int .i64)]],[(false,[.d (.int .i64)])],[]⟩
def F_pint_ones_ann:List (Nat×Ann):=[]
noncomputable def F_pint_ones_env:Env:=⟨Tryd.prog,[],[]⟩
theorem F_pint_ones_text:pvFn F_pint_ones_env F_pint_ones_ann Tryd.f78 F_pint_ones_sig=F_pint_ones:=by kernel_rfl
noncomputable def F_pint_Get_G1_0 (l1:List Int) (s:Int×Int):Option ((Int×Int×Int)⊕(Nat×Int×Int)):=
 let i10:=s.1;let i11:=s.2
 cond (i11==(l1.length:Int))
 (some (.inl (0,0,4)))
 ((getI l1 i11).bind fun i12=>
 chk (decide (0<=(IntKind.i64.wrap (7*(IntKind.i64.wrap (i11 - 1))))))
 (cond (decide ((IntKind.i64.wrap (i10+(IntKind.i64.wrap ((IntKind.i64.wrap (bits .and .u8 i12 127))*2 ^ (min ((IntKind.i64.wrap (7*(IntKind.i64.wrap (i11 - 1))))).toNat 64))))) > 2147483647))
 (some (.inl (0,0,1)))
 (cond ((IntKind.i64.wrap (i11+1))==6)
 ((getI l1 (IntKind.i64.wrap ((IntKind.i64.wrap (i11+1)) - 1))).bind fun i13=>
 cond (decide (i13 >= 128))
 (some (.inl (0,0,1)))
 ((getI l1 (IntKind.i64.wrap ((IntKind.i64.wrap (i11+1)) - 1))).bind fun i14=>
 cond (decide (i14 >= 128))
 (some (.inr (0,((IntKind.i64.wrap (i10+(IntKind.i64.wrap ((IntKind.i64.wrap (bits .and .u8 i12 127))*2 ^ (min ((IntKind.i64.wrap (7*(IntKind.i64.wrap (i11 - 1))))).toNat 64))))),(IntKind.i64.wrap (i11+1))))))
 (some (.inl ((IntKind.i64.wrap (i10+(IntKind.i64.wrap ((IntKind.i64.wrap (bits .and .u8 i12 127))*2 ^ (min ((IntKind.i64.wrap (7*(IntKind.i64.wrap (i11 - 1))))).toNat 64))))),(IntKind.i64.wrap (i11+1)),0)))))
 ((getI l1 (IntKind.i64.wrap ((IntKind.i64.wrap (i11+1)) - 1))).bind fun i15=>
 cond (decide (i15 >= 128))
 (some (.inr (0,((IntKind.i64.wrap (i10+(IntKind.i64.wrap ((IntKind.i64.wrap (bits .and .u8 i12 127))*2 ^ (min ((IntKind.i64.wrap (7*(IntKind.i64.wrap (i11 - 1))))).toNat 64))))),(IntKind.i64.wrap (i11+1))))))
 (some (.inl ((IntKind.i64.wrap (i10+(IntKind.i64.wrap ((IntKind.i64.wrap (bits .and .u8 i12 127))*2 ^ (min ((IntKind.i64.wrap (7*(IntKind.i64.wrap (i11 - 1))))).toNat 64))))),(IntKind.i64.wrap (i11+1)),0)))))))
noncomputable def F_pint_Get_G1 (l1:List Int) (p:Nat×Int×Int):Option ((Int×Int×Int)⊕(Nat×Int×Int)):=
 cond (hasN [0] p.1) (F_pint_Get_G1_0 l1 p.2) (none)
noncomputable def F_pint_Get (l1:List Int) (i2:Int):Option (Int×Int×Int):=
 joinC (S:=Nat×Int×Int) (R:=Int×Int×Int)
 ((F_pint_ones i2).bind fun i3=>
 cond (i3==0)
 (some (.inl (0,0,1)))
 (cond ((l1.length:Int)==0)
 (some (.inl (0,0,4)))
 ((getI l1 0).bind fun i4=>
 cond (decide ((bits .and .i64 (IntKind.i64.wrap i4) i3) < i3))
 (some (.inl ((bits .and .i64 (IntKind.i64.wrap i4) i3),1,0)))
 (cond (1==(l1.length:Int))
 (some (.inl (0,0,4)))
 ((getI l1 1).bind fun i5=>
 chk (decide (0<=(IntKind.i64.wrap (7*(IntKind.i64.wrap (1 - 1))))))
 (cond (decide ((IntKind.i64.wrap ((bits .and .i64 (IntKind.i64.wrap i4) i3)+(IntKind.i64.wrap ((IntKind.i64.wrap (bits .and .u8 i5 127))*2 ^ (min ((IntKind.i64.wrap (7*(IntKind.i64.wrap (1 - 1))))).toNat 64))))) > 2147483647))
 (some (.inl (0,0,1)))
 (cond ((IntKind.i64.wrap (1+1))==6)
 ((getI l1 (IntKind.i64.wrap ((IntKind.i64.wrap (1+1)) - 1))).bind fun i6=>
 cond (decide (i6 >= 128))
 (some (.inl (0,0,1)))
 ((getI l1 (IntKind.i64.wrap ((IntKind.i64.wrap (1+1)) - 1))).bind fun i7=>
 cond (decide (i7 >= 128))
 (some (.inr (0,((IntKind.i64.wrap ((bits .and .i64 (IntKind.i64.wrap i4) i3)+(IntKind.i64.wrap ((IntKind.i64.wrap (bits .and .u8 i5 127))*2 ^ (min ((IntKind.i64.wrap (7*(IntKind.i64.wrap (1 - 1))))).toNat 64))))),(IntKind.i64.wrap (1+1))))))
 (some (.inl ((IntKind.i64.wrap ((bits .and .i64 (IntKind.i64.wrap i4) i3)+(IntKind.i64.wrap ((IntKind.i64.wrap (bits .and .u8 i5 127))*2 ^ (min ((IntKind.i64.wrap (7*(IntKind.i64.wrap (1 - 1))))).toNat 64))))),(IntKind.i64.wrap (1+1)),0)))))
 ((getI l1 (IntKind.i64.wrap ((IntKind.i64.wrap (1+1)) - 1))).bind fun i9=>
 cond (decide (i9 >= 128))
 (some (.inr (0,((IntKind.i64.wrap ((bits .and .i64 (IntKind.i64.wrap i4) i3)+(IntKind.i64.wrap ((IntKind.i64.wrap (bits .and .u8 i5 127))*2 ^ (min ((IntKind.i64.wrap (7*(IntKind.i64.wrap (1 - 1))))).toNat 64))))),(IntKind.i64.wrap (1+1))))))
 (some (.inl ((IntKind.i64.wrap ((bits .and .i64 (IntKind.i64.wrap i4) i3)+(IntKind.i64.wrap ((IntKind.i64.wrap (bits .and .u8 i5 127))*2 ^ (min ((IntKind.i64.wrap (7*(IntKind.i64.wrap (1 - 1))))).toNat 64))))),(IntKind.i64.wrap (1+1)),0)))))))))))
 (fun p=>loopC (S:=Nat×Int×Int) (R:=Int×Int×Int) (F_pint_Get_G1 l1) p)
def F_pint_Get_sig:Sig:=⟨[.v false [.d (.sl (.int .u8))],.v false [.d (.int .i64)]],[(false,[.d (.int .i64)]),(false,[.d (.int .i64)]),(false,[.d (.int .i64)])],[]⟩
def F_pint_Get_ann:List (Nat×Ann):=[(1,⟨2,[(8,false,[.d (.int .i64)]),(9,false,[.d (.int .i64)])],[],([4,5,6,7]++List.range' 10 58),[],[],[]⟩)]
noncomputable def F_pint_Get_env:Env:=⟨Tryd.prog,[(78,⟨F_pint_ones_sig,⟨F_pint_ones⟩⟩)],[]⟩
theorem F_pint_Get_text:pvFn F_pint_Get_env F_pint_Get_ann Tryd.f74 F_pint_Get_sig=F_pint_Get:=by kernel_rfl
noncomputable def F_unpack_block_number (l1:List Int) (p2:Int) (i3:Int) (i4:Int) (l5:List (List Int×List Int×Bool)) (i6:Int):Option (Int×Bool×List Int×Int×Int×Int×List (List Int×List Int×Bool)):=
 (F_pint_Get l1 i6).bind fun x7=>
 cond (x7.2.2 != 0)
 (some (0,false,l1,p2,i3,i4,l5))
 ((cutI l1 x7.2.1 (l1.length:Int)).bind fun l8=>
 some (x7.1,true,l8,p2,i3,i4,l5))
def F_unpack_block_number_sig:Sig:=⟨[.m [.d (.sl (.int .u8)),.d (.ptr 91),.d (.int .i64),.d (.int .i64),.own 109 (.pr .str (.pr .str .bool))],.v false [.d (.int .i64)]],[(false,[.d (.int .i64)]),(false,[.d .bool])],[]⟩
def F_unpack_block_number_ann:List (Nat×Ann):=[]
noncomputable def F_unpack_block_number_env:Env:=⟨Tryd.prog,[(74,⟨F_pint_Get_sig,⟨F_pint_Get⟩⟩)],[25]⟩
theorem F_unpack_block_number_text:pvFn F_unpack_block_number_env F_unpack_block_number_ann Tryd.f69 F_unpack_block_number_sig=F_unpack_block_number:=by kernel_rfl
noncomputable def F_internal_stringslite_Cut (s1:List Int) (s2:List Int):Option (List Int×List Int×Bool):=
 (F_internal_stringslite_Index s1 s2).bind fun i3=>
 cond (decide (i3 >= 0))
 ((cutI s1 0 i3).bind fun s4=>
 (cutI s1 (IntKind.i64.wrap (i3+(s2.length:Int))) (s1.length:Int)).bind fun s5=>
 some (s4,s5,true))
 (some (s1,([]:List Int),false))
def F_internal_stringslite_Cut_sig:Sig:=⟨[.v false [.d .str],.v false [.d .str]],[(false,[.d .str]),(false,[.d .str]),(false,[.d .bool])],[]⟩
def F_internal_stringslite_Cut_ann:List (Nat×Ann):=[]
noncomputable def F_internal_stringslite_Cut_env:Env:=⟨Tryd.prog,[(89,⟨F_internal_stringslite_Index_sig,⟨F_internal_stringslite_Index⟩⟩)],[]⟩
theorem F_internal_stringslite_Cut_text:pvFn F_internal_stringslite_Cut_env F_internal_stringslite_Cut_ann Tryd.f85 F_internal_stringslite_Cut_sig=F_internal_stringslite_Cut:=by kernel_rfl
noncomputable def F_strings_Cut (s1:List Int) (s2:List Int):Option (List Int×List Int×Bool):=
 (F_internal_stringslite_Cut s1 s2).bind fun x3=>
 some (x3.1,x3.2.1,x3.2.2)
def F_strings_Cut_sig:Sig:=⟨[.v false [.d .str],.v false [.d .str]],[(false,[.d .str]),(false,[.d .str]),(false,[.d .bool])],[]⟩
def F_strings_Cut_ann:List (Nat×Ann):=[]
noncomputable def F_strings_Cut_env:Env:=⟨Tryd.prog,[(85,⟨F_internal_stringslite_Cut_sig,⟨F_internal_stringslite_Cut⟩⟩)],[]⟩
theorem F_strings_Cut_text:pvFn F_strings_Cut_env F_strings_Cut_ann Tryd.f82 F_strings_Cut_sig=F_strings_Cut:=by kernel_rfl
noncomputable def F_stat_split (s1:List Int):Option (List Int×List Int×Bool):=
 (F_strings_Cut s1 ([32]:List Int)).bind fun x2=>
 some (x2.1,x2.2.1,false)
def F_stat_split_sig:Sig:=⟨[.v false [.d .str]],[(true,[.d .str,.d .str,.d .bool])],[]⟩
def F_stat_split_ann:List (Nat×Ann):=[]
noncomputable def F_stat_split_env:Env:=⟨Tryd.prog,[(82,⟨F_strings_Cut_sig,⟨F_strings_Cut⟩⟩)],[]⟩
theorem F_stat_split_text:pvFn F_stat_split_env F_stat_split_ann Tryd.f79 F_stat_split_sig=F_stat_split:=by kernel_rfl
noncomputable def F_stat_Get (i1:Int):Option (List Int×List Int×Bool×Bool):=
 cond ((decide (i1 < 1))||(decide (i1 > 61)))
 (some (([]:List Int),([]:List Int),false,false))
 ((F_strings_Split ([58,97,117,116,104,111,114,105,116,121,124,58,109,101,116,104,111,100,32,71,69,84,124,58,109,101,116,104,111,100,32,80,79,83,84,124,58,112,97,116,104,32,47,124,58,112,97,116,104,32,47,105,110,100,101,120,46,104,116,109,108,124,58,115,99,104,101,109,101,32,104,116,116,112,124,58,115,99,104,101,109,101,32,104,116,116,112,115,124,58,115,116,97,116,117,115,32,50,48,48,124,58,115,116,97,116,117,115,32,50,48,52,124,58,115,116,97,116,117,115,32,50,48,54,124,58,115,116,97,116,117,115,32,51,48,52,124,58,115,116,97,116,117,115,32,52,48,48,124,58,115,116,97,116,117,115,32,52,48,52,124,58,115,116,97,116,117,115,32,53,48,48,124,97,99,99,101,112,116,45,99,104,97,114,115,101,116,124,97,99,99,101,112,116,45,101,110,99,111,100,105,110,103,32,103,122,105,112,44,32,100,101,102,108,97,116,101,124,97,99,99,101,112,116,45,108,97,110,103,117,97,103,101,124,97,99,99,101,112,116,45,114,97,110,103,101,115,124,97,99,99,101,112,116,124,97,99,99,101,115,115,45,99,111,110,116,114,111,108,45,97,108,108,111,119,45,111,114,105,103,105,110,124,97,103,101,124,97,108,108,111,119,124,97,117,116,104,111,114,105,122,97,116,105,111,110,124,99,97,99,104,101,45,99,111,110,116,114,111,108,124,99,111,110,116,101,110,116,45,100,105,115,112,111,115,105,116,105,111,110,124,99,111,110,116,101,110,116,45,101,110,99,111,100,105,110,103,124,99,111,110,116,101,110,116,45,108,97,110,103,117,97,103,101,124,99,111,110,116,101,110,116,45,108,101,110,103,116,104,124,99,111,110,116,101,110,116,45,108,111,99,97,116,105,111,110,124,99,111,110,116,101,110,116,45,114,97,110,103,101,124,99,111,110,116,101,110,116,45,116,121,112,101,124,99,111,111,107,105,101,124,100,97,116,101,124,101,116,97,103,124,101,120,112,101,99,116,124,101,120,112,105,114,101,115,124,102,114,111,109,124,104,111,115,116,124,105,102,45,109,97,116,99,104,124,105,102,45,109,111,100,105,102,105,101,100,45,115,105,110,99,101,124,105,102,45,110,111,110,101,45,109,97,116,99,104,124,105,102,45,114,97,110,103,101,124,105,102,45,117,110,109,111,100,105,102,105,101,100,45,115,105,110,99,101,124,108,97,115,116,45,109,111,100,105,102,105,101,100,124,108,105,110,107,124,108,111,99,97,116,105,111,110,124,109,97,120,45,102,111,114,119,97,114,100,115,124,112,114,111,120,121,45,97,117,116,104,101,110,116,105,99,97,116,101,124,112,114,111,120,121,45,97,117,116,104,111,114,105,122,97,116,105,111,110,124,114,97,110,103,101,124,114,101,102,101,114,101,114,124,114,101,102,114,101,115,104,124,114,101,116,114,121,45,97,102,116,101,114,124,115,101,114,118,101,114,124,115,101,116,45,99,111,111,107,105,101,124,115,116,114,105,99,116,45,116,114,97,110,115,112,111,114,116,45,115,101,99,117,114,105,116,121,124,116,114,97,110,115,102,101,114,45,101,110,99,111,100,105,110,103,124,117,115,101,114,45,97,103,101,110,116,124,118,97,114,121,124,118,105,97,124,119,119,119,45,97,117,116,104,101,110,116,105,99,97,116,101]:List Int) ([124]:List Int)).bind fun l2=>
 (getI l2 (IntKind.i64.wrap (i1 - 1))).bind fun s3=>
 (F_stat_split s3).bind fun x4=>
 some (x4.1,x4.2.1,x4.2.2,true))
def F_stat_Get_sig:Sig:=⟨[.v false [.d (.int .i64)]],[(true,[.d .str,.d .str,.d .bool]),(false,[.d .bool])],[]⟩
def F_stat_Get_ann:List (Nat×Ann):=[]
noncomputable def F_stat_Get_env:Env:=⟨Tryd.prog,[(79,⟨F_stat_split_sig,⟨F_stat_split⟩⟩),(80,⟨F_strings_Split_sig,⟨F_strings_Split⟩⟩)],[]⟩
theorem F_stat_Get_text:pvFn F_stat_Get_env F_stat_Get_ann Tryd.f75 F_stat_Get_sig=F_stat_Get:=by kernel_rfl
noncomputable def F_dyn_Table_Get (p1:Int) (i2:Int) (l3:List (List (List Int×List Int×Bool)×Int×Int)):Option (List Int×List Int×Bool×Bool):=
 cond (decide (i2 < 1))
 (some (([]:List Int),([]:List Int),false,false))
 (chk (nnI p1)
 ((getI l3 p1).bind fun x4=>
 cond (decide (i2 > (x4.1.length:Int)))
 (some (([]:List Int),([]:List Int),false,false))
 (chk (nnI p1)
 ((getI l3 p1).bind fun x5=>
 chk (nnI p1)
 ((getI l3 p1).bind fun x6=>
 (getI x5.1 (IntKind.i64.wrap ((x6.1.length:Int) - i2))).bind fun x7=>
 some (x7.1,x7.2.1,x7.2.2,true))))))
def F_dyn_Table_Get_sig:Sig:=⟨[.v false [.d (.ptr 91)],.v false [.d (.int .i64)]],[(true,[.d .str,.d .str,.d .bool]),(false,[.d .bool])],[(1000182,(.pr (.os 109 (.pr .str (.pr .str .bool))) (.pr (.int .i64) (.int .i64))),false)]⟩
def F_dyn_Table_Get_ann:List (Nat×Ann):=[]
noncomputable def F_dyn_Table_Get_env:Env:=⟨Tryd.prog,[],[]⟩
theorem F_dyn_Table_Get_text:pvFn F_dyn_Table_Get_env F_dyn_Table_Get_ann Tryd.f76 F_dyn_Table_Get_sig=F_dyn_Table_Get:=by kernel_rfl
noncomputable def F_unpack_block_at (l1:List Int) (p2:Int) (i3:Int) (i4:Int) (l5:List (List Int×List Int×Bool)) (i6:Int) (l7:List (List (List Int×List Int×Bool)×Int×Int)):Option (List Int×List Int×Bool×Bool×List Int×Int×Int×Int×List (List Int×List Int×Bool)):=
 cond (decide (i6<=61))
 ((F_stat_Get i6).bind fun x8=>
 some (x8.1,x8.2.1,x8.2.2.1,x8.2.2.2,l1,p2,i3,i4,l5))
 ((F_dyn_Table_Get p2 (IntKind.i64.wrap (i6 - 61)) l7).bind fun x9=>
 some (x9.1,x9.2.1,x9.2.2.1,x9.2.2.2,l1,p2,i3,i4,l5))
def F_unpack_block_at_sig:Sig:=⟨[.m [.d (.sl (.int .u8)),.d (.ptr 91),.d (.int .i64),.d (.int .i64),.own 109 (.pr .str (.pr .str .bool))],.v false [.d (.int .i64)]],[(true,[.d .str,.d .str,.d .bool]),(false,[.d .bool])],[(1000182,(.pr (.os 109 (.pr .str (.pr .str .bool))) (.pr (.int .i64) (.int .i64))),false)]⟩
def F_unpack_block_at_ann:List (Nat×Ann):=[]
noncomputable def F_unpack_block_at_env:Env:=⟨Tryd.prog,[(75,⟨F_stat_Get_sig,⟨F_stat_Get⟩⟩),(76,⟨F_dyn_Table_Get_sig,⟨F_dyn_Table_Get⟩⟩)],[]⟩
theorem F_unpack_block_at_text:pvFn F_unpack_block_at_env F_unpack_block_at_ann Tryd.f70 F_unpack_block_at_sig=F_unpack_block_at:=by kernel_rfl
noncomputable def F_unpack_block_text (l1:List Int) (p2:Int) (i3:Int) (i4:Int) (l5:List (List Int×List Int×Bool)):Option (List Int×Bool×List Int×Int×Int×Int×List (List Int×List Int×Bool)):=
 cond (decide ((l1.length:Int) > 0))
 ((getI l1 0).bind fun i6=>
 (F_unpack_block_number l1 p2 i3 i4 l5 7).bind fun x7=>
 cond ((!x7.2.1)||(decide (x7.1 > 16384)))
 (some (([]:List Int),false,x7.2.2.1,x7.2.2.2.1,x7.2.2.2.2.1,x7.2.2.2.2.2.1,x7.2.2.2.2.2.2))
 (cond (decide (x7.1 > (x7.2.2.1.length:Int)))
 (some (([]:List Int),false,x7.2.2.1,x7.2.2.2.1,x7.2.2.2.2.1,x7.2.2.2.2.2.1,x7.2.2.2.2.2.2))
 ((cutI x7.2.2.1 0 x7.1).bind fun l8=>
 (cutI x7.2.2.1 x7.1 (x7.2.2.1.length:Int)).bind fun l9=>
 cond (decide ((bits .and .u8 i6 128) > 0))
 (none)
 (some (l8,true,l9,x7.2.2.2.1,x7.2.2.2.2.1,x7.2.2.2.2.2.1,x7.2.2.2.2.2.2)))))
 ((F_unpack_block_number l1 p2 i3 i4 l5 7).bind fun x10=>
 cond ((!x10.2.1)||(decide (x10.1 > 16384)))
 (some (([]:List Int),false,x10.2.2.1,x10.2.2.2.1,x10.2.2.2.2.1,x10.2.2.2.2.2.1,x10.2.2.2.2.2.2))
 (cond (decide (x10.1 > (x10.2.2.1.length:Int)))
 (some (([]:List Int),false,x10.2.2.1,x10.2.2.2.1,x10.2.2.2.2.1,x10.2.2.2.2.2.1,x10.2.2.2.2.2.2))
 ((cutI x10.2.2.1 0 x10.1).bind fun l11=>
 (cutI x10.2.2.1 x10.1 (x10.2.2.1.length:Int)).bind fun l12=>
 some (l11,true,l12,x10.2.2.2.1,x10.2.2.2.2.1,x10.2.2.2.2.2.1,x10.2.2.2.2.2.2))))
def F_unpack_block_text_sig:Sig:=⟨[.m [.d (.sl (.int .u8)),.d (.ptr 91),.d (.int .i64),.d (.int .i64),.own 109 (.pr .str (.pr .str .bool))]],[(false,[.d .str]),(false,[.d .bool])],[]⟩
def F_unpack_block_text_ann:List (Nat×Ann):=[]
noncomputable def F_unpack_block_text_env:Env:=⟨Tryd.prog,[(69,⟨F_unpack_block_number_sig,⟨F_unpack_block_number⟩⟩)],[56]⟩
theorem F_unpack_block_text_text:pvFn F_unpack_block_text_env F_unpack_block_text_ann Tryd.f73 F_unpack_block_text_sig=F_unpack_block_text:=by kernel_rfl
noncomputable def F_unpack_block_literal (l1:List Int) (p2:Int) (i3:Int) (i4:Int) (l5:List (List Int×List Int×Bool)) (i6:Int) (l7:List (List (List Int×List Int×Bool)×Int×Int)):Option (List Int×List Int×Bool×Bool×List Int×Int×Int×Int×List (List Int×List Int×Bool)):=
 (F_unpack_block_number l1 p2 i3 i4 l5 i6).bind fun x8=>
 cond (!x8.2.1)
 (some (([]:List Int),([]:List Int),false,false,x8.2.2.1,x8.2.2.2.1,x8.2.2.2.2.1,x8.2.2.2.2.2.1,x8.2.2.2.2.2.2))
 (cond (decide (x8.1 > 0))
 ((F_unpack_block_at x8.2.2.1 x8.2.2.2.1 x8.2.2.2.2.1 x8.2.2.2.2.2.1 x8.2.2.2.2.2.2 x8.1 l7).bind fun x9=>
 cond (!x9.2.2.2.1)
 (some (([]:List Int),([]:List Int),false,false,x9.2.2.2.2.1,x9.2.2.2.2.2.1,x9.2.2.2.2.2.2.1,x9.2.2.2.2.2.2.2.1,x9.2.2.2.2.2.2.2.2))
 ((F_unpack_block_text x9.2.2.2.2.1 x9.2.2.2.2.2.1 x9.2.2.2.2.2.2.1 x9.2.2.2.2.2.2.2.1 x9.2.2.2.2.2.2.2.2).bind fun x10=>
 some (x9.1,x10.1,x9.2.2.1,x10.2.1,x10.2.2.1,x10.2.2.2.1,x10.2.2.2.2.1,x10.2.2.2.2.2.1,x10.2.2.2.2.2.2)))
 ((F_unpack_block_text x8.2.2.1 x8.2.2.2.1 x8.2.2.2.2.1 x8.2.2.2.2.2.1 x8.2.2.2.2.2.2).bind fun x11=>
 cond (!x11.2.1)
 (some (([]:List Int),([]:List Int),false,false,x11.2.2.1,x11.2.2.2.1,x11.2.2.2.2.1,x11.2.2.2.2.2.1,x11.2.2.2.2.2.2))
 ((F_unpack_block_text x11.2.2.1 x11.2.2.2.1 x11.2.2.2.2.1 x11.2.2.2.2.2.1 x11.2.2.2.2.2.2).bind fun x12=>
 some (x11.1,x12.1,false,x12.2.1,x12.2.2.1,x12.2.2.2.1,x12.2.2.2.2.1,x12.2.2.2.2.2.1,x12.2.2.2.2.2.2))))
def F_unpack_block_literal_sig:Sig:=⟨[.m [.d (.sl (.int .u8)),.d (.ptr 91),.d (.int .i64),.d (.int .i64),.own 109 (.pr .str (.pr .str .bool))],.v false [.d (.int .i64)]],[(true,[.d .str,.d .str,.d .bool]),(false,[.d .bool])],[(1000182,(.pr (.os 109 (.pr .str (.pr .str .bool))) (.pr (.int .i64) (.int .i64))),false)]⟩
def F_unpack_block_literal_ann:List (Nat×Ann):=[]
noncomputable def F_unpack_block_literal_env:Env:=⟨Tryd.prog,[(69,⟨F_unpack_block_number_sig,⟨F_unpack_block_number⟩⟩),(70,⟨F_unpack_block_at_sig,⟨F_unpack_block_at⟩⟩),(73,⟨F_unpack_block_text_sig,⟨F_unpack_block_text⟩⟩)],[]⟩
theorem F_unpack_block_literal_text:pvFn F_unpack_block_literal_env F_unpack_block_literal_ann Tryd.f68 F_unpack_block_literal_sig=F_unpack_block_literal:=by kernel_rfl
noncomputable def F_dyn_Table_Add (p1:Int) (s2:List Int) (s3:List Int) (b4:Bool) (l5:List (List (List Int×List Int×Bool)×Int×Int)):Option (List (List (List Int×List Int×Bool)×Int×Int)):=
 (F_stat_Size s2 s3 b4).bind fun i6=>
 chk (nnI p1)
 ((getI l5 p1).bind fun x7=>
 (F_dyn_Table_shrinks p1 (IntKind.i64.wrap (x7.2.2 - i6)) l5).bind fun l8=>
 chk (nnI p1)
 ((getI l8 p1).bind fun x9=>
 cond (decide (i6<=x9.2.2))
 (chk (nnI p1)
 ((getI l8 p1).bind fun x10=>
 chk (decide ((x10.1.length+([(s2,s3,false)]:List (List Int×List Int×Bool)).length)*40<=140737488355328)&&decide (x10.1.length+([(s2,s3,false)]:List (List Int×List Int×Bool)).length<=maxLen))
 (chk (nnI p1)
 ((getI l8 p1).bind fun x11=>
 chk (nnI p1)
 ((getI l8 p1).bind fun x12=>
 chk (eqI p1 p1)
 (chk (nnI p1)
 ((getI (l8.set (Int.toNat p1) ((x10.1++([(s2,s3,false)]:List (List Int×List Int×Bool))),x12.2)) p1).bind fun x13=>
 some ((l8.set (Int.toNat p1) ((x10.1++([(s2,s3,false)]:List (List Int×List Int×Bool))),x12.2)).set (Int.toNat p1) (x13.1,((IntKind.i64.wrap (x11.2.1+i6)),x13.2.2))))))))))
 (some l8)))
def F_dyn_Table_Add_sig:Sig:=⟨[.v false [.d (.ptr 91)],.v true [.d .str,.d .str,.d .bool]],[],[(1000182,(.pr (.os 109 (.pr .str (.pr .str .bool))) (.pr (.int .i64) (.int .i64))),true)]⟩
def F_dyn_Table_Add_ann:List (Nat×Ann):=[]
noncomputable def F_dyn_Table_Add_env:Env:=⟨Tryd.prog,[(57,⟨F_dyn_Table_shrinks_sig,⟨F_dyn_Table_shrinks⟩⟩),(66,⟨F_stat_Size_sig,⟨F_stat_Size⟩⟩)],[27]⟩
theorem F_dyn_Table_Add_text:pvFn F_dyn_Table_Add_env F_dyn_Table_Add_ann Tryd.f71 F_dyn_Table_Add_sig=F_dyn_Table_Add:=by kernel_rfl
noncomputable def F_unpack_block_keep (l1:List Int) (p2:Int) (i3:Int) (i4:Int) (l5:List (List Int×List Int×Bool)) (s6:List Int) (s7:List Int) (b8:Bool):Option (List Int×Int×Int×Int×List (List Int×List Int×Bool)):=
 (F_stat_Size s6 s7 b8).bind fun i9=>
 cond (decide ((IntKind.i64.wrap (i4+i9))<=i3))
 (chk (decide ((l5.length+([(s6,s7,b8)]:List (List Int×List Int×Bool)).length)*40<=140737488355328)&&decide (l5.length+([(s6,s7,b8)]:List (List Int×List Int×Bool)).length<=maxLen))
 (some (l1,p2,i3,(IntKind.i64.wrap (i4+i9)),(l5++([(s6,s7,b8)]:List (List Int×List Int×Bool))))))
 (some (l1,p2,i3,(IntKind.i64.wrap (i4+i9)),l5))
def F_unpack_block_keep_sig:Sig:=⟨[.m [.d (.sl (.int .u8)),.d (.ptr 91),.d (.int .i64),.d (.int .i64),.own 109 (.pr .str (.pr .str .bool))],.v true [.d .str,.d .str,.d .bool]],[],[]⟩
def F_unpack_block_keep_ann:List (Nat×Ann):=[]
noncomputable def F_unpack_block_keep_env:Env:=⟨Tryd.prog,[(66,⟨F_stat_Size_sig,⟨F_stat_Size⟩⟩)],[26]⟩
theorem F_unpack_block_keep_text:pvFn F_unpack_block_keep_env F_unpack_block_keep_ann Tryd.f72 F_unpack_block_keep_sig=F_unpack_block_keep:=by kernel_rfl
noncomputable def F_unpack_block_read_G1_0 (s:Bool×Int×Bool×List Int×List Int×Bool×List Int×Int×Int×Int×List (List Int×List Int×Bool)×List (List (List Int×List Int×Bool)×Int×Int)):Option ((Bool×List Int×Int×Int×Int×List (List Int×List Int×Bool)×List (List (List Int×List Int×Bool)×Int×Int))⊕(Nat×Bool×Int×Bool×List Int×List Int×Bool×List Int×Int×Int×Int×List (List Int×List Int×Bool)×List (List (List Int×List Int×Bool)×Int×Int))):=
 let b9:=s.1;let i10:=s.2.1;let b11:=s.2.2.1;let s12:=s.2.2.2.1;let s13:=s.2.2.2.2.1;let b14:=s.2.2.2.2.2.1;let l15:=s.2.2.2.2.2.2.1;let p16:=s.2.2.2.2.2.2.2.1;let i17:=s.2.2.2.2.2.2.2.2.1;let i18:=s.2.2.2.2.2.2.2.2.2.1;let l19:=s.2.2.2.2.2.2.2.2.2.2.1;let l20:=s.2.2.2.2.2.2.2.2.2.2.2
 cond ((l15.length:Int)==0)
 (some (.inl (true,l15,p16,i17,i18,l19,l20)))
 ((getI l15 0).bind fun i21=>
 cond (decide (i21 >= 128))
 (some (.inr (1,(b9,i10,b11,s12,s13,b14,l15,p16,i17,i18,l19,l20))))
 (cond (decide (i21 >= 64))
 (some (.inr (2,(b9,i10,b11,s12,s13,b14,l15,p16,i17,i18,l19,l20))))
 (cond (decide (i21 >= 32))
 (some (.inr (3,(b9,i10,b11,s12,s13,b14,l15,p16,i17,i18,l19,l20))))
 ((F_unpack_block_literal l15 p16 i17 i18 l19 4 l20).bind fun x22=>
 some (.inr (4,(x22.2.2.2.1,i10,b11,x22.1,x22.2.1,(decide (i21 >= 16)),x22.2.2.2.2.1,x22.2.2.2.2.2.1,x22.2.2.2.2.2.2.1,x22.2.2.2.2.2.2.2.1,x22.2.2.2.2.2.2.2.2,l20)))))))
noncomputable def F_unpack_block_read_G1_1 (s:Bool×Int×Bool×List Int×List Int×Bool×List Int×Int×Int×Int×List (List Int×List Int×Bool)×List (List (List Int×List Int×Bool)×Int×Int)):Option ((Bool×List Int×Int×Int×Int×List (List Int×List Int×Bool)×List (List (List Int×List Int×Bool)×Int×Int))⊕(Nat×Bool×Int×Bool×List Int×List Int×Bool×List Int×Int×Int×Int×List (List Int×List Int×Bool)×List (List (List Int×List Int×Bool)×Int×Int))):=
 let b9:=s.1;let i10:=s.2.1;let b11:=s.2.2.1;let s12:=s.2.2.2.1;let s13:=s.2.2.2.2.1;let b14:=s.2.2.2.2.2.1;let l15:=s.2.2.2.2.2.2.1;let p16:=s.2.2.2.2.2.2.2.1;let i17:=s.2.2.2.2.2.2.2.2.1;let i18:=s.2.2.2.2.2.2.2.2.2.1;let l19:=s.2.2.2.2.2.2.2.2.2.2.1;let l20:=s.2.2.2.2.2.2.2.2.2.2.2
 (F_unpack_block_number l15 p16 i17 i18 l19 7).bind fun x23=>
 cond x23.2.1
 ((F_unpack_block_at x23.2.2.1 x23.2.2.2.1 x23.2.2.2.2.1 x23.2.2.2.2.2.1 x23.2.2.2.2.2.2 x23.1 l20).bind fun x24=>
 some (.inr (4,(x24.2.2.2.1,i10,b11,x24.1,x24.2.1,x24.2.2.1,x24.2.2.2.2.1,x24.2.2.2.2.2.1,x24.2.2.2.2.2.2.1,x24.2.2.2.2.2.2.2.1,x24.2.2.2.2.2.2.2.2,l20))))
 (some (.inr (4,(x23.2.1,i10,b11,s12,s13,b14,x23.2.2.1,x23.2.2.2.1,x23.2.2.2.2.1,x23.2.2.2.2.2.1,x23.2.2.2.2.2.2,l20))))
noncomputable def F_unpack_block_read_G1_2 (s:Bool×Int×Bool×List Int×List Int×Bool×List Int×Int×Int×Int×List (List Int×List Int×Bool)×List (List (List Int×List Int×Bool)×Int×Int)):Option ((Bool×List Int×Int×Int×Int×List (List Int×List Int×Bool)×List (List (List Int×List Int×Bool)×Int×Int))⊕(Nat×Bool×Int×Bool×List Int×List Int×Bool×List Int×Int×Int×Int×List (List Int×List Int×Bool)×List (List (List Int×List Int×Bool)×Int×Int))):=
 let b9:=s.1;let i10:=s.2.1;let b11:=s.2.2.1;let s12:=s.2.2.2.1;let s13:=s.2.2.2.2.1;let b14:=s.2.2.2.2.2.1;let l15:=s.2.2.2.2.2.2.1;let p16:=s.2.2.2.2.2.2.2.1;let i17:=s.2.2.2.2.2.2.2.2.1;let i18:=s.2.2.2.2.2.2.2.2.2.1;let l19:=s.2.2.2.2.2.2.2.2.2.2.1;let l20:=s.2.2.2.2.2.2.2.2.2.2.2
 (F_unpack_block_literal l15 p16 i17 i18 l19 6 l20).bind fun x25=>
 cond x25.2.2.2.1
 ((F_dyn_Table_Add x25.2.2.2.2.2.1 x25.1 x25.2.1 x25.2.2.1 l20).bind fun l26=>
 some (.inr (4,(x25.2.2.2.1,i10,b11,x25.1,x25.2.1,x25.2.2.1,x25.2.2.2.2.1,x25.2.2.2.2.2.1,x25.2.2.2.2.2.2.1,x25.2.2.2.2.2.2.2.1,x25.2.2.2.2.2.2.2.2,l26))))
 (some (.inr (4,(x25.2.2.2.1,i10,b11,x25.1,x25.2.1,x25.2.2.1,x25.2.2.2.2.1,x25.2.2.2.2.2.1,x25.2.2.2.2.2.2.1,x25.2.2.2.2.2.2.2.1,x25.2.2.2.2.2.2.2.2,l20))))
noncomputable def F_unpack_block_read_G1_3 (s:Bool×Int×Bool×List Int×List Int×Bool×List Int×Int×Int×Int×List (List Int×List Int×Bool)×List (List (List Int×List Int×Bool)×Int×Int)):Option ((Bool×List Int×Int×Int×Int×List (List Int×List Int×Bool)×List (List (List Int×List Int×Bool)×Int×Int))⊕(Nat×Bool×Int×Bool×List Int×List Int×Bool×List Int×Int×Int×Int×List (List Int×List Int×Bool)×List (List (List Int×List Int×Bool)×Int×Int))):=
 let b9:=s.1;let i10:=s.2.1;let b11:=s.2.2.1;let s12:=s.2.2.2.1;let s13:=s.2.2.2.2.1;let b14:=s.2.2.2.2.2.1;let l15:=s.2.2.2.2.2.2.1;let p16:=s.2.2.2.2.2.2.2.1;let i17:=s.2.2.2.2.2.2.2.2.1;let i18:=s.2.2.2.2.2.2.2.2.2.1;let l19:=s.2.2.2.2.2.2.2.2.2.2.1;let l20:=s.2.2.2.2.2.2.2.2.2.2.2
 (F_unpack_block_number l15 p16 i17 i18 l19 5).bind fun x27=>
 cond (((!x27.2.1)||b11)||(decide ((IntKind.i64.wrap (i10+1)) > 2)))
 (some (.inl (false,x27.2.2.1,x27.2.2.2.1,x27.2.2.2.2.1,x27.2.2.2.2.2.1,x27.2.2.2.2.2.2,l20)))
 ((F_dyn_Table_Limit x27.2.2.2.1 x27.1 l20).bind fun x28=>
 cond (x28.1 != 0)
 (some (.inl (false,x27.2.2.1,x27.2.2.2.1,x27.2.2.2.2.1,x27.2.2.2.2.2.1,x27.2.2.2.2.2.2,x28.2)))
 (some (.inr (0,(x27.2.1,(IntKind.i64.wrap (i10+1)),b11,s12,s13,b14,x27.2.2.1,x27.2.2.2.1,x27.2.2.2.2.1,x27.2.2.2.2.2.1,x27.2.2.2.2.2.2,x28.2)))))
noncomputable def F_unpack_block_read_G1_4 (s:Bool×Int×Bool×List Int×List Int×Bool×List Int×Int×Int×Int×List (List Int×List Int×Bool)×List (List (List Int×List Int×Bool)×Int×Int)):Option ((Bool×List Int×Int×Int×Int×List (List Int×List Int×Bool)×List (List (List Int×List Int×Bool)×Int×Int))⊕(Nat×Bool×Int×Bool×List Int×List Int×Bool×List Int×Int×Int×Int×List (List Int×List Int×Bool)×List (List (List Int×List Int×Bool)×Int×Int))):=
 let b9:=s.1;let i10:=s.2.1;let b11:=s.2.2.1;let s12:=s.2.2.2.1;let s13:=s.2.2.2.2.1;let b14:=s.2.2.2.2.2.1;let l15:=s.2.2.2.2.2.2.1;let p16:=s.2.2.2.2.2.2.2.1;let i17:=s.2.2.2.2.2.2.2.2.1;let i18:=s.2.2.2.2.2.2.2.2.2.1;let l19:=s.2.2.2.2.2.2.2.2.2.2.1;let l20:=s.2.2.2.2.2.2.2.2.2.2.2
 cond (!b9)
 (some (.inl (false,l15,p16,i17,i18,l19,l20)))
 ((F_unpack_block_keep l15 p16 i17 i18 l19 s12 s13 b14).bind fun x29=>
 some (.inr (0,(b9,i10,true,s12,s13,b14,x29.1,x29.2.1,x29.2.2.1,x29.2.2.2.1,x29.2.2.2.2,l20))))
noncomputable def F_unpack_block_read_G1 (p:Nat×Bool×Int×Bool×List Int×List Int×Bool×List Int×Int×Int×Int×List (List Int×List Int×Bool)×List (List (List Int×List Int×Bool)×Int×Int)):Option ((Bool×List Int×Int×Int×Int×List (List Int×List Int×Bool)×List (List (List Int×List Int×Bool)×Int×Int))⊕(Nat×Bool×Int×Bool×List Int×List Int×Bool×List Int×Int×Int×Int×List (List Int×List Int×Bool)×List (List (List Int×List Int×Bool)×Int×Int))):=
 cond (hasN [0] p.1) (F_unpack_block_read_G1_0 p.2) (cond (hasN [1] p.1) (F_unpack_block_read_G1_1 p.2) (cond (hasN [2] p.1) (F_unpack_block_read_G1_2 p.2) (cond (hasN [3] p.1) (F_unpack_block_read_G1_3 p.2) (cond (hasN [4] p.1) (F_unpack_block_read_G1_4 p.2) (none)))))
noncomputable def F_unpack_block_read (l1:List Int) (p2:Int) (i3:Int) (i4:Int) (l5:List (List Int×List Int×Bool)) (l6:List (List (List Int×List Int×Bool)×Int×Int)):Option (Bool×List Int×Int×Int×Int×List (List Int×List Int×Bool)×List (List (List Int×List Int×Bool)×Int×Int)):=
 joinC (S:=Nat×Bool×Int×Bool×List Int×List Int×Bool×List Int×Int×Int×Int×List (List Int×List Int×Bool)×List (List (List Int×List Int×Bool)×Int×Int)) (R:=Bool×List Int×Int×Int×Int×List (List Int×List Int×Bool)×List (List (List Int×List Int×Bool)×Int×Int))
 (cond ((l1.length:Int)==0)
 (some (.inl (true,l1,p2,i3,i4,l5,l6)))
 ((getI l1 0).bind fun i7=>
 cond (decide (i7 >= 128))
 (some (.inr (1,(false,0,false,([]:List Int),([]:List Int),false,l1,p2,i3,i4,l5,l6))))
 (cond (decide (i7 >= 64))
 (some (.inr (2,(false,0,false,([]:List Int),([]:List Int),false,l1,p2,i3,i4,l5,l6))))
 (cond (decide (i7 >= 32))
 (some (.inr (3,(false,0,false,([]:List Int),([]:List Int),false,l1,p2,i3,i4,l5,l6))))
 ((F_unpack_block_literal l1 p2 i3 i4 l5 4 l6).bind fun x8=>
 some (.inr (4,(x8.2.2.2.1,0,false,x8.1,x8.2.1,(decide (i7 >= 16)),x8.2.2.2.2.1,x8.2.2.2.2.2.1,x8.2.2.2.2.2.2.1,x8.2.2.2.2.2.2.2.1,x8.2.2.2.2.2.2.2.2,l6))))))))
 (fun p=>loopC (S:=Nat×Bool×Int×Bool×List Int×List Int×Bool×List Int×Int×Int×Int×List (List Int×List Int×Bool)×List (List (List Int×List Int×Bool)×Int×Int)) (R:=Bool×List Int×Int×Int×Int×List (List Int×List Int×Bool)×List (List (List Int×List Int×Bool)×Int×Int)) (F_unpack_block_read_G1) p)
def F_unpack_block_read_sig:Sig:=⟨[.m [.d (.sl (.int .u8)),.d (.ptr 91),.d (.int .i64),.d (.int .i64),.own 109 (.pr .str (.pr .str .bool))]],[(false,[.d .bool])],[(1000182,(.pr (.os 109 (.pr .str (.pr .str .bool))) (.pr (.int .i64) (.int .i64))),true)]⟩
def F_unpack_block_read_ann:List (Nat×Ann):=[(1,⟨2,[(5,false,[.d .bool]),(7,false,[.d (.int .i64)]),(8,false,[.d .bool])],[(3,[.d .str,.d .str,.d .bool]),(0,[.d (.sl (.int .u8)),.d (.ptr 91),.d (.int .i64),.d (.int .i64),.own 109 (.pr .str (.pr .str .bool))])],([2,3,4,6]++List.range' 9 83),[],[(1000182,(.pr (.os 109 (.pr .str (.pr .str .bool))) (.pr (.int .i64) (.int .i64))),true)],[3]⟩)]
noncomputable def F_unpack_block_read_env:Env:=⟨Tryd.prog,[(37,⟨F_dyn_Table_Limit_sig,⟨F_dyn_Table_Limit⟩⟩),(68,⟨F_unpack_block_literal_sig,⟨F_unpack_block_literal⟩⟩),(69,⟨F_unpack_block_number_sig,⟨F_unpack_block_number⟩⟩),(70,⟨F_unpack_block_at_sig,⟨F_unpack_block_at⟩⟩),(71,⟨F_dyn_Table_Add_sig,⟨F_dyn_Table_Add⟩⟩),(72,⟨F_unpack_block_keep_sig,⟨F_unpack_block_keep⟩⟩)],[]⟩
theorem F_unpack_block_read_text:pvFn F_unpack_block_read_env F_unpack_block_read_ann Tryd.f64 F_unpack_block_read_sig=F_unpack_block_read:=by kernel_rfl
noncomputable def F_unpack_Dec_Decode (p1:Int) (l2:List Int) (i3:Int) (l4:List (Int×Bool)) (l5:List (List (List Int×List Int×Bool)×Int×Int)):Option (List (List Int×List Int×Bool)×Int×List (Int×Bool)×List (List (List Int×List Int×Bool)×Int×Int)):=
 chk (nnI p1)
 ((getI l4 p1).bind fun x6=>
 cond x6.2
 (some (([]:List (List Int×List Int×Bool)),5,l4,l5))
 ((F_slices_Clone_byte_byte l2).bind fun l7=>
 chk (nnI p1)
 ((getI l4 p1).bind fun x8=>
 (F_unpack_block_read l7 x8.1 i3 0 ([]:List (List Int×List Int×Bool)) l5).bind fun x9=>
 cond (!x9.1)
 (chk (nnI p1)
 ((getI l4 p1).bind fun x10=>
 some (([]:List (List Int×List Int×Bool)),2,(l4.set (Int.toNat p1) (x10.1,true)),x9.2.2.2.2.2.2)))
 (cond (decide (x9.2.2.2.2.1 > i3))
 (some (([]:List (List Int×List Int×Bool)),3,l4,x9.2.2.2.2.2.2))
 (some (x9.2.2.2.2.2.1,0,l4,x9.2.2.2.2.2.2))))))
def F_unpack_Dec_Decode_sig:Sig:=⟨[.v false [.d (.ptr 78)],.v false [.d (.sl (.int .u8))],.v false [.d (.int .i64)]],[(false,[.own 109 (.pr .str (.pr .str .bool))]),(false,[.d (.int .i64)])],[(1000156,(.pr (.ptr 91) .bool),true),(1000182,(.pr (.os 109 (.pr .str (.pr .str .bool))) (.pr (.int .i64) (.int .i64))),true)]⟩
def F_unpack_Dec_Decode_ann:List (Nat×Ann):=[]
noncomputable def F_unpack_Dec_Decode_env:Env:=⟨Tryd.prog,[(63,⟨F_slices_Clone_byte_byte_sig,⟨F_slices_Clone_byte_byte⟩⟩),(64,⟨F_unpack_block_read_sig,⟨F_unpack_block_read⟩⟩)],[]⟩
theorem F_unpack_Dec_Decode_text:pvFn F_unpack_Dec_Decode_env F_unpack_Dec_Decode_ann Tryd.f53 F_unpack_Dec_Decode_sig=F_unpack_Dec_Decode:=by kernel_rfl
noncomputable def F_unpack_Dec_Table (p1:Int) (l2:List (Int×Bool)):Option (Int):=
 chk (nnI p1)
 ((getI l2 p1).bind fun x3=>
 some x3.1)
def F_unpack_Dec_Table_sig:Sig:=⟨[.v false [.d (.ptr 78)]],[(false,[.d (.ptr 91)])],[(1000156,(.pr (.ptr 91) .bool),false)]⟩
def F_unpack_Dec_Table_ann:List (Nat×Ann):=[]
noncomputable def F_unpack_Dec_Table_env:Env:=⟨Tryd.prog,[],[]⟩
theorem F_unpack_Dec_Table_text:pvFn F_unpack_Dec_Table_env F_unpack_Dec_Table_ann Tryd.f54 F_unpack_Dec_Table_sig=F_unpack_Dec_Table:=by kernel_rfl
noncomputable def F_dyn_Table_Most (p1:Int) (l2:List (List (List Int×List Int×Bool)×Int×Int)):Option (Int):=
 chk (nnI p1)
 ((getI l2 p1).bind fun x3=>
 some x3.2.2)
def F_dyn_Table_Most_sig:Sig:=⟨[.v false [.d (.ptr 91)]],[(false,[.d (.int .i64)])],[(1000182,(.pr (.os 109 (.pr .str (.pr .str .bool))) (.pr (.int .i64) (.int .i64))),false)]⟩
def F_dyn_Table_Most_ann:List (Nat×Ann):=[]
noncomputable def F_dyn_Table_Most_env:Env:=⟨Tryd.prog,[],[]⟩
theorem F_dyn_Table_Most_text:pvFn F_dyn_Table_Most_env F_dyn_Table_Most_ann Tryd.f55 F_dyn_Table_Most_sig=F_dyn_Table_Most:=by kernel_rfl
noncomputable def F_watch_Watch_answers (p1:Int) (i2:Int) (i3:Int) (i4:Int) (l5:List Int) (l6:List Int) (i7:Int) (i9:Int) (i10:Int) (i11:Int) (l12:List (Int×Int)) (b13:Bool) (b14:Bool) (b15:Bool) (l16:List (List (Int×Int))) (l17:List (Int×Int×Int×Bool×Bool×Bool×Int×Int×Int×List (List (Int×Int))×(Int×Int×Int×Int×Int×Int)×Int×Int×Bool)) (l18:List (Option Int×Bool×Bool×Bool×List Int)) (l19:List (Int×Bool)) (l20:List (List (List Int×List Int×Bool)×Int×Int)):Option (Bool×List (Option Int×Bool×Bool×Bool×List Int)×List (Int×Bool)×List (List (List Int×List Int×Bool)×Int×Int)):=
 (F_watch_Watch_live p1 i4 l16 l17 l18).bind fun p21=>
 cond (eqI p21 (-1))
 (some (false,l18,l19,l20))
 (chk (nnI p1)
 ((getI l17 p1).bind fun x22=>
 cond (decide ((l5.length:Int) > x22.2.2.2.2.2.2.2.2.2.2.1.2.2.2.2.1))
 (some (false,l18,l19,l20))
 (chk (nnI p1)
 ((getI l17 p1).bind fun x23=>
 (F_unpack_Dec_Decode x23.2.2.2.2.2.2.2.2.2.2.2.1 l6 2147483647 l19 l20).bind fun x24=>
 cond ((x24.2.1 != 0)||((x24.1.length:Int)==0))
 (some (false,l18,x24.2.2.1,x24.2.2.2))
 ((getI x24.1 0).bind fun x25=>
 cond (!(x25.1==([58,115,116,97,116,117,115]:List Int)))
 (some (false,l18,x24.2.2.1,x24.2.2.2))
 (chk (nnI p1)
 ((getI l17 p1).bind fun x26=>
 (F_unpack_Dec_Table x26.2.2.2.2.2.2.2.2.2.2.2.1 x24.2.2.1).bind fun p27=>
 (F_dyn_Table_Most p27 x24.2.2.2).bind fun i28=>
 chk (nnI p1)
 ((getI l17 p1).bind fun x29=>
 cond (decide (i28 > x29.2.2.2.2.2.2.2.2.2.2.1.1))
 (some (false,l18,x24.2.2.1,x24.2.2.2))
 (chk (nnI p21)
 ((getI l18 p21).bind fun x30=>
 chk (nnI p21)
 ((getI (l18.set (Int.toNat p21) (x30.1,(true,x30.2.2))) p21).bind fun x31=>
 some (true,((l18.set (Int.toNat p21) (x30.1,(true,x30.2.2))).set (Int.toNat p21) (x31.1,(x31.2.1,(b13,x31.2.2.2)))),x24.2.2.1,x24.2.2.2))))))))))))
def F_watch_Watch_answers_sig:Sig:=⟨[.v false [.d (.ptr 59)],.v true [.d (.int .i64),.d (.int .i64),.d (.int .i64),.d (.sl (.int .u8))],.v true [.d (.sl (.int .u8)),.d (.int .i64),.d (.int .i64),.d (.int .i64),.d (.int .i64),.d (.sl (.pr (.int .i64) (.int .i64))),.d .bool,.d .bool,.d .bool]],[(false,[.d .bool])],[(1000103,(.sl (.pr (.int .i64) (.ptr 71))),false),(1000118,(.pr (.int .i64) (.pr (.ptr 73) (.pr (.ptr 73) (.pr .bool (.pr .bool (.pr .bool (.pr (.int .i64) (.pr (.mp 51) (.pr (.int .i64) (.pr (.os 63 (.sl (.pr (.int .i64) (.int .i64)))) (.pr (.pr (.int .i64) (.pr (.int .i64) (.pr (.int .i64) (.pr (.int .i64) (.pr (.int .i64) (.int .i64)))))) (.pr (.ptr 78) (.pr (.int .i64) .bool))))))))))))),false),(1000142,(.pr .wi (.pr .bool (.pr .bool (.pr .bool (.os 5 (.int .u8)))))),true),(1000156,(.pr (.ptr 91) .bool),true),(1000182,(.pr (.os 109 (.pr .str (.pr .str .bool))) (.pr (.int .i64) (.int .i64))),true)]⟩
def F_watch_Watch_answers_ann:List (Nat×Ann):=[]
noncomputable def F_watch_Watch_answers_env:Env:=⟨Tryd.prog,[(52,⟨F_watch_Watch_live_sig,⟨F_watch_Watch_live⟩⟩),(53,⟨F_unpack_Dec_Decode_sig,⟨F_unpack_Dec_Decode⟩⟩),(54,⟨F_unpack_Dec_Table_sig,⟨F_unpack_Dec_Table⟩⟩),(55,⟨F_dyn_Table_Most_sig,⟨F_dyn_Table_Most⟩⟩)],[]⟩
theorem F_watch_Watch_answers_text:pvFn F_watch_Watch_answers_env F_watch_Watch_answers_ann Tryd.f35 F_watch_Watch_answers_sig=F_watch_Watch_answers:=by kernel_rfl
noncomputable def F_watch_Watch_sends (p1:Int) (i2:Int) (i3:Int) (i4:Int) (l5:List Int) (l6:List Int) (i7:Int) (i9:Int) (i10:Int) (i11:Int) (l12:List (Int×Int)) (b13:Bool) (b14:Bool) (b15:Bool) (l16:List (List (Int×Int))) (l17:List (Int×Int×Int×Bool×Bool×Bool×Int×Int×Int×List (List (Int×Int))×(Int×Int×Int×Int×Int×Int)×Int×Int×Bool)) (l18:List (Option Int×Bool×Bool×Bool×List Int)):Option (Bool×List (Int×Int×Int×Bool×Bool×Bool×Int×Int×Int×List (List (Int×Int))×(Int×Int×Int×Int×Int×Int)×Int×Int×Bool)×List (Option Int×Bool×Bool×Bool×List Int)):=
 (F_watch_Watch_live p1 i4 l16 l17 l18).bind fun p19=>
 cond (eqI p19 (-1))
 (some (false,l17,l18))
 (chk (nnI p19)
 ((getI l18 p19).bind fun x20=>
 cond (!x20.2.1)
 (some (false,l17,l18))
 (chk (nnI p1)
 ((getI l17 p1).bind fun x21=>
 cond (decide ((l5.length:Int) > x21.2.2.2.2.2.2.2.2.2.2.1.2.2.2.2.1))
 (some (false,l17,l18))
 (chk (nnI p19)
 ((getI l18 p19).bind fun x22=>
 (x22.1).bind fun i23=>
 chk (nnI p1)
 ((getI l17 p1).bind fun x24=>
 (F_flow_Windows i23 x24.2.2.2.2.2.2.2.2.1).bind fun z25=>
 cond (decide ((l5.length:Int) > 0))
 ((F_flow_Spend z25 (l5.length:Int)).bind fun x26=>
 cond (x26.2 != 0)
 (some (false,l17,l18))
 ((F_flow_Stream x26.1).bind fun i27=>
 (F_flow_Conn x26.1).bind fun i28=>
 chk (nnI p19)
 ((getI l18 p19).bind fun x29=>
 chk (nnI p1)
 ((getI l17 p1).bind fun x30=>
 chk (nnI p19)
 ((getI (l18.set (Int.toNat p19) ((some i27),x29.2)) p19).bind fun x31=>
 chk (decide ((x31.2.2.2.2.length+l6.length)*1<=140737488355328)&&decide (x31.2.2.2.2.length+l6.length<=maxLen))
 (chk (nnI p19)
 ((getI (l18.set (Int.toNat p19) ((some i27),x29.2)) p19).bind fun x32=>
 chk (eqI p19 p19)
 (chk (nnI p19)
 ((getI ((l18.set (Int.toNat p19) ((some i27),x29.2)).set (Int.toNat p19) (x32.1,(x32.2.1,(x32.2.2.1,(x32.2.2.2.1,(x31.2.2.2.2++l6)))))) p19).bind fun x33=>
 some (true,(l17.set (Int.toNat p1) (x30.1,(x30.2.1,(x30.2.2.1,(x30.2.2.2.1,(x30.2.2.2.2.1,(x30.2.2.2.2.2.1,(x30.2.2.2.2.2.2.1,(x30.2.2.2.2.2.2.2.1,(i28,x30.2.2.2.2.2.2.2.2.2)))))))))),(((l18.set (Int.toNat p19) ((some i27),x29.2)).set (Int.toNat p19) (x32.1,(x32.2.1,(x32.2.2.1,(x32.2.2.2.1,(x31.2.2.2.2++l6)))))).set (Int.toNat p19) (x33.1,(x33.2.1,(b13,x33.2.2.2))))))))))))))
 ((F_flow_Stream z25).bind fun i34=>
 (F_flow_Conn z25).bind fun i35=>
 chk (nnI p19)
 ((getI l18 p19).bind fun x36=>
 chk (nnI p1)
 ((getI l17 p1).bind fun x37=>
 chk (nnI p19)
 ((getI (l18.set (Int.toNat p19) ((some i34),x36.2)) p19).bind fun x38=>
 chk (decide ((x38.2.2.2.2.length+l6.length)*1<=140737488355328)&&decide (x38.2.2.2.2.length+l6.length<=maxLen))
 (chk (nnI p19)
 ((getI (l18.set (Int.toNat p19) ((some i34),x36.2)) p19).bind fun x39=>
 chk (eqI p19 p19)
 (chk (nnI p19)
 ((getI ((l18.set (Int.toNat p19) ((some i34),x36.2)).set (Int.toNat p19) (x39.1,(x39.2.1,(x39.2.2.1,(x39.2.2.2.1,(x38.2.2.2.2++l6)))))) p19).bind fun x40=>
 some (true,(l17.set (Int.toNat p1) (x37.1,(x37.2.1,(x37.2.2.1,(x37.2.2.2.1,(x37.2.2.2.2.1,(x37.2.2.2.2.2.1,(x37.2.2.2.2.2.2.1,(x37.2.2.2.2.2.2.2.1,(i35,x37.2.2.2.2.2.2.2.2.2)))))))))),(((l18.set (Int.toNat p19) ((some i34),x36.2)).set (Int.toNat p19) (x39.1,(x39.2.1,(x39.2.2.1,(x39.2.2.2.1,(x38.2.2.2.2++l6)))))).set (Int.toNat p19) (x40.1,(x40.2.1,(b13,x40.2.2.2))))))))))))))))))))
def F_watch_Watch_sends_sig:Sig:=⟨[.v false [.d (.ptr 59)],.v true [.d (.int .i64),.d (.int .i64),.d (.int .i64),.d (.sl (.int .u8))],.v true [.d (.sl (.int .u8)),.d (.int .i64),.d (.int .i64),.d (.int .i64),.d (.int .i64),.d (.sl (.pr (.int .i64) (.int .i64))),.d .bool,.d .bool,.d .bool]],[(false,[.d .bool])],[(1000103,(.sl (.pr (.int .i64) (.ptr 71))),false),(1000118,(.pr (.int .i64) (.pr (.ptr 73) (.pr (.ptr 73) (.pr .bool (.pr .bool (.pr .bool (.pr (.int .i64) (.pr (.mp 51) (.pr (.int .i64) (.pr (.os 63 (.sl (.pr (.int .i64) (.int .i64)))) (.pr (.pr (.int .i64) (.pr (.int .i64) (.pr (.int .i64) (.pr (.int .i64) (.pr (.int .i64) (.int .i64)))))) (.pr (.ptr 78) (.pr (.int .i64) .bool))))))))))))),true),(1000142,(.pr .wi (.pr .bool (.pr .bool (.pr .bool (.os 5 (.int .u8)))))),true)]⟩
def F_watch_Watch_sends_ann:List (Nat×Ann):=[]
noncomputable def F_watch_Watch_sends_env:Env:=⟨Tryd.prog,[(47,⟨F_flow_Windows_sig,⟨F_flow_Windows⟩⟩),(48,⟨F_flow_Conn_sig,⟨F_flow_Conn⟩⟩),(49,⟨F_flow_Stream_sig,⟨F_flow_Stream⟩⟩),(52,⟨F_watch_Watch_live_sig,⟨F_watch_Watch_live⟩⟩),(56,⟨F_flow_Spend_sig,⟨F_flow_Spend⟩⟩)],[72]⟩
theorem F_watch_Watch_sends_text:pvFn F_watch_Watch_sends_env F_watch_Watch_sends_ann Tryd.f36 F_watch_Watch_sends_sig=F_watch_Watch_sends:=by kernel_rfl
noncomputable def F_watch_Watch_right (p1:Int) (i2:Int) (i3:Int) (i4:Int) (l5:List Int) (l6:List (List (Int×Int))) (l7:List (Int×Int×Int×Bool×Bool×Bool×Int×Int×Int×List (List (Int×Int))×(Int×Int×Int×Int×Int×Int)×Int×Int×Bool)) (l8:List (Option Int×Bool×Bool×Bool×List Int)) (l9:List (Int×Bool)) (l10:List (List (List Int×List Int×Bool)×Int×Int)):Option (Bool×List (Int×Int×Int×Bool×Bool×Bool×Int×Int×Int×List (List (Int×Int))×(Int×Int×Int×Int×Int×Int)×Int×Int×Bool)×List (Option Int×Bool×Bool×Bool×List Int)×List (Int×Bool)×List (List (List Int×List Int×Bool)×Int×Int)):=
 (F_part_Read i2 i3 i4 l5).bind fun x11=>
 chk (nnI p1)
 ((getI l7 p1).bind fun x12=>
 cond (x12.2.2.2.2.2.2.2.2.2.2.2.2.1==0)
 (cond (i2 != 4)
 (some (false,l7,l8,l9,l10))
 (cond x11.2.2.2.2.2.2.2.1
 (cond x11.2.2.2.2.2.2.2.1
 (some (false,l7,l8,l9,l10))
 (cond (i2==4)
 (cond (!x11.2.2.2.2.2.2.2.1)
 (some (true,l7,l8,l9,l10))
 ((F_watch_Watch_applies p1 l6 l7 l8).bind fun x13=>
 some (x13.1,x13.2.1,x13.2.2,l9,l10)))
 (cond (i2==1)
 (cond x11.2.2.2.2.2.2.2.2.1
 ((F_watch_Watch_answers p1 i2 i3 i4 l5 x11.1 x11.2.1 x11.2.2.1 x11.2.2.2.1 x11.2.2.2.2.1 x11.2.2.2.2.2.1 x11.2.2.2.2.2.2.1 x11.2.2.2.2.2.2.2.1 x11.2.2.2.2.2.2.2.2.1 l6 l7 l8 l9 l10).bind fun x14=>
 some (x14.1,l7,x14.2.1,x14.2.2.1,x14.2.2.2))
 (some (false,l7,l8,l9,l10)))
 (cond (i2==0)
 ((F_watch_Watch_sends p1 i2 i3 i4 l5 x11.1 x11.2.1 x11.2.2.1 x11.2.2.2.1 x11.2.2.2.2.1 x11.2.2.2.2.2.1 x11.2.2.2.2.2.2.1 x11.2.2.2.2.2.2.2.1 x11.2.2.2.2.2.2.2.2.1 l6 l7 l8).bind fun x15=>
 some (x15.1,x15.2.1,x15.2.2,l9,l10))
 (cond (i2==3)
 (chk (nnI p1)
 ((getI l7 p1).bind fun x16=>
 (getI l6 x16.2.2.2.2.2.2.2.1).bind fun m17=>
 cond (eqI (getZ (mapGet m17 i4) (-1:Int)) (-1))
 (some (false,l7,l8,l9,l10))
 (chk (nnI (getZ (mapGet m17 i4) (-1:Int)))
 ((getI l8 (getZ (mapGet m17 i4) (-1:Int))).bind fun x18=>
 cond x18.2.2.2.1
 (some (false,l7,l8,l9,l10))
 (chk (nnI (getZ (mapGet m17 i4) (-1:Int)))
 ((getI l8 (getZ (mapGet m17 i4) (-1:Int))).bind fun x19=>
 some (true,l7,(l8.set (Int.toNat (getZ (mapGet m17 i4) (-1:Int))) (x19.1,(x19.2.1,(x19.2.2.1,(true,x19.2.2.2.2))))),l9,l10)))))))
 (cond (i2==8)
 (chk (nnI p1)
 ((getI l7 p1).bind fun x20=>
 (getI l6 x20.2.2.2.2.2.2.2.1).bind fun m21=>
 cond (i4==0)
 (some (true,l7,l8,l9,l10))
 (cond (!(eqI (getZ (mapGet m21 i4) (-1:Int)) (-1)))
 (chk (nnI (getZ (mapGet m21 i4) (-1:Int)))
 ((getI l8 (getZ (mapGet m21 i4) (-1:Int))).bind fun x22=>
 some ((!x22.2.2.2.1),l7,l8,l9,l10)))
 (some (false,l7,l8,l9,l10)))))
 (cond (i2==7)
 (chk (nnI p1)
 ((getI l7 p1).bind fun x23=>
 some (true,(l7.set (Int.toNat p1) (x23.1,(x23.2.1,(x23.2.2.1,(x23.2.2.2.1,(x23.2.2.2.2.1,(x23.2.2.2.2.2.1,(x23.2.2.2.2.2.2.1,(x23.2.2.2.2.2.2.2.1,(x23.2.2.2.2.2.2.2.2.1,(x23.2.2.2.2.2.2.2.2.2.1,(x23.2.2.2.2.2.2.2.2.2.2.1,(x23.2.2.2.2.2.2.2.2.2.2.2.1,(x23.2.2.2.2.2.2.2.2.2.2.2.2.1,(x11.2.2.1 != 0))))))))))))))),l8,l9,l10)))
 (some ((i2==6),l7,l8,l9,l10)))))))))
 (cond x11.2.2.2.2.2.2.2.2.2.1
 (cond x11.2.2.2.2.2.2.2.2.2.1
 (some (false,l7,l8,l9,l10))
 (cond (i2==4)
 (cond (!x11.2.2.2.2.2.2.2.1)
 (some (true,l7,l8,l9,l10))
 ((F_watch_Watch_applies p1 l6 l7 l8).bind fun x24=>
 some (x24.1,x24.2.1,x24.2.2,l9,l10)))
 (cond (i2==1)
 (cond x11.2.2.2.2.2.2.2.2.1
 ((F_watch_Watch_answers p1 i2 i3 i4 l5 x11.1 x11.2.1 x11.2.2.1 x11.2.2.2.1 x11.2.2.2.2.1 x11.2.2.2.2.2.1 x11.2.2.2.2.2.2.1 x11.2.2.2.2.2.2.2.1 x11.2.2.2.2.2.2.2.2.1 l6 l7 l8 l9 l10).bind fun x25=>
 some (x25.1,l7,x25.2.1,x25.2.2.1,x25.2.2.2))
 (some (false,l7,l8,l9,l10)))
 (cond (i2==0)
 ((F_watch_Watch_sends p1 i2 i3 i4 l5 x11.1 x11.2.1 x11.2.2.1 x11.2.2.2.1 x11.2.2.2.2.1 x11.2.2.2.2.2.1 x11.2.2.2.2.2.2.1 x11.2.2.2.2.2.2.2.1 x11.2.2.2.2.2.2.2.2.1 l6 l7 l8).bind fun x26=>
 some (x26.1,x26.2.1,x26.2.2,l9,l10))
 (cond (i2==3)
 (chk (nnI p1)
 ((getI l7 p1).bind fun x27=>
 (getI l6 x27.2.2.2.2.2.2.2.1).bind fun m28=>
 cond (eqI (getZ (mapGet m28 i4) (-1:Int)) (-1))
 (some (false,l7,l8,l9,l10))
 (chk (nnI (getZ (mapGet m28 i4) (-1:Int)))
 ((getI l8 (getZ (mapGet m28 i4) (-1:Int))).bind fun x29=>
 cond x29.2.2.2.1
 (some (false,l7,l8,l9,l10))
 (chk (nnI (getZ (mapGet m28 i4) (-1:Int)))
 ((getI l8 (getZ (mapGet m28 i4) (-1:Int))).bind fun x30=>
 some (true,l7,(l8.set (Int.toNat (getZ (mapGet m28 i4) (-1:Int))) (x30.1,(x30.2.1,(x30.2.2.1,(true,x30.2.2.2.2))))),l9,l10)))))))
 (cond (i2==8)
 (chk (nnI p1)
 ((getI l7 p1).bind fun x31=>
 (getI l6 x31.2.2.2.2.2.2.2.1).bind fun m32=>
 cond (i4==0)
 (some (true,l7,l8,l9,l10))
 (cond (!(eqI (getZ (mapGet m32 i4) (-1:Int)) (-1)))
 (chk (nnI (getZ (mapGet m32 i4) (-1:Int)))
 ((getI l8 (getZ (mapGet m32 i4) (-1:Int))).bind fun x33=>
 some ((!x33.2.2.2.1),l7,l8,l9,l10)))
 (some (false,l7,l8,l9,l10)))))
 (cond (i2==7)
 (chk (nnI p1)
 ((getI l7 p1).bind fun x34=>
 some (true,(l7.set (Int.toNat p1) (x34.1,(x34.2.1,(x34.2.2.1,(x34.2.2.2.1,(x34.2.2.2.2.1,(x34.2.2.2.2.2.1,(x34.2.2.2.2.2.2.1,(x34.2.2.2.2.2.2.2.1,(x34.2.2.2.2.2.2.2.2.1,(x34.2.2.2.2.2.2.2.2.2.1,(x34.2.2.2.2.2.2.2.2.2.2.1,(x34.2.2.2.2.2.2.2.2.2.2.2.1,(x34.2.2.2.2.2.2.2.2.2.2.2.2.1,(x11.2.2.1 != 0))))))))))))))),l8,l9,l10)))
 (some ((i2==6),l7,l8,l9,l10)))))))))
 (chk (nnI p1)
 ((getI l7 p1).bind fun x35=>
 cond x35.2.2.2.2.2.2.2.2.2.2.2.2.2
 (some (false,l7,l8,l9,l10))
 (cond (i2==4)
 (cond (!x11.2.2.2.2.2.2.2.1)
 (some (true,l7,l8,l9,l10))
 ((F_watch_Watch_applies p1 l6 l7 l8).bind fun x36=>
 some (x36.1,x36.2.1,x36.2.2,l9,l10)))
 (cond (i2==1)
 (cond x11.2.2.2.2.2.2.2.2.1
 ((F_watch_Watch_answers p1 i2 i3 i4 l5 x11.1 x11.2.1 x11.2.2.1 x11.2.2.2.1 x11.2.2.2.2.1 x11.2.2.2.2.2.1 x11.2.2.2.2.2.2.1 x11.2.2.2.2.2.2.2.1 x11.2.2.2.2.2.2.2.2.1 l6 l7 l8 l9 l10).bind fun x37=>
 some (x37.1,l7,x37.2.1,x37.2.2.1,x37.2.2.2))
 (some (false,l7,l8,l9,l10)))
 (cond (i2==0)
 ((F_watch_Watch_sends p1 i2 i3 i4 l5 x11.1 x11.2.1 x11.2.2.1 x11.2.2.2.1 x11.2.2.2.2.1 x11.2.2.2.2.2.1 x11.2.2.2.2.2.2.1 x11.2.2.2.2.2.2.2.1 x11.2.2.2.2.2.2.2.2.1 l6 l7 l8).bind fun x38=>
 some (x38.1,x38.2.1,x38.2.2,l9,l10))
 (cond (i2==3)
 (chk (nnI p1)
 ((getI l7 p1).bind fun x39=>
 (getI l6 x39.2.2.2.2.2.2.2.1).bind fun m40=>
 cond (eqI (getZ (mapGet m40 i4) (-1:Int)) (-1))
 (some (false,l7,l8,l9,l10))
 (chk (nnI (getZ (mapGet m40 i4) (-1:Int)))
 ((getI l8 (getZ (mapGet m40 i4) (-1:Int))).bind fun x41=>
 cond x41.2.2.2.1
 (some (false,l7,l8,l9,l10))
 (chk (nnI (getZ (mapGet m40 i4) (-1:Int)))
 ((getI l8 (getZ (mapGet m40 i4) (-1:Int))).bind fun x42=>
 some (true,l7,(l8.set (Int.toNat (getZ (mapGet m40 i4) (-1:Int))) (x42.1,(x42.2.1,(x42.2.2.1,(true,x42.2.2.2.2))))),l9,l10)))))))
 (cond (i2==8)
 (chk (nnI p1)
 ((getI l7 p1).bind fun x43=>
 (getI l6 x43.2.2.2.2.2.2.2.1).bind fun m44=>
 cond (i4==0)
 (some (true,l7,l8,l9,l10))
 (cond (!(eqI (getZ (mapGet m44 i4) (-1:Int)) (-1)))
 (chk (nnI (getZ (mapGet m44 i4) (-1:Int)))
 ((getI l8 (getZ (mapGet m44 i4) (-1:Int))).bind fun x45=>
 some ((!x45.2.2.2.1),l7,l8,l9,l10)))
 (some (false,l7,l8,l9,l10)))))
 (cond (i2==7)
 (chk (nnI p1)
 ((getI l7 p1).bind fun x46=>
 some (true,(l7.set (Int.toNat p1) (x46.1,(x46.2.1,(x46.2.2.1,(x46.2.2.2.1,(x46.2.2.2.2.1,(x46.2.2.2.2.2.1,(x46.2.2.2.2.2.2.1,(x46.2.2.2.2.2.2.2.1,(x46.2.2.2.2.2.2.2.2.1,(x46.2.2.2.2.2.2.2.2.2.1,(x46.2.2.2.2.2.2.2.2.2.2.1,(x46.2.2.2.2.2.2.2.2.2.2.2.1,(x46.2.2.2.2.2.2.2.2.2.2.2.2.1,(x11.2.2.1 != 0))))))))))))))),l8,l9,l10)))
 (some ((i2==6),l7,l8,l9,l10)))))))))))))
 (cond x11.2.2.2.2.2.2.2.2.2.1
 (cond x11.2.2.2.2.2.2.2.2.2.1
 (some (false,l7,l8,l9,l10))
 (cond (i2==4)
 (cond (!x11.2.2.2.2.2.2.2.1)
 (some (true,l7,l8,l9,l10))
 ((F_watch_Watch_applies p1 l6 l7 l8).bind fun x47=>
 some (x47.1,x47.2.1,x47.2.2,l9,l10)))
 (cond (i2==1)
 (cond x11.2.2.2.2.2.2.2.2.1
 ((F_watch_Watch_answers p1 i2 i3 i4 l5 x11.1 x11.2.1 x11.2.2.1 x11.2.2.2.1 x11.2.2.2.2.1 x11.2.2.2.2.2.1 x11.2.2.2.2.2.2.1 x11.2.2.2.2.2.2.2.1 x11.2.2.2.2.2.2.2.2.1 l6 l7 l8 l9 l10).bind fun x48=>
 some (x48.1,l7,x48.2.1,x48.2.2.1,x48.2.2.2))
 (some (false,l7,l8,l9,l10)))
 (cond (i2==0)
 ((F_watch_Watch_sends p1 i2 i3 i4 l5 x11.1 x11.2.1 x11.2.2.1 x11.2.2.2.1 x11.2.2.2.2.1 x11.2.2.2.2.2.1 x11.2.2.2.2.2.2.1 x11.2.2.2.2.2.2.2.1 x11.2.2.2.2.2.2.2.2.1 l6 l7 l8).bind fun x49=>
 some (x49.1,x49.2.1,x49.2.2,l9,l10))
 (cond (i2==3)
 (chk (nnI p1)
 ((getI l7 p1).bind fun x50=>
 (getI l6 x50.2.2.2.2.2.2.2.1).bind fun m51=>
 cond (eqI (getZ (mapGet m51 i4) (-1:Int)) (-1))
 (some (false,l7,l8,l9,l10))
 (chk (nnI (getZ (mapGet m51 i4) (-1:Int)))
 ((getI l8 (getZ (mapGet m51 i4) (-1:Int))).bind fun x52=>
 cond x52.2.2.2.1
 (some (false,l7,l8,l9,l10))
 (chk (nnI (getZ (mapGet m51 i4) (-1:Int)))
 ((getI l8 (getZ (mapGet m51 i4) (-1:Int))).bind fun x53=>
 some (true,l7,(l8.set (Int.toNat (getZ (mapGet m51 i4) (-1:Int))) (x53.1,(x53.2.1,(x53.2.2.1,(true,x53.2.2.2.2))))),l9,l10)))))))
 (cond (i2==8)
 (chk (nnI p1)
 ((getI l7 p1).bind fun x54=>
 (getI l6 x54.2.2.2.2.2.2.2.1).bind fun m55=>
 cond (i4==0)
 (some (true,l7,l8,l9,l10))
 (cond (!(eqI (getZ (mapGet m55 i4) (-1:Int)) (-1)))
 (chk (nnI (getZ (mapGet m55 i4) (-1:Int)))
 ((getI l8 (getZ (mapGet m55 i4) (-1:Int))).bind fun x56=>
 some ((!x56.2.2.2.1),l7,l8,l9,l10)))
 (some (false,l7,l8,l9,l10)))))
 (cond (i2==7)
 (chk (nnI p1)
 ((getI l7 p1).bind fun x57=>
 some (true,(l7.set (Int.toNat p1) (x57.1,(x57.2.1,(x57.2.2.1,(x57.2.2.2.1,(x57.2.2.2.2.1,(x57.2.2.2.2.2.1,(x57.2.2.2.2.2.2.1,(x57.2.2.2.2.2.2.2.1,(x57.2.2.2.2.2.2.2.2.1,(x57.2.2.2.2.2.2.2.2.2.1,(x57.2.2.2.2.2.2.2.2.2.2.1,(x57.2.2.2.2.2.2.2.2.2.2.2.1,(x57.2.2.2.2.2.2.2.2.2.2.2.2.1,(x11.2.2.1 != 0))))))))))))))),l8,l9,l10)))
 (some ((i2==6),l7,l8,l9,l10)))))))))
 (chk (nnI p1)
 ((getI l7 p1).bind fun x58=>
 cond x58.2.2.2.2.2.2.2.2.2.2.2.2.2
 (some (false,l7,l8,l9,l10))
 (cond (i2==4)
 (cond (!x11.2.2.2.2.2.2.2.1)
 (some (true,l7,l8,l9,l10))
 ((F_watch_Watch_applies p1 l6 l7 l8).bind fun x59=>
 some (x59.1,x59.2.1,x59.2.2,l9,l10)))
 (cond (i2==1)
 (cond x11.2.2.2.2.2.2.2.2.1
 ((F_watch_Watch_answers p1 i2 i3 i4 l5 x11.1 x11.2.1 x11.2.2.1 x11.2.2.2.1 x11.2.2.2.2.1 x11.2.2.2.2.2.1 x11.2.2.2.2.2.2.1 x11.2.2.2.2.2.2.2.1 x11.2.2.2.2.2.2.2.2.1 l6 l7 l8 l9 l10).bind fun x60=>
 some (x60.1,l7,x60.2.1,x60.2.2.1,x60.2.2.2))
 (some (false,l7,l8,l9,l10)))
 (cond (i2==0)
 ((F_watch_Watch_sends p1 i2 i3 i4 l5 x11.1 x11.2.1 x11.2.2.1 x11.2.2.2.1 x11.2.2.2.2.1 x11.2.2.2.2.2.1 x11.2.2.2.2.2.2.1 x11.2.2.2.2.2.2.2.1 x11.2.2.2.2.2.2.2.2.1 l6 l7 l8).bind fun x61=>
 some (x61.1,x61.2.1,x61.2.2,l9,l10))
 (cond (i2==3)
 (chk (nnI p1)
 ((getI l7 p1).bind fun x62=>
 (getI l6 x62.2.2.2.2.2.2.2.1).bind fun m63=>
 cond (eqI (getZ (mapGet m63 i4) (-1:Int)) (-1))
 (some (false,l7,l8,l9,l10))
 (chk (nnI (getZ (mapGet m63 i4) (-1:Int)))
 ((getI l8 (getZ (mapGet m63 i4) (-1:Int))).bind fun x64=>
 cond x64.2.2.2.1
 (some (false,l7,l8,l9,l10))
 (chk (nnI (getZ (mapGet m63 i4) (-1:Int)))
 ((getI l8 (getZ (mapGet m63 i4) (-1:Int))).bind fun x65=>
 some (true,l7,(l8.set (Int.toNat (getZ (mapGet m63 i4) (-1:Int))) (x65.1,(x65.2.1,(x65.2.2.1,(true,x65.2.2.2.2))))),l9,l10)))))))
 (cond (i2==8)
 (chk (nnI p1)
 ((getI l7 p1).bind fun x66=>
 (getI l6 x66.2.2.2.2.2.2.2.1).bind fun m67=>
 cond (i4==0)
 (some (true,l7,l8,l9,l10))
 (cond (!(eqI (getZ (mapGet m67 i4) (-1:Int)) (-1)))
 (chk (nnI (getZ (mapGet m67 i4) (-1:Int)))
 ((getI l8 (getZ (mapGet m67 i4) (-1:Int))).bind fun x68=>
 some ((!x68.2.2.2.1),l7,l8,l9,l10)))
 (some (false,l7,l8,l9,l10)))))
 (cond (i2==7)
 (chk (nnI p1)
 ((getI l7 p1).bind fun x69=>
 some (true,(l7.set (Int.toNat p1) (x69.1,(x69.2.1,(x69.2.2.1,(x69.2.2.2.1,(x69.2.2.2.2.1,(x69.2.2.2.2.2.1,(x69.2.2.2.2.2.2.1,(x69.2.2.2.2.2.2.2.1,(x69.2.2.2.2.2.2.2.2.1,(x69.2.2.2.2.2.2.2.2.2.1,(x69.2.2.2.2.2.2.2.2.2.2.1,(x69.2.2.2.2.2.2.2.2.2.2.2.1,(x69.2.2.2.2.2.2.2.2.2.2.2.2.1,(x11.2.2.1 != 0))))))))))))))),l8,l9,l10)))
 (some ((i2==6),l7,l8,l9,l10))))))))))))
def F_watch_Watch_right_sig:Sig:=⟨[.v false [.d (.ptr 59)],.v true [.d (.int .i64),.d (.int .i64),.d (.int .i64),.d (.sl (.int .u8))]],[(false,[.d .bool])],[(1000103,(.sl (.pr (.int .i64) (.ptr 71))),false),(1000118,(.pr (.int .i64) (.pr (.ptr 73) (.pr (.ptr 73) (.pr .bool (.pr .bool (.pr .bool (.pr (.int .i64) (.pr (.mp 51) (.pr (.int .i64) (.pr (.os 63 (.sl (.pr (.int .i64) (.int .i64)))) (.pr (.pr (.int .i64) (.pr (.int .i64) (.pr (.int .i64) (.pr (.int .i64) (.pr (.int .i64) (.int .i64)))))) (.pr (.ptr 78) (.pr (.int .i64) .bool))))))))))))),true),(1000142,(.pr .wi (.pr .bool (.pr .bool (.pr .bool (.os 5 (.int .u8)))))),true),(1000156,(.pr (.ptr 91) .bool),true),(1000182,(.pr (.os 109 (.pr .str (.pr .str .bool))) (.pr (.int .i64) (.int .i64))),true)]⟩
def F_watch_Watch_right_ann:List (Nat×Ann):=[]
noncomputable def F_watch_Watch_right_env:Env:=⟨Tryd.prog,[(32,⟨F_part_Read_sig,⟨F_part_Read⟩⟩),(34,⟨F_watch_Watch_applies_sig,⟨F_watch_Watch_applies⟩⟩),(35,⟨F_watch_Watch_answers_sig,⟨F_watch_Watch_answers⟩⟩),(36,⟨F_watch_Watch_sends_sig,⟨F_watch_Watch_sends⟩⟩)],[]⟩
theorem F_watch_Watch_right_text:pvFn F_watch_Watch_right_env F_watch_Watch_right_ann Tryd.f28 F_watch_Watch_right_sig=F_watch_Watch_right:=by kernel_rfl
noncomputable def F_watch_Watch_Out_L3 (p1:Int) (l3:List (List (Int×Int))) (s:List (Int×Int×Int×Bool×Bool×Bool×Int×Int×Int×List (List (Int×Int))×(Int×Int×Int×Int×Int×Int)×Int×Int×Bool)×List (Option Int×Bool×Bool×Bool×List Int)×List (Int×List Int)×List (Int×Bool)×List (List (List Int×List Int×Bool)×Int×Int)):Option ((Int×List (Int×Int×Int×Bool×Bool×Bool×Int×Int×Int×List (List (Int×Int))×(Int×Int×Int×Int×Int×Int)×Int×Int×Bool)×List (Option Int×Bool×Bool×Bool×List Int)×List (Int×List Int)×List (Int×Bool)×List (List (List Int×List Int×Bool)×Int×Int))⊕(List (Int×Int×Int×Bool×Bool×Bool×Int×Int×Int×List (List (Int×Int))×(Int×Int×Int×Int×Int×Int)×Int×Int×Bool)×List (Option Int×Bool×Bool×Bool×List Int)×List (Int×List Int)×List (Int×Bool)×List (List (List Int×List Int×Bool)×Int×Int))):=
 let l11:=s.1;let l12:=s.2.1;let l13:=s.2.2.1;let l14:=s.2.2.2.1;let l15:=s.2.2.2.2
 chk (nnI p1)
 ((getI l11 p1).bind fun x16=>
 cond (!x16.2.2.2.2.2.1)
 (chk (nnI p1)
 ((getI l11 p1).bind fun x17=>
 cond (!x17.2.2.2.2.1)
 (chk (nnI p1)
 ((getI l11 p1).bind fun x18=>
 (F_frame_Parser_Next x18.2.2.1 l13).bind fun x19=>
 cond (x19.2.2.2.2.1==4)
 (Option.map Sum.inl
 (chk (nnI p1)
 ((getI l11 p1).bind fun x20=>
 cond x20.2.2.2.2.2.1
 (some (2,l11,l12,x19.2.2.2.2.2,l14,l15))
 (some (0,l11,l12,x19.2.2.2.2.2,l14,l15)))))
 (cond (x19.2.2.2.2.1 != 0)
 (chk (nnI p1)
 ((getI l11 p1).bind fun x21=>
 chk (nnI p1)
 ((getI (l11.set (Int.toNat p1) (x21.1,(x21.2.1,(x21.2.2.1,(x21.2.2.2.1,(x21.2.2.2.2.1,(true,x21.2.2.2.2.2.2))))))) p1).bind fun x22=>
 cond (!x22.2.2.2.2.2.1)
 (chk (nnI p1)
 ((getI (l11.set (Int.toNat p1) (x21.1,(x21.2.1,(x21.2.2.1,(x21.2.2.2.1,(x21.2.2.2.2.1,(true,x21.2.2.2.2.2.2))))))) p1).bind fun x23=>
 chk (nnI p1)
 ((getI (l11.set (Int.toNat p1) (x21.1,(x21.2.1,(x21.2.2.1,(x21.2.2.2.1,(x21.2.2.2.2.1,(true,x21.2.2.2.2.2.2))))))) p1).bind fun x24=>
 some (.inr (((l11.set (Int.toNat p1) (x21.1,(x21.2.1,(x21.2.2.1,(x21.2.2.2.1,(x21.2.2.2.2.1,(true,x21.2.2.2.2.2.2))))))).set (Int.toNat p1) (x24.1,(x24.2.1,(x24.2.2.1,(x24.2.2.2.1,(x24.2.2.2.2.1,(x24.2.2.2.2.2.1,(x24.2.2.2.2.2.2.1,(x24.2.2.2.2.2.2.2.1,(x24.2.2.2.2.2.2.2.2.1,(x24.2.2.2.2.2.2.2.2.2.1,(x24.2.2.2.2.2.2.2.2.2.2.1,(x24.2.2.2.2.2.2.2.2.2.2.2.1,((IntKind.i64.wrap (x23.2.2.2.2.2.2.2.2.2.2.2.2.1+1)),x24.2.2.2.2.2.2.2.2.2.2.2.2.2)))))))))))))),l12,x19.2.2.2.2.2,l14,l15)))))
 (some (.inr ((l11.set (Int.toNat p1) (x21.1,(x21.2.1,(x21.2.2.1,(x21.2.2.2.1,(x21.2.2.2.2.1,(true,x21.2.2.2.2.2.2))))))),l12,x19.2.2.2.2.2,l14,l15))))))
 ((F_watch_Watch_right p1 x19.1 x19.2.1 x19.2.2.1 x19.2.2.2.1 l3 l11 l12 l14 l15).bind fun x25=>
 chk (nnI p1)
 ((getI x25.2.1 p1).bind fun x26=>
 chk (nnI p1)
 ((getI (x25.2.1.set (Int.toNat p1) (x26.1,(x26.2.1,(x26.2.2.1,(x26.2.2.2.1,(x26.2.2.2.2.1,((!x25.1),x26.2.2.2.2.2.2))))))) p1).bind fun x27=>
 cond (!x27.2.2.2.2.2.1)
 (chk (nnI p1)
 ((getI (x25.2.1.set (Int.toNat p1) (x26.1,(x26.2.1,(x26.2.2.1,(x26.2.2.2.1,(x26.2.2.2.2.1,((!x25.1),x26.2.2.2.2.2.2))))))) p1).bind fun x28=>
 chk (nnI p1)
 ((getI (x25.2.1.set (Int.toNat p1) (x26.1,(x26.2.1,(x26.2.2.1,(x26.2.2.2.1,(x26.2.2.2.2.1,((!x25.1),x26.2.2.2.2.2.2))))))) p1).bind fun x29=>
 some (.inr (((x25.2.1.set (Int.toNat p1) (x26.1,(x26.2.1,(x26.2.2.1,(x26.2.2.2.1,(x26.2.2.2.2.1,((!x25.1),x26.2.2.2.2.2.2))))))).set (Int.toNat p1) (x29.1,(x29.2.1,(x29.2.2.1,(x29.2.2.2.1,(x29.2.2.2.2.1,(x29.2.2.2.2.2.1,(x29.2.2.2.2.2.2.1,(x29.2.2.2.2.2.2.2.1,(x29.2.2.2.2.2.2.2.2.1,(x29.2.2.2.2.2.2.2.2.2.1,(x29.2.2.2.2.2.2.2.2.2.2.1,(x29.2.2.2.2.2.2.2.2.2.2.2.1,((IntKind.i64.wrap (x28.2.2.2.2.2.2.2.2.2.2.2.2.1+1)),x29.2.2.2.2.2.2.2.2.2.2.2.2.2)))))))))))))),x25.2.2.1,x19.2.2.2.2.2,x25.2.2.2.1,x25.2.2.2.2)))))
 (some (.inr ((x25.2.1.set (Int.toNat p1) (x26.1,(x26.2.1,(x26.2.2.1,(x26.2.2.2.1,(x26.2.2.2.2.1,((!x25.1),x26.2.2.2.2.2.2))))))),x25.2.2.1,x19.2.2.2.2.2,x25.2.2.2.1,x25.2.2.2.2)))))))))
 (Option.map Sum.inl
 (chk (nnI p1)
 ((getI l11 p1).bind fun x30=>
 cond x30.2.2.2.2.2.1
 (some (2,l11,l12,l13,l14,l15))
 (some (0,l11,l12,l13,l14,l15)))))))
 (Option.map Sum.inl
 (chk (nnI p1)
 ((getI l11 p1).bind fun x31=>
 cond x31.2.2.2.2.2.1
 (some (2,l11,l12,l13,l14,l15))
 (some (0,l11,l12,l13,l14,l15))))))
noncomputable def F_watch_Watch_Out (p1:Int) (l2:List Int) (l3:List (List (Int×Int))) (l4:List (Int×Int×Int×Bool×Bool×Bool×Int×Int×Int×List (List (Int×Int))×(Int×Int×Int×Int×Int×Int)×Int×Int×Bool)) (l5:List (Option Int×Bool×Bool×Bool×List Int)) (l6:List (Int×List Int)) (l7:List (Int×Bool)) (l8:List (List (List Int×List Int×Bool)×Int×Int)):Option (Int×List (Int×Int×Int×Bool×Bool×Bool×Int×Int×Int×List (List (Int×Int))×(Int×Int×Int×Int×Int×Int)×Int×Int×Bool)×List (Option Int×Bool×Bool×Bool×List Int)×List (Int×List Int)×List (Int×Bool)×List (List (List Int×List Int×Bool)×Int×Int)):=
 chk (nnI p1)
 ((getI l4 p1).bind fun x9=>
 (F_frame_Parser_Feed x9.2.2.1 l2 l6).bind fun l10=>
 loopC (S:=List (Int×Int×Int×Bool×Bool×Bool×Int×Int×Int×List (List (Int×Int))×(Int×Int×Int×Int×Int×Int)×Int×Int×Bool)×List (Option Int×Bool×Bool×Bool×List Int)×List (Int×List Int)×List (Int×Bool)×List (List (List Int×List Int×Bool)×Int×Int)) (R:=Int×List (Int×Int×Int×Bool×Bool×Bool×Int×Int×Int×List (List (Int×Int))×(Int×Int×Int×Int×Int×Int)×Int×Int×Bool)×List (Option Int×Bool×Bool×Bool×List Int)×List (Int×List Int)×List (Int×Bool)×List (List (List Int×List Int×Bool)×Int×Int)) (F_watch_Watch_Out_L3 p1 l3) (l4,l5,l10,l7,l8))
def F_watch_Watch_Out_sig:Sig:=⟨[.v false [.d (.ptr 59)],.v false [.d (.sl (.int .u8))]],[(false,[.d (.int .i64)])],[(1000103,(.sl (.pr (.int .i64) (.ptr 71))),false),(1000118,(.pr (.int .i64) (.pr (.ptr 73) (.pr (.ptr 73) (.pr .bool (.pr .bool (.pr .bool (.pr (.int .i64) (.pr (.mp 51) (.pr (.int .i64) (.pr (.os 63 (.sl (.pr (.int .i64) (.int .i64)))) (.pr (.pr (.int .i64) (.pr (.int .i64) (.pr (.int .i64) (.pr (.int .i64) (.pr (.int .i64) (.int .i64)))))) (.pr (.ptr 78) (.pr (.int .i64) .bool))))))))))))),true),(1000142,(.pr .wi (.pr .bool (.pr .bool (.pr .bool (.os 5 (.int .u8)))))),true),(1000146,(.pr (.int .i64) (.sl (.int .u8))),true),(1000156,(.pr (.ptr 91) .bool),true),(1000182,(.pr (.os 109 (.pr .str (.pr .str .bool))) (.pr (.int .i64) (.int .i64))),true)]⟩
def F_watch_Watch_Out_ann:List (Nat×Ann):=[(3,⟨4,[],[],([5,6]++List.range' 13 45),[1000103],[(1000118,(.pr (.int .i64) (.pr (.ptr 73) (.pr (.ptr 73) (.pr .bool (.pr .bool (.pr .bool (.pr (.int .i64) (.pr (.mp 51) (.pr (.int .i64) (.pr (.os 63 (.sl (.pr (.int .i64) (.int .i64)))) (.pr (.pr (.int .i64) (.pr (.int .i64) (.pr (.int .i64) (.pr (.int .i64) (.pr (.int .i64) (.int .i64)))))) (.pr (.ptr 78) (.pr (.int .i64) .bool))))))))))))),true),(1000142,(.pr .wi (.pr .bool (.pr .bool (.pr .bool (.os 5 (.int .u8)))))),true),(1000146,(.pr (.int .i64) (.sl (.int .u8))),true),(1000156,(.pr (.ptr 91) .bool),true),(1000182,(.pr (.os 109 (.pr .str (.pr .str .bool))) (.pr (.int .i64) (.int .i64))),true)],[]⟩)]
noncomputable def F_watch_Watch_Out_env:Env:=⟨Tryd.prog,[(24,⟨F_frame_Parser_Feed_sig,⟨F_frame_Parser_Feed⟩⟩),(25,⟨F_frame_Parser_Next_sig,⟨F_frame_Parser_Next⟩⟩),(28,⟨F_watch_Watch_right_sig,⟨F_watch_Watch_right⟩⟩)],[]⟩
theorem F_watch_Watch_Out_text:pvFn F_watch_Watch_Out_env F_watch_Watch_Out_ann Tryd.f12 F_watch_Watch_Out_sig=F_watch_Watch_Out:=by kernel_rfl
noncomputable def F_watch_Watch_Frames (p1:Int) (l2:List (Int×Int×Int×Bool×Bool×Bool×Int×Int×Int×List (List (Int×Int))×(Int×Int×Int×Int×Int×Int)×Int×Int×Bool)):Option (Int):=
 chk (nnI p1)
 ((getI l2 p1).bind fun x3=>
 some x3.2.2.2.2.2.2.2.2.2.2.2.2.1)
def F_watch_Watch_Frames_sig:Sig:=⟨[.v false [.d (.ptr 59)]],[(false,[.d (.int .i64)])],[(1000118,(.pr (.int .i64) (.pr (.ptr 73) (.pr (.ptr 73) (.pr .bool (.pr .bool (.pr .bool (.pr (.int .i64) (.pr (.mp 51) (.pr (.int .i64) (.pr (.os 63 (.sl (.pr (.int .i64) (.int .i64)))) (.pr (.pr (.int .i64) (.pr (.int .i64) (.pr (.int .i64) (.pr (.int .i64) (.pr (.int .i64) (.int .i64)))))) (.pr (.ptr 78) (.pr (.int .i64) .bool))))))))))))),false)]⟩
def F_watch_Watch_Frames_ann:List (Nat×Ann):=[]
noncomputable def F_watch_Watch_Frames_env:Env:=⟨Tryd.prog,[],[]⟩
theorem F_watch_Watch_Frames_text:pvFn F_watch_Watch_Frames_env F_watch_Watch_Frames_ann Tryd.f13 F_watch_Watch_Frames_sig=F_watch_Watch_Frames:=by kernel_rfl
noncomputable def F_wlvref10_Put (i1:Int) (i2:Int) (i3:Int) (l4:List Int):Option (List Int×Int):=
 cond (decide (i1 < 0))
 (some (([]:List Int),1))
 (cond (decide (i1 > 255))
 (some (([]:List Int),1))
 (cond (decide (i2 < 0))
 (some (([]:List Int),1))
 (cond (decide (i2 > 255))
 (some (([]:List Int),1))
 (cond (decide (i3 < 0))
 (some (([]:List Int),1))
 (cond (decide (i3 > 2147483647))
 (some (([]:List Int),1))
 (cond (decide ((l4.length:Int) >= 16777216))
 (some (([]:List Int),3))
 ((F_wlvref10_num (l4.length:Int) 3).bind fun l5=>
 chk (decide ((l5.length+([(IntKind.u8.wrap i1),(IntKind.u8.wrap i2)]:List Int).length)*1<=140737488355328)&&decide (l5.length+([(IntKind.u8.wrap i1),(IntKind.u8.wrap i2)]:List Int).length<=maxLen))
 ((F_wlvref10_num i3 4).bind fun l6=>
 chk (decide (((l5++([(IntKind.u8.wrap i1),(IntKind.u8.wrap i2)]:List Int)).length+l6.length)*1<=140737488355328)&&decide ((l5++([(IntKind.u8.wrap i1),(IntKind.u8.wrap i2)]:List Int)).length+l6.length<=maxLen))
 (chk (decide ((((l5++([(IntKind.u8.wrap i1),(IntKind.u8.wrap i2)]:List Int))++l6).length+l4.length)*1<=140737488355328)&&decide (((l5++([(IntKind.u8.wrap i1),(IntKind.u8.wrap i2)]:List Int))++l6).length+l4.length<=maxLen))
 (some ((((l5++([(IntKind.u8.wrap i1),(IntKind.u8.wrap i2)]:List Int))++l6)++l4),0)))))))))))
def F_wlvref10_Put_sig:Sig:=⟨[.v true [.d (.int .i64),.d (.int .i64),.d (.int .i64),.d (.sl (.int .u8))]],[(false,[.own 5 (.int .u8)]),(false,[.d (.int .i64)])],[]⟩
def F_wlvref10_Put_ann:List (Nat×Ann):=[]
noncomputable def F_wlvref10_Put_env:Env:=⟨Tryd.prog,[(27,⟨F_wlvref10_num_sig,⟨F_wlvref10_num⟩⟩)],[]⟩
theorem F_wlvref10_Put_text:pvFn F_wlvref10_Put_env F_wlvref10_Put_ann Tryd.f20 F_wlvref10_Put_sig=F_wlvref10_Put:=by kernel_rfl
noncomputable def F_wlvlaw27_first (l1:List (List (Int×Int))) (l2:List (Int×Int×Int×Bool×Bool×Bool×Int×Int×Int×List (List (Int×Int))×(Int×Int×Int×Int×Int×Int)×Int×Int×Bool)) (l3:List (Option Int×Bool×Bool×Bool×List Int)) (l4:List (Int×List Int)) (l5:List (Int×Bool)) (l6:List (List (List Int×List Int×Bool)×Int×Int)):Option (Bool×List (List (Int×Int))×List (Int×Int×Int×Bool×Bool×Bool×Int×Int×Int×List (List (Int×Int))×(Int×Int×Int×Int×Int×Int)×Int×Int×Bool)×List (Option Int×Bool×Bool×Bool×List Int)×List (Int×List Int)×List (Int×Bool)×List (List (List Int×List Int×Bool)×Int×Int)):=
 (F_watch_New l1 l2 l4 l5 l6).bind fun x7=>
 cond (eqI x7.1 (-1))
 (some (false,x7.2.1,x7.2.2.1,l3,x7.2.2.2.1,x7.2.2.2.2.1,x7.2.2.2.2.2))
 ((F_watch_Watch_Out x7.1 ([]:List Int) x7.2.1 x7.2.2.1 l3 x7.2.2.2.1 x7.2.2.2.2.1 x7.2.2.2.2.2).bind fun x8=>
 cond (x8.1 != 0)
 (some (false,x7.2.1,x8.2.1,x8.2.2.1,x8.2.2.2.1,x8.2.2.2.2.1,x8.2.2.2.2.2))
 ((F_watch_Watch_Frames x7.1 x8.2.1).bind fun i9=>
 cond (i9 != 0)
 (some (false,x7.2.1,x8.2.1,x8.2.2.1,x8.2.2.2.1,x8.2.2.2.2.1,x8.2.2.2.2.2))
 ((F_wlvref10_Settings ([]:List (Int×Int)) false).bind fun x10=>
 (F_wlvref10_Put x10.1 x10.2.1 x10.2.2.1 x10.2.2.2).bind fun x11=>
 (F_wlvref10_Put 5 0 1 ([]:List Int)).bind fun x12=>
 (F_watch_Watch_Out x7.1 x11.1 x7.2.1 x8.2.1 x8.2.2.1 x8.2.2.2.1 x8.2.2.2.2.1 x8.2.2.2.2.2).bind fun x13=>
 cond (x13.1==0)
 ((F_watch_Watch_Frames x7.1 x13.2.1).bind fun i14=>
 cond (i14==1)
 ((F_watch_Watch_Out x7.1 x12.1 x7.2.1 x13.2.1 x13.2.2.1 x13.2.2.2.1 x13.2.2.2.2.1 x13.2.2.2.2.2).bind fun x15=>
 cond (x15.1==2)
 ((F_watch_Watch_Out x7.1 x11.1 x7.2.1 x15.2.1 x15.2.2.1 x15.2.2.2.1 x15.2.2.2.2.1 x15.2.2.2.2.2).bind fun x16=>
 some ((x16.1==2),x7.2.1,x16.2.1,x16.2.2.1,x16.2.2.2.1,x16.2.2.2.2.1,x16.2.2.2.2.2))
 (some (false,x7.2.1,x15.2.1,x15.2.2.1,x15.2.2.2.1,x15.2.2.2.2.1,x15.2.2.2.2.2)))
 (some (false,x7.2.1,x13.2.1,x13.2.2.1,x13.2.2.2.1,x13.2.2.2.2.1,x13.2.2.2.2.2)))
 (some (false,x7.2.1,x13.2.1,x13.2.2.1,x13.2.2.2.1,x13.2.2.2.2.1,x13.2.2.2.2.2)))))
def F_wlvlaw27_first_sig:Sig:=⟨[],[(false,[.d .bool])],[(1000103,(.sl (.pr (.int .i64) (.ptr 71))),true),(1000118,(.pr (.int .i64) (.pr (.ptr 73) (.pr (.ptr 73) (.pr .bool (.pr .bool (.pr .bool (.pr (.int .i64) (.pr (.mp 51) (.pr (.int .i64) (.pr (.os 63 (.sl (.pr (.int .i64) (.int .i64)))) (.pr (.pr (.int .i64) (.pr (.int .i64) (.pr (.int .i64) (.pr (.int .i64) (.pr (.int .i64) (.int .i64)))))) (.pr (.ptr 78) (.pr (.int .i64) .bool))))))))))))),true),(1000142,(.pr .wi (.pr .bool (.pr .bool (.pr .bool (.os 5 (.int .u8)))))),true),(1000146,(.pr (.int .i64) (.sl (.int .u8))),true),(1000156,(.pr (.ptr 91) .bool),true),(1000182,(.pr (.os 109 (.pr .str (.pr .str .bool))) (.pr (.int .i64) (.int .i64))),true)]⟩
def F_wlvlaw27_first_ann:List (Nat×Ann):=[]
noncomputable def F_wlvlaw27_first_env:Env:=⟨Tryd.prog,[(8,⟨F_watch_New_sig,⟨F_watch_New⟩⟩),(11,⟨F_wlvref10_Settings_sig,⟨F_wlvref10_Settings⟩⟩),(12,⟨F_watch_Watch_Out_sig,⟨F_watch_Watch_Out⟩⟩),(13,⟨F_watch_Watch_Frames_sig,⟨F_watch_Watch_Frames⟩⟩),(20,⟨F_wlvref10_Put_sig,⟨F_wlvref10_Put⟩⟩)],[]⟩
theorem F_wlvlaw27_first_text:pvFn F_wlvlaw27_first_env F_wlvlaw27_first_ann Tryd.f7 F_wlvlaw27_first_sig=F_wlvlaw27_first:=by kernel_rfl
noncomputable def F_watch_Watch_granted (p1:Int) (i2:Int) (i3:Int) (l4:List (List (Int×Int))) (l5:List (Int×Int×Int×Bool×Bool×Bool×Int×Int×Int×List (List (Int×Int))×(Int×Int×Int×Int×Int×Int)×Int×Int×Bool)) (l6:List (Option Int×Bool×Bool×Bool×List Int)):Option (List (Int×Int×Int×Bool×Bool×Bool×Int×Int×Int×List (List (Int×Int))×(Int×Int×Int×Int×Int×Int)×Int×Int×Bool)×List (Option Int×Bool×Bool×Bool×List Int)):=
 cond (i2==0)
 (chk (nnI p1)
 ((getI l5 p1).bind fun x7=>
 (F_flow_Windows 0 x7.2.2.2.2.2.2.2.2.1).bind fun z8=>
 (F_flow_Grant z8 0 i3).bind fun x9=>
 (F_flow_Conn x9.1).bind fun i10=>
 chk (nnI p1)
 ((getI l5 p1).bind fun x11=>
 chk (nnI p1)
 ((getI (l5.set (Int.toNat p1) (x11.1,(x11.2.1,(x11.2.2.1,(x11.2.2.2.1,(x11.2.2.2.2.1,(x11.2.2.2.2.2.1,(x11.2.2.2.2.2.2.1,(x11.2.2.2.2.2.2.2.1,(i10,x11.2.2.2.2.2.2.2.2.2)))))))))) p1).bind fun x12=>
 some (((l5.set (Int.toNat p1) (x11.1,(x11.2.1,(x11.2.2.1,(x11.2.2.2.1,(x11.2.2.2.2.1,(x11.2.2.2.2.2.1,(x11.2.2.2.2.2.2.1,(x11.2.2.2.2.2.2.2.1,(i10,x11.2.2.2.2.2.2.2.2.2)))))))))).set (Int.toNat p1) (x12.1,(x12.2.1,(x12.2.2.1,(x12.2.2.2.1,(x9.2.1,x12.2.2.2.2.2)))))),l6)))))
 (chk (nnI p1)
 ((getI l5 p1).bind fun x13=>
 (getI l4 x13.2.2.2.2.2.2.2.1).bind fun m14=>
 cond (!(eqI (getZ (mapGet m14 i2) (-1:Int)) (-1)))
 (chk (nnI (getZ (mapGet m14 i2) (-1:Int)))
 ((getI l6 (getZ (mapGet m14 i2) (-1:Int))).bind fun x15=>
 (x15.1).bind fun i17=>
 (F_flow_Windows i17 0).bind fun z18=>
 (F_flow_Grant z18 i3 0).bind fun x19=>
 (F_flow_Stream x19.1).bind fun i20=>
 chk (nnI (getZ (mapGet m14 i2) (-1:Int)))
 ((getI l6 (getZ (mapGet m14 i2) (-1:Int))).bind fun x21=>
 chk (nnI p1)
 ((getI l5 p1).bind fun x22=>
 some ((l5.set (Int.toNat p1) (x22.1,(x22.2.1,(x22.2.2.1,(x22.2.2.2.1,(x19.2.1,x22.2.2.2.2.2)))))),(l6.set (Int.toNat (getZ (mapGet m14 i2) (-1:Int))) ((some i20),x21.2)))))))
 (some (l5,l6))))
def F_watch_Watch_granted_sig:Sig:=⟨[.v false [.d (.ptr 59)],.v false [.d (.int .i64)],.v false [.d (.int .i64)]],[],[(1000103,(.sl (.pr (.int .i64) (.ptr 71))),false),(1000118,(.pr (.int .i64) (.pr (.ptr 73) (.pr (.ptr 73) (.pr .bool (.pr .bool (.pr .bool (.pr (.int .i64) (.pr (.mp 51) (.pr (.int .i64) (.pr (.os 63 (.sl (.pr (.int .i64) (.int .i64)))) (.pr (.pr (.int .i64) (.pr (.int .i64) (.pr (.int .i64) (.pr (.int .i64) (.pr (.int .i64) (.int .i64)))))) (.pr (.ptr 78) (.pr (.int .i64) .bool))))))))))))),true),(1000142,(.pr .wi (.pr .bool (.pr .bool (.pr .bool (.os 5 (.int .u8)))))),true)]⟩
def F_watch_Watch_granted_ann:List (Nat×Ann):=[]
noncomputable def F_watch_Watch_granted_env:Env:=⟨Tryd.prog,[(46,⟨F_flow_Grant_sig,⟨F_flow_Grant⟩⟩),(47,⟨F_flow_Windows_sig,⟨F_flow_Windows⟩⟩),(48,⟨F_flow_Conn_sig,⟨F_flow_Conn⟩⟩),(49,⟨F_flow_Stream_sig,⟨F_flow_Stream⟩⟩)],[]⟩
theorem F_watch_Watch_granted_text:pvFn F_watch_Watch_granted_env F_watch_Watch_granted_ann Tryd.f33 F_watch_Watch_granted_sig=F_watch_Watch_granted:=by kernel_rfl
noncomputable def F_watch_Watch_hears (p1:Int) (i2:Int) (i3:Int) (i4:Int) (l5:List Int) (l6:List (List (Int×Int))) (l7:List (Int×Int×Int×Bool×Bool×Bool×Int×Int×Int×List (List (Int×Int))×(Int×Int×Int×Int×Int×Int)×Int×Int×Bool)) (l8:List (Option Int×Bool×Bool×Bool×List Int)):Option (List (List (Int×Int))×List (Int×Int×Int×Bool×Bool×Bool×Int×Int×Int×List (List (Int×Int))×(Int×Int×Int×Int×Int×Int)×Int×Int×Bool)×List (Option Int×Bool×Bool×Bool×List Int)):=
 (F_part_Read i2 i3 i4 l5).bind fun x9=>
 cond (i2==1)
 (cond ((Int.tmod i4 2)==1)
 (chk (nnI p1)
 ((getI l7 p1).bind fun x10=>
 cond (decide (i4 > x10.2.2.2.2.2.2.1))
 (chk (nnI p1)
 ((getI l7 p1).bind fun x11=>
 chk (nnI p1)
 ((getI (l7.set (Int.toNat p1) (x11.1,(x11.2.1,(x11.2.2.1,(x11.2.2.2.1,(x11.2.2.2.2.1,(x11.2.2.2.2.2.1,(i4,x11.2.2.2.2.2.2.2)))))))) p1).bind fun x12=>
 chk (nnI p1)
 ((getI (l7.set (Int.toNat p1) (x11.1,(x11.2.1,(x11.2.2.1,(x11.2.2.2.1,(x11.2.2.2.2.1,(x11.2.2.2.2.2.1,(i4,x11.2.2.2.2.2.2.2)))))))) p1).bind fun x13=>
 (getI l6 x12.2.2.2.2.2.2.2.1).bind fun m14=>
 some ((l6.set (Int.toNat x12.2.2.2.2.2.2.2.1) (mapSet m14 i4 (l8.length:Int))),(l7.set (Int.toNat p1) (x11.1,(x11.2.1,(x11.2.2.1,(x11.2.2.2.1,(x11.2.2.2.2.1,(x11.2.2.2.2.2.1,(i4,x11.2.2.2.2.2.2.2)))))))),(l8++[((some x13.2.2.2.2.2.2.2.2.2.2.1.2.2.2.1),(false,(false,(false,([]:List Int)))))]))))))
 (some (l6,l7,l8))))
 (some (l6,l7,l8)))
 (cond (i2==4)
 (cond (!x9.2.2.2.2.2.2.2.2.2.1)
 (cond (!x9.2.2.2.2.2.2.2.1)
 (chk (nnI p1)
 ((getI l7 p1).bind fun x15=>
 chk (decide ((x15.2.2.2.2.2.2.2.2.2.1.length+([x9.2.2.2.2.2.1]:List (List (Int×Int))).length)*24<=140737488355328)&&decide (x15.2.2.2.2.2.2.2.2.2.1.length+([x9.2.2.2.2.2.1]:List (List (Int×Int))).length<=maxLen))
 (chk (nnI p1)
 ((getI l7 p1).bind fun x16=>
 chk (eqI p1 p1)
 (some (l6,(l7.set (Int.toNat p1) (x16.1,(x16.2.1,(x16.2.2.1,(x16.2.2.2.1,(x16.2.2.2.2.1,(x16.2.2.2.2.2.1,(x16.2.2.2.2.2.2.1,(x16.2.2.2.2.2.2.2.1,(x16.2.2.2.2.2.2.2.2.1,((x15.2.2.2.2.2.2.2.2.2.1++([x9.2.2.2.2.2.1]:List (List (Int×Int)))),x16.2.2.2.2.2.2.2.2.2.2))))))))))),l8))))))
 (some (l6,l7,l8)))
 (some (l6,l7,l8)))
 (cond (i2==8)
 (cond (!x9.2.2.2.2.2.2.2.2.2.1)
 ((F_watch_Watch_granted p1 i4 x9.2.2.2.2.1 l6 l7 l8).bind fun x17=>
 some (l6,x17.1,x17.2))
 (some (l6,l7,l8)))
 (some (l6,l7,l8))))
def F_watch_Watch_hears_sig:Sig:=⟨[.v false [.d (.ptr 59)],.v true [.d (.int .i64),.d (.int .i64),.d (.int .i64),.d (.sl (.int .u8))]],[],[(1000103,(.sl (.pr (.int .i64) (.ptr 71))),true),(1000118,(.pr (.int .i64) (.pr (.ptr 73) (.pr (.ptr 73) (.pr .bool (.pr .bool (.pr .bool (.pr (.int .i64) (.pr (.mp 51) (.pr (.int .i64) (.pr (.os 63 (.sl (.pr (.int .i64) (.int .i64)))) (.pr (.pr (.int .i64) (.pr (.int .i64) (.pr (.int .i64) (.pr (.int .i64) (.pr (.int .i64) (.int .i64)))))) (.pr (.ptr 78) (.pr (.int .i64) .bool))))))))))))),true),(1000142,(.pr .wi (.pr .bool (.pr .bool (.pr .bool (.os 5 (.int .u8)))))),true)]⟩
def F_watch_Watch_hears_ann:List (Nat×Ann):=[]
noncomputable def F_watch_Watch_hears_env:Env:=⟨Tryd.prog,[(32,⟨F_part_Read_sig,⟨F_part_Read⟩⟩),(33,⟨F_watch_Watch_granted_sig,⟨F_watch_Watch_granted⟩⟩)],[60]⟩
theorem F_watch_Watch_hears_text:pvFn F_watch_Watch_hears_env F_watch_Watch_hears_ann Tryd.f26 F_watch_Watch_hears_sig=F_watch_Watch_hears:=by kernel_rfl
noncomputable def F_watch_Watch_In_L3 (p1:Int) (s:List (List (Int×Int))×List (Int×Int×Int×Bool×Bool×Bool×Int×Int×Int×List (List (Int×Int))×(Int×Int×Int×Int×Int×Int)×Int×Int×Bool)×List (Option Int×Bool×Bool×Bool×List Int)×List (Int×List Int)):Option ((List (List (Int×Int))×List (Int×Int×Int×Bool×Bool×Bool×Int×Int×Int×List (List (Int×Int))×(Int×Int×Int×Int×Int×Int)×Int×Int×Bool)×List (Option Int×Bool×Bool×Bool×List Int)×List (Int×List Int))⊕(List (List (Int×Int))×List (Int×Int×Int×Bool×Bool×Bool×Int×Int×Int×List (List (Int×Int))×(Int×Int×Int×Int×Int×Int)×Int×Int×Bool)×List (Option Int×Bool×Bool×Bool×List Int)×List (Int×List Int))):=
 let l13:=s.1;let l14:=s.2.1;let l15:=s.2.2.1;let l16:=s.2.2.2
 chk (nnI p1)
 ((getI l14 p1).bind fun x17=>
 cond (!x17.2.2.2.1)
 (chk (nnI p1)
 ((getI l14 p1).bind fun x18=>
 cond (!x18.2.2.2.2.1)
 (chk (nnI p1)
 ((getI l14 p1).bind fun x19=>
 (F_frame_Parser_Next x19.2.1 l16).bind fun x20=>
 cond (x20.2.2.2.2.1==4)
 (some (.inl (l13,l14,l15,x20.2.2.2.2.2)))
 (chk (nnI p1)
 ((getI l14 p1).bind fun x21=>
 chk (nnI p1)
 ((getI (l14.set (Int.toNat p1) (x21.1,(x21.2.1,(x21.2.2.1,((x20.2.2.2.2.1 != 0),x21.2.2.2.2))))) p1).bind fun x22=>
 cond (!x22.2.2.2.1)
 ((F_watch_Watch_hears p1 x20.1 x20.2.1 x20.2.2.1 x20.2.2.2.1 l13 (l14.set (Int.toNat p1) (x21.1,(x21.2.1,(x21.2.2.1,((x20.2.2.2.2.1 != 0),x21.2.2.2.2))))) l15).bind fun x23=>
 some (.inr (x23.1,x23.2.1,x23.2.2,x20.2.2.2.2.2)))
 (some (.inr (l13,(l14.set (Int.toNat p1) (x21.1,(x21.2.1,(x21.2.2.1,((x20.2.2.2.2.1 != 0),x21.2.2.2.2))))),l15,x20.2.2.2.2.2))))))))
 (some (.inl (l13,l14,l15,l16)))))
 (some (.inl (l13,l14,l15,l16))))
noncomputable def F_watch_Watch_In (p1:Int) (l2:List Int) (l3:List (List (Int×Int))) (l4:List (Int×Int×Int×Bool×Bool×Bool×Int×Int×Int×List (List (Int×Int))×(Int×Int×Int×Int×Int×Int)×Int×Int×Bool)) (l5:List (Option Int×Bool×Bool×Bool×List Int)) (l6:List (Int×List Int)):Option (List (List (Int×Int))×List (Int×Int×Int×Bool×Bool×Bool×Int×Int×Int×List (List (Int×Int))×(Int×Int×Int×Int×Int×Int)×Int×Int×Bool)×List (Option Int×Bool×Bool×Bool×List Int)×List (Int×List Int)):=
 chk (nnI p1)
 ((getI l4 p1).bind fun x7=>
 chk (nnI p1)
 ((getI l4 p1).bind fun x8=>
 chk (nnI p1)
 ((getI l4 p1).bind fun x9=>
 chk (nnI p1)
 ((getI (l4.set (Int.toNat p1) ((IntKind.i64.wrap (x8.1+(minI (IntKind.i64.wrap (24 - x7.1)) (l2.length:Int)))),x9.2)) p1).bind fun x10=>
 (cutI l2 (minI (IntKind.i64.wrap (24 - x7.1)) (l2.length:Int)) (l2.length:Int)).bind fun l11=>
 (F_frame_Parser_Feed x10.2.1 l11 l6).bind fun l12=>
 loopC (S:=List (List (Int×Int))×List (Int×Int×Int×Bool×Bool×Bool×Int×Int×Int×List (List (Int×Int))×(Int×Int×Int×Int×Int×Int)×Int×Int×Bool)×List (Option Int×Bool×Bool×Bool×List Int)×List (Int×List Int)) (R:=List (List (Int×Int))×List (Int×Int×Int×Bool×Bool×Bool×Int×Int×Int×List (List (Int×Int))×(Int×Int×Int×Int×Int×Int)×Int×Int×Bool)×List (Option Int×Bool×Bool×Bool×List Int)×List (Int×List Int)) (F_watch_Watch_In_L3 p1) (l3,(l4.set (Int.toNat p1) ((IntKind.i64.wrap (x8.1+(minI (IntKind.i64.wrap (24 - x7.1)) (l2.length:Int)))),x9.2)),l5,l12)))))
def F_watch_Watch_In_sig:Sig:=⟨[.v false [.d (.ptr 59)],.v false [.d (.sl (.int .u8))]],[],[(1000103,(.sl (.pr (.int .i64) (.ptr 71))),true),(1000118,(.pr (.int .i64) (.pr (.ptr 73) (.pr (.ptr 73) (.pr .bool (.pr .bool (.pr .bool (.pr (.int .i64) (.pr (.mp 51) (.pr (.int .i64) (.pr (.os 63 (.sl (.pr (.int .i64) (.int .i64)))) (.pr (.pr (.int .i64) (.pr (.int .i64) (.pr (.int .i64) (.pr (.int .i64) (.pr (.int .i64) (.int .i64)))))) (.pr (.ptr 78) (.pr (.int .i64) .bool))))))))))))),true),(1000142,(.pr .wi (.pr .bool (.pr .bool (.pr .bool (.os 5 (.int .u8)))))),true),(1000146,(.pr (.int .i64) (.sl (.int .u8))),true)]⟩
def F_watch_Watch_In_ann:List (Nat×Ann):=[(3,⟨4,[],[],([5,6]++List.range' 31 35),[],[(1000103,(.sl (.pr (.int .i64) (.ptr 71))),true),(1000118,(.pr (.int .i64) (.pr (.ptr 73) (.pr (.ptr 73) (.pr .bool (.pr .bool (.pr .bool (.pr (.int .i64) (.pr (.mp 51) (.pr (.int .i64) (.pr (.os 63 (.sl (.pr (.int .i64) (.int .i64)))) (.pr (.pr (.int .i64) (.pr (.int .i64) (.pr (.int .i64) (.pr (.int .i64) (.pr (.int .i64) (.int .i64)))))) (.pr (.ptr 78) (.pr (.int .i64) .bool))))))))))))),true),(1000142,(.pr .wi (.pr .bool (.pr .bool (.pr .bool (.os 5 (.int .u8)))))),true),(1000146,(.pr (.int .i64) (.sl (.int .u8))),true)],[]⟩)]
noncomputable def F_watch_Watch_In_env:Env:=⟨Tryd.prog,[(24,⟨F_frame_Parser_Feed_sig,⟨F_frame_Parser_Feed⟩⟩),(25,⟨F_frame_Parser_Next_sig,⟨F_frame_Parser_Next⟩⟩),(26,⟨F_watch_Watch_hears_sig,⟨F_watch_Watch_hears⟩⟩)],[]⟩
theorem F_watch_Watch_In_text:pvFn F_watch_Watch_In_env F_watch_Watch_In_ann Tryd.f9 F_watch_Watch_In_sig=F_watch_Watch_In:=by kernel_rfl
noncomputable def F_wlvlaw27_frames_L4 (l1:List (Int×Int×Int×List Int)) (s:List Int×Int):Option (((List Int)⊕(List Int))⊕(List Int×Int)):=
 let l2:=s.1;let i3:=s.2
 cond (decide (i3 < (l1.length:Int)))
 ((getI l1 i3).bind fun x4=>
 (F_wlvref10_Put x4.1 x4.2.1 x4.2.2.1 x4.2.2.2).bind fun x5=>
 chk (decide ((l2.length+x5.1.length)*1<=140737488355328)&&decide (l2.length+x5.1.length<=maxLen))
 (some (.inr ((l2++x5.1),(IntKind.i64.wrap (i3+1))))))
 (some (.inl (.inr l2)))
noncomputable def F_wlvlaw27_frames_J2 (s:List Int):Option (List Int):=
 let l6:=s
 some l6
noncomputable def F_wlvlaw27_frames (l1:List (Int×Int×Int×List Int)):Option (List Int):=
 joinC (S:=List Int) (R:=List Int)
 (loopC (S:=List Int×Int) (R:=(List Int)⊕(List Int)) (F_wlvlaw27_frames_L4 l1) (([]:List Int),0))
 (F_wlvlaw27_frames_J2)
def F_wlvlaw27_frames_sig:Sig:=⟨[.v false [.d (.sl (.pr (.int .i64) (.pr (.int .i64) (.pr (.int .i64) (.sl (.int .u8))))))]],[(false,[.own 5 (.int .u8)])],[]⟩
def F_wlvlaw27_frames_ann:List (Nat×Ann):=[(2,⟨3,[(3,false,[.own 5 (.int .u8)])],[],(List.range' 4 20),[],[],[]⟩),(4,⟨5,[(3,false,[.own 5 (.int .u8)]),(4,false,[.d (.int .i64)])],[],(List.range' 5 19),[],[],[]⟩)]
noncomputable def F_wlvlaw27_frames_env:Env:=⟨Tryd.prog,[(20,⟨F_wlvref10_Put_sig,⟨F_wlvref10_Put⟩⟩)],[]⟩
theorem F_wlvlaw27_frames_text:pvFn F_wlvlaw27_frames_env F_wlvlaw27_frames_ann Tryd.f10 F_wlvlaw27_frames_sig=F_wlvlaw27_frames:=by kernel_rfl
noncomputable def F_wlvref10_Goaway (i1:Int) (i2:Int):Option (Int×Int×Int×List Int):=
 (F_wlvref10_num (bits .and .i64 i1 2147483647) 4).bind fun l3=>
 (F_wlvref10_num i2 4).bind fun l4=>
 chk (decide ((l3.length+l4.length)*1<=140737488355328)&&decide (l3.length+l4.length<=maxLen))
 (some (7,0,0,(l3++l4)))
def F_wlvref10_Goaway_sig:Sig:=⟨[.v false [.d (.int .i64)],.v false [.d (.int .i64)]],[(true,[.d (.int .i64),.d (.int .i64),.d (.int .i64),.own 5 (.int .u8)])],[]⟩
def F_wlvref10_Goaway_ann:List (Nat×Ann):=[]
noncomputable def F_wlvref10_Goaway_env:Env:=⟨Tryd.prog,[(27,⟨F_wlvref10_num_sig,⟨F_wlvref10_num⟩⟩)],[]⟩
theorem F_wlvref10_Goaway_text:pvFn F_wlvref10_Goaway_env F_wlvref10_Goaway_ann Tryd.f14 F_wlvref10_Goaway_sig=F_wlvref10_Goaway:=by kernel_rfl
noncomputable def F_wlvref10_Rst (i1:Int) (i2:Int):Option (Int×Int×Int×List Int):=
 (F_wlvref10_num i2 4).bind fun l3=>
 some (3,0,i1,l3)
def F_wlvref10_Rst_sig:Sig:=⟨[.v false [.d (.int .i64)],.v false [.d (.int .i64)]],[(true,[.d (.int .i64),.d (.int .i64),.d (.int .i64),.own 5 (.int .u8)])],[]⟩
def F_wlvref10_Rst_ann:List (Nat×Ann):=[]
noncomputable def F_wlvref10_Rst_env:Env:=⟨Tryd.prog,[(27,⟨F_wlvref10_num_sig,⟨F_wlvref10_num⟩⟩)],[]⟩
theorem F_wlvref10_Rst_text:pvFn F_wlvref10_Rst_env F_wlvref10_Rst_ann Tryd.f15 F_wlvref10_Rst_sig=F_wlvref10_Rst:=by kernel_rfl
noncomputable def F_wlvref10_Update (i1:Int) (i2:Int):Option (Int×Int×Int×List Int):=
 (F_wlvref10_num (bits .and .i64 i2 2147483647) 4).bind fun l3=>
 some (8,0,i1,l3)
def F_wlvref10_Update_sig:Sig:=⟨[.v false [.d (.int .i64)],.v false [.d (.int .i64)]],[(true,[.d (.int .i64),.d (.int .i64),.d (.int .i64),.own 5 (.int .u8)])],[]⟩
def F_wlvref10_Update_ann:List (Nat×Ann):=[]
noncomputable def F_wlvref10_Update_env:Env:=⟨Tryd.prog,[(27,⟨F_wlvref10_num_sig,⟨F_wlvref10_num⟩⟩)],[]⟩
theorem F_wlvref10_Update_text:pvFn F_wlvref10_Update_env F_wlvref10_Update_ann Tryd.f16 F_wlvref10_Update_sig=F_wlvref10_Update:=by kernel_rfl
noncomputable def F_wlvlaw27_WatchFinds (i1:Int) (l2:List (List (Int×Int))) (l3:List (Int×Int×Int×Bool×Bool×Bool×Int×Int×Int×List (List (Int×Int))×(Int×Int×Int×Int×Int×Int)×Int×Int×Bool)) (l4:List (Option Int×Bool×Bool×Bool×List Int)) (l5:List (Int×List Int)) (l6:List (Int×Bool)) (l7:List (List (List Int×List Int×Bool)×Int×Int)):Option (Bool×List (List (Int×Int))×List (Int×Int×Int×Bool×Bool×Bool×Int×Int×Int×List (List (Int×Int))×(Int×Int×Int×Int×Int×Int)×Int×Int×Bool)×List (Option Int×Bool×Bool×Bool×List Int)×List (Int×List Int)×List (Int×Bool)×List (List (List Int×List Int×Bool)×Int×Int)):=
 (F_wlvlaw27_first l2 l3 l4 l5 l6 l7).bind fun x8=>
 cond (!x8.1)
 (some (false,x8.2.1,x8.2.2.1,x8.2.2.2.1,x8.2.2.2.2.1,x8.2.2.2.2.2.1,x8.2.2.2.2.2.2))
 ((F_watch_New x8.2.1 x8.2.2.1 x8.2.2.2.2.1 x8.2.2.2.2.2.1 x8.2.2.2.2.2.2).bind fun x9=>
 cond (((eqI x9.1 (-1))||(decide (i1 < 0)))||(decide (i1 > 7)))
 (cond (!(eqI x9.1 (-1)))
 ((F_wlvlaw27_first x9.2.1 x9.2.2.1 x8.2.2.2.1 x9.2.2.2.1 x9.2.2.2.2.1 x9.2.2.2.2.2).bind fun x10=>
 some (x10.1,x10.2.1,x10.2.2.1,x10.2.2.2.1,x10.2.2.2.2.1,x10.2.2.2.2.2.1,x10.2.2.2.2.2.2))
 (some (false,x9.2.1,x9.2.2.1,x8.2.2.2.1,x9.2.2.2.1,x9.2.2.2.2.1,x9.2.2.2.2.2)))
 ((F_wlvref10_Settings ([]:List (Int×Int)) false).bind fun x11=>
 (F_wlvlaw27_frames ([(x11.1,x11.2.1,x11.2.2.1,x11.2.2.2),(1,4,1,([130]:List Int))]:List (Int×Int×Int×List Int))).bind fun l12=>
 chk ((Nat.ble (List.length ([80,82,73,32,42,32,72,84,84,80,47,50,46,48,13,10,13,10,83,77,13,10,13,10]:List Int)) (List.length ([80,82,73,32,42,32,72,84,84,80,47,50,46,48,13,10,13,10,83,77,13,10,13,10]:List Int))&&true))
 (chk (Nat.blt 0 l12.length&&decide (((List.take (List.length ([80,82,73,32,42,32,72,84,84,80,47,50,46,48,13,10,13,10,83,77,13,10,13,10]:List Int)) ([80,82,73,32,42,32,72,84,84,80,47,50,46,48,13,10,13,10,83,77,13,10,13,10]:List Int)).length+l12.length)*1<=140737488355328)&&decide ((List.take (List.length ([80,82,73,32,42,32,72,84,84,80,47,50,46,48,13,10,13,10,83,77,13,10,13,10]:List Int)) ([80,82,73,32,42,32,72,84,84,80,47,50,46,48,13,10,13,10,83,77,13,10,13,10]:List Int)).length+l12.length<=maxLen))
 ((F_watch_Watch_In x9.1 ((List.take (List.length ([80,82,73,32,42,32,72,84,84,80,47,50,46,48,13,10,13,10,83,77,13,10,13,10]:List Int)) ([80,82,73,32,42,32,72,84,84,80,47,50,46,48,13,10,13,10,83,77,13,10,13,10]:List Int))++l12) x9.2.1 x9.2.2.1 x8.2.2.2.1 x9.2.2.2.1).bind fun x13=>
 (F_wlvref10_Settings ([]:List (Int×Int)) false).bind fun x14=>
 (F_wlvref10_Settings ([]:List (Int×Int)) true).bind fun x15=>
 (F_wlvlaw27_frames ([(x14.1,x14.2.1,x14.2.2.1,x14.2.2.2),(x15.1,x15.2.1,x15.2.2.1,x15.2.2.2)]:List (Int×Int×Int×List Int))).bind fun l16=>
 (F_watch_Watch_Out x9.1 l16 x13.1 x13.2.1 x13.2.2.1 x13.2.2.2 x9.2.2.2.2.1 x9.2.2.2.2.2).bind fun x17=>
 cond (x17.1 != 0)
 (some (false,x13.1,x17.2.1,x17.2.2.1,x17.2.2.2.1,x17.2.2.2.2.1,x17.2.2.2.2.2))
 ((F_watch_Watch_Frames x9.1 x17.2.1).bind fun i18=>
 cond (i18 != 2)
 (some (false,x13.1,x17.2.1,x17.2.2.1,x17.2.2.2.1,x17.2.2.2.2.1,x17.2.2.2.2.2))
 (chk (decide (0<=(16384:Int))&&decide ((16384:Int)<=(16384:Int))&&decide ((16384:Int)*1<=140737488355328)&&decide ((16384:Int)<=maxLen))
 ((F_wlvref10_Goaway 1 1).bind fun x19=>
 (F_wlvref10_Settings ([]:List (Int×Int)) true).bind fun x20=>
 (F_wlvref10_Rst 1 8).bind fun x21=>
 (F_wlvref10_Update 1 5).bind fun x22=>
 (getI ([([(1,4,3,([136]:List Int))]:List (Int×Int×Int×List Int)),([(0,1,1,([1]:List Int))]:List (Int×Int×Int×List Int)),([(1,4,1,([136]:List Int)),(0,0,1,(List.replicate ((16384:Int)).toNat (0:Int))),(0,0,1,(List.replicate ((16384:Int)).toNat (0:Int))),(0,0,1,(List.replicate ((16384:Int)).toNat (0:Int))),(0,0,1,(List.replicate ((16384:Int)).toNat (0:Int)))]:List (Int×Int×Int×List Int)),([(1,4,1,([136]:List Int)),(0,1,1,([1]:List Int)),(0,1,1,([1]:List Int))]:List (Int×Int×Int×List Int)),([(x19.1,x19.2.1,x19.2.2.1,x19.2.2.2),(1,4,1,([136]:List Int))]:List (Int×Int×Int×List Int)),([(x20.1,x20.2.1,x20.2.2.1,x20.2.2.2)]:List (Int×Int×Int×List Int)),([(1,4,1,([128]:List Int))]:List (Int×Int×Int×List Int)),([(x21.1,x21.2.1,x21.2.2.1,x21.2.2.2),(x22.1,x22.2.1,x22.2.2.1,x22.2.2.2)]:List (Int×Int×Int×List Int))]:List (List (Int×Int×Int×List Int))) i1).bind fun l23=>
 cond (decide ((l23.length:Int) > 1))
 ((cutI l23 0 (IntKind.i64.wrap ((l23.length:Int) - 1))).bind fun l24=>
 (F_wlvlaw27_frames l24).bind fun l25=>
 (F_watch_Watch_Out x9.1 l25 x13.1 x17.2.1 x17.2.2.1 x17.2.2.2.1 x17.2.2.2.2.1 x17.2.2.2.2.2).bind fun x26=>
 cond (x26.1 != 0)
 (some (false,x13.1,x26.2.1,x26.2.2.1,x26.2.2.2.1,x26.2.2.2.2.1,x26.2.2.2.2.2))
 ((F_wlvlaw27_first x13.1 x26.2.1 x26.2.2.1 x26.2.2.2.1 x26.2.2.2.2.1 x26.2.2.2.2.2).bind fun x27=>
 cond x27.1
 ((getI l23 (IntKind.i64.wrap ((l23.length:Int) - 1))).bind fun x28=>
 (F_wlvlaw27_frames ([(x28.1,x28.2.1,x28.2.2.1,x28.2.2.2)]:List (Int×Int×Int×List Int))).bind fun l29=>
 (F_watch_Watch_Out x9.1 l29 x27.2.1 x27.2.2.1 x27.2.2.2.1 x27.2.2.2.2.1 x27.2.2.2.2.2.1 x27.2.2.2.2.2.2).bind fun x30=>
 cond (x30.1==2)
 ((F_watch_Watch_Out x9.1 ([]:List Int) x27.2.1 x30.2.1 x30.2.2.1 x30.2.2.2.1 x30.2.2.2.2.1 x30.2.2.2.2.2).bind fun x31=>
 some ((x31.1==2),x27.2.1,x31.2.1,x31.2.2.1,x31.2.2.2.1,x31.2.2.2.2.1,x31.2.2.2.2.2))
 (some (false,x27.2.1,x30.2.1,x30.2.2.1,x30.2.2.2.1,x30.2.2.2.2.1,x30.2.2.2.2.2)))
 (some (false,x27.2.1,x27.2.2.1,x27.2.2.2.1,x27.2.2.2.2.1,x27.2.2.2.2.2.1,x27.2.2.2.2.2.2))))
 ((F_wlvlaw27_first x13.1 x17.2.1 x17.2.2.1 x17.2.2.2.1 x17.2.2.2.2.1 x17.2.2.2.2.2).bind fun x32=>
 cond x32.1
 ((getI l23 (IntKind.i64.wrap ((l23.length:Int) - 1))).bind fun x33=>
 (F_wlvlaw27_frames ([(x33.1,x33.2.1,x33.2.2.1,x33.2.2.2)]:List (Int×Int×Int×List Int))).bind fun l34=>
 (F_watch_Watch_Out x9.1 l34 x32.2.1 x32.2.2.1 x32.2.2.2.1 x32.2.2.2.2.1 x32.2.2.2.2.2.1 x32.2.2.2.2.2.2).bind fun x35=>
 cond (x35.1==2)
 ((F_watch_Watch_Out x9.1 ([]:List Int) x32.2.1 x35.2.1 x35.2.2.1 x35.2.2.2.1 x35.2.2.2.2.1 x35.2.2.2.2.2).bind fun x36=>
 some ((x36.1==2),x32.2.1,x36.2.1,x36.2.2.1,x36.2.2.2.1,x36.2.2.2.2.1,x36.2.2.2.2.2))
 (some (false,x32.2.1,x35.2.1,x35.2.2.1,x35.2.2.2.1,x35.2.2.2.2.1,x35.2.2.2.2.2)))
 (some (false,x32.2.1,x32.2.2.1,x32.2.2.2.1,x32.2.2.2.2.1,x32.2.2.2.2.2.1,x32.2.2.2.2.2.2))))))))))
def F_wlvlaw27_WatchFinds_sig:Sig:=⟨[.v false [.d (.int .i64)]],[(false,[.d .bool])],[(1000103,(.sl (.pr (.int .i64) (.ptr 71))),true),(1000118,(.pr (.int .i64) (.pr (.ptr 73) (.pr (.ptr 73) (.pr .bool (.pr .bool (.pr .bool (.pr (.int .i64) (.pr (.mp 51) (.pr (.int .i64) (.pr (.os 63 (.sl (.pr (.int .i64) (.int .i64)))) (.pr (.pr (.int .i64) (.pr (.int .i64) (.pr (.int .i64) (.pr (.int .i64) (.pr (.int .i64) (.int .i64)))))) (.pr (.ptr 78) (.pr (.int .i64) .bool))))))))))))),true),(1000142,(.pr .wi (.pr .bool (.pr .bool (.pr .bool (.os 5 (.int .u8)))))),true),(1000146,(.pr (.int .i64) (.sl (.int .u8))),true),(1000156,(.pr (.ptr 91) .bool),true),(1000182,(.pr (.os 109 (.pr .str (.pr .str .bool))) (.pr (.int .i64) (.int .i64))),true)]⟩
def F_wlvlaw27_WatchFinds_ann:List (Nat×Ann):=[]
noncomputable def F_wlvlaw27_WatchFinds_env:Env:=⟨Tryd.prog,[(7,⟨F_wlvlaw27_first_sig,⟨F_wlvlaw27_first⟩⟩),(8,⟨F_watch_New_sig,⟨F_watch_New⟩⟩),(9,⟨F_watch_Watch_In_sig,⟨F_watch_Watch_In⟩⟩),(10,⟨F_wlvlaw27_frames_sig,⟨F_wlvlaw27_frames⟩⟩),(11,⟨F_wlvref10_Settings_sig,⟨F_wlvref10_Settings⟩⟩),(12,⟨F_watch_Watch_Out_sig,⟨F_watch_Watch_Out⟩⟩),(13,⟨F_watch_Watch_Frames_sig,⟨F_watch_Watch_Frames⟩⟩),(14,⟨F_wlvref10_Goaway_sig,⟨F_wlvref10_Goaway⟩⟩),(15,⟨F_wlvref10_Rst_sig,⟨F_wlvref10_Rst⟩⟩),(16,⟨F_wlvref10_Update_sig,⟨F_wlvref10_Update⟩⟩)],[28]⟩
theorem F_wlvlaw27_WatchFinds_text:pvFn F_wlvlaw27_WatchFinds_env F_wlvlaw27_WatchFinds_ann Tryd.f3 F_wlvlaw27_WatchFinds_sig=F_wlvlaw27_WatchFinds:=by kernel_rfl
end Go.Proofs.YtifbhefbhlbofaaDoor
namespace Go.Proofs.YtifbhefbhlbofaaDoor
open Pv
theorem F_flow_cut_sound {T:Tab}:SoundFn Tryd.prog T 61 F_flow_cut_sig ⟨F_flow_cut⟩:=by
 have h:=fn_sound (T:=T) (E:=F_flow_cut_env) (by unfold Env.ok;exact fun p h=>by cases h) (A:=F_flow_cut_ann) (f:=61) (fn:=Tryd.f61) (s:=F_flow_cut_sig) Tryd.func61
 rw [F_flow_cut_text] at h
 exact h
theorem F_flow_Windows_sound {T:Tab}:SoundFn Tryd.prog T 47 F_flow_Windows_sig ⟨F_flow_Windows⟩:=by
 have h:=fn_sound (T:=T) (E:=F_flow_Windows_env) (by unfold Env.ok;exact List.forall_mem_cons.2 ⟨F_flow_cut_sound,fun p h=>by cases h⟩) (A:=F_flow_Windows_ann) (f:=47) (fn:=Tryd.f47) (s:=F_flow_Windows_sig) Tryd.func47
 rw [F_flow_Windows_text] at h
 exact h
theorem F_flow_part_sound {T:Tab}:SoundFn Tryd.prog T 67 F_flow_part_sig ⟨F_flow_part⟩:=by
 have h:=fn_sound (T:=T) (E:=F_flow_part_env) (by unfold Env.ok;exact fun p h=>by cases h) (A:=F_flow_part_ann) (f:=67) (fn:=Tryd.f67) (s:=F_flow_part_sig) Tryd.func67
 rw [F_flow_part_text] at h
 exact h
theorem F_flow_parts_sound {T:Tab}:SoundFn Tryd.prog T 59 F_flow_parts_sig ⟨F_flow_parts⟩:=by
 have h:=fn_sound (T:=T) (E:=F_flow_parts_env) (by unfold Env.ok;exact List.forall_mem_cons.2 ⟨F_flow_part_sound,fun p h=>by cases h⟩) (A:=F_flow_parts_ann) (f:=59) (fn:=Tryd.f59) (s:=F_flow_parts_sig) Tryd.func59
 rw [F_flow_parts_text] at h
 exact h
theorem F_flow_Stream_sound {T:Tab}:SoundFn Tryd.prog T 49 F_flow_Stream_sig ⟨F_flow_Stream⟩:=by
 have h:=fn_sound (T:=T) (E:=F_flow_Stream_env) (by unfold Env.ok;exact List.forall_mem_cons.2 ⟨F_flow_parts_sound,fun p h=>by cases h⟩) (A:=F_flow_Stream_ann) (f:=49) (fn:=Tryd.f49) (s:=F_flow_Stream_sig) Tryd.func49
 rw [F_flow_Stream_text] at h
 exact h
theorem F_flow_Conn_sound {T:Tab}:SoundFn Tryd.prog T 48 F_flow_Conn_sig ⟨F_flow_Conn⟩:=by
 have h:=fn_sound (T:=T) (E:=F_flow_Conn_env) (by unfold Env.ok;exact List.forall_mem_cons.2 ⟨F_flow_parts_sound,fun p h=>by cases h⟩) (A:=F_flow_Conn_ann) (f:=48) (fn:=Tryd.f48) (s:=F_flow_Conn_sig) Tryd.func48
 rw [F_flow_Conn_text] at h
 exact h
theorem F_flow_fault_sound {T:Tab}:SoundFn Tryd.prog T 60 F_flow_fault_sig ⟨F_flow_fault⟩:=by
 have h:=fn_sound (T:=T) (E:=F_flow_fault_env) (by unfold Env.ok;exact fun p h=>by cases h) (A:=F_flow_fault_ann) (f:=60) (fn:=Tryd.f60) (s:=F_flow_fault_sig) Tryd.func60
 rw [F_flow_fault_text] at h
 exact h
theorem F_flow_Shift_sound {T:Tab}:SoundFn Tryd.prog T 51 F_flow_Shift_sig ⟨F_flow_Shift⟩:=by
 have h:=fn_sound (T:=T) (E:=F_flow_Shift_env) (by unfold Env.ok;exact List.forall_mem_cons.2 ⟨F_flow_Windows_sound,List.forall_mem_cons.2 ⟨F_flow_Conn_sound,List.forall_mem_cons.2 ⟨F_flow_Stream_sound,List.forall_mem_cons.2 ⟨F_flow_parts_sound,List.forall_mem_cons.2 ⟨F_flow_fault_sound,List.forall_mem_cons.2 ⟨F_flow_cut_sound,fun p h=>by cases h⟩⟩⟩⟩⟩⟩) (A:=F_flow_Shift_ann) (f:=51) (fn:=Tryd.f51) (s:=F_flow_Shift_sig) Tryd.func51
 rw [F_flow_Shift_text] at h
 exact h
theorem F_flow_Grant_sound {T:Tab}:SoundFn Tryd.prog T 46 F_flow_Grant_sig ⟨F_flow_Grant⟩:=by
 have h:=fn_sound (T:=T) (E:=F_flow_Grant_env) (by unfold Env.ok;exact List.forall_mem_cons.2 ⟨F_flow_parts_sound,List.forall_mem_cons.2 ⟨F_flow_fault_sound,fun p h=>by cases h⟩⟩) (A:=F_flow_Grant_ann) (f:=46) (fn:=Tryd.f46) (s:=F_flow_Grant_sig) Tryd.func46
 rw [F_flow_Grant_text] at h
 exact h
theorem F_flow_May_sound {T:Tab}:SoundFn Tryd.prog T 65 F_flow_May_sig ⟨F_flow_May⟩:=by
 have h:=fn_sound (T:=T) (E:=F_flow_May_env) (by unfold Env.ok;exact List.forall_mem_cons.2 ⟨F_flow_Conn_sound,List.forall_mem_cons.2 ⟨F_flow_Stream_sound,fun p h=>by cases h⟩⟩) (A:=F_flow_May_ann) (f:=65) (fn:=Tryd.f65) (s:=F_flow_May_sig) Tryd.func65
 rw [F_flow_May_text] at h
 exact h
theorem F_flow_Spend_sound {T:Tab}:SoundFn Tryd.prog T 56 F_flow_Spend_sig ⟨F_flow_Spend⟩:=by
 have h:=fn_sound (T:=T) (E:=F_flow_Spend_env) (by unfold Env.ok;exact List.forall_mem_cons.2 ⟨F_flow_parts_sound,List.forall_mem_cons.2 ⟨F_flow_May_sound,fun p h=>by cases h⟩⟩) (A:=F_flow_Spend_ann) (f:=56) (fn:=Tryd.f56) (s:=F_flow_Spend_sig) Tryd.func56
 rw [F_flow_Spend_text] at h
 exact h
end Go.Proofs.YtifbhefbhlbofaaDoor
namespace Go.Proofs.YtifbhefbhlbofaaDoor
open Pv
set_option linter.unusedVariables false
theorem getI_n {α:Type} {l:List α} {j:Int} {x:α} (h:getI l j=some x):∃ n:Nat,j=(n:Int) /\ l[n]? = some x:=by
 unfold getI at h
 cases hd:decide (0<=j) with
 | false=>rw [hd] at h;cases h
 | true=>
  rw [hd,cond_true] at h
  have:=of_decide_eq_true hd
  exact ⟨j.toNat,by omega,h⟩
theorem getI_of {α:Type} {l:List α} {n:Nat} {x:α} (h:l[n]? = some x):getI l (n:Int)=some x:=by
 unfold getI
 rw [decide_eq_true (by omega),cond_true,Int.toNat_natCast];exact h
structure ApRel (by_:Int) (p:Nat) (ms:ApM) (es:List MapEntry) (W0:List ApW) (w0:ApW) (S0:List ApS) (seen:Array Nat) (bl:Bool) (W:List ApW) (S:List ApS):Prop where
 W:W=W0.set p (setBlind w0 bl)
 len:S.length=S0.length
 old:w0.2.2.2.2.1=true->bl=true /\ S=S0
 other:w0.2.2.2.2.1=false -> ∀ (j:Nat) x0,S0[j]? = some x0->(∀ q∈ms,q.2≠(j:Int))->S[j]? = some x0
 mine:w0.2.2.2.2.1=false -> ∀ (i j:Nat) q e x0,ms[i]? = some q->es[i]? = some e->q.2=(j:Int)->S0[j]? = some x0 -> ∃ x,S[j]? = some x /\ x.2=x0.2 /\ (∃ c,x.1=some c) /\ (bl=false->seen.contains e.born=false->x=x0) /\ (bl=false->seen.contains e.born=true->x=winNew by_ false x0)
 bad:w0.2.2.2.2.1=false->bl=true->ms.any (winBad by_ S0)=true
 fine:bl=false -> ∀ (i:Nat) q e,ms[i]? = some q->es[i]? = some e->seen.contains e.born=true->winBad by_ S0 q=false
section
variable {by_ : Int} {p : Nat} {ms : ApM} {es : List MapEntry} {W0 W : List ApW} {w0 : ApW} {S0 S : List ApS} {seen : Array Nat} {bl : Bool}
theorem winOk_some {q:Int×Int} (h:winOk by_ S0 q=true):∃ (j:Nat) (n:Int) (y:Bool×Bool×Bool×List Int) (k:Int) (b:Bool),q.2=(j:Int) /\ S0[j]? = some (some n,y) /\ winStep by_ n=some (k,b) /\ winBad by_ S0 q=b:=by
 unfold winOk at h
 split at h
 ·rename_i n y hg
  split at h
  ·rename_i kb hw
   obtain ⟨j,hj,hget⟩:=getI_n hg
   refine ⟨j,n,y,kb.1,kb.2,hj,hget,hw,?_⟩
   unfold winBad
   rw [hg]
   simp only
   rw [hw]
  ·cases h
 ·cases h
theorem ApRel.start (hW:W0[p]? = some w0) (hok:ms.all (winOk by_ S0)=true):ApRel by_ p ms es W0 w0 S0 #[] w0.2.2.2.2.1 W0 S0:=by
 refine ⟨?_,rfl,fun h=>⟨h,rfl⟩,fun _ j x0 hx _=>hx,fun hb i j q e x0 hq _ hj hx=>?_,fun hb h=>(by rw [hb] at h;cases h),fun _ i q e _ _ h=>(by simp at h)⟩
 ·have:setBlind w0 w0.2.2.2.2.1=w0:=rfl
  rw [this]
  apply List.ext_getElem?
  intro i
  rw [List.getElem?_set]
  split
  ·rename_i e;subst e
   rw [if_pos (List.getElem?_eq_some_iff.1 hW).1,hW]
  ·rfl
 ·obtain ⟨j',n,y,k,b,h1,h2,_⟩:=winOk_some (List.all_eq_true.1 hok q (List.mem_of_getElem? hq))
  have:j'=j:=by omega
  subst this
  rw [hx] at h2
  cases h2
  exact ⟨_,hx,rfl,⟨n,rfl⟩,fun _ _=>rfl,fun _ h=>(by simp at h)⟩
theorem ApRel.skip (h:ApRel by_ p ms es W0 w0 S0 seen true W S) (b:Nat):ApRel by_ p ms es W0 w0 S0 (seen.push b) true W S:=
 ⟨h.W,h.len,h.old,h.other,fun hb i j q e x0 hq he hj hx=>by
  obtain ⟨x,h1,h2,h3,_⟩:=h.mine hb i j q e x0 hq he hj hx
  exact ⟨x,h1,h2,h3,fun e=>(by cases e),fun e=>(by cases e)⟩,h.bad,fun e=>(by cases e)⟩
theorem ApRel.step (h:ApRel by_ p ms es W0 w0 S0 seen false W S) (hok:ms.all (winOk by_ S0)=true) (hnd:(ms.map (·.2)).Nodup) (hbn:(es.map (·.born)).Nodup) {i:Nat} {q:Int×Int} {e:MapEntry} (hq:ms[i]? = some q) (he:es[i]? = some e) (hse:seen.contains e.born=false) :
  ∃ (j:Nat) (n:Int) (y:Bool×Bool×Bool×List Int) (k:Int) (b:Bool),q.2=(j:Int) /\ S[j]? = some (some n,y) /\ winStep by_ n=some (k,b) /\ ApRel by_ p ms es W0 w0 S0 (seen.push e.born) b (W.set p (setBlind w0 b)) (S.set j (some k,y)):=by
 have hb0:w0.2.2.2.2.1=false:=by
  cases hb:w0.2.2.2.2.1 with
  | false=>rfl
  | true=>have:=(h.old hb).1;cases this
 obtain ⟨j,n,y,k,b,h1,h2,h3,h4⟩:=winOk_some (List.all_eq_true.1 hok q (List.mem_of_getElem? hq))
 obtain ⟨x,x1,x2,x3,x4,x5⟩:=h.mine hb0 i j q e _ hq he h1 h2
 have ex:=x4 rfl hse
 subst ex
 have hjl:j < S.length:=(List.getElem?_eq_some_iff.1 x1).1
 have same:∀ (i':Nat) q',ms[i']? = some q'->q'.2=(j:Int)->i'=i:=fun i' q' hq' hj'=>by
  have hl1:=(List.getElem?_eq_some_iff.1 hq).1
  have hl2:=(List.getElem?_eq_some_iff.1 hq').1
  have e1:(ms.map (·.2))[i']? = (ms.map (·.2))[i]?:=by rw [List.getElem?_map,List.getElem?_map,hq,hq'];simp [h1,hj']
  exact (List.getElem?_inj (by simpa using hl2) hnd).1 e1
 have sameE:∀ (i':Nat) e',es[i']? = some e'->e'.born=e.born->i'=i:=fun i' e' he' hb'=>by
  have hl2:=(List.getElem?_eq_some_iff.1 he').1
  have e1:(es.map (·.born))[i']? = (es.map (·.born))[i]?:=by rw [List.getElem?_map,List.getElem?_map,he,he'];simp [hb']
  exact (List.getElem?_inj (by simpa using hl2) hbn).1 e1
 have hpush:∀ z,(seen.push e.born).contains z=(seen.contains z||z==e.born):=fun z=>contains_push seen e.born z
 refine ⟨j,n,y,k,b,h1,x1,h3,?_,(by rw [List.length_set];exact h.len),fun hb=>(by rw [hb0] at hb;cases hb),fun _ j' x0 hx hno=>?_,fun _ i' j' q' e' x0 hq' he' hj' hx=>?_,fun _ hb=>?_,fun hb i' q' e' hq' he' hs=>?_⟩
 ·rw [h.W,List.set_set]
 ·have hne:j≠j':=fun e=>hno q (List.mem_of_getElem? hq) (by rw [h1,e])
  rw [List.getElem?_set,if_neg hne]
  exact h.other hb0 j' x0 hx hno
 ·by_cases ej:j=j'
  ·subst ej
   have ei:=same i' q' hq' hj'
   subst ei
   rw [he] at he';cases he'
   rw [h2] at hx;cases hx
   refine ⟨(some k,y),(by rw [List.getElem?_set,if_pos rfl,if_pos hjl]),rfl,⟨k,rfl⟩,fun _ hs=>?_,fun hb _=>?_⟩
   ·rw [hpush] at hs;simp at hs
   ·unfold winNew
    rw [cond_false]
    simp only
    rw [h3]
  ·obtain ⟨x,y1,y2,y3,y4,y5⟩:=h.mine hb0 i' j' q' e' x0 hq' he' hj' hx
   have hbne:(e'.born==e.born)=false:=by
    cases hc:(e'.born==e.born) with
    | false=>rfl
    | true=>
     have:=sameE i' e' he' (by simpa using hc)
     subst this
     rw [hq] at hq';cases hq'
     omega
   refine ⟨x,(by rw [List.getElem?_set,if_neg ej];exact y1),y2,y3,fun _ hs=>y4 rfl ?_,fun _ hs=>y5 rfl ?_⟩
   ·rw [hpush,hbne,Bool.or_false] at hs;exact hs
   ·rw [hpush,hbne,Bool.or_false] at hs;exact hs
 ·subst hb
  exact List.any_eq_true.2 ⟨q,List.mem_of_getElem? hq,h4⟩
 ·subst hb
  rw [hpush] at hs
  cases hc:(e'.born==e.born) with
  | false=>
   rw [hc,Bool.or_false] at hs
   exact h.fine rfl i' q' e' hq' he' hs
  | true=>
   have:=sameE i' e' he' (by simpa using hc)
   subst this
   rw [hq] at hq';cases hq'
   exact h4
theorem ApRel.done (h:ApRel by_ p ms es W0 w0 S0 seen bl W S) (hW:W0[p]? = some w0) (M:List ApM) (hM:getI M w0.2.2.2.2.2.2.2.1=some ms) (hok:ms.all (winOk by_ S0)=true) (hlen:es.length=ms.length) (hall:∀ e∈es,seen.contains e.born=true) :
  W=apW by_ (p:Int) M W0 S0 /\ (apS by_ (p:Int) M W0 S0).length=S.length /\ ∀ (j:Nat) x',(apS by_ (p:Int) M W0 S0)[j]? = some x' -> ∃ x,S[j]? = some x /\ (x'=x \/ x'=(none,x.2)):=by
 have hes:apEs M W0 (p:Int)=some (w0,ms):=by
  unfold apEs
  rw [getI_of hW,Option.bind_some,hM];rfl
 unfold apW apS
 rw [hes]
 simp only [Int.toNat_natCast]
 cases hb0:w0.2.2.2.2.1 with
 | true=>
  obtain ⟨rfl,rfl⟩:=h.old hb0
  refine ⟨(by rw [h.W,Bool.true_or]),(by rw [cond_true]),fun j x' hx=>⟨x',by simpa using hx,.inl rfl⟩⟩
 | false=>
  have hany:ms.any (winBad by_ S0)=bl:=by
   cases hbl:bl with
   | true=>exact h.bad hb0 hbl
   | false=>
    rw [List.any_eq_false]
    intro q hq
    obtain ⟨i,hi⟩:=List.mem_iff_getElem?.1 hq
    have hil:i < es.length:=by rw [hlen];exact (List.getElem?_eq_some_iff.1 hi).1
    rw [h.fine hbl i q es[i] hi (List.getElem?_eq_getElem hil) (hall _ (List.getElem_mem hil))]
    simp
  rw [hany,Bool.false_or]
  refine ⟨h.W,(by rw [cond_false,List.length_mapIdx];exact h.len.symm),fun j x' hx=>?_⟩
  rw [cond_false,List.getElem?_mapIdx] at hx
  obtain ⟨x0,hx0,hx'⟩:=Option.map_eq_some_iff.1 hx
  cases hc:ms.any fun q=>eqI q.2 (j:Int) with
  | false=>
   rw [hc,cond_false] at hx'
   subst hx'
   refine ⟨x0,h.other hb0 j x0 hx0 fun q hq e=>?_,.inl rfl⟩
   rw [List.any_eq_false] at hc
   exact hc q hq (by unfold eqI;exact beq_iff_eq.2 e)
  | true=>
   rw [hc,cond_true] at hx'
   subst hx'
   obtain ⟨q,hq,hqj⟩:=List.any_eq_true.1 hc
   have hqj:q.2=(j:Int):=by unfold eqI at hqj;exact beq_iff_eq.1 hqj
   obtain ⟨i,hi⟩:=List.mem_iff_getElem?.1 hq
   have hil:i < es.length:=by rw [hlen];exact (List.getElem?_eq_some_iff.1 hi).1
   obtain ⟨x,y1,y2,y3,y4,y5⟩:=h.mine hb0 i j q es[i] x0 hi (List.getElem?_eq_getElem hil) hqj hx0
   cases hbl:bl with
   | true=>
    refine ⟨x,y1,.inr ?_⟩
    unfold winNew
    rw [cond_true,y2]
   | false=>exact ⟨x,y1,.inl (y5 hbl (hall _ (List.getElem_mem hil))).symm⟩
end
end Go.Proofs.YtifbhefbhlbofaaDoor
namespace Go.Proofs.YtifbhefbhlbofaaDoor
open Go.RowKit
namespace Pv
set_option linter.unusedVariables false
section
variable {E : Env} {F : Fr} {g : Gh} {st : PSt} {w : World}
end
end Pv
end Go.Proofs.YtifbhefbhlbofaaDoor
namespace Go.Proofs.YtifbhefbhlbofaaDoor
namespace Pv
set_option linter.unusedVariables false
open Go.ChangeMaps (setBlock)
section
variable {F F' : Fr} {g : Gh} {st : PSt} {tmf : Nat -> Value} {w w' : World} {O : Tok -> Bool} {Rm : Nat -> Prop}
theorem RepL.fr (hW:∀ b o,¬ Rm b->Wr F b o->Wr F' b o) (ht:∀ t b,O t=true->g.blk t=some b -> ¬ Rm b) {l:Leaf} {cs:List Value} (h:RepL F g w O l cs):RepL F' g w O l cs:=by
 cases l with
 | d t x=>exact h
 | own k E e l=>
  refine ⟨h.1,fun ho=>?_⟩
  obtain ⟨v,hv,hr⟩:=h.2 ho
  refine ⟨v,hv,?_⟩
  rcases hr with hr | ⟨b,cap,cur,h1,h2,h3,h4,h5,h6,h7,h8,h9⟩
  ·exact .inl hr
  ·exact .inr ⟨b,cap,cur,h1,h2,h3,h4,h5,h6,h7,h8,fun o ho'=>hW b o (ht k b ho h2) (h9 o ho')⟩
theorem RepLs.fr (hW:∀ b o,¬ Rm b->Wr F b o->Wr F' b o) (ht:∀ t b,O t=true->g.blk t=some b -> ¬ Rm b):∀ {ls:List Leaf} {cs:List Value},RepLs F g w O ls cs->RepLs F' g w O ls cs
 | [],_,h=>h
 | _::_,_,⟨c1,c2,h1,h2,h3⟩=>⟨c1,c2,h1,RepL.fr hW ht h2,RepLs.fr hW ht h3⟩
theorem RelV.fr (hW:∀ b o,¬ Rm b->Wr F b o->Wr F' b o) (ht:∀ t b,O t=true->g.blk t=some b -> ¬ Rm b) {u:Value} {ag:Bool} {ls:List Leaf} (h:RelV F g w O u ag ls):RelV F' g w O u ag ls:=
 let ⟨cs,h1,h2⟩:=h
 ⟨cs,RepLs.fr hW ht h1,h2⟩
theorem RelT.fr (hW:∀ b o,¬ Rm b->Wr F b o->Wr F' b o) (ht:∀ t b,O t=true->g.blk t=some b -> ¬ Rm b):∀ {us:List Value} {xs:List (Bool×List Leaf)},RelT F g w O us xs->RelT F' g w O us xs
 | [],[],_=>trivial
 | _::_,_::_,h=>⟨RelV.fr hW ht h.1,RelT.fr hW ht h.2⟩
 | [],_::_,h=>h.elim
 | _::_,[],h=>h.elim
theorem RelP.fr (hW:∀ b o,¬ Rm b->Wr F b o->Wr F' b o) (ht:∀ t b,O t=true->g.blk t=some b -> ¬ Rm b) {u:Value} {p:PV} (h:RelP F g w O tmf u p):RelP F' g w O tmf u p:=by
 cases p with
 | w ag ls=>exact RelV.fr hW ht h
 | tup xs=>
  obtain ⟨us,h1,h2⟩:=h
  exact ⟨us,h1,RelT.fr hW ht h2⟩
 | spec t want ag ls=>
  obtain ⟨b,h1,h2,h3⟩:=h
  exact ⟨b,h1,fun e=>RelV.fr hW ht (h2 e),h3⟩
 | elem ls=>
  obtain ⟨ad,cs,h1,h2,h4,h3⟩:=h
  exact ⟨ad,cs,h1,RepLs.fr hW ht h2,h4,h3⟩
 | fa k j s E e l n v t=>
  refine ⟨h.1,h.2.1,fun hO hv=>?_⟩
  obtain ⟨m,h3,h4⟩:=h.2.2 hO hv
  refine ⟨m,h3,?_⟩
  rcases h4 with h4 | ⟨b,off,cap,cur,q1,q2,q3,q4,q5,q6,q7,q8⟩
  ·exact .inl h4
  ·refine .inr ⟨b,off,cap,cur,q1,q2,q3,q4,q5,q6,q7,?_⟩
   rcases q8 with q8 | ⟨q8,q9,q10,q11⟩
   ·exact .inl q8
   ·exact .inr ⟨q8,q9,q10,fun o=>hW b o (ht t b hO q8) (q11 o)⟩
 | _=>exact h
theorem LocOk.fr (hW:∀ b o,¬ Rm b->Wr F b o->Wr F' b o) (ht:∀ t b,O t=true->g.blk t=some b -> ¬ Rm b) {ls:List Leaf} {p:Nat×Nat} (hp:¬ Rm p.1) (h:LocOk F g w O ls p):LocOk F' g w O ls p:=by
 obtain ⟨cur,T,h1,h2,h3,h4,h5⟩:=h
 exact ⟨cur,T,h1,h2,RepLs.fr hW ht h3,fun o a b=>⟨(h4 o a b).1,hW _ o hp (h4 o a b).2⟩,h5⟩
theorem PoolOk.fr (hP:∀ k,F.PT k->F'.PT k) {k:Nat} {ls:List Leaf} (h:PoolOk F g w ls k):PoolOk F' g w ls k:=by
 obtain ⟨e,l,h1,h2,h3⟩:=h
 refine ⟨e,l,?_,h2,h3⟩
 rcases h1 with ⟨v,a,b,c⟩ | h1
 ·exact .inl ⟨v,a,b,hP k c⟩
 ·exact .inr h1
def roundF (F:Fr) (g:Gh) (w:World) (Rm:Nat->Prop):Fr:=⟨F.n,w,g.C,fun b o=>¬ Rm b /\ Wr F b o,g.ow,F.PT⟩
theorem MRel.round (h:MRel F g st tmf w) (hnt:∀ t b,st.O t=true->g.blk t=some b -> ¬ Rm b) (hnl:∀ k x,st.L k=some x->isPool k=false -> ¬ Rm (g.ρ k).1) (how:∀ b k j s,Rm b->g.ow b=some (k,j,s) -> ¬ F.PT k):MRel (roundF F g w Rm) g st tmf w:=by
 have hW:∀ b o,¬ Rm b->Wr F b o->Wr (roundF F g w Rm) b o:=fun b o hb hw=>.inr ⟨hb,hw⟩
 refine ⟨⟨Nat.le_refl _,rfl,rfl,rfl,fun _ _ _=>rfl,fun b cs T fr _ hb=>⟨cs,fr,hb,rfl,fun _ _=>rfl⟩,fun _ _ _ _=>Iff.rfl,fun _ _ hc=>hc,fun _ _ _ hc=>hc,h.fr.lim⟩,
  fun i=>RelP.fr hW hnt (h.slots i),fun k σ ls hL np=>LocOk.fr hW hnt (hnl k _ hL np) (h.locals k σ ls hL np),fun k σ ls hL np=>PoolOk.fr (fun _ q=>q) (h.pools k σ ls hL np),h.hist,h.kn,h.sp,h.fresh,h.locL,h.blk0,h.blkI,h.blkL,h.blkS,fun k b hk hb=>?_,h.ρI,
  ⟨h.ows.tok,h.ows.loc,h.ows.lim,fun _ _ _=>rfl,fun _ _ hb=>hb,fun _ _ _=>rfl,fun b k j s hb hp o hc=>.inr ⟨fun e=>how b k j s e hb hp,h.ows.wr b k j s hb hp o hc⟩⟩⟩
 have hne:¬ Rm b:=hnt k b hk hb
 rcases h.blkW k b hk hb with hw | ⟨o,hx⟩
 ·exact .inr ⟨0,hne,.inl hw⟩
 ·exact .inr ⟨o,hne,.inr hx⟩
theorem MRel.unround {g':Gh} {st':PSt} {tmf':Nat->Value} (hF:Frame F g.C w) (hO:Owns F g st.L st.O w) (h:MRel (roundF F g w Rm) g' st' tmf' w'):MRel F g' st' tmf' w':=by
  have hW:∀ b o,¬ (fun _=>False) b->Wr (roundF F g w Rm) b o->Wr F b o:=fun b o _ hw=>by
    rcases hw with hw | hw
    · exact .inl (Nat.le_trans hF.size hw)
    · exact hw.2
  have hnt:∀ t b,st'.O t=true->g'.blk t=some b -> ¬ (fun _=>False) b:=fun _ _ _ _ e=>e
  have hnX:∀ b,b < F.w0.heap.size->(∀ o,¬ F.X b o) -> ∀ o,¬ (roundF F g w Rm).X b o:=fun b hb hx o hc=>by
    rcases hc.2 with hc | hc
    · omega
    · exact hx o hc
  have hlt:∀ b,b < F.w0.heap.size->b < (roundF F g w Rm).w0.heap.size:=fun b hb=>Nat.lt_of_lt_of_le hb hF.size
  refine ⟨⟨Nat.le_trans hF.size h.fr.size, h.fr.os.trans hF.os, h.fr.tape.trans hF.tape, h.fr.output.trans hF.output, fun b hb hx => (h.fr.old b (hlt b hb) (hnX b hb hx)).trans (hF.old b hb hx), fun b cs T fr hb hcs => ?_,
      fun b o hb hx=>?_,fun b o hc=>h.fr.mono b o (hF.mono b o hc),fun T j b hb=>h.fr.imono T j b (hF.imono T j b hb),h.fr.lim⟩,
    fun i=>RelP.fr hW hnt (h.slots i),fun k σ ls hL np=>LocOk.fr hW hnt (fun e=>e) (h.locals k σ ls hL np),fun k σ ls hL np=>PoolOk.fr (fun _ q=>q) (h.pools k σ ls hL np),h.hist,h.kn,h.sp,h.fresh,h.locL,h.blk0,h.blkI,h.blkL,h.blkS,fun k b hk hb=>?_,h.ρI,
    ⟨h.ows.tok,h.ows.loc,h.ows.lim,fun b hb hx=>(h.ows.fr b (hlt b hb) (hnX b hb hx)).trans (hO.fr b hb hx),fun b o hb=>h.ows.mono b o (hO.mono b o hb),fun k hk j=>(h.ows.i k hk j).trans (hO.i k hk j),fun b k j s hb hp o hc=>?_⟩⟩
  · obtain ⟨cs1,fr1,h1,h2,h3⟩:=hF.shape b cs T fr hb hcs
    obtain ⟨cs2,fr2,h4,h5,h6⟩:=h.fr.shape b cs1 T fr1 (hlt b hb) h1
    refine ⟨cs2,fr2,h4,h5.trans h2,fun o ho=>(h6 o fun hc=>?_).trans (h3 o ho)⟩
    rcases hc.2 with hc | hc
    · omega
    · exact ho hc
  · refine (h.fr.com b o (hlt b hb) fun hc=>?_).trans (hF.com b o hb hx)
    rcases hc.2 with hc | hc
    · omega
    · exact hx hc
  · rcases h.blkW k b hk hb with hw | ⟨o,hx⟩
    · exact .inl (Nat.le_trans hF.size hw)
    · exact hx.2.imp id fun q=>⟨o,q⟩
  · rcases h.ows.wr b k j s hb hp o hc with hw | hw
    · exact .inl (Nat.le_trans hF.size hw)
    · exact hw.2
theorem round_kept {g':Gh} {st':PSt} {tmf':Nat->Value} {b:Nat} (hb:b < w.heap.size) (hR:Rm b) (h:MRel (roundF F g w Rm) g' st' tmf' w'):w'.heap[b]? = w.heap[b]? /\ g'.ow b=g.ow b:=
 ⟨h.fr.old b hb fun o hc=>hc.1 hR,h.ows.fr b hb fun o hc=>hc.1 hR⟩
theorem MRel.apart {r:Nat} (h:MRel F g st tmf w) (hsz:w.heap.size<=w'.heap.size) (hk:∀ b,b < w.heap.size->b≠r->w'.heap[b]? = w.heap[b]?) (hrF:F.w0.heap.size<=r) (hcell:∀ o s,w.cell? ⟨r,o,s⟩=none) (h5:w'.os=w.os) (h6:w'.tape=w.tape) (h7:w'.output=w.output)
  (hnt:∀ t,st.O t=true->g.blk t≠some r) (hnl:∀ k x,st.L k=some x->isPool k=false->(g.ρ k).1≠r) (how:g.ow r=none):MRel F g st tmf w':=by
 have hcl:∀ (a:Addr) (u:Value),w.cell? a=some u->w'.cell? a=some u:=fun a u hc=>by
  have hne:a.block≠r:=fun e=>by
   obtain ⟨b,o,s⟩:=a
   have e:b=r:=e
   subst e
   rw [hcell o s] at hc;cases hc
  have hlt:a.block < w.heap.size:=by
   rcases Nat.lt_or_ge a.block w.heap.size with hl | hl
   ·exact hl
   ·unfold World.cell? at hc
    rw [Array.getElem?_eq_none hl] at hc
    cases hc
  unfold World.cell? at hc ⊢
  rw [hk _ hlt hne];exact hc
 have G:Gw w g.C w' g.C:=⟨fun a u hc hC=>⟨hcl a u hc,hC⟩,fun _ _ _ q=>q⟩
 have kp:∀ b,b < w.heap.size->b≠r->Kp g w g w' b:=fun b hb hne=>⟨hk b hb hne,fun _=>Iff.rfl⟩
 have lv:∀ t,Lives g w st.O g w' st.O t:=fun t ho=>⟨ho,rfl,fun b hb=>kp b (h.blkS t b ho hb) fun e=>hnt t ho (by rw [hb,e])⟩
 have own:∀ b k j s,g.ow b=some (k,j,s)->Kp g w g w' b /\ g.ow b=some (k,j,s):=fun b k j s hb=>⟨kp b (h.ows.lim b _ hb) fun e=>(by rw [e,how] at hb;cases hb),hb⟩
 refine ⟨⟨Nat.le_trans h.fr.size hsz,h5.trans h.fr.os,h6.trans h.fr.tape,h7.trans h.fr.output,fun b hb hx=>(hk b (Nat.lt_of_lt_of_le hb h.fr.size) (by omega)).trans (h.fr.old b hb hx),fun b cs T fr hb hcs=>?_,h.fr.com,h.fr.mono,h.fr.imono,fun b o hc=>Nat.lt_of_lt_of_le (h.fr.lim b o hc) hsz⟩,
  fun i=>(h.slots i).gw G (fun k _=>lv k) (fun _ _=>rfl) (fun _ _ _ _ _=>rfl) (fun k _ _=>.inl ⟨rfl,fun b j s hb=>own b k j s hb⟩),
  fun k σ ls hL np=>(h.locals k σ ls hL np).gw (O':=st.O) G (fun k' E e x _=>lv k') (kp _ ?_ (hnl k _ hL np)),
  fun k σ ls hL np=>(h.pools k σ ls hL np).gw G rfl (fun _=>rfl) fun b j s hb=>own b k j s hb,h.hist,h.kn,h.sp,h.fresh,h.locL,h.blk0,h.blkI,h.blkL,fun k b hb hbl=>Nat.lt_of_lt_of_le (h.blkS k b hb hbl) hsz,h.blkW,h.ρI,
  ⟨h.ows.tok,h.ows.loc,fun b o hb=>Nat.lt_of_lt_of_le (h.ows.lim b o hb) hsz,h.ows.fr,h.ows.mono,h.ows.i,h.ows.wr⟩⟩
 ·obtain ⟨cs1,fr1,h1,h2,h3⟩:=h.fr.shape b cs T fr hb hcs
  exact ⟨cs1,fr1,(hk b (Nat.lt_of_lt_of_le hb h.fr.size) (by omega)).trans h1,h2,h3⟩
 ·obtain ⟨cur,T,hc,_⟩:=h.locals k σ ls hL np
  rcases Nat.lt_or_ge (g.ρ k).1 w.heap.size with hl | hl
  ·exact hl
  ·rw [Array.getElem?_eq_none hl] at hc;cases hc
theorem MRel.to_pools {st':PSt} {tmf':Nat->Value} (ρ':Nat->Nat×Nat) (h:MRel F g st tmf w) (hL:∀ k σ ls,st'.L k=some (σ,ls)->σ=0 /\ isPool k=true /\ PoolOk F g w ls k) (hO:∀ t,st'.O t=true->t=.zero) (hkn:st'.kn=[]) (hsp:st'.sp=[]) (hfr:st'.fr=[])
  (hs:∀ i,RelP F { g with ρ:=ρ' } w st'.O tmf' (tmf' i) (st'.φ i)) (hns:∀ i t want ag ls,st'.φ i≠.spec t want ag ls) (hk:∀ i,keyP (st'.φ i)=[]):MRel F { g with ρ:=ρ' } st' tmf' w:=by
 have z:∀ t b,st'.O t=true->g.blk t=some b->False:=fun t b ht hb=>by
  rw [hO t ht,h.blk0] at hb;cases hb
 refine ⟨h.fr,hs,fun k σ ls hL' np=>?_,fun k σ ls hL' _=>(hL k σ ls hL').2.2,fun k σ ls hL' hσ=>(hσ (hL k σ ls hL').1).elim,fun t b hb=>?_,fun i t want ag ls e=>absurd e (hns i t want ag ls),fun d hd=>?_,fun i k hm=>?_,h.blk0,fun k k' b hk1 _ hb _=>(z k b hk1 hb).elim,fun k b j x hk1 hb _ _=>(z k b hk1 hb).elim,fun k b hk1 hb=>(z k b hk1 hb).elim,fun k b hk1 hb=>(z k b hk1 hb).elim,fun j j' x x' hj _ np _ _=>?_,
  ⟨fun t b ht hb=>(z t b ht hb).elim,fun k x hL' np=>?_,h.ows.lim,h.ows.fr,h.ows.mono,h.ows.i,h.ows.wr⟩⟩
 ·rw [(hL k σ ls hL').2.1] at np;cases np
 ·rw [hkn] at hb;cases hb
 ·rw [hfr] at hd;cases hd
 ·rw [hk i] at hm;cases hm
 ·rw [(hL j x.1 x.2 hj).2.1] at np;cases np
 ·rw [(hL k x.1 x.2 hL').2.1] at np;cases np
theorem MRel.to_pools_ver {st':PSt} {tmf':Nat->Value} (ρ':Nat->Nat×Nat) (ver':Nat->Nat) (h:MRel F g st tmf w) (hL:∀ k σ ls,st'.L k=some (σ,ls)->σ=0 /\ isPool k=true /\ PoolOk F { g with ver:=ver' } w ls k) (hO:∀ t,st'.O t=true->t=.zero) (hkn:st'.kn=[]) (hsp:st'.sp=[]) (hfr:st'.fr=[])
  (hs:∀ i,RelP F { g with ρ:=ρ',ver:=ver' } w st'.O tmf' (tmf' i) (st'.φ i)) (hns:∀ i t want ag ls,st'.φ i≠.spec t want ag ls) (hk:∀ i,keyP (st'.φ i)=[]):MRel F { g with ρ:=ρ',ver:=ver' } st' tmf' w:=by
 have z:∀ t b,st'.O t=true->g.blk t=some b->False:=fun t b ht hb=>by
  rw [hO t ht,h.blk0] at hb;cases hb
 refine ⟨h.fr,hs,fun k σ ls hL' np=>?_,fun k σ ls hL' _=>(hL k σ ls hL').2.2,fun k σ ls hL' hσ=>(hσ (hL k σ ls hL').1).elim,fun t b hb=>?_,fun i t want ag ls e=>absurd e (hns i t want ag ls),fun d hd=>?_,fun i k hm=>?_,h.blk0,fun k k' b hk1 _ hb _=>(z k b hk1 hb).elim,fun k b j x hk1 hb _ _=>(z k b hk1 hb).elim,fun k b hk1 hb=>(z k b hk1 hb).elim,fun k b hk1 hb=>(z k b hk1 hb).elim,fun j j' x x' hj _ np _ _=>?_,
  ⟨fun t b ht hb=>(z t b ht hb).elim,fun k x hL' np=>?_,h.ows.lim,h.ows.fr,h.ows.mono,h.ows.i,h.ows.wr⟩⟩
 ·rw [(hL k σ ls hL').2.1] at np;cases np
 ·rw [hkn] at hb;cases hb
 ·rw [hfr] at hd;cases hd
 ·rw [hk i] at hm;cases hm
 ·rw [(hL j x.1 x.2 hj).2.1] at np;cases np
 ·rw [(hL k x.1 x.2 hL').2.1] at np;cases np
end
section
variable {E : Env} {F : Fr} {R : Type} {r : R} {ops : Array Oper}
theorem pvOps_pre (hE:E.okF F) {M:Nat->Prop} {Q:Exit->Act->World->Prop} (rest:List Oper):∀ (l:List Oper) (tr:List Rec) (g:Gh) (st:PSt) (a:Act) (w:World) (C:List Rec->PSt->Option R),(∀ o∈l,∀ x,o.dst=some x->x < F.n /\ M x)->AR F g st a w->pvOps E ops l tr st C=some r ->
  (∀ a' w' g' tr' st',C tr' st'=some r->AR F g' st' a' w'->Lft M (fun _=>False) g a w g' a' w'->wpList E.P ops Q rest a' w')->wpList E.P ops Q (l++rest) a w
 | [],tr,g,st,a,w,C,_,h,hv,hQ=>hQ a w g tr st hv h (Lft.refl _ _)
 | o::l,tr,g,st,a,w,C,hd,h,hv,hQ=>by
  refine wpList_step fun K hK=>?_
  unfold pvOps at hv
  refine pvStep_sound (Q:=Q) hE h (fun x hx=>(hd o (by simp) x hx).1) hv fun a' w' g' rc st' hC h' hl=>hK _ _ ?_
  refine pvOps_pre hE rest l _ g' st' a' w' C (fun o ho=>hd o (by simp [ho])) h' hC fun a2 w2 g2 tr2 st2 hC2 h2 hl2=>hQ a2 w2 g2 tr2 st2 hC2 h2 ?_
  exact (hl.mono (fun i hi=>(hd o (by simp) i hi).2) (fun _ hi=>hi)).trans hl2
theorem wpl_val {P:Program} {ops:Array Oper} {rest:List Oper} {o:Oper} {a:Act} {w w':World} {v:Value} {Q:Exit->Act->World->Prop} (hg:o.guard=none) (hr:(execOp a.eval o).run P w=.ok (.value v) w') (h:wpList P ops Q rest (a.put o.dst v) w'):wpList P ops Q (o::rest) a w:=by
 refine wpList_plain hg fun K hK=>?_
 unfold Oper.wp
 rw [hr,Oper.upon_value]
 exact hK _ _ h
theorem tm_at {a:Act} {d i:Nat} {u:Value} (hd:d < a.tmps.size):tm (a.put (some d) u) i=if d=i then u else tm a i:=by
 rw [tm_put a (some d) u i (fun x e=>by cases e;exact hd)]
 simp
end
section
variable {E : Env} {F : Fr} {g : Gh} {st : PSt} {w : World}
theorem erase_handTail (r:Nat) (h:PSt->Option (Bool×PSt)):∀ ac:AC,(ac.handTail r h).erase=ac.erase:=by
 intro ac
 induction ac with
 | seq a b iha ihb=>
  unfold AC.handTail
  split
  ·split
   ·rfl
   ·exact congrArg (Code.seq _) ihb
  ·exact congrArg (Code.seq _) ihb
 | _=>rfl
theorem fnT_calls {T:Tab} (hE:E.ok T) {r:Nat} {h:PSt->Option (Bool×PSt)} {A:List (Nat×Ann)} {f:FuncId} {fn:Func} {s:Sig} (hf:E.P.funcs[f]? = some fn) (hh:∀ c ac k,fn.body=some c->annot A c 0=some (ac,k) -> ∀ p∈(ac.handTail r h).hands,HandS E.P F p.1 p.2)
    {xs:List Dat} {y:s.out.D} {tmf:Nat->Value} {args:Array Value} (hT:TabF T F) (hent:entrySt s xs=some st) (happ:appF s.ins (pvFnT r h E A fn s) xs=some y) (hrel:MRel F g st tmf w) (hw:F.w0=w) (hPT:∀ k,F.PT k ↔ ∃ e,(k,e,true)∈s.pls) (hn:F.n=fn.ntmps)
    (hsz:args.size=s.ps.length) (htm:∀ i,tmf i=args.getD i undef):Calls E.P f args w fun e w'=>∃ us g' st',e=.returned (retV us) /\ us.length=s.rs.length /\ exitSt s y=some st' /\ MRel F g' st' (fun i=>us.getD i undef) w' /\ ∀ k,isM s.ps k=true->g'.ρ k=g.ρ k:=by
  have hv:=appF_curry _ _ _ _ happ
  unfold pvFnTL at hv
  rw [hent] at hv
  split at hv
  case h_2=>cases hv
  rename_i c st0 hb he
  injection he with he
  subst he
  split at hv
  case h_2=>cases hv
  rename_i ac0 k hac
  obtain ⟨ac,hace⟩:∃ ac,ac=AC.handTail r h ac0:=⟨_,rfl⟩
  rw [<-hace] at hv
  simp only at hv
  split at hv
  case h_2=>cases hv
  rename_i hgd
  simp only [Bool.and_eq_true] at hgd
  obtain ⟨⟨⟨⟨⟨⟨hg1,hg2⟩,hg3⟩,hg6⟩,hg7⟩,hg4⟩,hg5⟩:=hgd
  have hFn:=hn
  have hn6:F.n<=1000000:=by rw [hFn];exact Nat.le_of_ble_eq_true hg7
  have hmp:∀ k,isM s.ps k=true->isPool k=false:=fun k hk=>by
    obtain ⟨ts,hts⟩:=isM_iff.1 hk
    have:=(List.getElem?_eq_some_iff.1 hts).1
    have h3:=Nat.le_of_ble_eq_true hg3
    show Nat.ble 1000000 k=false
    rw [<-Bool.not_eq_true,Nat.ble_eq]
    omega
  have hle:args.size<=fn.ntmps:=by rw [hsz];rw [Nat.ble_eq] at hg3;exact hg3
  have hdst:∀ d∈ac.dsts,d < F.n:=fun d hd=>by
    have:=List.all_eq_true.1 hg2 d hd
    rw [Nat.blt_eq] at this
    omega
  have htm':tm { tmps:=args++Array.replicate (fn.ntmps - args.size) undef,defers:=[] }=tmf:=by
    funext i
    rw [htm i]
    unfold tm
    simp only [Array.getD_eq_getD_getElem?,Array.getElem?_append]
    by_cases hlt:i < args.size
    · simp [hlt]
    · rw [if_neg hlt,Array.getElem?_eq_none (show args.size<=i by omega)]
      simp only [Array.getElem?_replicate,Option.getD_none]
      split <;> rfl
  have hAR:AR F g st { tmps:=args++Array.replicate (fn.ntmps - args.size) undef,defers:=[] } w:=⟨by simp;omega,rfl,by rw [htm'];exact hrel⟩
  have he:ac.erase=c:=by rw [hace,erase_handTail];exact annot_erase c 0 ac0 k hac
  refine calls_of_wp hf hb ?_
  have hs:=pv_sound hn6 ⟨T,hE,hT⟩ ac (by rw [hace];exact hh c ac0 k hb hac) _ st y g _ w hg1 hdst hAR hv
  rw [he] at hs
  have fin : ∀ {x a' w' g' st'}, retF E.P fn.results.toList s st' = some y -> AR F g' st' a' w' -> LftX x (· ∈ ac.dsts) (· ∈ ac.ids) g { tmps := args ++ Array.replicate (fn.ntmps - args.size) undef, defers := [] } w g' a' w' ->
      a'.defers=[] /\ ∃ v,(results fn a'.tmps).run E.P w'=.ok v w' /\ ∃ us g' st',Ending.returned v=.returned (retV us) /\ us.length=s.rs.length /\ exitSt s y=some st' /\ MRel F g' st' (fun i=>us.getD i undef) w' /\ ∀ k,isM s.ps k=true->g'.ρ k=g.ρ k:=fun {x a' w' g' st'} hr hA hl=>by
    obtain ⟨us,g2,stX,r1,r2,r3,r4,r5,r6⟩:=exit_relF hg6 hmp hA hr
    refine ⟨hA.defers,retV us,results_run r2 r3,us,g2,stX,rfl,r1,r4,r5,fun k hk=>?_⟩
    rw [r6]
    refine hl.ρ k fun hm=>?_
    have hlt:k < s.ps.length:=by
      obtain ⟨ts,hts⟩:=isM_iff.1 hk
      exact (List.getElem?_eq_some_iff.1 hts).1
    have:=List.all_eq_true.1 hg5 k (List.mem_range.2 hlt)
    rw [hk,hasN_iff.2 hm] at this
    cases this
  refine Code.wp_mono (fun e a' w' hp=>?_) hs
  obtain ⟨x,st',g',rfl,hQ,hr,hl⟩:=hp
  cases x with
  | exit i=>cases hQ
  | normal=>exact fin hQ hr hl
  | ret=>exact fin hQ hr hl
  | goto i=>cases hQ
theorem fn_soundT {T:Tab} (hE:E.ok T) {r:Nat} {h:PSt->Option (Bool×PSt)} {A:List (Nat×Ann)} {f:FuncId} {fn:Func} {s:Sig} (hf:E.P.funcs[f]? = some fn)
  (hh:∀ F:Fr,F.n=fn.ntmps->(∀ k,F.PT k ↔ ∃ e,(k,e,true)∈s.pls) -> ∀ c ac k,fn.body=some c->annot A c 0=some (ac,k) -> ∀ p∈(ac.handTail r h).hands,HandS E.P F p.1 p.2):SoundFn E.P T f s ⟨pvFnT r h E A fn s⟩:=by
 intro F g st xs y tmf w args hT hent happ hrel hw hPT hn hsz htm
 exact fnT_calls hE hf (hh F (hn fn hf) hPT) hT hent happ hrel hw hPT (hn fn hf) hsz htm
end
end Pv
end Go.Proofs.YtifbhefbhlbofaaDoor
namespace Go.Proofs.YtifbhefbhlbofaaDoor
open Pv Go.ChangeMaps
set_option linter.unusedVariables false
noncomputable def apEnv:Env:=⟨Tryd.prog,[(47,⟨F_flow_Windows_sig,⟨F_flow_Windows⟩⟩),(51,⟨F_flow_Shift_sig,⟨F_flow_Shift⟩⟩),(49,⟨F_flow_Stream_sig,⟨F_flow_Stream⟩⟩)],[]⟩
theorem apEnv_ok (F:Fr):apEnv.okF F:=⟨[],by unfold Env.ok;exact List.forall_mem_cons.2 ⟨F_flow_Windows_sound,List.forall_mem_cons.2 ⟨F_flow_Shift_sound,List.forall_mem_cons.2 ⟨F_flow_Stream_sound,fun p h=>by cases h⟩⟩⟩,fun p h=>by cases h⟩
abbrev apAnn:List (Nat×Ann):=[(10,⟨910,[],[],[],[],[],[]⟩)]
def apL2 (v v' v'':Nat) (b:Bool) (W:List ApW) (S:List ApS) (M:List ApM):Nat->Option (Nat×List Leaf):=findL [(kW,[.d (.arr v apWt) W]),(kS,[.d (.arr v' apSt) S]),(kM,[poolLeaf b v'' apMt M])]
def apSt2 (q:PV) (v v' v'':Nat) (b:Bool) (p by_:Int) (W:List ApW) (S:List ApS) (M:List ApM):PSt:=
 ⟨fun i=>match i with | 0=>.w false [.d (.ptr 59) p] | 5=>pint .i64 by_ | 7=>q | _=>.dead,apL2 v v' v'' b W S M,fun t=>tokEq t .zero,[],[],[]⟩
noncomputable def apObs2 (s:PSt):Option (Int×Int×List ApW×List ApS×List ApM):=match s.φ 0,s.φ 5 with
 | .w false [.d (.ptr T) p],.w false [.d (.int .i64) b]=>match Nat.beq T 59,apObs s.L with
  | true,some (W,S,M)=>some (p,b,W,S,M)
  | _,_=>none
 | _,_=>none
section
variable {F : Fr} {g : Gh} {st : PSt} {w : World} {tmf tmf' : Nat -> Value}
theorem pool_cast (h:MRel F g st tmf w) {k v:Nat} {b:Bool} {e e':Ty} {l:List e.D} {l':List e'.D} (hp:poolL st.L k=some (b,v,⟨e,l⟩)) (hk:isPool k=true) (hc:castD (t:=.sl e) (.sl e') l=some l'):PoolOk F g w [poolLeaf b v e' l'] k:=by
 obtain ⟨he,hx⟩:=castD_some hc
 injection he with he
 subst he
 subst hx
 obtain ⟨σ,hp⟩:=poolL_some hp
 rcases hp with ⟨rfl,hL⟩ | ⟨rfl,_,hL⟩
 ·exact h.pools k σ _ hL hk
 ·exact h.pools k σ _ hL hk
theorem obs_pools (h:MRel F g st tmf w) {W:List ApW} {S:List ApS} {M:List ApM} (ho:apObs st.L=some (W,S,M)):∃ (v v' v'':Nat) (b:Bool),PoolOk F g w [.d (.arr v apWt) W] kW /\ PoolOk F g w [.d (.arr v' apSt) S] kS /\ PoolOk F g w [poolLeaf b v'' apMt M] kM:=by
 unfold apObs at ho
 split at ho
 ·rename_i v e l v' e' l' b v'' e'' l'' h1 h2 h3
  split at ho
  ·rename_i W' S' M' c1 c2 c3
   injection ho with ho
   injection ho with q1 ho
   injection ho with q2 q3
   subst q1;subst q2;subst q3
   exact ⟨v,v',v'',b,pool_cast h h1 (isPool_pk _) c1,pool_cast h h2 (isPool_pk _) c2,pool_cast h h3 (isPool_mk _) c3⟩
  ·cases ho
 ·cases ho
theorem obs2_some {p by_:Int} {W:List ApW} {S:List ApS} {M:List ApM} (h:apObs2 st=some (p,by_,W,S,M)):st.φ 0=.w false [.d (.ptr 59) p] /\ st.φ 5=.w false [.d (.int .i64) by_] /\ apObs st.L=some (W,S,M):=by
 unfold apObs2 at h
 split at h
 ·rename_i T p' b' h0 h5
  split at h
  ·rename_i W' S' M' hT ho
   injection h with h
   injection h with q1 h
   injection h with q2 h
   injection h with q3 h
   injection h with q4 q5
   subst q1;subst q2;subst q3;subst q4;subst q5
   rw [Nat.eq_of_beq_eq_true hT] at h0
   exact ⟨h0,h5,ho⟩
  ·cases h
 ·cases h
theorem leaf_any {t:Ty} {x:t.D} {u:Value} {O O':Tok->Bool} {ρ':Nat->Nat×Nat} (h:RelP F g w O tmf u (.w false [.d t x])):RelP F { g with ρ:=ρ' } w O' tmf' u (.w false [.d t x]):=by
 obtain ⟨cs,h1,h2⟩:=h
 exact ⟨cs,repLs_single.2 (repLs_single.1 h1),h2⟩
theorem ap_canon (h:MRel F g st tmf w) {v v' v'':Nat} {b:Bool} {p by_:Int} {W:List ApW} {S:List ApS} {M:List ApM} (h1:PoolOk F g w [.d (.arr v apWt) W] kW) (h2:PoolOk F g w [.d (.arr v' apSt) S] kS) (h3:PoolOk F g w [poolLeaf b v'' apMt M] kM) (ρ':Nat->Nat×Nat) {q:PV}
  (r0:RelP F g w (fun _=>false) tmf' (tmf' 0) (.w false [.d (.ptr 59) p])) (r5:RelP F g w (fun _=>false) tmf' (tmf' 5) (.w false [.d (.int .i64) by_])) (hq:q=.dead \/ ∃ s,q=.w false [.d (.ptr 71) s] /\ RelP F g w (fun _=>false) tmf' (tmf' 7) (.w false [.d (.ptr 71) s])) :
  MRel F { g with ρ:=ρ' } (apSt2 q v v' v'' b p by_ W S M) tmf' w:=by
 have hφ:∀ i,(apSt2 q v v' v'' b p by_ W S M).φ i=.dead \/ (i=0 /\ (apSt2 q v v' v'' b p by_ W S M).φ i=.w false [.d (.ptr 59) p]) \/ (i=5 /\ (apSt2 q v v' v'' b p by_ W S M).φ i=.w false [.d (.int .i64) by_]) \/ (i=7 /\ (apSt2 q v v' v'' b p by_ W S M).φ i=q):=fun i=>by
  unfold apSt2
  dsimp only
  split
  ·exact .inr (.inl ⟨rfl,rfl⟩)
  ·exact .inr (.inr (.inl ⟨rfl,rfl⟩))
  ·exact .inr (.inr (.inr ⟨rfl,rfl⟩))
  ·exact .inl rfl
 refine MRel.to_pools ρ' h (fun k σ ls hL=>?_) (fun t ht=>?_) rfl rfl rfl (fun i=>?_) (fun i t want ag ls e=>?_) (fun i=>?_)
 ·have hL:findL [(kW,[.d (.arr v apWt) W]),(kS,[.d (.arr v' apSt) S]),(kM,[poolLeaf b v'' apMt M])] k=some (σ,ls):=hL
  unfold findL at hL
  split at hL
  ·rename_i hk
   have hk:=Nat.eq_of_beq_eq_true hk
   subst hk
   cases hL
   exact ⟨rfl,isPool_pk _,h1⟩
  ·unfold findL at hL
   split at hL
   ·rename_i hk
    have hk:=Nat.eq_of_beq_eq_true hk
    subst hk
    cases hL
    exact ⟨rfl,isPool_pk _,h2⟩
   ·unfold findL at hL
    split at hL
    ·rename_i hk
     have hk:=Nat.eq_of_beq_eq_true hk
     subst hk
     cases hL
     exact ⟨rfl,isPool_mk _,h3⟩
    ·cases hL
 ·have ht:tokEq t .zero=true:=ht
  cases t <;> first | rfl | cases ht
 ·rcases hφ i with e | ⟨e0,e⟩ | ⟨e0,e⟩ | ⟨e0,e⟩
  ·rw [e];trivial
  ·rw [e,e0];exact leaf_any r0
  ·rw [e,e0];exact leaf_any r5
  ·rw [e,e0]
   rcases hq with rfl | ⟨s,rfl,r7⟩
   ·trivial
   ·exact leaf_any r7
 ·rcases hφ i with e1 | ⟨_,e1⟩ | ⟨_,e1⟩ | ⟨_,e1⟩
  ·rw [e1] at e;cases e
  ·rw [e1] at e;cases e
  ·rw [e1] at e;cases e
  ·rw [e1] at e
   rcases hq with rfl | ⟨s,rfl,_⟩ <;> cases e
 ·rcases hφ i with e1 | ⟨_,e1⟩ | ⟨_,e1⟩ | ⟨_,e1⟩
  ·rw [e1];rfl
  ·rw [e1];rfl
  ·rw [e1];rfl
  ·rw [e1]
   rcases hq with rfl | ⟨s,rfl,_⟩ <;> rfl
theorem ap_weak {v:Nat} {S S':List ApS} (h:PoolOk F g w [.d (.arr v apSt) S] kS) (hl:S'.length=S.length) (hx:∀ (j:Nat) x',S'[j]? = some x' -> ∃ x,S[j]? = some x /\ (x'=x \/ x'=(none,x.2))):PoolOk F g w [.d (.arr v apSt) S'] kS:=by
 obtain ⟨e,l,h1,h2,h3⟩:=h
 rcases h1 with ⟨v1,h1,h4,h5⟩ | h1
 ·cases h1
  refine ⟨apSt,S',.inl ⟨v,rfl,h4,h5⟩,fun j b hb=>?_,fun j x' hj=>?_⟩
  ·have:=h2 j b hb
   have hl:List.length (α:=Ty.D apSt) S'=List.length (α:=Ty.D apSt) S:=hl
   omega
  ·obtain ⟨x,y1,y2⟩:=hx j x' hj
   have h6:=h3 j x y1
   rcases y2 with rfl | rfl
   ·exact h6
   ·unfold ItemOk at h6 ⊢
    rw [isMapK_pk] at h6 ⊢
    obtain ⟨b,cur,T,fr,z1,z2,z3,z4,z5,z6,z7⟩:=h6
    refine ⟨b,cur,T,fr,z1,z2,z3,?_,z5,z6,z7⟩
    obtain ⟨c1,c2,k1,⟨n,k2,k3,k4⟩,k5⟩:=z4
    exact ⟨c1,c2,k1,⟨n,k2,k3,fun m hm=>by cases hm⟩,k5⟩
 ·cases h1
end
noncomputable def apHands:List (Code×(PSt->Option (Bool×PSt))):=match Tryd.f34.body with
 | some c=>(match annot apAnn c 0 with
  | some (ac,_)=>(ac.handTail 7 apTail).hands
  | none=>[])
 | none=>[]
noncomputable def apBody (p s by_:Int) (W:List ApW) (S:List ApS) (M:List ApM):Option (Int×Int×List ApW×List ApS×List ApM):=
 chk (nnI p) ((getI W p).bind fun w=>cond (!w.2.2.2.2.1)
  (chk (nnI s) ((getI S s).bind fun x=>(x.1).bind fun n=>(F_flow_Windows n 0).bind fun z=>(F_flow_Shift z by_).bind fun y=>(F_flow_Stream y.1).bind fun k=>
   chk (nnI s) ((getI S s).bind fun x'=>chk (nnI p) ((getI W p).bind fun w'=>some (p,by_,W.set p.toNat (w'.1,(w'.2.1,(w'.2.2.1,(w'.2.2.2.1,(y.2.1,w'.2.2.2.2.2))))),S.set s.toNat (some k,x'.2),M)))))
  (some (p,by_,W,S,M)))
noncomputable def roundQ (x:Xt) (s:PSt):Option (Int×Int×List ApW×List ApS×List ApM):=match x with
 | .normal=>apObs2 s
 | _=>none
def sndC:Code->Code
 | .seq _ b=>b
 | c=>c
def fstC:Code->Code
 | .seq a _=>a
 | c=>c
def inC:Code->Code
 | .block _ b=>b
 | .loop b=>b
 | c=>c
noncomputable def apRoundC:Code:=match Tryd.f34.body with
 | some c=>sndC (inC (sndC (sndC (inC (inC (sndC (fstC (sndC (sndC (sndC (sndC (sndC (sndC c)))))))))))))
 | none=>.skip
noncomputable def apRound:Option AC:=match annot [] apRoundC 0 with | some (ac,_)=>some ac | none=>none
theorem apRound_text (v v' v'':Nat) (b:Bool):(fun (p s by_:Int) (W:List ApW) (S:List ApS) (M:List ApM)=>match apRound with | some ac=>pv apEnv ac roundQ (apSt2 (.w false [.d (.ptr 71) s]) v v' v'' b p by_ W S M) | none=>none)=apBody:=by
 cases b <;> kernel_rfl
noncomputable def apTailC:Code:=match Tryd.f34.body with
 | some c=>sndC (sndC (sndC (sndC (sndC (sndC c)))))
 | none=>.skip
def opsC:Code->Array Oper
 | .region _ o _=>o
 | _=>#[]
noncomputable def ops7:Array Oper:=opsC (fstC (fstC apTailC))
noncomputable def loopB:Code:=inC (inC (sndC (fstC apTailC)))
noncomputable def ops8:Array Oper:=opsC (fstC loopB)
noncomputable def ops9:Array Oper:=opsC (fstC (inC (sndC (sndC loopB))))
noncomputable def ops13:Array Oper:=opsC (fstC (sndC apTailC))
theorem ap_shape:apTailC=.seq (.seq (.region 7 ops7 false) (.block 0 (.loop (.seq (.region 8 ops8 false) (.seq (.cond (.tmp 61) .skip (.exit 0)) (.block 1 (.seq (.region 9 ops9 false) apRoundC))))))) (.seq (.region 13 ops13 false) .ret):=by kernel_rfl
theorem ap_hands:apHands=[(apTailC,apTail)]:=by kernel_rfl
theorem ap_good:(match apRound with | some ac=>ac.good&&ac.dsts.all (fun d=>Nat.blt d 89&&Nat.blt 7 d&&notB (Nat.beq d 59))&&(match ac.hands with | []=>true | _=>false) | none=>false)=true:=by kernel_rfl
noncomputable def headC (s:PSt):Option (Int×Int×Int×List ApW×List ApS×List ApM):=match s.φ 58 with
 | .w false [.d (.mp T) m]=>(match Nat.beq T 51,apObs2 s with | true,some x=>some (m,x) | _,_=>none)
 | _=>none
theorem head_text (v v' v'':Nat) (b:Bool):(fun (p by_:Int) (W:List ApW) (S:List ApS) (M:List ApM)=>pvOps apEnv ops7 (ops7.toList.take 4) [] (apSt2 .dead v v' v'' b p by_ W S M) (fun _ s=>headC s))=fun p by_ W S M=>chk (nnI p) ((getI W p).bind fun w=>some (w.2.2.2.2.2.2.2.1,(p,by_,W,S,M))):=by
 cases b <;> kernel_rfl
theorem ops7_dst:ops7.toList.map (·.dst)=[some 55,some 56,some 57,some 58,some 59]:=by kernel_rfl
theorem ops7_last:(ops7.toList.drop 4).map (fun o=>(o.dst,o.op,o.guard))=[(some 59,.range 51 (.tmp 58),none)]:=by kernel_rfl
theorem ops8_is:ops8.toList.map (fun o=>(o.dst,o.op,o.guard))=[(some 60,.next (.tmp 59) false,none),(some 61,.extract (.tmp 60) 0,none)]:=by kernel_rfl
theorem ops8_ty:ops8.toList.map (fun o=>o.type)=[0,4]:=by kernel_rfl
theorem ops9_is:ops9.toList.map (fun o=>(o.dst,o.op,o.guard))=[(some 62,.entry (.tmp 59),none),(some 63,.extract (.tmp 62) 1,none),(some 7,.assign (.tmp 63),none)]:=by kernel_rfl
theorem ops13_is:ops13.toList.map (fun o=>(o.dst,o.op,o.guard))=[(some 2,.assign (.const (.bool true)),none)]:=by kernel_rfl
theorem run_ext {P:Program} {w:World} {vs:Array Value} {i:Nat} {v:Value} (h:vs[i]? = some v):(Instr.extract (.tuple vs) i).run P w=.ok v w:=by
 simp [Instr.extract,h]
theorem eval_tmp (a:Act) (i:Nat):a.eval (.tmp i)=tm a i:=rfl
theorem apL2_pool {v v' v'' k:Nat} {b:Bool} {W:List ApW} {S:List ApS} {M:List ApM} {x:Nat×List Leaf} (hL:apL2 v v' v'' b W S M k=some x):isPool k=true:=by
 unfold apL2 findL at hL
 split at hL
 ·rename_i hk;rw [<-Nat.eq_of_beq_eq_true hk];exact isPool_pk _
 ·unfold findL at hL
  split at hL
  ·rename_i hk;rw [<-Nat.eq_of_beq_eq_true hk];exact isPool_pk _
  ·unfold findL at hL
   split at hL
   ·rename_i hk;rw [<-Nat.eq_of_beq_eq_true hk];exact isPool_mk _
   ·cases hL
section
variable {F : Fr} {g : Gh} {w : World} {tmf : Nat -> Value}
theorem map_here {q:PV} {v v' v'':Nat} {b:Bool} {p by_:Int} {W:List ApW} {S:List ApS} {M:List ApM} (h:MRel F g (apSt2 q v v' v'' b p by_ W S M) tmf w) (hPT:¬ F.PT kM) {mi bm:Nat} {ms:ApM} (hM:M[mi]? = some ms) (hC:F.C0.i kM mi=some bm) :
  g.ow bm=some (kM,mi,none) /\ ∃ ens clock,w.heap[bm]? = some (.map ens clock) /\ EntOk w g.C (.int .i64) (.ptr 71) ms ens.toList clock:=by
 have hi:g.C.i kM mi=some bm:=(h.ows.i kM hPT mi).trans hC
 have hL:(apSt2 q v v' v'' b p by_ W S M).L kM=some (0,[poolLeaf b v'' apMt M]):=rfl
 obtain ⟨e,l,h1,h2,h3⟩:=h.pools kM _ _ hL (isPool_mk _)
 have key:∀ (l':List ApM),l'=M->ItemOk g w kM apMt mi ms->g.ow bm=some (kM,mi,none) /\ ∃ ens clock,w.heap[bm]? = some (.map ens clock) /\ EntOk w g.C (.int .i64) (.ptr 71) ms ens.toList clock:=fun _ _ h4=>by
  unfold ItemOk at h4
  rw [isMapK_mk] at h4
  obtain ⟨b',ens,clock,q1,q2,q3,q4,q5⟩:=h4
  rw [hi] at q1
  cases q1
  exact ⟨q2,ens,clock,q3,q5⟩
 cases b with
 | true=>
  rcases h1 with ⟨v1,h1,_⟩ | h1
  ·cases h1
   exact key M rfl (h3 mi ms hM)
  ·cases h1
 | false=>
  rcases h1 with ⟨v1,h1,_⟩ | h1
  ·cases h1
  ·cases h1
   exact key M rfl (h3 mi ms hM)
end
def apInv (F:Fr) (r bm:Nat) (ens:Array MapEntry) (clock:Nat) (p:Nat) (by_:Int) (ms:ApM) (M:List ApM) (W0:List ApW) (w0:ApW) (S0:List ApS) (n:Nat) (a:Act) (w:World):Prop:=
 ∃ (g:Gh) (W:List ApW) (S:List ApS) (v v' v'':Nat) (b:Bool) (seen:Array Nat) (c:Nat) (bl:Bool),
  n=(leftOf ens seen).size /\ a.tmps.size=F.n /\ a.defers=[] /\ tm a 59=.pointer (some ⟨r,0,none⟩) /\ MRel F g (apSt2 .dead v v' v'' b (p:Int) by_ W S M) (tm a) w /\
  r < w.heap.size /\ w.heap[r]? = some (.mapIter (some bm) clock seen c) /\ clock<=c /\ w.heap[bm]? = some (.map ens clock) /\ g.ow r=none /\ ApRel by_ p ms ens.toList W0 w0 S0 seen bl W S
theorem run_of {P:Program} {a:Act} {o:Oper} {w w':World} {s:Sem Value} {v:Value} (h:execOp a.eval o=(do let x <-s;pure (.value x))) (hr:s.run P w=.ok v w'):(execOp a.eval o).run P w=.ok (.value v) w':=by
 rw [h,Sem.run_bind,hr];rfl
theorem one_map {α β:Type} {f:α->β} {l:List α} {x:β} (h:l.map f=[x]):∃ a,l=[a] /\ f a=x:=by
 cases l with
 | nil=>cases h
 | cons a l=>
  injection h with h1 h2
  cases l with
  | nil=>exact ⟨a,rfl,h1⟩
  | cons _ _=>cases h2
theorem two_map {α β:Type} {f:α->β} {l:List α} {x y:β} (h:l.map f=[x,y]):∃ a b,l=[a,b] /\ f a=x /\ f b=y:=by
 cases l with
 | nil=>cases h
 | cons a l=>
  injection h with h1 h2
  obtain ⟨b,rfl,h3⟩:=one_map h2
  exact ⟨a,b,rfl,h1,h3⟩
theorem three_map {α β:Type} {f:α->β} {l:List α} {x y z:β} (h:l.map f=[x,y,z]):∃ a b c,l=[a,b,c] /\ f a=x /\ f b=y /\ f c=z:=by
 cases l with
 | nil=>cases h
 | cons a l=>
  injection h with h1 h2
  obtain ⟨b,c,rfl,h3,h4⟩:=two_map h2
  exact ⟨a,b,c,rfl,h1,h3,h4⟩
section
variable {F : Fr} {Q : Exit -> Act -> World -> Prop}
theorem wp8 (hn:F.n=89) {a:Act} {w w':World} {t:Bool} {ts:List Value} {K:Act->World->Prop} (hs:a.tmps.size=F.n) (h59:(Instr.next (tm a 59) false 0).run Tryd.prog w=.ok (.tuple ⟨.bool t::ts⟩) w')
  (hK:K ((a.put (some 60) (.tuple ⟨.bool t::ts⟩)).put (some 61) (.bool t)) w'):(Code.region 8 ops8 false).wp Tryd.prog (Exit.then K Q) a w:=by
 obtain ⟨o1,o2,hl,h1,h2⟩:=two_map ops8_is
 have hty:o1.type=0:=by
  have:=ops8_ty
  rw [hl] at this
  injection this
 injection h1 with d1 h1
 injection h1 with p1 g1
 injection h2 with d2 h2
 injection h2 with p2 g2
 refine wp_region_list ?_
 rw [hl]
 refine wpl_val g1 (run_of (s:=Instr.next (tm a 59) false 0) (by unfold execOp;rw [p1,<- hty] <;> rfl) h59) ?_
 rw [d1]
 have e60:(a.put (some 60) (.tuple ⟨.bool t::ts⟩)).eval (.tmp 60)=.tuple ⟨.bool t::ts⟩:=by
  rw [eval_tmp,tm_at (by rw [hs,hn];decide),if_pos rfl]
 refine wpl_val (v:=.bool t) g2 (run_of (s:=Instr.extract ((a.put (some 60) (.tuple ⟨.bool t::ts⟩)).eval (.tmp 60)) 0) (by unfold execOp;rw [p2] <;> rfl) (by rw [e60];exact run_ext rfl)) ?_
 rw [d2]
 exact wpList_nil hK
theorem wp9 (hn:F.n=89) {a:Act} {w:World} {key val:Value} {K:Act->World->Prop} (hs:a.tmps.size=F.n) (h59:(Instr.entry (tm a 59)).run Tryd.prog w=.ok (.tuple #[key,val]) w)
  (hK:K (((a.put (some 62) (.tuple #[key,val])).put (some 63) val).put (some 7) val) w):(Code.region 9 ops9 false).wp Tryd.prog (Exit.then K Q) a w:=by
 obtain ⟨o1,o2,o3,hl,h1,h2,h3⟩:=three_map ops9_is
 injection h1 with d1 h1
 injection h1 with p1 g1
 injection h2 with d2 h2
 injection h2 with p2 g2
 injection h3 with d3 h3
 injection h3 with p3 g3
 refine wp_region_list ?_
 rw [hl]
 refine wpl_val g1 (run_of (s:=Instr.entry (tm a 59)) (by unfold execOp;rw [p1] <;> rfl) h59) ?_
 rw [d1]
 have e62:(a.put (some 62) (.tuple #[key,val])).eval (.tmp 62)=.tuple #[key,val]:=by
  rw [eval_tmp,tm_at (by rw [hs,hn];decide),if_pos rfl]
 refine wpl_val (v:=val) g2 (run_of (s:=Instr.extract ((a.put (some 62) (.tuple #[key,val])).eval (.tmp 62)) 1) (by unfold execOp;rw [p2] <;> rfl) (by rw [e62];exact run_ext rfl)) ?_
 rw [d2]
 have e63:((a.put (some 62) (.tuple #[key,val])).put (some 63) val).eval (.tmp 63)=val:=by
  rw [eval_tmp,tm_at (by rw [put_size,hs,hn];decide),if_pos rfl]
 refine wpl_val (v:=val) g3 (by unfold execOp;rw [p3];show (pure (Next.value (Act.eval _ (.tmp 63))):Sem Next).run _ _=_;rw [e63];rfl) ?_
 rw [d3]
 exact wpList_nil hK
theorem wp13 (hn:F.n=89) {a:Act} {w:World} {K:Act->World->Prop} (hs:a.tmps.size=F.n) (hK:K (a.put (some 2) (.bool true)) w):(Code.region 13 ops13 false).wp Tryd.prog (Exit.then K Q) a w:=by
 obtain ⟨o1,hl,h1⟩:=one_map ops13_is
 injection h1 with d1 h1
 injection h1 with p1 g1
 refine wp_region_list ?_
 rw [hl]
 refine wpl_val (v:=.bool true) g1 (by unfold execOp;rw [p1] <;> rfl) ?_
 rw [d1]
 exact wpList_nil hK
theorem ap_round (hn:F.n=89) (hPT:¬ F.PT kM) {r bm:Nat} {ens:Array MapEntry} {clock p mi:Nat} {by_:Int} {ms:ApM} {M:List ApM} {W0:List ApW} {w0:ApW} {S0:List ApS} (hrF:F.w0.heap.size<=r) (hrb:r≠bm) (hM:M[mi]? = some ms) (hC:F.C0.i kM mi=some bm)
    (hW0:W0[p]? = some w0) (hok:ms.all (winOk by_ S0)=true) (hnd:(ms.map (·.2)).Nodup) (hQ:∀ a w,apInv F r bm ens clock p by_ ms M W0 w0 S0 0 a w->Q (.exit 0) a w) (n:Nat) (a:Act) (w:World) (hI:apInv F r bm ens clock p by_ ms M W0 w0 S0 n a w) :
    (Code.seq (.region 8 ops8 false) (.seq (.cond (.tmp 61) .skip (.exit 0)) (.block 1 (.seq (.region 9 ops9 false) apRoundC)))).wp Tryd.prog (Exit.then (fun a' w'=>∃ n',n' < n /\ apInv F r bm ens clock p by_ ms M W0 w0 S0 n' a' w') Q) a w:=by
  obtain ⟨g,W,S,v,v',v'',b,seen,c,bl,hnl,hs,hd,h59,hR,hrl,hr,hcc,hb,how,hA⟩:=hI
  obtain ⟨hob,ens',clock',hb',hE⟩:=map_here hR hPT hM hC
  rw [hb] at hb'
  cases hb'
  have hborn:(ens.toList.map (·.born)).Nodup:=hE.2.2.1
  have hlen:ens.toList.length=ms.length:=hE.1
  have hold:∀ x∈ens.toList,x.born < clock:=fun x hx=>by
    obtain ⟨i,hi⟩:=List.mem_iff_getElem?.1 hx
    have hil:i < ms.length:=by rw [<-hlen];exact (List.getElem?_eq_some_iff.1 hi).1
    exact (hE.2.1 i _ x (List.getElem?_eq_getElem hil) hi).2.2
  have h0s:∀ {d i:Nat} {a:Act} {u:Value},a.tmps.size=F.n->d < 89->tm (a.put (some d) u) i=if d=i then u else tm a i:=fun hs hd=>tm_at (by rw [hs,hn];exact hd)
  rcases run_next_at (P:=Tryd.prog) w 0 r bm clock c seen ens clock hr hb hold hcc with ⟨hz,hnext⟩ | ⟨e,he,w1,hw1,hnext⟩
  · rw [<-h59] at hnext
    refine wp_seq (wp8 hn hs hnext ?_)
    refine wp_seq (wp_cond_false ?_ (wp_exit ?_))
    · rw [eval_tmp,h0s (by rw [put_size];exact hs) (by decide),if_pos rfl]
    · show Q (.exit 0) _ w
      refine hQ _ _ ⟨g,W,S,v,v',v'',b,seen,c,bl,hz.symm,by rw [put_size,put_size];exact hs,by rw [put_defers,put_defers];exact hd,?_,?_,hrl,hr,hcc,hb,how,hA⟩
      · rw [h0s (by rw [put_size];exact hs) (by decide),if_neg (by decide),h0s hs (by decide),if_neg (by decide)];exact h59
      · have t0 : ∀ i, i ≠ 60 -> i ≠ 61 -> tm ((a.put (some 60) (.tuple ⟨[.bool false]⟩)).put (some 61) (.bool false)) i = tm a i := fun i h1 h2 => by
          rw [h0s (by rw [put_size];exact hs) (by decide),if_neg (fun e=>h2 e.symm),h0s hs (by decide),if_neg (fun e=>h1 e.symm)]
        have r0:=hR.slots 0
        have r5:=hR.slots 5
        exact ap_canon hR (hR.pools kW 0 _ rfl (isPool_pk _)) (hR.pools kS 0 _ rfl (isPool_pk _)) (hR.pools kM 0 _ rfl (isPool_mk _)) g.ρ (by rw [t0 0 (by decide) (by decide)];exact leaf_any r0) (by rw [t0 5 (by decide) (by decide)];exact leaf_any r5) (.inl rfl)
  · rw [<-h59] at hnext
    obtain ⟨hee,hsee⟩:=mem_left he
    obtain ⟨i,hi⟩:=List.mem_iff_getElem?.1 hee
    have hil:i < ms.length:=by rw [<-hlen];exact (List.getElem?_eq_some_iff.1 hi).1
    obtain ⟨q,hq⟩:∃ q,ms[i]? = some q:=⟨_,List.getElem?_eq_getElem hil⟩
    obtain ⟨hkey,hval,hbl⟩:=hE.2.1 i q e hq hi
    -- the world behind the choice
    obtain ⟨w2,hw2⟩:∃ w2,setBlock w1 r (.mapIter (some bm) clock (seen.push e.born) clock)=w2:=⟨_,rfl⟩
    rw [hw2] at hnext
    have hh1:w1.heap=w.heap:=by rcases hw1 with rfl | rfl <;> rfl
    have hos1:w1.os=w.os /\ w1.tape=w.tape /\ w1.output=w.output:=by rcases hw1 with rfl | rfl <;> exact ⟨rfl,rfl,rfl⟩
    have hheap2:w2.heap=w.heap.setIfInBounds r (.mapIter (some bm) clock (seen.push e.born) clock):=by rw [<-hw2,<- hh1];rfl
    have hr2:w2.heap[r]? = some (.mapIter (some bm) clock (seen.push e.born) clock):=by rw [hheap2];simp [hrl]
    have ho2:∀ b',b'≠r->w2.heap[b']? = w.heap[b']?:=fun b' hne=>by rw [hheap2];simp [Array.getElem?_setIfInBounds,Ne.symm hne]
    have hsz2:w2.heap.size=w.heap.size:=by rw [hheap2];simp
    have hb2:w2.heap[bm]? = some (.map ens clock):=by rw [ho2 bm (fun e=>hrb e.symm)];exact hb
    have hcell:∀ o s,w.cell? ⟨r,o,s⟩=none:=fun o s=>by unfold World.cell?;rw [hr]
    have znt:∀ t,(apSt2 .dead v v' v'' b (p:Int) by_ W S M).O t=true->g.blk t≠some r:=fun t ht=>by
      have ht:tokEq t .zero=true:=ht
      have:t=.zero:=by cases t <;> first | rfl | cases ht
      rw [this,hR.blk0];intro e;cases e
    have znl:∀ k x,(apSt2 .dead v v' v'' b (p:Int) by_ W S M).L k=some x->isPool k=false->(g.ρ k).1≠r:=fun k x hL np=>by
      rw [apL2_pool hL] at np;cases np
    have hR2:=hR.apart (w':=w2) (r:=r) (by omega) (fun b' _ hne=>ho2 b' hne) hrF hcell (by rw [<-hw2];exact hos1.1) (by rw [<-hw2];exact hos1.2.1) (by rw [<-hw2];exact hos1.2.2) znt znl how
    have hent:(Instr.entry (.pointer (some ⟨r,0,none⟩))).run Tryd.prog w2=.ok (.tuple #[e.key,e.val]) w2:=run_entry_at w2 r bm clock seen ens clock e hr2 hb2 hee hborn
    refine wp_seq (wp8 hn hs hnext ?_)
    obtain ⟨a1,ha1⟩:∃ a1,(a.put (some 60) (.tuple ⟨[.bool true,e.key,e.val]⟩)).put (some 61) (.bool true)=a1:=⟨_,rfl⟩
    have hs1:a1.tmps.size=F.n:=by rw [<-ha1,put_size,put_size];exact hs
    have hd1:a1.defers=[]:=by rw [<-ha1,put_defers,put_defers];exact hd
    have t1:∀ i,i≠60->i≠61->tm a1 i=tm a i:=fun i h1 h2=>by
      rw [<-ha1,h0s (by rw [put_size];exact hs) (by decide),if_neg (fun e=>h2 e.symm),h0s hs (by decide),if_neg (fun e=>h1 e.symm)]
    have t161:tm a1 61=.bool true:=by rw [<-ha1,h0s (by rw [put_size];exact hs) (by decide),if_pos rfl]
    show (Code.seq (.cond (.tmp 61) .skip (.exit 0)) (.block 1 (.seq (.region 9 ops9 false) apRoundC))).wp Tryd.prog _ ((a.put (some 60) (.tuple ⟨[.bool true,e.key,e.val]⟩)).put (some 61) (.bool true)) w2
    rw [ha1]
    refine wp_seq (wp_cond_true t161 (wp_skip ?_))
    show (Code.block 1 (.seq (.region 9 ops9 false) apRoundC)).wp Tryd.prog _ a1 w2
    refine wp_block (wp_seq (wp9 hn hs1 (by rw [t1 59 (by decide) (by decide),h59];exact hent) ?_))
    obtain ⟨a2,ha2⟩:∃ a2,((a1.put (some 62) (.tuple #[e.key,e.val])).put (some 63) e.val).put (some 7) e.val=a2:=⟨_,rfl⟩
    rw [ha2]
    have hs2:a2.tmps.size=F.n:=by rw [<-ha2,put_size,put_size,put_size];exact hs1
    have hd2:a2.defers=[]:=by rw [<-ha2,put_defers,put_defers,put_defers];exact hd1
    have t2:∀ i,i≠60->i≠61->i≠62->i≠63->i≠7->tm a2 i=tm a i:=fun i h1 h2 h3 h4 h5=>by
      rw [<-ha2,h0s (by rw [put_size,put_size];exact hs1) (by decide),if_neg (fun e=>h5 e.symm),h0s (by rw [put_size];exact hs1) (by decide),if_neg (fun e=>h4 e.symm),h0s hs1 (by decide),if_neg (fun e=>h3 e.symm),t1 i h1 h2]
    have t27:tm a2 7=e.val:=by rw [<-ha2,h0s (by rw [put_size,put_size];exact hs1) (by decide),if_pos rfl]
    have G2:Gw w g.C w2 g.C:=⟨fun ad u hc hC=>⟨by
      have hne:ad.block≠r:=fun e=>by
        obtain ⟨b',o,s'⟩:=ad
        have e:b'=r:=e
        subst e
        rw [hcell o s'] at hc;cases hc
      unfold World.cell? at hc ⊢
      rw [ho2 _ hne];exact hc,hC⟩,fun _ _ _ h=>h⟩
    have r0:=hR2.slots 0
    have r5:=hR2.slots 5
    have r7:RelP F g w2 (fun _=>false) (tm a2) (tm a2 7) (.w false [.d (.ptr 71) q.2]):=by
      rw [t27]
      exact ⟨[e.val],repLs_single.2 (hval.gw G2),rfl⟩
    have hR3:=ap_canon hR2 (hR2.pools kW 0 _ rfl (isPool_pk _)) (hR2.pools kS 0 _ rfl (isPool_pk _)) (hR2.pools kM 0 _ rfl (isPool_mk _)) g.ρ (tmf':=tm a2) (by rw [t2 0 (by decide) (by decide) (by decide) (by decide) (by decide)];exact leaf_any r0) (by rw [t2 5 (by decide) (by decide) (by decide) (by decide) (by decide)];exact leaf_any r5) (.inr ⟨q.2,rfl,r7⟩)
    -- the round's body, in a frame of its own
    obtain ⟨ac,hac,hacd⟩:∃ ac,apRound=some ac /\ (ac.good=true /\ (∀ d∈ac.dsts,d < 89 /\ 7 < d /\ d≠59) /\ ac.hands=[]):=by
      have h:=ap_good
      split at h
      · rename_i ac hac
        simp only [Bool.and_eq_true] at h
        refine ⟨ac,hac,h.1.1,fun d hd=>?_,?_⟩
        · have:=List.all_eq_true.1 h.1.2 d hd
          simp only [Bool.and_eq_true,Nat.blt_eq] at this
          refine ⟨this.1.1,this.1.2,fun e=>?_⟩
          have h3:=this.2
          rw [e] at h3
          cases h3
        · have h2:=h.2
          split at h2
          · assumption
          · cases h2
      · cases h
    have hcode:ac.erase=apRoundC:=by
      unfold apRound at hac
      split at hac
      · rename_i ac' k' hann
        injection hac with hac
        rw [<-hac]
        exact annot_erase apRoundC 0 _ _ hann
      · cases hac
    have hRm:∀ b',(b'=r \/ b'=bm) -> ∀ k j s,g.ow b'=some (k,j,s) -> ¬ F.PT k:=fun b' hb' k j s ho=>by
      rcases hb' with rfl | rfl
      · rw [how] at ho;cases ho
      · rw [hob] at ho;cases ho;exact hPT
    have hR4:MRel (roundF F g w2 (fun b'=>b'=r \/ b'=bm)) g (apSt2 (.w false [.d (.ptr 71) q.2]) v v' v'' b (p:Int) by_ W S M) (tm a2) w2:=
      MRel.round hR3 (fun t b' ht hbt=>by
        have ht:tokEq t .zero=true:=ht
        have:t=.zero:=by cases t <;> first | rfl | cases ht
        rw [this] at hbt
        have h0:g.blk .zero=none:=hR.blk0
        rw [show ({ g with ρ:=g.ρ }:Gh).blk .zero=g.blk .zero from rfl,h0] at hbt;cases hbt) (fun k x hL np=>by rw [apL2_pool hL] at np;cases np) (fun b' k j s hb' ho=>hRm b' hb' k j s ho)
    have htext:=congrFun (congrFun (congrFun (congrFun (congrFun (congrFun (apRound_text v v' v'' b) (p:Int)) q.2) by_) W) S) M
    rw [hac] at htext
    have htext:pv apEnv ac roundQ (apSt2 (.w false [.d (.ptr 71) q.2]) v v' v'' b (p:Int) by_ W S M)=apBody (p:Int) q.2 by_ W S M:=htext
    -- what the round computes
    have hWp:W[p]? = some (setBlind w0 bl):=by
      rw [hA.W,List.getElem?_set,if_pos rfl,if_pos (List.getElem?_eq_some_iff.1 hW0).1]
    have hres:∃ bl' W' S',apBody (p:Int) q.2 by_ W S M=some ((p:Int),by_,W',S',M) /\ ApRel by_ p ms ens.toList W0 w0 S0 (seen.push e.born) bl' W' S':=by
      unfold apBody
      have hpn:nnI (p:Int)=true:=decide_eq_true (by omega)
      cases bl with
      | true=>
        refine ⟨true,W,S,?_,hA.skip _⟩
        unfold chk
        rw [hpn,cond_true,getI_of hWp,Option.bind_some]
        rfl
      | false=>
        obtain ⟨j,nn,y,k,b',q1,q2,q3,q4⟩:=hA.step hok hnd hborn hq hi hsee
        refine ⟨b',_,_,?_,q4⟩
        have hqn:nnI q.2=true:=by rw [q1];exact decide_eq_true (by omega)
        have hgS:getI S q.2=some (some nn,y):=by rw [q1];exact getI_of q2
        unfold winStep at q3
        obtain ⟨z,hz1,hz2⟩:=Option.bind_eq_some_iff.1 q3
        obtain ⟨y2,hy1,hy2⟩:=Option.bind_eq_some_iff.1 hz2
        obtain ⟨k2,hk1,hk2⟩:=Option.bind_eq_some_iff.1 hy2
        injection hk2 with hk2
        injection hk2 with e1 e2
        subst e1
        unfold chk
        rw [hpn,cond_true,getI_of hWp,Option.bind_some]
        show cond true _ _=_
        rw [cond_true,hqn,cond_true,hgS,Option.bind_some,Option.bind_some,hz1,Option.bind_some,hy1,Option.bind_some,hk1,Option.bind_some,cond_true,Option.bind_some,cond_true,Option.bind_some,e2,q1,Int.toNat_natCast,Int.toNat_natCast]
        rfl
    obtain ⟨bl',W',S',hbody,hA'⟩:=hres
    have hpv:=pv_sound (E:=apEnv) (F:=roundF F g w2 (fun b'=>b'=r \/ b'=bm)) (by show F.n<=1000000;rw [hn];decide) (apEnv_ok _) ac (by rw [hacd.2.2];intro p hp;cases hp) roundQ _ _ g a2 w2 hacd.1 (fun d hd=>by show d < F.n;rw [hn];exact (hacd.2.1 d hd).1) ⟨by show _=F.n;exact hs2,hd2,hR4⟩ (htext.trans hbody)
    rw [hcode] at hpv
    refine Code.wp_mono (fun ex a3 w3 hp=>?_) hpv
    obtain ⟨x,st3,g3,rfl,hx,hAR,hL⟩:=hp
    cases x with
    | normal=>
      have hx:apObs2 st3=some ((p:Int),by_,W',S',M):=hx
      obtain ⟨s0,s5,so⟩:=obs2_some hx
      have hb3:=round_kept (b:=bm) (by rw [hsz2];exact (Array.getElem?_eq_some_iff.1 hb).1) (.inr rfl) hAR.rel
      have hr3:=round_kept (b:=r) (by rw [hsz2];exact hrl) (.inl rfl) hAR.rel
      have hU:=hAR.rel.unround (hR3.fr) (hR3.ows)
      obtain ⟨v1,v1',v1'',b1,p1,p2,p3⟩:=obs_pools hU so
      have k0:=hU.slots 0
      have k5:=hU.slots 5
      rw [s0] at k0
      rw [s5] at k5
      have hlt:=hL.lft (by intro e;cases e)
      have h593:tm a3 59=.pointer (some ⟨r,0,none⟩):=by
        rw [hlt.tmp 59 (fun hm=>(hacd.2.1 59 hm).2.2 rfl),t2 59 (by decide) (by decide) (by decide) (by decide) (by decide)];exact h59
      refine ⟨(leftOf ens (seen.push e.born)).size,by rw [hnl];exact left_shrinks ens seen e he,g3,W',S',v1,v1',v1'',b1,seen.push e.born,clock,bl',rfl,hAR.size,hAR.defers,h593,?_,?_,?_,Nat.le_refl _,?_,?_,hA'⟩
      · exact ap_canon hU p1 p2 p3 g3.ρ (leaf_any k0) (leaf_any k5) (.inl rfl)
      · have:w2.heap.size<=w3.heap.size:=hAR.rel.fr.size
        omega
      · rw [hr3.1];exact hr2
      · rw [hb3.1];exact hb2
      · rw [hr3.2];exact how
    | exit i=>cases hx
    | ret=>cases hx
    | goto i=>cases hx
end
theorem pool_ver {F:Fr} {g:Gh} {w:World} {k v v2:Nat} {e:Ty} {l:List e.D} {ver':Nat->Nat} (h:PoolOk F g w [.d (.arr v e) l] k) (hv:ver' k=v2):PoolOk F { g with ver:=ver' } w [.d (.arr v2 e) l] k:=by
 obtain ⟨e',l',h1,h2,h3⟩:=h
 rcases h1 with ⟨v1,h1,h4,h5⟩ | h1
 ·cases h1
  exact ⟨e,l,.inl ⟨v2,rfl,hv,h5⟩,h2,h3⟩
 ·cases h1
theorem inBlock_exit {id:Nat} {Q:Exit->Act->World->Prop} {a:Act} {w:World} (h:Q .normal a w):Exit.inBlock id Q (.exit id) a w:=by
 show (if id=id then Q .normal a w else Q (.exit id) a w)
 rw [if_pos rfl];exact h
theorem headC_some {s:PSt} {m:Int} {x:Int×Int×List ApW×List ApS×List ApM} (h:headC s=some (m,x)):s.φ 58=.w false [.d (.mp 51) m] /\ apObs2 s=some x:=by
 unfold headC at h
 split at h
 ·rename_i T m' h58
  split at h
  ·rename_i x' hT ho
   injection h with h
   injection h with q1 q2
   subst q1;subst q2
   rw [Nat.eq_of_beq_eq_true hT] at h58
   exact ⟨h58,ho⟩
  ·cases h
 ·cases h
theorem ap_walk1 {F:Fr} (hn:F.n=89) (hPT:¬ F.PT kM) {g:Gh} {st:PSt} {a:Act} {w:World} (hAR:AR F g st a w) {p by_:Int} {v v' v'':Nat} {b:Bool} {e e' e'':Ty} {l:List e.D} {l':List e'.D} {l'':List e''.D} {W:List ApW} {S:List ApS} {M:List ApM} (h0:st.φ 0=.w false [.d (.ptr 59) p]) (h5:st.φ 5=.w false [.d (.int .i64) by_])
    (hp1:poolL st.L kW=some (true,v,⟨e,l⟩)) (hp2:poolL st.L kS=some (true,v',⟨e',l'⟩)) (hp3:poolL st.L kM=some (b,v'',⟨e'',l''⟩)) (c1:castD (t:=.sl e) (.sl apWt) l=some W) (c2:castD (t:=.sl e') (.sl apSt) l'=some S) (c3:castD (t:=.sl e'') (.sl apMt) l''=some M) (hok:apOk by_ p M W S=true) :
    apTailC.wp Tryd.prog (fun ex a' w' => ex = .ret /\ ∃ g', AR F g' ⟨fun i => match Nat.beq i 2 with | true => pbool true | false => .dead,
          fun k=>match Nat.beq k kW with | true=>some (0,[.d (.arr (v+1) apWt) (apW by_ p M W S)]) | false=>match Nat.beq k kS with | true=>some (0,[.d (.arr (v'+1) apSt) (apS by_ p M W S)]) | false=>match Nat.beq k kM with | true=>(match st.L kM with | some (_,ls)=>some (0,ls) | none=>none) | false=>none,
          fun t=>tokEq t .zero,[],[],[]⟩ a' w' /\ g'.ρ=g.ρ) a w:=by
  have k0:=hAR.rel.slots 0
  have k5:=hAR.rel.slots 5
  rw [h0] at k0
  rw [h5] at k5
  have hR0:=ap_canon hAR.rel (pool_cast hAR.rel hp1 (isPool_pk _) c1) (pool_cast hAR.rel hp2 (isPool_pk _) c2) (pool_cast hAR.rel hp3 (isPool_mk _) c3) g.ρ (tmf':=tm a) (p:=p) (by_:=by_) (leaf_any k0) (leaf_any k5) (.inl rfl)
  -- what must hold
  unfold apOk at hok
  split at hok
  case h_2=>cases hok
  rename_i w00 ms0 hes
  rw [Bool.and_eq_true,decide_eq_true_eq] at hok
  obtain ⟨hall,hnd⟩:=hok
  unfold apEs at hes
  obtain ⟨w0,hgW,hes⟩:=Option.bind_eq_some_iff.1 hes
  obtain ⟨ms,hgM,hes⟩:=Option.bind_eq_some_iff.1 hes
  injection hes with hes
  injection hes with q1 q2
  subst q1;subst q2
  obtain ⟨pn,rfl,hW0⟩:=getI_n hgW
  obtain ⟨mi,hmi,hMi⟩:=getI_n hgM
  rw [ap_shape]
  refine wp_seq (wp_seq (wp_region_list ?_))
  obtain ⟨o5,hd5,ho5⟩:=one_map ops7_last
  injection ho5 with e51 ho5
  injection ho5 with e52 e53
  rw [(List.take_append_drop 4 ops7.toList).symm,hd5]
  have htext:=congrFun (congrFun (congrFun (congrFun (congrFun (head_text v v' v'' b) (pn:Int)) by_) W) S) M
  have htext:pvOps apEnv ops7 (ops7.toList.take 4) [] (apSt2 .dead v v' v'' b (pn:Int) by_ W S M) (fun _ s=>headC s)=chk (nnI (pn:Int)) ((getI W (pn:Int)).bind fun w=>some (w.2.2.2.2.2.2.2.1,((pn:Int),by_,W,S,M))):=htext
  have hval:pvOps apEnv ops7 (ops7.toList.take 4) [] (apSt2 .dead v v' v'' b (pn:Int) by_ W S M) (fun _ s=>headC s)=some ((mi:Int),((pn:Int),by_,W,S,M)):=by
    rw [htext,hgW,Option.bind_some,hmi]
    unfold chk
    rw [show nnI (pn:Int)=true from decide_eq_true (by omega),cond_true]
  refine pvOps_pre (E:=apEnv) (M:=fun i=>54 < i /\ i < 60) (apEnv_ok F) [o5] (ops7.toList.take 4) [] _ _ a w (fun _ s=>headC s) (fun o ho x hx=>?_) ⟨hAR.size,hAR.defers,hR0⟩ hval fun a1 w1 g1 tr1 st1 hC1 hAR1 hl1=>?_
  · have hm:some x∈ops7.toList.map (·.dst):=List.mem_map.2 ⟨o,List.mem_of_mem_take ho,hx⟩
    rw [ops7_dst] at hm
    simp only [List.mem_cons,Option.some.injEq,List.not_mem_nil,or_false] at hm
    rw [hn]
    rcases hm with rfl | rfl | rfl | rfl | rfl <;> decide
  obtain ⟨h58,hobs⟩:=headC_some hC1
  obtain ⟨s0,s5,so⟩:=obs2_some hobs
  obtain ⟨v1,v1',v1'',b1,p1,p2,p3⟩:=obs_pools hAR1.rel so
  have j0:=hAR1.rel.slots 0
  have j5:=hAR1.rel.slots 5
  have j58:=hAR1.rel.slots 58
  rw [s0] at j0
  rw [s5] at j5
  rw [h58] at j58
  have hR1:=ap_canon hAR1.rel p1 p2 p3 g1.ρ (tmf':=tm a1) (leaf_any j0) (leaf_any j5) (.inl rfl)
  obtain ⟨pp,hp,hv58⟩:=rel_leaf.1 j58
  obtain ⟨bm,hCi,h58v⟩:∃ bm,g1.C.i kM mi=some bm /\ tm a1 58=.map (some bm):=by
    rcases hp with ⟨e1,_⟩ | ⟨n,blk,e1,hi,rfl⟩
    · have e1:(mi:Int) = -1:=e1
      omega
    · have e1:(mi:Int)=(n:Int):=e1
      have:mi=n:=by omega
      subst this
      refine ⟨blk,hi,?_⟩
      injection hv58
  have hC0:F.C0.i kM mi=some bm:=(hR1.ows.i kM hPT mi).symm.trans hCi
  obtain ⟨hob,ens,clock,hb1,hE⟩:=map_here hR1 hPT hMi hC0
  have hbl:bm < w1.heap.size:=(Array.getElem?_eq_some_iff.1 hb1).1
  have hrange:(Instr.range 51 (tm a1 58)).run Tryd.prog w1=.ok (.pointer (some ⟨w1.heap.size,0,none⟩)) (w1.alloc (.mapIter (some bm) clock #[] clock)):=by
    rw [h58v]
    exact run_range_map w1 51 _ _ bm ens clock Tryd.underlying51 hb1
  refine wpl_val (v:=.pointer (some ⟨w1.heap.size,0,none⟩)) e53 (run_of (s:=Instr.range 51 (tm a1 58)) (by unfold execOp;rw [e52] <;> rfl) hrange) (wpList_nil ?_)
  rw [e51]
  obtain ⟨w2,hw2⟩:∃ w2,w1.alloc (.mapIter (some bm) clock #[] clock)=w2:=⟨_,rfl⟩
  obtain ⟨a2,ha2⟩:∃ a2,a1.put (some 59) (.pointer (some ⟨w1.heap.size,0,none⟩))=a2:=⟨_,rfl⟩
  rw [hw2,ha2]
  have hs2:a2.tmps.size=F.n:=by rw [<-ha2,put_size];exact hAR1.size
  have hd2:a2.defers=[]:=by rw [<-ha2,put_defers];exact hAR1.defers
  have t2:∀ i,tm a2 i=if 59=i then .pointer (some ⟨w1.heap.size,0,none⟩) else tm a1 i:=fun i=>by rw [<-ha2];exact tm_at (by rw [hAR1.size,hn];decide)
  have hsz2:w2.heap.size=w1.heap.size+1:=by rw [<-hw2,World.size_alloc]
  have hold2:∀ b',b' < w1.heap.size->w2.heap[b']? = w1.heap[b']?:=fun b' hb'=>by rw [<-hw2];exact (show (w1.heap.push _)[b']? = _ from by rw [Array.getElem?_push_lt hb',Array.getElem?_eq_getElem hb'])
  have hr2:w2.heap[w1.heap.size]? = some (.mapIter (some bm) clock #[] clock):=by rw [<-hw2];exact (show (w1.heap.push _)[w1.heap.size]? = _ from by simp)
  have how2:g1.ow w1.heap.size=none:=by
    cases ho:g1.ow w1.heap.size with
    | none=>rfl
    | some x=>have:=hR1.ows.lim _ _ ho;omega
  have hR2:=hR1.apart (w':=w2) (r:=w1.heap.size) (by omega) (fun b' hb' _=>hold2 b' hb') hR1.fr.size (fun o s=>by unfold World.cell?;rw [Array.getElem?_eq_none (Nat.le_refl _)]) (by rw [<-hw2];rfl) (by rw [<-hw2];rfl) (by rw [<-hw2];rfl)
    (fun t ht=>by
      have ht:tokEq t .zero=true:=ht
      have:t=.zero:=by cases t <;> first | rfl | cases ht
      rw [this,hR1.blk0];intro e;cases e) (fun k x hL np=>by rw [apL2_pool hL] at np;cases np) how2
  have i0:=hR2.slots 0
  have i5:=hR2.slots 5
  have hR3:=ap_canon hR2 (hR2.pools kW 0 _ rfl (isPool_pk _)) (hR2.pools kS 0 _ rfl (isPool_pk _)) (hR2.pools kM 0 _ rfl (isPool_mk _)) g1.ρ (tmf':=tm a2) (by rw [t2 0,if_neg (by decide)];exact leaf_any i0) (by rw [t2 5,if_neg (by decide)];exact leaf_any i5) (.inl rfl)
  have hI0:apInv F w1.heap.size bm ens clock pn by_ ms M W w0 S (leftOf ens #[]).size a2 w2:=
    ⟨g1,W,S,v1,v1',v1'',b1,#[],clock,w0.2.2.2.2.1,rfl,hs2,hd2,by rw [t2 59,if_pos rfl],hR3,by omega,hr2,Nat.le_refl _,by rw [hold2 bm hbl];exact hb1,how2,ApRel.start hW0 hall⟩
  show (Code.block 0 (.loop _)).wp Tryd.prog _ a2 w2
  refine wp_block (wp_loop_ghost (apInv F w1.heap.size bm ens clock pn by_ ms M W w0 S) _ hI0 (fun n a w hI=>ap_round hn hPT hR1.fr.size (by omega) hMi hC0 hW0 hall hnd (fun a4 w4 hI4=>?_) n a w hI))
  obtain ⟨g4,W4,S4,v4,v4',v4'',b4,seen,c4,bl,hz,hs4,hd4,h594,hR4,hrl4,hr4,hcc4,hb4,how4,hA4⟩:=hI4
  have hE4:=(map_here hR4 hPT hMi hC0).2
  obtain ⟨hdW,hdl,hdS⟩:=hA4.done hW0 M hgM hall hE.1 fun x hx=>all_seen ens seen hz.symm x hx
  refine inBlock_exit ?_
  show (Code.seq (.region 13 ops13 false) .ret).wp Tryd.prog _ a4 w4
  refine wp_seq (wp13 hn hs4 ?_)
  refine wp_ret ⟨rfl,{ g4 with ρ:=g.ρ,ver:=fun k=>if k=kW then v+1 else if k=kS then v'+1 else g4.ver k },⟨by rw [put_size];exact hs4,by rw [put_defers];exact hd4,?_⟩,rfl⟩
  have hkWS:kS≠kW:=by decide
  refine MRel.to_pools_ver g.ρ _ hR4 (fun k σ ls hL=>?_) (fun t ht=>?_) rfl rfl rfl (fun i=>?_) (fun i t want ag ls e=>?_) (fun i=>?_)
  · have hL:(match Nat.beq k kW with | true=>some (0,[.d (.arr (v+1) apWt) (apW by_ (pn:Int) M W S)]) | false=>match Nat.beq k kS with | true=>some (0,[.d (.arr (v'+1) apSt) (apS by_ (pn:Int) M W S)]) | false=>match Nat.beq k kM with | true=>(match st.L kM with | some (_,ls)=>some (0,ls) | none=>none) | false=>none)=some (σ,ls):=hL
    split at hL
    · rename_i hk
      have hk:=Nat.eq_of_beq_eq_true hk
      subst hk
      cases hL
      have hp:=hR4.pools kW 0 _ rfl (isPool_pk _)
      rw [<-hdW]
      exact ⟨rfl,isPool_pk _,pool_ver hp (if_pos rfl)⟩
    · split at hL
      · rename_i hk
        have hk:=Nat.eq_of_beq_eq_true hk
        subst hk
        cases hL
        have hp:=ap_weak (hR4.pools kS 0 _ rfl (isPool_pk _)) hdl hdS
        exact ⟨rfl,isPool_pk _,pool_ver hp (by rw [if_neg hkWS,if_pos rfl])⟩
      · split at hL
        · rename_i hk
          have hk:=Nat.eq_of_beq_eq_true hk
          subst hk
          have hp:=hR4.pools kM 0 _ rfl (isPool_mk _)
          -- the map's pool is only read
          have hb4:b4=false:=by
            cases hb:b4 with
            | false=>rfl
            | true=>
              rw [hb] at hp
              obtain ⟨_,_,h1,_⟩:=hp
              rcases h1 with ⟨_,h1,_,h5⟩ | h1
              · exact (hPT h5).elim
              · cases h1
          have hbf:b=false:=by
            cases hb:b with
            | false=>rfl
            | true=>
              have hp:=pool_cast hAR.rel hp3 (isPool_mk _) c3
              rw [hb] at hp
              obtain ⟨_,_,h1,_⟩:=hp
              rcases h1 with ⟨_,h1,_,h5⟩ | h1
              · exact (hPT h5).elim
              · cases h1
          subst hbf
          obtain ⟨he,hx⟩:=castD_some c3
          injection he with he
          subst he
          subst hx
          obtain ⟨σ',hq⟩:=poolL_some hp3
          rcases hq with ⟨q,_⟩ | ⟨_,_,hq⟩
          · cases q
          · rw [hq] at hL
            cases hL
            rw [hb4] at hp
            obtain ⟨e2,l2,g1',g2,g3⟩:=hp
            rcases g1' with ⟨_,g1',_⟩ | g1'
            · cases g1'
            · cases g1'
              exact ⟨rfl,isPool_mk _,⟨_,_,.inr rfl,g2,g3⟩⟩
        · cases hL
  · have ht:tokEq t .zero=true:=ht
    cases t <;> first | rfl | cases ht
  · show RelP F _ w4 _ (tm (a4.put (some 2) (.bool true))) (tm (a4.put (some 2) (.bool true)) i) (match Nat.beq i 2 with | true=>pbool true | false=>.dead)
    cases h2:Nat.beq i 2 with
    | true=>
      have:=Nat.eq_of_beq_eq_true h2
      subst this
      rw [tm_at (by rw [hs4,hn];decide),if_pos rfl]
      exact ⟨_,repLs_single.2 rfl,rfl⟩
    | false=>trivial
  · have e:(match Nat.beq i 2 with | true=>pbool true | false=>.dead)=.spec t want ag ls:=e
    split at e <;> cases e
  · show keyP (match Nat.beq i 2 with | true=>pbool true | false=>.dead)=[]
    split <;> rfl
theorem ap_walk {F:Fr} (hn:F.n=89) (hPT:¬ F.PT kM):HandS Tryd.prog F apTailC apTail:=by
 intro g st st' a w hAR hst
 unfold apTail at hst
 split at hst
 case h_2=>cases hst
 rename_i T p by_ h0 h5
 split at hst
 ·cases hst
 rename_i hT
 have hT:=Nat.eq_of_beq_eq_true hT
 subst hT
 split at hst
 case h_2=>cases hst
 rename_i v e l v' e' l' b v'' e'' l'' hp1 hp2 hp3
 split at hst
 case h_2=>cases hst
 rename_i W S M c1 c2 c3
 injection hst with hst
 injection hst with hok hst
 rw [<-hst]
 exact ap_walk1 hn hPT hAR h0 h5 hp1 hp2 hp3 c1 c2 c3 hok
theorem ap_hand_any (F:Fr) (hn:F.n=Tryd.f34.ntmps) (hPT:¬ F.PT kM):∀ c ac k,Tryd.f34.body=some c->annot apAnn c 0=some (ac,k) -> ∀ p∈(ac.handTail 7 apTail).hands,HandS Tryd.prog F p.1 p.2:=by
 intro c ac k hc hac p hp
 have h:=ap_hands
 unfold apHands at h
 rw [hc] at h
 dsimp only at h
 rw [hac] at h
 dsimp only at h
 rw [h] at hp
 rw [List.mem_singleton.1 hp]
 exact ap_walk (hn.trans (by kernel_rfl)) hPT
end Go.Proofs.YtifbhefbhlbofaaDoor
namespace Go.Proofs.YtifbhefbhlbofaaDoor
open Pv
set_option linter.unusedVariables false
theorem F_watch_Watch_applies_hand:∀ F:Fr,F.n=Tryd.f34.ntmps->(∀ k,F.PT k ↔ ∃ e,(k,e,true)∈F_watch_Watch_applies_sig.pls) -> ∀ c ac k,Tryd.f34.body=some c->annot F_watch_Watch_applies_ann c 0=some (ac,k) -> ∀ p∈(ac.handTail 7 apTail).hands,HandS Tryd.prog F p.1 p.2:=by
 intro F hn hPT
 refine ap_hand_any F hn fun h=>?_
 obtain ⟨e,he⟩:=(hPT kM).1 h
 have hk:∀ q∈F_watch_Watch_applies_sig.pls,¬ (q.1=kM /\ q.2.2=true):=by
  intro q hq
  rcases List.mem_cons.1 hq with rfl | hq
  ·intro h;cases h.2
  ·rcases List.mem_cons.1 hq with rfl | hq
   ·intro h;exact absurd h.1 (by decide)
   ·rcases List.mem_cons.1 hq with rfl | hq
    ·intro h;exact absurd h.1 (by decide)
    ·cases hq
 exact hk _ he ⟨rfl,rfl⟩
end Go.Proofs.YtifbhefbhlbofaaDoor
namespace Go.Proofs.YtifbhefbhlbofaaDoor
open Go.RowKit Go.Lib Pv
set_option linter.unusedVariables false

set_option maxHeartbeats 4000000 in
set_option maxRecDepth 1000000 in
theorem scl_at (a:Addr) (n c:Nat) (l:List Int) (w:World) (hl:l.length=n) (hbig:n<=140737488355328) (hc:∀ (i:Nat) x,l[i]? = some x->w.cell? (a.add i)=some (.int .u8 x)) :
  Calls Tryd.prog 63 #[.slice (some a) n c] w fun e w'=>∃ v',e=.returned v' /\ w'.ownsRow w.heap.size 5 1 v' n (l.map (Value.int .u8)) /\ Below w.heap.size w w':=by
 obtain ⟨i0,hi,hz0,hz1,hz2⟩:=info_parts infoU
 have q22:∀ (w:World) (a:Option Addr) (n c n' c':Nat),(binOp .eql 26 (.slice a n c) (.slice none n' c')).run Tryd.prog w=.ok (.bool a.isNone) w:=fun w a n c n' c'=>Lib.run_eql_slice_nil w _ _ a n c n' c' Tryd.underlying26
 have A:Aside (∀ (i:Nat) x,l[i]? = some x->w.cell? (a.add i)=some (.int .u8 x)):=hc
 clear hc
 go_enter Tryd.func63,Tryd.ntmps63
 go_wp2_with (at_builtin;refine wpList_append_own _ rfl _ _ 26 rfl w.heap.size 5 i0 (.int .u8 0) 1 1 Tryd.underlying26 hi hz0 hz1 hz2 rfl (by decide) _ _ _ rfl (World.ownsRow_made w #[] 0 (Nat.le_refl _) (Nat.zero_le _) rfl) a n c (l.map (Value.int .u8)) rfl ?qc1 ?qc2 ?qc3 ?qc4 ?qc5 ?qc6 ?_)
 case qc1=>simp;omega
 case qc2=>
  intro j u hj
  rw [List.getElem?_map] at hj
  obtain ⟨x,hx,rfl⟩:=Option.map_eq_some_iff.1 hj
  exact Lib.cell?_alloc_some _ (A.out j x hx)
 case qc3=>intro u hu;obtain ⟨x,_,rfl⟩:=List.mem_map.1 hu;rfl
 case qc4=>unfold maxLen;omega
 case qc5=>omega
 case qc6=>simp
 intro v' w1 hown hgrow hnil
 go_wp2
 go_ret
 exact ⟨v',rfl,by simpa using hown,((Below.refl _ w).alloc (Nat.le_refl _) _).grown hgrow (by simp) (by intro k hk;simp [Value.ownBlock] at hk;omega)⟩
set_option maxHeartbeats 4000000 in
theorem scl_nil (n c:Nat) (w:World):Calls Tryd.prog 63 #[.slice none n c] w fun e w'=>e=.returned (.slice none 0 0) /\ w'=w:=by
 have q22:∀ (w:World) (a:Option Addr) (n c n' c':Nat),(binOp .eql 26 (.slice a n c) (.slice none n' c')).run Tryd.prog w=.ok (.bool a.isNone) w:=fun w a n c n' c'=>Lib.run_eql_slice_nil w _ _ a n c n' c' Tryd.underlying26
 go_enter Tryd.func63,Tryd.ntmps63
 go_wp2
 go_ret
 exact ⟨rfl,rfl⟩
theorem F_slices_Clone_byte_byte_sound {T:Tab}:SoundFn Tryd.prog T 63 F_slices_Clone_byte_byte_sig ⟨F_slices_Clone_byte_byte⟩:=by
 refine sound_of rfl fun F g O xs ls y tmf w args hT hw hlim hls happ hsz hr=>?_
 obtain ⟨(l:List Int),xs',rfl,h2⟩:=appF_inv_c (ts:=[]) happ
 obtain ⟨rfl,h3⟩:=appF_inv_n h2
 have hls':some [Leaf.d (.sl (.int .u8)) l]=some ls:=hls
 injection hls' with hls'
 subst hls'
 obtain ⟨a,n,c,e0,e1,e2,e3,e4,e5,e6⟩:=rel_ints (hr 0)
 rw [args_1 hsz,e0]
 have h3:cond (Nat.ble l.length 100000000) (some l) none=some y:=h3
 cases hb:Nat.ble l.length 100000000 with
 | false=>rw [hb] at h3;cases h3
 | true=>
  rw [hb] at h3
  have hy:l=y:=by injection h3
  have hb:=Nat.le_of_ble_eq_true hb
  subst hy
  cases a with
  | none=>
   have hl:=e6 rfl
   refine (scl_nil n c w).mono ?_
   rintro e w' ⟨rfl,rfl⟩
   exact own_row (l:=l) hw hlim (Below.refl _ _) (by rw [hl];exact World.ownsRow_nil _ _ _ _) e4 rfl rfl
  | some ad=>
   refine (scl_at ad n c l w e1 (by omega) (e5 ad rfl)).mono ?_
   rintro e w' ⟨v,rfl,h1,h2⟩
   exact own_row (l:=l) hw hlim h2 (by rw [e1];exact h1) e4 rfl rfl

set_option maxHeartbeats 4000000 in
set_option maxRecDepth 1000000 in
theorem bcl_at (a:Addr) (n c:Nat) (l:List Int) (w:World) (hl:l.length=n) (hbig:n<=140737488355328) (hc:∀ (i:Nat) x,l[i]? = some x->w.cell? (a.add i)=some (.int .u8 x)) :
  Calls Tryd.prog 29 #[.slice (some a) n c] w fun e w'=>∃ v',e=.returned v' /\ w'.ownsRow w.heap.size 5 1 v' n (l.map (Value.int .u8)) /\ Below w.heap.size w w':=by
 obtain ⟨i0,hi,hz0,hz1,hz2⟩:=info_parts infoU
 have q22:∀ (w:World) (a:Option Addr) (n c n' c':Nat),(binOp .eql 26 (.slice a n c) (.slice none n' c')).run Tryd.prog w=.ok (.bool a.isNone) w:=fun w a n c n' c'=>Lib.run_eql_slice_nil w _ _ a n c n' c' Tryd.underlying26
 have A:Aside (∀ (i:Nat) x,l[i]? = some x->w.cell? (a.add i)=some (.int .u8 x)):=hc
 clear hc
 go_enter Tryd.func29,Tryd.ntmps29
 go_wp2_with (at_builtin;refine wpList_append_own _ rfl _ _ 26 rfl w.heap.size 5 i0 (.int .u8 0) 1 1 Tryd.underlying26 hi hz0 hz1 hz2 rfl (by decide) _ _ _ rfl (World.ownsRow_made w #[] 0 (Nat.le_refl _) (Nat.zero_le _) rfl) a n c (l.map (Value.int .u8)) rfl ?qc1 ?qc2 ?qc3 ?qc4 ?qc5 ?qc6 ?_)
 case qc1=>simp;omega
 case qc2=>
  intro j u hj
  rw [List.getElem?_map] at hj
  obtain ⟨x,hx,rfl⟩:=Option.map_eq_some_iff.1 hj
  exact Lib.cell?_alloc_some _ (A.out j x hx)
 case qc3=>intro u hu;obtain ⟨x,_,rfl⟩:=List.mem_map.1 hu;rfl
 case qc4=>unfold maxLen;omega
 case qc5=>omega
 case qc6=>simp
 intro v' w1 hown hgrow hnil
 go_wp2
 go_ret
 exact ⟨v',rfl,by simpa using hown,((Below.refl _ w).alloc (Nat.le_refl _) _).grown hgrow (by simp) (by intro k hk;simp [Value.ownBlock] at hk;omega)⟩
set_option maxHeartbeats 4000000 in
theorem bcl_nil (n c:Nat) (w:World):Calls Tryd.prog 29 #[.slice none n c] w fun e w'=>e=.returned (.slice none 0 0) /\ w'=w:=by
 have q22:∀ (w:World) (a:Option Addr) (n c n' c':Nat),(binOp .eql 26 (.slice a n c) (.slice none n' c')).run Tryd.prog w=.ok (.bool a.isNone) w:=fun w a n c n' c'=>Lib.run_eql_slice_nil w _ _ a n c n' c' Tryd.underlying26
 go_enter Tryd.func29,Tryd.ntmps29
 go_wp2
 go_ret
 exact ⟨rfl,rfl⟩
theorem F_bytes_Clone_sound {T:Tab}:SoundFn Tryd.prog T 29 F_bytes_Clone_sig ⟨F_bytes_Clone⟩:=by
 refine sound_of rfl fun F g O xs ls y tmf w args hT hw hlim hls happ hsz hr=>?_
 obtain ⟨(l:List Int),xs',rfl,h2⟩:=appF_inv_c (ts:=[]) happ
 obtain ⟨rfl,h3⟩:=appF_inv_n h2
 have hls':some [Leaf.d (.sl (.int .u8)) l]=some ls:=hls
 injection hls' with hls'
 subst hls'
 obtain ⟨a,n,c,e0,e1,e2,e3,e4,e5,e6⟩:=rel_ints (hr 0)
 rw [args_1 hsz,e0]
 have h3:cond (Nat.ble l.length 100000000) (some l) none=some y:=h3
 cases hb:Nat.ble l.length 100000000 with
 | false=>rw [hb] at h3;cases h3
 | true=>
  rw [hb] at h3
  have hy:l=y:=by injection h3
  have hb:=Nat.le_of_ble_eq_true hb
  subst hy
  cases a with
  | none=>
   have hl:=e6 rfl
   refine (bcl_nil n c w).mono ?_
   rintro e w' ⟨rfl,rfl⟩
   exact own_row (l:=l) hw hlim (Below.refl _ _) (by rw [hl];exact World.ownsRow_nil _ _ _ _) e4 rfl rfl
  | some ad=>
   refine (bcl_at ad n c l w e1 (by omega) (e5 ad rfl)).mono ?_
   rintro e w' ⟨v,rfl,h1,h2⟩
   exact own_row (l:=l) hw hlim h2 (by rw [e1];exact h1) e4 rfl rfl
def fieldT:Ty:=.pr .str (.pr .str .bool)
def fieldZ:Value:=.agg #[.string ⟨#[]⟩,.string ⟨#[]⟩,.bool false]
theorem infoF:(Tryd.prog.info? 109).map (fun i=>(i.zero,i.size,i.bytes))=some (some fieldZ,3,40):=by kernel_rfl
set_option maxHeartbeats 4000000 in
set_option maxRecDepth 1000000 in
theorem clf_at (a:Addr) (n c:Nat) (news:List Value) (w:World) (hl:news.length=n*3) (hbig:n<=1000000) (hc:∀ j u,news[j]? = some u->w.cell? (a.add j)=some u) (h1:∀ u∈news,u.oneCell'=true) :
  Calls Tryd.prog 58 #[.slice (some a) n c] w fun e w'=>∃ v',e=.returned v' /\ w'.ownsRow w.heap.size 109 3 v' n news /\ Below w.heap.size w w':=by
 obtain ⟨i0,hi,hz0,hz1,hz2⟩:=info_parts infoF
 have q22:∀ (w:World) (a:Option Addr) (n c n' c':Nat),(binOp .eql 89 (.slice a n c) (.slice none n' c')).run Tryd.prog w=.ok (.bool a.isNone) w:=fun w a n c n' c'=>Lib.run_eql_slice_nil w _ _ a n c n' c' Tryd.underlying89
 have A:Aside (∀ j u,news[j]? = some u->w.cell? (a.add j)=some u):=hc
 have B:Aside (∀ u∈news,u.oneCell'=true):=h1
 clear hc h1
 go_enter Tryd.func58,Tryd.ntmps58
 go_wp2_with (at_builtin;refine wpList_append_own _ rfl _ _ 89 rfl w.heap.size 109 i0 fieldZ 3 40 Tryd.underlying89 hi hz0 hz1 hz2 rfl (by decide) _ _ _ rfl (World.ownsRow_made w #[] 0 (Nat.le_refl _) (Nat.zero_le _) rfl) a n c news rfl ?qc1 ?qc2 ?qc3 ?qc4 ?qc5 ?qc6 ?_)
 case qc1=>exact hl
 case qc2=>
  intro j u hj
  exact Lib.cell?_alloc_some _ (A.out j u hj)
 case qc3=>exact B.out
 case qc4=>unfold maxLen;omega
 case qc5=>omega
 case qc6=>simp
 intro v' w1 hown hgrow hnil
 go_wp2
 go_ret
 exact ⟨v',rfl,by simpa using hown,((Below.refl _ w).alloc (Nat.le_refl _) _).grown hgrow (by simp) (by intro k hk;simp [Value.ownBlock] at hk;omega)⟩
set_option maxHeartbeats 4000000 in
theorem clf_nil (n c:Nat) (w:World):Calls Tryd.prog 58 #[.slice none n c] w fun e w'=>e=.returned (.slice none 0 0) /\ w'=w:=by
 have q22:∀ (w:World) (a:Option Addr) (n c n' c':Nat),(binOp .eql 89 (.slice a n c) (.slice none n' c')).run Tryd.prog w=.ok (.bool a.isNone) w:=fun w a n c n' c'=>Lib.run_eql_slice_nil w _ _ a n c n' c' Tryd.underlying89
 go_enter Tryd.func58,Tryd.ntmps58
 go_wp2
 go_ret
 exact ⟨rfl,rfl⟩
theorem F_slices_Clone_stat_Field_stat_Field_sound {T:Tab}:SoundFn Tryd.prog T 58 F_slices_Clone_stat_Field_stat_Field_sig ⟨F_slices_Clone_stat_Field_stat_Field⟩:=by
 refine sound_of rfl fun F g O xs ls y tmf w args hT hw hlim hls happ hsz hr=>?_
 obtain ⟨(l:List fieldT.D),xs',rfl,h2⟩:=appF_inv_c (ts:=[]) happ
 obtain ⟨rfl,h3⟩:=appF_inv_n h2
 have hls':some [Leaf.d (.sl fieldT) l]=some ls:=hls
 injection hls' with hls'
 subst hls'
 obtain ⟨a,n,c,e0,e1,e2,e3,e4⟩:=rel_leaf.1 (hr 0)
 have hrep:RepD w g.C (.sl fieldT) l [.slice a n c]:=⟨a,n,c,rfl,e1,e2,e3,e4⟩
 have e0:args.getD 0 undef=.slice a n c:=by injection e0
 rw [args_1 hsz,e0]
 have h3:cond (Nat.ble l.length 1000000) (some l) none=some y:=h3
 cases hb:Nat.ble l.length 1000000 with
 | false=>rw [hb] at h3;cases h3
 | true=>
  rw [hb] at h3
  have hy:l=y:=by injection h3
  have hb:=Nat.le_of_ble_eq_true hb
  subst hy
  cases a with
  | none=>
   have hl:l=[]:=by
    cases l with
    | nil=>rfl
    | cons x r=>
     obtain ⟨ad,us,q,_⟩:=e4 0 x rfl
     cases q
   subst hl
   refine (clf_nil n c w).mono ?_
   rintro e w' ⟨rfl,rfl⟩
   exact own_nil hlim (Below.refl _ _) rfl rfl
  | some ad=>
   obtain ⟨news,n1,n2,n3,n4⟩:=slice_cells (e:=fieldT) (by decide) hrep
   refine (clf_at ad n c news w (by rw [n1,e1];rfl) (by omega) n2 n3).mono ?_
   rintro e w' ⟨v,rfl,hrow,hbel⟩
   obtain ⟨h0,⟨rfl,hn⟩ | ⟨b,cap,cur,rfl,k2,k3,k4,k5,k6,k7⟩⟩:=hrow
   ·have hl:l=[]:=List.eq_nil_of_length_eq_zero (by omega)
    subst hl
    exact own_nil hlim hbel rfl rfl
   ·subst e1
    refine own_out (e:=fieldT) (l:=l) hw hlim hbel k2 k3 k4 k5 k6 (fun i x hx=>?_) rfl rfl
    have hin:i < l.length:=(List.getElem?_eq_some_iff.1 hx).1
    have r1:=n4 i x hx
    have r2:RepD w' ⟨fun b' o=>g.C b' o \/ (b'=b /\ o < l.length*fieldT.size),g.C.i⟩ fieldT x ((news.drop (i*fieldT.size)).take fieldT.size):=RepD.gw (C:=g.C) (C':=⟨fun b' o=>g.C b' o \/ (b'=b /\ o < l.length*fieldT.size),g.C.i⟩) ⟨fun a u hu hC=>⟨by rw [hbel.cell (cell_lt hu)];exact hu,(by show g.C.c _ _ \/ _;exact Or.inl hC)⟩,fun _ _ _ q=>q⟩ r1
    have e7:(cur.toList.drop (i*fieldT.size)).take fieldT.size=(news.drop (i*fieldT.size)).take fieldT.size:=by
     show (cur.toList.drop (i*3)).take 3=(news.drop (i*3)).take 3
     rw [<-k7,List.drop_take,List.take_take]
     congr 1
     omega
    rw [e7]
    exact r2
end Go.Proofs.YtifbhefbhlbofaaDoor
