/- Texts of this claim, one behind the other. -/
import Derived.Test.YtifbhefbhlbofaaDoorWatchRightM4
import Derived.Laws.Bits
import Derived.Shelf.Spec.SlicesGrow
import Derived.LoopTactic
import Derived.Handy
import Derived.RegionTactic
import Derived.Laws.BitsLemmas
import Ieee.Arith
import GoSem.Core.Float
set_option maxRecDepth 100000
namespace Go.Proofs.YtifbhefbhlbofaaDoor
open Pv
set_option linter.unusedVariables false
noncomputable def F_frame_New (i1:Int) (l2:List (Int×List Int)):Option (Int×List (Int×List Int)):=
 some ((l2.length:Int),(l2++[(i1,([]:List Int))]))
def F_frame_New_sig:Sig:=⟨[.v false [.d (.int .i64)]],[(false,[.d (.ptr 73)])],[(1000146,(.pr (.int .i64) (.sl (.int .u8))),true)]⟩
def F_frame_New_ann:List (Nat×Ann):=[]
noncomputable def F_frame_New_env:Env:=⟨Tryd.prog,[],[]⟩
theorem F_frame_New_text:pvFn F_frame_New_env F_frame_New_ann Tryd.f21 F_frame_New_sig=F_frame_New:=by kernel_rfl
noncomputable def F_sets_First:Option (Int×Int×Int×Int×Int×Int):=
 some (4096,1,2147483647,65535,16384,2147483647)
def F_sets_First_sig:Sig:=⟨[],[(true,[.d (.int .i64),.d (.int .i64),.d (.int .i64),.d (.int .i64),.d (.int .i64),.d (.int .i64)])],[]⟩
def F_sets_First_ann:List (Nat×Ann):=[]
noncomputable def F_sets_First_env:Env:=⟨Tryd.prog,[],[]⟩
theorem F_sets_First_text:pvFn F_sets_First_env F_sets_First_ann Tryd.f22 F_sets_First_sig=F_sets_First:=by kernel_rfl
noncomputable def F_stat_Size (s1:List Int) (s2:List Int) (b3:Bool):Option (Int):=
 some (IntKind.i64.wrap ((IntKind.i64.wrap ((s1.length:Int)+(s2.length:Int)))+32))
def F_stat_Size_sig:Sig:=⟨[.v true [.d .str,.d .str,.d .bool]],[(false,[.d (.int .i64)])],[]⟩
def F_stat_Size_ann:List (Nat×Ann):=[]
noncomputable def F_stat_Size_env:Env:=⟨Tryd.prog,[],[]⟩
theorem F_stat_Size_text:pvFn F_stat_Size_env F_stat_Size_ann Tryd.f66 F_stat_Size_sig=F_stat_Size:=by kernel_rfl
noncomputable def F_dyn_Table_shrinks_L2 (p1:Int) (i2:Int) (s:Int×List (List (List Int×List Int×Bool)×Int×Int)):Option (((List (List (List Int×List Int×Bool)×Int×Int))⊕(Int×List (List (List Int×List Int×Bool)×Int×Int)))⊕(Int×List (List (List Int×List Int×Bool)×Int×Int))):=
 let i4:=s.1;let l5:=s.2
 chk (nnI p1)
 ((getI l5 p1).bind fun x6=>
 cond (decide (i4 < (x6.1.length:Int)))
 (chk (nnI p1)
 ((getI l5 p1).bind fun x7=>
 cond (decide (x7.2.1 > i2))
 (chk (nnI p1)
 ((getI l5 p1).bind fun x8=>
 chk (nnI p1)
 ((getI l5 p1).bind fun x9=>
 (getI x9.1 i4).bind fun x10=>
 (F_stat_Size x10.1 x10.2.1 x10.2.2).bind fun i11=>
 chk (nnI p1)
 ((getI l5 p1).bind fun x12=>
 some (.inr ((IntKind.i64.wrap (i4+1)),(l5.set (Int.toNat p1) (x12.1,((IntKind.i64.wrap (x8.2.1 - i11)),x12.2.2)))))))))
 (some (.inl (.inr (i4,l5))))))
 (some (.inl (.inr (i4,l5)))))
noncomputable def F_dyn_Table_shrinks_J1 (p1:Int) (s:Int×List (List (List Int×List Int×Bool)×Int×Int)):Option (List (List (List Int×List Int×Bool)×Int×Int)):=
 let i13:=s.1;let l14:=s.2
 chk (nnI p1)
 ((getI l14 p1).bind fun x15=>
 (cutI x15.1 i13 (x15.1.length:Int)).bind fun l16=>
 chk (nnI p1)
 ((getI l14 p1).bind fun x17=>
 chk (eqI p1 p1)
 (some (l14.set (Int.toNat p1) (l16,x17.2)))))
noncomputable def F_dyn_Table_shrinks (p1:Int) (i2:Int) (l3:List (List (List Int×List Int×Bool)×Int×Int)):Option (List (List (List Int×List Int×Bool)×Int×Int)):=
 joinC (S:=Int×List (List (List Int×List Int×Bool)×Int×Int)) (R:=List (List (List Int×List Int×Bool)×Int×Int))
 (loopC (S:=Int×List (List (List Int×List Int×Bool)×Int×Int)) (R:=(List (List (List Int×List Int×Bool)×Int×Int))⊕(Int×List (List (List Int×List Int×Bool)×Int×Int))) (F_dyn_Table_shrinks_L2 p1 i2) (0,l3))
 (F_dyn_Table_shrinks_J1 p1)
def F_dyn_Table_shrinks_sig:Sig:=⟨[.v false [.d (.ptr 91)],.v false [.d (.int .i64)]],[],[(1000182,(.pr (.os 109 (.pr .str (.pr .str .bool))) (.pr (.int .i64) (.int .i64))),true)]⟩
def F_dyn_Table_shrinks_ann:List (Nat×Ann):=[(1,⟨2,[(4,false,[.d (.int .i64)])],[],(List.range' 5 32),[],[(1000182,(.pr (.os 109 (.pr .str (.pr .str .bool))) (.pr (.int .i64) (.int .i64))),true)],[]⟩),(2,⟨3,[(4,false,[.d (.int .i64)])],[],(List.range' 5 32),[],[(1000182,(.pr (.os 109 (.pr .str (.pr .str .bool))) (.pr (.int .i64) (.int .i64))),true)],[]⟩)]
noncomputable def F_dyn_Table_shrinks_env:Env:=⟨Tryd.prog,[(66,⟨F_stat_Size_sig,⟨F_stat_Size⟩⟩)],[41]⟩
theorem F_dyn_Table_shrinks_text:pvFn F_dyn_Table_shrinks_env F_dyn_Table_shrinks_ann Tryd.f57 F_dyn_Table_shrinks_sig=F_dyn_Table_shrinks:=by kernel_rfl
noncomputable def F_dyn_Table_Limit (p1:Int) (i2:Int) (l3:List (List (List Int×List Int×Bool)×Int×Int)):Option (Int×List (List (List Int×List Int×Bool)×Int×Int)):=
 cond ((decide (i2 < 0))||(decide (i2 > 4096)))
 (some (1,l3))
 (chk (nnI p1)
 ((getI l3 p1).bind fun x4=>
 (F_dyn_Table_shrinks p1 i2 (l3.set (Int.toNat p1) (x4.1,(x4.2.1,i2)))).bind fun l5=>
 chk (nnI p1)
 ((getI l5 p1).bind fun x6=>
 (F_slices_Clone_stat_Field_stat_Field x6.1).bind fun l7=>
 chk (nnI p1)
 ((getI l5 p1).bind fun x8=>
 chk (true)
 (some (0,(l5.set (Int.toNat p1) (l7,x8.2))))))))
def F_dyn_Table_Limit_sig:Sig:=⟨[.v false [.d (.ptr 91)],.v false [.d (.int .i64)]],[(false,[.d (.int .i64)])],[(1000182,(.pr (.os 109 (.pr .str (.pr .str .bool))) (.pr (.int .i64) (.int .i64))),true)]⟩
def F_dyn_Table_Limit_ann:List (Nat×Ann):=[]
noncomputable def F_dyn_Table_Limit_env:Env:=⟨Tryd.prog,[(57,⟨F_dyn_Table_shrinks_sig,⟨F_dyn_Table_shrinks⟩⟩),(58,⟨F_slices_Clone_stat_Field_stat_Field_sig,⟨F_slices_Clone_stat_Field_stat_Field⟩⟩)],[]⟩
theorem F_dyn_Table_Limit_text:pvFn F_dyn_Table_Limit_env F_dyn_Table_Limit_ann Tryd.f37 F_dyn_Table_Limit_sig=F_dyn_Table_Limit:=by kernel_rfl
noncomputable def F_dyn_New (i1:Int) (l2:List (List (List Int×List Int×Bool)×Int×Int)):Option (Int×Int×List (List (List Int×List Int×Bool)×Int×Int)):=
 (F_dyn_Table_Limit (l2.length:Int) i1 (l2++[(([]:List (List Int×List Int×Bool)),(0,0))])).bind fun x3=>
 cond (x3.1 != 0)
 (some ((-1:Int),1,x3.2))
 (some ((l2.length:Int),0,x3.2))
def F_dyn_New_sig:Sig:=⟨[.v false [.d (.int .i64)]],[(false,[.d (.ptr 91)]),(false,[.d (.int .i64)])],[(1000182,(.pr (.os 109 (.pr .str (.pr .str .bool))) (.pr (.int .i64) (.int .i64))),true)]⟩
def F_dyn_New_ann:List (Nat×Ann):=[]
noncomputable def F_dyn_New_env:Env:=⟨Tryd.prog,[(37,⟨F_dyn_Table_Limit_sig,⟨F_dyn_Table_Limit⟩⟩)],[]⟩
theorem F_dyn_New_text:pvFn F_dyn_New_env F_dyn_New_ann Tryd.f30 F_dyn_New_sig=F_dyn_New:=by kernel_rfl
noncomputable def F_unpack_New (l1:List (Int×Bool)) (l2:List (List (List Int×List Int×Bool)×Int×Int)):Option (Int×List (Int×Bool)×List (List (List Int×List Int×Bool)×Int×Int)):=
 (F_dyn_New 4096 l2).bind fun x3=>
 some ((l1.length:Int),(l1++[(x3.1,false)]),x3.2.2)
def F_unpack_New_sig:Sig:=⟨[],[(false,[.d (.ptr 78)])],[(1000156,(.pr (.ptr 91) .bool),true),(1000182,(.pr (.os 109 (.pr .str (.pr .str .bool))) (.pr (.int .i64) (.int .i64))),true)]⟩
def F_unpack_New_ann:List (Nat×Ann):=[]
noncomputable def F_unpack_New_env:Env:=⟨Tryd.prog,[(30,⟨F_dyn_New_sig,⟨F_dyn_New⟩⟩)],[]⟩
theorem F_unpack_New_text:pvFn F_unpack_New_env F_unpack_New_ann Tryd.f23 F_unpack_New_sig=F_unpack_New:=by kernel_rfl
noncomputable def F_watch_New (l1:List (List (Int×Int))) (l2:List (Int×Int×Int×Bool×Bool×Bool×Int×Int×Int×List (List (Int×Int))×(Int×Int×Int×Int×Int×Int)×Int×Int×Bool)) (l3:List (Int×List Int)) (l4:List (Int×Bool)) (l5:List (List (List Int×List Int×Bool)×Int×Int)):Option (Int×List (List (Int×Int))×List (Int×Int×Int×Bool×Bool×Bool×Int×Int×Int×List (List (Int×Int))×(Int×Int×Int×Int×Int×Int)×Int×Int×Bool)×List (Int×List Int)×List (Int×Bool)×List (List (List Int×List Int×Bool)×Int×Int)):=
 (F_frame_New 16384 l3).bind fun x6=>
 (F_frame_New 16384 x6.2).bind fun x7=>
 (F_sets_First).bind fun x8=>
 (F_unpack_New l4 l5).bind fun x9=>
 some ((l2.length:Int),(l1++[[]]),(l2++[(0,(x6.1,(x7.1,(false,(false,(false,(0,((l1.length:Int),(65535,(([]:List (List (Int×Int))),((x8.1,(x8.2.1,(x8.2.2.1,(x8.2.2.2.1,(x8.2.2.2.2.1,x8.2.2.2.2.2))))),(x9.1,(0,false)))))))))))))]),x7.2,x9.2.1,x9.2.2)
def F_watch_New_sig:Sig:=⟨[],[(false,[.d (.ptr 59)])],[(1000103,(.sl (.pr (.int .i64) (.ptr 71))),true),(1000118,(.pr (.int .i64) (.pr (.ptr 73) (.pr (.ptr 73) (.pr .bool (.pr .bool (.pr .bool (.pr (.int .i64) (.pr (.mp 51) (.pr (.int .i64) (.pr (.os 63 (.sl (.pr (.int .i64) (.int .i64)))) (.pr (.pr (.int .i64) (.pr (.int .i64) (.pr (.int .i64) (.pr (.int .i64) (.pr (.int .i64) (.int .i64)))))) (.pr (.ptr 78) (.pr (.int .i64) .bool))))))))))))),true),(1000146,(.pr (.int .i64) (.sl (.int .u8))),true),(1000156,(.pr (.ptr 91) .bool),true),(1000182,(.pr (.os 109 (.pr .str (.pr .str .bool))) (.pr (.int .i64) (.int .i64))),true)]⟩
def F_watch_New_ann:List (Nat×Ann):=[]
noncomputable def F_watch_New_env:Env:=⟨Tryd.prog,[(21,⟨F_frame_New_sig,⟨F_frame_New⟩⟩),(22,⟨F_sets_First_sig,⟨F_sets_First⟩⟩),(23,⟨F_unpack_New_sig,⟨F_unpack_New⟩⟩)],[]⟩
theorem F_watch_New_text:pvFn F_watch_New_env F_watch_New_ann Tryd.f8 F_watch_New_sig=F_watch_New:=by kernel_rfl
noncomputable def F_wlvref10_num_L4 (i1:Int) (s:List Int×Int):Option (((List Int)⊕(List Int))⊕(List Int×Int)):=
 let l3:=s.1;let i4:=s.2
 cond (decide (i4 >= 0))
 (chk (decide (0<=(IntKind.u64.wrap (IntKind.i64.wrap (8*i4)))))
 (chk (decide ((l3.length+([(IntKind.u8.wrap (Int.fdiv i1 (2 ^ (min ((IntKind.u64.wrap (IntKind.i64.wrap (8*i4)))).toNat 64))))]:List Int).length)*1<=140737488355328)&&decide (l3.length+([(IntKind.u8.wrap (Int.fdiv i1 (2 ^ (min ((IntKind.u64.wrap (IntKind.i64.wrap (8*i4)))).toNat 64))))]:List Int).length<=maxLen))
 (some (.inr ((l3++([(IntKind.u8.wrap (Int.fdiv i1 (2 ^ (min ((IntKind.u64.wrap (IntKind.i64.wrap (8*i4)))).toNat 64))))]:List Int)),(IntKind.i64.wrap (i4 - 1)))))))
 (some (.inl (.inr l3)))
noncomputable def F_wlvref10_num_J2 (s:List Int):Option (List Int):=
 let l5:=s
 some l5
noncomputable def F_wlvref10_num (i1:Int) (i2:Int):Option (List Int):=
 joinC (S:=List Int) (R:=List Int)
 (loopC (S:=List Int×Int) (R:=(List Int)⊕(List Int)) (F_wlvref10_num_L4 i1) (([]:List Int),(IntKind.i64.wrap (i2 - 1))))
 (F_wlvref10_num_J2)
def F_wlvref10_num_sig:Sig:=⟨[.v false [.d (.int .i64)],.v false [.d (.int .i64)]],[(false,[.own 5 (.int .u8)])],[]⟩
def F_wlvref10_num_ann:List (Nat×Ann):=[(2,⟨3,[(5,false,[.own 5 (.int .u8)])],[],(List.range' 6 16),[],[],[]⟩),(4,⟨5,[(5,false,[.own 5 (.int .u8)]),(6,false,[.d (.int .i64)])],[],(List.range' 9 13),[],[],[]⟩)]
noncomputable def F_wlvref10_num_env:Env:=⟨Tryd.prog,[],[]⟩
theorem F_wlvref10_num_text:pvFn F_wlvref10_num_env F_wlvref10_num_ann Tryd.f27 F_wlvref10_num_sig=F_wlvref10_num:=by kernel_rfl
noncomputable def F_wlvref10_Settings_L6 (l1:List (Int×Int)) (s:Int×Int×Int×Int×List Int×Int×Int×Int×List Int):Option (((Int×Int×Int×List Int)⊕(Int×Int×Int×List Int×Int×Int×Int×List Int))⊕(Int×Int×Int×Int×List Int×Int×Int×Int×List Int)):=
 let i3:=s.1;let i4:=s.2.1;let i5:=s.2.2.1;let i6:=s.2.2.2.1;let l7:=s.2.2.2.2.1;let i9:=s.2.2.2.2.2.1;let i10:=s.2.2.2.2.2.2.1;let i11:=s.2.2.2.2.2.2.2.1;let l12:=s.2.2.2.2.2.2.2.2
 cond (decide (i3 < (l1.length:Int)))
 ((getI l1 i3).bind fun x13=>
 (F_wlvref10_num x13.1 2).bind fun l14=>
 chk (decide ((l12.length+l14.length)*1<=140737488355328)&&decide (l12.length+l14.length<=maxLen))
 ((getI l1 i3).bind fun x15=>
 (F_wlvref10_num x15.2 4).bind fun l16=>
 chk (decide (((l12++l14).length+l16.length)*1<=140737488355328)&&decide ((l12++l14).length+l16.length<=maxLen))
 (some (.inr ((IntKind.i64.wrap (i3+1)),i4,i5,i6,l7,i9,i10,i11,((l12++l14)++l16))))))
 (some (.inl (.inr (i4,i5,i6,l7,i9,i10,i11,l12))))
noncomputable def F_wlvref10_Settings_J4 (s:Int×Int×Int×List Int×Int×Int×Int×List Int):Option (Int×Int×Int×List Int):=
 let i17:=s.1;let i18:=s.2.1;let i19:=s.2.2.1;let l20:=s.2.2.2.1;let i21:=s.2.2.2.2.1;let i22:=s.2.2.2.2.2.1;let i23:=s.2.2.2.2.2.2.1;let l24:=s.2.2.2.2.2.2.2
 some (i21,i22,i23,l24)
noncomputable def F_wlvref10_Settings (l1:List (Int×Int)) (b2:Bool):Option (Int×Int×Int×List Int):=
 cond b2
 (joinC (S:=Int×Int×Int×List Int×Int×Int×Int×List Int) (R:=Int×Int×Int×List Int)
 (loopC (S:=Int×Int×Int×Int×List Int×Int×Int×Int×List Int) (R:=(Int×Int×Int×List Int)⊕(Int×Int×Int×List Int×Int×Int×Int×List Int)) (F_wlvref10_Settings_L6 l1) (0,0,0,0,([]:List Int),4,1,0,([]:List Int)))
 (F_wlvref10_Settings_J4))
 (joinC (S:=Int×Int×Int×List Int×Int×Int×Int×List Int) (R:=Int×Int×Int×List Int)
 (loopC (S:=Int×Int×Int×Int×List Int×Int×Int×Int×List Int) (R:=(Int×Int×Int×List Int)⊕(Int×Int×Int×List Int×Int×Int×Int×List Int)) (F_wlvref10_Settings_L6 l1) (0,0,0,0,([]:List Int),4,0,0,([]:List Int)))
 (F_wlvref10_Settings_J4))
def F_wlvref10_Settings_sig:Sig:=⟨[.v false [.d (.sl (.pr (.int .i64) (.int .i64)))],.v false [.d .bool]],[(true,[.d (.int .i64),.d (.int .i64),.d (.int .i64),.own 5 (.int .u8)])],[]⟩
def F_wlvref10_Settings_ann:List (Nat×Ann):=[(4,⟨5,[],[(4,[.d (.int .i64),.d (.int .i64),.d (.int .i64),.own 5 (.int .u8)]),(5,[.d (.int .i64),.d (.int .i64),.d (.int .i64),.own 5 (.int .u8)])],([6]++List.range' 10 23),[],[],[]⟩),(6,⟨7,[(6,false,[.d (.int .i64)])],[(4,[.d (.int .i64),.d (.int .i64),.d (.int .i64),.own 5 (.int .u8)]),(5,[.d (.int .i64),.d (.int .i64),.d (.int .i64),.own 5 (.int .u8)])],(List.range' 10 23),[],[],[]⟩)]
noncomputable def F_wlvref10_Settings_env:Env:=⟨Tryd.prog,[(27,⟨F_wlvref10_num_sig,⟨F_wlvref10_num⟩⟩)],[17]⟩
theorem F_wlvref10_Settings_text:pvFn F_wlvref10_Settings_env F_wlvref10_Settings_ann Tryd.f11 F_wlvref10_Settings_sig=F_wlvref10_Settings:=by kernel_rfl
noncomputable def F_frame_Parser_Feed (p1:Int) (l2:List Int) (l3:List (Int×List Int)):Option (List (Int×List Int)):=
 chk (nnI p1)
 ((getI l3 p1).bind fun x4=>
 (F_slices_Concat_byte_byte ([x4.2,l2]:List (List Int))).bind fun l5=>
 chk (nnI p1)
 ((getI l3 p1).bind fun x6=>
 some (l3.set (Int.toNat p1) (x6.1,l5))))
def F_frame_Parser_Feed_sig:Sig:=⟨[.v false [.d (.ptr 73)],.v false [.d (.sl (.int .u8))]],[],[(1000146,(.pr (.int .i64) (.sl (.int .u8))),true)]⟩
def F_frame_Parser_Feed_ann:List (Nat×Ann):=[]
noncomputable def F_frame_Parser_Feed_env:Env:=⟨Tryd.prog,[(31,⟨F_slices_Concat_byte_byte_sig,⟨F_slices_Concat_byte_byte⟩⟩)],[]⟩
theorem F_frame_Parser_Feed_text:pvFn F_frame_Parser_Feed_env F_frame_Parser_Feed_ann Tryd.f24 F_frame_Parser_Feed_sig=F_frame_Parser_Feed:=by kernel_rfl
noncomputable def F_frame_Parser_Next_G1_0 (s:Int×Int×Int×List Int×List (Int×List Int)):Option ((Int×Int×Int×List Int×Int×List (Int×List Int))⊕(Nat×Int×Int×Int×List Int×List (Int×List Int))):=
 let i30:=s.1;let i31:=s.2.1;let i33:=s.2.2.1;let l34:=s.2.2.2.1;let l35:=s.2.2.2.2
 some (.inl (0,0,0,([]:List Int),4,l35))
noncomputable def F_frame_Parser_Next_G1 (p:Nat×Int×Int×Int×List Int×List (Int×List Int)):Option ((Int×Int×Int×List Int×Int×List (Int×List Int))⊕(Nat×Int×Int×Int×List Int×List (Int×List Int))):=
 cond (hasN [0] p.1) (F_frame_Parser_Next_G1_0 p.2) (none)
noncomputable def F_frame_Parser_Next (p1:Int) (l2:List (Int×List Int)):Option (Int×Int×Int×List Int×Int×List (Int×List Int)):=
 joinC (S:=Nat×Int×Int×Int×List Int×List (Int×List Int)) (R:=Int×Int×Int×List Int×Int×List (Int×List Int))
 (chk (nnI p1)
 ((getI l2 p1).bind fun x3=>
 cond (decide ((x3.2.length:Int) < 9))
 (some (.inr (0,(0,0,0,([]:List Int),l2))))
 (chk (nnI p1)
 ((getI l2 p1).bind fun x4=>
 (getI x4.2 0).bind fun i5=>
 chk (nnI p1)
 ((getI l2 p1).bind fun x6=>
 (getI x6.2 1).bind fun i7=>
 chk (nnI p1)
 ((getI l2 p1).bind fun x8=>
 (getI x8.2 2).bind fun i9=>
 chk (nnI p1)
 ((getI l2 p1).bind fun x10=>
 cond (decide ((bits .or .i64 (bits .or .i64 (IntKind.i64.wrap ((IntKind.i64.wrap i5)*2 ^ 16)) (IntKind.i64.wrap ((IntKind.i64.wrap i7)*2 ^ 8))) (IntKind.i64.wrap i9)) > x10.1))
 (some (.inl (0,0,0,([]:List Int),3,l2)))
 (chk (nnI p1)
 ((getI l2 p1).bind fun x11=>
 cond (decide ((IntKind.i64.wrap ((x11.2.length:Int) - 9)) < (bits .or .i64 (bits .or .i64 (IntKind.i64.wrap ((IntKind.i64.wrap i5)*2 ^ 16)) (IntKind.i64.wrap ((IntKind.i64.wrap i7)*2 ^ 8))) (IntKind.i64.wrap i9))))
 (some (.inr (0,(0,0,0,([]:List Int),l2))))
 (chk (nnI p1)
 ((getI l2 p1).bind fun x12=>
 (getI x12.2 3).bind fun i13=>
 chk (nnI p1)
 ((getI l2 p1).bind fun x14=>
 (getI x14.2 4).bind fun i15=>
 chk (nnI p1)
 ((getI l2 p1).bind fun x16=>
 (getI x16.2 5).bind fun i17=>
 chk (nnI p1)
 ((getI l2 p1).bind fun x18=>
 (getI x18.2 6).bind fun i19=>
 chk (nnI p1)
 ((getI l2 p1).bind fun x20=>
 (getI x20.2 7).bind fun i21=>
 chk (nnI p1)
 ((getI l2 p1).bind fun x22=>
 (getI x22.2 8).bind fun i23=>
 chk (nnI p1)
 ((getI l2 p1).bind fun x24=>
 (cutI x24.2 9 (IntKind.i64.wrap (9+(bits .or .i64 (bits .or .i64 (IntKind.i64.wrap ((IntKind.i64.wrap i5)*2 ^ 16)) (IntKind.i64.wrap ((IntKind.i64.wrap i7)*2 ^ 8))) (IntKind.i64.wrap i9))))).bind fun l25=>
 (F_bytes_Clone l25).bind fun l26=>
 chk (nnI p1)
 ((getI l2 p1).bind fun x27=>
 (cutI x27.2 (IntKind.i64.wrap (9+(bits .or .i64 (bits .or .i64 (IntKind.i64.wrap ((IntKind.i64.wrap i5)*2 ^ 16)) (IntKind.i64.wrap ((IntKind.i64.wrap i7)*2 ^ 8))) (IntKind.i64.wrap i9)))) (x27.2.length:Int)).bind fun l28=>
 chk (nnI p1)
 ((getI l2 p1).bind fun x29=>
 some (.inl ((IntKind.i64.wrap i13),(IntKind.i64.wrap i15),(bits .and .i64 (bits .or .i64 (bits .or .i64 (bits .or .i64 (IntKind.i64.wrap ((IntKind.i64.wrap i17)*2 ^ 24)) (IntKind.i64.wrap ((IntKind.i64.wrap i19)*2 ^ 16))) (IntKind.i64.wrap ((IntKind.i64.wrap i21)*2 ^ 8))) (IntKind.i64.wrap i23)) 2147483647),l26,0,(l2.set (Int.toNat p1) (x29.1,l28)))))))))))))))))))))))
 (fun p=>loopC (S:=Nat×Int×Int×Int×List Int×List (Int×List Int)) (R:=Int×Int×Int×List Int×Int×List (Int×List Int)) (F_frame_Parser_Next_G1) p)
def F_frame_Parser_Next_sig:Sig:=⟨[.v false [.d (.ptr 73)]],[(true,[.d (.int .i64),.d (.int .i64),.d (.int .i64),.own 5 (.int .u8)]),(false,[.d (.int .i64)])],[(1000146,(.pr (.int .i64) (.sl (.int .u8))),true)]⟩
def F_frame_Parser_Next_ann:List (Nat×Ann):=[(1,⟨2,[],[(2,[.d (.int .i64),.d (.int .i64),.d (.int .i64),.own 5 (.int .u8)])],(List.range' 3 122),[],[(1000146,(.pr (.int .i64) (.sl (.int .u8))),true)],[]⟩)]
noncomputable def F_frame_Parser_Next_env:Env:=⟨Tryd.prog,[(29,⟨F_bytes_Clone_sig,⟨F_bytes_Clone⟩⟩)],[117]⟩
theorem F_frame_Parser_Next_text:pvFn F_frame_Parser_Next_env F_frame_Parser_Next_ann Tryd.f25 F_frame_Parser_Next_sig=F_frame_Parser_Next:=by kernel_rfl
noncomputable def F_part_conn (i1:Int):Option (List Int×Int×Int×Int×Int×List (Int×Int)×Bool×Bool×Bool×Bool×Bool×Int):=
 some (([]:List Int),0,0,0,0,([]:List (Int×Int)),false,false,false,true,true,i1)
def F_part_conn_sig:Sig:=⟨[.v false [.d (.int .i64)]],[(true,[.own 5 (.int .u8),.d (.int .i64),.d (.int .i64),.d (.int .i64),.d (.int .i64),.own 66 (.pr (.int .i64) (.int .i64)),.d .bool,.d .bool,.d .bool]),(true,[.d .bool,.d .bool,.d (.int .i64)])],[]⟩
def F_part_conn_ann:List (Nat×Ann):=[]
noncomputable def F_part_conn_env:Env:=⟨Tryd.prog,[],[]⟩
theorem F_part_conn_text:pvFn F_part_conn_env F_part_conn_ann Tryd.f41 F_part_conn_sig=F_part_conn:=by kernel_rfl
noncomputable def F_part_bodied_G1_0 (i1:Int) (i2:Int) (s:List Int×Int×List Int×Int×Int×Int×Int×List (Int×Int)×Bool×Bool×Bool×List Int×Int×Int×Int×Int×List (Int×Int)×Bool×Bool×Bool×Bool×Bool×Int):Option ((List Int×Int×Int×Int×Int×List (Int×Int)×Bool×Bool×Bool×Bool×Bool×Int)⊕(Nat×List Int×Int×List Int×Int×Int×Int×Int×List (Int×Int)×Bool×Bool×Bool×List Int×Int×Int×Int×Int×List (Int×Int)×Bool×Bool×Bool×Bool×Bool×Int)):=
 let l24:=s.1;let i25:=s.2.1;let l26:=s.2.2.1;let i27:=s.2.2.2.1;let i28:=s.2.2.2.2.1;let i29:=s.2.2.2.2.2.1;let i30:=s.2.2.2.2.2.2.1;let l31:=s.2.2.2.2.2.2.2.1;let b32:=s.2.2.2.2.2.2.2.2.1;let b33:=s.2.2.2.2.2.2.2.2.2.1;let b34:=s.2.2.2.2.2.2.2.2.2.2.1;let l35:=s.2.2.2.2.2.2.2.2.2.2.2.1;let i36:=s.2.2.2.2.2.2.2.2.2.2.2.2.1;let i37:=s.2.2.2.2.2.2.2.2.2.2.2.2.2.1;let i38:=s.2.2.2.2.2.2.2.2.2.2.2.2.2.2.1;let i39:=s.2.2.2.2.2.2.2.2.2.2.2.2.2.2.2.1;let l40:=s.2.2.2.2.2.2.2.2.2.2.2.2.2.2.2.2.1;let b41:=s.2.2.2.2.2.2.2.2.2.2.2.2.2.2.2.2.2.1;let b42:=s.2.2.2.2.2.2.2.2.2.2.2.2.2.2.2.2.2.2.1;let b43:=s.2.2.2.2.2.2.2.2.2.2.2.2.2.2.2.2.2.2.2.1;let b44:=s.2.2.2.2.2.2.2.2.2.2.2.2.2.2.2.2.2.2.2.2.1;let b45:=s.2.2.2.2.2.2.2.2.2.2.2.2.2.2.2.2.2.2.2.2.2.1;let i46:=s.2.2.2.2.2.2.2.2.2.2.2.2.2.2.2.2.2.2.2.2.2.2
 cond (i1==0)
 (some (.inr (1,(l24,i25,l26,i27,i28,i29,i30,l31,b32,b33,b34,l35,i36,i37,i38,i39,l40,b41,b42,b43,b44,b45,i46))))
 (cond ((bits .and .i64 i2 32)==0)
 (some (.inr (1,(l24,i25,l26,i27,i28,i29,i30,l31,b32,b33,b34,l35,i36,i37,i38,i39,l40,b41,b42,b43,b44,b45,i46))))
 (cond (decide ((l24.length:Int) < 5))
 ((F_part_conn 6).bind fun x47=>
 some (.inl (x47.1,x47.2.1,x47.2.2.1,x47.2.2.2.1,x47.2.2.2.2.1,x47.2.2.2.2.2.1,x47.2.2.2.2.2.2.1,x47.2.2.2.2.2.2.2.1,x47.2.2.2.2.2.2.2.2.1,x47.2.2.2.2.2.2.2.2.2.1,x47.2.2.2.2.2.2.2.2.2.2.1,x47.2.2.2.2.2.2.2.2.2.2.2)))
 ((cutI l24 5 (l24.length:Int)).bind fun l48=>
 cond (decide (i25 > (l48.length:Int)))
 ((F_part_conn 1).bind fun x49=>
 some (.inl (x49.1,x49.2.1,x49.2.2.1,x49.2.2.2.1,x49.2.2.2.2.1,x49.2.2.2.2.2.1,x49.2.2.2.2.2.2.1,x49.2.2.2.2.2.2.2.1,x49.2.2.2.2.2.2.2.2.1,x49.2.2.2.2.2.2.2.2.2.1,x49.2.2.2.2.2.2.2.2.2.2.1,x49.2.2.2.2.2.2.2.2.2.2.2)))
 ((cutI l48 0 (IntKind.i64.wrap ((l48.length:Int) - i25))).bind fun l50=>
 (F_bytes_Clone l50).bind fun l51=>
 some (.inl (l51,i27,i28,i29,i30,l31,b32,b33,b34,false,false,0))))))
noncomputable def F_part_bodied_G1_1 (s:List Int×Int×List Int×Int×Int×Int×Int×List (Int×Int)×Bool×Bool×Bool×List Int×Int×Int×Int×Int×List (Int×Int)×Bool×Bool×Bool×Bool×Bool×Int):Option ((List Int×Int×Int×Int×Int×List (Int×Int)×Bool×Bool×Bool×Bool×Bool×Int)⊕(Nat×List Int×Int×List Int×Int×Int×Int×Int×List (Int×Int)×Bool×Bool×Bool×List Int×Int×Int×Int×Int×List (Int×Int)×Bool×Bool×Bool×Bool×Bool×Int)):=
 let l24:=s.1;let i25:=s.2.1;let l26:=s.2.2.1;let i27:=s.2.2.2.1;let i28:=s.2.2.2.2.1;let i29:=s.2.2.2.2.2.1;let i30:=s.2.2.2.2.2.2.1;let l31:=s.2.2.2.2.2.2.2.1;let b32:=s.2.2.2.2.2.2.2.2.1;let b33:=s.2.2.2.2.2.2.2.2.2.1;let b34:=s.2.2.2.2.2.2.2.2.2.2.1;let l35:=s.2.2.2.2.2.2.2.2.2.2.2.1;let i36:=s.2.2.2.2.2.2.2.2.2.2.2.2.1;let i37:=s.2.2.2.2.2.2.2.2.2.2.2.2.2.1;let i38:=s.2.2.2.2.2.2.2.2.2.2.2.2.2.2.1;let i39:=s.2.2.2.2.2.2.2.2.2.2.2.2.2.2.2.1;let l40:=s.2.2.2.2.2.2.2.2.2.2.2.2.2.2.2.2.1;let b41:=s.2.2.2.2.2.2.2.2.2.2.2.2.2.2.2.2.2.1;let b42:=s.2.2.2.2.2.2.2.2.2.2.2.2.2.2.2.2.2.2.1;let b43:=s.2.2.2.2.2.2.2.2.2.2.2.2.2.2.2.2.2.2.2.1;let b44:=s.2.2.2.2.2.2.2.2.2.2.2.2.2.2.2.2.2.2.2.2.1;let b45:=s.2.2.2.2.2.2.2.2.2.2.2.2.2.2.2.2.2.2.2.2.2.1;let i46:=s.2.2.2.2.2.2.2.2.2.2.2.2.2.2.2.2.2.2.2.2.2.2
 cond (decide (i25 > (l24.length:Int)))
 ((F_part_conn 1).bind fun x52=>
 some (.inl (x52.1,x52.2.1,x52.2.2.1,x52.2.2.2.1,x52.2.2.2.2.1,x52.2.2.2.2.2.1,x52.2.2.2.2.2.2.1,x52.2.2.2.2.2.2.2.1,x52.2.2.2.2.2.2.2.2.1,x52.2.2.2.2.2.2.2.2.2.1,x52.2.2.2.2.2.2.2.2.2.2.1,x52.2.2.2.2.2.2.2.2.2.2.2)))
 ((cutI l24 0 (IntKind.i64.wrap ((l24.length:Int) - i25))).bind fun l53=>
 (F_bytes_Clone l53).bind fun l54=>
 some (.inl (l54,i27,i28,i29,i30,l31,b32,b33,b34,false,false,0)))
noncomputable def F_part_bodied_G1 (i1:Int) (i2:Int) (p:Nat×List Int×Int×List Int×Int×Int×Int×Int×List (Int×Int)×Bool×Bool×Bool×List Int×Int×Int×Int×Int×List (Int×Int)×Bool×Bool×Bool×Bool×Bool×Int):Option ((List Int×Int×Int×Int×Int×List (Int×Int)×Bool×Bool×Bool×Bool×Bool×Int)⊕(Nat×List Int×Int×List Int×Int×Int×Int×Int×List (Int×Int)×Bool×Bool×Bool×List Int×Int×Int×Int×Int×List (Int×Int)×Bool×Bool×Bool×Bool×Bool×Int)):=
 cond (hasN [0] p.1) (F_part_bodied_G1_0 i1 i2 p.2) (cond (hasN [1] p.1) (F_part_bodied_G1_1 p.2) (none))
noncomputable def F_part_bodied (i1:Int) (i2:Int) (i3:Int) (l4:List Int):Option (List Int×Int×Int×Int×Int×List (Int×Int)×Bool×Bool×Bool×Bool×Bool×Int):=
 joinC (S:=Nat×List Int×Int×List Int×Int×Int×Int×Int×List (Int×Int)×Bool×Bool×Bool×List Int×Int×Int×Int×Int×List (Int×Int)×Bool×Bool×Bool×Bool×Bool×Int) (R:=List Int×Int×Int×Int×Int×List (Int×Int)×Bool×Bool×Bool×Bool×Bool×Int)
 (cond (i1==1)
 (cond (i3==0)
 ((F_part_conn 1).bind fun x5=>
 some (.inl (x5.1,x5.2.1,x5.2.2.1,x5.2.2.2.1,x5.2.2.2.2.1,x5.2.2.2.2.2.1,x5.2.2.2.2.2.2.1,x5.2.2.2.2.2.2.2.1,x5.2.2.2.2.2.2.2.2.1,x5.2.2.2.2.2.2.2.2.2.1,x5.2.2.2.2.2.2.2.2.2.2.1,x5.2.2.2.2.2.2.2.2.2.2.2)))
 (cond ((bits .and .i64 i2 8)==0)
 (some (.inr (0,(l4,0,([]:List Int),0,0,0,0,([]:List (Int×Int)),(decide ((bits .and .i64 i2 1) > 0)),false,(decide ((bits .and .i64 i2 4) > 0)),([]:List Int),0,0,0,0,([]:List (Int×Int)),false,false,false,false,false,0))))
 (cond ((l4.length:Int)==0)
 ((F_part_conn 6).bind fun x6=>
 some (.inl (x6.1,x6.2.1,x6.2.2.1,x6.2.2.2.1,x6.2.2.2.2.1,x6.2.2.2.2.2.1,x6.2.2.2.2.2.2.1,x6.2.2.2.2.2.2.2.1,x6.2.2.2.2.2.2.2.2.1,x6.2.2.2.2.2.2.2.2.2.1,x6.2.2.2.2.2.2.2.2.2.2.1,x6.2.2.2.2.2.2.2.2.2.2.2)))
 ((getI l4 0).bind fun i7=>
 (cutI l4 1 (l4.length:Int)).bind fun l8=>
 cond (i1==0)
 (some (.inr (1,(l8,(IntKind.i64.wrap i7),([]:List Int),(IntKind.i64.wrap ((IntKind.i64.wrap i7)+1)),0,0,0,([]:List (Int×Int)),(decide ((bits .and .i64 i2 1) > 0)),false,(decide ((bits .and .i64 i2 4) > 0)),([]:List Int),0,0,0,0,([]:List (Int×Int)),false,false,false,false,false,0))))
 (cond ((bits .and .i64 i2 32)==0)
 (some (.inr (1,(l8,(IntKind.i64.wrap i7),([]:List Int),(IntKind.i64.wrap ((IntKind.i64.wrap i7)+1)),0,0,0,([]:List (Int×Int)),(decide ((bits .and .i64 i2 1) > 0)),false,(decide ((bits .and .i64 i2 4) > 0)),([]:List Int),0,0,0,0,([]:List (Int×Int)),false,false,false,false,false,0))))
 (cond (decide ((l8.length:Int) < 5))
 ((F_part_conn 6).bind fun x9=>
 some (.inl (x9.1,x9.2.1,x9.2.2.1,x9.2.2.2.1,x9.2.2.2.2.1,x9.2.2.2.2.2.1,x9.2.2.2.2.2.2.1,x9.2.2.2.2.2.2.2.1,x9.2.2.2.2.2.2.2.2.1,x9.2.2.2.2.2.2.2.2.2.1,x9.2.2.2.2.2.2.2.2.2.2.1,x9.2.2.2.2.2.2.2.2.2.2.2)))
 ((cutI l8 5 (l8.length:Int)).bind fun l10=>
 cond (decide ((IntKind.i64.wrap i7) > (l10.length:Int)))
 ((F_part_conn 1).bind fun x11=>
 some (.inl (x11.1,x11.2.1,x11.2.2.1,x11.2.2.2.1,x11.2.2.2.2.1,x11.2.2.2.2.2.1,x11.2.2.2.2.2.2.1,x11.2.2.2.2.2.2.2.1,x11.2.2.2.2.2.2.2.2.1,x11.2.2.2.2.2.2.2.2.2.1,x11.2.2.2.2.2.2.2.2.2.2.1,x11.2.2.2.2.2.2.2.2.2.2.2)))
 ((cutI l10 0 (IntKind.i64.wrap ((l10.length:Int) - (IntKind.i64.wrap i7)))).bind fun l12=>
 (F_bytes_Clone l12).bind fun l13=>
 some (.inl (l13,(IntKind.i64.wrap ((IntKind.i64.wrap i7)+1)),0,0,0,([]:List (Int×Int)),(decide ((bits .and .i64 i2 1) > 0)),false,(decide ((bits .and .i64 i2 4) > 0)),false,false,0))))))))))
 (cond (i3==0)
 ((F_part_conn 1).bind fun x14=>
 some (.inl (x14.1,x14.2.1,x14.2.2.1,x14.2.2.2.1,x14.2.2.2.2.1,x14.2.2.2.2.2.1,x14.2.2.2.2.2.2.1,x14.2.2.2.2.2.2.2.1,x14.2.2.2.2.2.2.2.2.1,x14.2.2.2.2.2.2.2.2.2.1,x14.2.2.2.2.2.2.2.2.2.2.1,x14.2.2.2.2.2.2.2.2.2.2.2)))
 (cond ((bits .and .i64 i2 8)==0)
 (some (.inr (0,(l4,0,([]:List Int),0,0,0,0,([]:List (Int×Int)),(decide ((bits .and .i64 i2 1) > 0)),false,false,([]:List Int),0,0,0,0,([]:List (Int×Int)),false,false,false,false,false,0))))
 (cond ((l4.length:Int)==0)
 ((F_part_conn 6).bind fun x15=>
 some (.inl (x15.1,x15.2.1,x15.2.2.1,x15.2.2.2.1,x15.2.2.2.2.1,x15.2.2.2.2.2.1,x15.2.2.2.2.2.2.1,x15.2.2.2.2.2.2.2.1,x15.2.2.2.2.2.2.2.2.1,x15.2.2.2.2.2.2.2.2.2.1,x15.2.2.2.2.2.2.2.2.2.2.1,x15.2.2.2.2.2.2.2.2.2.2.2)))
 ((getI l4 0).bind fun i17=>
 (cutI l4 1 (l4.length:Int)).bind fun l18=>
 cond (i1==0)
 (some (.inr (1,(l18,(IntKind.i64.wrap i17),([]:List Int),(IntKind.i64.wrap ((IntKind.i64.wrap i17)+1)),0,0,0,([]:List (Int×Int)),(decide ((bits .and .i64 i2 1) > 0)),false,false,([]:List Int),0,0,0,0,([]:List (Int×Int)),false,false,false,false,false,0))))
 (cond ((bits .and .i64 i2 32)==0)
 (some (.inr (1,(l18,(IntKind.i64.wrap i17),([]:List Int),(IntKind.i64.wrap ((IntKind.i64.wrap i17)+1)),0,0,0,([]:List (Int×Int)),(decide ((bits .and .i64 i2 1) > 0)),false,false,([]:List Int),0,0,0,0,([]:List (Int×Int)),false,false,false,false,false,0))))
 (cond (decide ((l18.length:Int) < 5))
 ((F_part_conn 6).bind fun x19=>
 some (.inl (x19.1,x19.2.1,x19.2.2.1,x19.2.2.2.1,x19.2.2.2.2.1,x19.2.2.2.2.2.1,x19.2.2.2.2.2.2.1,x19.2.2.2.2.2.2.2.1,x19.2.2.2.2.2.2.2.2.1,x19.2.2.2.2.2.2.2.2.2.1,x19.2.2.2.2.2.2.2.2.2.2.1,x19.2.2.2.2.2.2.2.2.2.2.2)))
 ((cutI l18 5 (l18.length:Int)).bind fun l20=>
 cond (decide ((IntKind.i64.wrap i17) > (l20.length:Int)))
 ((F_part_conn 1).bind fun x21=>
 some (.inl (x21.1,x21.2.1,x21.2.2.1,x21.2.2.2.1,x21.2.2.2.2.1,x21.2.2.2.2.2.1,x21.2.2.2.2.2.2.1,x21.2.2.2.2.2.2.2.1,x21.2.2.2.2.2.2.2.2.1,x21.2.2.2.2.2.2.2.2.2.1,x21.2.2.2.2.2.2.2.2.2.2.1,x21.2.2.2.2.2.2.2.2.2.2.2)))
 ((cutI l20 0 (IntKind.i64.wrap ((l20.length:Int) - (IntKind.i64.wrap i17)))).bind fun l22=>
 (F_bytes_Clone l22).bind fun l23=>
 some (.inl (l23,(IntKind.i64.wrap ((IntKind.i64.wrap i17)+1)),0,0,0,([]:List (Int×Int)),(decide ((bits .and .i64 i2 1) > 0)),false,false,false,false,0)))))))))))
 (fun p=>loopC (S:=Nat×List Int×Int×List Int×Int×Int×Int×Int×List (Int×Int)×Bool×Bool×Bool×List Int×Int×Int×Int×Int×List (Int×Int)×Bool×Bool×Bool×Bool×Bool×Int) (R:=List Int×Int×Int×Int×Int×List (Int×Int)×Bool×Bool×Bool×Bool×Bool×Int) (F_part_bodied_G1 i1 i2) p)
def F_part_bodied_sig:Sig:=⟨[.v true [.d (.int .i64),.d (.int .i64),.d (.int .i64),.d (.sl (.int .u8))]],[(true,[.own 5 (.int .u8),.d (.int .i64),.d (.int .i64),.d (.int .i64),.d (.int .i64),.own 66 (.pr (.int .i64) (.int .i64)),.d .bool,.d .bool,.d .bool]),(true,[.d .bool,.d .bool,.d (.int .i64)])],[]⟩
def F_part_bodied_ann:List (Nat×Ann):=[(1,⟨2,[(5,false,[.d (.sl (.int .u8))]),(6,false,[.d (.int .i64)])],[(4,[.own 5 (.int .u8),.d (.int .i64),.d (.int .i64),.d (.int .i64),.d (.int .i64),.own 66 (.pr (.int .i64) (.int .i64)),.d .bool,.d .bool,.d .bool]),(2,[.own 5 (.int .u8),.d (.int .i64),.d (.int .i64),.d (.int .i64),.d (.int .i64),.own 66 (.pr (.int .i64) (.int .i64)),.d .bool,.d .bool,.d .bool]),(3,[.d .bool,.d .bool,.d (.int .i64)])],([4]++List.range' 7 75),[1],[],[4]⟩)]
noncomputable def F_part_bodied_env:Env:=⟨Tryd.prog,[(29,⟨F_bytes_Clone_sig,⟨F_bytes_Clone⟩⟩),(41,⟨F_part_conn_sig,⟨F_part_conn⟩⟩)],[]⟩
theorem F_part_bodied_text:pvFn F_part_bodied_env F_part_bodied_ann Tryd.f39 F_part_bodied_sig=F_part_bodied:=by kernel_rfl
noncomputable def F_part_number (l1:List Int):Option (Int):=
 (getI l1 0).bind fun i2=>
 (getI l1 1).bind fun i3=>
 (getI l1 2).bind fun i4=>
 (getI l1 3).bind fun i5=>
 some (bits .or .i64 (bits .or .i64 (bits .or .i64 (IntKind.i64.wrap ((IntKind.i64.wrap i2)*2 ^ 24)) (IntKind.i64.wrap ((IntKind.i64.wrap i3)*2 ^ 16))) (IntKind.i64.wrap ((IntKind.i64.wrap i4)*2 ^ 8))) (IntKind.i64.wrap i5))
def F_part_number_sig:Sig:=⟨[.v false [.d (.sl (.int .u8))]],[(false,[.d (.int .i64)])],[]⟩
def F_part_number_ann:List (Nat×Ann):=[]
noncomputable def F_part_number_env:Env:=⟨Tryd.prog,[],[]⟩
theorem F_part_number_text:pvFn F_part_number_env F_part_number_ann Tryd.f45 F_part_number_sig=F_part_number:=by kernel_rfl
noncomputable def F_part_settings_L9 (s:List Int×List Int×Int×Int×Int×Int×List (Int×Int)×Bool×Bool×Bool×Bool×Bool×Int×List Int×Int×Int×Int×Int×List (Int×Int)×Bool×Bool×Bool):Option (((List Int×Int×Int×Int×Int×List (Int×Int)×Bool×Bool×Bool×Bool×Bool×Int)⊕(List Int×Int×Int×Int×Int×List (Int×Int)×Bool×Bool×Bool×Bool×Bool×Int×List Int×Int×Int×Int×Int×List (Int×Int)×Bool×Bool×Bool))⊕(List Int×List Int×Int×Int×Int×Int×List (Int×Int)×Bool×Bool×Bool×Bool×Bool×Int×List Int×Int×Int×Int×Int×List (Int×Int)×Bool×Bool×Bool)):=
 let l8:=s.1;let l9:=s.2.1;let i10:=s.2.2.1;let i11:=s.2.2.2.1;let i12:=s.2.2.2.2.1;let i13:=s.2.2.2.2.2.1;let l14:=s.2.2.2.2.2.2.1;let b15:=s.2.2.2.2.2.2.2.1;let b16:=s.2.2.2.2.2.2.2.2.1;let b17:=s.2.2.2.2.2.2.2.2.2.1;let b18:=s.2.2.2.2.2.2.2.2.2.2.1;let b19:=s.2.2.2.2.2.2.2.2.2.2.2.1;let i20:=s.2.2.2.2.2.2.2.2.2.2.2.2.1;let l21:=s.2.2.2.2.2.2.2.2.2.2.2.2.2.1;let i22:=s.2.2.2.2.2.2.2.2.2.2.2.2.2.2.1;let i23:=s.2.2.2.2.2.2.2.2.2.2.2.2.2.2.2.1;let i24:=s.2.2.2.2.2.2.2.2.2.2.2.2.2.2.2.2.1;let i25:=s.2.2.2.2.2.2.2.2.2.2.2.2.2.2.2.2.2.1;let l26:=s.2.2.2.2.2.2.2.2.2.2.2.2.2.2.2.2.2.2.1;let b27:=s.2.2.2.2.2.2.2.2.2.2.2.2.2.2.2.2.2.2.2.1;let b28:=s.2.2.2.2.2.2.2.2.2.2.2.2.2.2.2.2.2.2.2.2.1;let b29:=s.2.2.2.2.2.2.2.2.2.2.2.2.2.2.2.2.2.2.2.2.2
 cond (decide ((l8.length:Int) > 0))
 ((getI l8 0).bind fun i30=>
 (getI l8 1).bind fun i31=>
 (cutI l8 2 (l8.length:Int)).bind fun l32=>
 (F_part_number l32).bind fun i33=>
 chk (decide ((l26.length+([((bits .or .i64 (IntKind.i64.wrap ((IntKind.i64.wrap i30)*2 ^ 8)) (IntKind.i64.wrap i31)),i33)]:List (Int×Int)).length)*16<=140737488355328)&&decide (l26.length+([((bits .or .i64 (IntKind.i64.wrap ((IntKind.i64.wrap i30)*2 ^ 8)) (IntKind.i64.wrap i31)),i33)]:List (Int×Int)).length<=maxLen))
 ((cutI l8 6 (l8.length:Int)).bind fun l34=>
 some (.inr (l34,l9,i10,i11,i12,i13,l14,b15,b16,b17,b18,b19,i20,l21,i22,i23,i24,i25,(l26++([((bits .or .i64 (IntKind.i64.wrap ((IntKind.i64.wrap i30)*2 ^ 8)) (IntKind.i64.wrap i31)),i33)]:List (Int×Int))),b27,b28,b29))))
 (some (.inl (.inr (l9,i10,i11,i12,i13,l14,b15,b16,b17,b18,b19,i20,l21,i22,i23,i24,i25,l26,b27,b28,b29))))
noncomputable def F_part_settings_J7 (s:List Int×Int×Int×Int×Int×List (Int×Int)×Bool×Bool×Bool×Bool×Bool×Int×List Int×Int×Int×Int×Int×List (Int×Int)×Bool×Bool×Bool):Option (List Int×Int×Int×Int×Int×List (Int×Int)×Bool×Bool×Bool×Bool×Bool×Int):=
 let l35:=s.1;let i36:=s.2.1;let i37:=s.2.2.1;let i38:=s.2.2.2.1;let i39:=s.2.2.2.2.1;let l40:=s.2.2.2.2.2.1;let b41:=s.2.2.2.2.2.2.1;let b42:=s.2.2.2.2.2.2.2.1;let b43:=s.2.2.2.2.2.2.2.2.1;let b44:=s.2.2.2.2.2.2.2.2.2.1;let b45:=s.2.2.2.2.2.2.2.2.2.2.1;let i46:=s.2.2.2.2.2.2.2.2.2.2.2.1;let l47:=s.2.2.2.2.2.2.2.2.2.2.2.2.1;let i48:=s.2.2.2.2.2.2.2.2.2.2.2.2.2.1;let i49:=s.2.2.2.2.2.2.2.2.2.2.2.2.2.2.1;let i50:=s.2.2.2.2.2.2.2.2.2.2.2.2.2.2.2.1;let i51:=s.2.2.2.2.2.2.2.2.2.2.2.2.2.2.2.2.1;let l52:=s.2.2.2.2.2.2.2.2.2.2.2.2.2.2.2.2.2.1;let b53:=s.2.2.2.2.2.2.2.2.2.2.2.2.2.2.2.2.2.2.1;let b54:=s.2.2.2.2.2.2.2.2.2.2.2.2.2.2.2.2.2.2.2.1;let b55:=s.2.2.2.2.2.2.2.2.2.2.2.2.2.2.2.2.2.2.2.2
 some (l47,i48,i49,i50,i51,l52,b53,b54,b55,false,false,0)
noncomputable def F_part_settings (i1:Int) (i2:Int) (i3:Int) (l4:List Int):Option (List Int×Int×Int×Int×Int×List (Int×Int)×Bool×Bool×Bool×Bool×Bool×Int):=
 cond (i3 != 0)
 ((F_part_conn 1).bind fun x5=>
 some (x5.1,x5.2.1,x5.2.2.1,x5.2.2.2.1,x5.2.2.2.2.1,x5.2.2.2.2.2.1,x5.2.2.2.2.2.2.1,x5.2.2.2.2.2.2.2.1,x5.2.2.2.2.2.2.2.2.1,x5.2.2.2.2.2.2.2.2.2.1,x5.2.2.2.2.2.2.2.2.2.2.1,x5.2.2.2.2.2.2.2.2.2.2.2))
 (cond (decide ((bits .and .i64 i2 1) > 0))
 (cond (decide ((l4.length:Int) > 0))
 ((F_part_conn 6).bind fun x6=>
 some (x6.1,x6.2.1,x6.2.2.1,x6.2.2.2.1,x6.2.2.2.2.1,x6.2.2.2.2.2.1,x6.2.2.2.2.2.2.1,x6.2.2.2.2.2.2.2.1,x6.2.2.2.2.2.2.2.2.1,x6.2.2.2.2.2.2.2.2.2.1,x6.2.2.2.2.2.2.2.2.2.2.1,x6.2.2.2.2.2.2.2.2.2.2.2))
 (cond (decide ((Int.tmod (l4.length:Int) 6) > 0))
 ((F_part_conn 6).bind fun x7=>
 some (x7.1,x7.2.1,x7.2.2.1,x7.2.2.2.1,x7.2.2.2.2.1,x7.2.2.2.2.2.1,x7.2.2.2.2.2.2.1,x7.2.2.2.2.2.2.2.1,x7.2.2.2.2.2.2.2.2.1,x7.2.2.2.2.2.2.2.2.2.1,x7.2.2.2.2.2.2.2.2.2.2.1,x7.2.2.2.2.2.2.2.2.2.2.2))
 (joinC (S:=List Int×Int×Int×Int×Int×List (Int×Int)×Bool×Bool×Bool×Bool×Bool×Int×List Int×Int×Int×Int×Int×List (Int×Int)×Bool×Bool×Bool) (R:=List Int×Int×Int×Int×Int×List (Int×Int)×Bool×Bool×Bool×Bool×Bool×Int)
 (loopC (S:=List Int×List Int×Int×Int×Int×Int×List (Int×Int)×Bool×Bool×Bool×Bool×Bool×Int×List Int×Int×Int×Int×Int×List (Int×Int)×Bool×Bool×Bool) (R:=(List Int×Int×Int×Int×Int×List (Int×Int)×Bool×Bool×Bool×Bool×Bool×Int)⊕(List Int×Int×Int×Int×Int×List (Int×Int)×Bool×Bool×Bool×Bool×Bool×Int×List Int×Int×Int×Int×Int×List (Int×Int)×Bool×Bool×Bool)) (F_part_settings_L9) (l4,([]:List Int),0,0,0,0,([]:List (Int×Int)),false,false,false,false,false,0,([]:List Int),0,0,0,0,([]:List (Int×Int)),false,(decide ((bits .and .i64 i2 1) > 0)),false))
 (F_part_settings_J7))))
 (cond (decide ((Int.tmod (l4.length:Int) 6) > 0))
 ((F_part_conn 6).bind fun x56=>
 some (x56.1,x56.2.1,x56.2.2.1,x56.2.2.2.1,x56.2.2.2.2.1,x56.2.2.2.2.2.1,x56.2.2.2.2.2.2.1,x56.2.2.2.2.2.2.2.1,x56.2.2.2.2.2.2.2.2.1,x56.2.2.2.2.2.2.2.2.2.1,x56.2.2.2.2.2.2.2.2.2.2.1,x56.2.2.2.2.2.2.2.2.2.2.2))
 (joinC (S:=List Int×Int×Int×Int×Int×List (Int×Int)×Bool×Bool×Bool×Bool×Bool×Int×List Int×Int×Int×Int×Int×List (Int×Int)×Bool×Bool×Bool) (R:=List Int×Int×Int×Int×Int×List (Int×Int)×Bool×Bool×Bool×Bool×Bool×Int)
 (loopC (S:=List Int×List Int×Int×Int×Int×Int×List (Int×Int)×Bool×Bool×Bool×Bool×Bool×Int×List Int×Int×Int×Int×Int×List (Int×Int)×Bool×Bool×Bool) (R:=(List Int×Int×Int×Int×Int×List (Int×Int)×Bool×Bool×Bool×Bool×Bool×Int)⊕(List Int×Int×Int×Int×Int×List (Int×Int)×Bool×Bool×Bool×Bool×Bool×Int×List Int×Int×Int×Int×Int×List (Int×Int)×Bool×Bool×Bool)) (F_part_settings_L9) (l4,([]:List Int),0,0,0,0,([]:List (Int×Int)),false,false,false,false,false,0,([]:List Int),0,0,0,0,([]:List (Int×Int)),false,(decide ((bits .and .i64 i2 1) > 0)),false))
 (F_part_settings_J7))))
def F_part_settings_sig:Sig:=⟨[.v true [.d (.int .i64),.d (.int .i64),.d (.int .i64),.d (.sl (.int .u8))]],[(true,[.own 5 (.int .u8),.d (.int .i64),.d (.int .i64),.d (.int .i64),.d (.int .i64),.own 66 (.pr (.int .i64) (.int .i64)),.d .bool,.d .bool,.d .bool]),(true,[.d .bool,.d .bool,.d (.int .i64)])],[]⟩
def F_part_settings_ann:List (Nat×Ann):=[(7,⟨8,[],[(2,[.own 5 (.int .u8),.d (.int .i64),.d (.int .i64),.d (.int .i64),.d (.int .i64),.own 66 (.pr (.int .i64) (.int .i64)),.d .bool,.d .bool,.d .bool]),(3,[.d .bool,.d .bool,.d (.int .i64)]),(4,[.own 5 (.int .u8),.d (.int .i64),.d (.int .i64),.d (.int .i64),.d (.int .i64),.own 66 (.pr (.int .i64) (.int .i64)),.d .bool,.d .bool,.d .bool])],([5]++List.range' 37 26),[],[],[]⟩),(9,⟨10,[(5,false,[.d (.sl (.int .u8))])],[(2,[.own 5 (.int .u8),.d (.int .i64),.d (.int .i64),.d (.int .i64),.d (.int .i64),.own 66 (.pr (.int .i64) (.int .i64)),.d .bool,.d .bool,.d .bool]),(3,[.d .bool,.d .bool,.d (.int .i64)]),(4,[.own 5 (.int .u8),.d (.int .i64),.d (.int .i64),.d (.int .i64),.d (.int .i64),.own 66 (.pr (.int .i64) (.int .i64)),.d .bool,.d .bool,.d .bool])],(List.range' 39 24),[],[],[]⟩)]
noncomputable def F_part_settings_env:Env:=⟨Tryd.prog,[(41,⟨F_part_conn_sig,⟨F_part_conn⟩⟩),(45,⟨F_part_number_sig,⟨F_part_number⟩⟩)],[45]⟩
theorem F_part_settings_text:pvFn F_part_settings_env F_part_settings_ann Tryd.f40 F_part_settings_sig=F_part_settings:=by kernel_rfl
noncomputable def F_part_whole (i1:Int) (i2:Int) (i3:Int) (l4:List Int):Option (List Int×Int×Int×Int×Int×List (Int×Int)×Bool×Bool×Bool×Bool×Bool×Int):=
 cond (i3 != 0)
 ((F_part_conn 1).bind fun x5=>
 some (x5.1,x5.2.1,x5.2.2.1,x5.2.2.2.1,x5.2.2.2.2.1,x5.2.2.2.2.2.1,x5.2.2.2.2.2.2.1,x5.2.2.2.2.2.2.2.1,x5.2.2.2.2.2.2.2.2.1,x5.2.2.2.2.2.2.2.2.2.1,x5.2.2.2.2.2.2.2.2.2.2.1,x5.2.2.2.2.2.2.2.2.2.2.2))
 (cond (decide ((l4.length:Int) < 8))
 ((F_part_conn 6).bind fun x6=>
 some (x6.1,x6.2.1,x6.2.2.1,x6.2.2.2.1,x6.2.2.2.2.1,x6.2.2.2.2.2.1,x6.2.2.2.2.2.2.1,x6.2.2.2.2.2.2.2.1,x6.2.2.2.2.2.2.2.2.1,x6.2.2.2.2.2.2.2.2.2.1,x6.2.2.2.2.2.2.2.2.2.2.1,x6.2.2.2.2.2.2.2.2.2.2.2))
 (cond (i1==6)
 (cond (decide ((l4.length:Int) > 8))
 ((F_part_conn 6).bind fun x7=>
 some (x7.1,x7.2.1,x7.2.2.1,x7.2.2.2.1,x7.2.2.2.2.1,x7.2.2.2.2.2.1,x7.2.2.2.2.2.2.1,x7.2.2.2.2.2.2.2.1,x7.2.2.2.2.2.2.2.2.1,x7.2.2.2.2.2.2.2.2.2.1,x7.2.2.2.2.2.2.2.2.2.2.1,x7.2.2.2.2.2.2.2.2.2.2.2))
 (cond (i1==6)
 ((F_bytes_Clone l4).bind fun l8=>
 some (l8,0,0,0,0,([]:List (Int×Int)),false,(decide ((bits .and .i64 i2 1) > 0)),false,false,false,0))
 ((F_part_number l4).bind fun i9=>
 (cutI l4 4 (l4.length:Int)).bind fun l10=>
 (F_part_number l10).bind fun i11=>
 some (([]:List Int),0,i11,(bits .and .i64 i9 2147483647),0,([]:List (Int×Int)),false,false,false,false,false,0))))
 (cond (i1==6)
 ((F_bytes_Clone l4).bind fun l12=>
 some (l12,0,0,0,0,([]:List (Int×Int)),false,(decide ((bits .and .i64 i2 1) > 0)),false,false,false,0))
 ((F_part_number l4).bind fun i13=>
 (cutI l4 4 (l4.length:Int)).bind fun l14=>
 (F_part_number l14).bind fun i15=>
 some (([]:List Int),0,i15,(bits .and .i64 i13 2147483647),0,([]:List (Int×Int)),false,false,false,false,false,0)))))
def F_part_whole_sig:Sig:=⟨[.v true [.d (.int .i64),.d (.int .i64),.d (.int .i64),.d (.sl (.int .u8))]],[(true,[.own 5 (.int .u8),.d (.int .i64),.d (.int .i64),.d (.int .i64),.d (.int .i64),.own 66 (.pr (.int .i64) (.int .i64)),.d .bool,.d .bool,.d .bool]),(true,[.d .bool,.d .bool,.d (.int .i64)])],[]⟩
def F_part_whole_ann:List (Nat×Ann):=[]
noncomputable def F_part_whole_env:Env:=⟨Tryd.prog,[(29,⟨F_bytes_Clone_sig,⟨F_bytes_Clone⟩⟩),(41,⟨F_part_conn_sig,⟨F_part_conn⟩⟩),(45,⟨F_part_number_sig,⟨F_part_number⟩⟩)],[]⟩
theorem F_part_whole_text:pvFn F_part_whole_env F_part_whole_ann Tryd.f42 F_part_whole_sig=F_part_whole:=by kernel_rfl
noncomputable def F_part_stream (i1:Int):Option (List Int×Int×Int×Int×Int×List (Int×Int)×Bool×Bool×Bool×Bool×Bool×Int):=
 some (([]:List Int),0,0,0,0,([]:List (Int×Int)),false,false,false,true,false,i1)
def F_part_stream_sig:Sig:=⟨[.v false [.d (.int .i64)]],[(true,[.own 5 (.int .u8),.d (.int .i64),.d (.int .i64),.d (.int .i64),.d (.int .i64),.own 66 (.pr (.int .i64) (.int .i64)),.d .bool,.d .bool,.d .bool]),(true,[.d .bool,.d .bool,.d (.int .i64)])],[]⟩
def F_part_stream_ann:List (Nat×Ann):=[]
noncomputable def F_part_stream_env:Env:=⟨Tryd.prog,[],[]⟩
theorem F_part_stream_text:pvFn F_part_stream_env F_part_stream_ann Tryd.f44 F_part_stream_sig=F_part_stream:=by kernel_rfl
noncomputable def F_part_update (i1:Int) (i2:Int) (i3:Int) (l4:List Int):Option (List Int×Int×Int×Int×Int×List (Int×Int)×Bool×Bool×Bool×Bool×Bool×Int):=
 cond ((l4.length:Int) != 4)
 ((F_part_conn 6).bind fun x5=>
 some (x5.1,x5.2.1,x5.2.2.1,x5.2.2.2.1,x5.2.2.2.2.1,x5.2.2.2.2.2.1,x5.2.2.2.2.2.2.1,x5.2.2.2.2.2.2.2.1,x5.2.2.2.2.2.2.2.2.1,x5.2.2.2.2.2.2.2.2.2.1,x5.2.2.2.2.2.2.2.2.2.2.1,x5.2.2.2.2.2.2.2.2.2.2.2))
 ((F_part_number l4).bind fun i6=>
 cond ((bits .and .i64 i6 2147483647)==0)
 (cond (i3==0)
 ((F_part_conn 1).bind fun x7=>
 some (x7.1,x7.2.1,x7.2.2.1,x7.2.2.2.1,x7.2.2.2.2.1,x7.2.2.2.2.2.1,x7.2.2.2.2.2.2.1,x7.2.2.2.2.2.2.2.1,x7.2.2.2.2.2.2.2.2.1,x7.2.2.2.2.2.2.2.2.2.1,x7.2.2.2.2.2.2.2.2.2.2.1,x7.2.2.2.2.2.2.2.2.2.2.2))
 (cond ((bits .and .i64 i6 2147483647)==0)
 ((F_part_stream 1).bind fun x8=>
 some (x8.1,x8.2.1,x8.2.2.1,x8.2.2.2.1,x8.2.2.2.2.1,x8.2.2.2.2.2.1,x8.2.2.2.2.2.2.1,x8.2.2.2.2.2.2.2.1,x8.2.2.2.2.2.2.2.2.1,x8.2.2.2.2.2.2.2.2.2.1,x8.2.2.2.2.2.2.2.2.2.2.1,x8.2.2.2.2.2.2.2.2.2.2.2))
 (some (([]:List Int),0,0,0,(bits .and .i64 i6 2147483647),([]:List (Int×Int)),false,false,false,false,false,0))))
 (cond ((bits .and .i64 i6 2147483647)==0)
 ((F_part_stream 1).bind fun x9=>
 some (x9.1,x9.2.1,x9.2.2.1,x9.2.2.2.1,x9.2.2.2.2.1,x9.2.2.2.2.2.1,x9.2.2.2.2.2.2.1,x9.2.2.2.2.2.2.2.1,x9.2.2.2.2.2.2.2.2.1,x9.2.2.2.2.2.2.2.2.2.1,x9.2.2.2.2.2.2.2.2.2.2.1,x9.2.2.2.2.2.2.2.2.2.2.2))
 (some (([]:List Int),0,0,0,(bits .and .i64 i6 2147483647),([]:List (Int×Int)),false,false,false,false,false,0))))
def F_part_update_sig:Sig:=⟨[.v true [.d (.int .i64),.d (.int .i64),.d (.int .i64),.d (.sl (.int .u8))]],[(true,[.own 5 (.int .u8),.d (.int .i64),.d (.int .i64),.d (.int .i64),.d (.int .i64),.own 66 (.pr (.int .i64) (.int .i64)),.d .bool,.d .bool,.d .bool]),(true,[.d .bool,.d .bool,.d (.int .i64)])],[]⟩
def F_part_update_ann:List (Nat×Ann):=[]
noncomputable def F_part_update_env:Env:=⟨Tryd.prog,[(41,⟨F_part_conn_sig,⟨F_part_conn⟩⟩),(44,⟨F_part_stream_sig,⟨F_part_stream⟩⟩),(45,⟨F_part_number_sig,⟨F_part_number⟩⟩)],[]⟩
theorem F_part_update_text:pvFn F_part_update_env F_part_update_ann Tryd.f43 F_part_update_sig=F_part_update:=by kernel_rfl
noncomputable def F_part_Read (i1:Int) (i2:Int) (i3:Int) (l4:List Int):Option (List Int×Int×Int×Int×Int×List (Int×Int)×Bool×Bool×Bool×Bool×Bool×Int):=
 cond (i1==0)
 (cond (i1==0)
 ((F_part_bodied i1 i2 i3 l4).bind fun x5=>
 some (x5.1,x5.2.1,x5.2.2.1,x5.2.2.2.1,x5.2.2.2.2.1,x5.2.2.2.2.2.1,x5.2.2.2.2.2.2.1,x5.2.2.2.2.2.2.2.1,x5.2.2.2.2.2.2.2.2.1,x5.2.2.2.2.2.2.2.2.2.1,x5.2.2.2.2.2.2.2.2.2.2.1,x5.2.2.2.2.2.2.2.2.2.2.2))
 (cond (i1==4)
 ((F_part_settings i1 i2 i3 l4).bind fun x6=>
 some (x6.1,x6.2.1,x6.2.2.1,x6.2.2.2.1,x6.2.2.2.2.1,x6.2.2.2.2.2.1,x6.2.2.2.2.2.2.1,x6.2.2.2.2.2.2.2.1,x6.2.2.2.2.2.2.2.2.1,x6.2.2.2.2.2.2.2.2.2.1,x6.2.2.2.2.2.2.2.2.2.2.1,x6.2.2.2.2.2.2.2.2.2.2.2))
 (cond (i1==5)
 ((F_part_conn 1).bind fun x7=>
 some (x7.1,x7.2.1,x7.2.2.1,x7.2.2.2.1,x7.2.2.2.2.1,x7.2.2.2.2.2.1,x7.2.2.2.2.2.2.1,x7.2.2.2.2.2.2.2.1,x7.2.2.2.2.2.2.2.2.1,x7.2.2.2.2.2.2.2.2.2.1,x7.2.2.2.2.2.2.2.2.2.2.1,x7.2.2.2.2.2.2.2.2.2.2.2))
 (cond (i1==6)
 (cond (i1==6)
 ((F_part_whole i1 i2 i3 l4).bind fun x8=>
 some (x8.1,x8.2.1,x8.2.2.1,x8.2.2.2.1,x8.2.2.2.2.1,x8.2.2.2.2.2.1,x8.2.2.2.2.2.2.1,x8.2.2.2.2.2.2.2.1,x8.2.2.2.2.2.2.2.2.1,x8.2.2.2.2.2.2.2.2.2.1,x8.2.2.2.2.2.2.2.2.2.2.1,x8.2.2.2.2.2.2.2.2.2.2.2))
 (cond (i1==8)
 ((F_part_update i1 i2 i3 l4).bind fun x9=>
 some (x9.1,x9.2.1,x9.2.2.1,x9.2.2.2.1,x9.2.2.2.2.1,x9.2.2.2.2.2.1,x9.2.2.2.2.2.2.1,x9.2.2.2.2.2.2.2.1,x9.2.2.2.2.2.2.2.2.1,x9.2.2.2.2.2.2.2.2.2.1,x9.2.2.2.2.2.2.2.2.2.2.1,x9.2.2.2.2.2.2.2.2.2.2.2))
 (cond (i1==2)
 (cond (i1==2)
 (cond (i3==0)
 ((F_part_conn 1).bind fun x10=>
 some (x10.1,x10.2.1,x10.2.2.1,x10.2.2.2.1,x10.2.2.2.2.1,x10.2.2.2.2.2.1,x10.2.2.2.2.2.2.1,x10.2.2.2.2.2.2.2.1,x10.2.2.2.2.2.2.2.2.1,x10.2.2.2.2.2.2.2.2.2.1,x10.2.2.2.2.2.2.2.2.2.2.1,x10.2.2.2.2.2.2.2.2.2.2.2))
 (cond (i1==9)
 ((F_bytes_Clone l4).bind fun l11=>
 some (l11,0,0,0,0,([]:List (Int×Int)),false,false,(decide ((bits .and .i64 i2 4) > 0)),false,false,0))
 (cond (i1==2)
 (cond ((l4.length:Int) != 5)
 ((F_part_stream 6).bind fun x12=>
 some (x12.1,x12.2.1,x12.2.2.1,x12.2.2.2.1,x12.2.2.2.2.1,x12.2.2.2.2.2.1,x12.2.2.2.2.2.2.1,x12.2.2.2.2.2.2.2.1,x12.2.2.2.2.2.2.2.2.1,x12.2.2.2.2.2.2.2.2.2.1,x12.2.2.2.2.2.2.2.2.2.2.1,x12.2.2.2.2.2.2.2.2.2.2.2))
 (cond (i1==2)
 (some (([]:List Int),0,0,0,0,([]:List (Int×Int)),false,false,false,false,false,0))
 (cond ((l4.length:Int) != 4)
 ((F_part_conn 6).bind fun x13=>
 some (x13.1,x13.2.1,x13.2.2.1,x13.2.2.2.1,x13.2.2.2.2.1,x13.2.2.2.2.2.1,x13.2.2.2.2.2.2.1,x13.2.2.2.2.2.2.2.1,x13.2.2.2.2.2.2.2.2.1,x13.2.2.2.2.2.2.2.2.2.1,x13.2.2.2.2.2.2.2.2.2.2.1,x13.2.2.2.2.2.2.2.2.2.2.2))
 ((F_part_number l4).bind fun i14=>
 some (([]:List Int),0,i14,0,0,([]:List (Int×Int)),false,false,false,false,false,0)))))
 (cond (i1==2)
 (some (([]:List Int),0,0,0,0,([]:List (Int×Int)),false,false,false,false,false,0))
 (cond ((l4.length:Int) != 4)
 ((F_part_conn 6).bind fun x15=>
 some (x15.1,x15.2.1,x15.2.2.1,x15.2.2.2.1,x15.2.2.2.2.1,x15.2.2.2.2.2.1,x15.2.2.2.2.2.2.1,x15.2.2.2.2.2.2.2.1,x15.2.2.2.2.2.2.2.2.1,x15.2.2.2.2.2.2.2.2.2.1,x15.2.2.2.2.2.2.2.2.2.2.1,x15.2.2.2.2.2.2.2.2.2.2.2))
 ((F_part_number l4).bind fun i17=>
 some (([]:List Int),0,i17,0,0,([]:List (Int×Int)),false,false,false,false,false,0)))))))
 (some (([]:List Int),0,0,0,0,([]:List (Int×Int)),false,false,false,false,false,0)))
 (cond (i1==3)
 (cond (i1==3)
 (cond (i3==0)
 ((F_part_conn 1).bind fun x18=>
 some (x18.1,x18.2.1,x18.2.2.1,x18.2.2.2.1,x18.2.2.2.2.1,x18.2.2.2.2.2.1,x18.2.2.2.2.2.2.1,x18.2.2.2.2.2.2.2.1,x18.2.2.2.2.2.2.2.2.1,x18.2.2.2.2.2.2.2.2.2.1,x18.2.2.2.2.2.2.2.2.2.2.1,x18.2.2.2.2.2.2.2.2.2.2.2))
 (cond (i1==9)
 ((F_bytes_Clone l4).bind fun l19=>
 some (l19,0,0,0,0,([]:List (Int×Int)),false,false,(decide ((bits .and .i64 i2 4) > 0)),false,false,0))
 (cond (i1==2)
 (cond ((l4.length:Int) != 5)
 ((F_part_stream 6).bind fun x20=>
 some (x20.1,x20.2.1,x20.2.2.1,x20.2.2.2.1,x20.2.2.2.2.1,x20.2.2.2.2.2.1,x20.2.2.2.2.2.2.1,x20.2.2.2.2.2.2.2.1,x20.2.2.2.2.2.2.2.2.1,x20.2.2.2.2.2.2.2.2.2.1,x20.2.2.2.2.2.2.2.2.2.2.1,x20.2.2.2.2.2.2.2.2.2.2.2))
 (cond (i1==2)
 (some (([]:List Int),0,0,0,0,([]:List (Int×Int)),false,false,false,false,false,0))
 (cond ((l4.length:Int) != 4)
 ((F_part_conn 6).bind fun x21=>
 some (x21.1,x21.2.1,x21.2.2.1,x21.2.2.2.1,x21.2.2.2.2.1,x21.2.2.2.2.2.1,x21.2.2.2.2.2.2.1,x21.2.2.2.2.2.2.2.1,x21.2.2.2.2.2.2.2.2.1,x21.2.2.2.2.2.2.2.2.2.1,x21.2.2.2.2.2.2.2.2.2.2.1,x21.2.2.2.2.2.2.2.2.2.2.2))
 ((F_part_number l4).bind fun i22=>
 some (([]:List Int),0,i22,0,0,([]:List (Int×Int)),false,false,false,false,false,0)))))
 (cond (i1==2)
 (some (([]:List Int),0,0,0,0,([]:List (Int×Int)),false,false,false,false,false,0))
 (cond ((l4.length:Int) != 4)
 ((F_part_conn 6).bind fun x23=>
 some (x23.1,x23.2.1,x23.2.2.1,x23.2.2.2.1,x23.2.2.2.2.1,x23.2.2.2.2.2.1,x23.2.2.2.2.2.2.1,x23.2.2.2.2.2.2.2.1,x23.2.2.2.2.2.2.2.2.1,x23.2.2.2.2.2.2.2.2.2.1,x23.2.2.2.2.2.2.2.2.2.2.1,x23.2.2.2.2.2.2.2.2.2.2.2))
 ((F_part_number l4).bind fun i24=>
 some (([]:List Int),0,i24,0,0,([]:List (Int×Int)),false,false,false,false,false,0)))))))
 (some (([]:List Int),0,0,0,0,([]:List (Int×Int)),false,false,false,false,false,0)))
 (cond (i1==9)
 (cond (i3==0)
 ((F_part_conn 1).bind fun x25=>
 some (x25.1,x25.2.1,x25.2.2.1,x25.2.2.2.1,x25.2.2.2.2.1,x25.2.2.2.2.2.1,x25.2.2.2.2.2.2.1,x25.2.2.2.2.2.2.2.1,x25.2.2.2.2.2.2.2.2.1,x25.2.2.2.2.2.2.2.2.2.1,x25.2.2.2.2.2.2.2.2.2.2.1,x25.2.2.2.2.2.2.2.2.2.2.2))
 (cond (i1==9)
 ((F_bytes_Clone l4).bind fun l26=>
 some (l26,0,0,0,0,([]:List (Int×Int)),false,false,(decide ((bits .and .i64 i2 4) > 0)),false,false,0))
 (cond (i1==2)
 (cond ((l4.length:Int) != 5)
 ((F_part_stream 6).bind fun x27=>
 some (x27.1,x27.2.1,x27.2.2.1,x27.2.2.2.1,x27.2.2.2.2.1,x27.2.2.2.2.2.1,x27.2.2.2.2.2.2.1,x27.2.2.2.2.2.2.2.1,x27.2.2.2.2.2.2.2.2.1,x27.2.2.2.2.2.2.2.2.2.1,x27.2.2.2.2.2.2.2.2.2.2.1,x27.2.2.2.2.2.2.2.2.2.2.2))
 (cond (i1==2)
 (some (([]:List Int),0,0,0,0,([]:List (Int×Int)),false,false,false,false,false,0))
 (cond ((l4.length:Int) != 4)
 ((F_part_conn 6).bind fun x28=>
 some (x28.1,x28.2.1,x28.2.2.1,x28.2.2.2.1,x28.2.2.2.2.1,x28.2.2.2.2.2.1,x28.2.2.2.2.2.2.1,x28.2.2.2.2.2.2.2.1,x28.2.2.2.2.2.2.2.2.1,x28.2.2.2.2.2.2.2.2.2.1,x28.2.2.2.2.2.2.2.2.2.2.1,x28.2.2.2.2.2.2.2.2.2.2.2))
 ((F_part_number l4).bind fun i29=>
 some (([]:List Int),0,i29,0,0,([]:List (Int×Int)),false,false,false,false,false,0)))))
 (cond (i1==2)
 (some (([]:List Int),0,0,0,0,([]:List (Int×Int)),false,false,false,false,false,0))
 (cond ((l4.length:Int) != 4)
 ((F_part_conn 6).bind fun x30=>
 some (x30.1,x30.2.1,x30.2.2.1,x30.2.2.2.1,x30.2.2.2.2.1,x30.2.2.2.2.2.1,x30.2.2.2.2.2.2.1,x30.2.2.2.2.2.2.2.1,x30.2.2.2.2.2.2.2.2.1,x30.2.2.2.2.2.2.2.2.2.1,x30.2.2.2.2.2.2.2.2.2.2.1,x30.2.2.2.2.2.2.2.2.2.2.2))
 ((F_part_number l4).bind fun i31=>
 some (([]:List Int),0,i31,0,0,([]:List (Int×Int)),false,false,false,false,false,0)))))))
 (some (([]:List Int),0,0,0,0,([]:List (Int×Int)),false,false,false,false,false,0)))))))
 (cond (i1==7)
 ((F_part_whole i1 i2 i3 l4).bind fun x32=>
 some (x32.1,x32.2.1,x32.2.2.1,x32.2.2.2.1,x32.2.2.2.2.1,x32.2.2.2.2.2.1,x32.2.2.2.2.2.2.1,x32.2.2.2.2.2.2.2.1,x32.2.2.2.2.2.2.2.2.1,x32.2.2.2.2.2.2.2.2.2.1,x32.2.2.2.2.2.2.2.2.2.2.1,x32.2.2.2.2.2.2.2.2.2.2.2))
 (cond (i1==8)
 ((F_part_update i1 i2 i3 l4).bind fun x33=>
 some (x33.1,x33.2.1,x33.2.2.1,x33.2.2.2.1,x33.2.2.2.2.1,x33.2.2.2.2.2.1,x33.2.2.2.2.2.2.1,x33.2.2.2.2.2.2.2.1,x33.2.2.2.2.2.2.2.2.1,x33.2.2.2.2.2.2.2.2.2.1,x33.2.2.2.2.2.2.2.2.2.2.1,x33.2.2.2.2.2.2.2.2.2.2.2))
 (cond (i1==2)
 (cond (i1==2)
 (cond (i3==0)
 ((F_part_conn 1).bind fun x34=>
 some (x34.1,x34.2.1,x34.2.2.1,x34.2.2.2.1,x34.2.2.2.2.1,x34.2.2.2.2.2.1,x34.2.2.2.2.2.2.1,x34.2.2.2.2.2.2.2.1,x34.2.2.2.2.2.2.2.2.1,x34.2.2.2.2.2.2.2.2.2.1,x34.2.2.2.2.2.2.2.2.2.2.1,x34.2.2.2.2.2.2.2.2.2.2.2))
 (cond (i1==9)
 ((F_bytes_Clone l4).bind fun l35=>
 some (l35,0,0,0,0,([]:List (Int×Int)),false,false,(decide ((bits .and .i64 i2 4) > 0)),false,false,0))
 (cond (i1==2)
 (cond ((l4.length:Int) != 5)
 ((F_part_stream 6).bind fun x36=>
 some (x36.1,x36.2.1,x36.2.2.1,x36.2.2.2.1,x36.2.2.2.2.1,x36.2.2.2.2.2.1,x36.2.2.2.2.2.2.1,x36.2.2.2.2.2.2.2.1,x36.2.2.2.2.2.2.2.2.1,x36.2.2.2.2.2.2.2.2.2.1,x36.2.2.2.2.2.2.2.2.2.2.1,x36.2.2.2.2.2.2.2.2.2.2.2))
 (cond (i1==2)
 (some (([]:List Int),0,0,0,0,([]:List (Int×Int)),false,false,false,false,false,0))
 (cond ((l4.length:Int) != 4)
 ((F_part_conn 6).bind fun x37=>
 some (x37.1,x37.2.1,x37.2.2.1,x37.2.2.2.1,x37.2.2.2.2.1,x37.2.2.2.2.2.1,x37.2.2.2.2.2.2.1,x37.2.2.2.2.2.2.2.1,x37.2.2.2.2.2.2.2.2.1,x37.2.2.2.2.2.2.2.2.2.1,x37.2.2.2.2.2.2.2.2.2.2.1,x37.2.2.2.2.2.2.2.2.2.2.2))
 ((F_part_number l4).bind fun i38=>
 some (([]:List Int),0,i38,0,0,([]:List (Int×Int)),false,false,false,false,false,0)))))
 (cond (i1==2)
 (some (([]:List Int),0,0,0,0,([]:List (Int×Int)),false,false,false,false,false,0))
 (cond ((l4.length:Int) != 4)
 ((F_part_conn 6).bind fun x39=>
 some (x39.1,x39.2.1,x39.2.2.1,x39.2.2.2.1,x39.2.2.2.2.1,x39.2.2.2.2.2.1,x39.2.2.2.2.2.2.1,x39.2.2.2.2.2.2.2.1,x39.2.2.2.2.2.2.2.2.1,x39.2.2.2.2.2.2.2.2.2.1,x39.2.2.2.2.2.2.2.2.2.2.1,x39.2.2.2.2.2.2.2.2.2.2.2))
 ((F_part_number l4).bind fun i40=>
 some (([]:List Int),0,i40,0,0,([]:List (Int×Int)),false,false,false,false,false,0)))))))
 (some (([]:List Int),0,0,0,0,([]:List (Int×Int)),false,false,false,false,false,0)))
 (cond (i1==3)
 (cond (i1==3)
 (cond (i3==0)
 ((F_part_conn 1).bind fun x41=>
 some (x41.1,x41.2.1,x41.2.2.1,x41.2.2.2.1,x41.2.2.2.2.1,x41.2.2.2.2.2.1,x41.2.2.2.2.2.2.1,x41.2.2.2.2.2.2.2.1,x41.2.2.2.2.2.2.2.2.1,x41.2.2.2.2.2.2.2.2.2.1,x41.2.2.2.2.2.2.2.2.2.2.1,x41.2.2.2.2.2.2.2.2.2.2.2))
 (cond (i1==9)
 ((F_bytes_Clone l4).bind fun l42=>
 some (l42,0,0,0,0,([]:List (Int×Int)),false,false,(decide ((bits .and .i64 i2 4) > 0)),false,false,0))
 (cond (i1==2)
 (cond ((l4.length:Int) != 5)
 ((F_part_stream 6).bind fun x43=>
 some (x43.1,x43.2.1,x43.2.2.1,x43.2.2.2.1,x43.2.2.2.2.1,x43.2.2.2.2.2.1,x43.2.2.2.2.2.2.1,x43.2.2.2.2.2.2.2.1,x43.2.2.2.2.2.2.2.2.1,x43.2.2.2.2.2.2.2.2.2.1,x43.2.2.2.2.2.2.2.2.2.2.1,x43.2.2.2.2.2.2.2.2.2.2.2))
 (cond (i1==2)
 (some (([]:List Int),0,0,0,0,([]:List (Int×Int)),false,false,false,false,false,0))
 (cond ((l4.length:Int) != 4)
 ((F_part_conn 6).bind fun x44=>
 some (x44.1,x44.2.1,x44.2.2.1,x44.2.2.2.1,x44.2.2.2.2.1,x44.2.2.2.2.2.1,x44.2.2.2.2.2.2.1,x44.2.2.2.2.2.2.2.1,x44.2.2.2.2.2.2.2.2.1,x44.2.2.2.2.2.2.2.2.2.1,x44.2.2.2.2.2.2.2.2.2.2.1,x44.2.2.2.2.2.2.2.2.2.2.2))
 ((F_part_number l4).bind fun i45=>
 some (([]:List Int),0,i45,0,0,([]:List (Int×Int)),false,false,false,false,false,0)))))
 (cond (i1==2)
 (some (([]:List Int),0,0,0,0,([]:List (Int×Int)),false,false,false,false,false,0))
 (cond ((l4.length:Int) != 4)
 ((F_part_conn 6).bind fun x46=>
 some (x46.1,x46.2.1,x46.2.2.1,x46.2.2.2.1,x46.2.2.2.2.1,x46.2.2.2.2.2.1,x46.2.2.2.2.2.2.1,x46.2.2.2.2.2.2.2.1,x46.2.2.2.2.2.2.2.2.1,x46.2.2.2.2.2.2.2.2.2.1,x46.2.2.2.2.2.2.2.2.2.2.1,x46.2.2.2.2.2.2.2.2.2.2.2))
 ((F_part_number l4).bind fun i47=>
 some (([]:List Int),0,i47,0,0,([]:List (Int×Int)),false,false,false,false,false,0)))))))
 (some (([]:List Int),0,0,0,0,([]:List (Int×Int)),false,false,false,false,false,0)))
 (cond (i1==9)
 (cond (i3==0)
 ((F_part_conn 1).bind fun x48=>
 some (x48.1,x48.2.1,x48.2.2.1,x48.2.2.2.1,x48.2.2.2.2.1,x48.2.2.2.2.2.1,x48.2.2.2.2.2.2.1,x48.2.2.2.2.2.2.2.1,x48.2.2.2.2.2.2.2.2.1,x48.2.2.2.2.2.2.2.2.2.1,x48.2.2.2.2.2.2.2.2.2.2.1,x48.2.2.2.2.2.2.2.2.2.2.2))
 (cond (i1==9)
 ((F_bytes_Clone l4).bind fun l49=>
 some (l49,0,0,0,0,([]:List (Int×Int)),false,false,(decide ((bits .and .i64 i2 4) > 0)),false,false,0))
 (cond (i1==2)
 (cond ((l4.length:Int) != 5)
 ((F_part_stream 6).bind fun x50=>
 some (x50.1,x50.2.1,x50.2.2.1,x50.2.2.2.1,x50.2.2.2.2.1,x50.2.2.2.2.2.1,x50.2.2.2.2.2.2.1,x50.2.2.2.2.2.2.2.1,x50.2.2.2.2.2.2.2.2.1,x50.2.2.2.2.2.2.2.2.2.1,x50.2.2.2.2.2.2.2.2.2.2.1,x50.2.2.2.2.2.2.2.2.2.2.2))
 (cond (i1==2)
 (some (([]:List Int),0,0,0,0,([]:List (Int×Int)),false,false,false,false,false,0))
 (cond ((l4.length:Int) != 4)
 ((F_part_conn 6).bind fun x51=>
 some (x51.1,x51.2.1,x51.2.2.1,x51.2.2.2.1,x51.2.2.2.2.1,x51.2.2.2.2.2.1,x51.2.2.2.2.2.2.1,x51.2.2.2.2.2.2.2.1,x51.2.2.2.2.2.2.2.2.1,x51.2.2.2.2.2.2.2.2.2.1,x51.2.2.2.2.2.2.2.2.2.2.1,x51.2.2.2.2.2.2.2.2.2.2.2))
 ((F_part_number l4).bind fun i52=>
 some (([]:List Int),0,i52,0,0,([]:List (Int×Int)),false,false,false,false,false,0)))))
 (cond (i1==2)
 (some (([]:List Int),0,0,0,0,([]:List (Int×Int)),false,false,false,false,false,0))
 (cond ((l4.length:Int) != 4)
 ((F_part_conn 6).bind fun x53=>
 some (x53.1,x53.2.1,x53.2.2.1,x53.2.2.2.1,x53.2.2.2.2.1,x53.2.2.2.2.2.1,x53.2.2.2.2.2.2.1,x53.2.2.2.2.2.2.2.1,x53.2.2.2.2.2.2.2.2.1,x53.2.2.2.2.2.2.2.2.2.1,x53.2.2.2.2.2.2.2.2.2.2.1,x53.2.2.2.2.2.2.2.2.2.2.2))
 ((F_part_number l4).bind fun i54=>
 some (([]:List Int),0,i54,0,0,([]:List (Int×Int)),false,false,false,false,false,0)))))))
 (some (([]:List Int),0,0,0,0,([]:List (Int×Int)),false,false,false,false,false,0)))))))))))
 (cond (i1==1)
 ((F_part_bodied i1 i2 i3 l4).bind fun x55=>
 some (x55.1,x55.2.1,x55.2.2.1,x55.2.2.2.1,x55.2.2.2.2.1,x55.2.2.2.2.2.1,x55.2.2.2.2.2.2.1,x55.2.2.2.2.2.2.2.1,x55.2.2.2.2.2.2.2.2.1,x55.2.2.2.2.2.2.2.2.2.1,x55.2.2.2.2.2.2.2.2.2.2.1,x55.2.2.2.2.2.2.2.2.2.2.2))
 (cond (i1==4)
 ((F_part_settings i1 i2 i3 l4).bind fun x56=>
 some (x56.1,x56.2.1,x56.2.2.1,x56.2.2.2.1,x56.2.2.2.2.1,x56.2.2.2.2.2.1,x56.2.2.2.2.2.2.1,x56.2.2.2.2.2.2.2.1,x56.2.2.2.2.2.2.2.2.1,x56.2.2.2.2.2.2.2.2.2.1,x56.2.2.2.2.2.2.2.2.2.2.1,x56.2.2.2.2.2.2.2.2.2.2.2))
 (cond (i1==5)
 ((F_part_conn 1).bind fun x57=>
 some (x57.1,x57.2.1,x57.2.2.1,x57.2.2.2.1,x57.2.2.2.2.1,x57.2.2.2.2.2.1,x57.2.2.2.2.2.2.1,x57.2.2.2.2.2.2.2.1,x57.2.2.2.2.2.2.2.2.1,x57.2.2.2.2.2.2.2.2.2.1,x57.2.2.2.2.2.2.2.2.2.2.1,x57.2.2.2.2.2.2.2.2.2.2.2))
 (cond (i1==6)
 (cond (i1==6)
 ((F_part_whole i1 i2 i3 l4).bind fun x58=>
 some (x58.1,x58.2.1,x58.2.2.1,x58.2.2.2.1,x58.2.2.2.2.1,x58.2.2.2.2.2.1,x58.2.2.2.2.2.2.1,x58.2.2.2.2.2.2.2.1,x58.2.2.2.2.2.2.2.2.1,x58.2.2.2.2.2.2.2.2.2.1,x58.2.2.2.2.2.2.2.2.2.2.1,x58.2.2.2.2.2.2.2.2.2.2.2))
 (cond (i1==8)
 ((F_part_update i1 i2 i3 l4).bind fun x59=>
 some (x59.1,x59.2.1,x59.2.2.1,x59.2.2.2.1,x59.2.2.2.2.1,x59.2.2.2.2.2.1,x59.2.2.2.2.2.2.1,x59.2.2.2.2.2.2.2.1,x59.2.2.2.2.2.2.2.2.1,x59.2.2.2.2.2.2.2.2.2.1,x59.2.2.2.2.2.2.2.2.2.2.1,x59.2.2.2.2.2.2.2.2.2.2.2))
 (cond (i1==2)
 (cond (i1==2)
 (cond (i3==0)
 ((F_part_conn 1).bind fun x60=>
 some (x60.1,x60.2.1,x60.2.2.1,x60.2.2.2.1,x60.2.2.2.2.1,x60.2.2.2.2.2.1,x60.2.2.2.2.2.2.1,x60.2.2.2.2.2.2.2.1,x60.2.2.2.2.2.2.2.2.1,x60.2.2.2.2.2.2.2.2.2.1,x60.2.2.2.2.2.2.2.2.2.2.1,x60.2.2.2.2.2.2.2.2.2.2.2))
 (cond (i1==9)
 ((F_bytes_Clone l4).bind fun l61=>
 some (l61,0,0,0,0,([]:List (Int×Int)),false,false,(decide ((bits .and .i64 i2 4) > 0)),false,false,0))
 (cond (i1==2)
 (cond ((l4.length:Int) != 5)
 ((F_part_stream 6).bind fun x62=>
 some (x62.1,x62.2.1,x62.2.2.1,x62.2.2.2.1,x62.2.2.2.2.1,x62.2.2.2.2.2.1,x62.2.2.2.2.2.2.1,x62.2.2.2.2.2.2.2.1,x62.2.2.2.2.2.2.2.2.1,x62.2.2.2.2.2.2.2.2.2.1,x62.2.2.2.2.2.2.2.2.2.2.1,x62.2.2.2.2.2.2.2.2.2.2.2))
 (cond (i1==2)
 (some (([]:List Int),0,0,0,0,([]:List (Int×Int)),false,false,false,false,false,0))
 (cond ((l4.length:Int) != 4)
 ((F_part_conn 6).bind fun x63=>
 some (x63.1,x63.2.1,x63.2.2.1,x63.2.2.2.1,x63.2.2.2.2.1,x63.2.2.2.2.2.1,x63.2.2.2.2.2.2.1,x63.2.2.2.2.2.2.2.1,x63.2.2.2.2.2.2.2.2.1,x63.2.2.2.2.2.2.2.2.2.1,x63.2.2.2.2.2.2.2.2.2.2.1,x63.2.2.2.2.2.2.2.2.2.2.2))
 ((F_part_number l4).bind fun i65=>
 some (([]:List Int),0,i65,0,0,([]:List (Int×Int)),false,false,false,false,false,0)))))
 (cond (i1==2)
 (some (([]:List Int),0,0,0,0,([]:List (Int×Int)),false,false,false,false,false,0))
 (cond ((l4.length:Int) != 4)
 ((F_part_conn 6).bind fun x66=>
 some (x66.1,x66.2.1,x66.2.2.1,x66.2.2.2.1,x66.2.2.2.2.1,x66.2.2.2.2.2.1,x66.2.2.2.2.2.2.1,x66.2.2.2.2.2.2.2.1,x66.2.2.2.2.2.2.2.2.1,x66.2.2.2.2.2.2.2.2.2.1,x66.2.2.2.2.2.2.2.2.2.2.1,x66.2.2.2.2.2.2.2.2.2.2.2))
 ((F_part_number l4).bind fun i67=>
 some (([]:List Int),0,i67,0,0,([]:List (Int×Int)),false,false,false,false,false,0)))))))
 (some (([]:List Int),0,0,0,0,([]:List (Int×Int)),false,false,false,false,false,0)))
 (cond (i1==3)
 (cond (i1==3)
 (cond (i3==0)
 ((F_part_conn 1).bind fun x68=>
 some (x68.1,x68.2.1,x68.2.2.1,x68.2.2.2.1,x68.2.2.2.2.1,x68.2.2.2.2.2.1,x68.2.2.2.2.2.2.1,x68.2.2.2.2.2.2.2.1,x68.2.2.2.2.2.2.2.2.1,x68.2.2.2.2.2.2.2.2.2.1,x68.2.2.2.2.2.2.2.2.2.2.1,x68.2.2.2.2.2.2.2.2.2.2.2))
 (cond (i1==9)
 ((F_bytes_Clone l4).bind fun l69=>
 some (l69,0,0,0,0,([]:List (Int×Int)),false,false,(decide ((bits .and .i64 i2 4) > 0)),false,false,0))
 (cond (i1==2)
 (cond ((l4.length:Int) != 5)
 ((F_part_stream 6).bind fun x70=>
 some (x70.1,x70.2.1,x70.2.2.1,x70.2.2.2.1,x70.2.2.2.2.1,x70.2.2.2.2.2.1,x70.2.2.2.2.2.2.1,x70.2.2.2.2.2.2.2.1,x70.2.2.2.2.2.2.2.2.1,x70.2.2.2.2.2.2.2.2.2.1,x70.2.2.2.2.2.2.2.2.2.2.1,x70.2.2.2.2.2.2.2.2.2.2.2))
 (cond (i1==2)
 (some (([]:List Int),0,0,0,0,([]:List (Int×Int)),false,false,false,false,false,0))
 (cond ((l4.length:Int) != 4)
 ((F_part_conn 6).bind fun x71=>
 some (x71.1,x71.2.1,x71.2.2.1,x71.2.2.2.1,x71.2.2.2.2.1,x71.2.2.2.2.2.1,x71.2.2.2.2.2.2.1,x71.2.2.2.2.2.2.2.1,x71.2.2.2.2.2.2.2.2.1,x71.2.2.2.2.2.2.2.2.2.1,x71.2.2.2.2.2.2.2.2.2.2.1,x71.2.2.2.2.2.2.2.2.2.2.2))
 ((F_part_number l4).bind fun i72=>
 some (([]:List Int),0,i72,0,0,([]:List (Int×Int)),false,false,false,false,false,0)))))
 (cond (i1==2)
 (some (([]:List Int),0,0,0,0,([]:List (Int×Int)),false,false,false,false,false,0))
 (cond ((l4.length:Int) != 4)
 ((F_part_conn 6).bind fun x73=>
 some (x73.1,x73.2.1,x73.2.2.1,x73.2.2.2.1,x73.2.2.2.2.1,x73.2.2.2.2.2.1,x73.2.2.2.2.2.2.1,x73.2.2.2.2.2.2.2.1,x73.2.2.2.2.2.2.2.2.1,x73.2.2.2.2.2.2.2.2.2.1,x73.2.2.2.2.2.2.2.2.2.2.1,x73.2.2.2.2.2.2.2.2.2.2.2))
 ((F_part_number l4).bind fun i74=>
 some (([]:List Int),0,i74,0,0,([]:List (Int×Int)),false,false,false,false,false,0)))))))
 (some (([]:List Int),0,0,0,0,([]:List (Int×Int)),false,false,false,false,false,0)))
 (cond (i1==9)
 (cond (i3==0)
 ((F_part_conn 1).bind fun x75=>
 some (x75.1,x75.2.1,x75.2.2.1,x75.2.2.2.1,x75.2.2.2.2.1,x75.2.2.2.2.2.1,x75.2.2.2.2.2.2.1,x75.2.2.2.2.2.2.2.1,x75.2.2.2.2.2.2.2.2.1,x75.2.2.2.2.2.2.2.2.2.1,x75.2.2.2.2.2.2.2.2.2.2.1,x75.2.2.2.2.2.2.2.2.2.2.2))
 (cond (i1==9)
 ((F_bytes_Clone l4).bind fun l76=>
 some (l76,0,0,0,0,([]:List (Int×Int)),false,false,(decide ((bits .and .i64 i2 4) > 0)),false,false,0))
 (cond (i1==2)
 (cond ((l4.length:Int) != 5)
 ((F_part_stream 6).bind fun x77=>
 some (x77.1,x77.2.1,x77.2.2.1,x77.2.2.2.1,x77.2.2.2.2.1,x77.2.2.2.2.2.1,x77.2.2.2.2.2.2.1,x77.2.2.2.2.2.2.2.1,x77.2.2.2.2.2.2.2.2.1,x77.2.2.2.2.2.2.2.2.2.1,x77.2.2.2.2.2.2.2.2.2.2.1,x77.2.2.2.2.2.2.2.2.2.2.2))
 (cond (i1==2)
 (some (([]:List Int),0,0,0,0,([]:List (Int×Int)),false,false,false,false,false,0))
 (cond ((l4.length:Int) != 4)
 ((F_part_conn 6).bind fun x78=>
 some (x78.1,x78.2.1,x78.2.2.1,x78.2.2.2.1,x78.2.2.2.2.1,x78.2.2.2.2.2.1,x78.2.2.2.2.2.2.1,x78.2.2.2.2.2.2.2.1,x78.2.2.2.2.2.2.2.2.1,x78.2.2.2.2.2.2.2.2.2.1,x78.2.2.2.2.2.2.2.2.2.2.1,x78.2.2.2.2.2.2.2.2.2.2.2))
 ((F_part_number l4).bind fun i79=>
 some (([]:List Int),0,i79,0,0,([]:List (Int×Int)),false,false,false,false,false,0)))))
 (cond (i1==2)
 (some (([]:List Int),0,0,0,0,([]:List (Int×Int)),false,false,false,false,false,0))
 (cond ((l4.length:Int) != 4)
 ((F_part_conn 6).bind fun x80=>
 some (x80.1,x80.2.1,x80.2.2.1,x80.2.2.2.1,x80.2.2.2.2.1,x80.2.2.2.2.2.1,x80.2.2.2.2.2.2.1,x80.2.2.2.2.2.2.2.1,x80.2.2.2.2.2.2.2.2.1,x80.2.2.2.2.2.2.2.2.2.1,x80.2.2.2.2.2.2.2.2.2.2.1,x80.2.2.2.2.2.2.2.2.2.2.2))
 ((F_part_number l4).bind fun i81=>
 some (([]:List Int),0,i81,0,0,([]:List (Int×Int)),false,false,false,false,false,0)))))))
 (some (([]:List Int),0,0,0,0,([]:List (Int×Int)),false,false,false,false,false,0)))))))
 (cond (i1==7)
 ((F_part_whole i1 i2 i3 l4).bind fun x82=>
 some (x82.1,x82.2.1,x82.2.2.1,x82.2.2.2.1,x82.2.2.2.2.1,x82.2.2.2.2.2.1,x82.2.2.2.2.2.2.1,x82.2.2.2.2.2.2.2.1,x82.2.2.2.2.2.2.2.2.1,x82.2.2.2.2.2.2.2.2.2.1,x82.2.2.2.2.2.2.2.2.2.2.1,x82.2.2.2.2.2.2.2.2.2.2.2))
 (cond (i1==8)
 ((F_part_update i1 i2 i3 l4).bind fun x83=>
 some (x83.1,x83.2.1,x83.2.2.1,x83.2.2.2.1,x83.2.2.2.2.1,x83.2.2.2.2.2.1,x83.2.2.2.2.2.2.1,x83.2.2.2.2.2.2.2.1,x83.2.2.2.2.2.2.2.2.1,x83.2.2.2.2.2.2.2.2.2.1,x83.2.2.2.2.2.2.2.2.2.2.1,x83.2.2.2.2.2.2.2.2.2.2.2))
 (cond (i1==2)
 (cond (i1==2)
 (cond (i3==0)
 ((F_part_conn 1).bind fun x84=>
 some (x84.1,x84.2.1,x84.2.2.1,x84.2.2.2.1,x84.2.2.2.2.1,x84.2.2.2.2.2.1,x84.2.2.2.2.2.2.1,x84.2.2.2.2.2.2.2.1,x84.2.2.2.2.2.2.2.2.1,x84.2.2.2.2.2.2.2.2.2.1,x84.2.2.2.2.2.2.2.2.2.2.1,x84.2.2.2.2.2.2.2.2.2.2.2))
 (cond (i1==9)
 ((F_bytes_Clone l4).bind fun l85=>
 some (l85,0,0,0,0,([]:List (Int×Int)),false,false,(decide ((bits .and .i64 i2 4) > 0)),false,false,0))
 (cond (i1==2)
 (cond ((l4.length:Int) != 5)
 ((F_part_stream 6).bind fun x86=>
 some (x86.1,x86.2.1,x86.2.2.1,x86.2.2.2.1,x86.2.2.2.2.1,x86.2.2.2.2.2.1,x86.2.2.2.2.2.2.1,x86.2.2.2.2.2.2.2.1,x86.2.2.2.2.2.2.2.2.1,x86.2.2.2.2.2.2.2.2.2.1,x86.2.2.2.2.2.2.2.2.2.2.1,x86.2.2.2.2.2.2.2.2.2.2.2))
 (cond (i1==2)
 (some (([]:List Int),0,0,0,0,([]:List (Int×Int)),false,false,false,false,false,0))
 (cond ((l4.length:Int) != 4)
 ((F_part_conn 6).bind fun x87=>
 some (x87.1,x87.2.1,x87.2.2.1,x87.2.2.2.1,x87.2.2.2.2.1,x87.2.2.2.2.2.1,x87.2.2.2.2.2.2.1,x87.2.2.2.2.2.2.2.1,x87.2.2.2.2.2.2.2.2.1,x87.2.2.2.2.2.2.2.2.2.1,x87.2.2.2.2.2.2.2.2.2.2.1,x87.2.2.2.2.2.2.2.2.2.2.2))
 ((F_part_number l4).bind fun i88=>
 some (([]:List Int),0,i88,0,0,([]:List (Int×Int)),false,false,false,false,false,0)))))
 (cond (i1==2)
 (some (([]:List Int),0,0,0,0,([]:List (Int×Int)),false,false,false,false,false,0))
 (cond ((l4.length:Int) != 4)
 ((F_part_conn 6).bind fun x89=>
 some (x89.1,x89.2.1,x89.2.2.1,x89.2.2.2.1,x89.2.2.2.2.1,x89.2.2.2.2.2.1,x89.2.2.2.2.2.2.1,x89.2.2.2.2.2.2.2.1,x89.2.2.2.2.2.2.2.2.1,x89.2.2.2.2.2.2.2.2.2.1,x89.2.2.2.2.2.2.2.2.2.2.1,x89.2.2.2.2.2.2.2.2.2.2.2))
 ((F_part_number l4).bind fun i90=>
 some (([]:List Int),0,i90,0,0,([]:List (Int×Int)),false,false,false,false,false,0)))))))
 (some (([]:List Int),0,0,0,0,([]:List (Int×Int)),false,false,false,false,false,0)))
 (cond (i1==3)
 (cond (i1==3)
 (cond (i3==0)
 ((F_part_conn 1).bind fun x91=>
 some (x91.1,x91.2.1,x91.2.2.1,x91.2.2.2.1,x91.2.2.2.2.1,x91.2.2.2.2.2.1,x91.2.2.2.2.2.2.1,x91.2.2.2.2.2.2.2.1,x91.2.2.2.2.2.2.2.2.1,x91.2.2.2.2.2.2.2.2.2.1,x91.2.2.2.2.2.2.2.2.2.2.1,x91.2.2.2.2.2.2.2.2.2.2.2))
 (cond (i1==9)
 ((F_bytes_Clone l4).bind fun l92=>
 some (l92,0,0,0,0,([]:List (Int×Int)),false,false,(decide ((bits .and .i64 i2 4) > 0)),false,false,0))
 (cond (i1==2)
 (cond ((l4.length:Int) != 5)
 ((F_part_stream 6).bind fun x93=>
 some (x93.1,x93.2.1,x93.2.2.1,x93.2.2.2.1,x93.2.2.2.2.1,x93.2.2.2.2.2.1,x93.2.2.2.2.2.2.1,x93.2.2.2.2.2.2.2.1,x93.2.2.2.2.2.2.2.2.1,x93.2.2.2.2.2.2.2.2.2.1,x93.2.2.2.2.2.2.2.2.2.2.1,x93.2.2.2.2.2.2.2.2.2.2.2))
 (cond (i1==2)
 (some (([]:List Int),0,0,0,0,([]:List (Int×Int)),false,false,false,false,false,0))
 (cond ((l4.length:Int) != 4)
 ((F_part_conn 6).bind fun x94=>
 some (x94.1,x94.2.1,x94.2.2.1,x94.2.2.2.1,x94.2.2.2.2.1,x94.2.2.2.2.2.1,x94.2.2.2.2.2.2.1,x94.2.2.2.2.2.2.2.1,x94.2.2.2.2.2.2.2.2.1,x94.2.2.2.2.2.2.2.2.2.1,x94.2.2.2.2.2.2.2.2.2.2.1,x94.2.2.2.2.2.2.2.2.2.2.2))
 ((F_part_number l4).bind fun i95=>
 some (([]:List Int),0,i95,0,0,([]:List (Int×Int)),false,false,false,false,false,0)))))
 (cond (i1==2)
 (some (([]:List Int),0,0,0,0,([]:List (Int×Int)),false,false,false,false,false,0))
 (cond ((l4.length:Int) != 4)
 ((F_part_conn 6).bind fun x96=>
 some (x96.1,x96.2.1,x96.2.2.1,x96.2.2.2.1,x96.2.2.2.2.1,x96.2.2.2.2.2.1,x96.2.2.2.2.2.2.1,x96.2.2.2.2.2.2.2.1,x96.2.2.2.2.2.2.2.2.1,x96.2.2.2.2.2.2.2.2.2.1,x96.2.2.2.2.2.2.2.2.2.2.1,x96.2.2.2.2.2.2.2.2.2.2.2))
 ((F_part_number l4).bind fun i97=>
 some (([]:List Int),0,i97,0,0,([]:List (Int×Int)),false,false,false,false,false,0)))))))
 (some (([]:List Int),0,0,0,0,([]:List (Int×Int)),false,false,false,false,false,0)))
 (cond (i1==9)
 (cond (i3==0)
 ((F_part_conn 1).bind fun x98=>
 some (x98.1,x98.2.1,x98.2.2.1,x98.2.2.2.1,x98.2.2.2.2.1,x98.2.2.2.2.2.1,x98.2.2.2.2.2.2.1,x98.2.2.2.2.2.2.2.1,x98.2.2.2.2.2.2.2.2.1,x98.2.2.2.2.2.2.2.2.2.1,x98.2.2.2.2.2.2.2.2.2.2.1,x98.2.2.2.2.2.2.2.2.2.2.2))
 (cond (i1==9)
 ((F_bytes_Clone l4).bind fun l99=>
 some (l99,0,0,0,0,([]:List (Int×Int)),false,false,(decide ((bits .and .i64 i2 4) > 0)),false,false,0))
 (cond (i1==2)
 (cond ((l4.length:Int) != 5)
 ((F_part_stream 6).bind fun x100=>
 some (x100.1,x100.2.1,x100.2.2.1,x100.2.2.2.1,x100.2.2.2.2.1,x100.2.2.2.2.2.1,x100.2.2.2.2.2.2.1,x100.2.2.2.2.2.2.2.1,x100.2.2.2.2.2.2.2.2.1,x100.2.2.2.2.2.2.2.2.2.1,x100.2.2.2.2.2.2.2.2.2.2.1,x100.2.2.2.2.2.2.2.2.2.2.2))
 (cond (i1==2)
 (some (([]:List Int),0,0,0,0,([]:List (Int×Int)),false,false,false,false,false,0))
 (cond ((l4.length:Int) != 4)
 ((F_part_conn 6).bind fun x101=>
 some (x101.1,x101.2.1,x101.2.2.1,x101.2.2.2.1,x101.2.2.2.2.1,x101.2.2.2.2.2.1,x101.2.2.2.2.2.2.1,x101.2.2.2.2.2.2.2.1,x101.2.2.2.2.2.2.2.2.1,x101.2.2.2.2.2.2.2.2.2.1,x101.2.2.2.2.2.2.2.2.2.2.1,x101.2.2.2.2.2.2.2.2.2.2.2))
 ((F_part_number l4).bind fun i102=>
 some (([]:List Int),0,i102,0,0,([]:List (Int×Int)),false,false,false,false,false,0)))))
 (cond (i1==2)
 (some (([]:List Int),0,0,0,0,([]:List (Int×Int)),false,false,false,false,false,0))
 (cond ((l4.length:Int) != 4)
 ((F_part_conn 6).bind fun x103=>
 some (x103.1,x103.2.1,x103.2.2.1,x103.2.2.2.1,x103.2.2.2.2.1,x103.2.2.2.2.2.1,x103.2.2.2.2.2.2.1,x103.2.2.2.2.2.2.2.1,x103.2.2.2.2.2.2.2.2.1,x103.2.2.2.2.2.2.2.2.2.1,x103.2.2.2.2.2.2.2.2.2.2.1,x103.2.2.2.2.2.2.2.2.2.2.2))
 ((F_part_number l4).bind fun i104=>
 some (([]:List Int),0,i104,0,0,([]:List (Int×Int)),false,false,false,false,false,0)))))))
 (some (([]:List Int),0,0,0,0,([]:List (Int×Int)),false,false,false,false,false,0)))))))))))
def F_part_Read_sig:Sig:=⟨[.v true [.d (.int .i64),.d (.int .i64),.d (.int .i64),.d (.sl (.int .u8))]],[(true,[.own 5 (.int .u8),.d (.int .i64),.d (.int .i64),.d (.int .i64),.d (.int .i64),.own 66 (.pr (.int .i64) (.int .i64)),.d .bool,.d .bool,.d .bool]),(true,[.d .bool,.d .bool,.d (.int .i64)])],[]⟩
def F_part_Read_ann:List (Nat×Ann):=[]
noncomputable def F_part_Read_env:Env:=⟨Tryd.prog,[(29,⟨F_bytes_Clone_sig,⟨F_bytes_Clone⟩⟩),(39,⟨F_part_bodied_sig,⟨F_part_bodied⟩⟩),(40,⟨F_part_settings_sig,⟨F_part_settings⟩⟩),(41,⟨F_part_conn_sig,⟨F_part_conn⟩⟩),(42,⟨F_part_whole_sig,⟨F_part_whole⟩⟩),(43,⟨F_part_update_sig,⟨F_part_update⟩⟩),(44,⟨F_part_stream_sig,⟨F_part_stream⟩⟩),(45,⟨F_part_number_sig,⟨F_part_number⟩⟩)],[]⟩
theorem F_part_Read_text:pvFn F_part_Read_env F_part_Read_ann Tryd.f32 F_part_Read_sig=F_part_Read:=by kernel_rfl
noncomputable def F_watch_Watch_live (p1:Int) (i2:Int) (l3:List (List (Int×Int))) (l4:List (Int×Int×Int×Bool×Bool×Bool×Int×Int×Int×List (List (Int×Int))×(Int×Int×Int×Int×Int×Int)×Int×Int×Bool)) (l5:List (Option Int×Bool×Bool×Bool×List Int)):Option (Int):=
 chk (nnI p1)
 ((getI l4 p1).bind fun x6=>
 (getI l3 x6.2.2.2.2.2.2.2.1).bind fun m7=>
 cond (!(eqI (getZ (mapGet m7 i2) (-1:Int)) (-1)))
 (chk (nnI (getZ (mapGet m7 i2) (-1:Int)))
 ((getI l5 (getZ (mapGet m7 i2) (-1:Int))).bind fun x8=>
 cond (!x8.2.2.1)
 (chk (nnI (getZ (mapGet m7 i2) (-1:Int)))
 ((getI l5 (getZ (mapGet m7 i2) (-1:Int))).bind fun x9=>
 cond (!x9.2.2.2.1)
 (some (getZ (mapGet m7 i2) (-1:Int)))
 (some (-1:Int))))
 (some (-1:Int))))
 (some (-1:Int)))
def F_watch_Watch_live_sig:Sig:=⟨[.v false [.d (.ptr 59)],.v false [.d (.int .i64)]],[(false,[.d (.ptr 71)])],[(1000103,(.sl (.pr (.int .i64) (.ptr 71))),false),(1000118,(.pr (.int .i64) (.pr (.ptr 73) (.pr (.ptr 73) (.pr .bool (.pr .bool (.pr .bool (.pr (.int .i64) (.pr (.mp 51) (.pr (.int .i64) (.pr (.os 63 (.sl (.pr (.int .i64) (.int .i64)))) (.pr (.pr (.int .i64) (.pr (.int .i64) (.pr (.int .i64) (.pr (.int .i64) (.pr (.int .i64) (.int .i64)))))) (.pr (.ptr 78) (.pr (.int .i64) .bool))))))))))))),false),(1000142,(.pr .wi (.pr .bool (.pr .bool (.pr .bool (.os 5 (.int .u8)))))),false)]⟩
def F_watch_Watch_live_ann:List (Nat×Ann):=[]
noncomputable def F_watch_Watch_live_env:Env:=⟨Tryd.prog,[],[]⟩
theorem F_watch_Watch_live_text:pvFn F_watch_Watch_live_env F_watch_Watch_live_ann Tryd.f52 F_watch_Watch_live_sig=F_watch_Watch_live:=by kernel_rfl
noncomputable def F_pint_ones (i1:Int):Option (Int):=
 cond ((decide (i1 < 1))||(decide (i1 > 8)))
 (some 0)
 (chk (decide (0<=i1))
 (some (IntKind.i64.wrap ((IntKind.i64.wrap (1*2 ^ (min (i1).toNat 64))) - 1))))
def F_pint_ones_sig:Sig:=⟨[.v false [.d (.int .i64)]],[(false,[.d (.int .i64)])],[]⟩
def F_pint_ones_ann:List (Nat×Ann):=[]
noncomputable def F_pint_ones_env:Env:=⟨Tryd.prog,[],[]⟩
theorem F_pint_ones_text:pvFn F_pint_ones_env F_pint_ones_ann Tryd.f78 F_pint_ones_sig=F_pint_ones:=by kernel_rfl
noncomputable def F_pint_Get_G1_0 (l1:List Int) (s:Int×Int):Option ((Int×Int×Int)⊕(Nat×Int×Int)):=
 let i10:=s.1;let i11:=s.2
 cond (i11==(l1.length:Int))
 (some (.inl (0,0,4)))
 ((getI l1 i11).bind fun i12=>
 chk (decide (0<=(IntKind.i64.wrap (7*(IntKind.i64.wrap (i11 - 1))))))
 (cond (decide ((IntKind.i64.wrap (i10+(IntKind.i64.wrap ((IntKind.i64.wrap (bits .and .u8 i12 127))*2 ^ (min ((IntKind.i64.wrap (7*(IntKind.i64.wrap (i11 - 1))))).toNat 64))))) > 2147483647))
 (some (.inl (0,0,1)))
 (cond ((IntKind.i64.wrap (i11+1))==6)
 ((getI l1 (IntKind.i64.wrap ((IntKind.i64.wrap (i11+1)) - 1))).bind fun i13=>
 cond (decide (i13 >= 128))
 (some (.inl (0,0,1)))
 ((getI l1 (IntKind.i64.wrap ((IntKind.i64.wrap (i11+1)) - 1))).bind fun i14=>
 cond (decide (i14 >= 128))
 (some (.inr (0,((IntKind.i64.wrap (i10+(IntKind.i64.wrap ((IntKind.i64.wrap (bits .and .u8 i12 127))*2 ^ (min ((IntKind.i64.wrap (7*(IntKind.i64.wrap (i11 - 1))))).toNat 64))))),(IntKind.i64.wrap (i11+1))))))
 (some (.inl ((IntKind.i64.wrap (i10+(IntKind.i64.wrap ((IntKind.i64.wrap (bits .and .u8 i12 127))*2 ^ (min ((IntKind.i64.wrap (7*(IntKind.i64.wrap (i11 - 1))))).toNat 64))))),(IntKind.i64.wrap (i11+1)),0)))))
 ((getI l1 (IntKind.i64.wrap ((IntKind.i64.wrap (i11+1)) - 1))).bind fun i15=>
 cond (decide (i15 >= 128))
 (some (.inr (0,((IntKind.i64.wrap (i10+(IntKind.i64.wrap ((IntKind.i64.wrap (bits .and .u8 i12 127))*2 ^ (min ((IntKind.i64.wrap (7*(IntKind.i64.wrap (i11 - 1))))).toNat 64))))),(IntKind.i64.wrap (i11+1))))))
 (some (.inl ((IntKind.i64.wrap (i10+(IntKind.i64.wrap ((IntKind.i64.wrap (bits .and .u8 i12 127))*2 ^ (min ((IntKind.i64.wrap (7*(IntKind.i64.wrap (i11 - 1))))).toNat 64))))),(IntKind.i64.wrap (i11+1)),0)))))))
noncomputable def F_pint_Get_G1 (l1:List Int) (p:Nat×Int×Int):Option ((Int×Int×Int)⊕(Nat×Int×Int)):=
 cond (hasN [0] p.1) (F_pint_Get_G1_0 l1 p.2) (none)
noncomputable def F_pint_Get (l1:List Int) (i2:Int):Option (Int×Int×Int):=
 joinC (S:=Nat×Int×Int) (R:=Int×Int×Int)
 ((F_pint_ones i2).bind fun i3=>
 cond (i3==0)
 (some (.inl (0,0,1)))
 (cond ((l1.length:Int)==0)
 (some (.inl (0,0,4)))
 ((getI l1 0).bind fun i4=>
 cond (decide ((bits .and .i64 (IntKind.i64.wrap i4) i3) < i3))
 (some (.inl ((bits .and .i64 (IntKind.i64.wrap i4) i3),1,0)))
 (cond (1==(l1.length:Int))
 (some (.inl (0,0,4)))
 ((getI l1 1).bind fun i5=>
 chk (decide (0<=(IntKind.i64.wrap (7*(IntKind.i64.wrap (1 - 1))))))
 (cond (decide ((IntKind.i64.wrap ((bits .and .i64 (IntKind.i64.wrap i4) i3)+(IntKind.i64.wrap ((IntKind.i64.wrap (bits .and .u8 i5 127))*2 ^ (min ((IntKind.i64.wrap (7*(IntKind.i64.wrap (1 - 1))))).toNat 64))))) > 2147483647))
 (some (.inl (0,0,1)))
 (cond ((IntKind.i64.wrap (1+1))==6)
 ((getI l1 (IntKind.i64.wrap ((IntKind.i64.wrap (1+1)) - 1))).bind fun i6=>
 cond (decide (i6 >= 128))
 (some (.inl (0,0,1)))
 ((getI l1 (IntKind.i64.wrap ((IntKind.i64.wrap (1+1)) - 1))).bind fun i7=>
 cond (decide (i7 >= 128))
 (some (.inr (0,((IntKind.i64.wrap ((bits .and .i64 (IntKind.i64.wrap i4) i3)+(IntKind.i64.wrap ((IntKind.i64.wrap (bits .and .u8 i5 127))*2 ^ (min ((IntKind.i64.wrap (7*(IntKind.i64.wrap (1 - 1))))).toNat 64))))),(IntKind.i64.wrap (1+1))))))
 (some (.inl ((IntKind.i64.wrap ((bits .and .i64 (IntKind.i64.wrap i4) i3)+(IntKind.i64.wrap ((IntKind.i64.wrap (bits .and .u8 i5 127))*2 ^ (min ((IntKind.i64.wrap (7*(IntKind.i64.wrap (1 - 1))))).toNat 64))))),(IntKind.i64.wrap (1+1)),0)))))
 ((getI l1 (IntKind.i64.wrap ((IntKind.i64.wrap (1+1)) - 1))).bind fun i9=>
 cond (decide (i9 >= 128))
 (some (.inr (0,((IntKind.i64.wrap ((bits .and .i64 (IntKind.i64.wrap i4) i3)+(IntKind.i64.wrap ((IntKind.i64.wrap (bits .and .u8 i5 127))*2 ^ (min ((IntKind.i64.wrap (7*(IntKind.i64.wrap (1 - 1))))).toNat 64))))),(IntKind.i64.wrap (1+1))))))
 (some (.inl ((IntKind.i64.wrap ((bits .and .i64 (IntKind.i64.wrap i4) i3)+(IntKind.i64.wrap ((IntKind.i64.wrap (bits .and .u8 i5 127))*2 ^ (min ((IntKind.i64.wrap (7*(IntKind.i64.wrap (1 - 1))))).toNat 64))))),(IntKind.i64.wrap (1+1)),0)))))))))))
 (fun p=>loopC (S:=Nat×Int×Int) (R:=Int×Int×Int) (F_pint_Get_G1 l1) p)
def F_pint_Get_sig:Sig:=⟨[.v false [.d (.sl (.int .u8))],.v false [.d (.int .i64)]],[(false,[.d (.int .i64)]),(false,[.d (.int .i64)]),(false,[.d (.int .i64)])],[]⟩
def F_pint_Get_ann:List (Nat×Ann):=[(1,⟨2,[(8,false,[.d (.int .i64)]),(9,false,[.d (.int .i64)])],[],([4,5,6,7]++List.range' 10 58),[],[],[]⟩)]
noncomputable def F_pint_Get_env:Env:=⟨Tryd.prog,[(78,⟨F_pint_ones_sig,⟨F_pint_ones⟩⟩)],[]⟩
theorem F_pint_Get_text:pvFn F_pint_Get_env F_pint_Get_ann Tryd.f74 F_pint_Get_sig=F_pint_Get:=by kernel_rfl
noncomputable def F_unpack_block_number (l1:List Int) (p2:Int) (i3:Int) (i4:Int) (l5:List (List Int×List Int×Bool)) (i6:Int):Option (Int×Bool×List Int×Int×Int×Int×List (List Int×List Int×Bool)):=
 (F_pint_Get l1 i6).bind fun x7=>
 cond (x7.2.2 != 0)
 (some (0,false,l1,p2,i3,i4,l5))
 ((cutI l1 x7.2.1 (l1.length:Int)).bind fun l8=>
 some (x7.1,true,l8,p2,i3,i4,l5))
def F_unpack_block_number_sig:Sig:=⟨[.m [.d (.sl (.int .u8)),.d (.ptr 91),.d (.int .i64),.d (.int .i64),.own 109 (.pr .str (.pr .str .bool))],.v false [.d (.int .i64)]],[(false,[.d (.int .i64)]),(false,[.d .bool])],[]⟩
def F_unpack_block_number_ann:List (Nat×Ann):=[]
noncomputable def F_unpack_block_number_env:Env:=⟨Tryd.prog,[(74,⟨F_pint_Get_sig,⟨F_pint_Get⟩⟩)],[25]⟩
theorem F_unpack_block_number_text:pvFn F_unpack_block_number_env F_unpack_block_number_ann Tryd.f69 F_unpack_block_number_sig=F_unpack_block_number:=by kernel_rfl
noncomputable def F_internal_stringslite_Cut (s1:List Int) (s2:List Int):Option (List Int×List Int×Bool):=
 (F_internal_stringslite_Index s1 s2).bind fun i3=>
 cond (decide (i3 >= 0))
 ((cutI s1 0 i3).bind fun s4=>
 (cutI s1 (IntKind.i64.wrap (i3+(s2.length:Int))) (s1.length:Int)).bind fun s5=>
 some (s4,s5,true))
 (some (s1,([]:List Int),false))
def F_internal_stringslite_Cut_sig:Sig:=⟨[.v false [.d .str],.v false [.d .str]],[(false,[.d .str]),(false,[.d .str]),(false,[.d .bool])],[]⟩
def F_internal_stringslite_Cut_ann:List (Nat×Ann):=[]
noncomputable def F_internal_stringslite_Cut_env:Env:=⟨Tryd.prog,[(89,⟨F_internal_stringslite_Index_sig,⟨F_internal_stringslite_Index⟩⟩)],[]⟩
theorem F_internal_stringslite_Cut_text:pvFn F_internal_stringslite_Cut_env F_internal_stringslite_Cut_ann Tryd.f85 F_internal_stringslite_Cut_sig=F_internal_stringslite_Cut:=by kernel_rfl
noncomputable def F_strings_Cut (s1:List Int) (s2:List Int):Option (List Int×List Int×Bool):=
 (F_internal_stringslite_Cut s1 s2).bind fun x3=>
 some (x3.1,x3.2.1,x3.2.2)
def F_strings_Cut_sig:Sig:=⟨[.v false [.d .str],.v false [.d .str]],[(false,[.d .str]),(false,[.d .str]),(false,[.d .bool])],[]⟩
def F_strings_Cut_ann:List (Nat×Ann):=[]
noncomputable def F_strings_Cut_env:Env:=⟨Tryd.prog,[(85,⟨F_internal_stringslite_Cut_sig,⟨F_internal_stringslite_Cut⟩⟩)],[]⟩
theorem F_strings_Cut_text:pvFn F_strings_Cut_env F_strings_Cut_ann Tryd.f82 F_strings_Cut_sig=F_strings_Cut:=by kernel_rfl
noncomputable def F_stat_split (s1:List Int):Option (List Int×List Int×Bool):=
 (F_strings_Cut s1 ([32]:List Int)).bind fun x2=>
 some (x2.1,x2.2.1,false)
def F_stat_split_sig:Sig:=⟨[.v false [.d .str]],[(true,[.d .str,.d .str,.d .bool])],[]⟩
def F_stat_split_ann:List (Nat×Ann):=[]
noncomputable def F_stat_split_env:Env:=⟨Tryd.prog,[(82,⟨F_strings_Cut_sig,⟨F_strings_Cut⟩⟩)],[]⟩
theorem F_stat_split_text:pvFn F_stat_split_env F_stat_split_ann Tryd.f79 F_stat_split_sig=F_stat_split:=by kernel_rfl
noncomputable def F_stat_Get (i1:Int):Option (List Int×List Int×Bool×Bool):=
 cond ((decide (i1 < 1))||(decide (i1 > 61)))
 (some (([]:List Int),([]:List Int),false,false))
 ((F_strings_Split ([58,97,117,116,104,111,114,105,116,121,124,58,109,101,116,104,111,100,32,71,69,84,124,58,109,101,116,104,111,100,32,80,79,83,84,124,58,112,97,116,104,32,47,124,58,112,97,116,104,32,47,105,110,100,101,120,46,104,116,109,108,124,58,115,99,104,101,109,101,32,104,116,116,112,124,58,115,99,104,101,109,101,32,104,116,116,112,115,124,58,115,116,97,116,117,115,32,50,48,48,124,58,115,116,97,116,117,115,32,50,48,52,124,58,115,116,97,116,117,115,32,50,48,54,124,58,115,116,97,116,117,115,32,51,48,52,124,58,115,116,97,116,117,115,32,52,48,48,124,58,115,116,97,116,117,115,32,52,48,52,124,58,115,116,97,116,117,115,32,53,48,48,124,97,99,99,101,112,116,45,99,104,97,114,115,101,116,124,97,99,99,101,112,116,45,101,110,99,111,100,105,110,103,32,103,122,105,112,44,32,100,101,102,108,97,116,101,124,97,99,99,101,112,116,45,108,97,110,103,117,97,103,101,124,97,99,99,101,112,116,45,114,97,110,103,101,115,124,97,99,99,101,112,116,124,97,99,99,101,115,115,45,99,111,110,116,114,111,108,45,97,108,108,111,119,45,111,114,105,103,105,110,124,97,103,101,124,97,108,108,111,119,124,97,117,116,104,111,114,105,122,97,116,105,111,110,124,99,97,99,104,101,45,99,111,110,116,114,111,108,124,99,111,110,116,101,110,116,45,100,105,115,112,111,115,105,116,105,111,110,124,99,111,110,116,101,110,116,45,101,110,99,111,100,105,110,103,124,99,111,110,116,101,110,116,45,108,97,110,103,117,97,103,101,124,99,111,110,116,101,110,116,45,108,101,110,103,116,104,124,99,111,110,116,101,110,116,45,108,111,99,97,116,105,111,110,124,99,111,110,116,101,110,116,45,114,97,110,103,101,124,99,111,110,116,101,110,116,45,116,121,112,101,124,99,111,111,107,105,101,124,100,97,116,101,124,101,116,97,103,124,101,120,112,101,99,116,124,101,120,112,105,114,101,115,124,102,114,111,109,124,104,111,115,116,124,105,102,45,109,97,116,99,104,124,105,102,45,109,111,100,105,102,105,101,100,45,115,105,110,99,101,124,105,102,45,110,111,110,101,45,109,97,116,99,104,124,105,102,45,114,97,110,103,101,124,105,102,45,117,110,109,111,100,105,102,105,101,100,45,115,105,110,99,101,124,108,97,115,116,45,109,111,100,105,102,105,101,100,124,108,105,110,107,124,108,111,99,97,116,105,111,110,124,109,97,120,45,102,111,114,119,97,114,100,115,124,112,114,111,120,121,45,97,117,116,104,101,110,116,105,99,97,116,101,124,112,114,111,120,121,45,97,117,116,104,111,114,105,122,97,116,105,111,110,124,114,97,110,103,101,124,114,101,102,101,114,101,114,124,114,101,102,114,101,115,104,124,114,101,116,114,121,45,97,102,116,101,114,124,115,101,114,118,101,114,124,115,101,116,45,99,111,111,107,105,101,124,115,116,114,105,99,116,45,116,114,97,110,115,112,111,114,116,45,115,101,99,117,114,105,116,121,124,116,114,97,110,115,102,101,114,45,101,110,99,111,100,105,110,103,124,117,115,101,114,45,97,103,101,110,116,124,118,97,114,121,124,118,105,97,124,119,119,119,45,97,117,116,104,101,110,116,105,99,97,116,101]:List Int) ([124]:List Int)).bind fun l2=>
 (getI l2 (IntKind.i64.wrap (i1 - 1))).bind fun s3=>
 (F_stat_split s3).bind fun x4=>
 some (x4.1,x4.2.1,x4.2.2,true))
def F_stat_Get_sig:Sig:=⟨[.v false [.d (.int .i64)]],[(true,[.d .str,.d .str,.d .bool]),(false,[.d .bool])],[]⟩
def F_stat_Get_ann:List (Nat×Ann):=[]
noncomputable def F_stat_Get_env:Env:=⟨Tryd.prog,[(79,⟨F_stat_split_sig,⟨F_stat_split⟩⟩),(80,⟨F_strings_Split_sig,⟨F_strings_Split⟩⟩)],[]⟩
theorem F_stat_Get_text:pvFn F_stat_Get_env F_stat_Get_ann Tryd.f75 F_stat_Get_sig=F_stat_Get:=by kernel_rfl
noncomputable def F_dyn_Table_Get (p1:Int) (i2:Int) (l3:List (List (List Int×List Int×Bool)×Int×Int)):Option (List Int×List Int×Bool×Bool):=
 cond (decide (i2 < 1))
 (some (([]:List Int),([]:List Int),false,false))
 (chk (nnI p1)
 ((getI l3 p1).bind fun x4=>
 cond (decide (i2 > (x4.1.length:Int)))
 (some (([]:List Int),([]:List Int),false,false))
 (chk (nnI p1)
 ((getI l3 p1).bind fun x5=>
 chk (nnI p1)
 ((getI l3 p1).bind fun x6=>
 (getI x5.1 (IntKind.i64.wrap ((x6.1.length:Int) - i2))).bind fun x7=>
 some (x7.1,x7.2.1,x7.2.2,true))))))
def F_dyn_Table_Get_sig:Sig:=⟨[.v false [.d (.ptr 91)],.v false [.d (.int .i64)]],[(true,[.d .str,.d .str,.d .bool]),(false,[.d .bool])],[(1000182,(.pr (.os 109 (.pr .str (.pr .str .bool))) (.pr (.int .i64) (.int .i64))),false)]⟩
def F_dyn_Table_Get_ann:List (Nat×Ann):=[]
noncomputable def F_dyn_Table_Get_env:Env:=⟨Tryd.prog,[],[]⟩
theorem F_dyn_Table_Get_text:pvFn F_dyn_Table_Get_env F_dyn_Table_Get_ann Tryd.f76 F_dyn_Table_Get_sig=F_dyn_Table_Get:=by kernel_rfl
noncomputable def F_unpack_block_at (l1:List Int) (p2:Int) (i3:Int) (i4:Int) (l5:List (List Int×List Int×Bool)) (i6:Int) (l7:List (List (List Int×List Int×Bool)×Int×Int)):Option (List Int×List Int×Bool×Bool×List Int×Int×Int×Int×List (List Int×List Int×Bool)):=
 cond (decide (i6<=61))
 ((F_stat_Get i6).bind fun x8=>
 some (x8.1,x8.2.1,x8.2.2.1,x8.2.2.2,l1,p2,i3,i4,l5))
 ((F_dyn_Table_Get p2 (IntKind.i64.wrap (i6 - 61)) l7).bind fun x9=>
 some (x9.1,x9.2.1,x9.2.2.1,x9.2.2.2,l1,p2,i3,i4,l5))
def F_unpack_block_at_sig:Sig:=⟨[.m [.d (.sl (.int .u8)),.d (.ptr 91),.d (.int .i64),.d (.int .i64),.own 109 (.pr .str (.pr .str .bool))],.v false [.d (.int .i64)]],[(true,[.d .str,.d .str,.d .bool]),(false,[.d .bool])],[(1000182,(.pr (.os 109 (.pr .str (.pr .str .bool))) (.pr (.int .i64) (.int .i64))),false)]⟩
def F_unpack_block_at_ann:List (Nat×Ann):=[]
noncomputable def F_unpack_block_at_env:Env:=⟨Tryd.prog,[(75,⟨F_stat_Get_sig,⟨F_stat_Get⟩⟩),(76,⟨F_dyn_Table_Get_sig,⟨F_dyn_Table_Get⟩⟩)],[]⟩
theorem F_unpack_block_at_text:pvFn F_unpack_block_at_env F_unpack_block_at_ann Tryd.f70 F_unpack_block_at_sig=F_unpack_block_at:=by kernel_rfl
noncomputable def F_unpack_block_text (l1:List Int) (p2:Int) (i3:Int) (i4:Int) (l5:List (List Int×List Int×Bool)):Option (List Int×Bool×List Int×Int×Int×Int×List (List Int×List Int×Bool)):=
 cond (decide ((l1.length:Int) > 0))
 ((getI l1 0).bind fun i6=>
 (F_unpack_block_number l1 p2 i3 i4 l5 7).bind fun x7=>
 cond ((!x7.2.1)||(decide (x7.1 > 16384)))
 (some (([]:List Int),false,x7.2.2.1,x7.2.2.2.1,x7.2.2.2.2.1,x7.2.2.2.2.2.1,x7.2.2.2.2.2.2))
 (cond (decide (x7.1 > (x7.2.2.1.length:Int)))
 (some (([]:List Int),false,x7.2.2.1,x7.2.2.2.1,x7.2.2.2.2.1,x7.2.2.2.2.2.1,x7.2.2.2.2.2.2))
 ((cutI x7.2.2.1 0 x7.1).bind fun l8=>
 (cutI x7.2.2.1 x7.1 (x7.2.2.1.length:Int)).bind fun l9=>
 cond (decide ((bits .and .u8 i6 128) > 0))
 (none)
 (some (l8,true,l9,x7.2.2.2.1,x7.2.2.2.2.1,x7.2.2.2.2.2.1,x7.2.2.2.2.2.2)))))
 ((F_unpack_block_number l1 p2 i3 i4 l5 7).bind fun x10=>
 cond ((!x10.2.1)||(decide (x10.1 > 16384)))
 (some (([]:List Int),false,x10.2.2.1,x10.2.2.2.1,x10.2.2.2.2.1,x10.2.2.2.2.2.1,x10.2.2.2.2.2.2))
 (cond (decide (x10.1 > (x10.2.2.1.length:Int)))
 (some (([]:List Int),false,x10.2.2.1,x10.2.2.2.1,x10.2.2.2.2.1,x10.2.2.2.2.2.1,x10.2.2.2.2.2.2))
 ((cutI x10.2.2.1 0 x10.1).bind fun l11=>
 (cutI x10.2.2.1 x10.1 (x10.2.2.1.length:Int)).bind fun l12=>
 some (l11,true,l12,x10.2.2.2.1,x10.2.2.2.2.1,x10.2.2.2.2.2.1,x10.2.2.2.2.2.2))))
def F_unpack_block_text_sig:Sig:=⟨[.m [.d (.sl (.int .u8)),.d (.ptr 91),.d (.int .i64),.d (.int .i64),.own 109 (.pr .str (.pr .str .bool))]],[(false,[.d .str]),(false,[.d .bool])],[]⟩
def F_unpack_block_text_ann:List (Nat×Ann):=[]
noncomputable def F_unpack_block_text_env:Env:=⟨Tryd.prog,[(69,⟨F_unpack_block_number_sig,⟨F_unpack_block_number⟩⟩)],[56]⟩
theorem F_unpack_block_text_text:pvFn F_unpack_block_text_env F_unpack_block_text_ann Tryd.f73 F_unpack_block_text_sig=F_unpack_block_text:=by kernel_rfl
noncomputable def F_unpack_block_literal (l1:List Int) (p2:Int) (i3:Int) (i4:Int) (l5:List (List Int×List Int×Bool)) (i6:Int) (l7:List (List (List Int×List Int×Bool)×Int×Int)):Option (List Int×List Int×Bool×Bool×List Int×Int×Int×Int×List (List Int×List Int×Bool)):=
 (F_unpack_block_number l1 p2 i3 i4 l5 i6).bind fun x8=>
 cond (!x8.2.1)
 (some (([]:List Int),([]:List Int),false,false,x8.2.2.1,x8.2.2.2.1,x8.2.2.2.2.1,x8.2.2.2.2.2.1,x8.2.2.2.2.2.2))
 (cond (decide (x8.1 > 0))
 ((F_unpack_block_at x8.2.2.1 x8.2.2.2.1 x8.2.2.2.2.1 x8.2.2.2.2.2.1 x8.2.2.2.2.2.2 x8.1 l7).bind fun x9=>
 cond (!x9.2.2.2.1)
 (some (([]:List Int),([]:List Int),false,false,x9.2.2.2.2.1,x9.2.2.2.2.2.1,x9.2.2.2.2.2.2.1,x9.2.2.2.2.2.2.2.1,x9.2.2.2.2.2.2.2.2))
 ((F_unpack_block_text x9.2.2.2.2.1 x9.2.2.2.2.2.1 x9.2.2.2.2.2.2.1 x9.2.2.2.2.2.2.2.1 x9.2.2.2.2.2.2.2.2).bind fun x10=>
 some (x9.1,x10.1,x9.2.2.1,x10.2.1,x10.2.2.1,x10.2.2.2.1,x10.2.2.2.2.1,x10.2.2.2.2.2.1,x10.2.2.2.2.2.2)))
 ((F_unpack_block_text x8.2.2.1 x8.2.2.2.1 x8.2.2.2.2.1 x8.2.2.2.2.2.1 x8.2.2.2.2.2.2).bind fun x11=>
 cond (!x11.2.1)
 (some (([]:List Int),([]:List Int),false,false,x11.2.2.1,x11.2.2.2.1,x11.2.2.2.2.1,x11.2.2.2.2.2.1,x11.2.2.2.2.2.2))
 ((F_unpack_block_text x11.2.2.1 x11.2.2.2.1 x11.2.2.2.2.1 x11.2.2.2.2.2.1 x11.2.2.2.2.2.2).bind fun x12=>
 some (x11.1,x12.1,false,x12.2.1,x12.2.2.1,x12.2.2.2.1,x12.2.2.2.2.1,x12.2.2.2.2.2.1,x12.2.2.2.2.2.2))))
def F_unpack_block_literal_sig:Sig:=⟨[.m [.d (.sl (.int .u8)),.d (.ptr 91),.d (.int .i64),.d (.int .i64),.own 109 (.pr .str (.pr .str .bool))],.v false [.d (.int .i64)]],[(true,[.d .str,.d .str,.d .bool]),(false,[.d .bool])],[(1000182,(.pr (.os 109 (.pr .str (.pr .str .bool))) (.pr (.int .i64) (.int .i64))),false)]⟩
def F_unpack_block_literal_ann:List (Nat×Ann):=[]
noncomputable def F_unpack_block_literal_env:Env:=⟨Tryd.prog,[(69,⟨F_unpack_block_number_sig,⟨F_unpack_block_number⟩⟩),(70,⟨F_unpack_block_at_sig,⟨F_unpack_block_at⟩⟩),(73,⟨F_unpack_block_text_sig,⟨F_unpack_block_text⟩⟩)],[]⟩
theorem F_unpack_block_literal_text:pvFn F_unpack_block_literal_env F_unpack_block_literal_ann Tryd.f68 F_unpack_block_literal_sig=F_unpack_block_literal:=by kernel_rfl
noncomputable def F_dyn_Table_Add (p1:Int) (s2:List Int) (s3:List Int) (b4:Bool) (l5:List (List (List Int×List Int×Bool)×Int×Int)):Option (List (List (List Int×List Int×Bool)×Int×Int)):=
 (F_stat_Size s2 s3 b4).bind fun i6=>
 chk (nnI p1)
 ((getI l5 p1).bind fun x7=>
 (F_dyn_Table_shrinks p1 (IntKind.i64.wrap (x7.2.2 - i6)) l5).bind fun l8=>
 chk (nnI p1)
 ((getI l8 p1).bind fun x9=>
 cond (decide (i6<=x9.2.2))
 (chk (nnI p1)
 ((getI l8 p1).bind fun x10=>
 chk (decide ((x10.1.length+([(s2,s3,false)]:List (List Int×List Int×Bool)).length)*40<=140737488355328)&&decide (x10.1.length+([(s2,s3,false)]:List (List Int×List Int×Bool)).length<=maxLen))
 (chk (nnI p1)
 ((getI l8 p1).bind fun x11=>
 chk (nnI p1)
 ((getI l8 p1).bind fun x12=>
 chk (eqI p1 p1)
 (chk (nnI p1)
 ((getI (l8.set (Int.toNat p1) ((x10.1++([(s2,s3,false)]:List (List Int×List Int×Bool))),x12.2)) p1).bind fun x13=>
 some ((l8.set (Int.toNat p1) ((x10.1++([(s2,s3,false)]:List (List Int×List Int×Bool))),x12.2)).set (Int.toNat p1) (x13.1,((IntKind.i64.wrap (x11.2.1+i6)),x13.2.2))))))))))
 (some l8)))
def F_dyn_Table_Add_sig:Sig:=⟨[.v false [.d (.ptr 91)],.v true [.d .str,.d .str,.d .bool]],[],[(1000182,(.pr (.os 109 (.pr .str (.pr .str .bool))) (.pr (.int .i64) (.int .i64))),true)]⟩
def F_dyn_Table_Add_ann:List (Nat×Ann):=[]
noncomputable def F_dyn_Table_Add_env:Env:=⟨Tryd.prog,[(57,⟨F_dyn_Table_shrinks_sig,⟨F_dyn_Table_shrinks⟩⟩),(66,⟨F_stat_Size_sig,⟨F_stat_Size⟩⟩)],[27]⟩
theorem F_dyn_Table_Add_text:pvFn F_dyn_Table_Add_env F_dyn_Table_Add_ann Tryd.f71 F_dyn_Table_Add_sig=F_dyn_Table_Add:=by kernel_rfl
noncomputable def F_unpack_block_keep (l1:List Int) (p2:Int) (i3:Int) (i4:Int) (l5:List (List Int×List Int×Bool)) (s6:List Int) (s7:List Int) (b8:Bool):Option (List Int×Int×Int×Int×List (List Int×List Int×Bool)):=
 (F_stat_Size s6 s7 b8).bind fun i9=>
 cond (decide ((IntKind.i64.wrap (i4+i9))<=i3))
 (chk (decide ((l5.length+([(s6,s7,b8)]:List (List Int×List Int×Bool)).length)*40<=140737488355328)&&decide (l5.length+([(s6,s7,b8)]:List (List Int×List Int×Bool)).length<=maxLen))
 (some (l1,p2,i3,(IntKind.i64.wrap (i4+i9)),(l5++([(s6,s7,b8)]:List (List Int×List Int×Bool))))))
 (some (l1,p2,i3,(IntKind.i64.wrap (i4+i9)),l5))
def F_unpack_block_keep_sig:Sig:=⟨[.m [.d (.sl (.int .u8)),.d (.ptr 91),.d (.int .i64),.d (.int .i64),.own 109 (.pr .str (.pr .str .bool))],.v true [.d .str,.d .str,.d .bool]],[],[]⟩
def F_unpack_block_keep_ann:List (Nat×Ann):=[]
noncomputable def F_unpack_block_keep_env:Env:=⟨Tryd.prog,[(66,⟨F_stat_Size_sig,⟨F_stat_Size⟩⟩)],[26]⟩
theorem F_unpack_block_keep_text:pvFn F_unpack_block_keep_env F_unpack_block_keep_ann Tryd.f72 F_unpack_block_keep_sig=F_unpack_block_keep:=by kernel_rfl
noncomputable def F_unpack_block_read_G1_0 (s:Bool×Int×Bool×List Int×List Int×Bool×List Int×Int×Int×Int×List (List Int×List Int×Bool)×List (List (List Int×List Int×Bool)×Int×Int)):Option ((Bool×List Int×Int×Int×Int×List (List Int×List Int×Bool)×List (List (List Int×List Int×Bool)×Int×Int))⊕(Nat×Bool×Int×Bool×List Int×List Int×Bool×List Int×Int×Int×Int×List (List Int×List Int×Bool)×List (List (List Int×List Int×Bool)×Int×Int))):=
 let b9:=s.1;let i10:=s.2.1;let b11:=s.2.2.1;let s12:=s.2.2.2.1;let s13:=s.2.2.2.2.1;let b14:=s.2.2.2.2.2.1;let l15:=s.2.2.2.2.2.2.1;let p16:=s.2.2.2.2.2.2.2.1;let i17:=s.2.2.2.2.2.2.2.2.1;let i18:=s.2.2.2.2.2.2.2.2.2.1;let l19:=s.2.2.2.2.2.2.2.2.2.2.1;let l20:=s.2.2.2.2.2.2.2.2.2.2.2
 cond ((l15.length:Int)==0)
 (some (.inl (true,l15,p16,i17,i18,l19,l20)))
 ((getI l15 0).bind fun i21=>
 cond (decide (i21 >= 128))
 (some (.inr (1,(b9,i10,b11,s12,s13,b14,l15,p16,i17,i18,l19,l20))))
 (cond (decide (i21 >= 64))
 (some (.inr (2,(b9,i10,b11,s12,s13,b14,l15,p16,i17,i18,l19,l20))))
 (cond (decide (i21 >= 32))
 (some (.inr (3,(b9,i10,b11,s12,s13,b14,l15,p16,i17,i18,l19,l20))))
 ((F_unpack_block_literal l15 p16 i17 i18 l19 4 l20).bind fun x22=>
 some (.inr (4,(x22.2.2.2.1,i10,b11,x22.1,x22.2.1,(decide (i21 >= 16)),x22.2.2.2.2.1,x22.2.2.2.2.2.1,x22.2.2.2.2.2.2.1,x22.2.2.2.2.2.2.2.1,x22.2.2.2.2.2.2.2.2,l20)))))))
noncomputable def F_unpack_block_read_G1_1 (s:Bool×Int×Bool×List Int×List Int×Bool×List Int×Int×Int×Int×List (List Int×List Int×Bool)×List (List (List Int×List Int×Bool)×Int×Int)):Option ((Bool×List Int×Int×Int×Int×List (List Int×List Int×Bool)×List (List (List Int×List Int×Bool)×Int×Int))⊕(Nat×Bool×Int×Bool×List Int×List Int×Bool×List Int×Int×Int×Int×List (List Int×List Int×Bool)×List (List (List Int×List Int×Bool)×Int×Int))):=
 let b9:=s.1;let i10:=s.2.1;let b11:=s.2.2.1;let s12:=s.2.2.2.1;let s13:=s.2.2.2.2.1;let b14:=s.2.2.2.2.2.1;let l15:=s.2.2.2.2.2.2.1;let p16:=s.2.2.2.2.2.2.2.1;let i17:=s.2.2.2.2.2.2.2.2.1;let i18:=s.2.2.2.2.2.2.2.2.2.1;let l19:=s.2.2.2.2.2.2.2.2.2.2.1;let l20:=s.2.2.2.2.2.2.2.2.2.2.2
 (F_unpack_block_number l15 p16 i17 i18 l19 7).bind fun x23=>
 cond x23.2.1
 ((F_unpack_block_at x23.2.2.1 x23.2.2.2.1 x23.2.2.2.2.1 x23.2.2.2.2.2.1 x23.2.2.2.2.2.2 x23.1 l20).bind fun x24=>
 some (.inr (4,(x24.2.2.2.1,i10,b11,x24.1,x24.2.1,x24.2.2.1,x24.2.2.2.2.1,x24.2.2.2.2.2.1,x24.2.2.2.2.2.2.1,x24.2.2.2.2.2.2.2.1,x24.2.2.2.2.2.2.2.2,l20))))
 (some (.inr (4,(x23.2.1,i10,b11,s12,s13,b14,x23.2.2.1,x23.2.2.2.1,x23.2.2.2.2.1,x23.2.2.2.2.2.1,x23.2.2.2.2.2.2,l20))))
noncomputable def F_unpack_block_read_G1_2 (s:Bool×Int×Bool×List Int×List Int×Bool×List Int×Int×Int×Int×List (List Int×List Int×Bool)×List (List (List Int×List Int×Bool)×Int×Int)):Option ((Bool×List Int×Int×Int×Int×List (List Int×List Int×Bool)×List (List (List Int×List Int×Bool)×Int×Int))⊕(Nat×Bool×Int×Bool×List Int×List Int×Bool×List Int×Int×Int×Int×List (List Int×List Int×Bool)×List (List (List Int×List Int×Bool)×Int×Int))):=
 let b9:=s.1;let i10:=s.2.1;let b11:=s.2.2.1;let s12:=s.2.2.2.1;let s13:=s.2.2.2.2.1;let b14:=s.2.2.2.2.2.1;let l15:=s.2.2.2.2.2.2.1;let p16:=s.2.2.2.2.2.2.2.1;let i17:=s.2.2.2.2.2.2.2.2.1;let i18:=s.2.2.2.2.2.2.2.2.2.1;let l19:=s.2.2.2.2.2.2.2.2.2.2.1;let l20:=s.2.2.2.2.2.2.2.2.2.2.2
 (F_unpack_block_literal l15 p16 i17 i18 l19 6 l20).bind fun x25=>
 cond x25.2.2.2.1
 ((F_dyn_Table_Add x25.2.2.2.2.2.1 x25.1 x25.2.1 x25.2.2.1 l20).bind fun l26=>
 some (.inr (4,(x25.2.2.2.1,i10,b11,x25.1,x25.2.1,x25.2.2.1,x25.2.2.2.2.1,x25.2.2.2.2.2.1,x25.2.2.2.2.2.2.1,x25.2.2.2.2.2.2.2.1,x25.2.2.2.2.2.2.2.2,l26))))
 (some (.inr (4,(x25.2.2.2.1,i10,b11,x25.1,x25.2.1,x25.2.2.1,x25.2.2.2.2.1,x25.2.2.2.2.2.1,x25.2.2.2.2.2.2.1,x25.2.2.2.2.2.2.2.1,x25.2.2.2.2.2.2.2.2,l20))))
noncomputable def F_unpack_block_read_G1_3 (s:Bool×Int×Bool×List Int×List Int×Bool×List Int×Int×Int×Int×List (List Int×List Int×Bool)×List (List (List Int×List Int×Bool)×Int×Int)):Option ((Bool×List Int×Int×Int×Int×List (List Int×List Int×Bool)×List (List (List Int×List Int×Bool)×Int×Int))⊕(Nat×Bool×Int×Bool×List Int×List Int×Bool×List Int×Int×Int×Int×List (List Int×List Int×Bool)×List (List (List Int×List Int×Bool)×Int×Int))):=
 let b9:=s.1;let i10:=s.2.1;let b11:=s.2.2.1;let s12:=s.2.2.2.1;let s13:=s.2.2.2.2.1;let b14:=s.2.2.2.2.2.1;let l15:=s.2.2.2.2.2.2.1;let p16:=s.2.2.2.2.2.2.2.1;let i17:=s.2.2.2.2.2.2.2.2.1;let i18:=s.2.2.2.2.2.2.2.2.2.1;let l19:=s.2.2.2.2.2.2.2.2.2.2.1;let l20:=s.2.2.2.2.2.2.2.2.2.2.2
 (F_unpack_block_number l15 p16 i17 i18 l19 5).bind fun x27=>
 cond (((!x27.2.1)||b11)||(decide ((IntKind.i64.wrap (i10+1)) > 2)))
 (some (.inl (false,x27.2.2.1,x27.2.2.2.1,x27.2.2.2.2.1,x27.2.2.2.2.2.1,x27.2.2.2.2.2.2,l20)))
 ((F_dyn_Table_Limit x27.2.2.2.1 x27.1 l20).bind fun x28=>
 cond (x28.1 != 0)
 (some (.inl (false,x27.2.2.1,x27.2.2.2.1,x27.2.2.2.2.1,x27.2.2.2.2.2.1,x27.2.2.2.2.2.2,x28.2)))
 (some (.inr (0,(x27.2.1,(IntKind.i64.wrap (i10+1)),b11,s12,s13,b14,x27.2.2.1,x27.2.2.2.1,x27.2.2.2.2.1,x27.2.2.2.2.2.1,x27.2.2.2.2.2.2,x28.2)))))
noncomputable def F_unpack_block_read_G1_4 (s:Bool×Int×Bool×List Int×List Int×Bool×List Int×Int×Int×Int×List (List Int×List Int×Bool)×List (List (List Int×List Int×Bool)×Int×Int)):Option ((Bool×List Int×Int×Int×Int×List (List Int×List Int×Bool)×List (List (List Int×List Int×Bool)×Int×Int))⊕(Nat×Bool×Int×Bool×List Int×List Int×Bool×List Int×Int×Int×Int×List (List Int×List Int×Bool)×List (List (List Int×List Int×Bool)×Int×Int))):=
 let b9:=s.1;let i10:=s.2.1;let b11:=s.2.2.1;let s12:=s.2.2.2.1;let s13:=s.2.2.2.2.1;let b14:=s.2.2.2.2.2.1;let l15:=s.2.2.2.2.2.2.1;let p16:=s.2.2.2.2.2.2.2.1;let i17:=s.2.2.2.2.2.2.2.2.1;let i18:=s.2.2.2.2.2.2.2.2.2.1;let l19:=s.2.2.2.2.2.2.2.2.2.2.1;let l20:=s.2.2.2.2.2.2.2.2.2.2.2
 cond (!b9)
 (some (.inl (false,l15,p16,i17,i18,l19,l20)))
 ((F_unpack_block_keep l15 p16 i17 i18 l19 s12 s13 b14).bind fun x29=>
 some (.inr (0,(b9,i10,true,s12,s13,b14,x29.1,x29.2.1,x29.2.2.1,x29.2.2.2.1,x29.2.2.2.2,l20))))
noncomputable def F_unpack_block_read_G1 (p:Nat×Bool×Int×Bool×List Int×List Int×Bool×List Int×Int×Int×Int×List (List Int×List Int×Bool)×List (List (List Int×List Int×Bool)×Int×Int)):Option ((Bool×List Int×Int×Int×Int×List (List Int×List Int×Bool)×List (List (List Int×List Int×Bool)×Int×Int))⊕(Nat×Bool×Int×Bool×List Int×List Int×Bool×List Int×Int×Int×Int×List (List Int×List Int×Bool)×List (List (List Int×List Int×Bool)×Int×Int))):=
 cond (hasN [0] p.1) (F_unpack_block_read_G1_0 p.2) (cond (hasN [1] p.1) (F_unpack_block_read_G1_1 p.2) (cond (hasN [2] p.1) (F_unpack_block_read_G1_2 p.2) (cond (hasN [3] p.1) (F_unpack_block_read_G1_3 p.2) (cond (hasN [4] p.1) (F_unpack_block_read_G1_4 p.2) (none)))))
noncomputable def F_unpack_block_read (l1:List Int) (p2:Int) (i3:Int) (i4:Int) (l5:List (List Int×List Int×Bool)) (l6:List (List (List Int×List Int×Bool)×Int×Int)):Option (Bool×List Int×Int×Int×Int×List (List Int×List Int×Bool)×List (List (List Int×List Int×Bool)×Int×Int)):=
 joinC (S:=Nat×Bool×Int×Bool×List Int×List Int×Bool×List Int×Int×Int×Int×List (List Int×List Int×Bool)×List (List (List Int×List Int×Bool)×Int×Int)) (R:=Bool×List Int×Int×Int×Int×List (List Int×List Int×Bool)×List (List (List Int×List Int×Bool)×Int×Int))
 (cond ((l1.length:Int)==0)
 (some (.inl (true,l1,p2,i3,i4,l5,l6)))
 ((getI l1 0).bind fun i7=>
 cond (decide (i7 >= 128))
 (some (.inr (1,(false,0,false,([]:List Int),([]:List Int),false,l1,p2,i3,i4,l5,l6))))
 (cond (decide (i7 >= 64))
 (some (.inr (2,(false,0,false,([]:List Int),([]:List Int),false,l1,p2,i3,i4,l5,l6))))
 (cond (decide (i7 >= 32))
 (some (.inr (3,(false,0,false,([]:List Int),([]:List Int),false,l1,p2,i3,i4,l5,l6))))
 ((F_unpack_block_literal l1 p2 i3 i4 l5 4 l6).bind fun x8=>
 some (.inr (4,(x8.2.2.2.1,0,false,x8.1,x8.2.1,(decide (i7 >= 16)),x8.2.2.2.2.1,x8.2.2.2.2.2.1,x8.2.2.2.2.2.2.1,x8.2.2.2.2.2.2.2.1,x8.2.2.2.2.2.2.2.2,l6))))))))
 (fun p=>loopC (S:=Nat×Bool×Int×Bool×List Int×List Int×Bool×List Int×Int×Int×Int×List (List Int×List Int×Bool)×List (List (List Int×List Int×Bool)×Int×Int)) (R:=Bool×List Int×Int×Int×Int×List (List Int×List Int×Bool)×List (List (List Int×List Int×Bool)×Int×Int)) (F_unpack_block_read_G1) p)
def F_unpack_block_read_sig:Sig:=⟨[.m [.d (.sl (.int .u8)),.d (.ptr 91),.d (.int .i64),.d (.int .i64),.own 109 (.pr .str (.pr .str .bool))]],[(false,[.d .bool])],[(1000182,(.pr (.os 109 (.pr .str (.pr .str .bool))) (.pr (.int .i64) (.int .i64))),true)]⟩
def F_unpack_block_read_ann:List (Nat×Ann):=[(1,⟨2,[(5,false,[.d .bool]),(7,false,[.d (.int .i64)]),(8,false,[.d .bool])],[(3,[.d .str,.d .str,.d .bool]),(0,[.d (.sl (.int .u8)),.d (.ptr 91),.d (.int .i64),.d (.int .i64),.own 109 (.pr .str (.pr .str .bool))])],([2,3,4,6]++List.range' 9 83),[],[(1000182,(.pr (.os 109 (.pr .str (.pr .str .bool))) (.pr (.int .i64) (.int .i64))),true)],[3]⟩)]
noncomputable def F_unpack_block_read_env:Env:=⟨Tryd.prog,[(37,⟨F_dyn_Table_Limit_sig,⟨F_dyn_Table_Limit⟩⟩),(68,⟨F_unpack_block_literal_sig,⟨F_unpack_block_literal⟩⟩),(69,⟨F_unpack_block_number_sig,⟨F_unpack_block_number⟩⟩),(70,⟨F_unpack_block_at_sig,⟨F_unpack_block_at⟩⟩),(71,⟨F_dyn_Table_Add_sig,⟨F_dyn_Table_Add⟩⟩),(72,⟨F_unpack_block_keep_sig,⟨F_unpack_block_keep⟩⟩)],[]⟩
theorem F_unpack_block_read_text:pvFn F_unpack_block_read_env F_unpack_block_read_ann Tryd.f64 F_unpack_block_read_sig=F_unpack_block_read:=by kernel_rfl
noncomputable def F_unpack_Dec_Decode (p1:Int) (l2:List Int) (i3:Int) (l4:List (Int×Bool)) (l5:List (List (List Int×List Int×Bool)×Int×Int)):Option (List (List Int×List Int×Bool)×Int×List (Int×Bool)×List (List (List Int×List Int×Bool)×Int×Int)):=
 chk (nnI p1)
 ((getI l4 p1).bind fun x6=>
 cond x6.2
 (some (([]:List (List Int×List Int×Bool)),5,l4,l5))
 ((F_slices_Clone_byte_byte l2).bind fun l7=>
 chk (nnI p1)
 ((getI l4 p1).bind fun x8=>
 (F_unpack_block_read l7 x8.1 i3 0 ([]:List (List Int×List Int×Bool)) l5).bind fun x9=>
 cond (!x9.1)
 (chk (nnI p1)
 ((getI l4 p1).bind fun x10=>
 some (([]:List (List Int×List Int×Bool)),2,(l4.set (Int.toNat p1) (x10.1,true)),x9.2.2.2.2.2.2)))
 (cond (decide (x9.2.2.2.2.1 > i3))
 (some (([]:List (List Int×List Int×Bool)),3,l4,x9.2.2.2.2.2.2))
 (some (x9.2.2.2.2.2.1,0,l4,x9.2.2.2.2.2.2))))))
def F_unpack_Dec_Decode_sig:Sig:=⟨[.v false [.d (.ptr 78)],.v false [.d (.sl (.int .u8))],.v false [.d (.int .i64)]],[(false,[.own 109 (.pr .str (.pr .str .bool))]),(false,[.d (.int .i64)])],[(1000156,(.pr (.ptr 91) .bool),true),(1000182,(.pr (.os 109 (.pr .str (.pr .str .bool))) (.pr (.int .i64) (.int .i64))),true)]⟩
def F_unpack_Dec_Decode_ann:List (Nat×Ann):=[]
noncomputable def F_unpack_Dec_Decode_env:Env:=⟨Tryd.prog,[(63,⟨F_slices_Clone_byte_byte_sig,⟨F_slices_Clone_byte_byte⟩⟩),(64,⟨F_unpack_block_read_sig,⟨F_unpack_block_read⟩⟩)],[]⟩
theorem F_unpack_Dec_Decode_text:pvFn F_unpack_Dec_Decode_env F_unpack_Dec_Decode_ann Tryd.f53 F_unpack_Dec_Decode_sig=F_unpack_Dec_Decode:=by kernel_rfl
noncomputable def F_unpack_Dec_Table (p1:Int) (l2:List (Int×Bool)):Option (Int):=
 chk (nnI p1)
 ((getI l2 p1).bind fun x3=>
 some x3.1)
def F_unpack_Dec_Table_sig:Sig:=⟨[.v false [.d (.ptr 78)]],[(false,[.d (.ptr 91)])],[(1000156,(.pr (.ptr 91) .bool),false)]⟩
def F_unpack_Dec_Table_ann:List (Nat×Ann):=[]
noncomputable def F_unpack_Dec_Table_env:Env:=⟨Tryd.prog,[],[]⟩
theorem F_unpack_Dec_Table_text:pvFn F_unpack_Dec_Table_env F_unpack_Dec_Table_ann Tryd.f54 F_unpack_Dec_Table_sig=F_unpack_Dec_Table:=by kernel_rfl
noncomputable def F_dyn_Table_Most (p1:Int) (l2:List (List (List Int×List Int×Bool)×Int×Int)):Option (Int):=
 chk (nnI p1)
 ((getI l2 p1).bind fun x3=>
 some x3.2.2)
def F_dyn_Table_Most_sig:Sig:=⟨[.v false [.d (.ptr 91)]],[(false,[.d (.int .i64)])],[(1000182,(.pr (.os 109 (.pr .str (.pr .str .bool))) (.pr (.int .i64) (.int .i64))),false)]⟩
def F_dyn_Table_Most_ann:List (Nat×Ann):=[]
noncomputable def F_dyn_Table_Most_env:Env:=⟨Tryd.prog,[],[]⟩
theorem F_dyn_Table_Most_text:pvFn F_dyn_Table_Most_env F_dyn_Table_Most_ann Tryd.f55 F_dyn_Table_Most_sig=F_dyn_Table_Most:=by kernel_rfl
noncomputable def F_watch_Watch_answers (p1:Int) (i2:Int) (i3:Int) (i4:Int) (l5:List Int) (l6:List Int) (i7:Int) (i9:Int) (i10:Int) (i11:Int) (l12:List (Int×Int)) (b13:Bool) (b14:Bool) (b15:Bool) (l16:List (List (Int×Int))) (l17:List (Int×Int×Int×Bool×Bool×Bool×Int×Int×Int×List (List (Int×Int))×(Int×Int×Int×Int×Int×Int)×Int×Int×Bool)) (l18:List (Option Int×Bool×Bool×Bool×List Int)) (l19:List (Int×Bool)) (l20:List (List (List Int×List Int×Bool)×Int×Int)):Option (Bool×List (Option Int×Bool×Bool×Bool×List Int)×List (Int×Bool)×List (List (List Int×List Int×Bool)×Int×Int)):=
 (F_watch_Watch_live p1 i4 l16 l17 l18).bind fun p21=>
 cond (eqI p21 (-1))
 (some (false,l18,l19,l20))
 (chk (nnI p1)
 ((getI l17 p1).bind fun x22=>
 cond (decide ((l5.length:Int) > x22.2.2.2.2.2.2.2.2.2.2.1.2.2.2.2.1))
 (some (false,l18,l19,l20))
 (chk (nnI p1)
 ((getI l17 p1).bind fun x23=>
 (F_unpack_Dec_Decode x23.2.2.2.2.2.2.2.2.2.2.2.1 l6 2147483647 l19 l20).bind fun x24=>
 cond ((x24.2.1 != 0)||((x24.1.length:Int)==0))
 (some (false,l18,x24.2.2.1,x24.2.2.2))
 ((getI x24.1 0).bind fun x25=>
 cond (!(x25.1==([58,115,116,97,116,117,115]:List Int)))
 (some (false,l18,x24.2.2.1,x24.2.2.2))
 (chk (nnI p1)
 ((getI l17 p1).bind fun x26=>
 (F_unpack_Dec_Table x26.2.2.2.2.2.2.2.2.2.2.2.1 x24.2.2.1).bind fun p27=>
 (F_dyn_Table_Most p27 x24.2.2.2).bind fun i28=>
 chk (nnI p1)
 ((getI l17 p1).bind fun x29=>
 cond (decide (i28 > x29.2.2.2.2.2.2.2.2.2.2.1.1))
 (some (false,l18,x24.2.2.1,x24.2.2.2))
 (chk (nnI p21)
 ((getI l18 p21).bind fun x30=>
 chk (nnI p21)
 ((getI (l18.set (Int.toNat p21) (x30.1,(true,x30.2.2))) p21).bind fun x31=>
 some (true,((l18.set (Int.toNat p21) (x30.1,(true,x30.2.2))).set (Int.toNat p21) (x31.1,(x31.2.1,(b13,x31.2.2.2)))),x24.2.2.1,x24.2.2.2))))))))))))
def F_watch_Watch_answers_sig:Sig:=⟨[.v false [.d (.ptr 59)],.v true [.d (.int .i64),.d (.int .i64),.d (.int .i64),.d (.sl (.int .u8))],.v true [.d (.sl (.int .u8)),.d (.int .i64),.d (.int .i64),.d (.int .i64),.d (.int .i64),.d (.sl (.pr (.int .i64) (.int .i64))),.d .bool,.d .bool,.d .bool]],[(false,[.d .bool])],[(1000103,(.sl (.pr (.int .i64) (.ptr 71))),false),(1000118,(.pr (.int .i64) (.pr (.ptr 73) (.pr (.ptr 73) (.pr .bool (.pr .bool (.pr .bool (.pr (.int .i64) (.pr (.mp 51) (.pr (.int .i64) (.pr (.os 63 (.sl (.pr (.int .i64) (.int .i64)))) (.pr (.pr (.int .i64) (.pr (.int .i64) (.pr (.int .i64) (.pr (.int .i64) (.pr (.int .i64) (.int .i64)))))) (.pr (.ptr 78) (.pr (.int .i64) .bool))))))))))))),false),(1000142,(.pr .wi (.pr .bool (.pr .bool (.pr .bool (.os 5 (.int .u8)))))),true),(1000156,(.pr (.ptr 91) .bool),true),(1000182,(.pr (.os 109 (.pr .str (.pr .str .bool))) (.pr (.int .i64) (.int .i64))),true)]⟩
def F_watch_Watch_answers_ann:List (Nat×Ann):=[]
noncomputable def F_watch_Watch_answers_env:Env:=⟨Tryd.prog,[(52,⟨F_watch_Watch_live_sig,⟨F_watch_Watch_live⟩⟩),(53,⟨F_unpack_Dec_Decode_sig,⟨F_unpack_Dec_Decode⟩⟩),(54,⟨F_unpack_Dec_Table_sig,⟨F_unpack_Dec_Table⟩⟩),(55,⟨F_dyn_Table_Most_sig,⟨F_dyn_Table_Most⟩⟩)],[]⟩
theorem F_watch_Watch_answers_text:pvFn F_watch_Watch_answers_env F_watch_Watch_answers_ann Tryd.f35 F_watch_Watch_answers_sig=F_watch_Watch_answers:=by kernel_rfl
noncomputable def F_flow_cut (i1:Int):Option (Int):=
 some (minI (maxI i1 (-2147483647)) 2147483647)
def F_flow_cut_sig:Sig:=⟨[.v false [.d (.int .i64)]],[(false,[.d (.int .i64)])],[]⟩
def F_flow_cut_ann:List (Nat×Ann):=[]
noncomputable def F_flow_cut_env:Env:=⟨Tryd.prog,[],[]⟩
theorem F_flow_cut_text:pvFn F_flow_cut_env F_flow_cut_ann Tryd.f61 F_flow_cut_sig=F_flow_cut:=by kernel_rfl
noncomputable def F_flow_Windows (i1:Int) (i2:Int):Option ((Nat×Nat)):=
 (F_flow_cut i1).bind fun i3=>
 (F_flow_cut i2).bind fun i4=>
 some ((foI .f64 i3),(foI .f64 i4))
def F_flow_Windows_sig:Sig:=⟨[.v false [.d (.int .i64)],.v false [.d (.int .i64)]],[(false,[.d (.cpx .f64)])],[]⟩
def F_flow_Windows_ann:List (Nat×Ann):=[]
noncomputable def F_flow_Windows_env:Env:=⟨Tryd.prog,[(61,⟨F_flow_cut_sig,⟨F_flow_cut⟩⟩)],[]⟩
theorem F_flow_Windows_text:pvFn F_flow_Windows_env F_flow_Windows_ann Tryd.f47 F_flow_Windows_sig=F_flow_Windows:=by kernel_rfl
noncomputable def F_flow_part (q1:Nat):Option (Int×Bool):=
 cond (!((fgt .f64 q1 13970166044099084288||feq .f64 q1 13970166044099084288)&&(flt .f64 q1 4746794007244308480||feq .f64 q1 4746794007244308480)))
 (some (0,false))
 ((ftoI .f64 .i64 q1).bind fun i2=>
 (ftoI .f64 .i64 q1).bind fun i3=>
 some (i2,(feq .f64 (foI .f64 i3) q1)))
def F_flow_part_sig:Sig:=⟨[.v false [.d (.flo .f64)]],[(false,[.d (.int .i64)]),(false,[.d .bool])],[]⟩
def F_flow_part_ann:List (Nat×Ann):=[]
noncomputable def F_flow_part_env:Env:=⟨Tryd.prog,[],[]⟩
theorem F_flow_part_text:pvFn F_flow_part_env F_flow_part_ann Tryd.f67 F_flow_part_sig=F_flow_part:=by kernel_rfl
noncomputable def F_flow_parts (z1:(Nat×Nat)):Option (Int×Int×Bool):=
 (F_flow_part z1.1).bind fun x2=>
 (F_flow_part z1.2).bind fun x3=>
 cond ((!x2.2)||(!x3.2))
 (some (0,0,false))
 (some (x2.1,x3.1,true))
def F_flow_parts_sig:Sig:=⟨[.v false [.d (.cpx .f64)]],[(false,[.d (.int .i64)]),(false,[.d (.int .i64)]),(false,[.d .bool])],[]⟩
def F_flow_parts_ann:List (Nat×Ann):=[]
noncomputable def F_flow_parts_env:Env:=⟨Tryd.prog,[(67,⟨F_flow_part_sig,⟨F_flow_part⟩⟩)],[]⟩
theorem F_flow_parts_text:pvFn F_flow_parts_env F_flow_parts_ann Tryd.f59 F_flow_parts_sig=F_flow_parts:=by kernel_rfl
noncomputable def F_flow_Conn (z1:(Nat×Nat)):Option (Int):=
 (F_flow_parts z1).bind fun x2=>
 some x2.2.1
def F_flow_Conn_sig:Sig:=⟨[.v false [.d (.cpx .f64)]],[(false,[.d (.int .i64)])],[]⟩
def F_flow_Conn_ann:List (Nat×Ann):=[]
noncomputable def F_flow_Conn_env:Env:=⟨Tryd.prog,[(59,⟨F_flow_parts_sig,⟨F_flow_parts⟩⟩)],[]⟩
theorem F_flow_Conn_text:pvFn F_flow_Conn_env F_flow_Conn_ann Tryd.f48 F_flow_Conn_sig=F_flow_Conn:=by kernel_rfl
noncomputable def F_flow_Stream (z1:(Nat×Nat)):Option (Int):=
 (F_flow_parts z1).bind fun x2=>
 some x2.1
def F_flow_Stream_sig:Sig:=⟨[.v false [.d (.cpx .f64)]],[(false,[.d (.int .i64)])],[]⟩
def F_flow_Stream_ann:List (Nat×Ann):=[]
noncomputable def F_flow_Stream_env:Env:=⟨Tryd.prog,[(59,⟨F_flow_parts_sig,⟨F_flow_parts⟩⟩)],[]⟩
theorem F_flow_Stream_text:pvFn F_flow_Stream_env F_flow_Stream_ann Tryd.f49 F_flow_Stream_sig=F_flow_Stream:=by kernel_rfl
noncomputable def F_flow_May (z1:(Nat×Nat)):Option (Int):=
 (F_flow_Stream z1).bind fun i2=>
 (F_flow_Conn z1).bind fun i3=>
 some (maxI (minI i2 i3) 0)
def F_flow_May_sig:Sig:=⟨[.v false [.d (.cpx .f64)]],[(false,[.d (.int .i64)])],[]⟩
def F_flow_May_ann:List (Nat×Ann):=[]
noncomputable def F_flow_May_env:Env:=⟨Tryd.prog,[(48,⟨F_flow_Conn_sig,⟨F_flow_Conn⟩⟩),(49,⟨F_flow_Stream_sig,⟨F_flow_Stream⟩⟩)],[]⟩
theorem F_flow_May_text:pvFn F_flow_May_env F_flow_May_ann Tryd.f65 F_flow_May_sig=F_flow_May:=by kernel_rfl
noncomputable def F_flow_Spend (z1:(Nat×Nat)) (i2:Int):Option ((Nat×Nat)×Int):=
 (F_flow_parts z1).bind fun x3=>
 cond ((!x3.2.2)||(decide (i2 < 0)))
 (some ((0,0),1))
 ((F_flow_May z1).bind fun i4=>
 cond (decide (i2 > i4))
 (some ((0,0),1))
 ((fsub .f64 z1.1 (((foI .f64 i2),(foI .f64 i2)).1)).bind fun q5=>
 (fsub .f64 z1.2 (((foI .f64 i2),(foI .f64 i2)).2)).bind fun q6=>
 some ((q5,q6),0)))
def F_flow_Spend_sig:Sig:=⟨[.v false [.d (.cpx .f64)],.v false [.d (.int .i64)]],[(false,[.d (.cpx .f64)]),(false,[.d (.int .i64)])],[]⟩
def F_flow_Spend_ann:List (Nat×Ann):=[]
noncomputable def F_flow_Spend_env:Env:=⟨Tryd.prog,[(59,⟨F_flow_parts_sig,⟨F_flow_parts⟩⟩),(65,⟨F_flow_May_sig,⟨F_flow_May⟩⟩)],[]⟩
theorem F_flow_Spend_text:pvFn F_flow_Spend_env F_flow_Spend_ann Tryd.f56 F_flow_Spend_sig=F_flow_Spend:=by kernel_rfl
noncomputable def F_watch_Watch_sends (p1:Int) (i2:Int) (i3:Int) (i4:Int) (l5:List Int) (l6:List Int) (i7:Int) (i9:Int) (i10:Int) (i11:Int) (l12:List (Int×Int)) (b13:Bool) (b14:Bool) (b15:Bool) (l16:List (List (Int×Int))) (l17:List (Int×Int×Int×Bool×Bool×Bool×Int×Int×Int×List (List (Int×Int))×(Int×Int×Int×Int×Int×Int)×Int×Int×Bool)) (l18:List (Option Int×Bool×Bool×Bool×List Int)):Option (Bool×List (Int×Int×Int×Bool×Bool×Bool×Int×Int×Int×List (List (Int×Int))×(Int×Int×Int×Int×Int×Int)×Int×Int×Bool)×List (Option Int×Bool×Bool×Bool×List Int)):=
 (F_watch_Watch_live p1 i4 l16 l17 l18).bind fun p19=>
 cond (eqI p19 (-1))
 (some (false,l17,l18))
 (chk (nnI p19)
 ((getI l18 p19).bind fun x20=>
 cond (!x20.2.1)
 (some (false,l17,l18))
 (chk (nnI p1)
 ((getI l17 p1).bind fun x21=>
 cond (decide ((l5.length:Int) > x21.2.2.2.2.2.2.2.2.2.2.1.2.2.2.2.1))
 (some (false,l17,l18))
 (chk (nnI p19)
 ((getI l18 p19).bind fun x22=>
 (x22.1).bind fun i23=>
 chk (nnI p1)
 ((getI l17 p1).bind fun x24=>
 (F_flow_Windows i23 x24.2.2.2.2.2.2.2.2.1).bind fun z25=>
 cond (decide ((l5.length:Int) > 0))
 ((F_flow_Spend z25 (l5.length:Int)).bind fun x26=>
 cond (x26.2 != 0)
 (some (false,l17,l18))
 ((F_flow_Stream x26.1).bind fun i27=>
 (F_flow_Conn x26.1).bind fun i28=>
 chk (nnI p19)
 ((getI l18 p19).bind fun x29=>
 chk (nnI p1)
 ((getI l17 p1).bind fun x30=>
 chk (nnI p19)
 ((getI (l18.set (Int.toNat p19) ((some i27),x29.2)) p19).bind fun x31=>
 chk (decide ((x31.2.2.2.2.length+l6.length)*1<=140737488355328)&&decide (x31.2.2.2.2.length+l6.length<=maxLen))
 (chk (nnI p19)
 ((getI (l18.set (Int.toNat p19) ((some i27),x29.2)) p19).bind fun x32=>
 chk (eqI p19 p19)
 (chk (nnI p19)
 ((getI ((l18.set (Int.toNat p19) ((some i27),x29.2)).set (Int.toNat p19) (x32.1,(x32.2.1,(x32.2.2.1,(x32.2.2.2.1,(x31.2.2.2.2++l6)))))) p19).bind fun x33=>
 some (true,(l17.set (Int.toNat p1) (x30.1,(x30.2.1,(x30.2.2.1,(x30.2.2.2.1,(x30.2.2.2.2.1,(x30.2.2.2.2.2.1,(x30.2.2.2.2.2.2.1,(x30.2.2.2.2.2.2.2.1,(i28,x30.2.2.2.2.2.2.2.2.2)))))))))),(((l18.set (Int.toNat p19) ((some i27),x29.2)).set (Int.toNat p19) (x32.1,(x32.2.1,(x32.2.2.1,(x32.2.2.2.1,(x31.2.2.2.2++l6)))))).set (Int.toNat p19) (x33.1,(x33.2.1,(b13,x33.2.2.2))))))))))))))
 ((F_flow_Stream z25).bind fun i34=>
 (F_flow_Conn z25).bind fun i35=>
 chk (nnI p19)
 ((getI l18 p19).bind fun x36=>
 chk (nnI p1)
 ((getI l17 p1).bind fun x37=>
 chk (nnI p19)
 ((getI (l18.set (Int.toNat p19) ((some i34),x36.2)) p19).bind fun x38=>
 chk (decide ((x38.2.2.2.2.length+l6.length)*1<=140737488355328)&&decide (x38.2.2.2.2.length+l6.length<=maxLen))
 (chk (nnI p19)
 ((getI (l18.set (Int.toNat p19) ((some i34),x36.2)) p19).bind fun x39=>
 chk (eqI p19 p19)
 (chk (nnI p19)
 ((getI ((l18.set (Int.toNat p19) ((some i34),x36.2)).set (Int.toNat p19) (x39.1,(x39.2.1,(x39.2.2.1,(x39.2.2.2.1,(x38.2.2.2.2++l6)))))) p19).bind fun x40=>
 some (true,(l17.set (Int.toNat p1) (x37.1,(x37.2.1,(x37.2.2.1,(x37.2.2.2.1,(x37.2.2.2.2.1,(x37.2.2.2.2.2.1,(x37.2.2.2.2.2.2.1,(x37.2.2.2.2.2.2.2.1,(i35,x37.2.2.2.2.2.2.2.2.2)))))))))),(((l18.set (Int.toNat p19) ((some i34),x36.2)).set (Int.toNat p19) (x39.1,(x39.2.1,(x39.2.2.1,(x39.2.2.2.1,(x38.2.2.2.2++l6)))))).set (Int.toNat p19) (x40.1,(x40.2.1,(b13,x40.2.2.2))))))))))))))))))))
def F_watch_Watch_sends_sig:Sig:=⟨[.v false [.d (.ptr 59)],.v true [.d (.int .i64),.d (.int .i64),.d (.int .i64),.d (.sl (.int .u8))],.v true [.d (.sl (.int .u8)),.d (.int .i64),.d (.int .i64),.d (.int .i64),.d (.int .i64),.d (.sl (.pr (.int .i64) (.int .i64))),.d .bool,.d .bool,.d .bool]],[(false,[.d .bool])],[(1000103,(.sl (.pr (.int .i64) (.ptr 71))),false),(1000118,(.pr (.int .i64) (.pr (.ptr 73) (.pr (.ptr 73) (.pr .bool (.pr .bool (.pr .bool (.pr (.int .i64) (.pr (.mp 51) (.pr (.int .i64) (.pr (.os 63 (.sl (.pr (.int .i64) (.int .i64)))) (.pr (.pr (.int .i64) (.pr (.int .i64) (.pr (.int .i64) (.pr (.int .i64) (.pr (.int .i64) (.int .i64)))))) (.pr (.ptr 78) (.pr (.int .i64) .bool))))))))))))),true),(1000142,(.pr .wi (.pr .bool (.pr .bool (.pr .bool (.os 5 (.int .u8)))))),true)]⟩
def F_watch_Watch_sends_ann:List (Nat×Ann):=[]
noncomputable def F_watch_Watch_sends_env:Env:=⟨Tryd.prog,[(47,⟨F_flow_Windows_sig,⟨F_flow_Windows⟩⟩),(48,⟨F_flow_Conn_sig,⟨F_flow_Conn⟩⟩),(49,⟨F_flow_Stream_sig,⟨F_flow_Stream⟩⟩),(52,⟨F_watch_Watch_live_sig,⟨F_watch_Watch_live⟩⟩),(56,⟨F_flow_Spend_sig,⟨F_flow_Spend⟩⟩)],[72]⟩
theorem F_watch_Watch_sends_text:pvFn F_watch_Watch_sends_env F_watch_Watch_sends_ann Tryd.f36 F_watch_Watch_sends_sig=F_watch_Watch_sends:=by kernel_rfl
noncomputable def F_watch_Watch_right (p1:Int) (i2:Int) (i3:Int) (i4:Int) (l5:List Int) (l6:List (List (Int×Int))) (l7:List (Int×Int×Int×Bool×Bool×Bool×Int×Int×Int×List (List (Int×Int))×(Int×Int×Int×Int×Int×Int)×Int×Int×Bool)) (l8:List (Option Int×Bool×Bool×Bool×List Int)) (l9:List (Int×Bool)) (l10:List (List (List Int×List Int×Bool)×Int×Int)):Option (Bool×List (Int×Int×Int×Bool×Bool×Bool×Int×Int×Int×List (List (Int×Int))×(Int×Int×Int×Int×Int×Int)×Int×Int×Bool)×List (Option Int×Bool×Bool×Bool×List Int)×List (Int×Bool)×List (List (List Int×List Int×Bool)×Int×Int)):=
 (F_part_Read i2 i3 i4 l5).bind fun x11=>
 chk (nnI p1)
 ((getI l7 p1).bind fun x12=>
 cond (x12.2.2.2.2.2.2.2.2.2.2.2.2.1==0)
 (cond (i2 != 4)
 (some (false,l7,l8,l9,l10))
 (cond x11.2.2.2.2.2.2.2.1
 (cond x11.2.2.2.2.2.2.2.1
 (some (false,l7,l8,l9,l10))
 (cond (i2==4)
 (cond (!x11.2.2.2.2.2.2.2.1)
 (some (true,l7,l8,l9,l10))
 (none))
 (cond (i2==1)
 (cond x11.2.2.2.2.2.2.2.2.1
 ((F_watch_Watch_answers p1 i2 i3 i4 l5 x11.1 x11.2.1 x11.2.2.1 x11.2.2.2.1 x11.2.2.2.2.1 x11.2.2.2.2.2.1 x11.2.2.2.2.2.2.1 x11.2.2.2.2.2.2.2.1 x11.2.2.2.2.2.2.2.2.1 l6 l7 l8 l9 l10).bind fun x13=>
 some (x13.1,l7,x13.2.1,x13.2.2.1,x13.2.2.2))
 (some (false,l7,l8,l9,l10)))
 (cond (i2==0)
 ((F_watch_Watch_sends p1 i2 i3 i4 l5 x11.1 x11.2.1 x11.2.2.1 x11.2.2.2.1 x11.2.2.2.2.1 x11.2.2.2.2.2.1 x11.2.2.2.2.2.2.1 x11.2.2.2.2.2.2.2.1 x11.2.2.2.2.2.2.2.2.1 l6 l7 l8).bind fun x14=>
 some (x14.1,x14.2.1,x14.2.2,l9,l10))
 (cond (i2==3)
 (chk (nnI p1)
 ((getI l7 p1).bind fun x15=>
 (getI l6 x15.2.2.2.2.2.2.2.1).bind fun m16=>
 cond (eqI (getZ (mapGet m16 i4) (-1:Int)) (-1))
 (some (false,l7,l8,l9,l10))
 (chk (nnI (getZ (mapGet m16 i4) (-1:Int)))
 ((getI l8 (getZ (mapGet m16 i4) (-1:Int))).bind fun x17=>
 cond x17.2.2.2.1
 (some (false,l7,l8,l9,l10))
 (chk (nnI (getZ (mapGet m16 i4) (-1:Int)))
 ((getI l8 (getZ (mapGet m16 i4) (-1:Int))).bind fun x18=>
 some (true,l7,(l8.set (Int.toNat (getZ (mapGet m16 i4) (-1:Int))) (x18.1,(x18.2.1,(x18.2.2.1,(true,x18.2.2.2.2))))),l9,l10)))))))
 (cond (i2==8)
 (chk (nnI p1)
 ((getI l7 p1).bind fun x19=>
 (getI l6 x19.2.2.2.2.2.2.2.1).bind fun m20=>
 cond (i4==0)
 (some (true,l7,l8,l9,l10))
 (cond (!(eqI (getZ (mapGet m20 i4) (-1:Int)) (-1)))
 (chk (nnI (getZ (mapGet m20 i4) (-1:Int)))
 ((getI l8 (getZ (mapGet m20 i4) (-1:Int))).bind fun x21=>
 some ((!x21.2.2.2.1),l7,l8,l9,l10)))
 (some (false,l7,l8,l9,l10)))))
 (cond (i2==7)
 (chk (nnI p1)
 ((getI l7 p1).bind fun x22=>
 some (true,(l7.set (Int.toNat p1) (x22.1,(x22.2.1,(x22.2.2.1,(x22.2.2.2.1,(x22.2.2.2.2.1,(x22.2.2.2.2.2.1,(x22.2.2.2.2.2.2.1,(x22.2.2.2.2.2.2.2.1,(x22.2.2.2.2.2.2.2.2.1,(x22.2.2.2.2.2.2.2.2.2.1,(x22.2.2.2.2.2.2.2.2.2.2.1,(x22.2.2.2.2.2.2.2.2.2.2.2.1,(x22.2.2.2.2.2.2.2.2.2.2.2.2.1,(x11.2.2.1 != 0))))))))))))))),l8,l9,l10)))
 (some ((i2==6),l7,l8,l9,l10)))))))))
 (cond x11.2.2.2.2.2.2.2.2.2.1
 (cond x11.2.2.2.2.2.2.2.2.2.1
 (some (false,l7,l8,l9,l10))
 (cond (i2==4)
 (cond (!x11.2.2.2.2.2.2.2.1)
 (some (true,l7,l8,l9,l10))
 (none))
 (cond (i2==1)
 (cond x11.2.2.2.2.2.2.2.2.1
 ((F_watch_Watch_answers p1 i2 i3 i4 l5 x11.1 x11.2.1 x11.2.2.1 x11.2.2.2.1 x11.2.2.2.2.1 x11.2.2.2.2.2.1 x11.2.2.2.2.2.2.1 x11.2.2.2.2.2.2.2.1 x11.2.2.2.2.2.2.2.2.1 l6 l7 l8 l9 l10).bind fun x23=>
 some (x23.1,l7,x23.2.1,x23.2.2.1,x23.2.2.2))
 (some (false,l7,l8,l9,l10)))
 (cond (i2==0)
 ((F_watch_Watch_sends p1 i2 i3 i4 l5 x11.1 x11.2.1 x11.2.2.1 x11.2.2.2.1 x11.2.2.2.2.1 x11.2.2.2.2.2.1 x11.2.2.2.2.2.2.1 x11.2.2.2.2.2.2.2.1 x11.2.2.2.2.2.2.2.2.1 l6 l7 l8).bind fun x24=>
 some (x24.1,x24.2.1,x24.2.2,l9,l10))
 (cond (i2==3)
 (chk (nnI p1)
 ((getI l7 p1).bind fun x25=>
 (getI l6 x25.2.2.2.2.2.2.2.1).bind fun m26=>
 cond (eqI (getZ (mapGet m26 i4) (-1:Int)) (-1))
 (some (false,l7,l8,l9,l10))
 (chk (nnI (getZ (mapGet m26 i4) (-1:Int)))
 ((getI l8 (getZ (mapGet m26 i4) (-1:Int))).bind fun x27=>
 cond x27.2.2.2.1
 (some (false,l7,l8,l9,l10))
 (chk (nnI (getZ (mapGet m26 i4) (-1:Int)))
 ((getI l8 (getZ (mapGet m26 i4) (-1:Int))).bind fun x28=>
 some (true,l7,(l8.set (Int.toNat (getZ (mapGet m26 i4) (-1:Int))) (x28.1,(x28.2.1,(x28.2.2.1,(true,x28.2.2.2.2))))),l9,l10)))))))
 (cond (i2==8)
 (chk (nnI p1)
 ((getI l7 p1).bind fun x29=>
 (getI l6 x29.2.2.2.2.2.2.2.1).bind fun m30=>
 cond (i4==0)
 (some (true,l7,l8,l9,l10))
 (cond (!(eqI (getZ (mapGet m30 i4) (-1:Int)) (-1)))
 (chk (nnI (getZ (mapGet m30 i4) (-1:Int)))
 ((getI l8 (getZ (mapGet m30 i4) (-1:Int))).bind fun x31=>
 some ((!x31.2.2.2.1),l7,l8,l9,l10)))
 (some (false,l7,l8,l9,l10)))))
 (cond (i2==7)
 (chk (nnI p1)
 ((getI l7 p1).bind fun x32=>
 some (true,(l7.set (Int.toNat p1) (x32.1,(x32.2.1,(x32.2.2.1,(x32.2.2.2.1,(x32.2.2.2.2.1,(x32.2.2.2.2.2.1,(x32.2.2.2.2.2.2.1,(x32.2.2.2.2.2.2.2.1,(x32.2.2.2.2.2.2.2.2.1,(x32.2.2.2.2.2.2.2.2.2.1,(x32.2.2.2.2.2.2.2.2.2.2.1,(x32.2.2.2.2.2.2.2.2.2.2.2.1,(x32.2.2.2.2.2.2.2.2.2.2.2.2.1,(x11.2.2.1 != 0))))))))))))))),l8,l9,l10)))
 (some ((i2==6),l7,l8,l9,l10)))))))))
 (chk (nnI p1)
 ((getI l7 p1).bind fun x33=>
 cond x33.2.2.2.2.2.2.2.2.2.2.2.2.2
 (some (false,l7,l8,l9,l10))
 (cond (i2==4)
 (cond (!x11.2.2.2.2.2.2.2.1)
 (some (true,l7,l8,l9,l10))
 (none))
 (cond (i2==1)
 (cond x11.2.2.2.2.2.2.2.2.1
 ((F_watch_Watch_answers p1 i2 i3 i4 l5 x11.1 x11.2.1 x11.2.2.1 x11.2.2.2.1 x11.2.2.2.2.1 x11.2.2.2.2.2.1 x11.2.2.2.2.2.2.1 x11.2.2.2.2.2.2.2.1 x11.2.2.2.2.2.2.2.2.1 l6 l7 l8 l9 l10).bind fun x34=>
 some (x34.1,l7,x34.2.1,x34.2.2.1,x34.2.2.2))
 (some (false,l7,l8,l9,l10)))
 (cond (i2==0)
 ((F_watch_Watch_sends p1 i2 i3 i4 l5 x11.1 x11.2.1 x11.2.2.1 x11.2.2.2.1 x11.2.2.2.2.1 x11.2.2.2.2.2.1 x11.2.2.2.2.2.2.1 x11.2.2.2.2.2.2.2.1 x11.2.2.2.2.2.2.2.2.1 l6 l7 l8).bind fun x35=>
 some (x35.1,x35.2.1,x35.2.2,l9,l10))
 (cond (i2==3)
 (chk (nnI p1)
 ((getI l7 p1).bind fun x36=>
 (getI l6 x36.2.2.2.2.2.2.2.1).bind fun m37=>
 cond (eqI (getZ (mapGet m37 i4) (-1:Int)) (-1))
 (some (false,l7,l8,l9,l10))
 (chk (nnI (getZ (mapGet m37 i4) (-1:Int)))
 ((getI l8 (getZ (mapGet m37 i4) (-1:Int))).bind fun x38=>
 cond x38.2.2.2.1
 (some (false,l7,l8,l9,l10))
 (chk (nnI (getZ (mapGet m37 i4) (-1:Int)))
 ((getI l8 (getZ (mapGet m37 i4) (-1:Int))).bind fun x39=>
 some (true,l7,(l8.set (Int.toNat (getZ (mapGet m37 i4) (-1:Int))) (x39.1,(x39.2.1,(x39.2.2.1,(true,x39.2.2.2.2))))),l9,l10)))))))
 (cond (i2==8)
 (chk (nnI p1)
 ((getI l7 p1).bind fun x40=>
 (getI l6 x40.2.2.2.2.2.2.2.1).bind fun m41=>
 cond (i4==0)
 (some (true,l7,l8,l9,l10))
 (cond (!(eqI (getZ (mapGet m41 i4) (-1:Int)) (-1)))
 (chk (nnI (getZ (mapGet m41 i4) (-1:Int)))
 ((getI l8 (getZ (mapGet m41 i4) (-1:Int))).bind fun x42=>
 some ((!x42.2.2.2.1),l7,l8,l9,l10)))
 (some (false,l7,l8,l9,l10)))))
 (cond (i2==7)
 (chk (nnI p1)
 ((getI l7 p1).bind fun x43=>
 some (true,(l7.set (Int.toNat p1) (x43.1,(x43.2.1,(x43.2.2.1,(x43.2.2.2.1,(x43.2.2.2.2.1,(x43.2.2.2.2.2.1,(x43.2.2.2.2.2.2.1,(x43.2.2.2.2.2.2.2.1,(x43.2.2.2.2.2.2.2.2.1,(x43.2.2.2.2.2.2.2.2.2.1,(x43.2.2.2.2.2.2.2.2.2.2.1,(x43.2.2.2.2.2.2.2.2.2.2.2.1,(x43.2.2.2.2.2.2.2.2.2.2.2.2.1,(x11.2.2.1 != 0))))))))))))))),l8,l9,l10)))
 (some ((i2==6),l7,l8,l9,l10)))))))))))))
 (cond x11.2.2.2.2.2.2.2.2.2.1
 (cond x11.2.2.2.2.2.2.2.2.2.1
 (some (false,l7,l8,l9,l10))
 (cond (i2==4)
 (cond (!x11.2.2.2.2.2.2.2.1)
 (some (true,l7,l8,l9,l10))
 (none))
 (cond (i2==1)
 (cond x11.2.2.2.2.2.2.2.2.1
 ((F_watch_Watch_answers p1 i2 i3 i4 l5 x11.1 x11.2.1 x11.2.2.1 x11.2.2.2.1 x11.2.2.2.2.1 x11.2.2.2.2.2.1 x11.2.2.2.2.2.2.1 x11.2.2.2.2.2.2.2.1 x11.2.2.2.2.2.2.2.2.1 l6 l7 l8 l9 l10).bind fun x44=>
 some (x44.1,l7,x44.2.1,x44.2.2.1,x44.2.2.2))
 (some (false,l7,l8,l9,l10)))
 (cond (i2==0)
 ((F_watch_Watch_sends p1 i2 i3 i4 l5 x11.1 x11.2.1 x11.2.2.1 x11.2.2.2.1 x11.2.2.2.2.1 x11.2.2.2.2.2.1 x11.2.2.2.2.2.2.1 x11.2.2.2.2.2.2.2.1 x11.2.2.2.2.2.2.2.2.1 l6 l7 l8).bind fun x45=>
 some (x45.1,x45.2.1,x45.2.2,l9,l10))
 (cond (i2==3)
 (chk (nnI p1)
 ((getI l7 p1).bind fun x46=>
 (getI l6 x46.2.2.2.2.2.2.2.1).bind fun m47=>
 cond (eqI (getZ (mapGet m47 i4) (-1:Int)) (-1))
 (some (false,l7,l8,l9,l10))
 (chk (nnI (getZ (mapGet m47 i4) (-1:Int)))
 ((getI l8 (getZ (mapGet m47 i4) (-1:Int))).bind fun x48=>
 cond x48.2.2.2.1
 (some (false,l7,l8,l9,l10))
 (chk (nnI (getZ (mapGet m47 i4) (-1:Int)))
 ((getI l8 (getZ (mapGet m47 i4) (-1:Int))).bind fun x49=>
 some (true,l7,(l8.set (Int.toNat (getZ (mapGet m47 i4) (-1:Int))) (x49.1,(x49.2.1,(x49.2.2.1,(true,x49.2.2.2.2))))),l9,l10)))))))
 (cond (i2==8)
 (chk (nnI p1)
 ((getI l7 p1).bind fun x50=>
 (getI l6 x50.2.2.2.2.2.2.2.1).bind fun m51=>
 cond (i4==0)
 (some (true,l7,l8,l9,l10))
 (cond (!(eqI (getZ (mapGet m51 i4) (-1:Int)) (-1)))
 (chk (nnI (getZ (mapGet m51 i4) (-1:Int)))
 ((getI l8 (getZ (mapGet m51 i4) (-1:Int))).bind fun x52=>
 some ((!x52.2.2.2.1),l7,l8,l9,l10)))
 (some (false,l7,l8,l9,l10)))))
 (cond (i2==7)
 (chk (nnI p1)
 ((getI l7 p1).bind fun x53=>
 some (true,(l7.set (Int.toNat p1) (x53.1,(x53.2.1,(x53.2.2.1,(x53.2.2.2.1,(x53.2.2.2.2.1,(x53.2.2.2.2.2.1,(x53.2.2.2.2.2.2.1,(x53.2.2.2.2.2.2.2.1,(x53.2.2.2.2.2.2.2.2.1,(x53.2.2.2.2.2.2.2.2.2.1,(x53.2.2.2.2.2.2.2.2.2.2.1,(x53.2.2.2.2.2.2.2.2.2.2.2.1,(x53.2.2.2.2.2.2.2.2.2.2.2.2.1,(x11.2.2.1 != 0))))))))))))))),l8,l9,l10)))
 (some ((i2==6),l7,l8,l9,l10)))))))))
 (chk (nnI p1)
 ((getI l7 p1).bind fun x54=>
 cond x54.2.2.2.2.2.2.2.2.2.2.2.2.2
 (some (false,l7,l8,l9,l10))
 (cond (i2==4)
 (cond (!x11.2.2.2.2.2.2.2.1)
 (some (true,l7,l8,l9,l10))
 (none))
 (cond (i2==1)
 (cond x11.2.2.2.2.2.2.2.2.1
 ((F_watch_Watch_answers p1 i2 i3 i4 l5 x11.1 x11.2.1 x11.2.2.1 x11.2.2.2.1 x11.2.2.2.2.1 x11.2.2.2.2.2.1 x11.2.2.2.2.2.2.1 x11.2.2.2.2.2.2.2.1 x11.2.2.2.2.2.2.2.2.1 l6 l7 l8 l9 l10).bind fun x55=>
 some (x55.1,l7,x55.2.1,x55.2.2.1,x55.2.2.2))
 (some (false,l7,l8,l9,l10)))
 (cond (i2==0)
 ((F_watch_Watch_sends p1 i2 i3 i4 l5 x11.1 x11.2.1 x11.2.2.1 x11.2.2.2.1 x11.2.2.2.2.1 x11.2.2.2.2.2.1 x11.2.2.2.2.2.2.1 x11.2.2.2.2.2.2.2.1 x11.2.2.2.2.2.2.2.2.1 l6 l7 l8).bind fun x56=>
 some (x56.1,x56.2.1,x56.2.2,l9,l10))
 (cond (i2==3)
 (chk (nnI p1)
 ((getI l7 p1).bind fun x57=>
 (getI l6 x57.2.2.2.2.2.2.2.1).bind fun m58=>
 cond (eqI (getZ (mapGet m58 i4) (-1:Int)) (-1))
 (some (false,l7,l8,l9,l10))
 (chk (nnI (getZ (mapGet m58 i4) (-1:Int)))
 ((getI l8 (getZ (mapGet m58 i4) (-1:Int))).bind fun x59=>
 cond x59.2.2.2.1
 (some (false,l7,l8,l9,l10))
 (chk (nnI (getZ (mapGet m58 i4) (-1:Int)))
 ((getI l8 (getZ (mapGet m58 i4) (-1:Int))).bind fun x60=>
 some (true,l7,(l8.set (Int.toNat (getZ (mapGet m58 i4) (-1:Int))) (x60.1,(x60.2.1,(x60.2.2.1,(true,x60.2.2.2.2))))),l9,l10)))))))
 (cond (i2==8)
 (chk (nnI p1)
 ((getI l7 p1).bind fun x61=>
 (getI l6 x61.2.2.2.2.2.2.2.1).bind fun m62=>
 cond (i4==0)
 (some (true,l7,l8,l9,l10))
 (cond (!(eqI (getZ (mapGet m62 i4) (-1:Int)) (-1)))
 (chk (nnI (getZ (mapGet m62 i4) (-1:Int)))
 ((getI l8 (getZ (mapGet m62 i4) (-1:Int))).bind fun x63=>
 some ((!x63.2.2.2.1),l7,l8,l9,l10)))
 (some (false,l7,l8,l9,l10)))))
 (cond (i2==7)
 (chk (nnI p1)
 ((getI l7 p1).bind fun x64=>
 some (true,(l7.set (Int.toNat p1) (x64.1,(x64.2.1,(x64.2.2.1,(x64.2.2.2.1,(x64.2.2.2.2.1,(x64.2.2.2.2.2.1,(x64.2.2.2.2.2.2.1,(x64.2.2.2.2.2.2.2.1,(x64.2.2.2.2.2.2.2.2.1,(x64.2.2.2.2.2.2.2.2.2.1,(x64.2.2.2.2.2.2.2.2.2.2.1,(x64.2.2.2.2.2.2.2.2.2.2.2.1,(x64.2.2.2.2.2.2.2.2.2.2.2.2.1,(x11.2.2.1 != 0))))))))))))))),l8,l9,l10)))
 (some ((i2==6),l7,l8,l9,l10))))))))))))
def F_watch_Watch_right_sig:Sig:=⟨[.v false [.d (.ptr 59)],.v true [.d (.int .i64),.d (.int .i64),.d (.int .i64),.d (.sl (.int .u8))]],[(false,[.d .bool])],[(1000103,(.sl (.pr (.int .i64) (.ptr 71))),false),(1000118,(.pr (.int .i64) (.pr (.ptr 73) (.pr (.ptr 73) (.pr .bool (.pr .bool (.pr .bool (.pr (.int .i64) (.pr (.mp 51) (.pr (.int .i64) (.pr (.os 63 (.sl (.pr (.int .i64) (.int .i64)))) (.pr (.pr (.int .i64) (.pr (.int .i64) (.pr (.int .i64) (.pr (.int .i64) (.pr (.int .i64) (.int .i64)))))) (.pr (.ptr 78) (.pr (.int .i64) .bool))))))))))))),true),(1000142,(.pr .wi (.pr .bool (.pr .bool (.pr .bool (.os 5 (.int .u8)))))),true),(1000156,(.pr (.ptr 91) .bool),true),(1000182,(.pr (.os 109 (.pr .str (.pr .str .bool))) (.pr (.int .i64) (.int .i64))),true)]⟩
def F_watch_Watch_right_ann:List (Nat×Ann):=[]
noncomputable def F_watch_Watch_right_env:Env:=⟨Tryd.prog,[(32,⟨F_part_Read_sig,⟨F_part_Read⟩⟩),(35,⟨F_watch_Watch_answers_sig,⟨F_watch_Watch_answers⟩⟩),(36,⟨F_watch_Watch_sends_sig,⟨F_watch_Watch_sends⟩⟩)],[]⟩
theorem F_watch_Watch_right_text:pvFn F_watch_Watch_right_env F_watch_Watch_right_ann Tryd.f28 F_watch_Watch_right_sig=F_watch_Watch_right:=by kernel_rfl
noncomputable def F_watch_Watch_Out_L3 (p1:Int) (l3:List (List (Int×Int))) (s:List (Int×Int×Int×Bool×Bool×Bool×Int×Int×Int×List (List (Int×Int))×(Int×Int×Int×Int×Int×Int)×Int×Int×Bool)×List (Option Int×Bool×Bool×Bool×List Int)×List (Int×List Int)×List (Int×Bool)×List (List (List Int×List Int×Bool)×Int×Int)):Option ((Int×List (Int×Int×Int×Bool×Bool×Bool×Int×Int×Int×List (List (Int×Int))×(Int×Int×Int×Int×Int×Int)×Int×Int×Bool)×List (Option Int×Bool×Bool×Bool×List Int)×List (Int×List Int)×List (Int×Bool)×List (List (List Int×List Int×Bool)×Int×Int))⊕(List (Int×Int×Int×Bool×Bool×Bool×Int×Int×Int×List (List (Int×Int))×(Int×Int×Int×Int×Int×Int)×Int×Int×Bool)×List (Option Int×Bool×Bool×Bool×List Int)×List (Int×List Int)×List (Int×Bool)×List (List (List Int×List Int×Bool)×Int×Int))):=
 let l11:=s.1;let l12:=s.2.1;let l13:=s.2.2.1;let l14:=s.2.2.2.1;let l15:=s.2.2.2.2
 chk (nnI p1)
 ((getI l11 p1).bind fun x16=>
 cond (!x16.2.2.2.2.2.1)
 (chk (nnI p1)
 ((getI l11 p1).bind fun x17=>
 cond (!x17.2.2.2.2.1)
 (chk (nnI p1)
 ((getI l11 p1).bind fun x18=>
 (F_frame_Parser_Next x18.2.2.1 l13).bind fun x19=>
 cond (x19.2.2.2.2.1==4)
 (Option.map Sum.inl
 (chk (nnI p1)
 ((getI l11 p1).bind fun x20=>
 cond x20.2.2.2.2.2.1
 (some (2,l11,l12,x19.2.2.2.2.2,l14,l15))
 (some (0,l11,l12,x19.2.2.2.2.2,l14,l15)))))
 (cond (x19.2.2.2.2.1 != 0)
 (chk (nnI p1)
 ((getI l11 p1).bind fun x21=>
 chk (nnI p1)
 ((getI (l11.set (Int.toNat p1) (x21.1,(x21.2.1,(x21.2.2.1,(x21.2.2.2.1,(x21.2.2.2.2.1,(true,x21.2.2.2.2.2.2))))))) p1).bind fun x22=>
 cond (!x22.2.2.2.2.2.1)
 (chk (nnI p1)
 ((getI (l11.set (Int.toNat p1) (x21.1,(x21.2.1,(x21.2.2.1,(x21.2.2.2.1,(x21.2.2.2.2.1,(true,x21.2.2.2.2.2.2))))))) p1).bind fun x23=>
 chk (nnI p1)
 ((getI (l11.set (Int.toNat p1) (x21.1,(x21.2.1,(x21.2.2.1,(x21.2.2.2.1,(x21.2.2.2.2.1,(true,x21.2.2.2.2.2.2))))))) p1).bind fun x24=>
 some (.inr (((l11.set (Int.toNat p1) (x21.1,(x21.2.1,(x21.2.2.1,(x21.2.2.2.1,(x21.2.2.2.2.1,(true,x21.2.2.2.2.2.2))))))).set (Int.toNat p1) (x24.1,(x24.2.1,(x24.2.2.1,(x24.2.2.2.1,(x24.2.2.2.2.1,(x24.2.2.2.2.2.1,(x24.2.2.2.2.2.2.1,(x24.2.2.2.2.2.2.2.1,(x24.2.2.2.2.2.2.2.2.1,(x24.2.2.2.2.2.2.2.2.2.1,(x24.2.2.2.2.2.2.2.2.2.2.1,(x24.2.2.2.2.2.2.2.2.2.2.2.1,((IntKind.i64.wrap (x23.2.2.2.2.2.2.2.2.2.2.2.2.1+1)),x24.2.2.2.2.2.2.2.2.2.2.2.2.2)))))))))))))),l12,x19.2.2.2.2.2,l14,l15)))))
 (some (.inr ((l11.set (Int.toNat p1) (x21.1,(x21.2.1,(x21.2.2.1,(x21.2.2.2.1,(x21.2.2.2.2.1,(true,x21.2.2.2.2.2.2))))))),l12,x19.2.2.2.2.2,l14,l15))))))
 ((F_watch_Watch_right p1 x19.1 x19.2.1 x19.2.2.1 x19.2.2.2.1 l3 l11 l12 l14 l15).bind fun x25=>
 chk (nnI p1)
 ((getI x25.2.1 p1).bind fun x26=>
 chk (nnI p1)
 ((getI (x25.2.1.set (Int.toNat p1) (x26.1,(x26.2.1,(x26.2.2.1,(x26.2.2.2.1,(x26.2.2.2.2.1,((!x25.1),x26.2.2.2.2.2.2))))))) p1).bind fun x27=>
 cond (!x27.2.2.2.2.2.1)
 (chk (nnI p1)
 ((getI (x25.2.1.set (Int.toNat p1) (x26.1,(x26.2.1,(x26.2.2.1,(x26.2.2.2.1,(x26.2.2.2.2.1,((!x25.1),x26.2.2.2.2.2.2))))))) p1).bind fun x28=>
 chk (nnI p1)
 ((getI (x25.2.1.set (Int.toNat p1) (x26.1,(x26.2.1,(x26.2.2.1,(x26.2.2.2.1,(x26.2.2.2.2.1,((!x25.1),x26.2.2.2.2.2.2))))))) p1).bind fun x29=>
 some (.inr (((x25.2.1.set (Int.toNat p1) (x26.1,(x26.2.1,(x26.2.2.1,(x26.2.2.2.1,(x26.2.2.2.2.1,((!x25.1),x26.2.2.2.2.2.2))))))).set (Int.toNat p1) (x29.1,(x29.2.1,(x29.2.2.1,(x29.2.2.2.1,(x29.2.2.2.2.1,(x29.2.2.2.2.2.1,(x29.2.2.2.2.2.2.1,(x29.2.2.2.2.2.2.2.1,(x29.2.2.2.2.2.2.2.2.1,(x29.2.2.2.2.2.2.2.2.2.1,(x29.2.2.2.2.2.2.2.2.2.2.1,(x29.2.2.2.2.2.2.2.2.2.2.2.1,((IntKind.i64.wrap (x28.2.2.2.2.2.2.2.2.2.2.2.2.1+1)),x29.2.2.2.2.2.2.2.2.2.2.2.2.2)))))))))))))),x25.2.2.1,x19.2.2.2.2.2,x25.2.2.2.1,x25.2.2.2.2)))))
 (some (.inr ((x25.2.1.set (Int.toNat p1) (x26.1,(x26.2.1,(x26.2.2.1,(x26.2.2.2.1,(x26.2.2.2.2.1,((!x25.1),x26.2.2.2.2.2.2))))))),x25.2.2.1,x19.2.2.2.2.2,x25.2.2.2.1,x25.2.2.2.2)))))))))
 (Option.map Sum.inl
 (chk (nnI p1)
 ((getI l11 p1).bind fun x30=>
 cond x30.2.2.2.2.2.1
 (some (2,l11,l12,l13,l14,l15))
 (some (0,l11,l12,l13,l14,l15)))))))
 (Option.map Sum.inl
 (chk (nnI p1)
 ((getI l11 p1).bind fun x31=>
 cond x31.2.2.2.2.2.1
 (some (2,l11,l12,l13,l14,l15))
 (some (0,l11,l12,l13,l14,l15))))))
noncomputable def F_watch_Watch_Out (p1:Int) (l2:List Int) (l3:List (List (Int×Int))) (l4:List (Int×Int×Int×Bool×Bool×Bool×Int×Int×Int×List (List (Int×Int))×(Int×Int×Int×Int×Int×Int)×Int×Int×Bool)) (l5:List (Option Int×Bool×Bool×Bool×List Int)) (l6:List (Int×List Int)) (l7:List (Int×Bool)) (l8:List (List (List Int×List Int×Bool)×Int×Int)):Option (Int×List (Int×Int×Int×Bool×Bool×Bool×Int×Int×Int×List (List (Int×Int))×(Int×Int×Int×Int×Int×Int)×Int×Int×Bool)×List (Option Int×Bool×Bool×Bool×List Int)×List (Int×List Int)×List (Int×Bool)×List (List (List Int×List Int×Bool)×Int×Int)):=
 chk (nnI p1)
 ((getI l4 p1).bind fun x9=>
 (F_frame_Parser_Feed x9.2.2.1 l2 l6).bind fun l10=>
 loopC (S:=List (Int×Int×Int×Bool×Bool×Bool×Int×Int×Int×List (List (Int×Int))×(Int×Int×Int×Int×Int×Int)×Int×Int×Bool)×List (Option Int×Bool×Bool×Bool×List Int)×List (Int×List Int)×List (Int×Bool)×List (List (List Int×List Int×Bool)×Int×Int)) (R:=Int×List (Int×Int×Int×Bool×Bool×Bool×Int×Int×Int×List (List (Int×Int))×(Int×Int×Int×Int×Int×Int)×Int×Int×Bool)×List (Option Int×Bool×Bool×Bool×List Int)×List (Int×List Int)×List (Int×Bool)×List (List (List Int×List Int×Bool)×Int×Int)) (F_watch_Watch_Out_L3 p1 l3) (l4,l5,l10,l7,l8))
def F_watch_Watch_Out_sig:Sig:=⟨[.v false [.d (.ptr 59)],.v false [.d (.sl (.int .u8))]],[(false,[.d (.int .i64)])],[(1000103,(.sl (.pr (.int .i64) (.ptr 71))),false),(1000118,(.pr (.int .i64) (.pr (.ptr 73) (.pr (.ptr 73) (.pr .bool (.pr .bool (.pr .bool (.pr (.int .i64) (.pr (.mp 51) (.pr (.int .i64) (.pr (.os 63 (.sl (.pr (.int .i64) (.int .i64)))) (.pr (.pr (.int .i64) (.pr (.int .i64) (.pr (.int .i64) (.pr (.int .i64) (.pr (.int .i64) (.int .i64)))))) (.pr (.ptr 78) (.pr (.int .i64) .bool))))))))))))),true),(1000142,(.pr .wi (.pr .bool (.pr .bool (.pr .bool (.os 5 (.int .u8)))))),true),(1000146,(.pr (.int .i64) (.sl (.int .u8))),true),(1000156,(.pr (.ptr 91) .bool),true),(1000182,(.pr (.os 109 (.pr .str (.pr .str .bool))) (.pr (.int .i64) (.int .i64))),true)]⟩
def F_watch_Watch_Out_ann:List (Nat×Ann):=[(3,⟨4,[],[],([5,6]++List.range' 13 45),[1000103],[(1000118,(.pr (.int .i64) (.pr (.ptr 73) (.pr (.ptr 73) (.pr .bool (.pr .bool (.pr .bool (.pr (.int .i64) (.pr (.mp 51) (.pr (.int .i64) (.pr (.os 63 (.sl (.pr (.int .i64) (.int .i64)))) (.pr (.pr (.int .i64) (.pr (.int .i64) (.pr (.int .i64) (.pr (.int .i64) (.pr (.int .i64) (.int .i64)))))) (.pr (.ptr 78) (.pr (.int .i64) .bool))))))))))))),true),(1000142,(.pr .wi (.pr .bool (.pr .bool (.pr .bool (.os 5 (.int .u8)))))),true),(1000146,(.pr (.int .i64) (.sl (.int .u8))),true),(1000156,(.pr (.ptr 91) .bool),true),(1000182,(.pr (.os 109 (.pr .str (.pr .str .bool))) (.pr (.int .i64) (.int .i64))),true)],[]⟩)]
noncomputable def F_watch_Watch_Out_env:Env:=⟨Tryd.prog,[(24,⟨F_frame_Parser_Feed_sig,⟨F_frame_Parser_Feed⟩⟩),(25,⟨F_frame_Parser_Next_sig,⟨F_frame_Parser_Next⟩⟩),(28,⟨F_watch_Watch_right_sig,⟨F_watch_Watch_right⟩⟩)],[]⟩
theorem F_watch_Watch_Out_text:pvFn F_watch_Watch_Out_env F_watch_Watch_Out_ann Tryd.f12 F_watch_Watch_Out_sig=F_watch_Watch_Out:=by kernel_rfl
noncomputable def F_watch_Watch_Frames (p1:Int) (l2:List (Int×Int×Int×Bool×Bool×Bool×Int×Int×Int×List (List (Int×Int))×(Int×Int×Int×Int×Int×Int)×Int×Int×Bool)):Option (Int):=
 chk (nnI p1)
 ((getI l2 p1).bind fun x3=>
 some x3.2.2.2.2.2.2.2.2.2.2.2.2.1)
def F_watch_Watch_Frames_sig:Sig:=⟨[.v false [.d (.ptr 59)]],[(false,[.d (.int .i64)])],[(1000118,(.pr (.int .i64) (.pr (.ptr 73) (.pr (.ptr 73) (.pr .bool (.pr .bool (.pr .bool (.pr (.int .i64) (.pr (.mp 51) (.pr (.int .i64) (.pr (.os 63 (.sl (.pr (.int .i64) (.int .i64)))) (.pr (.pr (.int .i64) (.pr (.int .i64) (.pr (.int .i64) (.pr (.int .i64) (.pr (.int .i64) (.int .i64)))))) (.pr (.ptr 78) (.pr (.int .i64) .bool))))))))))))),false)]⟩
def F_watch_Watch_Frames_ann:List (Nat×Ann):=[]
noncomputable def F_watch_Watch_Frames_env:Env:=⟨Tryd.prog,[],[]⟩
theorem F_watch_Watch_Frames_text:pvFn F_watch_Watch_Frames_env F_watch_Watch_Frames_ann Tryd.f13 F_watch_Watch_Frames_sig=F_watch_Watch_Frames:=by kernel_rfl
noncomputable def F_wlvref10_Put (i1:Int) (i2:Int) (i3:Int) (l4:List Int):Option (List Int×Int):=
 cond (decide (i1 < 0))
 (some (([]:List Int),1))
 (cond (decide (i1 > 255))
 (some (([]:List Int),1))
 (cond (decide (i2 < 0))
 (some (([]:List Int),1))
 (cond (decide (i2 > 255))
 (some (([]:List Int),1))
 (cond (decide (i3 < 0))
 (some (([]:List Int),1))
 (cond (decide (i3 > 2147483647))
 (some (([]:List Int),1))
 (cond (decide ((l4.length:Int) >= 16777216))
 (some (([]:List Int),3))
 ((F_wlvref10_num (l4.length:Int) 3).bind fun l5=>
 chk (decide ((l5.length+([(IntKind.u8.wrap i1),(IntKind.u8.wrap i2)]:List Int).length)*1<=140737488355328)&&decide (l5.length+([(IntKind.u8.wrap i1),(IntKind.u8.wrap i2)]:List Int).length<=maxLen))
 ((F_wlvref10_num i3 4).bind fun l6=>
 chk (decide (((l5++([(IntKind.u8.wrap i1),(IntKind.u8.wrap i2)]:List Int)).length+l6.length)*1<=140737488355328)&&decide ((l5++([(IntKind.u8.wrap i1),(IntKind.u8.wrap i2)]:List Int)).length+l6.length<=maxLen))
 (chk (decide ((((l5++([(IntKind.u8.wrap i1),(IntKind.u8.wrap i2)]:List Int))++l6).length+l4.length)*1<=140737488355328)&&decide (((l5++([(IntKind.u8.wrap i1),(IntKind.u8.wrap i2)]:List Int))++l6).length+l4.length<=maxLen))
 (some ((((l5++([(IntKind.u8.wrap i1),(IntKind.u8.wrap i2)]:List Int))++l6)++l4),0)))))))))))
def F_wlvref10_Put_sig:Sig:=⟨[.v true [.d (.int .i64),.d (.int .i64),.d (.int .i64),.d (.sl (.int .u8))]],[(false,[.own 5 (.int .u8)]),(false,[.d (.int .i64)])],[]⟩
def F_wlvref10_Put_ann:List (Nat×Ann):=[]
noncomputable def F_wlvref10_Put_env:Env:=⟨Tryd.prog,[(27,⟨F_wlvref10_num_sig,⟨F_wlvref10_num⟩⟩)],[]⟩
theorem F_wlvref10_Put_text:pvFn F_wlvref10_Put_env F_wlvref10_Put_ann Tryd.f20 F_wlvref10_Put_sig=F_wlvref10_Put:=by kernel_rfl
noncomputable def F_wlvlaw27_first (l1:List (List (Int×Int))) (l2:List (Int×Int×Int×Bool×Bool×Bool×Int×Int×Int×List (List (Int×Int))×(Int×Int×Int×Int×Int×Int)×Int×Int×Bool)) (l3:List (Option Int×Bool×Bool×Bool×List Int)) (l4:List (Int×List Int)) (l5:List (Int×Bool)) (l6:List (List (List Int×List Int×Bool)×Int×Int)):Option (Bool×List (List (Int×Int))×List (Int×Int×Int×Bool×Bool×Bool×Int×Int×Int×List (List (Int×Int))×(Int×Int×Int×Int×Int×Int)×Int×Int×Bool)×List (Option Int×Bool×Bool×Bool×List Int)×List (Int×List Int)×List (Int×Bool)×List (List (List Int×List Int×Bool)×Int×Int)):=
 (F_watch_New l1 l2 l4 l5 l6).bind fun x7=>
 cond (eqI x7.1 (-1))
 (some (false,x7.2.1,x7.2.2.1,l3,x7.2.2.2.1,x7.2.2.2.2.1,x7.2.2.2.2.2))
 ((F_watch_Watch_Out x7.1 ([]:List Int) x7.2.1 x7.2.2.1 l3 x7.2.2.2.1 x7.2.2.2.2.1 x7.2.2.2.2.2).bind fun x8=>
 cond (x8.1 != 0)
 (some (false,x7.2.1,x8.2.1,x8.2.2.1,x8.2.2.2.1,x8.2.2.2.2.1,x8.2.2.2.2.2))
 ((F_watch_Watch_Frames x7.1 x8.2.1).bind fun i9=>
 cond (i9 != 0)
 (some (false,x7.2.1,x8.2.1,x8.2.2.1,x8.2.2.2.1,x8.2.2.2.2.1,x8.2.2.2.2.2))
 ((F_wlvref10_Settings ([]:List (Int×Int)) false).bind fun x10=>
 (F_wlvref10_Put x10.1 x10.2.1 x10.2.2.1 x10.2.2.2).bind fun x11=>
 (F_wlvref10_Put 5 0 1 ([]:List Int)).bind fun x12=>
 (F_watch_Watch_Out x7.1 x11.1 x7.2.1 x8.2.1 x8.2.2.1 x8.2.2.2.1 x8.2.2.2.2.1 x8.2.2.2.2.2).bind fun x13=>
 cond (x13.1==0)
 ((F_watch_Watch_Frames x7.1 x13.2.1).bind fun i14=>
 cond (i14==1)
 ((F_watch_Watch_Out x7.1 x12.1 x7.2.1 x13.2.1 x13.2.2.1 x13.2.2.2.1 x13.2.2.2.2.1 x13.2.2.2.2.2).bind fun x15=>
 cond (x15.1==2)
 ((F_watch_Watch_Out x7.1 x11.1 x7.2.1 x15.2.1 x15.2.2.1 x15.2.2.2.1 x15.2.2.2.2.1 x15.2.2.2.2.2).bind fun x16=>
 some ((x16.1==2),x7.2.1,x16.2.1,x16.2.2.1,x16.2.2.2.1,x16.2.2.2.2.1,x16.2.2.2.2.2))
 (some (false,x7.2.1,x15.2.1,x15.2.2.1,x15.2.2.2.1,x15.2.2.2.2.1,x15.2.2.2.2.2)))
 (some (false,x7.2.1,x13.2.1,x13.2.2.1,x13.2.2.2.1,x13.2.2.2.2.1,x13.2.2.2.2.2)))
 (some (false,x7.2.1,x13.2.1,x13.2.2.1,x13.2.2.2.1,x13.2.2.2.2.1,x13.2.2.2.2.2)))))
def F_wlvlaw27_first_sig:Sig:=⟨[],[(false,[.d .bool])],[(1000103,(.sl (.pr (.int .i64) (.ptr 71))),true),(1000118,(.pr (.int .i64) (.pr (.ptr 73) (.pr (.ptr 73) (.pr .bool (.pr .bool (.pr .bool (.pr (.int .i64) (.pr (.mp 51) (.pr (.int .i64) (.pr (.os 63 (.sl (.pr (.int .i64) (.int .i64)))) (.pr (.pr (.int .i64) (.pr (.int .i64) (.pr (.int .i64) (.pr (.int .i64) (.pr (.int .i64) (.int .i64)))))) (.pr (.ptr 78) (.pr (.int .i64) .bool))))))))))))),true),(1000142,(.pr .wi (.pr .bool (.pr .bool (.pr .bool (.os 5 (.int .u8)))))),true),(1000146,(.pr (.int .i64) (.sl (.int .u8))),true),(1000156,(.pr (.ptr 91) .bool),true),(1000182,(.pr (.os 109 (.pr .str (.pr .str .bool))) (.pr (.int .i64) (.int .i64))),true)]⟩
def F_wlvlaw27_first_ann:List (Nat×Ann):=[]
noncomputable def F_wlvlaw27_first_env:Env:=⟨Tryd.prog,[(8,⟨F_watch_New_sig,⟨F_watch_New⟩⟩),(11,⟨F_wlvref10_Settings_sig,⟨F_wlvref10_Settings⟩⟩),(12,⟨F_watch_Watch_Out_sig,⟨F_watch_Watch_Out⟩⟩),(13,⟨F_watch_Watch_Frames_sig,⟨F_watch_Watch_Frames⟩⟩),(20,⟨F_wlvref10_Put_sig,⟨F_wlvref10_Put⟩⟩)],[]⟩
theorem F_wlvlaw27_first_text:pvFn F_wlvlaw27_first_env F_wlvlaw27_first_ann Tryd.f7 F_wlvlaw27_first_sig=F_wlvlaw27_first:=by kernel_rfl
noncomputable def F_flow_fault (i1:Int) (b2:Bool):Option ((Nat×Nat)×Bool×Bool×Int):=
 some ((0,0),true,b2,i1)
def F_flow_fault_sig:Sig:=⟨[.v false [.d (.int .i64)],.v false [.d .bool]],[(false,[.d (.cpx .f64)]),(true,[.d .bool,.d .bool,.d (.int .i64)])],[]⟩
def F_flow_fault_ann:List (Nat×Ann):=[]
noncomputable def F_flow_fault_env:Env:=⟨Tryd.prog,[],[]⟩
theorem F_flow_fault_text:pvFn F_flow_fault_env F_flow_fault_ann Tryd.f60 F_flow_fault_sig=F_flow_fault:=by kernel_rfl
noncomputable def F_flow_Grant (z1:(Nat×Nat)) (i2:Int) (i3:Int):Option ((Nat×Nat)×Bool×Bool×Int):=
 (F_flow_parts z1).bind fun x4=>
 cond (((((!x4.2.2)||(decide (i2 < 0)))||(decide (i2 > 2147483647)))||(decide (i3 < 0)))||(decide (i3 > 2147483647)))
 ((F_flow_fault 1 true).bind fun x5=>
 some (x5.1,x5.2.1,x5.2.2.1,x5.2.2.2))
 ((fadd .f64 z1.1 (((foI .f64 i2),(foI .f64 i3)).1)).bind fun q6=>
 (fadd .f64 z1.2 (((foI .f64 i2),(foI .f64 i3)).2)).bind fun q7=>
 cond (fgt .f64 q7 4746794007244308480)
 ((F_flow_fault 3 true).bind fun x8=>
 some (x8.1,x8.2.1,x8.2.2.1,x8.2.2.2))
 (cond (fgt .f64 q6 4746794007244308480)
 ((F_flow_fault 3 false).bind fun x9=>
 some (x9.1,x9.2.1,x9.2.2.1,x9.2.2.2))
 (some ((q6,q7),false,false,0))))
def F_flow_Grant_sig:Sig:=⟨[.v false [.d (.cpx .f64)],.v false [.d (.int .i64)],.v false [.d (.int .i64)]],[(false,[.d (.cpx .f64)]),(true,[.d .bool,.d .bool,.d (.int .i64)])],[]⟩
def F_flow_Grant_ann:List (Nat×Ann):=[]
noncomputable def F_flow_Grant_env:Env:=⟨Tryd.prog,[(59,⟨F_flow_parts_sig,⟨F_flow_parts⟩⟩),(60,⟨F_flow_fault_sig,⟨F_flow_fault⟩⟩)],[]⟩
theorem F_flow_Grant_text:pvFn F_flow_Grant_env F_flow_Grant_ann Tryd.f46 F_flow_Grant_sig=F_flow_Grant:=by kernel_rfl
noncomputable def F_watch_Watch_granted (p1:Int) (i2:Int) (i3:Int) (l4:List (List (Int×Int))) (l5:List (Int×Int×Int×Bool×Bool×Bool×Int×Int×Int×List (List (Int×Int))×(Int×Int×Int×Int×Int×Int)×Int×Int×Bool)) (l6:List (Option Int×Bool×Bool×Bool×List Int)):Option (List (Int×Int×Int×Bool×Bool×Bool×Int×Int×Int×List (List (Int×Int))×(Int×Int×Int×Int×Int×Int)×Int×Int×Bool)×List (Option Int×Bool×Bool×Bool×List Int)):=
 cond (i2==0)
 (chk (nnI p1)
 ((getI l5 p1).bind fun x7=>
 (F_flow_Windows 0 x7.2.2.2.2.2.2.2.2.1).bind fun z8=>
 (F_flow_Grant z8 0 i3).bind fun x9=>
 (F_flow_Conn x9.1).bind fun i10=>
 chk (nnI p1)
 ((getI l5 p1).bind fun x11=>
 chk (nnI p1)
 ((getI (l5.set (Int.toNat p1) (x11.1,(x11.2.1,(x11.2.2.1,(x11.2.2.2.1,(x11.2.2.2.2.1,(x11.2.2.2.2.2.1,(x11.2.2.2.2.2.2.1,(x11.2.2.2.2.2.2.2.1,(i10,x11.2.2.2.2.2.2.2.2.2)))))))))) p1).bind fun x12=>
 some (((l5.set (Int.toNat p1) (x11.1,(x11.2.1,(x11.2.2.1,(x11.2.2.2.1,(x11.2.2.2.2.1,(x11.2.2.2.2.2.1,(x11.2.2.2.2.2.2.1,(x11.2.2.2.2.2.2.2.1,(i10,x11.2.2.2.2.2.2.2.2.2)))))))))).set (Int.toNat p1) (x12.1,(x12.2.1,(x12.2.2.1,(x12.2.2.2.1,(x9.2.1,x12.2.2.2.2.2)))))),l6)))))
 (chk (nnI p1)
 ((getI l5 p1).bind fun x13=>
 (getI l4 x13.2.2.2.2.2.2.2.1).bind fun m14=>
 cond (!(eqI (getZ (mapGet m14 i2) (-1:Int)) (-1)))
 (chk (nnI (getZ (mapGet m14 i2) (-1:Int)))
 ((getI l6 (getZ (mapGet m14 i2) (-1:Int))).bind fun x15=>
 (x15.1).bind fun i17=>
 (F_flow_Windows i17 0).bind fun z18=>
 (F_flow_Grant z18 i3 0).bind fun x19=>
 (F_flow_Stream x19.1).bind fun i20=>
 chk (nnI (getZ (mapGet m14 i2) (-1:Int)))
 ((getI l6 (getZ (mapGet m14 i2) (-1:Int))).bind fun x21=>
 chk (nnI p1)
 ((getI l5 p1).bind fun x22=>
 some ((l5.set (Int.toNat p1) (x22.1,(x22.2.1,(x22.2.2.1,(x22.2.2.2.1,(x19.2.1,x22.2.2.2.2.2)))))),(l6.set (Int.toNat (getZ (mapGet m14 i2) (-1:Int))) ((some i20),x21.2)))))))
 (some (l5,l6))))
def F_watch_Watch_granted_sig:Sig:=⟨[.v false [.d (.ptr 59)],.v false [.d (.int .i64)],.v false [.d (.int .i64)]],[],[(1000103,(.sl (.pr (.int .i64) (.ptr 71))),false),(1000118,(.pr (.int .i64) (.pr (.ptr 73) (.pr (.ptr 73) (.pr .bool (.pr .bool (.pr .bool (.pr (.int .i64) (.pr (.mp 51) (.pr (.int .i64) (.pr (.os 63 (.sl (.pr (.int .i64) (.int .i64)))) (.pr (.pr (.int .i64) (.pr (.int .i64) (.pr (.int .i64) (.pr (.int .i64) (.pr (.int .i64) (.int .i64)))))) (.pr (.ptr 78) (.pr (.int .i64) .bool))))))))))))),true),(1000142,(.pr .wi (.pr .bool (.pr .bool (.pr .bool (.os 5 (.int .u8)))))),true)]⟩
def F_watch_Watch_granted_ann:List (Nat×Ann):=[]
noncomputable def F_watch_Watch_granted_env:Env:=⟨Tryd.prog,[(46,⟨F_flow_Grant_sig,⟨F_flow_Grant⟩⟩),(47,⟨F_flow_Windows_sig,⟨F_flow_Windows⟩⟩),(48,⟨F_flow_Conn_sig,⟨F_flow_Conn⟩⟩),(49,⟨F_flow_Stream_sig,⟨F_flow_Stream⟩⟩)],[]⟩
theorem F_watch_Watch_granted_text:pvFn F_watch_Watch_granted_env F_watch_Watch_granted_ann Tryd.f33 F_watch_Watch_granted_sig=F_watch_Watch_granted:=by kernel_rfl
noncomputable def F_watch_Watch_hears (p1:Int) (i2:Int) (i3:Int) (i4:Int) (l5:List Int) (l6:List (List (Int×Int))) (l7:List (Int×Int×Int×Bool×Bool×Bool×Int×Int×Int×List (List (Int×Int))×(Int×Int×Int×Int×Int×Int)×Int×Int×Bool)) (l8:List (Option Int×Bool×Bool×Bool×List Int)):Option (List (List (Int×Int))×List (Int×Int×Int×Bool×Bool×Bool×Int×Int×Int×List (List (Int×Int))×(Int×Int×Int×Int×Int×Int)×Int×Int×Bool)×List (Option Int×Bool×Bool×Bool×List Int)):=
 (F_part_Read i2 i3 i4 l5).bind fun x9=>
 cond (i2==1)
 (cond ((Int.tmod i4 2)==1)
 (chk (nnI p1)
 ((getI l7 p1).bind fun x10=>
 cond (decide (i4 > x10.2.2.2.2.2.2.1))
 (chk (nnI p1)
 ((getI l7 p1).bind fun x11=>
 chk (nnI p1)
 ((getI (l7.set (Int.toNat p1) (x11.1,(x11.2.1,(x11.2.2.1,(x11.2.2.2.1,(x11.2.2.2.2.1,(x11.2.2.2.2.2.1,(i4,x11.2.2.2.2.2.2.2)))))))) p1).bind fun x12=>
 chk (nnI p1)
 ((getI (l7.set (Int.toNat p1) (x11.1,(x11.2.1,(x11.2.2.1,(x11.2.2.2.1,(x11.2.2.2.2.1,(x11.2.2.2.2.2.1,(i4,x11.2.2.2.2.2.2.2)))))))) p1).bind fun x13=>
 (getI l6 x12.2.2.2.2.2.2.2.1).bind fun m14=>
 some ((l6.set (Int.toNat x12.2.2.2.2.2.2.2.1) (mapSet m14 i4 (l8.length:Int))),(l7.set (Int.toNat p1) (x11.1,(x11.2.1,(x11.2.2.1,(x11.2.2.2.1,(x11.2.2.2.2.1,(x11.2.2.2.2.2.1,(i4,x11.2.2.2.2.2.2.2)))))))),(l8++[((some x13.2.2.2.2.2.2.2.2.2.2.1.2.2.2.1),(false,(false,(false,([]:List Int)))))]))))))
 (some (l6,l7,l8))))
 (some (l6,l7,l8)))
 (cond (i2==4)
 (cond (!x9.2.2.2.2.2.2.2.2.2.1)
 (cond (!x9.2.2.2.2.2.2.2.1)
 (chk (nnI p1)
 ((getI l7 p1).bind fun x15=>
 chk (decide ((x15.2.2.2.2.2.2.2.2.2.1.length+([x9.2.2.2.2.2.1]:List (List (Int×Int))).length)*24<=140737488355328)&&decide (x15.2.2.2.2.2.2.2.2.2.1.length+([x9.2.2.2.2.2.1]:List (List (Int×Int))).length<=maxLen))
 (chk (nnI p1)
 ((getI l7 p1).bind fun x16=>
 chk (eqI p1 p1)
 (some (l6,(l7.set (Int.toNat p1) (x16.1,(x16.2.1,(x16.2.2.1,(x16.2.2.2.1,(x16.2.2.2.2.1,(x16.2.2.2.2.2.1,(x16.2.2.2.2.2.2.1,(x16.2.2.2.2.2.2.2.1,(x16.2.2.2.2.2.2.2.2.1,((x15.2.2.2.2.2.2.2.2.2.1++([x9.2.2.2.2.2.1]:List (List (Int×Int)))),x16.2.2.2.2.2.2.2.2.2.2))))))))))),l8))))))
 (some (l6,l7,l8)))
 (some (l6,l7,l8)))
 (cond (i2==8)
 (cond (!x9.2.2.2.2.2.2.2.2.2.1)
 ((F_watch_Watch_granted p1 i4 x9.2.2.2.2.1 l6 l7 l8).bind fun x17=>
 some (l6,x17.1,x17.2))
 (some (l6,l7,l8)))
 (some (l6,l7,l8))))
def F_watch_Watch_hears_sig:Sig:=⟨[.v false [.d (.ptr 59)],.v true [.d (.int .i64),.d (.int .i64),.d (.int .i64),.d (.sl (.int .u8))]],[],[(1000103,(.sl (.pr (.int .i64) (.ptr 71))),true),(1000118,(.pr (.int .i64) (.pr (.ptr 73) (.pr (.ptr 73) (.pr .bool (.pr .bool (.pr .bool (.pr (.int .i64) (.pr (.mp 51) (.pr (.int .i64) (.pr (.os 63 (.sl (.pr (.int .i64) (.int .i64)))) (.pr (.pr (.int .i64) (.pr (.int .i64) (.pr (.int .i64) (.pr (.int .i64) (.pr (.int .i64) (.int .i64)))))) (.pr (.ptr 78) (.pr (.int .i64) .bool))))))))))))),true),(1000142,(.pr .wi (.pr .bool (.pr .bool (.pr .bool (.os 5 (.int .u8)))))),true)]⟩
def F_watch_Watch_hears_ann:List (Nat×Ann):=[]
noncomputable def F_watch_Watch_hears_env:Env:=⟨Tryd.prog,[(32,⟨F_part_Read_sig,⟨F_part_Read⟩⟩),(33,⟨F_watch_Watch_granted_sig,⟨F_watch_Watch_granted⟩⟩)],[60]⟩
theorem F_watch_Watch_hears_text:pvFn F_watch_Watch_hears_env F_watch_Watch_hears_ann Tryd.f26 F_watch_Watch_hears_sig=F_watch_Watch_hears:=by kernel_rfl
noncomputable def F_watch_Watch_In_L3 (p1:Int) (s:List (List (Int×Int))×List (Int×Int×Int×Bool×Bool×Bool×Int×Int×Int×List (List (Int×Int))×(Int×Int×Int×Int×Int×Int)×Int×Int×Bool)×List (Option Int×Bool×Bool×Bool×List Int)×List (Int×List Int)):Option ((List (List (Int×Int))×List (Int×Int×Int×Bool×Bool×Bool×Int×Int×Int×List (List (Int×Int))×(Int×Int×Int×Int×Int×Int)×Int×Int×Bool)×List (Option Int×Bool×Bool×Bool×List Int)×List (Int×List Int))⊕(List (List (Int×Int))×List (Int×Int×Int×Bool×Bool×Bool×Int×Int×Int×List (List (Int×Int))×(Int×Int×Int×Int×Int×Int)×Int×Int×Bool)×List (Option Int×Bool×Bool×Bool×List Int)×List (Int×List Int))):=
 let l13:=s.1;let l14:=s.2.1;let l15:=s.2.2.1;let l16:=s.2.2.2
 chk (nnI p1)
 ((getI l14 p1).bind fun x17=>
 cond (!x17.2.2.2.1)
 (chk (nnI p1)
 ((getI l14 p1).bind fun x18=>
 cond (!x18.2.2.2.2.1)
 (chk (nnI p1)
 ((getI l14 p1).bind fun x19=>
 (F_frame_Parser_Next x19.2.1 l16).bind fun x20=>
 cond (x20.2.2.2.2.1==4)
 (some (.inl (l13,l14,l15,x20.2.2.2.2.2)))
 (chk (nnI p1)
 ((getI l14 p1).bind fun x21=>
 chk (nnI p1)
 ((getI (l14.set (Int.toNat p1) (x21.1,(x21.2.1,(x21.2.2.1,((x20.2.2.2.2.1 != 0),x21.2.2.2.2))))) p1).bind fun x22=>
 cond (!x22.2.2.2.1)
 ((F_watch_Watch_hears p1 x20.1 x20.2.1 x20.2.2.1 x20.2.2.2.1 l13 (l14.set (Int.toNat p1) (x21.1,(x21.2.1,(x21.2.2.1,((x20.2.2.2.2.1 != 0),x21.2.2.2.2))))) l15).bind fun x23=>
 some (.inr (x23.1,x23.2.1,x23.2.2,x20.2.2.2.2.2)))
 (some (.inr (l13,(l14.set (Int.toNat p1) (x21.1,(x21.2.1,(x21.2.2.1,((x20.2.2.2.2.1 != 0),x21.2.2.2.2))))),l15,x20.2.2.2.2.2))))))))
 (some (.inl (l13,l14,l15,l16)))))
 (some (.inl (l13,l14,l15,l16))))
noncomputable def F_watch_Watch_In (p1:Int) (l2:List Int) (l3:List (List (Int×Int))) (l4:List (Int×Int×Int×Bool×Bool×Bool×Int×Int×Int×List (List (Int×Int))×(Int×Int×Int×Int×Int×Int)×Int×Int×Bool)) (l5:List (Option Int×Bool×Bool×Bool×List Int)) (l6:List (Int×List Int)):Option (List (List (Int×Int))×List (Int×Int×Int×Bool×Bool×Bool×Int×Int×Int×List (List (Int×Int))×(Int×Int×Int×Int×Int×Int)×Int×Int×Bool)×List (Option Int×Bool×Bool×Bool×List Int)×List (Int×List Int)):=
 chk (nnI p1)
 ((getI l4 p1).bind fun x7=>
 chk (nnI p1)
 ((getI l4 p1).bind fun x8=>
 chk (nnI p1)
 ((getI l4 p1).bind fun x9=>
 chk (nnI p1)
 ((getI (l4.set (Int.toNat p1) ((IntKind.i64.wrap (x8.1+(minI (IntKind.i64.wrap (24 - x7.1)) (l2.length:Int)))),x9.2)) p1).bind fun x10=>
 (cutI l2 (minI (IntKind.i64.wrap (24 - x7.1)) (l2.length:Int)) (l2.length:Int)).bind fun l11=>
 (F_frame_Parser_Feed x10.2.1 l11 l6).bind fun l12=>
 loopC (S:=List (List (Int×Int))×List (Int×Int×Int×Bool×Bool×Bool×Int×Int×Int×List (List (Int×Int))×(Int×Int×Int×Int×Int×Int)×Int×Int×Bool)×List (Option Int×Bool×Bool×Bool×List Int)×List (Int×List Int)) (R:=List (List (Int×Int))×List (Int×Int×Int×Bool×Bool×Bool×Int×Int×Int×List (List (Int×Int))×(Int×Int×Int×Int×Int×Int)×Int×Int×Bool)×List (Option Int×Bool×Bool×Bool×List Int)×List (Int×List Int)) (F_watch_Watch_In_L3 p1) (l3,(l4.set (Int.toNat p1) ((IntKind.i64.wrap (x8.1+(minI (IntKind.i64.wrap (24 - x7.1)) (l2.length:Int)))),x9.2)),l5,l12)))))
def F_watch_Watch_In_sig:Sig:=⟨[.v false [.d (.ptr 59)],.v false [.d (.sl (.int .u8))]],[],[(1000103,(.sl (.pr (.int .i64) (.ptr 71))),true),(1000118,(.pr (.int .i64) (.pr (.ptr 73) (.pr (.ptr 73) (.pr .bool (.pr .bool (.pr .bool (.pr (.int .i64) (.pr (.mp 51) (.pr (.int .i64) (.pr (.os 63 (.sl (.pr (.int .i64) (.int .i64)))) (.pr (.pr (.int .i64) (.pr (.int .i64) (.pr (.int .i64) (.pr (.int .i64) (.pr (.int .i64) (.int .i64)))))) (.pr (.ptr 78) (.pr (.int .i64) .bool))))))))))))),true),(1000142,(.pr .wi (.pr .bool (.pr .bool (.pr .bool (.os 5 (.int .u8)))))),true),(1000146,(.pr (.int .i64) (.sl (.int .u8))),true)]⟩
def F_watch_Watch_In_ann:List (Nat×Ann):=[(3,⟨4,[],[],([5,6]++List.range' 31 35),[],[(1000103,(.sl (.pr (.int .i64) (.ptr 71))),true),(1000118,(.pr (.int .i64) (.pr (.ptr 73) (.pr (.ptr 73) (.pr .bool (.pr .bool (.pr .bool (.pr (.int .i64) (.pr (.mp 51) (.pr (.int .i64) (.pr (.os 63 (.sl (.pr (.int .i64) (.int .i64)))) (.pr (.pr (.int .i64) (.pr (.int .i64) (.pr (.int .i64) (.pr (.int .i64) (.pr (.int .i64) (.int .i64)))))) (.pr (.ptr 78) (.pr (.int .i64) .bool))))))))))))),true),(1000142,(.pr .wi (.pr .bool (.pr .bool (.pr .bool (.os 5 (.int .u8)))))),true),(1000146,(.pr (.int .i64) (.sl (.int .u8))),true)],[]⟩)]
noncomputable def F_watch_Watch_In_env:Env:=⟨Tryd.prog,[(24,⟨F_frame_Parser_Feed_sig,⟨F_frame_Parser_Feed⟩⟩),(25,⟨F_frame_Parser_Next_sig,⟨F_frame_Parser_Next⟩⟩),(26,⟨F_watch_Watch_hears_sig,⟨F_watch_Watch_hears⟩⟩)],[]⟩
theorem F_watch_Watch_In_text:pvFn F_watch_Watch_In_env F_watch_Watch_In_ann Tryd.f9 F_watch_Watch_In_sig=F_watch_Watch_In:=by kernel_rfl
noncomputable def F_wlvlaw27_frames_L4 (l1:List (Int×Int×Int×List Int)) (s:List Int×Int):Option (((List Int)⊕(List Int))⊕(List Int×Int)):=
 let l2:=s.1;let i3:=s.2
 cond (decide (i3 < (l1.length:Int)))
 ((getI l1 i3).bind fun x4=>
 (F_wlvref10_Put x4.1 x4.2.1 x4.2.2.1 x4.2.2.2).bind fun x5=>
 chk (decide ((l2.length+x5.1.length)*1<=140737488355328)&&decide (l2.length+x5.1.length<=maxLen))
 (some (.inr ((l2++x5.1),(IntKind.i64.wrap (i3+1))))))
 (some (.inl (.inr l2)))
noncomputable def F_wlvlaw27_frames_J2 (s:List Int):Option (List Int):=
 let l6:=s
 some l6
noncomputable def F_wlvlaw27_frames (l1:List (Int×Int×Int×List Int)):Option (List Int):=
 joinC (S:=List Int) (R:=List Int)
 (loopC (S:=List Int×Int) (R:=(List Int)⊕(List Int)) (F_wlvlaw27_frames_L4 l1) (([]:List Int),0))
 (F_wlvlaw27_frames_J2)
def F_wlvlaw27_frames_sig:Sig:=⟨[.v false [.d (.sl (.pr (.int .i64) (.pr (.int .i64) (.pr (.int .i64) (.sl (.int .u8))))))]],[(false,[.own 5 (.int .u8)])],[]⟩
def F_wlvlaw27_frames_ann:List (Nat×Ann):=[(2,⟨3,[(3,false,[.own 5 (.int .u8)])],[],(List.range' 4 20),[],[],[]⟩),(4,⟨5,[(3,false,[.own 5 (.int .u8)]),(4,false,[.d (.int .i64)])],[],(List.range' 5 19),[],[],[]⟩)]
noncomputable def F_wlvlaw27_frames_env:Env:=⟨Tryd.prog,[(20,⟨F_wlvref10_Put_sig,⟨F_wlvref10_Put⟩⟩)],[]⟩
theorem F_wlvlaw27_frames_text:pvFn F_wlvlaw27_frames_env F_wlvlaw27_frames_ann Tryd.f10 F_wlvlaw27_frames_sig=F_wlvlaw27_frames:=by kernel_rfl
noncomputable def F_wlvref10_Rst (i1:Int) (i2:Int):Option (Int×Int×Int×List Int):=
 (F_wlvref10_num i2 4).bind fun l3=>
 some (3,0,i1,l3)
def F_wlvref10_Rst_sig:Sig:=⟨[.v false [.d (.int .i64)],.v false [.d (.int .i64)]],[(true,[.d (.int .i64),.d (.int .i64),.d (.int .i64),.own 5 (.int .u8)])],[]⟩
def F_wlvref10_Rst_ann:List (Nat×Ann):=[]
noncomputable def F_wlvref10_Rst_env:Env:=⟨Tryd.prog,[(27,⟨F_wlvref10_num_sig,⟨F_wlvref10_num⟩⟩)],[]⟩
theorem F_wlvref10_Rst_text:pvFn F_wlvref10_Rst_env F_wlvref10_Rst_ann Tryd.f15 F_wlvref10_Rst_sig=F_wlvref10_Rst:=by kernel_rfl
noncomputable def F_wlvref10_Update (i1:Int) (i2:Int):Option (Int×Int×Int×List Int):=
 (F_wlvref10_num (bits .and .i64 i2 2147483647) 4).bind fun l3=>
 some (8,0,i1,l3)
def F_wlvref10_Update_sig:Sig:=⟨[.v false [.d (.int .i64)],.v false [.d (.int .i64)]],[(true,[.d (.int .i64),.d (.int .i64),.d (.int .i64),.own 5 (.int .u8)])],[]⟩
def F_wlvref10_Update_ann:List (Nat×Ann):=[]
noncomputable def F_wlvref10_Update_env:Env:=⟨Tryd.prog,[(27,⟨F_wlvref10_num_sig,⟨F_wlvref10_num⟩⟩)],[]⟩
theorem F_wlvref10_Update_text:pvFn F_wlvref10_Update_env F_wlvref10_Update_ann Tryd.f16 F_wlvref10_Update_sig=F_wlvref10_Update:=by kernel_rfl
noncomputable def F_watch_Watch_Sent (p1:Int) (i2:Int) (l3:List (List (Int×Int))) (l4:List (Int×Int×Int×Bool×Bool×Bool×Int×Int×Int×List (List (Int×Int))×(Int×Int×Int×Int×Int×Int)×Int×Int×Bool)) (l5:List (Option Int×Bool×Bool×Bool×List Int)):Option (List Int):=
 chk (nnI p1)
 ((getI l4 p1).bind fun x6=>
 (getI l3 x6.2.2.2.2.2.2.2.1).bind fun m7=>
 cond (!(eqI (getZ (mapGet m7 i2) (-1:Int)) (-1)))
 (chk (nnI (getZ (mapGet m7 i2) (-1:Int)))
 ((getI l5 (getZ (mapGet m7 i2) (-1:Int))).bind fun x8=>
 (F_bytes_Clone x8.2.2.2.2).bind fun l9=>
 some l9))
 (some ([]:List Int)))
def F_watch_Watch_Sent_sig:Sig:=⟨[.v false [.d (.ptr 59)],.v false [.d (.int .i64)]],[(false,[.own 5 (.int .u8)])],[(1000103,(.sl (.pr (.int .i64) (.ptr 71))),false),(1000118,(.pr (.int .i64) (.pr (.ptr 73) (.pr (.ptr 73) (.pr .bool (.pr .bool (.pr .bool (.pr (.int .i64) (.pr (.mp 51) (.pr (.int .i64) (.pr (.os 63 (.sl (.pr (.int .i64) (.int .i64)))) (.pr (.pr (.int .i64) (.pr (.int .i64) (.pr (.int .i64) (.pr (.int .i64) (.pr (.int .i64) (.int .i64)))))) (.pr (.ptr 78) (.pr (.int .i64) .bool))))))))))))),false),(1000142,(.pr .wi (.pr .bool (.pr .bool (.pr .bool (.os 5 (.int .u8)))))),false)]⟩
def F_watch_Watch_Sent_ann:List (Nat×Ann):=[]
noncomputable def F_watch_Watch_Sent_env:Env:=⟨Tryd.prog,[(29,⟨F_bytes_Clone_sig,⟨F_bytes_Clone⟩⟩)],[]⟩
theorem F_watch_Watch_Sent_text:pvFn F_watch_Watch_Sent_env F_watch_Watch_Sent_ann Tryd.f19 F_watch_Watch_Sent_sig=F_watch_Watch_Sent:=by kernel_rfl
noncomputable def F_wlvlaw27_WatchRight (i1:Int) (i2:Int) (l3:List (List (Int×Int))) (l4:List (Int×Int×Int×Bool×Bool×Bool×Int×Int×Int×List (List (Int×Int))×(Int×Int×Int×Int×Int×Int)×Int×Int×Bool)) (l5:List (Option Int×Bool×Bool×Bool×List Int)) (l6:List (Int×List Int)) (l7:List (Int×Bool)) (l8:List (List (List Int×List Int×Bool)×Int×Int)):Option (Bool×List (List (Int×Int))×List (Int×Int×Int×Bool×Bool×Bool×Int×Int×Int×List (List (Int×Int))×(Int×Int×Int×Int×Int×Int)×Int×Int×Bool)×List (Option Int×Bool×Bool×Bool×List Int)×List (Int×List Int)×List (Int×Bool)×List (List (List Int×List Int×Bool)×Int×Int)):=
 (F_wlvlaw27_first l3 l4 l5 l6 l7 l8).bind fun x9=>
 cond (!x9.1)
 (some (false,x9.2.1,x9.2.2.1,x9.2.2.2.1,x9.2.2.2.2.1,x9.2.2.2.2.2.1,x9.2.2.2.2.2.2))
 ((F_watch_New x9.2.1 x9.2.2.1 x9.2.2.2.2.1 x9.2.2.2.2.2.1 x9.2.2.2.2.2.2).bind fun x10=>
 cond (((((eqI x10.1 (-1))||(decide (i1 < 0)))||(decide (i1 > 16000)))||(decide (i2 < 1)))||(decide (i2 > 30000)))
 (cond (!(eqI x10.1 (-1)))
 ((F_wlvlaw27_first x10.2.1 x10.2.2.1 x9.2.2.2.1 x10.2.2.2.1 x10.2.2.2.2.1 x10.2.2.2.2.2).bind fun x11=>
 some (x11.1,x11.2.1,x11.2.2.1,x11.2.2.2.1,x11.2.2.2.2.1,x11.2.2.2.2.2.1,x11.2.2.2.2.2.2))
 (some (false,x10.2.1,x10.2.2.1,x9.2.2.2.1,x10.2.2.2.1,x10.2.2.2.2.1,x10.2.2.2.2.2)))
 ((F_wlvref10_Settings ([]:List (Int×Int)) false).bind fun x12=>
 (F_wlvlaw27_frames ([(x12.1,x12.2.1,x12.2.2.1,x12.2.2.2),(1,4,1,([130]:List Int)),(1,4,3,([130]:List Int))]:List (Int×Int×Int×List Int))).bind fun l13=>
 chk ((Nat.ble (List.length ([80,82,73,32,42,32,72,84,84,80,47,50,46,48,13,10,13,10,83,77,13,10,13,10]:List Int)) (List.length ([80,82,73,32,42,32,72,84,84,80,47,50,46,48,13,10,13,10,83,77,13,10,13,10]:List Int))&&true))
 (chk (Nat.blt 0 l13.length&&decide (((List.take (List.length ([80,82,73,32,42,32,72,84,84,80,47,50,46,48,13,10,13,10,83,77,13,10,13,10]:List Int)) ([80,82,73,32,42,32,72,84,84,80,47,50,46,48,13,10,13,10,83,77,13,10,13,10]:List Int)).length+l13.length)*1<=140737488355328)&&decide ((List.take (List.length ([80,82,73,32,42,32,72,84,84,80,47,50,46,48,13,10,13,10,83,77,13,10,13,10]:List Int)) ([80,82,73,32,42,32,72,84,84,80,47,50,46,48,13,10,13,10,83,77,13,10,13,10]:List Int)).length+l13.length<=maxLen))
 ((F_watch_Watch_In x10.1 ((List.take (List.length ([80,82,73,32,42,32,72,84,84,80,47,50,46,48,13,10,13,10,83,77,13,10,13,10]:List Int)) ([80,82,73,32,42,32,72,84,84,80,47,50,46,48,13,10,13,10,83,77,13,10,13,10]:List Int))++l13) x10.2.1 x10.2.2.1 x9.2.2.2.1 x10.2.2.2.1).bind fun x14=>
 chk (decide (0<=i1)&&decide (i1<=i1)&&decide (i1*1<=140737488355328)&&decide (i1<=maxLen))
 ((F_wlvref10_Settings ([]:List (Int×Int)) false).bind fun x15=>
 (F_wlvref10_Rst 3 8).bind fun x16=>
 (F_wlvlaw27_frames ([(x15.1,x15.2.1,x15.2.2.1,x15.2.2.2),(1,4,1,([136]:List Int)),(0,0,1,(List.replicate (i1).toNat (0:Int))),(0,0,1,(List.replicate (i1).toNat (0:Int))),(0,0,1,(List.replicate (i1).toNat (0:Int))),(0,0,1,(List.replicate (i1).toNat (0:Int))),(x16.1,x16.2.1,x16.2.2.1,x16.2.2.2)]:List (Int×Int×Int×List Int))).bind fun l17=>
 (F_watch_Watch_Out x10.1 l17 x14.1 x14.2.1 x14.2.2.1 x14.2.2.2 x10.2.2.2.2.1 x10.2.2.2.2.2).bind fun x18=>
 (F_wlvref10_Update 1 i2).bind fun x19=>
 (F_wlvref10_Update 0 i2).bind fun x20=>
 (F_wlvlaw27_frames ([(x19.1,x19.2.1,x19.2.2.1,x19.2.2.2),(x20.1,x20.2.1,x20.2.2.1,x20.2.2.2)]:List (Int×Int×Int×List Int))).bind fun l21=>
 (F_watch_Watch_In x10.1 l21 x14.1 x18.2.1 x18.2.2.1 x18.2.2.2.1).bind fun x22=>
 chk (decide (0<=(minI (IntKind.i64.wrap ((IntKind.i64.wrap (65535 - (IntKind.i64.wrap (4*i1))))+i2)) 16384))&&decide ((minI (IntKind.i64.wrap ((IntKind.i64.wrap (65535 - (IntKind.i64.wrap (4*i1))))+i2)) 16384)<=(minI (IntKind.i64.wrap ((IntKind.i64.wrap (65535 - (IntKind.i64.wrap (4*i1))))+i2)) 16384))&&decide ((minI (IntKind.i64.wrap ((IntKind.i64.wrap (65535 - (IntKind.i64.wrap (4*i1))))+i2)) 16384)*1<=140737488355328)&&decide ((minI (IntKind.i64.wrap ((IntKind.i64.wrap (65535 - (IntKind.i64.wrap (4*i1))))+i2)) 16384)<=maxLen))
 ((F_wlvlaw27_frames ([(0,1,1,(List.replicate ((minI (IntKind.i64.wrap ((IntKind.i64.wrap (65535 - (IntKind.i64.wrap (4*i1))))+i2)) 16384)).toNat (0:Int)))]:List (Int×Int×Int×List Int))).bind fun l23=>
 (F_watch_Watch_Out x10.1 l23 x22.1 x22.2.1 x22.2.2.1 x22.2.2.2 x18.2.2.2.2.1 x18.2.2.2.2.2).bind fun x24=>
 (F_wlvlaw27_first x22.1 x24.2.1 x24.2.2.1 x24.2.2.2.1 x24.2.2.2.2.1 x24.2.2.2.2.2).bind fun x25=>
 cond ((x25.1&&(x18.1==0))&&(x24.1==0))
 ((F_watch_Watch_Sent x10.1 1 x25.2.1 x25.2.2.1 x25.2.2.2.1).bind fun l26=>
 cond ((l26.length:Int)==(IntKind.i64.wrap ((IntKind.i64.wrap (4*i1))+(minI (IntKind.i64.wrap ((IntKind.i64.wrap (65535 - (IntKind.i64.wrap (4*i1))))+i2)) 16384))))
 ((F_watch_Watch_Sent x10.1 3 x25.2.1 x25.2.2.1 x25.2.2.2.1).bind fun l27=>
 cond ((l27.length:Int)==0)
 ((F_watch_Watch_Frames x10.1 x25.2.2.1).bind fun i28=>
 some ((i28==8),x25.2.1,x25.2.2.1,x25.2.2.2.1,x25.2.2.2.2.1,x25.2.2.2.2.2.1,x25.2.2.2.2.2.2))
 (some (false,x25.2.1,x25.2.2.1,x25.2.2.2.1,x25.2.2.2.2.1,x25.2.2.2.2.2.1,x25.2.2.2.2.2.2)))
 (some (false,x25.2.1,x25.2.2.1,x25.2.2.2.1,x25.2.2.2.2.1,x25.2.2.2.2.2.1,x25.2.2.2.2.2.2)))
 (some (false,x25.2.1,x25.2.2.1,x25.2.2.2.1,x25.2.2.2.2.1,x25.2.2.2.2.2.1,x25.2.2.2.2.2.2))))))))
def F_wlvlaw27_WatchRight_sig:Sig:=⟨[.v false [.d (.int .i64)],.v false [.d (.int .i64)]],[(false,[.d .bool])],[(1000103,(.sl (.pr (.int .i64) (.ptr 71))),true),(1000118,(.pr (.int .i64) (.pr (.ptr 73) (.pr (.ptr 73) (.pr .bool (.pr .bool (.pr .bool (.pr (.int .i64) (.pr (.mp 51) (.pr (.int .i64) (.pr (.os 63 (.sl (.pr (.int .i64) (.int .i64)))) (.pr (.pr (.int .i64) (.pr (.int .i64) (.pr (.int .i64) (.pr (.int .i64) (.pr (.int .i64) (.int .i64)))))) (.pr (.ptr 78) (.pr (.int .i64) .bool))))))))))))),true),(1000142,(.pr .wi (.pr .bool (.pr .bool (.pr .bool (.os 5 (.int .u8)))))),true),(1000146,(.pr (.int .i64) (.sl (.int .u8))),true),(1000156,(.pr (.ptr 91) .bool),true),(1000182,(.pr (.os 109 (.pr .str (.pr .str .bool))) (.pr (.int .i64) (.int .i64))),true)]⟩
def F_wlvlaw27_WatchRight_ann:List (Nat×Ann):=[]
noncomputable def F_wlvlaw27_WatchRight_env:Env:=⟨Tryd.prog,[(7,⟨F_wlvlaw27_first_sig,⟨F_wlvlaw27_first⟩⟩),(8,⟨F_watch_New_sig,⟨F_watch_New⟩⟩),(9,⟨F_watch_Watch_In_sig,⟨F_watch_Watch_In⟩⟩),(10,⟨F_wlvlaw27_frames_sig,⟨F_wlvlaw27_frames⟩⟩),(11,⟨F_wlvref10_Settings_sig,⟨F_wlvref10_Settings⟩⟩),(12,⟨F_watch_Watch_Out_sig,⟨F_watch_Watch_Out⟩⟩),(13,⟨F_watch_Watch_Frames_sig,⟨F_watch_Watch_Frames⟩⟩),(15,⟨F_wlvref10_Rst_sig,⟨F_wlvref10_Rst⟩⟩),(16,⟨F_wlvref10_Update_sig,⟨F_wlvref10_Update⟩⟩),(19,⟨F_watch_Watch_Sent_sig,⟨F_watch_Watch_Sent⟩⟩)],[40]⟩
theorem F_wlvlaw27_WatchRight_text:pvFn F_wlvlaw27_WatchRight_env F_wlvlaw27_WatchRight_ann Tryd.f6 F_wlvlaw27_WatchRight_sig=F_wlvlaw27_WatchRight:=by kernel_rfl
end Go.Proofs.YtifbhefbhlbofaaDoor
namespace Go.Proofs.YtifbhefbhlbofaaDoor
open Go.RowKit Go.Lib Pv
set_option linter.unusedVariables false

set_option maxHeartbeats 4000000 in
set_option maxRecDepth 1000000 in
theorem scl_at (a:Addr) (n c:Nat) (l:List Int) (w:World) (hl:l.length=n) (hbig:n<=140737488355328) (hc:∀ (i:Nat) x,l[i]? = some x->w.cell? (a.add i)=some (.int .u8 x)) :
  Calls Tryd.prog 63 #[.slice (some a) n c] w fun e w'=>∃ v',e=.returned v' /\ w'.ownsRow w.heap.size 5 1 v' n (l.map (Value.int .u8)) /\ Below w.heap.size w w':=by
 obtain ⟨i0,hi,hz0,hz1,hz2⟩:=info_parts infoU
 have q22:∀ (w:World) (a:Option Addr) (n c n' c':Nat),(binOp .eql 26 (.slice a n c) (.slice none n' c')).run Tryd.prog w=.ok (.bool a.isNone) w:=fun w a n c n' c'=>Lib.run_eql_slice_nil w _ _ a n c n' c' Tryd.underlying26
 have A:Aside (∀ (i:Nat) x,l[i]? = some x->w.cell? (a.add i)=some (.int .u8 x)):=hc
 clear hc
 go_enter Tryd.func63,Tryd.ntmps63
 go_wp2_with (at_builtin;refine wpList_append_own _ rfl _ _ 26 rfl w.heap.size 5 i0 (.int .u8 0) 1 1 Tryd.underlying26 hi hz0 hz1 hz2 rfl (by decide) _ _ _ rfl (World.ownsRow_made w #[] 0 (Nat.le_refl _) (Nat.zero_le _) rfl) a n c (l.map (Value.int .u8)) rfl ?qc1 ?qc2 ?qc3 ?qc4 ?qc5 ?qc6 ?_)
 case qc1=>simp;omega
 case qc2=>
  intro j u hj
  rw [List.getElem?_map] at hj
  obtain ⟨x,hx,rfl⟩:=Option.map_eq_some_iff.1 hj
  exact Lib.cell?_alloc_some _ (A.out j x hx)
 case qc3=>intro u hu;obtain ⟨x,_,rfl⟩:=List.mem_map.1 hu;rfl
 case qc4=>unfold maxLen;omega
 case qc5=>omega
 case qc6=>simp
 intro v' w1 hown hgrow hnil
 go_wp2
 go_ret
 exact ⟨v',rfl,by simpa using hown,((Below.refl _ w).alloc (Nat.le_refl _) _).grown hgrow (by simp) (by intro k hk;simp [Value.ownBlock] at hk;omega)⟩
set_option maxHeartbeats 4000000 in
theorem scl_nil (n c:Nat) (w:World):Calls Tryd.prog 63 #[.slice none n c] w fun e w'=>e=.returned (.slice none 0 0) /\ w'=w:=by
 have q22:∀ (w:World) (a:Option Addr) (n c n' c':Nat),(binOp .eql 26 (.slice a n c) (.slice none n' c')).run Tryd.prog w=.ok (.bool a.isNone) w:=fun w a n c n' c'=>Lib.run_eql_slice_nil w _ _ a n c n' c' Tryd.underlying26
 go_enter Tryd.func63,Tryd.ntmps63
 go_wp2
 go_ret
 exact ⟨rfl,rfl⟩
theorem F_slices_Clone_byte_byte_sound {T:Tab}:SoundFn Tryd.prog T 63 F_slices_Clone_byte_byte_sig ⟨F_slices_Clone_byte_byte⟩:=by
 refine sound_of rfl fun F g O xs ls y tmf w args hT hw hlim hls happ hsz hr=>?_
 obtain ⟨(l:List Int),xs',rfl,h2⟩:=appF_inv_c (ts:=[]) happ
 obtain ⟨rfl,h3⟩:=appF_inv_n h2
 have hls':some [Leaf.d (.sl (.int .u8)) l]=some ls:=hls
 injection hls' with hls'
 subst hls'
 obtain ⟨a,n,c,e0,e1,e2,e3,e4,e5,e6⟩:=rel_ints (hr 0)
 rw [args_1 hsz,e0]
 have h3:cond (Nat.ble l.length 100000000) (some l) none=some y:=h3
 cases hb:Nat.ble l.length 100000000 with
 | false=>rw [hb] at h3;cases h3
 | true=>
  rw [hb] at h3
  have hy:l=y:=by injection h3
  have hb:=Nat.le_of_ble_eq_true hb
  subst hy
  cases a with
  | none=>
   have hl:=e6 rfl
   refine (scl_nil n c w).mono ?_
   rintro e w' ⟨rfl,rfl⟩
   exact own_row (l:=l) hw hlim (Below.refl _ _) (by rw [hl];exact World.ownsRow_nil _ _ _ _) e4 rfl rfl
  | some ad=>
   refine (scl_at ad n c l w e1 (by omega) (e5 ad rfl)).mono ?_
   rintro e w' ⟨v,rfl,h1,h2⟩
   exact own_row (l:=l) hw hlim h2 (by rw [e1];exact h1) e4 rfl rfl

set_option maxHeartbeats 4000000 in
set_option maxRecDepth 1000000 in
theorem bcl_at (a:Addr) (n c:Nat) (l:List Int) (w:World) (hl:l.length=n) (hbig:n<=140737488355328) (hc:∀ (i:Nat) x,l[i]? = some x->w.cell? (a.add i)=some (.int .u8 x)) :
  Calls Tryd.prog 29 #[.slice (some a) n c] w fun e w'=>∃ v',e=.returned v' /\ w'.ownsRow w.heap.size 5 1 v' n (l.map (Value.int .u8)) /\ Below w.heap.size w w':=by
 obtain ⟨i0,hi,hz0,hz1,hz2⟩:=info_parts infoU
 have q22:∀ (w:World) (a:Option Addr) (n c n' c':Nat),(binOp .eql 26 (.slice a n c) (.slice none n' c')).run Tryd.prog w=.ok (.bool a.isNone) w:=fun w a n c n' c'=>Lib.run_eql_slice_nil w _ _ a n c n' c' Tryd.underlying26
 have A:Aside (∀ (i:Nat) x,l[i]? = some x->w.cell? (a.add i)=some (.int .u8 x)):=hc
 clear hc
 go_enter Tryd.func29,Tryd.ntmps29
 go_wp2_with (at_builtin;refine wpList_append_own _ rfl _ _ 26 rfl w.heap.size 5 i0 (.int .u8 0) 1 1 Tryd.underlying26 hi hz0 hz1 hz2 rfl (by decide) _ _ _ rfl (World.ownsRow_made w #[] 0 (Nat.le_refl _) (Nat.zero_le _) rfl) a n c (l.map (Value.int .u8)) rfl ?qc1 ?qc2 ?qc3 ?qc4 ?qc5 ?qc6 ?_)
 case qc1=>simp;omega
 case qc2=>
  intro j u hj
  rw [List.getElem?_map] at hj
  obtain ⟨x,hx,rfl⟩:=Option.map_eq_some_iff.1 hj
  exact Lib.cell?_alloc_some _ (A.out j x hx)
 case qc3=>intro u hu;obtain ⟨x,_,rfl⟩:=List.mem_map.1 hu;rfl
 case qc4=>unfold maxLen;omega
 case qc5=>omega
 case qc6=>simp
 intro v' w1 hown hgrow hnil
 go_wp2
 go_ret
 exact ⟨v',rfl,by simpa using hown,((Below.refl _ w).alloc (Nat.le_refl _) _).grown hgrow (by simp) (by intro k hk;simp [Value.ownBlock] at hk;omega)⟩
set_option maxHeartbeats 4000000 in
theorem bcl_nil (n c:Nat) (w:World):Calls Tryd.prog 29 #[.slice none n c] w fun e w'=>e=.returned (.slice none 0 0) /\ w'=w:=by
 have q22:∀ (w:World) (a:Option Addr) (n c n' c':Nat),(binOp .eql 26 (.slice a n c) (.slice none n' c')).run Tryd.prog w=.ok (.bool a.isNone) w:=fun w a n c n' c'=>Lib.run_eql_slice_nil w _ _ a n c n' c' Tryd.underlying26
 go_enter Tryd.func29,Tryd.ntmps29
 go_wp2
 go_ret
 exact ⟨rfl,rfl⟩
theorem F_bytes_Clone_sound {T:Tab}:SoundFn Tryd.prog T 29 F_bytes_Clone_sig ⟨F_bytes_Clone⟩:=by
 refine sound_of rfl fun F g O xs ls y tmf w args hT hw hlim hls happ hsz hr=>?_
 obtain ⟨(l:List Int),xs',rfl,h2⟩:=appF_inv_c (ts:=[]) happ
 obtain ⟨rfl,h3⟩:=appF_inv_n h2
 have hls':some [Leaf.d (.sl (.int .u8)) l]=some ls:=hls
 injection hls' with hls'
 subst hls'
 obtain ⟨a,n,c,e0,e1,e2,e3,e4,e5,e6⟩:=rel_ints (hr 0)
 rw [args_1 hsz,e0]
 have h3:cond (Nat.ble l.length 100000000) (some l) none=some y:=h3
 cases hb:Nat.ble l.length 100000000 with
 | false=>rw [hb] at h3;cases h3
 | true=>
  rw [hb] at h3
  have hy:l=y:=by injection h3
  have hb:=Nat.le_of_ble_eq_true hb
  subst hy
  cases a with
  | none=>
   have hl:=e6 rfl
   refine (bcl_nil n c w).mono ?_
   rintro e w' ⟨rfl,rfl⟩
   exact own_row (l:=l) hw hlim (Below.refl _ _) (by rw [hl];exact World.ownsRow_nil _ _ _ _) e4 rfl rfl
  | some ad=>
   refine (bcl_at ad n c l w e1 (by omega) (e5 ad rfl)).mono ?_
   rintro e w' ⟨v,rfl,h1,h2⟩
   exact own_row (l:=l) hw hlim h2 (by rw [e1];exact h1) e4 rfl rfl
def fieldT:Ty:=.pr .str (.pr .str .bool)
def fieldZ:Value:=.agg #[.string ⟨#[]⟩,.string ⟨#[]⟩,.bool false]
theorem infoF:(Tryd.prog.info? 109).map (fun i=>(i.zero,i.size,i.bytes))=some (some fieldZ,3,40):=by kernel_rfl
set_option maxHeartbeats 4000000 in
set_option maxRecDepth 1000000 in
theorem clf_at (a:Addr) (n c:Nat) (news:List Value) (w:World) (hl:news.length=n*3) (hbig:n<=1000000) (hc:∀ j u,news[j]? = some u->w.cell? (a.add j)=some u) (h1:∀ u∈news,u.oneCell'=true) :
  Calls Tryd.prog 58 #[.slice (some a) n c] w fun e w'=>∃ v',e=.returned v' /\ w'.ownsRow w.heap.size 109 3 v' n news /\ Below w.heap.size w w':=by
 obtain ⟨i0,hi,hz0,hz1,hz2⟩:=info_parts infoF
 have q22:∀ (w:World) (a:Option Addr) (n c n' c':Nat),(binOp .eql 89 (.slice a n c) (.slice none n' c')).run Tryd.prog w=.ok (.bool a.isNone) w:=fun w a n c n' c'=>Lib.run_eql_slice_nil w _ _ a n c n' c' Tryd.underlying89
 have A:Aside (∀ j u,news[j]? = some u->w.cell? (a.add j)=some u):=hc
 have B:Aside (∀ u∈news,u.oneCell'=true):=h1
 clear hc h1
 go_enter Tryd.func58,Tryd.ntmps58
 go_wp2_with (at_builtin;refine wpList_append_own _ rfl _ _ 89 rfl w.heap.size 109 i0 fieldZ 3 40 Tryd.underlying89 hi hz0 hz1 hz2 rfl (by decide) _ _ _ rfl (World.ownsRow_made w #[] 0 (Nat.le_refl _) (Nat.zero_le _) rfl) a n c news rfl ?qc1 ?qc2 ?qc3 ?qc4 ?qc5 ?qc6 ?_)
 case qc1=>exact hl
 case qc2=>
  intro j u hj
  exact Lib.cell?_alloc_some _ (A.out j u hj)
 case qc3=>exact B.out
 case qc4=>unfold maxLen;omega
 case qc5=>omega
 case qc6=>simp
 intro v' w1 hown hgrow hnil
 go_wp2
 go_ret
 exact ⟨v',rfl,by simpa using hown,((Below.refl _ w).alloc (Nat.le_refl _) _).grown hgrow (by simp) (by intro k hk;simp [Value.ownBlock] at hk;omega)⟩
set_option maxHeartbeats 4000000 in
theorem clf_nil (n c:Nat) (w:World):Calls Tryd.prog 58 #[.slice none n c] w fun e w'=>e=.returned (.slice none 0 0) /\ w'=w:=by
 have q22:∀ (w:World) (a:Option Addr) (n c n' c':Nat),(binOp .eql 89 (.slice a n c) (.slice none n' c')).run Tryd.prog w=.ok (.bool a.isNone) w:=fun w a n c n' c'=>Lib.run_eql_slice_nil w _ _ a n c n' c' Tryd.underlying89
 go_enter Tryd.func58,Tryd.ntmps58
 go_wp2
 go_ret
 exact ⟨rfl,rfl⟩
theorem F_slices_Clone_stat_Field_stat_Field_sound {T:Tab}:SoundFn Tryd.prog T 58 F_slices_Clone_stat_Field_stat_Field_sig ⟨F_slices_Clone_stat_Field_stat_Field⟩:=by
 refine sound_of rfl fun F g O xs ls y tmf w args hT hw hlim hls happ hsz hr=>?_
 obtain ⟨(l:List fieldT.D),xs',rfl,h2⟩:=appF_inv_c (ts:=[]) happ
 obtain ⟨rfl,h3⟩:=appF_inv_n h2
 have hls':some [Leaf.d (.sl fieldT) l]=some ls:=hls
 injection hls' with hls'
 subst hls'
 obtain ⟨a,n,c,e0,e1,e2,e3,e4⟩:=rel_leaf.1 (hr 0)
 have hrep:RepD w g.C (.sl fieldT) l [.slice a n c]:=⟨a,n,c,rfl,e1,e2,e3,e4⟩
 have e0:args.getD 0 undef=.slice a n c:=by injection e0
 rw [args_1 hsz,e0]
 have h3:cond (Nat.ble l.length 1000000) (some l) none=some y:=h3
 cases hb:Nat.ble l.length 1000000 with
 | false=>rw [hb] at h3;cases h3
 | true=>
  rw [hb] at h3
  have hy:l=y:=by injection h3
  have hb:=Nat.le_of_ble_eq_true hb
  subst hy
  cases a with
  | none=>
   have hl:l=[]:=by
    cases l with
    | nil=>rfl
    | cons x r=>
     obtain ⟨ad,us,q,_⟩:=e4 0 x rfl
     cases q
   subst hl
   refine (clf_nil n c w).mono ?_
   rintro e w' ⟨rfl,rfl⟩
   exact own_nil hlim (Below.refl _ _) rfl rfl
  | some ad=>
   obtain ⟨news,n1,n2,n3,n4⟩:=slice_cells (e:=fieldT) (by decide) hrep
   refine (clf_at ad n c news w (by rw [n1,e1];rfl) (by omega) n2 n3).mono ?_
   rintro e w' ⟨v,rfl,hrow,hbel⟩
   obtain ⟨h0,⟨rfl,hn⟩ | ⟨b,cap,cur,rfl,k2,k3,k4,k5,k6,k7⟩⟩:=hrow
   ·have hl:l=[]:=List.eq_nil_of_length_eq_zero (by omega)
    subst hl
    exact own_nil hlim hbel rfl rfl
   ·subst e1
    refine own_out (e:=fieldT) (l:=l) hw hlim hbel k2 k3 k4 k5 k6 (fun i x hx=>?_) rfl rfl
    have hin:i < l.length:=(List.getElem?_eq_some_iff.1 hx).1
    have r1:=n4 i x hx
    have r2:RepD w' ⟨fun b' o=>g.C b' o \/ (b'=b /\ o < l.length*fieldT.size),g.C.i⟩ fieldT x ((news.drop (i*fieldT.size)).take fieldT.size):=RepD.gw (C:=g.C) (C':=⟨fun b' o=>g.C b' o \/ (b'=b /\ o < l.length*fieldT.size),g.C.i⟩) ⟨fun a u hu hC=>⟨by rw [hbel.cell (cell_lt hu)];exact hu,(by show g.C.c _ _ \/ _;exact Or.inl hC)⟩,fun _ _ _ q=>q⟩ r1
    have e7:(cur.toList.drop (i*fieldT.size)).take fieldT.size=(news.drop (i*fieldT.size)).take fieldT.size:=by
     show (cur.toList.drop (i*3)).take 3=(news.drop (i*3)).take 3
     rw [<-k7,List.drop_take,List.take_take]
     congr 1
     omega
    rw [e7]
    exact r2
def growRen:Go.Shelf.Ren:=⟨fun | 4=>38 | n=>n,fun | 22=>26 | 25=>5 | n=>n,fun n=>n⟩
theorem growLays:Lays8.n4 Tryd.prog growRen:={
 mixed:=by kernel_rfl
 f4 := ⟨"slices.Grow[[]byte,byte]", by decide, Tryd.func38.trans (congrArg some (by kernel_rfl))⟩
 t0:=Tryd.underlying0
 a0:=Tryd.isAgg0
 z0:=Tryd.sizeOf0
 v0:=Tryd.zeroValue0
 t3:=Tryd.underlying3
 a3:=Tryd.isAgg3
 z3:=Tryd.sizeOf3
 v3:=Tryd.zeroValue3
 t4:=Tryd.underlying4
 a4:=Tryd.isAgg4
 z4:=Tryd.sizeOf4
 v4:=Tryd.zeroValue4
 t9:=Tryd.underlying9
 a9:=Tryd.isAgg9
 z9:=Tryd.sizeOf9
 v9:=Tryd.zeroValue9
 t20:=Tryd.underlying20
 a20:=Tryd.isAgg20
 z20:=Tryd.sizeOf20
 v20:=Tryd.zeroValue20
 t22:=Tryd.underlying26
 a22:=Tryd.isAgg26
 z22:=Tryd.sizeOf26
 v22:=Tryd.zeroValue26 }
theorem grow_nil (n:Nat) (hn:n<=1000000000) (w:World) :
  Calls Tryd.prog 38 #[.slice none 0 0,.int .i64 n] w fun e w'=>∃ v,e=.returned v /\ w'.ownsRow w.heap.size 5 1 v 0 [] /\ Below w.heap.size w w':=by
 obtain ⟨i0,hi,hz0,hz1,hz2⟩:=info_parts infoU
 by_cases h0:n=0
 ·subst h0
  refine (Any8.slices_Grow_room growLays none 0 0 0 w (Nat.le_refl _) (by omega) (by omega) (Nat.le_refl _)).mono ?_
  rintro e w' ⟨rfl,rfl⟩
  exact ⟨_,rfl,World.ownsRow_nil _ _ _ _,Below.refl _ _⟩
 ·refine (Any8.slices_Grow_grow growLays i0 (.int .u8 0) hi hz0 (by rw [hz1];decide) none 0 0 n [] w (Nat.le_refl _) (by omega) (by rw [hz2];omega) (by omega) (by simp) (fun _=>rfl) (fun a h=>by cases h)).mono ?_
  rintro e w' ⟨rfl,rfl⟩
  have hge:=grownCap_ge w (0+n) 0 5
  have hle:=grownCap_le_maxLen w (0+n) 0 5 (by unfold maxLen;omega)
  refine ⟨_,rfl,World.ownsRow_made w.drew _ _ (Nat.le_refl _) hle ?_,((Below.refl _ w).drew).alloc (Nat.le_refl _) _⟩
  have e:(Value.int .u8 0).cells.size=1:=rfl
  show (#[]++Builtin.zeroCells (Value.int .u8 0).cells (0+n - 0)++Builtin.zeroCells (Value.int .u8 0).cells (grownCap w (0+n) 0 5 - (0+n))).size=grownCap w (0+n) 0 5*1
  rw [Array.size_append,Array.size_append,size_zeroCells,size_zeroCells,e]
  simp only [List.size_toArray,List.length_nil]
  omega
def InRowQ (w:World) (a:Option Addr) (L:List (List Int)):Prop:=∀ (i:Nat) l,L[i]? = some l -> ∃ ad b n c,a=some ad /\ w.cell? (ad.add i)=some (.slice b n c) /\ l.length=n /\ (∀ bd,b=some bd -> ∀ (j:Nat) x,l[j]? = some x->w.cell? (bd.add j)=some (.int .u8 x)) /\ (b=none->l=[])
theorem take_flat {L:List (List Int)} {k:Nat} {l:List Int} (h:L[k]? = some l):(L.take (k+1)).flatten=(L.take k).flatten++l:=by
 rw [List.take_add_one,h,List.flatten_append]
 simp
theorem take_flat_le (L:List (List Int)) (k:Nat):(L.take k).flatten.length<=L.flatten.length:=by
 have:L.flatten=(L.take k).flatten++(L.drop k).flatten:=by rw [<-List.flatten_append,List.take_append_drop]
 rw [this,List.length_append];omega
theorem run_app_none {P:Program} {w:World} (base:Nat) (t ty e:TypeId) (i:TypeInfo) (size:Nat) (ht:P.underlying t=some (.slice e)) (hi:P.info? e=some i) (v:Value) (n c:Nat) (xs:List Value) (hown:w.ownsRow base e size v n xs) :
  (Builtin.append_ #[t,t] ty #[v,.slice none 0 c]).run P w=.ok v w:=by
 rcases hown.2 with ⟨rfl,rfl⟩ | ⟨g,cap,cur,rfl,_,_,hnc,_⟩
 ·simp [Builtin.append_,run_underlying ht,sizeOf,typeInfo,hi,Builtin.lenOf,Builtin.firstCells]
 ·simp [Builtin.append_,run_underlying ht,sizeOf,typeInfo,hi,Builtin.lenOf,Builtin.firstCells,hnc,storeCells]
theorem wpList_app_any {P:Program} {w:World} {ops:Array Oper} {rest:List Oper} {o:Oper} {a:Act} {Q:Exit->Act->World->Prop} (hgd:o.guard=none) (s x:Operand) (t:TypeId)
  (ho:o.op=.call { callee:=.builtin .append,args:=#[s,x],argTypes:=#[t,t] }) (base:Nat) (e:TypeId) (i:TypeInfo) (z:Value) (ht:P.underlying t=some (.slice e)) (hi:P.info? e=some i) (hz:i.zero=some z) (hsize:i.size=1) (hby:i.bytes=1) (hzs:z.cells.size=1)
  (v:Value) (n:Nat) (xs:List Value) (hs:a.eval s=v) (hown:w.ownsRow base e 1 v n xs) (b:Option Addr) (m c:Nat) (l:List Int) (hx:a.eval x=.slice b m c) (hl:l.length=m)
  (hin:∀ bd,b=some bd -> ∀ (j:Nat) y,l[j]? = some y->w.cell? (bd.add j)=some (.int .u8 y)) (hnil:b=none->l=[]) (hbytes:n+m<=1000000000) (hbase:base<=w.heap.size)
  (h:∀ v' w',w'.ownsRow base e 1 v' (n+m) (xs++l.map (Value.int .u8))->Below base w w'->wpList P ops Q rest (a.put o.dst v') w'):wpList P ops Q (o::rest) a w:=by
 cases b with
 | none=>
  have hl0:=hnil rfl
  subst hl0
  have hm:m=0:=hl.symm
  subst hm
  refine wpList_plain hgd fun K hK=>?_
  have hrun:=run_app_none (P:=P) (w:=w) base t o.type e i 1 ht hi v n c xs hown
  unfold Oper.wp
  simp [execOp,ho,resolve,invoke,builtin,hs,hx,hrun,Result.andThen]
  exact hK _ _ (h v w (by simpa using hown) (Below.refl _ _))
 | some ad=>
  refine wpList_append_own w hgd s x t ho base e i z 1 1 ht hi hz hsize hby hzs (by omega) v n xs hs hown ad m c (l.map (Value.int .u8)) hx (by rw [List.length_map,hl,Nat.mul_one]) (fun j u hj=>?_) (fun u hu=>?_) (by unfold maxLen;omega) (by omega) hbase fun v' w' h1 h2 _=>h v' w' h1 ((Below.refl _ w).grown h2 hbase fun k hk=>?_)
  ·rw [List.getElem?_map] at hj
   obtain ⟨y,hy,rfl⟩:=Option.map_eq_some_iff.1 hj
   exact hin ad rfl j y hy
  ·obtain ⟨y,_,rfl⟩:=List.mem_map.1 hu
   rfl
  ·rcases hown.2 with ⟨rfl,_⟩ | ⟨b0,cap,cur,rfl,hb0,_⟩
   ·simp [Value.ownBlock] at hk
   ·simp [Value.ownBlock] at hk
    omega
theorem InRowQ.below {w w':World} {a:Option Addr} {L:List (List Int)} (h:InRowQ w a L) (hb:Below w.heap.size w w'):InRowQ w' a L:=fun i l hl=>by
 obtain ⟨ad,b,n,c,h1,h2,h3,h4,h5⟩:=h i l hl
 have keep:∀ {p:Addr} {u:Value},w.cell? p=some u->w'.cell? p=some u:=fun {p u} hp=>by rw [hb.cell (block_lt_of_cell hp)];exact hp
 exact ⟨ad,b,n,c,h1,keep h2,h3,fun bd hbd j x hx=>keep (h4 bd hbd j x hx),h5⟩
set_option maxHeartbeats 8000000 in
set_option maxRecDepth 1000000 in
theorem cat_walk (a:Option Addr) (m c:Nat) (L:List (List Int)) (w:World) (hm:L.length=m) (hm2:m<=100000000) (hb:L.flatten.length<=100000000) (hc:Aside (InRowQ w a L)) :
  Calls Tryd.prog 31 #[.slice a m c] w fun e w'=>∃ v,e=.returned v /\ w'.ownsRow w.heap.size 5 1 v L.flatten.length (L.flatten.map (Value.int .u8)) /\ Below w.heap.size w w':=by
 obtain ⟨i0,hi,hz0,hz1,hz2⟩:=info_parts infoU
 go_enter Tryd.func31,Tryd.ntmps31
 go_wp2
 go_loopw [3,11] (fun s i wr=>wr=w /\ ∃ k:Nat,k<=m /\ i=.int .i64 k /\ s=.int .i64 ((L.take k).flatten.length:Nat)) (fun _ i _=>m - (RowKit.intOf i).toNat)
 case atStart=>exact ⟨rfl,0,Nat.zero_le _,rfl,rfl⟩
 case round=>
  obtain ⟨hwr,k,hk,rfl,rfl⟩:=hrel
  have hwr:=hwr.symm
  subst hwr
  have hle:=take_flat_le L k
  obtain ⟨s,hs⟩:∃ s,(L.take k).flatten.length=s:=⟨_,rfl⟩
  rw [hs] at hle ⊢
  by_cases hlt:k < m
  ·obtain ⟨l,hl⟩:∃ l,L[k]? = some l:=⟨L[k]'(by omega),List.getElem?_eq_getElem (by omega)⟩
   obtain ⟨ad,b,n,c',ha,hcell,hn,_⟩:=hc.out k l hl
   have hs2:(L.take (k+1)).flatten.length=s+n:=by rw [take_flat hl,List.length_append,hs,hn]
   have hle2:=take_flat_le L (k+1)
   rw [hs2] at hle2
   subst ha
   go_wp2
   go_roundw
   case rel=>exact ⟨trivial,k+1,by omega,by simp,by rw [hs2];simp⟩
   case measure=>simp [RowKit.intOf];omega
  ·have hkm:k=m:=by omega
   subst hkm
   have hall:L.take k=L:=List.take_of_length_le (by omega)
   rw [hall] at hs
   go_wp2_with (go_at_call 38;(with_reducible refine (grow_nil s (by omega) _).mono ?_);rintro e w1 ⟨v,rfl,hown,hbel⟩)
   go_loopw [6,27] (fun v i wr=>∃ j:Nat,j<=k /\ i=.int .i64 j /\ wr.ownsRow w.heap.size 5 1 v (L.take j).flatten.length ((L.take j).flatten.map (Value.int .u8)) /\ Below w.heap.size w wr) (fun _ i _=>k - (RowKit.intOf i).toNat)
   case atStart=>exact ⟨0,Nat.zero_le _,rfl,by simpa using hown,hbel⟩
   case round=>
    obtain ⟨j,hj,rfl,hown2,hbel2⟩:=hrel
    by_cases hlt2:j < k
    ·obtain ⟨l,hl⟩:∃ l,L[j]? = some l:=⟨L[j]'(by omega),List.getElem?_eq_getElem (by omega)⟩
     obtain ⟨ad,b,n,c',ha,hcell,hn,hin,hnil⟩:=hc.out j l hl
     subst ha
     have hs2:(L.take (j+1)).flatten=(L.take j).flatten++l:=take_flat hl
     have hle2:=take_flat_le L (j+1)
     rw [hs2,List.length_append,hn] at hle2
     have keep:∀ {p:Addr} {u:Value},w.cell? p=some u->wr.cell? p=some u:=fun {p u} hp=>by rw [hbel2.cell (block_lt_of_cell hp)];exact hp
     have hcell2:=keep hcell
     have B:Aside (Below w.heap.size w wr /\ wr.ownsRow w.heap.size 5 1 u6 (L.take j).flatten.length ((L.take j).flatten.map (Value.int .u8)) /\ (∀ bd,b=some bd -> ∀ (i:Nat) y,l[i]? = some y->wr.cell? (bd.add i)=some (.int .u8 y)) /\ (b=none->l=[]) /\ l.length=n /\ (L.take (j+1)).flatten=(L.take j).flatten++l /\ (L.take j).flatten.length+n<=1000000000):=⟨hbel2,hown2,fun bd hbd i y hy=>keep (hin bd hbd i y hy),hnil,hn,hs2,by omega⟩
     clear hbel2 hown2 hin hnil hs2 hle2 keep hcell hown hbel hs hall
     go_wp2_with (at_builtin;refine wpList_app_any rfl _ _ 26 rfl w.heap.size 5 i0 (.int .u8 0) Tryd.underlying26 hi hz0 hz1 hz2 rfl _ _ _ rfl B.out.2.1 b n c' l rfl B.out.2.2.2.2.1 B.out.2.2.1 B.out.2.2.2.1 B.out.2.2.2.2.2.2 B.out.1.size ?_;intro v2 w2 hown3 hbel3)
     go_roundw
     case rel=>
      refine ⟨j+1,by omega,by simp,?_,B.out.1.trans hbel3⟩
      rw [B.out.2.2.2.2.2.1,List.length_append,List.map_append,B.out.2.2.2.2.1]
      exact hown3
     case measure=>simp [RowKit.intOf];omega
    ·have hjk:j=k:=by omega
     subst hjk
     rw [hall] at hown2
     go_wp2
     go_ret
     rw [hs] at hown2 ⊢
     exact ⟨_,rfl,hown2,hbel2⟩
theorem inRow_of {w:World} {C:Com} {L:List (List Int)} {cs:List Value} (h:RepD w C (.sl (.sl (.int .u8))) L cs):∃ a m c,cs=[.slice a m c] /\ L.length=m /\ InRowQ w a L /\ ∀ l∈L,∀ x∈l,(Lit.int .u8 x).wf=true:=by
 obtain ⟨a,n,c,e0,e1,e2,e3,e4⟩:=h
 have key:∀ (i:Nat) (l:List Int),L[i]? = some l->(∃ ad b n c,a=some ad /\ w.cell? (ad.add i)=some (.slice b n c) /\ l.length=n /\ (∀ bd,b=some bd -> ∀ (j:Nat) x,l[j]? = some x->w.cell? (bd.add j)=some (.int .u8 x)) /\ (b=none->l=[])) /\ ∀ x∈l,(Lit.int .u8 x).wf=true:=fun i l hl=>by
  obtain ⟨ad,us,h1,h2,h3,h4⟩:=e4 i l hl
  obtain ⟨b,n',c',f0,f1,f2,f3,f4,f5,f6⟩:=ints_of h4
  have:=(h3 0 (.slice b n' c') (by rw [f0];rfl)).1
  rw [show (Ty.sl (Ty.int .u8)).size=1 from rfl,Nat.mul_one,Nat.add_zero] at this
  exact ⟨⟨ad,b,n',c',h1,this,f1,f5,f6⟩,f4⟩
 refine ⟨a,n,c,e0,e1,fun i l hl=>(key i l hl).1,fun l hl x hx=>?_⟩
 obtain ⟨i,hi⟩:=List.mem_iff_getElem?.1 hl
 exact (key i l hi).2 x hx
theorem F_slices_Concat_byte_byte_sound {T:Tab}:SoundFn Tryd.prog T 31 F_slices_Concat_byte_byte_sig ⟨F_slices_Concat_byte_byte⟩:=by
 refine sound_of rfl fun F g O xs ls y tmf w args hT hw hlim hls happ hsz hr=>?_
 obtain ⟨(L:List (List Int)),xs',rfl,h2⟩:=appF_inv_c (ts:=[]) happ
 obtain ⟨rfl,h3⟩:=appF_inv_n h2
 have hls':some [Leaf.d (.sl (.sl (.int .u8))) L]=some ls:=hls
 injection hls' with hls'
 subst hls'
 obtain ⟨a,m,c,e0,e1,e2,e3⟩:=inRow_of (rel_leaf.1 (hr 0))
 have e0:args.getD 0 undef=.slice a m c:=by injection e0
 rw [args_1 hsz,e0]
 have h3:cond (Nat.ble L.flatten.length 100000000&&Nat.ble L.length 100000000) (some L.flatten) none=some y:=h3
 cases hb:(Nat.ble L.flatten.length 100000000&&Nat.ble L.length 100000000) with
 | false=>rw [hb] at h3;cases h3
 | true=>
  rw [hb] at h3
  have hy:L.flatten=y:=by injection h3
  rw [Bool.and_eq_true] at hb
  have b1:=Nat.le_of_ble_eq_true hb.1
  have b2:=Nat.le_of_ble_eq_true hb.2
  subst hy
  refine (cat_walk a m c L w e1 (by omega) b1 e2).mono ?_
  rintro e w' ⟨v,rfl,h1,h2⟩
  exact own_row (l:=L.flatten) hw hlim h2 h1 (fun x hx=>by obtain ⟨l,hl,hx⟩:=List.mem_flatten.1 hx;exact e3 l hl x hx) rfl rfl
end Go.Proofs.YtifbhefbhlbofaaDoor
namespace Go.Proofs.YtifbhefbhlbofaaDoor
open Pv
theorem F_frame_New_sound {T:Tab}:SoundFn Tryd.prog T 21 F_frame_New_sig ⟨F_frame_New⟩:=by
 have h:=fn_sound (T:=T) (E:=F_frame_New_env) (by unfold Env.ok;exact fun p h=>by cases h) (A:=F_frame_New_ann) (f:=21) (fn:=Tryd.f21) (s:=F_frame_New_sig) Tryd.func21
 rw [F_frame_New_text] at h
 exact h
theorem F_sets_First_sound {T:Tab}:SoundFn Tryd.prog T 22 F_sets_First_sig ⟨F_sets_First⟩:=by
 have h:=fn_sound (T:=T) (E:=F_sets_First_env) (by unfold Env.ok;exact fun p h=>by cases h) (A:=F_sets_First_ann) (f:=22) (fn:=Tryd.f22) (s:=F_sets_First_sig) Tryd.func22
 rw [F_sets_First_text] at h
 exact h
theorem F_stat_Size_sound {T:Tab}:SoundFn Tryd.prog T 66 F_stat_Size_sig ⟨F_stat_Size⟩:=by
 have h:=fn_sound (T:=T) (E:=F_stat_Size_env) (by unfold Env.ok;exact fun p h=>by cases h) (A:=F_stat_Size_ann) (f:=66) (fn:=Tryd.f66) (s:=F_stat_Size_sig) Tryd.func66
 rw [F_stat_Size_text] at h
 exact h
theorem F_dyn_Table_shrinks_sound {T:Tab}:SoundFn Tryd.prog T 57 F_dyn_Table_shrinks_sig ⟨F_dyn_Table_shrinks⟩:=by
 have h:=fn_sound (T:=T) (E:=F_dyn_Table_shrinks_env) (by unfold Env.ok;exact List.forall_mem_cons.2 ⟨F_stat_Size_sound,fun p h=>by cases h⟩) (A:=F_dyn_Table_shrinks_ann) (f:=57) (fn:=Tryd.f57) (s:=F_dyn_Table_shrinks_sig) Tryd.func57
 rw [F_dyn_Table_shrinks_text] at h
 exact h
theorem F_dyn_Table_Limit_sound {T:Tab}:SoundFn Tryd.prog T 37 F_dyn_Table_Limit_sig ⟨F_dyn_Table_Limit⟩:=by
 have h:=fn_sound (T:=T) (E:=F_dyn_Table_Limit_env) (by unfold Env.ok;exact List.forall_mem_cons.2 ⟨F_dyn_Table_shrinks_sound,List.forall_mem_cons.2 ⟨F_slices_Clone_stat_Field_stat_Field_sound,fun p h=>by cases h⟩⟩) (A:=F_dyn_Table_Limit_ann) (f:=37) (fn:=Tryd.f37) (s:=F_dyn_Table_Limit_sig) Tryd.func37
 rw [F_dyn_Table_Limit_text] at h
 exact h
theorem F_dyn_New_sound {T:Tab}:SoundFn Tryd.prog T 30 F_dyn_New_sig ⟨F_dyn_New⟩:=by
 have h:=fn_sound (T:=T) (E:=F_dyn_New_env) (by unfold Env.ok;exact List.forall_mem_cons.2 ⟨F_dyn_Table_Limit_sound,fun p h=>by cases h⟩) (A:=F_dyn_New_ann) (f:=30) (fn:=Tryd.f30) (s:=F_dyn_New_sig) Tryd.func30
 rw [F_dyn_New_text] at h
 exact h
theorem F_unpack_New_sound {T:Tab}:SoundFn Tryd.prog T 23 F_unpack_New_sig ⟨F_unpack_New⟩:=by
 have h:=fn_sound (T:=T) (E:=F_unpack_New_env) (by unfold Env.ok;exact List.forall_mem_cons.2 ⟨F_dyn_New_sound,fun p h=>by cases h⟩) (A:=F_unpack_New_ann) (f:=23) (fn:=Tryd.f23) (s:=F_unpack_New_sig) Tryd.func23
 rw [F_unpack_New_text] at h
 exact h
theorem F_watch_New_sound {T:Tab}:SoundFn Tryd.prog T 8 F_watch_New_sig ⟨F_watch_New⟩:=by
 have h:=fn_sound (T:=T) (E:=F_watch_New_env) (by unfold Env.ok;exact List.forall_mem_cons.2 ⟨F_frame_New_sound,List.forall_mem_cons.2 ⟨F_sets_First_sound,List.forall_mem_cons.2 ⟨F_unpack_New_sound,fun p h=>by cases h⟩⟩⟩) (A:=F_watch_New_ann) (f:=8) (fn:=Tryd.f8) (s:=F_watch_New_sig) Tryd.func8
 rw [F_watch_New_text] at h
 exact h
theorem F_wlvref10_num_sound {T:Tab}:SoundFn Tryd.prog T 27 F_wlvref10_num_sig ⟨F_wlvref10_num⟩:=by
 have h:=fn_sound (T:=T) (E:=F_wlvref10_num_env) (by unfold Env.ok;exact fun p h=>by cases h) (A:=F_wlvref10_num_ann) (f:=27) (fn:=Tryd.f27) (s:=F_wlvref10_num_sig) Tryd.func27
 rw [F_wlvref10_num_text] at h
 exact h
theorem F_wlvref10_Settings_sound {T:Tab}:SoundFn Tryd.prog T 11 F_wlvref10_Settings_sig ⟨F_wlvref10_Settings⟩:=by
 have h:=fn_sound (T:=T) (E:=F_wlvref10_Settings_env) (by unfold Env.ok;exact List.forall_mem_cons.2 ⟨F_wlvref10_num_sound,fun p h=>by cases h⟩) (A:=F_wlvref10_Settings_ann) (f:=11) (fn:=Tryd.f11) (s:=F_wlvref10_Settings_sig) Tryd.func11
 rw [F_wlvref10_Settings_text] at h
 exact h
theorem F_frame_Parser_Feed_sound {T:Tab}:SoundFn Tryd.prog T 24 F_frame_Parser_Feed_sig ⟨F_frame_Parser_Feed⟩:=by
 have h:=fn_sound (T:=T) (E:=F_frame_Parser_Feed_env) (by unfold Env.ok;exact List.forall_mem_cons.2 ⟨F_slices_Concat_byte_byte_sound,fun p h=>by cases h⟩) (A:=F_frame_Parser_Feed_ann) (f:=24) (fn:=Tryd.f24) (s:=F_frame_Parser_Feed_sig) Tryd.func24
 rw [F_frame_Parser_Feed_text] at h
 exact h
theorem F_frame_Parser_Next_sound {T:Tab}:SoundFn Tryd.prog T 25 F_frame_Parser_Next_sig ⟨F_frame_Parser_Next⟩:=by
 have h:=fn_sound (T:=T) (E:=F_frame_Parser_Next_env) (by unfold Env.ok;exact List.forall_mem_cons.2 ⟨F_bytes_Clone_sound,fun p h=>by cases h⟩) (A:=F_frame_Parser_Next_ann) (f:=25) (fn:=Tryd.f25) (s:=F_frame_Parser_Next_sig) Tryd.func25
 rw [F_frame_Parser_Next_text] at h
 exact h
theorem F_part_conn_sound {T:Tab}:SoundFn Tryd.prog T 41 F_part_conn_sig ⟨F_part_conn⟩:=by
 have h:=fn_sound (T:=T) (E:=F_part_conn_env) (by unfold Env.ok;exact fun p h=>by cases h) (A:=F_part_conn_ann) (f:=41) (fn:=Tryd.f41) (s:=F_part_conn_sig) Tryd.func41
 rw [F_part_conn_text] at h
 exact h
theorem F_part_bodied_sound {T:Tab}:SoundFn Tryd.prog T 39 F_part_bodied_sig ⟨F_part_bodied⟩:=by
 have h:=fn_sound (T:=T) (E:=F_part_bodied_env) (by unfold Env.ok;exact List.forall_mem_cons.2 ⟨F_bytes_Clone_sound,List.forall_mem_cons.2 ⟨F_part_conn_sound,fun p h=>by cases h⟩⟩) (A:=F_part_bodied_ann) (f:=39) (fn:=Tryd.f39) (s:=F_part_bodied_sig) Tryd.func39
 rw [F_part_bodied_text] at h
 exact h
theorem F_part_number_sound {T:Tab}:SoundFn Tryd.prog T 45 F_part_number_sig ⟨F_part_number⟩:=by
 have h:=fn_sound (T:=T) (E:=F_part_number_env) (by unfold Env.ok;exact fun p h=>by cases h) (A:=F_part_number_ann) (f:=45) (fn:=Tryd.f45) (s:=F_part_number_sig) Tryd.func45
 rw [F_part_number_text] at h
 exact h
theorem F_part_settings_sound {T:Tab}:SoundFn Tryd.prog T 40 F_part_settings_sig ⟨F_part_settings⟩:=by
 have h:=fn_sound (T:=T) (E:=F_part_settings_env) (by unfold Env.ok;exact List.forall_mem_cons.2 ⟨F_part_conn_sound,List.forall_mem_cons.2 ⟨F_part_number_sound,fun p h=>by cases h⟩⟩) (A:=F_part_settings_ann) (f:=40) (fn:=Tryd.f40) (s:=F_part_settings_sig) Tryd.func40
 rw [F_part_settings_text] at h
 exact h
theorem F_part_whole_sound {T:Tab}:SoundFn Tryd.prog T 42 F_part_whole_sig ⟨F_part_whole⟩:=by
 have h:=fn_sound (T:=T) (E:=F_part_whole_env) (by unfold Env.ok;exact List.forall_mem_cons.2 ⟨F_bytes_Clone_sound,List.forall_mem_cons.2 ⟨F_part_conn_sound,List.forall_mem_cons.2 ⟨F_part_number_sound,fun p h=>by cases h⟩⟩⟩) (A:=F_part_whole_ann) (f:=42) (fn:=Tryd.f42) (s:=F_part_whole_sig) Tryd.func42
 rw [F_part_whole_text] at h
 exact h
theorem F_part_stream_sound {T:Tab}:SoundFn Tryd.prog T 44 F_part_stream_sig ⟨F_part_stream⟩:=by
 have h:=fn_sound (T:=T) (E:=F_part_stream_env) (by unfold Env.ok;exact fun p h=>by cases h) (A:=F_part_stream_ann) (f:=44) (fn:=Tryd.f44) (s:=F_part_stream_sig) Tryd.func44
 rw [F_part_stream_text] at h
 exact h
theorem F_part_update_sound {T:Tab}:SoundFn Tryd.prog T 43 F_part_update_sig ⟨F_part_update⟩:=by
 have h:=fn_sound (T:=T) (E:=F_part_update_env) (by unfold Env.ok;exact List.forall_mem_cons.2 ⟨F_part_conn_sound,List.forall_mem_cons.2 ⟨F_part_stream_sound,List.forall_mem_cons.2 ⟨F_part_number_sound,fun p h=>by cases h⟩⟩⟩) (A:=F_part_update_ann) (f:=43) (fn:=Tryd.f43) (s:=F_part_update_sig) Tryd.func43
 rw [F_part_update_text] at h
 exact h
theorem F_part_Read_sound {T:Tab}:SoundFn Tryd.prog T 32 F_part_Read_sig ⟨F_part_Read⟩:=by
 have h:=fn_sound (T:=T) (E:=F_part_Read_env) (by unfold Env.ok;exact List.forall_mem_cons.2 ⟨F_bytes_Clone_sound,List.forall_mem_cons.2 ⟨F_part_bodied_sound,List.forall_mem_cons.2 ⟨F_part_settings_sound,List.forall_mem_cons.2 ⟨F_part_conn_sound,List.forall_mem_cons.2 ⟨F_part_whole_sound,List.forall_mem_cons.2 ⟨F_part_update_sound,List.forall_mem_cons.2 ⟨F_part_stream_sound,List.forall_mem_cons.2 ⟨F_part_number_sound,fun p h=>by cases h⟩⟩⟩⟩⟩⟩⟩⟩) (A:=F_part_Read_ann) (f:=32) (fn:=Tryd.f32) (s:=F_part_Read_sig) Tryd.func32
 rw [F_part_Read_text] at h
 exact h
theorem F_watch_Watch_live_sound {T:Tab}:SoundFn Tryd.prog T 52 F_watch_Watch_live_sig ⟨F_watch_Watch_live⟩:=by
 have h:=fn_sound (T:=T) (E:=F_watch_Watch_live_env) (by unfold Env.ok;exact fun p h=>by cases h) (A:=F_watch_Watch_live_ann) (f:=52) (fn:=Tryd.f52) (s:=F_watch_Watch_live_sig) Tryd.func52
 rw [F_watch_Watch_live_text] at h
 exact h
theorem F_pint_ones_sound {T:Tab}:SoundFn Tryd.prog T 78 F_pint_ones_sig ⟨F_pint_ones⟩:=by
 have h:=fn_sound (T:=T) (E:=F_pint_ones_env) (by unfold Env.ok;exact fun p h=>by cases h) (A:=F_pint_ones_ann) (f:=78) (fn:=Tryd.f78) (s:=F_pint_ones_sig) Tryd.func78
 rw [F_pint_ones_text] at h
 exact h
theorem F_pint_Get_sound {T:Tab}:SoundFn Tryd.prog T 74 F_pint_Get_sig ⟨F_pint_Get⟩:=by
 have h:=fn_sound (T:=T) (E:=F_pint_Get_env) (by unfold Env.ok;exact List.forall_mem_cons.2 ⟨F_pint_ones_sound,fun p h=>by cases h⟩) (A:=F_pint_Get_ann) (f:=74) (fn:=Tryd.f74) (s:=F_pint_Get_sig) Tryd.func74
 rw [F_pint_Get_text] at h
 exact h
theorem F_unpack_block_number_sound {T:Tab}:SoundFn Tryd.prog T 69 F_unpack_block_number_sig ⟨F_unpack_block_number⟩:=by
 have h:=fn_sound (T:=T) (E:=F_unpack_block_number_env) (by unfold Env.ok;exact List.forall_mem_cons.2 ⟨F_pint_Get_sound,fun p h=>by cases h⟩) (A:=F_unpack_block_number_ann) (f:=69) (fn:=Tryd.f69) (s:=F_unpack_block_number_sig) Tryd.func69
 rw [F_unpack_block_number_text] at h
 exact h
theorem F_internal_stringslite_Cut_sound {T:Tab}:SoundFn Tryd.prog T 85 F_internal_stringslite_Cut_sig ⟨F_internal_stringslite_Cut⟩:=by
 have h:=fn_sound (T:=T) (E:=F_internal_stringslite_Cut_env) (by unfold Env.ok;exact List.forall_mem_cons.2 ⟨F_internal_stringslite_Index_sound,fun p h=>by cases h⟩) (A:=F_internal_stringslite_Cut_ann) (f:=85) (fn:=Tryd.f85) (s:=F_internal_stringslite_Cut_sig) Tryd.func85
 rw [F_internal_stringslite_Cut_text] at h
 exact h
theorem F_strings_Cut_sound {T:Tab}:SoundFn Tryd.prog T 82 F_strings_Cut_sig ⟨F_strings_Cut⟩:=by
 have h:=fn_sound (T:=T) (E:=F_strings_Cut_env) (by unfold Env.ok;exact List.forall_mem_cons.2 ⟨F_internal_stringslite_Cut_sound,fun p h=>by cases h⟩) (A:=F_strings_Cut_ann) (f:=82) (fn:=Tryd.f82) (s:=F_strings_Cut_sig) Tryd.func82
 rw [F_strings_Cut_text] at h
 exact h
theorem F_stat_split_sound {T:Tab}:SoundFn Tryd.prog T 79 F_stat_split_sig ⟨F_stat_split⟩:=by
 have h:=fn_sound (T:=T) (E:=F_stat_split_env) (by unfold Env.ok;exact List.forall_mem_cons.2 ⟨F_strings_Cut_sound,fun p h=>by cases h⟩) (A:=F_stat_split_ann) (f:=79) (fn:=Tryd.f79) (s:=F_stat_split_sig) Tryd.func79
 rw [F_stat_split_text] at h
 exact h
theorem F_stat_Get_sound {T:Tab} (h_maxlen:has_maxlen T):SoundFn Tryd.prog T 75 F_stat_Get_sig ⟨F_stat_Get⟩:=by
 have h:=fn_sound (T:=T) (E:=F_stat_Get_env) (by unfold Env.ok;exact List.forall_mem_cons.2 ⟨F_stat_split_sound,List.forall_mem_cons.2 ⟨F_strings_Split_sound h_maxlen,fun p h=>by cases h⟩⟩) (A:=F_stat_Get_ann) (f:=75) (fn:=Tryd.f75) (s:=F_stat_Get_sig) Tryd.func75
 rw [F_stat_Get_text] at h
 exact h
theorem F_dyn_Table_Get_sound {T:Tab}:SoundFn Tryd.prog T 76 F_dyn_Table_Get_sig ⟨F_dyn_Table_Get⟩:=by
 have h:=fn_sound (T:=T) (E:=F_dyn_Table_Get_env) (by unfold Env.ok;exact fun p h=>by cases h) (A:=F_dyn_Table_Get_ann) (f:=76) (fn:=Tryd.f76) (s:=F_dyn_Table_Get_sig) Tryd.func76
 rw [F_dyn_Table_Get_text] at h
 exact h
theorem F_unpack_block_at_sound {T:Tab} (h_maxlen:has_maxlen T):SoundFn Tryd.prog T 70 F_unpack_block_at_sig ⟨F_unpack_block_at⟩:=by
 have h:=fn_sound (T:=T) (E:=F_unpack_block_at_env) (by unfold Env.ok;exact List.forall_mem_cons.2 ⟨F_stat_Get_sound h_maxlen,List.forall_mem_cons.2 ⟨F_dyn_Table_Get_sound,fun p h=>by cases h⟩⟩) (A:=F_unpack_block_at_ann) (f:=70) (fn:=Tryd.f70) (s:=F_unpack_block_at_sig) Tryd.func70
 rw [F_unpack_block_at_text] at h
 exact h
theorem F_unpack_block_text_sound {T:Tab}:SoundFn Tryd.prog T 73 F_unpack_block_text_sig ⟨F_unpack_block_text⟩:=by
 have h:=fn_sound (T:=T) (E:=F_unpack_block_text_env) (by unfold Env.ok;exact List.forall_mem_cons.2 ⟨F_unpack_block_number_sound,fun p h=>by cases h⟩) (A:=F_unpack_block_text_ann) (f:=73) (fn:=Tryd.f73) (s:=F_unpack_block_text_sig) Tryd.func73
 rw [F_unpack_block_text_text] at h
 exact h
theorem F_unpack_block_literal_sound {T:Tab} (h_maxlen:has_maxlen T):SoundFn Tryd.prog T 68 F_unpack_block_literal_sig ⟨F_unpack_block_literal⟩:=by
 have h:=fn_sound (T:=T) (E:=F_unpack_block_literal_env) (by unfold Env.ok;exact List.forall_mem_cons.2 ⟨F_unpack_block_number_sound,List.forall_mem_cons.2 ⟨F_unpack_block_at_sound h_maxlen,List.forall_mem_cons.2 ⟨F_unpack_block_text_sound,fun p h=>by cases h⟩⟩⟩) (A:=F_unpack_block_literal_ann) (f:=68) (fn:=Tryd.f68) (s:=F_unpack_block_literal_sig) Tryd.func68
 rw [F_unpack_block_literal_text] at h
 exact h
theorem F_dyn_Table_Add_sound {T:Tab}:SoundFn Tryd.prog T 71 F_dyn_Table_Add_sig ⟨F_dyn_Table_Add⟩:=by
 have h:=fn_sound (T:=T) (E:=F_dyn_Table_Add_env) (by unfold Env.ok;exact List.forall_mem_cons.2 ⟨F_dyn_Table_shrinks_sound,List.forall_mem_cons.2 ⟨F_stat_Size_sound,fun p h=>by cases h⟩⟩) (A:=F_dyn_Table_Add_ann) (f:=71) (fn:=Tryd.f71) (s:=F_dyn_Table_Add_sig) Tryd.func71
 rw [F_dyn_Table_Add_text] at h
 exact h
theorem F_unpack_block_keep_sound {T:Tab}:SoundFn Tryd.prog T 72 F_unpack_block_keep_sig ⟨F_unpack_block_keep⟩:=by
 have h:=fn_sound (T:=T) (E:=F_unpack_block_keep_env) (by unfold Env.ok;exact List.forall_mem_cons.2 ⟨F_stat_Size_sound,fun p h=>by cases h⟩) (A:=F_unpack_block_keep_ann) (f:=72) (fn:=Tryd.f72) (s:=F_unpack_block_keep_sig) Tryd.func72
 rw [F_unpack_block_keep_text] at h
 exact h
theorem F_unpack_block_read_sound {T:Tab} (h_maxlen:has_maxlen T):SoundFn Tryd.prog T 64 F_unpack_block_read_sig ⟨F_unpack_block_read⟩:=by
 have h:=fn_sound (T:=T) (E:=F_unpack_block_read_env) (by unfold Env.ok;exact List.forall_mem_cons.2 ⟨F_dyn_Table_Limit_sound,List.forall_mem_cons.2 ⟨F_unpack_block_literal_sound h_maxlen,List.forall_mem_cons.2 ⟨F_unpack_block_number_sound,List.forall_mem_cons.2 ⟨F_unpack_block_at_sound h_maxlen,List.forall_mem_cons.2 ⟨F_dyn_Table_Add_sound,List.forall_mem_cons.2 ⟨F_unpack_block_keep_sound,fun p h=>by cases h⟩⟩⟩⟩⟩⟩) (A:=F_unpack_block_read_ann) (f:=64) (fn:=Tryd.f64) (s:=F_unpack_block_read_sig) Tryd.func64
 rw [F_unpack_block_read_text] at h
 exact h
theorem F_unpack_Dec_Decode_sound {T:Tab} (h_maxlen:has_maxlen T):SoundFn Tryd.prog T 53 F_unpack_Dec_Decode_sig ⟨F_unpack_Dec_Decode⟩:=by
 have h:=fn_sound (T:=T) (E:=F_unpack_Dec_Decode_env) (by unfold Env.ok;exact List.forall_mem_cons.2 ⟨F_slices_Clone_byte_byte_sound,List.forall_mem_cons.2 ⟨F_unpack_block_read_sound h_maxlen,fun p h=>by cases h⟩⟩) (A:=F_unpack_Dec_Decode_ann) (f:=53) (fn:=Tryd.f53) (s:=F_unpack_Dec_Decode_sig) Tryd.func53
 rw [F_unpack_Dec_Decode_text] at h
 exact h
theorem F_unpack_Dec_Table_sound {T:Tab}:SoundFn Tryd.prog T 54 F_unpack_Dec_Table_sig ⟨F_unpack_Dec_Table⟩:=by
 have h:=fn_sound (T:=T) (E:=F_unpack_Dec_Table_env) (by unfold Env.ok;exact fun p h=>by cases h) (A:=F_unpack_Dec_Table_ann) (f:=54) (fn:=Tryd.f54) (s:=F_unpack_Dec_Table_sig) Tryd.func54
 rw [F_unpack_Dec_Table_text] at h
 exact h
theorem F_dyn_Table_Most_sound {T:Tab}:SoundFn Tryd.prog T 55 F_dyn_Table_Most_sig ⟨F_dyn_Table_Most⟩:=by
 have h:=fn_sound (T:=T) (E:=F_dyn_Table_Most_env) (by unfold Env.ok;exact fun p h=>by cases h) (A:=F_dyn_Table_Most_ann) (f:=55) (fn:=Tryd.f55) (s:=F_dyn_Table_Most_sig) Tryd.func55
 rw [F_dyn_Table_Most_text] at h
 exact h
theorem F_watch_Watch_answers_sound {T:Tab} (h_maxlen:has_maxlen T):SoundFn Tryd.prog T 35 F_watch_Watch_answers_sig ⟨F_watch_Watch_answers⟩:=by
 have h:=fn_sound (T:=T) (E:=F_watch_Watch_answers_env) (by unfold Env.ok;exact List.forall_mem_cons.2 ⟨F_watch_Watch_live_sound,List.forall_mem_cons.2 ⟨F_unpack_Dec_Decode_sound h_maxlen,List.forall_mem_cons.2 ⟨F_unpack_Dec_Table_sound,List.forall_mem_cons.2 ⟨F_dyn_Table_Most_sound,fun p h=>by cases h⟩⟩⟩⟩) (A:=F_watch_Watch_answers_ann) (f:=35) (fn:=Tryd.f35) (s:=F_watch_Watch_answers_sig) Tryd.func35
 rw [F_watch_Watch_answers_text] at h
 exact h
theorem F_flow_cut_sound {T:Tab}:SoundFn Tryd.prog T 61 F_flow_cut_sig ⟨F_flow_cut⟩:=by
 have h:=fn_sound (T:=T) (E:=F_flow_cut_env) (by unfold Env.ok;exact fun p h=>by cases h) (A:=F_flow_cut_ann) (f:=61) (fn:=Tryd.f61) (s:=F_flow_cut_sig) Tryd.func61
 rw [F_flow_cut_text] at h
 exact h
theorem F_flow_Windows_sound {T:Tab}:SoundFn Tryd.prog T 47 F_flow_Windows_sig ⟨F_flow_Windows⟩:=by
 have h:=fn_sound (T:=T) (E:=F_flow_Windows_env) (by unfold Env.ok;exact List.forall_mem_cons.2 ⟨F_flow_cut_sound,fun p h=>by cases h⟩) (A:=F_flow_Windows_ann) (f:=47) (fn:=Tryd.f47) (s:=F_flow_Windows_sig) Tryd.func47
 rw [F_flow_Windows_text] at h
 exact h
theorem F_flow_part_sound {T:Tab}:SoundFn Tryd.prog T 67 F_flow_part_sig ⟨F_flow_part⟩:=by
 have h:=fn_sound (T:=T) (E:=F_flow_part_env) (by unfold Env.ok;exact fun p h=>by cases h) (A:=F_flow_part_ann) (f:=67) (fn:=Tryd.f67) (s:=F_flow_part_sig) Tryd.func67
 rw [F_flow_part_text] at h
 exact h
theorem F_flow_parts_sound {T:Tab}:SoundFn Tryd.prog T 59 F_flow_parts_sig ⟨F_flow_parts⟩:=by
 have h:=fn_sound (T:=T) (E:=F_flow_parts_env) (by unfold Env.ok;exact List.forall_mem_cons.2 ⟨F_flow_part_sound,fun p h=>by cases h⟩) (A:=F_flow_parts_ann) (f:=59) (fn:=Tryd.f59) (s:=F_flow_parts_sig) Tryd.func59
 rw [F_flow_parts_text] at h
 exact h
theorem F_flow_Conn_sound {T:Tab}:SoundFn Tryd.prog T 48 F_flow_Conn_sig ⟨F_flow_Conn⟩:=by
 have h:=fn_sound (T:=T) (E:=F_flow_Conn_env) (by unfold Env.ok;exact List.forall_mem_cons.2 ⟨F_flow_parts_sound,fun p h=>by cases h⟩) (A:=F_flow_Conn_ann) (f:=48) (fn:=Tryd.f48) (s:=F_flow_Conn_sig) Tryd.func48
 rw [F_flow_Conn_text] at h
 exact h
theorem F_flow_Stream_sound {T:Tab}:SoundFn Tryd.prog T 49 F_flow_Stream_sig ⟨F_flow_Stream⟩:=by
 have h:=fn_sound (T:=T) (E:=F_flow_Stream_env) (by unfold Env.ok;exact List.forall_mem_cons.2 ⟨F_flow_parts_sound,fun p h=>by cases h⟩) (A:=F_flow_Stream_ann) (f:=49) (fn:=Tryd.f49) (s:=F_flow_Stream_sig) Tryd.func49
 rw [F_flow_Stream_text] at h
 exact h
theorem F_flow_May_sound {T:Tab}:SoundFn Tryd.prog T 65 F_flow_May_sig ⟨F_flow_May⟩:=by
 have h:=fn_sound (T:=T) (E:=F_flow_May_env) (by unfold Env.ok;exact List.forall_mem_cons.2 ⟨F_flow_Conn_sound,List.forall_mem_cons.2 ⟨F_flow_Stream_sound,fun p h=>by cases h⟩⟩) (A:=F_flow_May_ann) (f:=65) (fn:=Tryd.f65) (s:=F_flow_May_sig) Tryd.func65
 rw [F_flow_May_text] at h
 exact h
theorem F_flow_Spend_sound {T:Tab}:SoundFn Tryd.prog T 56 F_flow_Spend_sig ⟨F_flow_Spend⟩:=by
 have h:=fn_sound (T:=T) (E:=F_flow_Spend_env) (by unfold Env.ok;exact List.forall_mem_cons.2 ⟨F_flow_parts_sound,List.forall_mem_cons.2 ⟨F_flow_May_sound,fun p h=>by cases h⟩⟩) (A:=F_flow_Spend_ann) (f:=56) (fn:=Tryd.f56) (s:=F_flow_Spend_sig) Tryd.func56
 rw [F_flow_Spend_text] at h
 exact h
theorem F_watch_Watch_sends_sound {T:Tab}:SoundFn Tryd.prog T 36 F_watch_Watch_sends_sig ⟨F_watch_Watch_sends⟩:=by
 have h:=fn_sound (T:=T) (E:=F_watch_Watch_sends_env) (by unfold Env.ok;exact List.forall_mem_cons.2 ⟨F_flow_Windows_sound,List.forall_mem_cons.2 ⟨F_flow_Conn_sound,List.forall_mem_cons.2 ⟨F_flow_Stream_sound,List.forall_mem_cons.2 ⟨F_watch_Watch_live_sound,List.forall_mem_cons.2 ⟨F_flow_Spend_sound,fun p h=>by cases h⟩⟩⟩⟩⟩) (A:=F_watch_Watch_sends_ann) (f:=36) (fn:=Tryd.f36) (s:=F_watch_Watch_sends_sig) Tryd.func36
 rw [F_watch_Watch_sends_text] at h
 exact h
theorem F_watch_Watch_right_sound {T:Tab} (h_maxlen:has_maxlen T):SoundFn Tryd.prog T 28 F_watch_Watch_right_sig ⟨F_watch_Watch_right⟩:=by
 have h:=fn_sound (T:=T) (E:=F_watch_Watch_right_env) (by unfold Env.ok;exact List.forall_mem_cons.2 ⟨F_part_Read_sound,List.forall_mem_cons.2 ⟨F_watch_Watch_answers_sound h_maxlen,List.forall_mem_cons.2 ⟨F_watch_Watch_sends_sound,fun p h=>by cases h⟩⟩⟩) (A:=F_watch_Watch_right_ann) (f:=28) (fn:=Tryd.f28) (s:=F_watch_Watch_right_sig) Tryd.func28
 rw [F_watch_Watch_right_text] at h
 exact h
theorem F_watch_Watch_Out_sound {T:Tab} (h_maxlen:has_maxlen T):SoundFn Tryd.prog T 12 F_watch_Watch_Out_sig ⟨F_watch_Watch_Out⟩:=by
 have h:=fn_sound (T:=T) (E:=F_watch_Watch_Out_env) (by unfold Env.ok;exact List.forall_mem_cons.2 ⟨F_frame_Parser_Feed_sound,List.forall_mem_cons.2 ⟨F_frame_Parser_Next_sound,List.forall_mem_cons.2 ⟨F_watch_Watch_right_sound h_maxlen,fun p h=>by cases h⟩⟩⟩) (A:=F_watch_Watch_Out_ann) (f:=12) (fn:=Tryd.f12) (s:=F_watch_Watch_Out_sig) Tryd.func12
 rw [F_watch_Watch_Out_text] at h
 exact h
theorem F_watch_Watch_Frames_sound {T:Tab}:SoundFn Tryd.prog T 13 F_watch_Watch_Frames_sig ⟨F_watch_Watch_Frames⟩:=by
 have h:=fn_sound (T:=T) (E:=F_watch_Watch_Frames_env) (by unfold Env.ok;exact fun p h=>by cases h) (A:=F_watch_Watch_Frames_ann) (f:=13) (fn:=Tryd.f13) (s:=F_watch_Watch_Frames_sig) Tryd.func13
 rw [F_watch_Watch_Frames_text] at h
 exact h
theorem F_wlvref10_Put_sound {T:Tab}:SoundFn Tryd.prog T 20 F_wlvref10_Put_sig ⟨F_wlvref10_Put⟩:=by
 have h:=fn_sound (T:=T) (E:=F_wlvref10_Put_env) (by unfold Env.ok;exact List.forall_mem_cons.2 ⟨F_wlvref10_num_sound,fun p h=>by cases h⟩) (A:=F_wlvref10_Put_ann) (f:=20) (fn:=Tryd.f20) (s:=F_wlvref10_Put_sig) Tryd.func20
 rw [F_wlvref10_Put_text] at h
 exact h
theorem F_wlvlaw27_first_sound {T:Tab} (h_maxlen:has_maxlen T):SoundFn Tryd.prog T 7 F_wlvlaw27_first_sig ⟨F_wlvlaw27_first⟩:=by
 have h:=fn_sound (T:=T) (E:=F_wlvlaw27_first_env) (by unfold Env.ok;exact List.forall_mem_cons.2 ⟨F_watch_New_sound,List.forall_mem_cons.2 ⟨F_wlvref10_Settings_sound,List.forall_mem_cons.2 ⟨F_watch_Watch_Out_sound h_maxlen,List.forall_mem_cons.2 ⟨F_watch_Watch_Frames_sound,List.forall_mem_cons.2 ⟨F_wlvref10_Put_sound,fun p h=>by cases h⟩⟩⟩⟩⟩) (A:=F_wlvlaw27_first_ann) (f:=7) (fn:=Tryd.f7) (s:=F_wlvlaw27_first_sig) Tryd.func7
 rw [F_wlvlaw27_first_text] at h
 exact h
theorem F_flow_fault_sound {T:Tab}:SoundFn Tryd.prog T 60 F_flow_fault_sig ⟨F_flow_fault⟩:=by
 have h:=fn_sound (T:=T) (E:=F_flow_fault_env) (by unfold Env.ok;exact fun p h=>by cases h) (A:=F_flow_fault_ann) (f:=60) (fn:=Tryd.f60) (s:=F_flow_fault_sig) Tryd.func60
 rw [F_flow_fault_text] at h
 exact h
theorem F_flow_Grant_sound {T:Tab}:SoundFn Tryd.prog T 46 F_flow_Grant_sig ⟨F_flow_Grant⟩:=by
 have h:=fn_sound (T:=T) (E:=F_flow_Grant_env) (by unfold Env.ok;exact List.forall_mem_cons.2 ⟨F_flow_parts_sound,List.forall_mem_cons.2 ⟨F_flow_fault_sound,fun p h=>by cases h⟩⟩) (A:=F_flow_Grant_ann) (f:=46) (fn:=Tryd.f46) (s:=F_flow_Grant_sig) Tryd.func46
 rw [F_flow_Grant_text] at h
 exact h
theorem F_watch_Watch_granted_sound {T:Tab}:SoundFn Tryd.prog T 33 F_watch_Watch_granted_sig ⟨F_watch_Watch_granted⟩:=by
 have h:=fn_sound (T:=T) (E:=F_watch_Watch_granted_env) (by unfold Env.ok;exact List.forall_mem_cons.2 ⟨F_flow_Grant_sound,List.forall_mem_cons.2 ⟨F_flow_Windows_sound,List.forall_mem_cons.2 ⟨F_flow_Conn_sound,List.forall_mem_cons.2 ⟨F_flow_Stream_sound,fun p h=>by cases h⟩⟩⟩⟩) (A:=F_watch_Watch_granted_ann) (f:=33) (fn:=Tryd.f33) (s:=F_watch_Watch_granted_sig) Tryd.func33
 rw [F_watch_Watch_granted_text] at h
 exact h
theorem F_watch_Watch_hears_sound {T:Tab}:SoundFn Tryd.prog T 26 F_watch_Watch_hears_sig ⟨F_watch_Watch_hears⟩:=by
 have h:=fn_sound (T:=T) (E:=F_watch_Watch_hears_env) (by unfold Env.ok;exact List.forall_mem_cons.2 ⟨F_part_Read_sound,List.forall_mem_cons.2 ⟨F_watch_Watch_granted_sound,fun p h=>by cases h⟩⟩) (A:=F_watch_Watch_hears_ann) (f:=26) (fn:=Tryd.f26) (s:=F_watch_Watch_hears_sig) Tryd.func26
 rw [F_watch_Watch_hears_text] at h
 exact h
theorem F_watch_Watch_In_sound {T:Tab}:SoundFn Tryd.prog T 9 F_watch_Watch_In_sig ⟨F_watch_Watch_In⟩:=by
 have h:=fn_sound (T:=T) (E:=F_watch_Watch_In_env) (by unfold Env.ok;exact List.forall_mem_cons.2 ⟨F_frame_Parser_Feed_sound,List.forall_mem_cons.2 ⟨F_frame_Parser_Next_sound,List.forall_mem_cons.2 ⟨F_watch_Watch_hears_sound,fun p h=>by cases h⟩⟩⟩) (A:=F_watch_Watch_In_ann) (f:=9) (fn:=Tryd.f9) (s:=F_watch_Watch_In_sig) Tryd.func9
 rw [F_watch_Watch_In_text] at h
 exact h
theorem F_wlvlaw27_frames_sound {T:Tab}:SoundFn Tryd.prog T 10 F_wlvlaw27_frames_sig ⟨F_wlvlaw27_frames⟩:=by
 have h:=fn_sound (T:=T) (E:=F_wlvlaw27_frames_env) (by unfold Env.ok;exact List.forall_mem_cons.2 ⟨F_wlvref10_Put_sound,fun p h=>by cases h⟩) (A:=F_wlvlaw27_frames_ann) (f:=10) (fn:=Tryd.f10) (s:=F_wlvlaw27_frames_sig) Tryd.func10
 rw [F_wlvlaw27_frames_text] at h
 exact h
theorem F_wlvref10_Rst_sound {T:Tab}:SoundFn Tryd.prog T 15 F_wlvref10_Rst_sig ⟨F_wlvref10_Rst⟩:=by
 have h:=fn_sound (T:=T) (E:=F_wlvref10_Rst_env) (by unfold Env.ok;exact List.forall_mem_cons.2 ⟨F_wlvref10_num_sound,fun p h=>by cases h⟩) (A:=F_wlvref10_Rst_ann) (f:=15) (fn:=Tryd.f15) (s:=F_wlvref10_Rst_sig) Tryd.func15
 rw [F_wlvref10_Rst_text] at h
 exact h
theorem F_wlvref10_Update_sound {T:Tab}:SoundFn Tryd.prog T 16 F_wlvref10_Update_sig ⟨F_wlvref10_Update⟩:=by
 have h:=fn_sound (T:=T) (E:=F_wlvref10_Update_env) (by unfold Env.ok;exact List.forall_mem_cons.2 ⟨F_wlvref10_num_sound,fun p h=>by cases h⟩) (A:=F_wlvref10_Update_ann) (f:=16) (fn:=Tryd.f16) (s:=F_wlvref10_Update_sig) Tryd.func16
 rw [F_wlvref10_Update_text] at h
 exact h
theorem F_watch_Watch_Sent_sound {T:Tab}:SoundFn Tryd.prog T 19 F_watch_Watch_Sent_sig ⟨F_watch_Watch_Sent⟩:=by
 have h:=fn_sound (T:=T) (E:=F_watch_Watch_Sent_env) (by unfold Env.ok;exact List.forall_mem_cons.2 ⟨F_bytes_Clone_sound,fun p h=>by cases h⟩) (A:=F_watch_Watch_Sent_ann) (f:=19) (fn:=Tryd.f19) (s:=F_watch_Watch_Sent_sig) Tryd.func19
 rw [F_watch_Watch_Sent_text] at h
 exact h
theorem F_wlvlaw27_WatchRight_sound {T:Tab} (h_maxlen:has_maxlen T):SoundFn Tryd.prog T 6 F_wlvlaw27_WatchRight_sig ⟨F_wlvlaw27_WatchRight⟩:=by
 have h:=fn_sound (T:=T) (E:=F_wlvlaw27_WatchRight_env) (by unfold Env.ok;exact List.forall_mem_cons.2 ⟨F_wlvlaw27_first_sound h_maxlen,List.forall_mem_cons.2 ⟨F_watch_New_sound,List.forall_mem_cons.2 ⟨F_watch_Watch_In_sound,List.forall_mem_cons.2 ⟨F_wlvlaw27_frames_sound,List.forall_mem_cons.2 ⟨F_wlvref10_Settings_sound,List.forall_mem_cons.2 ⟨F_watch_Watch_Out_sound h_maxlen,List.forall_mem_cons.2 ⟨F_watch_Watch_Frames_sound,List.forall_mem_cons.2 ⟨F_wlvref10_Rst_sound,List.forall_mem_cons.2 ⟨F_wlvref10_Update_sound,List.forall_mem_cons.2 ⟨F_watch_Watch_Sent_sound,fun p h=>by cases h⟩⟩⟩⟩⟩⟩⟩⟩⟩⟩) (A:=F_wlvlaw27_WatchRight_ann) (f:=6) (fn:=Tryd.f6) (s:=F_wlvlaw27_WatchRight_sig) Tryd.func6
 rw [F_wlvlaw27_WatchRight_text] at h
 exact h
end Go.Proofs.YtifbhefbhlbofaaDoor
namespace Go.Proofs.YtifbhefbhlbofaaDoor
namespace Pv
set_option linter.unusedVariables false
section
variable {S R T : Type} {body : S -> Option (R ⊕ S)} {s s' : S} {r r' : R}
theorem iter_uniq:∀ {n m:Nat} {s:S},iterC body n s=some r->iterC body m s=some r'->r=r'
 | 0,_,_,h,_=>by cases h
 | _+1,0,_,_,h=>by cases h
 | n+1,m+1,s,h,k=>by
  unfold iterC at h k
  split at h
  ·cases h
  ·rename_i x hx
   rw [hx] at k
   injection h with h;injection k with k
   exact h.symm.trans k
  ·rename_i x hx
   rw [hx] at k
   exact iter_uniq h k
theorem loop_of_iter {n:Nat} (h:iterC body n s=some r):loopC body s=some r:=by
 unfold loopC
 have hex:∃ r n,iterC body n s=some r:=⟨r,n,h⟩
 rw [dif_pos hex]
 obtain ⟨m,hm⟩:=hex.choose_spec
 rw [iter_uniq hm h]
theorem iter_of_loop' (h:loopC body s=some r):∃ n,iterC body n s=some r:=by
 unfold loopC at h
 split at h
 ·rename_i hex
  injection h with h
  obtain ⟨n,hn⟩:=hex.choose_spec
  exact ⟨n,by rw [hn,h]⟩
 ·cases h
theorem loop_inl (h:body s=some (.inl r)):loopC body s=some r:=loop_of_iter (n:=1) (by unfold iterC;rw [h])
theorem loop_inr (h:body s=some (.inr s')) (k:loopC body s'=some r):loopC body s=some r:=by
 obtain ⟨n,hn⟩:=iter_of_loop' k
 exact loop_of_iter (n:=n+1) (by unfold iterC;rw [h];exact hn)
theorem join_inl {A:Option (R⊕S)} {B:S->Option R} (h:A=some (.inl r)):joinC A B=some r:=by rw [h];rfl
theorem join_inr {A:Option (R⊕S)} {B:S->Option R} (h:A=some (.inr s)):joinC A B=B s:=by rw [h];rfl
end
end Pv
end Go.Proofs.YtifbhefbhlbofaaDoor
namespace Go.Proofs.YtifbhefbhlbofaaDoor
open Pv
set_option linter.unusedVariables false
theorem wB64 {x:Int} (h0 : -4611686018427387904<=x) (h1:x<=4611686018427387904):IntKind.i64.wrap x=x:=by
 show (if (true&&decide (x % 18446744073709551616 >= 9223372036854775808))=true then x % 18446744073709551616 - 18446744073709551616 else x % 18446744073709551616)=x
 simp only [Bool.true_and,decide_eq_true_eq]
 split <;> omega
theorem e40:(2:Int) ^ 40=1099511627776:=by decide
theorem w40:∀ n:Int,0<=n->n < 2 ^ 40->IntKind.i64.wrap n=n:=fun n h0 h1=>wB64 (by omega) (by rw [e40] at h1;omega)
theorem or8 {x y:Int} (hx:0<=x) (hx1:x < 1099511627776) (hm:x % 256=0) (hy:0<=y) (hy1:y < 256):bits .or .i64 x y=x+y:=
 bits_join .i64 40 (by decide) w40 8 x y hx hm (by rw [e40];exact hx1) hy hy1 (by rw [e40];omega)
theorem or16 {x y:Int} (hx:0<=x) (hx1:x < 1099511627776) (hm:x % 65536=0) (hy:0<=y) (hy1:y < 65536):bits .or .i64 x y=x+y:=
 bits_join .i64 40 (by decide) w40 16 x y hx hm (by rw [e40];exact hx1) hy hy1 (by rw [e40];omega)
theorem or24 {x y:Int} (hx:0<=x) (hx1:x < 1099511627776) (hm:x % 16777216=0) (hy:0<=y) (hy1:y < 16777216):bits .or .i64 x y=x+y:=
 bits_join .i64 40 (by decide) w40 24 x y hx hm (by rw [e40];exact hx1) hy hy1 (by rw [e40];omega)
theorem and31 {x:Int} (hx:0<=x) (hx1:x < 1099511627776):bits .and .i64 x 2147483647=x % 2147483648:=bits_mask .i64 40 (by decide) w40 31 (by decide) x hx (by rw [e40];exact hx1)
theorem num3 {a b c:Int} (ha:0<=a /\ a < 256) (hb:0<=b /\ b < 256) (hc:0<=c /\ c < 256) :
  bits .or .i64 (bits .or .i64 (IntKind.i64.wrap ((IntKind.i64.wrap a)*2 ^ 16)) (IntKind.i64.wrap ((IntKind.i64.wrap b)*2 ^ 8))) (IntKind.i64.wrap c)=a*65536+b*256+c:=by
 have e16:(2:Int) ^ 16=65536:=by decide
 have e8:(2:Int) ^ 8=256:=by decide
 rw [e16,e8,wB64 (x:=a) (by omega) (by omega),wB64 (x:=b) (by omega) (by omega),wB64 (x:=c) (by omega) (by omega),wB64 (x:=a*65536) (by omega) (by omega),wB64 (x:=b*256) (by omega) (by omega),
  or16 (x:=a*65536) (y:=b*256) (by omega) (by omega) (by omega) (by omega) (by omega),or8 (by omega) (by omega) (by omega) (by omega) (by omega)]
theorem num4 {a b c d:Int} (ha:0<=a /\ a < 256) (hb:0<=b /\ b < 256) (hc:0<=c /\ c < 256) (hd:0<=d /\ d < 256) :
  bits .or .i64 (bits .or .i64 (bits .or .i64 (IntKind.i64.wrap ((IntKind.i64.wrap a)*2 ^ 24)) (IntKind.i64.wrap ((IntKind.i64.wrap b)*2 ^ 16))) (IntKind.i64.wrap ((IntKind.i64.wrap c)*2 ^ 8))) (IntKind.i64.wrap d)=a*16777216+b*65536+c*256+d:=by
 have e24:(2:Int) ^ 24=16777216:=by decide
 have e16:(2:Int) ^ 16=65536:=by decide
 have e8:(2:Int) ^ 8=256:=by decide
 rw [e24,e16,e8,wB64 (x:=a) (by omega) (by omega),wB64 (x:=b) (by omega) (by omega),wB64 (x:=c) (by omega) (by omega),wB64 (x:=d) (by omega) (by omega),wB64 (x:=a*16777216) (by omega) (by omega),wB64 (x:=b*65536) (by omega) (by omega),wB64 (x:=c*256) (by omega) (by omega),
  or24 (x:=a*16777216) (y:=b*65536) (by omega) (by omega) (by omega) (by omega) (by omega),or16 (y:=c*256) (by omega) (by omega) (by omega) (by omega) (by omega),or8 (by omega) (by omega) (by omega) (by omega) (by omega)]
def hd9 (n k fl s:Int):List Int:=[n / 65536,n / 256 % 256,n % 256,k,fl,s / 16777216,s / 65536 % 256,s / 256 % 256,s % 256]
def fb (k fl s:Int) (body:List Int):List Int:=hd9 (body.length:Int) k fl s++body
theorem fb_len (k fl s:Int) (body:List Int):(fb k fl s body).length=9+body.length:=by
 unfold fb
 rw [List.length_append];rfl
def okFb (k fl s:Int) (body:List Int):Prop:=(0<=k /\ k < 256) /\ (0<=fl /\ fl < 256) /\ (0<=s /\ s<=2147483647) /\ body.length<=16384
theorem cutI_mid {α:Type} (a b c:List α) {m n:Int} (hm:m=(a.length:Int)) (hn:n=((a.length+b.length:Nat):Int)):cutI (a++b++c) m n=some b:=by
 subst hm;subst hn
 unfold cutI
 rw [decide_eq_true (by omega),decide_eq_true (by omega),decide_eq_true (by simp only [List.length_append];omega)]
 simp only [Bool.and_self,cond_true]
 rw [Int.toNat_natCast,Int.toNat_natCast,show a.length+b.length=(a++b).length by rw [List.length_append],List.take_left,List.drop_left]
theorem cutI_end {α:Type} (a b:List α) {m n:Int} (hm:m=(a.length:Int)) (hn:n=((a++b).length:Int)):cutI (a++b) m n=some b:=by
 have:=cutI_mid a b [] (m:=m) (n:=n) hm (by rw [hn,List.length_append])
 rwa [List.append_nil] at this
variable {p : Int} {Ps : List (Int × List Int)}
theorem next_fb {k fl s:Int} {body rest:List Int} (hp:nnI p=true) (hok:okFb k fl s body) (hg:getI Ps p=some (16384,fb k fl s body++rest)) (hr:rest.length<=1000000000) :
  F_frame_Parser_Next p Ps=some (k,fl,s,body,0,Ps.set p.toNat (16384,rest)):=by
 obtain ⟨hk,hfl,hs,hb⟩:=hok
 obtain ⟨n,hn⟩:∃ n:Int,(body.length:Int)=n:=⟨_,rfl⟩
 have hn0:0<=n /\ n<=16384:=by omega
 have hX:fb k fl s body++rest=hd9 n k fl s++body++rest:=by unfold fb;rw [hn]
 have hlen:((fb k fl s body++rest).length:Int)=9+n+(rest.length:Int):=by rw [List.length_append,fb_len];omega
 have g0:getI (fb k fl s body++rest) 0=some (n / 65536):=by rw [hX];rfl
 have g1:getI (fb k fl s body++rest) 1=some (n / 256 % 256):=by rw [hX];rfl
 have g2:getI (fb k fl s body++rest) 2=some (n % 256):=by rw [hX];rfl
 have g3:getI (fb k fl s body++rest) 3=some k:=by rw [hX];rfl
 have g4:getI (fb k fl s body++rest) 4=some fl:=by rw [hX];rfl
 have g5:getI (fb k fl s body++rest) 5=some (s / 16777216):=by rw [hX];rfl
 have g6:getI (fb k fl s body++rest) 6=some (s / 65536 % 256):=by rw [hX];rfl
 have g7:getI (fb k fl s body++rest) 7=some (s / 256 % 256):=by rw [hX];rfl
 have g8:getI (fb k fl s body++rest) 8=some (s % 256):=by rw [hX];rfl
 have h3:bits .or .i64 (bits .or .i64 (IntKind.i64.wrap ((IntKind.i64.wrap (n / 65536))*2 ^ 16)) (IntKind.i64.wrap ((IntKind.i64.wrap (n / 256 % 256))*2 ^ 8))) (IntKind.i64.wrap (n % 256))=n:=by
  rw [num3 (by omega) (by omega) (by omega)];omega
 have h4:bits .and .i64 (bits .or .i64 (bits .or .i64 (bits .or .i64 (IntKind.i64.wrap ((IntKind.i64.wrap (s / 16777216))*2 ^ 24)) (IntKind.i64.wrap ((IntKind.i64.wrap (s / 65536 % 256))*2 ^ 16))) (IntKind.i64.wrap ((IntKind.i64.wrap (s / 256 % 256))*2 ^ 8))) (IntKind.i64.wrap (s % 256))) 2147483647=s:=by
  rw [num4 (by omega) (by omega) (by omega) (by omega),show s / 16777216*16777216+s / 65536 % 256*65536+s / 256 % 256*256+s % 256=s by omega,and31 (by omega) (by omega)]
  omega
 have hc:cutI (fb k fl s body++rest) 9 (9+n)=some body:=by
  rw [hX]
  exact cutI_mid _ _ _ rfl (by show 9+n=((9+body.length:Nat):Int);omega)
 have hc2:cutI (fb k fl s body++rest) (9+n) (9+n+(rest.length:Int))=some rest:=by
  refine cutI_end _ _ ?_ ?_
  ·rw [fb_len];omega
  ·rw [List.length_append,fb_len];omega
 unfold F_frame_Parser_Next
 refine join_inl ?_
 unfold chk
 simp only [hp,cond_true,hg,Option.bind_some,hlen,g0,g1,g2,g3,g4,g5,g6,g7,g8,h3,h4]
 rw [decide_eq_false (show ¬ 9+n+(rest.length:Int) < 9 by omega),cond_false,decide_eq_false (show ¬ n > 16384 by omega),cond_false,wB64 (x:=9+n+(rest.length:Int) - 9) (by omega) (by omega),decide_eq_false (show ¬ 9+n+(rest.length:Int) - 9 < n by omega),cond_false,wB64 (x:=9+n) (by omega) (by omega),hc,Option.bind_some]
 unfold F_bytes_Clone
 rw [Nat.ble_eq_true_of_le (show body.length<=100000000 by omega),cond_true,Option.bind_some,hc2,Option.bind_some,wB64 (x:=fl) (by omega) (by omega),wB64 (x:=k) (by omega) (by omega)]
theorem next_short {X:List Int} (hp:nnI p=true) (hg:getI Ps p=some (16384,X)) (hX:X.length < 9):F_frame_Parser_Next p Ps=some (0,0,0,[],4,Ps):=by
 unfold F_frame_Parser_Next
 refine (join_inr (s:=(0,(0,0,0,[],Ps))) ?_).trans ?_
 ·unfold chk
  rw [hp,cond_true,hg,Option.bind_some]
  dsimp only
  rw [decide_eq_true (by omega),cond_true]
 ·refine loop_inl ?_
  unfold F_frame_Parser_Next_G1 F_frame_Parser_Next_G1_0
  rfl
theorem feed_at {room:Int} {X Y:List Int} (hp:nnI p=true) (hg:getI Ps p=some (room,X)) (hl:X.length+Y.length<=100000000):F_frame_Parser_Feed p Y Ps=some (Ps.set p.toNat (room,X++Y)):=by
 unfold F_frame_Parser_Feed chk F_slices_Concat_byte_byte
 have e:([X,Y]:List (List Int)).flatten=X++Y:=by simp
 simp only [hp,cond_true,hg,Option.bind_some,e]
 rw [Nat.ble_eq_true_of_le (show (X++Y).length<=100000000 by rw [List.length_append];exact hl),Nat.ble_eq_true_of_le (show ([X,Y]:List (List Int)).length<=100000000 by simp)]
 rfl
end Go.Proofs.YtifbhefbhlbofaaDoor
namespace Go.Proofs.YtifbhefbhlbofaaDoor
namespace Vc
open Ieee
theorem log2_mul {m:Nat} (hm:m≠0) (k:Nat):(m*2 ^ k).log2=m.log2+k:=by
 have h:=(Nat.log2_eq_iff hm).1 rfl
 have hp:0 < 2 ^ k:=Nat.two_pow_pos k
 rw [Nat.log2_eq_iff (by have:=Nat.mul_pos (Nat.pos_of_ne_zero hm) hp;omega)]
 rw [Nat.pow_add,show m.log2+k+1=(m.log2+1)+k by omega,Nat.pow_add]
 exact ⟨Nat.mul_le_mul_right _ h.1,Nat.mul_lt_mul_of_pos_right h.2 hp⟩
theorem log2_lt {m:Nat} (h:m < 2 ^ 53):m.log2<=52:=by
 by_cases hm:m=0
 ·subst hm;decide
 ·have h1:=(Nat.log2_eq_iff hm).1 rfl
  rcases Nat.lt_or_ge 52 m.log2 with h2 | h2
  ·have:2 ^ 53<=2 ^ m.log2:=Nat.pow_le_pow_right (by decide) h2
   omega
  ·exact h2
theorem cut_exact (way:Toward) (neg:Bool) (q d:Nat) (hw:way=.even \/ way=.zero):way.cut neg (q*2 ^ d) d=q:=by
 by_cases hq:q=0
 ·subst hq
  have hg:0 < 1 <<< min d ((0*2 ^ d).log2+2):=by rw [Nat.shiftLeft_eq,Nat.one_mul];exact Nat.two_pow_pos _
  unfold Toward.cut
  simp only [Nat.zero_mul,Nat.zero_div,Nat.zero_mod] at hg ⊢
  rcases hw with rfl | rfl
  ·simp
  ·simp
 ·have hl:=log2_mul hq d
  unfold Toward.cut
  rw [hl,show min d (q.log2+d+2)=d by omega,Nat.shiftLeft_eq,Nat.one_mul]
  dsimp only
  rw [Nat.mul_div_cancel _ (Nat.two_pow_pos d),Nat.mul_mod_left]
  have:2 ^ d≠0:=Nat.ne_of_gt (Nat.two_pow_pos d)
  rcases hw with rfl | rfl
  ·simp
  ·simp
def fw (neg:Bool) (m:Nat):Nat:=if m=0 then double.word neg 0 else double.word neg ((m.log2+1022)*2 ^ 52+m*2 ^ (52 - m.log2))
theorem near (neg:Bool) {m:Nat} (h:m < 2 ^ 53) (k:Nat):double.nearest neg (m*2 ^ k) (-(k:Int))=fw neg m:=by
  have hL:=log2_lt h
  by_cases hm:m=0
  · subst hm;simp [Format.nearest,fw]
  · have hk:m*2 ^ k≠0:=by have:=Nat.mul_pos (Nat.pos_of_ne_zero hm) (Nat.two_pow_pos k);omega
    have hlog:=log2_mul hm k
    have hb:=(Nat.log2_eq_iff hm).1 rfl
    have hle:double.leastPlace = -1074:=by decide
    have hf:double.fractionBits=52:=rfl
    unfold Format.nearest fw
    rw [if_neg hk,if_neg hm,hlog,hle,hf]
    have hlast:max (-(k:Int)+((m.log2+k:Nat):Int) - ((52:Nat):Int)) (-1074)=(m.log2:Int) - 52:=by omega
    simp only [hlast]
    have hkept:Toward.even.cut neg ((m*2 ^ k) <<< (-(k:Int) - ((m.log2:Int) - 52)).toNat) ((m.log2:Int) - 52 - -(k:Int)).toNat=m*2 ^ (52 - m.log2):=by
      by_cases hc:k<=52 - m.log2
      · rw [show (-(k : Int) - ((m.log2 : Int) - 52)).toNat = 52 - m.log2 - k by omega, show ((m.log2 : Int) - 52 - -(k : Int)).toNat = 0 by omega, Nat.shiftLeft_eq, Nat.mul_assoc, <- Nat.pow_add,
          show k+(52 - m.log2 - k)=52 - m.log2 by omega]
        have:=cut_exact .even neg (m*2 ^ (52 - m.log2)) 0 (.inl rfl)
        rwa [Nat.pow_zero,Nat.mul_one] at this
      · rw [show (-(k:Int) - ((m.log2:Int) - 52)).toNat=0 by omega,show ((m.log2:Int) - 52 - -(k:Int)).toNat=k - (52 - m.log2) by omega,Nat.shiftLeft_eq,Nat.pow_zero,Nat.mul_one]
        have:=cut_exact .even neg (m*2 ^ (52 - m.log2)) (k - (52 - m.log2)) (.inl rfl)
        rwa [Nat.mul_assoc,<- Nat.pow_add,show 52 - m.log2+(k - (52 - m.log2))=k by omega] at this
    rw [hkept,show ((m.log2:Int) - 52 - -1074).toNat=m.log2+1022 by omega]
    have hbin:double.binade=2 ^ 52:=rfl
    have hinf:double.infRung=2047*2 ^ 52:=rfl
    rw [hbin,hinf]
    have hlt:m*2 ^ (52 - m.log2) < 2 ^ 53:=by
      have:=Nat.mul_lt_mul_of_pos_right hb.2 (Nat.two_pow_pos (52 - m.log2))
      rw [<-Nat.pow_add,show m.log2+1+(52 - m.log2)=53 by omega] at this
      exact this
    generalize m*2 ^ (52 - m.log2)=K at hlt ⊢
    rw [Nat.min_eq_left (by omega)]
def fl (n:Int):Nat:=FloatKind.f64.nearest n
theorem fl_fw {n:Int} (h:n.natAbs < 2 ^ 53):fl n=fw (decide (n < 0)) n.natAbs:=by
 have:=near (decide (n < 0)) h 0
 rw [Nat.pow_zero,Nat.mul_one] at this
 exact this
def Stands (d:Datum) (n:Int):Prop:=∃ k:Nat,d=.number (decide (n < 0)) (n.natAbs*2 ^ k) (-(k:Int))
theorem stands0:Stands (.number false 0 (-1074)) 0:=by
 refine ⟨1074,?_⟩
 generalize (2:Nat) ^ 1074=z
 rw [show Int.natAbs 0*z=0 from Nat.zero_mul z]
 rfl
theorem read_fl {n:Int} (h:n.natAbs < 2 ^ 53):Stands (double.read (fl n)) n:=by
 rw [fl_fw h]
 unfold fw
 by_cases hm:n.natAbs=0
 ·have:n=0:=by omega
  subst this
  have h2:double.read (double.word (decide ((0:Int) < 0)) 0)=.number false 0 (-1074):=by decide
  rw [if_pos hm,h2]
  exact stands0
 ·rw [if_neg hm]
  have hL:=log2_lt h
  have hb:=(Nat.log2_eq_iff hm).1 rfl
  have h1:2 ^ 52<=n.natAbs*2 ^ (52 - n.natAbs.log2):=by
   have:=Nat.mul_le_mul_right (2 ^ (52 - n.natAbs.log2)) hb.1
   rwa [<-Nat.pow_add,show n.natAbs.log2+(52 - n.natAbs.log2)=52 by omega] at this
  have h2:n.natAbs*2 ^ (52 - n.natAbs.log2) < 2 ^ 53:=by
   have:=Nat.mul_lt_mul_of_pos_right hb.2 (Nat.two_pow_pos (52 - n.natAbs.log2))
   rwa [<-Nat.pow_add,show n.natAbs.log2+1+(52 - n.natAbs.log2)=53 by omega] at this
  refine ⟨52 - n.natAbs.log2,?_⟩
  generalize hK:n.natAbs*2 ^ (52 - n.natAbs.log2)=K at h1 h2 ⊢
  generalize n.natAbs.log2=L at hL ⊢
  have hbin:double.binade=4503599627370496:=by decide
  have hinf:double.infRung=9218868437227405312:=by decide
  have hsw:double.signWeight=9223372036854775808:=by decide
  have hle:double.leastPlace = -1074:=by decide
  have w1:∀ neg:Bool,double.word neg ((L+1022)*2 ^ 52+K) / 9223372036854775808 % 2=neg.toNat /\ double.word neg ((L+1022)*2 ^ 52+K) % 9223372036854775808=(L+1022)*2 ^ 52+K:=fun neg=>by
   unfold Format.word
   rw [hsw]
   cases neg <;> simp <;> omega
  obtain ⟨a1,a2⟩:=w1 (decide (n < 0))
  unfold Format.read
  rw [hsw,hbin,hinf,hle,a1,a2]
  simp only
  rw [if_neg (by omega),if_pos (by omega)]
  congr 1
  ·cases decide (n < 0) <;> rfl
  ·omega
  ·omega
theorem signed_abs (n:Int) (k j:Nat):signed (decide (n < 0)) (n.natAbs*2 ^ k) j=n*2 ^ (k+j):=by
 unfold signed
 rw [Nat.shiftLeft_eq,Nat.mul_assoc,<- Nat.pow_add]
 by_cases h:n < 0
 ·simp only [h,decide_true,if_true]
  rw [Int.natCast_mul,Int.natCast_pow]
  have:(n.natAbs:Int) = -n:=by omega
  rw [this,Int.neg_mul,Int.neg_neg]
  rfl
 ·simp only [h,decide_false,Bool.false_eq_true,if_false]
  rw [Int.natCast_mul,Int.natCast_pow]
  have:(n.natAbs:Int)=n:=by omega
  rw [this]
  rfl
theorem base_eq (k l:Nat):min (-(k:Int)) (-(l:Int)) = -((max k l:Nat):Int):=by omega
theorem order_stands {d e:Datum} {a b:Int} (hd:Stands d a) (he:Stands e b):d.order e=some (compare a b):=by
 obtain ⟨k,rfl⟩:=hd
 obtain ⟨l,rfl⟩:=he
 unfold Datum.order
 simp only [base_eq]
 rw [show (-(k:Int) - -((max k l:Nat):Int)).toNat=max k l - k by omega,show (-(l:Int) - -((max k l:Nat):Int)).toNat=max k l - l by omega,signed_abs,signed_abs,
  show k+(max k l - k)=max k l by omega,show l+(max k l - l)=max k l by omega]
 have hp:(0:Int) < 2 ^ (max k l):=Int.pow_pos (by decide)
 congr 1
 simp only [compare,compareOfLessAndEq]
 have e1:a*2 ^ max k l < b*2 ^ max k l↔a < b:=⟨fun h=>Int.lt_of_mul_lt_mul_right h (Int.le_of_lt hp),fun h=>Int.mul_lt_mul_of_pos_right h hp⟩
 have e2:a*2 ^ max k l=b*2 ^ max k l↔a=b:=⟨fun h=>Int.eq_of_mul_eq_mul_right (by omega) h,fun h=>by rw [h]⟩
 simp only [e1,e2]
theorem toInt_stands {d:Datum} {a:Int} (hd:Stands d a):d.toInt .zero=some a:=by
 obtain ⟨k,rfl⟩:=hd
 unfold Datum.toInt Datum.integral
 simp only
 rw [show (-(k:Int)).toNat=0 by omega,show (- -(k:Int)).toNat=k by omega,Nat.shiftLeft_eq,Nat.pow_zero,Nat.mul_one,cut_exact .zero _ _ _ (.inr rfl)]
 have:=signed_abs a 0 0
 simp only [Nat.pow_zero,Nat.mul_one] at this
 rw [this]
 simp
theorem opp_stands {d:Datum} {b:Int} (hd:Stands d b) (hb:b≠0):Stands d.opposite (-b):=by
 obtain ⟨k,rfl⟩:=hd
 refine ⟨k,?_⟩
 unfold Datum.opposite
 simp only [Int.natAbs_neg]
 congr 1
 by_cases h:b < 0
 ·have h2:¬ (-b < 0):=by omega
  rw [decide_eq_true h,decide_eq_false h2];rfl
 ·have h2 : -b < 0:=by omega
  rw [decide_eq_false h,decide_eq_true h2];rfl
theorem sum_stands {d e:Datum} {a b:Int} (hd:Stands d a) (he:Stands e b) (h:(a+b).natAbs < 2 ^ 53):(d.sum e).map double.write=some (fl (a+b)):=by
 obtain ⟨k,rfl⟩:=hd
 obtain ⟨l,rfl⟩:=he
 unfold Datum.sum
 simp only [base_eq]
 rw [show (-(k:Int) - -((max k l:Nat):Int)).toNat=max k l - k by omega,show (-(l:Int) - -((max k l:Nat):Int)).toNat=max k l - l by omega,signed_abs,signed_abs,
  show k+(max k l - k)=max k l by omega,show l+(max k l - l)=max k l by omega,<- Int.add_mul]
 have hp:(0:Int) < 2 ^ (max k l):=Int.pow_pos (by decide)
 have hn:((a+b)*2 ^ max k l).natAbs=(a+b).natAbs*2 ^ max k l:=by rw [Int.natAbs_mul,Int.natAbs_pow];rfl
 have hz:(if (a+b)*2 ^ max k l=0 then (decide (a < 0)&&decide (b < 0)) else decide ((a+b)*2 ^ max k l < 0))=decide (a+b < 0):=by
  by_cases h0:a+b=0
  ·rw [h0,Int.zero_mul,if_pos rfl]
   by_cases ha:a < 0
   ·have:¬ b < 0:=by omega
    simp [this]
   ·simp [ha]
  ·have hne:(a+b)*2 ^ max k l≠0:=Int.mul_ne_zero h0 (by omega)
   rw [if_neg hne]
   have:(a+b)*2 ^ max k l < 0↔a+b < 0:=⟨fun hh=>Int.lt_of_mul_lt_mul_right (by rw [Int.zero_mul];exact hh) (Int.le_of_lt hp),fun hh=>Int.mul_neg_of_neg_of_pos hh hp⟩
   simp only [this]
 rw [hz,hn,Option.map_some]
 show some (double.nearest _ _ _)=_
 rw [near _ h,fl_fw h]
theorem fl_order {a b:Int} (ha:a.natAbs < 2 ^ 53) (hb:b.natAbs < 2 ^ 53):FloatKind.f64.format.order (fl a) (fl b)=some (compare a b):=order_stands (read_fl ha) (read_fl hb)
theorem fl_toInt {a:Int} (ha:a.natAbs < 2 ^ 53):(FloatKind.f64.decode (fl a)).toInt .zero=some a:=toInt_stands (read_fl ha)
theorem fl_add {a b:Int} (ha:a.natAbs < 2 ^ 53) (hb:b.natAbs < 2 ^ 53) (h:(a+b).natAbs < 2 ^ 53):FloatKind.f64.format.add (fl a) (fl b)=some (fl (a+b)):=sum_stands (read_fl ha) (read_fl hb) h
theorem fl_sub {a b:Int} (ha:a.natAbs < 2 ^ 53) (hb:b.natAbs < 2 ^ 53) (h:(a - b).natAbs < 2 ^ 53):FloatKind.f64.format.sub (fl a) (fl b)=some (fl (a - b)):=by
  by_cases h0:b=0
  · subst h0
    rw [Int.sub_zero]
    have hd:=read_fl ha
    have he:double.read (fl 0)=.number false 0 (-1074):=by decide
    show ((double.read (fl a)).sum (double.read (fl 0)).opposite).map double.write=_
    rw [he]
    obtain ⟨k,hk⟩:=hd
    rw [hk]
    have key:=sum_stands (d:=.number (decide (a < 0)) (a.natAbs*2 ^ k) (-(k:Int))) (e:=.number false 0 (-1074)) (a:=a) (b:=0) ⟨k,rfl⟩ stands0 (by rw [Int.add_zero];exact ha)
    rw [Int.add_zero] at key
    rw [<-key]
    show (Datum.sum _ (Datum.number true 0 (-1074))).map double.write=_
    have hs:∀ (q:Bool) (x:Nat),signed q 0 x=0:=fun q x=>by unfold signed;rw [Nat.zero_shiftLeft];cases q <;> rfl
    unfold Datum.sum
    simp only [hs,Int.add_zero]
    by_cases hneg:a < 0
    · have hne : ∀ x : Nat, signed (decide (a < 0)) (a.natAbs * 2 ^ k) x ≠ 0 := fun x => by
        rw [signed_abs]
        exact Int.mul_ne_zero (by omega) (Int.ne_of_gt (Int.pow_pos (by decide)))
      rw [if_neg (hne _),if_neg (hne _)]
    · rw [decide_eq_false hneg]
      rfl
  · exact Eq.trans (sum_stands (read_fl ha) (opp_stands (read_fl hb) h0) (by rwa [<-Int.sub_eq_add_neg])) (by rw [<-Int.sub_eq_add_neg])
end Vc
end Go.Proofs.YtifbhefbhlbofaaDoor
namespace Go.Proofs.YtifbhefbhlbofaaDoor
open Pv
set_option linter.unusedVariables false
def InW (n:Int):Prop:=-2147483647<=n /\ n<=2147483647
theorem InW.abs {n:Int} (h:InW n):n.natAbs < 2 ^ 53:=by
 have h1:=h.1
 have h2:=h.2
 have:(2:Nat) ^ 53=9007199254740992:=by decide
 omega
theorem abs53 {n:Int} (h1 : -9000000000<=n) (h2:n<=9000000000):n.natAbs < 2 ^ 53:=by
 have:(2:Nat) ^ 53=9007199254740992:=by decide
 omega
theorem fgt_fl {a b:Int} (ha:a.natAbs < 2 ^ 53) (hb:b.natAbs < 2 ^ 53):fgt .f64 (Vc.fl a) (Vc.fl b)=decide (b < a):=by
 unfold fgt
 rw [Vc.fl_order ha hb]
 rcases Int.lt_trichotomy a b with h | h | h
 ·rw [Int.compare_eq_lt.2 h,decide_eq_false (by omega)];rfl
 ·rw [h,Int.compare_eq_eq.2 rfl,decide_eq_false (by omega)];rfl
 ·rw [Int.compare_eq_gt.2 h,decide_eq_true h];rfl
theorem flt_fl {a b:Int} (ha:a.natAbs < 2 ^ 53) (hb:b.natAbs < 2 ^ 53):flt .f64 (Vc.fl a) (Vc.fl b)=decide (a < b):=by
 unfold flt
 rw [Vc.fl_order ha hb]
 rcases Int.lt_trichotomy a b with h | h | h
 ·rw [Int.compare_eq_lt.2 h,decide_eq_true h];rfl
 ·rw [h,Int.compare_eq_eq.2 rfl,decide_eq_false (by omega)];rfl
 ·rw [Int.compare_eq_gt.2 h,decide_eq_false (by omega)];rfl
theorem feq_fl {a b:Int} (ha:a.natAbs < 2 ^ 53) (hb:b.natAbs < 2 ^ 53):feq .f64 (Vc.fl a) (Vc.fl b)=decide (a=b):=by
 unfold feq
 rw [Vc.fl_order ha hb]
 rcases Int.lt_trichotomy a b with h | h | h
 ·rw [Int.compare_eq_lt.2 h,decide_eq_false (by omega)];rfl
 ·rw [h,Int.compare_eq_eq.2 rfl,decide_eq_true rfl];rfl
 ·rw [Int.compare_eq_gt.2 h,decide_eq_false (by omega)];rfl
theorem fl_top:Vc.fl 2147483647=4746794007244308480:=by decide +kernel
theorem fl_bot:Vc.fl (-2147483647)=13970166044099084288:=by decide +kernel
theorem fl_zero:Vc.fl 0=0:=by decide +kernel
theorem foI_fl (n:Int):foI .f64 n=Vc.fl n:=rfl
theorem ftoI_fl {n:Int} (h:InW n):ftoI .f64 .i64 (Vc.fl n)=some n:=by
 unfold ftoI
 rw [Vc.fl_toInt h.abs]
 have h1:=h.1
 have h2:=h.2
 have e1:IntKind.i64.min = -9223372036854775808:=by decide
 have e2:IntKind.i64.max=9223372036854775807:=by decide
 simp only
 rw [e1,e2,decide_eq_true (by omega),decide_eq_true (by omega)]
 rfl
theorem part_in {n:Int} (h:InW n):F_flow_part (Vc.fl n)=some (n,true):=by
 unfold F_flow_part
 have h1:=h.1
 have h2:=h.2
 rw [<-fl_top,<- fl_bot,fgt_fl h.abs (by decide),feq_fl h.abs (by decide),flt_fl h.abs (by decide),feq_fl h.abs (by decide)]
 have e:(!((decide (-2147483647 < n)||decide (n = -2147483647))&&(decide (n < 2147483647)||decide (n=2147483647))))=false:=by
  simp only [Bool.not_eq_false',Bool.and_eq_true,Bool.or_eq_true,decide_eq_true_eq]
  omega
 rw [e,cond_false,ftoI_fl h]
 simp only [Option.bind_some]
 rw [foI_fl,feq_fl h.abs h.abs,decide_eq_true rfl]
def fz (a b:Int):Nat×Nat:=(Vc.fl a,Vc.fl b)
theorem parts_in {a b:Int} (ha:InW a) (hb:InW b):F_flow_parts (fz a b)=some (a,b,true):=by
 unfold F_flow_parts fz
 rw [part_in ha,Option.bind_some,part_in hb]
 rfl
theorem cut_in {a:Int} (ha:InW a):F_flow_cut a=some a:=by
 have h1:=ha.1
 have h2:=ha.2
 unfold F_flow_cut minI maxI
 rw [decide_eq_false (show ¬ -2147483647 > a by omega),cond_false,decide_eq_false (show ¬ 2147483647 < a by omega),cond_false]
theorem windows_in {a b:Int} (ha:InW a) (hb:InW b):F_flow_Windows a b=some (fz a b):=by
 unfold F_flow_Windows
 rw [cut_in ha,Option.bind_some,cut_in hb]
 rfl
theorem stream_in {a b:Int} (ha:InW a) (hb:InW b):F_flow_Stream (fz a b)=some a:=by
 unfold F_flow_Stream
 rw [parts_in ha hb]
 rfl
theorem conn_in {a b:Int} (ha:InW a) (hb:InW b):F_flow_Conn (fz a b)=some b:=by
 unfold F_flow_Conn
 rw [parts_in ha hb]
 rfl
theorem may_in {a b:Int} (ha:InW a) (hb:InW b):F_flow_May (fz a b)=some (maxI (minI a b) 0):=by
 unfold F_flow_May
 rw [stream_in ha hb,Option.bind_some,conn_in ha hb]
 rfl
theorem spend_in {a b n:Int} (ha:InW a) (hb:InW b) (h0:0<=n) (h1:n<=a) (h2:n<=b):F_flow_Spend (fz a b) n=some (fz (a - n) (b - n),0):=by
 have a2:=ha.2
 have b2:=hb.2
 have hm:¬ n > maxI (minI a b) 0:=by
  unfold maxI minI
  by_cases hab:b < a
  ·rw [decide_eq_true hab,cond_true]
   by_cases h:(0:Int) > b
   ·omega
   ·rw [decide_eq_false h,cond_false];omega
  ·rw [decide_eq_false hab,cond_false]
   by_cases h:(0:Int) > a
   ·omega
   ·rw [decide_eq_false h,cond_false];omega
 unfold F_flow_Spend
 rw [parts_in ha hb,Option.bind_some,decide_eq_false (show ¬ n < 0 by omega),Bool.or_false]
 show cond false _ _=_
 rw [cond_false,may_in ha hb,Option.bind_some,decide_eq_false hm,cond_false]
 show (fsub .f64 (Vc.fl a) (Vc.fl n)).bind _=_
 have hn:n.natAbs < 2 ^ 53:=abs53 (by omega) (by omega)
 unfold fsub fz
 rw [Vc.fl_sub ha.abs hn (abs53 (by omega) (by omega)),Option.bind_some]
 show (FloatKind.f64.format.sub (Vc.fl b) (Vc.fl n)).bind _=_
 rw [Vc.fl_sub hb.abs hn (abs53 (by omega) (by omega)),Option.bind_some]
theorem grant_in {a b s c:Int} (ha:InW a) (hb:InW b) (hs:0<=s) (hs2:s<=2147483647) (hc:0<=c) (hc2:c<=2147483647):F_flow_Grant (fz a b) s c =
  some (cond (decide (b+c > 2147483647)) ((0,0),true,true,3) (cond (decide (a+s > 2147483647)) ((0,0),true,false,3) (fz (a+s) (b+c),false,false,0))):=by
 have a1:=ha.1
 have a2:=ha.2
 have b1:=hb.1
 have b2:=hb.2
 unfold F_flow_Grant
 rw [parts_in ha hb,Option.bind_some,decide_eq_false (show ¬ s < 0 by omega),decide_eq_false (show ¬ s > 2147483647 by omega),decide_eq_false (show ¬ c < 0 by omega),decide_eq_false (show ¬ c > 2147483647 by omega)]
 simp only [Bool.or_false,Bool.not_true,cond_false]
 show (fadd .f64 (Vc.fl a) (Vc.fl s)).bind _=_
 have hs3:s.natAbs < 2 ^ 53:=abs53 (by omega) (by omega)
 have hc3:c.natAbs < 2 ^ 53:=abs53 (by omega) (by omega)
 unfold fadd
 rw [Vc.fl_add ha.abs hs3 (abs53 (by omega) (by omega)),Option.bind_some]
 show (FloatKind.f64.format.add (Vc.fl b) (Vc.fl c)).bind _=_
 rw [Vc.fl_add hb.abs hc3 (abs53 (by omega) (by omega)),Option.bind_some,<- fl_top,fgt_fl (abs53 (by omega) (by omega)) (by decide),fgt_fl (abs53 (by omega) (by omega)) (by decide)]
 by_cases h1:b+c > 2147483647
 ·rw [decide_eq_true h1,cond_true];rfl
 ·rw [decide_eq_false h1,cond_false]
  by_cases h2:a+s > 2147483647
  ·rw [decide_eq_true h2,cond_true];rfl
  ·rw [decide_eq_false h2,cond_false];rfl
abbrev Fld:=List Int×List Int×Bool
abbrev MD:=List (Int×Int)
abbrev WD:=Int×Int×Int×Bool×Bool×Bool×Int×Int×Int×List (List (Int×Int))×(Int×Int×Int×Int×Int×Int)×Int×Int×Bool
abbrev SD:=Option Int×Bool×Bool×Bool×List Int
abbrev PD:=Int×List Int
abbrev DD:=Int×Bool
abbrev TD:=List Fld×Int×Int
theorem getI_set {α:Type} {l:List α} {j:Int} {x y:α} (h:getI l j=some y):getI (l.set j.toNat x) j=some x:=by
 unfold getI at h ⊢
 cases hd:decide (0<=j) with
 | false=>rw [hd] at h;cases h
 | true=>
  rw [hd,cond_true] at h
  rw [cond_true,List.getElem?_set,if_pos rfl,if_pos (List.getElem?_eq_some_iff.1 h).1]
theorem getI_nn {α:Type} {l:List α} {j:Int} {y:α} (h:getI l j=some y):nnI j=true:=by
 unfold getI at h
 unfold nnI
 cases hd:decide (0<=j) with
 | false=>rw [hd] at h;cases h
 | true=>rfl
theorem getI_app {α:Type} {l r:List α} {j:Int} {y:α} (h:getI l j=some y):getI (l++r) j=some y:=by
 unfold getI at h ⊢
 cases hd:decide (0<=j) with
 | false=>rw [hd] at h;cases h
 | true=>
  rw [hd,cond_true] at h
  rw [cond_true,List.getElem?_append_left (List.getElem?_eq_some_iff.1 h).1]
  exact h
theorem getI_new {α:Type} {l:List α} {y:α}:getI (l++[y]) (l.length:Int)=some y:=by
 unfold getI
 rw [decide_eq_true (by omega),cond_true,Int.toNat_natCast,List.getElem?_append_right (Nat.le_refl _),Nat.sub_self]
 rfl
theorem getI_new0 {α:Type} {l r:List α} {y:α}:getI (l++y::r) (l.length:Int)=some y:=by
 unfold getI
 rw [decide_eq_true (by omega),cond_true,Int.toNat_natCast,List.getElem?_append_right (Nat.le_refl _),Nat.sub_self]
 rfl
theorem set_two {α:Type} {l:List α} {j:Int} {x y:α}:(l.set j.toNat x).set j.toNat y=l.set j.toNat y:=List.set_set _
section
variable {p : Int} {M : List MD} {W : List WD} {S : List SD} {P : List PD} {D : List DD} {T : List TD}
variable {head inn out highest m window dec frames : Int} {deaf blind gone : Bool} {waits : List (List (Int × Int))} {sets : Int × Int × Int × Int × Int × Int}
theorem out_step {k fl s:Int} {body:List Int} {P':List PD} {W':List WD} {S':List SD} {D':List DD} {T':List TD} {head' inn' out' highest' m' window' dec' frames':Int} {deaf' blind' gone' bad':Bool} {waits':List (List (Int×Int))} {sets':Int×Int×Int×Int×Int×Int}
  (hW:getI W p=some (head,inn,out,deaf,false,false,highest,m,window,waits,sets,dec,frames,gone)) (hN:F_frame_Parser_Next out P=some (k,fl,s,body,0,P'))
  (hR:F_watch_Watch_right p k fl s body M W S D T=some (true,W',S',D',T')) (hW':getI W' p=some (head',inn',out',deaf',blind',bad',highest',m',window',waits',sets',dec',frames',gone')) (hf : -4611686018427387904<=frames' /\ frames'<=4611686018427387900) :
  F_watch_Watch_Out_L3 p M (W,S,P,D,T)=some (.inr (W'.set p.toNat (head',inn',out',deaf',blind',false,highest',m',window',waits',sets',dec',frames'+1,gone'),S',P',D',T')):=by
 have hp:=getI_nn hW
 unfold F_watch_Watch_Out_L3 chk
 simp only [hp,cond_true,hW,Option.bind_some,Bool.not_false,hN]
 rw [show ((0:Int)==4)=false from rfl,cond_false,show ((0:Int) != 0)=false from rfl,cond_false]
 simp only [hR,Option.bind_some,hW',Bool.not_true,getI_set hW',Bool.not_false,cond_true,set_two]
 rw [wB64 (by omega) (by omega)]
theorem out_wrong {k fl s:Int} {body:List Int} {P':List PD} {W':List WD} {S':List SD} {D':List DD} {T':List TD} {head' inn' out' highest' m' window' dec' frames':Int} {deaf' blind' gone' bad':Bool} {waits':List (List (Int×Int))} {sets':Int×Int×Int×Int×Int×Int}
  (hW:getI W p=some (head,inn,out,deaf,false,false,highest,m,window,waits,sets,dec,frames,gone)) (hN:F_frame_Parser_Next out P=some (k,fl,s,body,0,P'))
  (hR:F_watch_Watch_right p k fl s body M W S D T=some (false,W',S',D',T')) (hW':getI W' p=some (head',inn',out',deaf',blind',bad',highest',m',window',waits',sets',dec',frames',gone')) :
  F_watch_Watch_Out_L3 p M (W,S,P,D,T)=some (.inr (W'.set p.toNat (head',inn',out',deaf',blind',true,highest',m',window',waits',sets',dec',frames',gone'),S',P',D',T')):=by
 have hp:=getI_nn hW
 unfold F_watch_Watch_Out_L3 chk
 simp only [hp,cond_true,hW,Option.bind_some,Bool.not_false,hN]
 rw [show ((0:Int)==4)=false from rfl,cond_false,show ((0:Int) != 0)=false from rfl,cond_false]
 simp only [hR,Option.bind_some,hW',Bool.not_false,getI_set hW',Bool.not_true,cond_false]
theorem out_short (hW:getI W p=some (head,inn,out,deaf,false,false,highest,m,window,waits,sets,dec,frames,gone)) {k fl s:Int} {body:List Int} {P':List PD} (hN:F_frame_Parser_Next out P=some (k,fl,s,body,4,P')) :
  F_watch_Watch_Out_L3 p M (W,S,P,D,T)=some (.inl (0,W,S,P',D,T)):=by
 have hp:=getI_nn hW
 unfold F_watch_Watch_Out_L3 chk
 simp only [hp,cond_true,hW,Option.bind_some,Bool.not_false,hN]
 rw [show ((4:Int)==4)=true from rfl,cond_true,cond_false]
 rfl
theorem out_bad (hW:getI W p=some (head,inn,out,deaf,blind,true,highest,m,window,waits,sets,dec,frames,gone)):F_watch_Watch_Out_L3 p M (W,S,P,D,T)=some (.inl (2,W,S,P,D,T)):=by
 have hp:=getI_nn hW
 unfold F_watch_Watch_Out_L3 chk
 simp only [hp,cond_true,hW,Option.bind_some,Bool.not_true,cond_false]
 rfl
theorem out_at {bad:Bool} {room:Int} {X b:List Int} (hW:getI W p=some (head,inn,out,deaf,blind,bad,highest,m,window,waits,sets,dec,frames,gone)) (hP:getI P out=some (room,X)) (hl:X.length+b.length<=100000000) :
  F_watch_Watch_Out p b M W S P D T=loopC (F_watch_Watch_Out_L3 p M) (W,S,P.set out.toNat (room,X++b),D,T):=by
 have hp:=getI_nn hW
 unfold F_watch_Watch_Out chk
 rw [hp,cond_true,hW,Option.bind_some]
 dsimp only
 rw [feed_at (getI_nn hP) hP hl,Option.bind_some]
theorem in_step {bad:Bool} {k fl s:Int} {body:List Int} {P':List PD} {x:List MD×List WD×List SD} (hW:getI W p=some (head,inn,out,false,false,bad,highest,m,window,waits,sets,dec,frames,gone)) (hN:F_frame_Parser_Next inn P=some (k,fl,s,body,0,P'))
  (hH:F_watch_Watch_hears p k fl s body M W S=some x):F_watch_Watch_In_L3 p (M,W,S,P)=some (.inr (x.1,x.2.1,x.2.2,P')):=by
 have hp:=getI_nn hW
 have hid:W.set p.toNat (head,inn,out,false,false,bad,highest,m,window,waits,sets,dec,frames,gone)=W:=by
  unfold getI at hW
  cases hd:decide (0<=p) with
  | false=>rw [hd] at hW;cases hW
  | true=>
   rw [hd,cond_true] at hW
   apply List.ext_getElem?
   intro i
   rw [List.getElem?_set]
   split
   ·rename_i e
    subst e
    rw [if_pos (List.getElem?_eq_some_iff.1 hW).1,hW]
   ·rfl
 unfold F_watch_Watch_In_L3 chk
 simp only [hp,cond_true,hW,Option.bind_some,Bool.not_false,hN]
 rw [show ((0:Int)==4)=false from rfl,cond_false]
 simp only [show ((0:Int) != 0)=false from rfl,hid,hW,Option.bind_some,Bool.not_false,cond_true,hH]
theorem in_short {bad:Bool} (hW:getI W p=some (head,inn,out,false,false,bad,highest,m,window,waits,sets,dec,frames,gone)) {k fl s:Int} {body:List Int} {P':List PD} (hN:F_frame_Parser_Next inn P=some (k,fl,s,body,4,P')) :
  F_watch_Watch_In_L3 p (M,W,S,P)=some (.inl (M,W,S,P')):=by
 have hp:=getI_nn hW
 unfold F_watch_Watch_In_L3 chk
 simp only [hp,cond_true,hW,Option.bind_some,Bool.not_false,hN]
 rw [show ((4:Int)==4)=true from rfl,cond_true]
theorem in_at {bad:Bool} {room:Int} {X b:List Int} (hW:getI W p=some (24,inn,out,deaf,blind,bad,highest,m,window,waits,sets,dec,frames,gone)) (hP:getI P inn=some (room,X)) (hl:X.length+b.length<=100000000) :
  F_watch_Watch_In p b M W S P=loopC (F_watch_Watch_In_L3 p) (M,W,S,P.set inn.toNat (room,X++b)):=by
 have hp:=getI_nn hW
 have hm:minI (IntKind.i64.wrap (24 - 24)) (b.length:Int)=0:=by
  show cond (decide ((b.length:Int) < 0)) _ _=_
  rw [decide_eq_false (by omega),cond_false];rfl
 have hid:W.set p.toNat (24,inn,out,deaf,blind,bad,highest,m,window,waits,sets,dec,frames,gone)=W:=by
  unfold getI at hW
  cases hd:decide (0<=p) with
  | false=>rw [hd] at hW;cases hW
  | true=>
   rw [hd,cond_true] at hW
   apply List.ext_getElem?
   intro i
   rw [List.getElem?_set]
   split
   ·rename_i e
    subst e
    rw [if_pos (List.getElem?_eq_some_iff.1 hW).1,hW]
   ·rfl
 have hc:cutI b 0 (b.length:Int)=some b:=cutI_end [] b rfl rfl
 unfold F_watch_Watch_In chk
 simp only [hp,cond_true,hW,Option.bind_some,hm,show IntKind.i64.wrap (24+0)=24 from rfl,hid,hc]
 rw [feed_at (getI_nn hP) hP hl,Option.bind_some]
theorem in_first {bad:Bool} {room:Int} {X pre b:List Int} (hW:getI W p=some (0,inn,out,deaf,blind,bad,highest,m,window,waits,sets,dec,frames,gone)) (hP:getI P inn=some (room,X)) (hpre:pre.length=24) (hl:X.length+b.length<=100000000) :
  F_watch_Watch_In p (pre++b) M W S P=loopC (F_watch_Watch_In_L3 p) (M,W.set p.toNat (24,inn,out,deaf,blind,bad,highest,m,window,waits,sets,dec,frames,gone),S,P.set inn.toNat (room,X++b)):=by
 have hp:=getI_nn hW
 have hlen:((pre++b).length:Int)=24+(b.length:Int):=by rw [List.length_append,hpre];omega
 have hm:minI (IntKind.i64.wrap (24 - 0)) ((pre++b).length:Int)=24:=by
  show cond (decide (((pre++b).length:Int) < 24)) _ _=_
  rw [decide_eq_false (by omega),cond_false];rfl
 have hc:cutI (pre++b) 24 ((pre++b).length:Int)=some b:=cutI_end pre b (by rw [hpre];rfl) rfl
 unfold F_watch_Watch_In chk
 simp only [hp,cond_true,hW,Option.bind_some,hm,show IntKind.i64.wrap (0+24)=24 from rfl,getI_set hW,hc]
 rw [feed_at (getI_nn hP) hP hl,Option.bind_some]
end
section
variable {p : Int} {M : List MD} {W : List WD} {S : List SD} {P : List PD} {D : List DD} {T : List TD}
theorem shrinks_nil {t:Int} {n z m:Int} (hT:getI T t=some ([],z,m)):F_dyn_Table_shrinks t n T=some (T.set t.toNat ([],z,m)):=by
 have ht:=getI_nn hT
 unfold F_dyn_Table_shrinks
 refine (join_inr (s:=((0:Int),T)) (loop_inl ?_)).trans ?_
 ·unfold F_dyn_Table_shrinks_L2 chk
  simp only [ht,cond_true,hT,Option.bind_some]
  rfl
 ·unfold F_dyn_Table_shrinks_J1 chk
  have hc:cutI ([]:List Fld) 0 ((([]:List Fld).length:Nat):Int)=some []:=rfl
  have he:eqI t t=true:=by unfold eqI;exact beq_self_eq_true t
  simp only [ht,cond_true,hT,Option.bind_some,hc,he]
theorem limit_nil {t:Int} {n z m:Int} (h0:0<=n) (h1:n<=4096) (hT:getI T t=some ([],z,m)):F_dyn_Table_Limit t n T=some (0,T.set t.toNat ([],z,n)):=by
 have ht:=getI_nn hT
 unfold F_dyn_Table_Limit
 rw [decide_eq_false (show ¬ n < 0 by omega),decide_eq_false (show ¬ n > 4096 by omega)]
 show cond false _ _=_
 rw [cond_false]
 unfold chk F_slices_Clone_stat_Field_stat_Field
 have h2:=getI_set (x:=(([]:List Fld),z,n)) hT
 simp only [ht,cond_true,hT,Option.bind_some,shrinks_nil h2,h2,set_two]
 rfl
theorem dnew_at:F_dyn_New 4096 T=some ((T.length:Int),0,T++[([],(0,4096))]):=by
 have h:getI (T++[(([]:List Fld),((0:Int),(0:Int)))]) (T.length:Int)=some ([],0,0):=getI_new
 unfold F_dyn_New
 rw [limit_nil (by decide) (by decide) h,Option.bind_some]
 have e:(T++[(([]:List Fld),((0:Int),(0:Int)))]).set (T.length:Int).toNat ([],(0,4096))=T++[([],(0,4096))]:=by
  rw [Int.toNat_natCast,List.set_append_right _ _ (Nat.le_refl _),Nat.sub_self];rfl
 rw [e]
 rfl
abbrev w0 (M:List MD) (P:List PD) (D:List DD):WD:=(0,(P.length:Int),(P.length:Int)+1,false,false,false,0,(M.length:Int),65535,[],(4096,1,2147483647,65535,16384,2147483647),(D.length:Int),0,false)
theorem new_at:F_watch_New M W P D T=some ((W.length:Int),M++[[]],W++[w0 M P D],P++[(16384,[]),(16384,[])],D++[((T.length:Int),false)],T++[([],(0,4096))]):=by
 unfold F_watch_New F_frame_New F_sets_First F_unpack_New
 simp only [Option.bind_some,dnew_at]
 have e:((P++[((16384:Int),([]:List Int))]).length:Int)=(P.length:Int)+1:=by rw [List.length_append];simp
 have e2:P++[((16384:Int),([]:List Int))]++[(16384,[])]=P++[(16384,[]),(16384,[])]:=by rw [List.append_assoc];rfl
 rw [e,e2]
end
end Go.Proofs.YtifbhefbhlbofaaDoor
