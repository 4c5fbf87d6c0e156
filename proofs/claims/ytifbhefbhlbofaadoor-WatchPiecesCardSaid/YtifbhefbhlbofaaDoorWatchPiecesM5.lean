/- Texts of this claim, one behind the other. -/
import Derived.Test.YtifbhefbhlbofaaDoorWatchPiecesM4
import Derived.Laws.IdiomRangeMap
import Derived.ChangeMaps5
import Derived.Maps.RangeRun
set_option maxRecDepth 100000
set_option maxRecDepth 100000
namespace Go.Proofs.YtifbhefbhlbofaaDoor
open Pv
set_option linter.unusedVariables false
noncomputable def F_frame_New (i1:Int) (l2:Zt4):Option (Int×Zt4):=
 some ((l2.length:Int),(l2++[(i1,([]:List Int))]))
def F_frame_New_sig:Sig:=⟨[.v false [.d (.int .i64)]],[(false,[.d (.ptr 73)])],[(1000146,Zp12,true)]⟩
def F_frame_New_ann:List (Nat×Ann):=[]
noncomputable def F_frame_New_env:Env:=⟨Tryd.prog,[],[]⟩
theorem F_frame_New_text:pvFn F_frame_New_env F_frame_New_ann Tryd.f21 F_frame_New_sig=F_frame_New:=by kernel_rfl
noncomputable def F_sets_First:Option (Int×Int×Int×Int×Int×Int):=
 some (4096,1,2147483647,65535,16384,2147483647)
def F_sets_First_sig:Sig:=⟨[],[(true,[.d (.int .i64),.d (.int .i64),.d (.int .i64),.d (.int .i64),.d (.int .i64),.d (.int .i64)])],[]⟩
def F_sets_First_ann:List (Nat×Ann):=[]
noncomputable def F_sets_First_env:Env:=⟨Tryd.prog,[],[]⟩
theorem F_sets_First_text:pvFn F_sets_First_env F_sets_First_ann Tryd.f22 F_sets_First_sig=F_sets_First:=by kernel_rfl
noncomputable def F_stat_Size (s1:List Int) (s2:List Int) (b3:Bool):Option (Int):=
 some (IntKind.i64.wrap ((IntKind.i64.wrap ((s1.length:Int)+(s2.length:Int)))+32))
def F_stat_Size_sig:Sig:=⟨[.v true [.d .str,.d .str,.d .bool]],[(false,[.d (.int .i64)])],[]⟩
def F_stat_Size_ann:List (Nat×Ann):=[]
noncomputable def F_stat_Size_env:Env:=⟨Tryd.prog,[],[]⟩
theorem F_stat_Size_text:pvFn F_stat_Size_env F_stat_Size_ann Tryd.f66 F_stat_Size_sig=F_stat_Size:=by kernel_rfl
noncomputable def F_dyn_Table_shrinks_L2 (p1:Int) (i2:Int) (s:Int×Zt3):Option (((Zt3)⊕(Int×Zt3))⊕(Int×Zt3)):=
 let i4:=s.1;let l5:=s.2
 chk (nnI p1)
 ((getI l5 p1).bind fun x6=>
 cond (decide (i4 < (x6.1.length:Int)))
 (chk (nnI p1)
 ((getI l5 p1).bind fun x7=>
 cond (decide (x7.2.1 > i2))
 (chk (nnI p1)
 ((getI l5 p1).bind fun x8=>
 chk (nnI p1)
 ((getI l5 p1).bind fun x9=>
 (getI x9.1 i4).bind fun x10=>
 (F_stat_Size x10.1 x10.2.1 x10.2.2).bind fun i11=>
 chk (nnI p1)
 ((getI l5 p1).bind fun x12=>
 some (.inr ((IntKind.i64.wrap (i4+1)),(l5.set (Int.toNat p1) (x12.1,((IntKind.i64.wrap (x8.2.1 - i11)),x12.2.2)))))))))
 (some (.inl (.inr (i4,l5))))))
 (some (.inl (.inr (i4,l5)))))
noncomputable def F_dyn_Table_shrinks_J1 (p1:Int) (s:Int×Zt3):Option (Zt3):=
 let i13:=s.1;let l14:=s.2
 chk (nnI p1)
 ((getI l14 p1).bind fun x15=>
 (cutI x15.1 i13 (x15.1.length:Int)).bind fun l16=>
 chk (nnI p1)
 ((getI l14 p1).bind fun x17=>
 chk (eqI p1 p1)
 (some (l14.set (Int.toNat p1) (l16,x17.2)))))
noncomputable def F_dyn_Table_shrinks (p1:Int) (i2:Int) (l3:Zt3):Option (Zt3):=
 joinC (S:=Int×Zt3) (R:=Zt3)
 (loopC (S:=Int×Zt3) (R:=(Zt3)⊕(Int×Zt3)) (F_dyn_Table_shrinks_L2 p1 i2) (0,l3))
 (F_dyn_Table_shrinks_J1 p1)
def F_dyn_Table_shrinks_sig:Sig:=⟨[.v false [.d (.ptr 91)],.v false [.d (.int .i64)]],[],[(1000182,Zp10,true)]⟩
def F_dyn_Table_shrinks_ann:List (Nat×Ann):=[(1,⟨2,[(4,false,[.d (.int .i64)])],[],(List.range' 5 32),[],[(1000182,Zp10,true)],[]⟩),(2,⟨3,[(4,false,[.d (.int .i64)])],[],(List.range' 5 32),[],[(1000182,Zp10,true)],[]⟩)]
noncomputable def F_dyn_Table_shrinks_env:Env:=⟨Tryd.prog,[(66,⟨F_stat_Size_sig,⟨F_stat_Size⟩⟩)],[41]⟩
theorem F_dyn_Table_shrinks_text:pvFn F_dyn_Table_shrinks_env F_dyn_Table_shrinks_ann Tryd.f57 F_dyn_Table_shrinks_sig=F_dyn_Table_shrinks:=by kernel_rfl
noncomputable def F_dyn_Table_Limit (p1:Int) (i2:Int) (l3:Zt3):Option (Int×Zt3):=
 cond ((decide (i2 < 0))||(decide (i2 > 4096)))
 (some (1,l3))
 (chk (nnI p1)
 ((getI l3 p1).bind fun x4=>
 (F_dyn_Table_shrinks p1 i2 (l3.set (Int.toNat p1) (x4.1,(x4.2.1,i2)))).bind fun l5=>
 chk (nnI p1)
 ((getI l5 p1).bind fun x6=>
 (F_slices_Clone_stat_Field_stat_Field x6.1).bind fun l7=>
 chk (nnI p1)
 ((getI l5 p1).bind fun x8=>
 chk (true)
 (some (0,(l5.set (Int.toNat p1) (l7,x8.2))))))))
def F_dyn_Table_Limit_sig:Sig:=⟨[.v false [.d (.ptr 91)],.v false [.d (.int .i64)]],[(false,[.d (.int .i64)])],[(1000182,Zp10,true)]⟩
def F_dyn_Table_Limit_ann:List (Nat×Ann):=[]
noncomputable def F_dyn_Table_Limit_env:Env:=⟨Tryd.prog,[(57,⟨F_dyn_Table_shrinks_sig,⟨F_dyn_Table_shrinks⟩⟩),(58,⟨F_slices_Clone_stat_Field_stat_Field_sig,⟨F_slices_Clone_stat_Field_stat_Field⟩⟩)],[]⟩
theorem F_dyn_Table_Limit_text:pvFn F_dyn_Table_Limit_env F_dyn_Table_Limit_ann Tryd.f37 F_dyn_Table_Limit_sig=F_dyn_Table_Limit:=by kernel_rfl
noncomputable def F_dyn_New (i1:Int) (l2:Zt3):Option (Int×Int×Zt3):=
 (F_dyn_Table_Limit (l2.length:Int) i1 (l2++[(([]:Zt6),(0,0))])).bind fun x3=>
 cond (x3.1 != 0)
 (some ((-1:Int),1,x3.2))
 (some ((l2.length:Int),0,x3.2))
def F_dyn_New_sig:Sig:=⟨[.v false [.d (.int .i64)]],[(false,[.d (.ptr 91)]),(false,[.d (.int .i64)])],[(1000182,Zp10,true)]⟩
def F_dyn_New_ann:List (Nat×Ann):=[]
noncomputable def F_dyn_New_env:Env:=⟨Tryd.prog,[(37,⟨F_dyn_Table_Limit_sig,⟨F_dyn_Table_Limit⟩⟩)],[]⟩
theorem F_dyn_New_text:pvFn F_dyn_New_env F_dyn_New_ann Tryd.f30 F_dyn_New_sig=F_dyn_New:=by kernel_rfl
noncomputable def F_unpack_New (l1:Zt7) (l2:Zt3):Option (Int×Zt7×Zt3):=
 (F_dyn_New 4096 l2).bind fun x3=>
 some ((l1.length:Int),(l1++[(x3.1,false)]),x3.2.2)
def F_unpack_New_sig:Sig:=⟨[],[(false,[.d (.ptr 78)])],[(1000156,Zp16,true),(1000182,Zp10,true)]⟩
def F_unpack_New_ann:List (Nat×Ann):=[]
noncomputable def F_unpack_New_env:Env:=⟨Tryd.prog,[(30,⟨F_dyn_New_sig,⟨F_dyn_New⟩⟩)],[]⟩
theorem F_unpack_New_text:pvFn F_unpack_New_env F_unpack_New_ann Tryd.f23 F_unpack_New_sig=F_unpack_New:=by kernel_rfl
noncomputable def F_watch_New (l1:Zt5) (l2:Zt1) (l3:Zt4) (l4:Zt7) (l5:Zt3):Option (Int×Zt5×Zt1×Zt4×Zt7×Zt3):=
 (F_frame_New 16384 l3).bind fun x6=>
 (F_frame_New 16384 x6.2).bind fun x7=>
 (F_sets_First).bind fun x8=>
 (F_unpack_New l4 l5).bind fun x9=>
 some ((l2.length:Int),(l1++[[]]),(l2++[(0,(x6.1,(x7.1,(false,(false,(false,(0,((l1.length:Int),(65535,(([]:Zt5),((x8.1,(x8.2.1,(x8.2.2.1,(x8.2.2.2.1,(x8.2.2.2.2.1,x8.2.2.2.2.2))))),(x9.1,(0,false)))))))))))))]),x7.2,x9.2.1,x9.2.2)
def F_watch_New_sig:Sig:=⟨[],[(false,[.d (.ptr 59)])],[(1000103,(.sl Zp14),true),(1000118,Zp8,true),(1000146,Zp12,true),(1000156,Zp16,true),(1000182,Zp10,true)]⟩
def F_watch_New_ann:List (Nat×Ann):=[]
noncomputable def F_watch_New_env:Env:=⟨Tryd.prog,[(21,⟨F_frame_New_sig,⟨F_frame_New⟩⟩),(22,⟨F_sets_First_sig,⟨F_sets_First⟩⟩),(23,⟨F_unpack_New_sig,⟨F_unpack_New⟩⟩)],[]⟩
theorem F_watch_New_text:pvFn F_watch_New_env F_watch_New_ann Tryd.f8 F_watch_New_sig=F_watch_New:=by kernel_rfl
noncomputable def F_wlvref10_num_L4 (i1:Int) (s:List Int×Int):Option (((List Int)⊕(List Int))⊕(List Int×Int)):=
 let l3:=s.1;let i4:=s.2
 cond (decide (i4 >= 0))
 (chk (decide (0<=(IntKind.u64.wrap (IntKind.i64.wrap (8*i4)))))
 (chk (decide ((l3.length+([(IntKind.u8.wrap (Int.fdiv i1 (2 ^ (min ((IntKind.u64.wrap (IntKind.i64.wrap (8*i4)))).toNat 64))))]:List Int).length)*1<=140737488355328)&&decide (l3.length+([(IntKind.u8.wrap (Int.fdiv i1 (2 ^ (min ((IntKind.u64.wrap (IntKind.i64.wrap (8*i4)))).toNat 64))))]:List Int).length<=maxLen))
 (some (.inr ((l3++([(IntKind.u8.wrap (Int.fdiv i1 (2 ^ (min ((IntKind.u64.wrap (IntKind.i64.wrap (8*i4)))).toNat 64))))]:List Int)),(IntKind.i64.wrap (i4 - 1)))))))
 (some (.inl (.inr l3)))
noncomputable def F_wlvref10_num_J2 (s:List Int):Option (List Int):=
 let l5:=s
 some l5
noncomputable def F_wlvref10_num (i1:Int) (i2:Int):Option (List Int):=
 joinC (S:=List Int) (R:=List Int)
 (loopC (S:=List Int×Int) (R:=(List Int)⊕(List Int)) (F_wlvref10_num_L4 i1) (([]:List Int),(IntKind.i64.wrap (i2 - 1))))
 (F_wlvref10_num_J2)
def F_wlvref10_num_sig:Sig:=⟨[.v false [.d (.int .i64)],.v false [.d (.int .i64)]],[(false,[.own 5 (.int .u8)])],[]⟩
def F_wlvref10_num_ann:List (Nat×Ann):=[(2,⟨3,[(5,false,[.own 5 (.int .u8)])],[],(List.range' 6 16),[],[],[]⟩),(4,⟨5,[(5,false,[.own 5 (.int .u8)]),(6,false,[.d (.int .i64)])],[],(List.range' 9 13),[],[],[]⟩)]
noncomputable def F_wlvref10_num_env:Env:=⟨Tryd.prog,[],[]⟩
theorem F_wlvref10_num_text:pvFn F_wlvref10_num_env F_wlvref10_num_ann Tryd.f27 F_wlvref10_num_sig=F_wlvref10_num:=by kernel_rfl
noncomputable def F_wlvref10_Settings_L6 (l1:List (Int×Int)) (s:Int×Int×Int×Int×List Int×Int×Int×Int×List Int):Option (((Int×Int×Int×List Int)⊕(Int×Int×Int×List Int×Int×Int×Int×List Int))⊕(Int×Int×Int×Int×List Int×Int×Int×Int×List Int)):=
 let i3:=s.1;let i4:=s.2.1;let i5:=s.2.2.1;let i6:=s.2.2.2.1;let l7:=s.2.2.2.2.1;let i9:=s.2.2.2.2.2.1;let i10:=s.2.2.2.2.2.2.1;let i11:=s.2.2.2.2.2.2.2.1;let l12:=s.2.2.2.2.2.2.2.2
 cond (decide (i3 < (l1.length:Int)))
 ((getI l1 i3).bind fun x13=>
 (F_wlvref10_num x13.1 2).bind fun l14=>
 chk (decide ((l12.length+l14.length)*1<=140737488355328)&&decide (l12.length+l14.length<=maxLen))
 ((getI l1 i3).bind fun x15=>
 (F_wlvref10_num x15.2 4).bind fun l16=>
 chk (decide (((l12++l14).length+l16.length)*1<=140737488355328)&&decide ((l12++l14).length+l16.length<=maxLen))
 (some (.inr ((IntKind.i64.wrap (i3+1)),i4,i5,i6,l7,i9,i10,i11,((l12++l14)++l16))))))
 (some (.inl (.inr (i4,i5,i6,l7,i9,i10,i11,l12))))
noncomputable def F_wlvref10_Settings_J4 (s:Int×Int×Int×List Int×Int×Int×Int×List Int):Option (Int×Int×Int×List Int):=
 let i17:=s.1;let i18:=s.2.1;let i19:=s.2.2.1;let l20:=s.2.2.2.1;let i21:=s.2.2.2.2.1;let i22:=s.2.2.2.2.2.1;let i23:=s.2.2.2.2.2.2.1;let l24:=s.2.2.2.2.2.2.2
 some (i21,i22,i23,l24)
noncomputable def F_wlvref10_Settings (l1:List (Int×Int)) (b2:Bool):Option (Int×Int×Int×List Int):=
 cond b2
 (joinC (S:=Int×Int×Int×List Int×Int×Int×Int×List Int) (R:=Int×Int×Int×List Int)
 (loopC (S:=Int×Int×Int×Int×List Int×Int×Int×Int×List Int) (R:=(Int×Int×Int×List Int)⊕(Int×Int×Int×List Int×Int×Int×Int×List Int)) (F_wlvref10_Settings_L6 l1) (0,0,0,0,([]:List Int),4,1,0,([]:List Int)))
 (F_wlvref10_Settings_J4))
 (joinC (S:=Int×Int×Int×List Int×Int×Int×Int×List Int) (R:=Int×Int×Int×List Int)
 (loopC (S:=Int×Int×Int×Int×List Int×Int×Int×Int×List Int) (R:=(Int×Int×Int×List Int)⊕(Int×Int×Int×List Int×Int×Int×Int×List Int)) (F_wlvref10_Settings_L6 l1) (0,0,0,0,([]:List Int),4,0,0,([]:List Int)))
 (F_wlvref10_Settings_J4))
def F_wlvref10_Settings_sig:Sig:=⟨[.v false [.d (.sl Zp13)],.v false [.d .bool]],[(true,[.d (.int .i64),.d (.int .i64),.d (.int .i64),.own 5 (.int .u8)])],[]⟩
def F_wlvref10_Settings_ann:List (Nat×Ann):=[(4,⟨5,[],[(4,[.d (.int .i64),.d (.int .i64),.d (.int .i64),.own 5 (.int .u8)]),(5,[.d (.int .i64),.d (.int .i64),.d (.int .i64),.own 5 (.int .u8)])],([6]++List.range' 10 23),[],[],[]⟩),(6,⟨7,[(6,false,[.d (.int .i64)])],[(4,[.d (.int .i64),.d (.int .i64),.d (.int .i64),.own 5 (.int .u8)]),(5,[.d (.int .i64),.d (.int .i64),.d (.int .i64),.own 5 (.int .u8)])],(List.range' 10 23),[],[],[]⟩)]
noncomputable def F_wlvref10_Settings_env:Env:=⟨Tryd.prog,[(27,⟨F_wlvref10_num_sig,⟨F_wlvref10_num⟩⟩)],[17]⟩
theorem F_wlvref10_Settings_text:pvFn F_wlvref10_Settings_env F_wlvref10_Settings_ann Tryd.f11 F_wlvref10_Settings_sig=F_wlvref10_Settings:=by kernel_rfl
noncomputable def F_frame_Parser_Feed (p1:Int) (l2:List Int) (l3:Zt4):Option (Zt4):=
 chk (nnI p1)
 ((getI l3 p1).bind fun x4=>
 (F_slices_Concat_byte_byte ([x4.2,l2]:List (List Int))).bind fun l5=>
 chk (nnI p1)
 ((getI l3 p1).bind fun x6=>
 some (l3.set (Int.toNat p1) (x6.1,l5))))
def F_frame_Parser_Feed_sig:Sig:=⟨[.v false [.d (.ptr 73)],.v false [.d (.sl (.int .u8))]],[],[(1000146,Zp12,true)]⟩
def F_frame_Parser_Feed_ann:List (Nat×Ann):=[]
noncomputable def F_frame_Parser_Feed_env:Env:=⟨Tryd.prog,[(31,⟨F_slices_Concat_byte_byte_sig,⟨F_slices_Concat_byte_byte⟩⟩)],[]⟩
theorem F_frame_Parser_Feed_text:pvFn F_frame_Parser_Feed_env F_frame_Parser_Feed_ann Tryd.f24 F_frame_Parser_Feed_sig=F_frame_Parser_Feed:=by kernel_rfl
noncomputable def F_frame_Parser_Next_G1_0 (s:Int×Int×Int×List Int×Zt4):Option ((Int×Int×Int×List Int×Int×Zt4)⊕(Nat×Int×Int×Int×List Int×Zt4)):=
 let i30:=s.1;let i31:=s.2.1;let i33:=s.2.2.1;let l34:=s.2.2.2.1;let l35:=s.2.2.2.2
 some (.inl (0,0,0,([]:List Int),4,l35))
noncomputable def F_frame_Parser_Next_G1 (p:Nat×Int×Int×Int×List Int×Zt4):Option ((Int×Int×Int×List Int×Int×Zt4)⊕(Nat×Int×Int×Int×List Int×Zt4)):=
 cond (hasN [0] p.1) (F_frame_Parser_Next_G1_0 p.2) (none)
noncomputable def F_frame_Parser_Next (p1:Int) (l2:Zt4):Option (Int×Int×Int×List Int×Int×Zt4):=
 joinC (S:=Nat×Int×Int×Int×List Int×Zt4) (R:=Int×Int×Int×List Int×Int×Zt4)
 (chk (nnI p1)
 ((getI l2 p1).bind fun x3=>
 cond (decide ((x3.2.length:Int) < 9))
 (some (.inr (0,(0,0,0,([]:List Int),l2))))
 (chk (nnI p1)
 ((getI l2 p1).bind fun x4=>
 (getI x4.2 0).bind fun i5=>
 chk (nnI p1)
 ((getI l2 p1).bind fun x6=>
 (getI x6.2 1).bind fun i7=>
 chk (nnI p1)
 ((getI l2 p1).bind fun x8=>
 (getI x8.2 2).bind fun i9=>
 chk (nnI p1)
 ((getI l2 p1).bind fun x10=>
 cond (decide ((bits .or .i64 (bits .or .i64 (IntKind.i64.wrap ((IntKind.i64.wrap i5)*2 ^ 16)) (IntKind.i64.wrap ((IntKind.i64.wrap i7)*2 ^ 8))) (IntKind.i64.wrap i9)) > x10.1))
 (some (.inl (0,0,0,([]:List Int),3,l2)))
 (chk (nnI p1)
 ((getI l2 p1).bind fun x11=>
 cond (decide ((IntKind.i64.wrap ((x11.2.length:Int) - 9)) < (bits .or .i64 (bits .or .i64 (IntKind.i64.wrap ((IntKind.i64.wrap i5)*2 ^ 16)) (IntKind.i64.wrap ((IntKind.i64.wrap i7)*2 ^ 8))) (IntKind.i64.wrap i9))))
 (some (.inr (0,(0,0,0,([]:List Int),l2))))
 (chk (nnI p1)
 ((getI l2 p1).bind fun x12=>
 (getI x12.2 3).bind fun i13=>
 chk (nnI p1)
 ((getI l2 p1).bind fun x14=>
 (getI x14.2 4).bind fun i15=>
 chk (nnI p1)
 ((getI l2 p1).bind fun x16=>
 (getI x16.2 5).bind fun i17=>
 chk (nnI p1)
 ((getI l2 p1).bind fun x18=>
 (getI x18.2 6).bind fun i19=>
 chk (nnI p1)
 ((getI l2 p1).bind fun x20=>
 (getI x20.2 7).bind fun i21=>
 chk (nnI p1)
 ((getI l2 p1).bind fun x22=>
 (getI x22.2 8).bind fun i23=>
 chk (nnI p1)
 ((getI l2 p1).bind fun x24=>
 (cutI x24.2 9 (IntKind.i64.wrap (9+(bits .or .i64 (bits .or .i64 (IntKind.i64.wrap ((IntKind.i64.wrap i5)*2 ^ 16)) (IntKind.i64.wrap ((IntKind.i64.wrap i7)*2 ^ 8))) (IntKind.i64.wrap i9))))).bind fun l25=>
 (F_bytes_Clone l25).bind fun l26=>
 chk (nnI p1)
 ((getI l2 p1).bind fun x27=>
 (cutI x27.2 (IntKind.i64.wrap (9+(bits .or .i64 (bits .or .i64 (IntKind.i64.wrap ((IntKind.i64.wrap i5)*2 ^ 16)) (IntKind.i64.wrap ((IntKind.i64.wrap i7)*2 ^ 8))) (IntKind.i64.wrap i9)))) (x27.2.length:Int)).bind fun l28=>
 chk (nnI p1)
 ((getI l2 p1).bind fun x29=>
 some (.inl ((IntKind.i64.wrap i13),(IntKind.i64.wrap i15),(bits .and .i64 (bits .or .i64 (bits .or .i64 (bits .or .i64 (IntKind.i64.wrap ((IntKind.i64.wrap i17)*2 ^ 24)) (IntKind.i64.wrap ((IntKind.i64.wrap i19)*2 ^ 16))) (IntKind.i64.wrap ((IntKind.i64.wrap i21)*2 ^ 8))) (IntKind.i64.wrap i23)) 2147483647),l26,0,(l2.set (Int.toNat p1) (x29.1,l28)))))))))))))))))))))))
 (fun p=>loopC (S:=Nat×Int×Int×Int×List Int×Zt4) (R:=Int×Int×Int×List Int×Int×Zt4) (F_frame_Parser_Next_G1) p)
def F_frame_Parser_Next_sig:Sig:=⟨[.v false [.d (.ptr 73)]],[(true,[.d (.int .i64),.d (.int .i64),.d (.int .i64),.own 5 (.int .u8)]),(false,[.d (.int .i64)])],[(1000146,Zp12,true)]⟩
def F_frame_Parser_Next_ann:List (Nat×Ann):=[(1,⟨2,[],[(2,[.d (.int .i64),.d (.int .i64),.d (.int .i64),.own 5 (.int .u8)])],(List.range' 3 122),[],[(1000146,Zp12,true)],[]⟩)]
noncomputable def F_frame_Parser_Next_env:Env:=⟨Tryd.prog,[(29,⟨F_bytes_Clone_sig,⟨F_bytes_Clone⟩⟩)],[117]⟩
theorem F_frame_Parser_Next_text:pvFn F_frame_Parser_Next_env F_frame_Parser_Next_ann Tryd.f25 F_frame_Parser_Next_sig=F_frame_Parser_Next:=by kernel_rfl
noncomputable def F_part_conn (i1:Int):Option (List Int×Int×Int×Int×Int×List (Int×Int)×Bool×Bool×Bool×Bool×Bool×Int):=
 some (([]:List Int),0,0,0,0,([]:List (Int×Int)),false,false,false,true,true,i1)
def F_part_conn_sig:Sig:=⟨[.v false [.d (.int .i64)]],[(true,[.own 5 (.int .u8),.d (.int .i64),.d (.int .i64),.d (.int .i64),.d (.int .i64),.own 66 Zp13,.d .bool,.d .bool,.d .bool]),(true,[.d .bool,.d .bool,.d (.int .i64)])],[]⟩
def F_part_conn_ann:List (Nat×Ann):=[]
noncomputable def F_part_conn_env:Env:=⟨Tryd.prog,[],[]⟩
theorem F_part_conn_text:pvFn F_part_conn_env F_part_conn_ann Tryd.f41 F_part_conn_sig=F_part_conn:=by kernel_rfl
noncomputable def F_part_bodied_G1_0 (i1:Int) (i2:Int) (s:List Int×Int×List Int×Int×Int×Int×Int×List (Int×Int)×Bool×Bool×Bool×List Int×Int×Int×Int×Int×List (Int×Int)×Bool×Bool×Bool×Bool×Bool×Int):Option ((List Int×Int×Int×Int×Int×List (Int×Int)×Bool×Bool×Bool×Bool×Bool×Int)⊕(Nat×List Int×Int×List Int×Int×Int×Int×Int×List (Int×Int)×Bool×Bool×Bool×List Int×Int×Int×Int×Int×List (Int×Int)×Bool×Bool×Bool×Bool×Bool×Int)):=
 let l24:=s.1;let i25:=s.2.1;let l26:=s.2.2.1;let i27:=s.2.2.2.1;let i28:=s.2.2.2.2.1;let i29:=s.2.2.2.2.2.1;let i30:=s.2.2.2.2.2.2.1;let l31:=s.2.2.2.2.2.2.2.1;let b32:=s.2.2.2.2.2.2.2.2.1;let b33:=s.2.2.2.2.2.2.2.2.2.1;let b34:=s.2.2.2.2.2.2.2.2.2.2.1;let l35:=s.2.2.2.2.2.2.2.2.2.2.2.1;let i36:=s.2.2.2.2.2.2.2.2.2.2.2.2.1;let i37:=s.2.2.2.2.2.2.2.2.2.2.2.2.2.1;let i38:=s.2.2.2.2.2.2.2.2.2.2.2.2.2.2.1;let i39:=s.2.2.2.2.2.2.2.2.2.2.2.2.2.2.2.1;let l40:=s.2.2.2.2.2.2.2.2.2.2.2.2.2.2.2.2.1;let b41:=s.2.2.2.2.2.2.2.2.2.2.2.2.2.2.2.2.2.1;let b42:=s.2.2.2.2.2.2.2.2.2.2.2.2.2.2.2.2.2.2.1;let b43:=s.2.2.2.2.2.2.2.2.2.2.2.2.2.2.2.2.2.2.2.1;let b44:=s.2.2.2.2.2.2.2.2.2.2.2.2.2.2.2.2.2.2.2.2.1;let b45:=s.2.2.2.2.2.2.2.2.2.2.2.2.2.2.2.2.2.2.2.2.2.1;let i46:=s.2.2.2.2.2.2.2.2.2.2.2.2.2.2.2.2.2.2.2.2.2.2
 cond (i1==0)
 (some (.inr (1,(l24,i25,l26,i27,i28,i29,i30,l31,b32,b33,b34,l35,i36,i37,i38,i39,l40,b41,b42,b43,b44,b45,i46))))
 (cond ((bits .and .i64 i2 32)==0)
 (some (.inr (1,(l24,i25,l26,i27,i28,i29,i30,l31,b32,b33,b34,l35,i36,i37,i38,i39,l40,b41,b42,b43,b44,b45,i46))))
 (cond (decide ((l24.length:Int) < 5))
 ((F_part_conn 6).bind fun x47=>
 some (.inl (x47.1,x47.2.1,x47.2.2.1,x47.2.2.2.1,x47.2.2.2.2.1,x47.2.2.2.2.2.1,x47.2.2.2.2.2.2.1,x47.2.2.2.2.2.2.2.1,x47.2.2.2.2.2.2.2.2.1,x47.2.2.2.2.2.2.2.2.2.1,x47.2.2.2.2.2.2.2.2.2.2.1,x47.2.2.2.2.2.2.2.2.2.2.2)))
 ((cutI l24 5 (l24.length:Int)).bind fun l48=>
 cond (decide (i25 > (l48.length:Int)))
 ((F_part_conn 1).bind fun x49=>
 some (.inl (x49.1,x49.2.1,x49.2.2.1,x49.2.2.2.1,x49.2.2.2.2.1,x49.2.2.2.2.2.1,x49.2.2.2.2.2.2.1,x49.2.2.2.2.2.2.2.1,x49.2.2.2.2.2.2.2.2.1,x49.2.2.2.2.2.2.2.2.2.1,x49.2.2.2.2.2.2.2.2.2.2.1,x49.2.2.2.2.2.2.2.2.2.2.2)))
 ((cutI l48 0 (IntKind.i64.wrap ((l48.length:Int) - i25))).bind fun l50=>
 (F_bytes_Clone l50).bind fun l51=>
 some (.inl (l51,i27,i28,i29,i30,l31,b32,b33,b34,false,false,0))))))
noncomputable def F_part_bodied_G1_1 (s:List Int×Int×List Int×Int×Int×Int×Int×List (Int×Int)×Bool×Bool×Bool×List Int×Int×Int×Int×Int×List (Int×Int)×Bool×Bool×Bool×Bool×Bool×Int):Option ((List Int×Int×Int×Int×Int×List (Int×Int)×Bool×Bool×Bool×Bool×Bool×Int)⊕(Nat×List Int×Int×List Int×Int×Int×Int×Int×List (Int×Int)×Bool×Bool×Bool×List Int×Int×Int×Int×Int×List (Int×Int)×Bool×Bool×Bool×Bool×Bool×Int)):=
 let l24:=s.1;let i25:=s.2.1;let l26:=s.2.2.1;let i27:=s.2.2.2.1;let i28:=s.2.2.2.2.1;let i29:=s.2.2.2.2.2.1;let i30:=s.2.2.2.2.2.2.1;let l31:=s.2.2.2.2.2.2.2.1;let b32:=s.2.2.2.2.2.2.2.2.1;let b33:=s.2.2.2.2.2.2.2.2.2.1;let b34:=s.2.2.2.2.2.2.2.2.2.2.1;let l35:=s.2.2.2.2.2.2.2.2.2.2.2.1;let i36:=s.2.2.2.2.2.2.2.2.2.2.2.2.1;let i37:=s.2.2.2.2.2.2.2.2.2.2.2.2.2.1;let i38:=s.2.2.2.2.2.2.2.2.2.2.2.2.2.2.1;let i39:=s.2.2.2.2.2.2.2.2.2.2.2.2.2.2.2.1;let l40:=s.2.2.2.2.2.2.2.2.2.2.2.2.2.2.2.2.1;let b41:=s.2.2.2.2.2.2.2.2.2.2.2.2.2.2.2.2.2.1;let b42:=s.2.2.2.2.2.2.2.2.2.2.2.2.2.2.2.2.2.2.1;let b43:=s.2.2.2.2.2.2.2.2.2.2.2.2.2.2.2.2.2.2.2.1;let b44:=s.2.2.2.2.2.2.2.2.2.2.2.2.2.2.2.2.2.2.2.2.1;let b45:=s.2.2.2.2.2.2.2.2.2.2.2.2.2.2.2.2.2.2.2.2.2.1;let i46:=s.2.2.2.2.2.2.2.2.2.2.2.2.2.2.2.2.2.2.2.2.2.2
 cond (decide (i25 > (l24.length:Int)))
 ((F_part_conn 1).bind fun x52=>
 some (.inl (x52.1,x52.2.1,x52.2.2.1,x52.2.2.2.1,x52.2.2.2.2.1,x52.2.2.2.2.2.1,x52.2.2.2.2.2.2.1,x52.2.2.2.2.2.2.2.1,x52.2.2.2.2.2.2.2.2.1,x52.2.2.2.2.2.2.2.2.2.1,x52.2.2.2.2.2.2.2.2.2.2.1,x52.2.2.2.2.2.2.2.2.2.2.2)))
 ((cutI l24 0 (IntKind.i64.wrap ((l24.length:Int) - i25))).bind fun l53=>
 (F_bytes_Clone l53).bind fun l54=>
 some (.inl (l54,i27,i28,i29,i30,l31,b32,b33,b34,false,false,0)))
noncomputable def F_part_bodied_G1 (i1:Int) (i2:Int) (p:Nat×List Int×Int×List Int×Int×Int×Int×Int×List (Int×Int)×Bool×Bool×Bool×List Int×Int×Int×Int×Int×List (Int×Int)×Bool×Bool×Bool×Bool×Bool×Int):Option ((List Int×Int×Int×Int×Int×List (Int×Int)×Bool×Bool×Bool×Bool×Bool×Int)⊕(Nat×List Int×Int×List Int×Int×Int×Int×Int×List (Int×Int)×Bool×Bool×Bool×List Int×Int×Int×Int×Int×List (Int×Int)×Bool×Bool×Bool×Bool×Bool×Int)):=
 cond (hasN [0] p.1) (F_part_bodied_G1_0 i1 i2 p.2) (cond (hasN [1] p.1) (F_part_bodied_G1_1 p.2) (none))
noncomputable def F_part_bodied (i1:Int) (i2:Int) (i3:Int) (l4:List Int):Option (List Int×Int×Int×Int×Int×List (Int×Int)×Bool×Bool×Bool×Bool×Bool×Int):=
 joinC (S:=Nat×List Int×Int×List Int×Int×Int×Int×Int×List (Int×Int)×Bool×Bool×Bool×List Int×Int×Int×Int×Int×List (Int×Int)×Bool×Bool×Bool×Bool×Bool×Int) (R:=List Int×Int×Int×Int×Int×List (Int×Int)×Bool×Bool×Bool×Bool×Bool×Int)
 (cond (i1==1)
 (cond (i3==0)
 ((F_part_conn 1).bind fun x5=>
 some (.inl (x5.1,x5.2.1,x5.2.2.1,x5.2.2.2.1,x5.2.2.2.2.1,x5.2.2.2.2.2.1,x5.2.2.2.2.2.2.1,x5.2.2.2.2.2.2.2.1,x5.2.2.2.2.2.2.2.2.1,x5.2.2.2.2.2.2.2.2.2.1,x5.2.2.2.2.2.2.2.2.2.2.1,x5.2.2.2.2.2.2.2.2.2.2.2)))
 (cond ((bits .and .i64 i2 8)==0)
 (some (.inr (0,(l4,0,([]:List Int),0,0,0,0,([]:List (Int×Int)),(decide ((bits .and .i64 i2 1) > 0)),false,(decide ((bits .and .i64 i2 4) > 0)),([]:List Int),0,0,0,0,([]:List (Int×Int)),false,false,false,false,false,0))))
 (cond ((l4.length:Int)==0)
 ((F_part_conn 6).bind fun x6=>
 some (.inl (x6.1,x6.2.1,x6.2.2.1,x6.2.2.2.1,x6.2.2.2.2.1,x6.2.2.2.2.2.1,x6.2.2.2.2.2.2.1,x6.2.2.2.2.2.2.2.1,x6.2.2.2.2.2.2.2.2.1,x6.2.2.2.2.2.2.2.2.2.1,x6.2.2.2.2.2.2.2.2.2.2.1,x6.2.2.2.2.2.2.2.2.2.2.2)))
 ((getI l4 0).bind fun i7=>
 (cutI l4 1 (l4.length:Int)).bind fun l8=>
 cond (i1==0)
 (some (.inr (1,(l8,(IntKind.i64.wrap i7),([]:List Int),(IntKind.i64.wrap ((IntKind.i64.wrap i7)+1)),0,0,0,([]:List (Int×Int)),(decide ((bits .and .i64 i2 1) > 0)),false,(decide ((bits .and .i64 i2 4) > 0)),([]:List Int),0,0,0,0,([]:List (Int×Int)),false,false,false,false,false,0))))
 (cond ((bits .and .i64 i2 32)==0)
 (some (.inr (1,(l8,(IntKind.i64.wrap i7),([]:List Int),(IntKind.i64.wrap ((IntKind.i64.wrap i7)+1)),0,0,0,([]:List (Int×Int)),(decide ((bits .and .i64 i2 1) > 0)),false,(decide ((bits .and .i64 i2 4) > 0)),([]:List Int),0,0,0,0,([]:List (Int×Int)),false,false,false,false,false,0))))
 (cond (decide ((l8.length:Int) < 5))
 ((F_part_conn 6).bind fun x9=>
 some (.inl (x9.1,x9.2.1,x9.2.2.1,x9.2.2.2.1,x9.2.2.2.2.1,x9.2.2.2.2.2.1,x9.2.2.2.2.2.2.1,x9.2.2.2.2.2.2.2.1,x9.2.2.2.2.2.2.2.2.1,x9.2.2.2.2.2.2.2.2.2.1,x9.2.2.2.2.2.2.2.2.2.2.1,x9.2.2.2.2.2.2.2.2.2.2.2)))
 ((cutI l8 5 (l8.length:Int)).bind fun l10=>
 cond (decide ((IntKind.i64.wrap i7) > (l10.length:Int)))
 ((F_part_conn 1).bind fun x11=>
 some (.inl (x11.1,x11.2.1,x11.2.2.1,x11.2.2.2.1,x11.2.2.2.2.1,x11.2.2.2.2.2.1,x11.2.2.2.2.2.2.1,x11.2.2.2.2.2.2.2.1,x11.2.2.2.2.2.2.2.2.1,x11.2.2.2.2.2.2.2.2.2.1,x11.2.2.2.2.2.2.2.2.2.2.1,x11.2.2.2.2.2.2.2.2.2.2.2)))
 ((cutI l10 0 (IntKind.i64.wrap ((l10.length:Int) - (IntKind.i64.wrap i7)))).bind fun l12=>
 (F_bytes_Clone l12).bind fun l13=>
 some (.inl (l13,(IntKind.i64.wrap ((IntKind.i64.wrap i7)+1)),0,0,0,([]:List (Int×Int)),(decide ((bits .and .i64 i2 1) > 0)),false,(decide ((bits .and .i64 i2 4) > 0)),false,false,0))))))))))
 (cond (i3==0)
 ((F_part_conn 1).bind fun x14=>
 some (.inl (x14.1,x14.2.1,x14.2.2.1,x14.2.2.2.1,x14.2.2.2.2.1,x14.2.2.2.2.2.1,x14.2.2.2.2.2.2.1,x14.2.2.2.2.2.2.2.1,x14.2.2.2.2.2.2.2.2.1,x14.2.2.2.2.2.2.2.2.2.1,x14.2.2.2.2.2.2.2.2.2.2.1,x14.2.2.2.2.2.2.2.2.2.2.2)))
 (cond ((bits .and .i64 i2 8)==0)
 (some (.inr (0,(l4,0,([]:List Int),0,0,0,0,([]:List (Int×Int)),(decide ((bits .and .i64 i2 1) > 0)),false,false,([]:List Int),0,0,0,0,([]:List (Int×Int)),false,false,false,false,false,0))))
 (cond ((l4.length:Int)==0)
 ((F_part_conn 6).bind fun x15=>
 some (.inl (x15.1,x15.2.1,x15.2.2.1,x15.2.2.2.1,x15.2.2.2.2.1,x15.2.2.2.2.2.1,x15.2.2.2.2.2.2.1,x15.2.2.2.2.2.2.2.1,x15.2.2.2.2.2.2.2.2.1,x15.2.2.2.2.2.2.2.2.2.1,x15.2.2.2.2.2.2.2.2.2.2.1,x15.2.2.2.2.2.2.2.2.2.2.2)))
 ((getI l4 0).bind fun i17=>
 (cutI l4 1 (l4.length:Int)).bind fun l18=>
 cond (i1==0)
 (some (.inr (1,(l18,(IntKind.i64.wrap i17),([]:List Int),(IntKind.i64.wrap ((IntKind.i64.wrap i17)+1)),0,0,0,([]:List (Int×Int)),(decide ((bits .and .i64 i2 1) > 0)),false,false,([]:List Int),0,0,0,0,([]:List (Int×Int)),false,false,false,false,false,0))))
 (cond ((bits .and .i64 i2 32)==0)
 (some (.inr (1,(l18,(IntKind.i64.wrap i17),([]:List Int),(IntKind.i64.wrap ((IntKind.i64.wrap i17)+1)),0,0,0,([]:List (Int×Int)),(decide ((bits .and .i64 i2 1) > 0)),false,false,([]:List Int),0,0,0,0,([]:List (Int×Int)),false,false,false,false,false,0))))
 (cond (decide ((l18.length:Int) < 5))
 ((F_part_conn 6).bind fun x19=>
 some (.inl (x19.1,x19.2.1,x19.2.2.1,x19.2.2.2.1,x19.2.2.2.2.1,x19.2.2.2.2.2.1,x19.2.2.2.2.2.2.1,x19.2.2.2.2.2.2.2.1,x19.2.2.2.2.2.2.2.2.1,x19.2.2.2.2.2.2.2.2.2.1,x19.2.2.2.2.2.2.2.2.2.2.1,x19.2.2.2.2.2.2.2.2.2.2.2)))
 ((cutI l18 5 (l18.length:Int)).bind fun l20=>
 cond (decide ((IntKind.i64.wrap i17) > (l20.length:Int)))
 ((F_part_conn 1).bind fun x21=>
 some (.inl (x21.1,x21.2.1,x21.2.2.1,x21.2.2.2.1,x21.2.2.2.2.1,x21.2.2.2.2.2.1,x21.2.2.2.2.2.2.1,x21.2.2.2.2.2.2.2.1,x21.2.2.2.2.2.2.2.2.1,x21.2.2.2.2.2.2.2.2.2.1,x21.2.2.2.2.2.2.2.2.2.2.1,x21.2.2.2.2.2.2.2.2.2.2.2)))
 ((cutI l20 0 (IntKind.i64.wrap ((l20.length:Int) - (IntKind.i64.wrap i17)))).bind fun l22=>
 (F_bytes_Clone l22).bind fun l23=>
 some (.inl (l23,(IntKind.i64.wrap ((IntKind.i64.wrap i17)+1)),0,0,0,([]:List (Int×Int)),(decide ((bits .and .i64 i2 1) > 0)),false,false,false,false,0)))))))))))
 (fun p=>loopC (S:=Nat×List Int×Int×List Int×Int×Int×Int×Int×List (Int×Int)×Bool×Bool×Bool×List Int×Int×Int×Int×Int×List (Int×Int)×Bool×Bool×Bool×Bool×Bool×Int) (R:=List Int×Int×Int×Int×Int×List (Int×Int)×Bool×Bool×Bool×Bool×Bool×Int) (F_part_bodied_G1 i1 i2) p)
def F_part_bodied_sig:Sig:=⟨[.v true [.d (.int .i64),.d (.int .i64),.d (.int .i64),.d (.sl (.int .u8))]],[(true,[.own 5 (.int .u8),.d (.int .i64),.d (.int .i64),.d (.int .i64),.d (.int .i64),.own 66 Zp13,.d .bool,.d .bool,.d .bool]),(true,[.d .bool,.d .bool,.d (.int .i64)])],[]⟩
def F_part_bodied_ann:List (Nat×Ann):=[(1,⟨2,[(5,false,[.d (.sl (.int .u8))]),(6,false,[.d (.int .i64)])],[(4,[.own 5 (.int .u8),.d (.int .i64),.d (.int .i64),.d (.int .i64),.d (.int .i64),.own 66 Zp13,.d .bool,.d .bool,.d .bool]),(2,[.own 5 (.int .u8),.d (.int .i64),.d (.int .i64),.d (.int .i64),.d (.int .i64),.own 66 Zp13,.d .bool,.d .bool,.d .bool]),(3,[.d .bool,.d .bool,.d (.int .i64)])],([4]++List.range' 7 75),[1],[],[4]⟩)]
noncomputable def F_part_bodied_env:Env:=⟨Tryd.prog,[(29,⟨F_bytes_Clone_sig,⟨F_bytes_Clone⟩⟩),(41,⟨F_part_conn_sig,⟨F_part_conn⟩⟩)],[]⟩
theorem F_part_bodied_text:pvFn F_part_bodied_env F_part_bodied_ann Tryd.f39 F_part_bodied_sig=F_part_bodied:=by kernel_rfl
noncomputable def F_part_number (l1:List Int):Option (Int):=
 (getI l1 0).bind fun i2=>
 (getI l1 1).bind fun i3=>
 (getI l1 2).bind fun i4=>
 (getI l1 3).bind fun i5=>
 some (bits .or .i64 (bits .or .i64 (bits .or .i64 (IntKind.i64.wrap ((IntKind.i64.wrap i2)*2 ^ 24)) (IntKind.i64.wrap ((IntKind.i64.wrap i3)*2 ^ 16))) (IntKind.i64.wrap ((IntKind.i64.wrap i4)*2 ^ 8))) (IntKind.i64.wrap i5))
def F_part_number_sig:Sig:=⟨[.v false [.d (.sl (.int .u8))]],[(false,[.d (.int .i64)])],[]⟩
def F_part_number_ann:List (Nat×Ann):=[]
noncomputable def F_part_number_env:Env:=⟨Tryd.prog,[],[]⟩
theorem F_part_number_text:pvFn F_part_number_env F_part_number_ann Tryd.f45 F_part_number_sig=F_part_number:=by kernel_rfl
noncomputable def F_part_settings_L9 (s:List Int×List Int×Int×Int×Int×Int×List (Int×Int)×Bool×Bool×Bool×Bool×Bool×Int×List Int×Int×Int×Int×Int×List (Int×Int)×Bool×Bool×Bool):Option (((List Int×Int×Int×Int×Int×List (Int×Int)×Bool×Bool×Bool×Bool×Bool×Int)⊕(List Int×Int×Int×Int×Int×List (Int×Int)×Bool×Bool×Bool×Bool×Bool×Int×List Int×Int×Int×Int×Int×List (Int×Int)×Bool×Bool×Bool))⊕(List Int×List Int×Int×Int×Int×Int×List (Int×Int)×Bool×Bool×Bool×Bool×Bool×Int×List Int×Int×Int×Int×Int×List (Int×Int)×Bool×Bool×Bool)):=
 let l8:=s.1;let l9:=s.2.1;let i10:=s.2.2.1;let i11:=s.2.2.2.1;let i12:=s.2.2.2.2.1;let i13:=s.2.2.2.2.2.1;let l14:=s.2.2.2.2.2.2.1;let b15:=s.2.2.2.2.2.2.2.1;let b16:=s.2.2.2.2.2.2.2.2.1;let b17:=s.2.2.2.2.2.2.2.2.2.1;let b18:=s.2.2.2.2.2.2.2.2.2.2.1;let b19:=s.2.2.2.2.2.2.2.2.2.2.2.1;let i20:=s.2.2.2.2.2.2.2.2.2.2.2.2.1;let l21:=s.2.2.2.2.2.2.2.2.2.2.2.2.2.1;let i22:=s.2.2.2.2.2.2.2.2.2.2.2.2.2.2.1;let i23:=s.2.2.2.2.2.2.2.2.2.2.2.2.2.2.2.1;let i24:=s.2.2.2.2.2.2.2.2.2.2.2.2.2.2.2.2.1;let i25:=s.2.2.2.2.2.2.2.2.2.2.2.2.2.2.2.2.2.1;let l26:=s.2.2.2.2.2.2.2.2.2.2.2.2.2.2.2.2.2.2.1;let b27:=s.2.2.2.2.2.2.2.2.2.2.2.2.2.2.2.2.2.2.2.1;let b28:=s.2.2.2.2.2.2.2.2.2.2.2.2.2.2.2.2.2.2.2.2.1;let b29:=s.2.2.2.2.2.2.2.2.2.2.2.2.2.2.2.2.2.2.2.2.2
 cond (decide ((l8.length:Int) > 0))
 ((getI l8 0).bind fun i30=>
 (getI l8 1).bind fun i31=>
 (cutI l8 2 (l8.length:Int)).bind fun l32=>
 (F_part_number l32).bind fun i33=>
 chk (decide ((l26.length+([((bits .or .i64 (IntKind.i64.wrap ((IntKind.i64.wrap i30)*2 ^ 8)) (IntKind.i64.wrap i31)),i33)]:List (Int×Int)).length)*16<=140737488355328)&&decide (l26.length+([((bits .or .i64 (IntKind.i64.wrap ((IntKind.i64.wrap i30)*2 ^ 8)) (IntKind.i64.wrap i31)),i33)]:List (Int×Int)).length<=maxLen))
 ((cutI l8 6 (l8.length:Int)).bind fun l34=>
 some (.inr (l34,l9,i10,i11,i12,i13,l14,b15,b16,b17,b18,b19,i20,l21,i22,i23,i24,i25,(l26++([((bits .or .i64 (IntKind.i64.wrap ((IntKind.i64.wrap i30)*2 ^ 8)) (IntKind.i64.wrap i31)),i33)]:List (Int×Int))),b27,b28,b29))))
 (some (.inl (.inr (l9,i10,i11,i12,i13,l14,b15,b16,b17,b18,b19,i20,l21,i22,i23,i24,i25,l26,b27,b28,b29))))
noncomputable def F_part_settings_J7 (s:List Int×Int×Int×Int×Int×List (Int×Int)×Bool×Bool×Bool×Bool×Bool×Int×List Int×Int×Int×Int×Int×List (Int×Int)×Bool×Bool×Bool):Option (List Int×Int×Int×Int×Int×List (Int×Int)×Bool×Bool×Bool×Bool×Bool×Int):=
 let l35:=s.1;let i36:=s.2.1;let i37:=s.2.2.1;let i38:=s.2.2.2.1;let i39:=s.2.2.2.2.1;let l40:=s.2.2.2.2.2.1;let b41:=s.2.2.2.2.2.2.1;let b42:=s.2.2.2.2.2.2.2.1;let b43:=s.2.2.2.2.2.2.2.2.1;let b44:=s.2.2.2.2.2.2.2.2.2.1;let b45:=s.2.2.2.2.2.2.2.2.2.2.1;let i46:=s.2.2.2.2.2.2.2.2.2.2.2.1;let l47:=s.2.2.2.2.2.2.2.2.2.2.2.2.1;let i48:=s.2.2.2.2.2.2.2.2.2.2.2.2.2.1;let i49:=s.2.2.2.2.2.2.2.2.2.2.2.2.2.2.1;let i50:=s.2.2.2.2.2.2.2.2.2.2.2.2.2.2.2.1;let i51:=s.2.2.2.2.2.2.2.2.2.2.2.2.2.2.2.2.1;let l52:=s.2.2.2.2.2.2.2.2.2.2.2.2.2.2.2.2.2.1;let b53:=s.2.2.2.2.2.2.2.2.2.2.2.2.2.2.2.2.2.2.1;let b54:=s.2.2.2.2.2.2.2.2.2.2.2.2.2.2.2.2.2.2.2.1;let b55:=s.2.2.2.2.2.2.2.2.2.2.2.2.2.2.2.2.2.2.2.2
 some (l47,i48,i49,i50,i51,l52,b53,b54,b55,false,false,0)
noncomputable def F_part_settings (i1:Int) (i2:Int) (i3:Int) (l4:List Int):Option (List Int×Int×Int×Int×Int×List (Int×Int)×Bool×Bool×Bool×Bool×Bool×Int):=
 cond (i3 != 0)
 ((F_part_conn 1).bind fun x5=>
 some (x5.1,x5.2.1,x5.2.2.1,x5.2.2.2.1,x5.2.2.2.2.1,x5.2.2.2.2.2.1,x5.2.2.2.2.2.2.1,x5.2.2.2.2.2.2.2.1,x5.2.2.2.2.2.2.2.2.1,x5.2.2.2.2.2.2.2.2.2.1,x5.2.2.2.2.2.2.2.2.2.2.1,x5.2.2.2.2.2.2.2.2.2.2.2))
 (cond (decide ((bits .and .i64 i2 1) > 0))
 (cond (decide ((l4.length:Int) > 0))
 ((F_part_conn 6).bind fun x6=>
 some (x6.1,x6.2.1,x6.2.2.1,x6.2.2.2.1,x6.2.2.2.2.1,x6.2.2.2.2.2.1,x6.2.2.2.2.2.2.1,x6.2.2.2.2.2.2.2.1,x6.2.2.2.2.2.2.2.2.1,x6.2.2.2.2.2.2.2.2.2.1,x6.2.2.2.2.2.2.2.2.2.2.1,x6.2.2.2.2.2.2.2.2.2.2.2))
 (cond (decide ((Int.tmod (l4.length:Int) 6) > 0))
 ((F_part_conn 6).bind fun x7=>
 some (x7.1,x7.2.1,x7.2.2.1,x7.2.2.2.1,x7.2.2.2.2.1,x7.2.2.2.2.2.1,x7.2.2.2.2.2.2.1,x7.2.2.2.2.2.2.2.1,x7.2.2.2.2.2.2.2.2.1,x7.2.2.2.2.2.2.2.2.2.1,x7.2.2.2.2.2.2.2.2.2.2.1,x7.2.2.2.2.2.2.2.2.2.2.2))
 (joinC (S:=List Int×Int×Int×Int×Int×List (Int×Int)×Bool×Bool×Bool×Bool×Bool×Int×List Int×Int×Int×Int×Int×List (Int×Int)×Bool×Bool×Bool) (R:=List Int×Int×Int×Int×Int×List (Int×Int)×Bool×Bool×Bool×Bool×Bool×Int)
 (loopC (S:=List Int×List Int×Int×Int×Int×Int×List (Int×Int)×Bool×Bool×Bool×Bool×Bool×Int×List Int×Int×Int×Int×Int×List (Int×Int)×Bool×Bool×Bool) (R:=(List Int×Int×Int×Int×Int×List (Int×Int)×Bool×Bool×Bool×Bool×Bool×Int)⊕(List Int×Int×Int×Int×Int×List (Int×Int)×Bool×Bool×Bool×Bool×Bool×Int×List Int×Int×Int×Int×Int×List (Int×Int)×Bool×Bool×Bool)) (F_part_settings_L9) (l4,([]:List Int),0,0,0,0,([]:List (Int×Int)),false,false,false,false,false,0,([]:List Int),0,0,0,0,([]:List (Int×Int)),false,(decide ((bits .and .i64 i2 1) > 0)),false))
 (F_part_settings_J7))))
 (cond (decide ((Int.tmod (l4.length:Int) 6) > 0))
 ((F_part_conn 6).bind fun x56=>
 some (x56.1,x56.2.1,x56.2.2.1,x56.2.2.2.1,x56.2.2.2.2.1,x56.2.2.2.2.2.1,x56.2.2.2.2.2.2.1,x56.2.2.2.2.2.2.2.1,x56.2.2.2.2.2.2.2.2.1,x56.2.2.2.2.2.2.2.2.2.1,x56.2.2.2.2.2.2.2.2.2.2.1,x56.2.2.2.2.2.2.2.2.2.2.2))
 (joinC (S:=List Int×Int×Int×Int×Int×List (Int×Int)×Bool×Bool×Bool×Bool×Bool×Int×List Int×Int×Int×Int×Int×List (Int×Int)×Bool×Bool×Bool) (R:=List Int×Int×Int×Int×Int×List (Int×Int)×Bool×Bool×Bool×Bool×Bool×Int)
 (loopC (S:=List Int×List Int×Int×Int×Int×Int×List (Int×Int)×Bool×Bool×Bool×Bool×Bool×Int×List Int×Int×Int×Int×Int×List (Int×Int)×Bool×Bool×Bool) (R:=(List Int×Int×Int×Int×Int×List (Int×Int)×Bool×Bool×Bool×Bool×Bool×Int)⊕(List Int×Int×Int×Int×Int×List (Int×Int)×Bool×Bool×Bool×Bool×Bool×Int×List Int×Int×Int×Int×Int×List (Int×Int)×Bool×Bool×Bool)) (F_part_settings_L9) (l4,([]:List Int),0,0,0,0,([]:List (Int×Int)),false,false,false,false,false,0,([]:List Int),0,0,0,0,([]:List (Int×Int)),false,(decide ((bits .and .i64 i2 1) > 0)),false))
 (F_part_settings_J7))))
def F_part_settings_sig:Sig:=⟨[.v true [.d (.int .i64),.d (.int .i64),.d (.int .i64),.d (.sl (.int .u8))]],[(true,[.own 5 (.int .u8),.d (.int .i64),.d (.int .i64),.d (.int .i64),.d (.int .i64),.own 66 Zp13,.d .bool,.d .bool,.d .bool]),(true,[.d .bool,.d .bool,.d (.int .i64)])],[]⟩
def F_part_settings_ann:List (Nat×Ann):=[(7,⟨8,[],[(2,[.own 5 (.int .u8),.d (.int .i64),.d (.int .i64),.d (.int .i64),.d (.int .i64),.own 66 Zp13,.d .bool,.d .bool,.d .bool]),(3,[.d .bool,.d .bool,.d (.int .i64)]),(4,[.own 5 (.int .u8),.d (.int .i64),.d (.int .i64),.d (.int .i64),.d (.int .i64),.own 66 Zp13,.d .bool,.d .bool,.d .bool])],([5]++List.range' 37 26),[],[],[]⟩),(9,⟨10,[(5,false,[.d (.sl (.int .u8))])],[(2,[.own 5 (.int .u8),.d (.int .i64),.d (.int .i64),.d (.int .i64),.d (.int .i64),.own 66 Zp13,.d .bool,.d .bool,.d .bool]),(3,[.d .bool,.d .bool,.d (.int .i64)]),(4,[.own 5 (.int .u8),.d (.int .i64),.d (.int .i64),.d (.int .i64),.d (.int .i64),.own 66 Zp13,.d .bool,.d .bool,.d .bool])],(List.range' 39 24),[],[],[]⟩)]
noncomputable def F_part_settings_env:Env:=⟨Tryd.prog,[(41,⟨F_part_conn_sig,⟨F_part_conn⟩⟩),(45,⟨F_part_number_sig,⟨F_part_number⟩⟩)],[45]⟩
theorem F_part_settings_text:pvFn F_part_settings_env F_part_settings_ann Tryd.f40 F_part_settings_sig=F_part_settings:=by kernel_rfl
noncomputable def F_part_whole (i1:Int) (i2:Int) (i3:Int) (l4:List Int):Option (List Int×Int×Int×Int×Int×List (Int×Int)×Bool×Bool×Bool×Bool×Bool×Int):=
 cond (i3 != 0)
 ((F_part_conn 1).bind fun x5=>
 some (x5.1,x5.2.1,x5.2.2.1,x5.2.2.2.1,x5.2.2.2.2.1,x5.2.2.2.2.2.1,x5.2.2.2.2.2.2.1,x5.2.2.2.2.2.2.2.1,x5.2.2.2.2.2.2.2.2.1,x5.2.2.2.2.2.2.2.2.2.1,x5.2.2.2.2.2.2.2.2.2.2.1,x5.2.2.2.2.2.2.2.2.2.2.2))
 (cond (decide ((l4.length:Int) < 8))
 ((F_part_conn 6).bind fun x6=>
 some (x6.1,x6.2.1,x6.2.2.1,x6.2.2.2.1,x6.2.2.2.2.1,x6.2.2.2.2.2.1,x6.2.2.2.2.2.2.1,x6.2.2.2.2.2.2.2.1,x6.2.2.2.2.2.2.2.2.1,x6.2.2.2.2.2.2.2.2.2.1,x6.2.2.2.2.2.2.2.2.2.2.1,x6.2.2.2.2.2.2.2.2.2.2.2))
 (cond (i1==6)
 (cond (decide ((l4.length:Int) > 8))
 ((F_part_conn 6).bind fun x7=>
 some (x7.1,x7.2.1,x7.2.2.1,x7.2.2.2.1,x7.2.2.2.2.1,x7.2.2.2.2.2.1,x7.2.2.2.2.2.2.1,x7.2.2.2.2.2.2.2.1,x7.2.2.2.2.2.2.2.2.1,x7.2.2.2.2.2.2.2.2.2.1,x7.2.2.2.2.2.2.2.2.2.2.1,x7.2.2.2.2.2.2.2.2.2.2.2))
 (cond (i1==6)
 ((F_bytes_Clone l4).bind fun l8=>
 some (l8,0,0,0,0,([]:List (Int×Int)),false,(decide ((bits .and .i64 i2 1) > 0)),false,false,false,0))
 ((F_part_number l4).bind fun i9=>
 (cutI l4 4 (l4.length:Int)).bind fun l10=>
 (F_part_number l10).bind fun i11=>
 some (([]:List Int),0,i11,(bits .and .i64 i9 2147483647),0,([]:List (Int×Int)),false,false,false,false,false,0))))
 (cond (i1==6)
 ((F_bytes_Clone l4).bind fun l12=>
 some (l12,0,0,0,0,([]:List (Int×Int)),false,(decide ((bits .and .i64 i2 1) > 0)),false,false,false,0))
 ((F_part_number l4).bind fun i13=>
 (cutI l4 4 (l4.length:Int)).bind fun l14=>
 (F_part_number l14).bind fun i15=>
 some (([]:List Int),0,i15,(bits .and .i64 i13 2147483647),0,([]:List (Int×Int)),false,false,false,false,false,0)))))
def F_part_whole_sig:Sig:=⟨[.v true [.d (.int .i64),.d (.int .i64),.d (.int .i64),.d (.sl (.int .u8))]],[(true,[.own 5 (.int .u8),.d (.int .i64),.d (.int .i64),.d (.int .i64),.d (.int .i64),.own 66 Zp13,.d .bool,.d .bool,.d .bool]),(true,[.d .bool,.d .bool,.d (.int .i64)])],[]⟩
def F_part_whole_ann:List (Nat×Ann):=[]
noncomputable def F_part_whole_env:Env:=⟨Tryd.prog,[(29,⟨F_bytes_Clone_sig,⟨F_bytes_Clone⟩⟩),(41,⟨F_part_conn_sig,⟨F_part_conn⟩⟩),(45,⟨F_part_number_sig,⟨F_part_number⟩⟩)],[]⟩
theorem F_part_whole_text:pvFn F_part_whole_env F_part_whole_ann Tryd.f42 F_part_whole_sig=F_part_whole:=by kernel_rfl
noncomputable def F_part_stream (i1:Int):Option (List Int×Int×Int×Int×Int×List (Int×Int)×Bool×Bool×Bool×Bool×Bool×Int):=
 some (([]:List Int),0,0,0,0,([]:List (Int×Int)),false,false,false,true,false,i1)
def F_part_stream_sig:Sig:=⟨[.v false [.d (.int .i64)]],[(true,[.own 5 (.int .u8),.d (.int .i64),.d (.int .i64),.d (.int .i64),.d (.int .i64),.own 66 Zp13,.d .bool,.d .bool,.d .bool]),(true,[.d .bool,.d .bool,.d (.int .i64)])],[]⟩
def F_part_stream_ann:List (Nat×Ann):=[]
noncomputable def F_part_stream_env:Env:=⟨Tryd.prog,[],[]⟩
theorem F_part_stream_text:pvFn F_part_stream_env F_part_stream_ann Tryd.f44 F_part_stream_sig=F_part_stream:=by kernel_rfl
noncomputable def F_part_update (i1:Int) (i2:Int) (i3:Int) (l4:List Int):Option (List Int×Int×Int×Int×Int×List (Int×Int)×Bool×Bool×Bool×Bool×Bool×Int):=
 cond ((l4.length:Int) != 4)
 ((F_part_conn 6).bind fun x5=>
 some (x5.1,x5.2.1,x5.2.2.1,x5.2.2.2.1,x5.2.2.2.2.1,x5.2.2.2.2.2.1,x5.2.2.2.2.2.2.1,x5.2.2.2.2.2.2.2.1,x5.2.2.2.2.2.2.2.2.1,x5.2.2.2.2.2.2.2.2.2.1,x5.2.2.2.2.2.2.2.2.2.2.1,x5.2.2.2.2.2.2.2.2.2.2.2))
 ((F_part_number l4).bind fun i6=>
 cond ((bits .and .i64 i6 2147483647)==0)
 (cond (i3==0)
 ((F_part_conn 1).bind fun x7=>
 some (x7.1,x7.2.1,x7.2.2.1,x7.2.2.2.1,x7.2.2.2.2.1,x7.2.2.2.2.2.1,x7.2.2.2.2.2.2.1,x7.2.2.2.2.2.2.2.1,x7.2.2.2.2.2.2.2.2.1,x7.2.2.2.2.2.2.2.2.2.1,x7.2.2.2.2.2.2.2.2.2.2.1,x7.2.2.2.2.2.2.2.2.2.2.2))
 (cond ((bits .and .i64 i6 2147483647)==0)
 ((F_part_stream 1).bind fun x8=>
 some (x8.1,x8.2.1,x8.2.2.1,x8.2.2.2.1,x8.2.2.2.2.1,x8.2.2.2.2.2.1,x8.2.2.2.2.2.2.1,x8.2.2.2.2.2.2.2.1,x8.2.2.2.2.2.2.2.2.1,x8.2.2.2.2.2.2.2.2.2.1,x8.2.2.2.2.2.2.2.2.2.2.1,x8.2.2.2.2.2.2.2.2.2.2.2))
 (some (([]:List Int),0,0,0,(bits .and .i64 i6 2147483647),([]:List (Int×Int)),false,false,false,false,false,0))))
 (cond ((bits .and .i64 i6 2147483647)==0)
 ((F_part_stream 1).bind fun x9=>
 some (x9.1,x9.2.1,x9.2.2.1,x9.2.2.2.1,x9.2.2.2.2.1,x9.2.2.2.2.2.1,x9.2.2.2.2.2.2.1,x9.2.2.2.2.2.2.2.1,x9.2.2.2.2.2.2.2.2.1,x9.2.2.2.2.2.2.2.2.2.1,x9.2.2.2.2.2.2.2.2.2.2.1,x9.2.2.2.2.2.2.2.2.2.2.2))
 (some (([]:List Int),0,0,0,(bits .and .i64 i6 2147483647),([]:List (Int×Int)),false,false,false,false,false,0))))
def F_part_update_sig:Sig:=⟨[.v true [.d (.int .i64),.d (.int .i64),.d (.int .i64),.d (.sl (.int .u8))]],[(true,[.own 5 (.int .u8),.d (.int .i64),.d (.int .i64),.d (.int .i64),.d (.int .i64),.own 66 Zp13,.d .bool,.d .bool,.d .bool]),(true,[.d .bool,.d .bool,.d (.int .i64)])],[]⟩
def F_part_update_ann:List (Nat×Ann):=[]
noncomputable def F_part_update_env:Env:=⟨Tryd.prog,[(41,⟨F_part_conn_sig,⟨F_part_conn⟩⟩),(44,⟨F_part_stream_sig,⟨F_part_stream⟩⟩),(45,⟨F_part_number_sig,⟨F_part_number⟩⟩)],[]⟩
theorem F_part_update_text:pvFn F_part_update_env F_part_update_ann Tryd.f43 F_part_update_sig=F_part_update:=by kernel_rfl
noncomputable def F_part_Read (i1:Int) (i2:Int) (i3:Int) (l4:List Int):Option (List Int×Int×Int×Int×Int×List (Int×Int)×Bool×Bool×Bool×Bool×Bool×Int):=
 cond (i1==0)
 (cond (i1==0)
 ((F_part_bodied i1 i2 i3 l4).bind fun x5=>
 some (x5.1,x5.2.1,x5.2.2.1,x5.2.2.2.1,x5.2.2.2.2.1,x5.2.2.2.2.2.1,x5.2.2.2.2.2.2.1,x5.2.2.2.2.2.2.2.1,x5.2.2.2.2.2.2.2.2.1,x5.2.2.2.2.2.2.2.2.2.1,x5.2.2.2.2.2.2.2.2.2.2.1,x5.2.2.2.2.2.2.2.2.2.2.2))
 (cond (i1==4)
 ((F_part_settings i1 i2 i3 l4).bind fun x6=>
 some (x6.1,x6.2.1,x6.2.2.1,x6.2.2.2.1,x6.2.2.2.2.1,x6.2.2.2.2.2.1,x6.2.2.2.2.2.2.1,x6.2.2.2.2.2.2.2.1,x6.2.2.2.2.2.2.2.2.1,x6.2.2.2.2.2.2.2.2.2.1,x6.2.2.2.2.2.2.2.2.2.2.1,x6.2.2.2.2.2.2.2.2.2.2.2))
 (cond (i1==5)
 ((F_part_conn 1).bind fun x7=>
 some (x7.1,x7.2.1,x7.2.2.1,x7.2.2.2.1,x7.2.2.2.2.1,x7.2.2.2.2.2.1,x7.2.2.2.2.2.2.1,x7.2.2.2.2.2.2.2.1,x7.2.2.2.2.2.2.2.2.1,x7.2.2.2.2.2.2.2.2.2.1,x7.2.2.2.2.2.2.2.2.2.2.1,x7.2.2.2.2.2.2.2.2.2.2.2))
 (cond (i1==6)
 (cond (i1==6)
 ((F_part_whole i1 i2 i3 l4).bind fun x8=>
 some (x8.1,x8.2.1,x8.2.2.1,x8.2.2.2.1,x8.2.2.2.2.1,x8.2.2.2.2.2.1,x8.2.2.2.2.2.2.1,x8.2.2.2.2.2.2.2.1,x8.2.2.2.2.2.2.2.2.1,x8.2.2.2.2.2.2.2.2.2.1,x8.2.2.2.2.2.2.2.2.2.2.1,x8.2.2.2.2.2.2.2.2.2.2.2))
 (cond (i1==8)
 ((F_part_update i1 i2 i3 l4).bind fun x9=>
 some (x9.1,x9.2.1,x9.2.2.1,x9.2.2.2.1,x9.2.2.2.2.1,x9.2.2.2.2.2.1,x9.2.2.2.2.2.2.1,x9.2.2.2.2.2.2.2.1,x9.2.2.2.2.2.2.2.2.1,x9.2.2.2.2.2.2.2.2.2.1,x9.2.2.2.2.2.2.2.2.2.2.1,x9.2.2.2.2.2.2.2.2.2.2.2))
 (cond (i1==2)
 (cond (i1==2)
 (cond (i3==0)
 ((F_part_conn 1).bind fun x10=>
 some (x10.1,x10.2.1,x10.2.2.1,x10.2.2.2.1,x10.2.2.2.2.1,x10.2.2.2.2.2.1,x10.2.2.2.2.2.2.1,x10.2.2.2.2.2.2.2.1,x10.2.2.2.2.2.2.2.2.1,x10.2.2.2.2.2.2.2.2.2.1,x10.2.2.2.2.2.2.2.2.2.2.1,x10.2.2.2.2.2.2.2.2.2.2.2))
 (cond (i1==9)
 ((F_bytes_Clone l4).bind fun l11=>
 some (l11,0,0,0,0,([]:List (Int×Int)),false,false,(decide ((bits .and .i64 i2 4) > 0)),false,false,0))
 (cond (i1==2)
 (cond ((l4.length:Int) != 5)
 ((F_part_stream 6).bind fun x12=>
 some (x12.1,x12.2.1,x12.2.2.1,x12.2.2.2.1,x12.2.2.2.2.1,x12.2.2.2.2.2.1,x12.2.2.2.2.2.2.1,x12.2.2.2.2.2.2.2.1,x12.2.2.2.2.2.2.2.2.1,x12.2.2.2.2.2.2.2.2.2.1,x12.2.2.2.2.2.2.2.2.2.2.1,x12.2.2.2.2.2.2.2.2.2.2.2))
 (cond (i1==2)
 (some (([]:List Int),0,0,0,0,([]:List (Int×Int)),false,false,false,false,false,0))
 (cond ((l4.length:Int) != 4)
 ((F_part_conn 6).bind fun x13=>
 some (x13.1,x13.2.1,x13.2.2.1,x13.2.2.2.1,x13.2.2.2.2.1,x13.2.2.2.2.2.1,x13.2.2.2.2.2.2.1,x13.2.2.2.2.2.2.2.1,x13.2.2.2.2.2.2.2.2.1,x13.2.2.2.2.2.2.2.2.2.1,x13.2.2.2.2.2.2.2.2.2.2.1,x13.2.2.2.2.2.2.2.2.2.2.2))
 ((F_part_number l4).bind fun i14=>
 some (([]:List Int),0,i14,0,0,([]:List (Int×Int)),false,false,false,false,false,0)))))
 (cond (i1==2)
 (some (([]:List Int),0,0,0,0,([]:List (Int×Int)),false,false,false,false,false,0))
 (cond ((l4.length:Int) != 4)
 ((F_part_conn 6).bind fun x15=>
 some (x15.1,x15.2.1,x15.2.2.1,x15.2.2.2.1,x15.2.2.2.2.1,x15.2.2.2.2.2.1,x15.2.2.2.2.2.2.1,x15.2.2.2.2.2.2.2.1,x15.2.2.2.2.2.2.2.2.1,x15.2.2.2.2.2.2.2.2.2.1,x15.2.2.2.2.2.2.2.2.2.2.1,x15.2.2.2.2.2.2.2.2.2.2.2))
 ((F_part_number l4).bind fun i17=>
 some (([]:List Int),0,i17,0,0,([]:List (Int×Int)),false,false,false,false,false,0)))))))
 (some (([]:List Int),0,0,0,0,([]:List (Int×Int)),false,false,false,false,false,0)))
 (cond (i1==3)
 (cond (i1==3)
 (cond (i3==0)
 ((F_part_conn 1).bind fun x18=>
 some (x18.1,x18.2.1,x18.2.2.1,x18.2.2.2.1,x18.2.2.2.2.1,x18.2.2.2.2.2.1,x18.2.2.2.2.2.2.1,x18.2.2.2.2.2.2.2.1,x18.2.2.2.2.2.2.2.2.1,x18.2.2.2.2.2.2.2.2.2.1,x18.2.2.2.2.2.2.2.2.2.2.1,x18.2.2.2.2.2.2.2.2.2.2.2))
 (cond (i1==9)
 ((F_bytes_Clone l4).bind fun l19=>
 some (l19,0,0,0,0,([]:List (Int×Int)),false,false,(decide ((bits .and .i64 i2 4) > 0)),false,false,0))
 (cond (i1==2)
 (cond ((l4.length:Int) != 5)
 ((F_part_stream 6).bind fun x20=>
 some (x20.1,x20.2.1,x20.2.2.1,x20.2.2.2.1,x20.2.2.2.2.1,x20.2.2.2.2.2.1,x20.2.2.2.2.2.2.1,x20.2.2.2.2.2.2.2.1,x20.2.2.2.2.2.2.2.2.1,x20.2.2.2.2.2.2.2.2.2.1,x20.2.2.2.2.2.2.2.2.2.2.1,x20.2.2.2.2.2.2.2.2.2.2.2))
 (cond (i1==2)
 (some (([]:List Int),0,0,0,0,([]:List (Int×Int)),false,false,false,false,false,0))
 (cond ((l4.length:Int) != 4)
 ((F_part_conn 6).bind fun x21=>
 some (x21.1,x21.2.1,x21.2.2.1,x21.2.2.2.1,x21.2.2.2.2.1,x21.2.2.2.2.2.1,x21.2.2.2.2.2.2.1,x21.2.2.2.2.2.2.2.1,x21.2.2.2.2.2.2.2.2.1,x21.2.2.2.2.2.2.2.2.2.1,x21.2.2.2.2.2.2.2.2.2.2.1,x21.2.2.2.2.2.2.2.2.2.2.2))
 ((F_part_number l4).bind fun i22=>
 some (([]:List Int),0,i22,0,0,([]:List (Int×Int)),false,false,false,false,false,0)))))
 (cond (i1==2)
 (some (([]:List Int),0,0,0,0,([]:List (Int×Int)),false,false,false,false,false,0))
 (cond ((l4.length:Int) != 4)
 ((F_part_conn 6).bind fun x23=>
 some (x23.1,x23.2.1,x23.2.2.1,x23.2.2.2.1,x23.2.2.2.2.1,x23.2.2.2.2.2.1,x23.2.2.2.2.2.2.1,x23.2.2.2.2.2.2.2.1,x23.2.2.2.2.2.2.2.2.1,x23.2.2.2.2.2.2.2.2.2.1,x23.2.2.2.2.2.2.2.2.2.2.1,x23.2.2.2.2.2.2.2.2.2.2.2))
 ((F_part_number l4).bind fun i24=>
 some (([]:List Int),0,i24,0,0,([]:List (Int×Int)),false,false,false,false,false,0)))))))
 (some (([]:List Int),0,0,0,0,([]:List (Int×Int)),false,false,false,false,false,0)))
 (cond (i1==9)
 (cond (i3==0)
 ((F_part_conn 1).bind fun x25=>
 some (x25.1,x25.2.1,x25.2.2.1,x25.2.2.2.1,x25.2.2.2.2.1,x25.2.2.2.2.2.1,x25.2.2.2.2.2.2.1,x25.2.2.2.2.2.2.2.1,x25.2.2.2.2.2.2.2.2.1,x25.2.2.2.2.2.2.2.2.2.1,x25.2.2.2.2.2.2.2.2.2.2.1,x25.2.2.2.2.2.2.2.2.2.2.2))
 (cond (i1==9)
 ((F_bytes_Clone l4).bind fun l26=>
 some (l26,0,0,0,0,([]:List (Int×Int)),false,false,(decide ((bits .and .i64 i2 4) > 0)),false,false,0))
 (cond (i1==2)
 (cond ((l4.length:Int) != 5)
 ((F_part_stream 6).bind fun x27=>
 some (x27.1,x27.2.1,x27.2.2.1,x27.2.2.2.1,x27.2.2.2.2.1,x27.2.2.2.2.2.1,x27.2.2.2.2.2.2.1,x27.2.2.2.2.2.2.2.1,x27.2.2.2.2.2.2.2.2.1,x27.2.2.2.2.2.2.2.2.2.1,x27.2.2.2.2.2.2.2.2.2.2.1,x27.2.2.2.2.2.2.2.2.2.2.2))
 (cond (i1==2)
 (some (([]:List Int),0,0,0,0,([]:List (Int×Int)),false,false,false,false,false,0))
 (cond ((l4.length:Int) != 4)
 ((F_part_conn 6).bind fun x28=>
 some (x28.1,x28.2.1,x28.2.2.1,x28.2.2.2.1,x28.2.2.2.2.1,x28.2.2.2.2.2.1,x28.2.2.2.2.2.2.1,x28.2.2.2.2.2.2.2.1,x28.2.2.2.2.2.2.2.2.1,x28.2.2.2.2.2.2.2.2.2.1,x28.2.2.2.2.2.2.2.2.2.2.1,x28.2.2.2.2.2.2.2.2.2.2.2))
 ((F_part_number l4).bind fun i29=>
 some (([]:List Int),0,i29,0,0,([]:List (Int×Int)),false,false,false,false,false,0)))))
 (cond (i1==2)
 (some (([]:List Int),0,0,0,0,([]:List (Int×Int)),false,false,false,false,false,0))
 (cond ((l4.length:Int) != 4)
 ((F_part_conn 6).bind fun x30=>
 some (x30.1,x30.2.1,x30.2.2.1,x30.2.2.2.1,x30.2.2.2.2.1,x30.2.2.2.2.2.1,x30.2.2.2.2.2.2.1,x30.2.2.2.2.2.2.2.1,x30.2.2.2.2.2.2.2.2.1,x30.2.2.2.2.2.2.2.2.2.1,x30.2.2.2.2.2.2.2.2.2.2.1,x30.2.2.2.2.2.2.2.2.2.2.2))
 ((F_part_number l4).bind fun i31=>
 some (([]:List Int),0,i31,0,0,([]:List (Int×Int)),false,false,false,false,false,0)))))))
 (some (([]:List Int),0,0,0,0,([]:List (Int×Int)),false,false,false,false,false,0)))))))
 (cond (i1==7)
 ((F_part_whole i1 i2 i3 l4).bind fun x32=>
 some (x32.1,x32.2.1,x32.2.2.1,x32.2.2.2.1,x32.2.2.2.2.1,x32.2.2.2.2.2.1,x32.2.2.2.2.2.2.1,x32.2.2.2.2.2.2.2.1,x32.2.2.2.2.2.2.2.2.1,x32.2.2.2.2.2.2.2.2.2.1,x32.2.2.2.2.2.2.2.2.2.2.1,x32.2.2.2.2.2.2.2.2.2.2.2))
 (cond (i1==8)
 ((F_part_update i1 i2 i3 l4).bind fun x33=>
 some (x33.1,x33.2.1,x33.2.2.1,x33.2.2.2.1,x33.2.2.2.2.1,x33.2.2.2.2.2.1,x33.2.2.2.2.2.2.1,x33.2.2.2.2.2.2.2.1,x33.2.2.2.2.2.2.2.2.1,x33.2.2.2.2.2.2.2.2.2.1,x33.2.2.2.2.2.2.2.2.2.2.1,x33.2.2.2.2.2.2.2.2.2.2.2))
 (cond (i1==2)
 (cond (i1==2)
 (cond (i3==0)
 ((F_part_conn 1).bind fun x34=>
 some (x34.1,x34.2.1,x34.2.2.1,x34.2.2.2.1,x34.2.2.2.2.1,x34.2.2.2.2.2.1,x34.2.2.2.2.2.2.1,x34.2.2.2.2.2.2.2.1,x34.2.2.2.2.2.2.2.2.1,x34.2.2.2.2.2.2.2.2.2.1,x34.2.2.2.2.2.2.2.2.2.2.1,x34.2.2.2.2.2.2.2.2.2.2.2))
 (cond (i1==9)
 ((F_bytes_Clone l4).bind fun l35=>
 some (l35,0,0,0,0,([]:List (Int×Int)),false,false,(decide ((bits .and .i64 i2 4) > 0)),false,false,0))
 (cond (i1==2)
 (cond ((l4.length:Int) != 5)
 ((F_part_stream 6).bind fun x36=>
 some (x36.1,x36.2.1,x36.2.2.1,x36.2.2.2.1,x36.2.2.2.2.1,x36.2.2.2.2.2.1,x36.2.2.2.2.2.2.1,x36.2.2.2.2.2.2.2.1,x36.2.2.2.2.2.2.2.2.1,x36.2.2.2.2.2.2.2.2.2.1,x36.2.2.2.2.2.2.2.2.2.2.1,x36.2.2.2.2.2.2.2.2.2.2.2))
 (cond (i1==2)
 (some (([]:List Int),0,0,0,0,([]:List (Int×Int)),false,false,false,false,false,0))
 (cond ((l4.length:Int) != 4)
 ((F_part_conn 6).bind fun x37=>
 some (x37.1,x37.2.1,x37.2.2.1,x37.2.2.2.1,x37.2.2.2.2.1,x37.2.2.2.2.2.1,x37.2.2.2.2.2.2.1,x37.2.2.2.2.2.2.2.1,x37.2.2.2.2.2.2.2.2.1,x37.2.2.2.2.2.2.2.2.2.1,x37.2.2.2.2.2.2.2.2.2.2.1,x37.2.2.2.2.2.2.2.2.2.2.2))
 ((F_part_number l4).bind fun i38=>
 some (([]:List Int),0,i38,0,0,([]:List (Int×Int)),false,false,false,false,false,0)))))
 (cond (i1==2)
 (some (([]:List Int),0,0,0,0,([]:List (Int×Int)),false,false,false,false,false,0))
 (cond ((l4.length:Int) != 4)
 ((F_part_conn 6).bind fun x39=>
 some (x39.1,x39.2.1,x39.2.2.1,x39.2.2.2.1,x39.2.2.2.2.1,x39.2.2.2.2.2.1,x39.2.2.2.2.2.2.1,x39.2.2.2.2.2.2.2.1,x39.2.2.2.2.2.2.2.2.1,x39.2.2.2.2.2.2.2.2.2.1,x39.2.2.2.2.2.2.2.2.2.2.1,x39.2.2.2.2.2.2.2.2.2.2.2))
 ((F_part_number l4).bind fun i40=>
 some (([]:List Int),0,i40,0,0,([]:List (Int×Int)),false,false,false,false,false,0)))))))
 (some (([]:List Int),0,0,0,0,([]:List (Int×Int)),false,false,false,false,false,0)))
 (cond (i1==3)
 (cond (i1==3)
 (cond (i3==0)
 ((F_part_conn 1).bind fun x41=>
 some (x41.1,x41.2.1,x41.2.2.1,x41.2.2.2.1,x41.2.2.2.2.1,x41.2.2.2.2.2.1,x41.2.2.2.2.2.2.1,x41.2.2.2.2.2.2.2.1,x41.2.2.2.2.2.2.2.2.1,x41.2.2.2.2.2.2.2.2.2.1,x41.2.2.2.2.2.2.2.2.2.2.1,x41.2.2.2.2.2.2.2.2.2.2.2))
 (cond (i1==9)
 ((F_bytes_Clone l4).bind fun l42=>
 some (l42,0,0,0,0,([]:List (Int×Int)),false,false,(decide ((bits .and .i64 i2 4) > 0)),false,false,0))
 (cond (i1==2)
 (cond ((l4.length:Int) != 5)
 ((F_part_stream 6).bind fun x43=>
 some (x43.1,x43.2.1,x43.2.2.1,x43.2.2.2.1,x43.2.2.2.2.1,x43.2.2.2.2.2.1,x43.2.2.2.2.2.2.1,x43.2.2.2.2.2.2.2.1,x43.2.2.2.2.2.2.2.2.1,x43.2.2.2.2.2.2.2.2.2.1,x43.2.2.2.2.2.2.2.2.2.2.1,x43.2.2.2.2.2.2.2.2.2.2.2))
 (cond (i1==2)
 (some (([]:List Int),0,0,0,0,([]:List (Int×Int)),false,false,false,false,false,0))
 (cond ((l4.length:Int) != 4)
 ((F_part_conn 6).bind fun x44=>
 some (x44.1,x44.2.1,x44.2.2.1,x44.2.2.2.1,x44.2.2.2.2.1,x44.2.2.2.2.2.1,x44.2.2.2.2.2.2.1,x44.2.2.2.2.2.2.2.1,x44.2.2.2.2.2.2.2.2.1,x44.2.2.2.2.2.2.2.2.2.1,x44.2.2.2.2.2.2.2.2.2.2.1,x44.2.2.2.2.2.2.2.2.2.2.2))
 ((F_part_number l4).bind fun i45=>
 some (([]:List Int),0,i45,0,0,([]:List (Int×Int)),false,false,false,false,false,0)))))
 (cond (i1==2)
 (some (([]:List Int),0,0,0,0,([]:List (Int×Int)),false,false,false,false,false,0))
 (cond ((l4.length:Int) != 4)
 ((F_part_conn 6).bind fun x46=>
 some (x46.1,x46.2.1,x46.2.2.1,x46.2.2.2.1,x46.2.2.2.2.1,x46.2.2.2.2.2.1,x46.2.2.2.2.2.2.1,x46.2.2.2.2.2.2.2.1,x46.2.2.2.2.2.2.2.2.1,x46.2.2.2.2.2.2.2.2.2.1,x46.2.2.2.2.2.2.2.2.2.2.1,x46.2.2.2.2.2.2.2.2.2.2.2))
 ((F_part_number l4).bind fun i47=>
 some (([]:List Int),0,i47,0,0,([]:List (Int×Int)),false,false,false,false,false,0)))))))
 (some (([]:List Int),0,0,0,0,([]:List (Int×Int)),false,false,false,false,false,0)))
 (cond (i1==9)
 (cond (i3==0)
 ((F_part_conn 1).bind fun x48=>
 some (x48.1,x48.2.1,x48.2.2.1,x48.2.2.2.1,x48.2.2.2.2.1,x48.2.2.2.2.2.1,x48.2.2.2.2.2.2.1,x48.2.2.2.2.2.2.2.1,x48.2.2.2.2.2.2.2.2.1,x48.2.2.2.2.2.2.2.2.2.1,x48.2.2.2.2.2.2.2.2.2.2.1,x48.2.2.2.2.2.2.2.2.2.2.2))
 (cond (i1==9)
 ((F_bytes_Clone l4).bind fun l49=>
 some (l49,0,0,0,0,([]:List (Int×Int)),false,false,(decide ((bits .and .i64 i2 4) > 0)),false,false,0))
 (cond (i1==2)
 (cond ((l4.length:Int) != 5)
 ((F_part_stream 6).bind fun x50=>
 some (x50.1,x50.2.1,x50.2.2.1,x50.2.2.2.1,x50.2.2.2.2.1,x50.2.2.2.2.2.1,x50.2.2.2.2.2.2.1,x50.2.2.2.2.2.2.2.1,x50.2.2.2.2.2.2.2.2.1,x50.2.2.2.2.2.2.2.2.2.1,x50.2.2.2.2.2.2.2.2.2.2.1,x50.2.2.2.2.2.2.2.2.2.2.2))
 (cond (i1==2)
 (some (([]:List Int),0,0,0,0,([]:List (Int×Int)),false,false,false,false,false,0))
 (cond ((l4.length:Int) != 4)
 ((F_part_conn 6).bind fun x51=>
 some (x51.1,x51.2.1,x51.2.2.1,x51.2.2.2.1,x51.2.2.2.2.1,x51.2.2.2.2.2.1,x51.2.2.2.2.2.2.1,x51.2.2.2.2.2.2.2.1,x51.2.2.2.2.2.2.2.2.1,x51.2.2.2.2.2.2.2.2.2.1,x51.2.2.2.2.2.2.2.2.2.2.1,x51.2.2.2.2.2.2.2.2.2.2.2))
 ((F_part_number l4).bind fun i52=>
 some (([]:List Int),0,i52,0,0,([]:List (Int×Int)),false,false,false,false,false,0)))))
 (cond (i1==2)
 (some (([]:List Int),0,0,0,0,([]:List (Int×Int)),false,false,false,false,false,0))
 (cond ((l4.length:Int) != 4)
 ((F_part_conn 6).bind fun x53=>
 some (x53.1,x53.2.1,x53.2.2.1,x53.2.2.2.1,x53.2.2.2.2.1,x53.2.2.2.2.2.1,x53.2.2.2.2.2.2.1,x53.2.2.2.2.2.2.2.1,x53.2.2.2.2.2.2.2.2.1,x53.2.2.2.2.2.2.2.2.2.1,x53.2.2.2.2.2.2.2.2.2.2.1,x53.2.2.2.2.2.2.2.2.2.2.2))
 ((F_part_number l4).bind fun i54=>
 some (([]:List Int),0,i54,0,0,([]:List (Int×Int)),false,false,false,false,false,0)))))))
 (some (([]:List Int),0,0,0,0,([]:List (Int×Int)),false,false,false,false,false,0)))))))))))
 (cond (i1==1)
 ((F_part_bodied i1 i2 i3 l4).bind fun x55=>
 some (x55.1,x55.2.1,x55.2.2.1,x55.2.2.2.1,x55.2.2.2.2.1,x55.2.2.2.2.2.1,x55.2.2.2.2.2.2.1,x55.2.2.2.2.2.2.2.1,x55.2.2.2.2.2.2.2.2.1,x55.2.2.2.2.2.2.2.2.2.1,x55.2.2.2.2.2.2.2.2.2.2.1,x55.2.2.2.2.2.2.2.2.2.2.2))
 (cond (i1==4)
 ((F_part_settings i1 i2 i3 l4).bind fun x56=>
 some (x56.1,x56.2.1,x56.2.2.1,x56.2.2.2.1,x56.2.2.2.2.1,x56.2.2.2.2.2.1,x56.2.2.2.2.2.2.1,x56.2.2.2.2.2.2.2.1,x56.2.2.2.2.2.2.2.2.1,x56.2.2.2.2.2.2.2.2.2.1,x56.2.2.2.2.2.2.2.2.2.2.1,x56.2.2.2.2.2.2.2.2.2.2.2))
 (cond (i1==5)
 ((F_part_conn 1).bind fun x57=>
 some (x57.1,x57.2.1,x57.2.2.1,x57.2.2.2.1,x57.2.2.2.2.1,x57.2.2.2.2.2.1,x57.2.2.2.2.2.2.1,x57.2.2.2.2.2.2.2.1,x57.2.2.2.2.2.2.2.2.1,x57.2.2.2.2.2.2.2.2.2.1,x57.2.2.2.2.2.2.2.2.2.2.1,x57.2.2.2.2.2.2.2.2.2.2.2))
 (cond (i1==6)
 (cond (i1==6)
 ((F_part_whole i1 i2 i3 l4).bind fun x58=>
 some (x58.1,x58.2.1,x58.2.2.1,x58.2.2.2.1,x58.2.2.2.2.1,x58.2.2.2.2.2.1,x58.2.2.2.2.2.2.1,x58.2.2.2.2.2.2.2.1,x58.2.2.2.2.2.2.2.2.1,x58.2.2.2.2.2.2.2.2.2.1,x58.2.2.2.2.2.2.2.2.2.2.1,x58.2.2.2.2.2.2.2.2.2.2.2))
 (cond (i1==8)
 ((F_part_update i1 i2 i3 l4).bind fun x59=>
 some (x59.1,x59.2.1,x59.2.2.1,x59.2.2.2.1,x59.2.2.2.2.1,x59.2.2.2.2.2.1,x59.2.2.2.2.2.2.1,x59.2.2.2.2.2.2.2.1,x59.2.2.2.2.2.2.2.2.1,x59.2.2.2.2.2.2.2.2.2.1,x59.2.2.2.2.2.2.2.2.2.2.1,x59.2.2.2.2.2.2.2.2.2.2.2))
 (cond (i1==2)
 (cond (i1==2)
 (cond (i3==0)
 ((F_part_conn 1).bind fun x60=>
 some (x60.1,x60.2.1,x60.2.2.1,x60.2.2.2.1,x60.2.2.2.2.1,x60.2.2.2.2.2.1,x60.2.2.2.2.2.2.1,x60.2.2.2.2.2.2.2.1,x60.2.2.2.2.2.2.2.2.1,x60.2.2.2.2.2.2.2.2.2.1,x60.2.2.2.2.2.2.2.2.2.2.1,x60.2.2.2.2.2.2.2.2.2.2.2))
 (cond (i1==9)
 ((F_bytes_Clone l4).bind fun l61=>
 some (l61,0,0,0,0,([]:List (Int×Int)),false,false,(decide ((bits .and .i64 i2 4) > 0)),false,false,0))
 (cond (i1==2)
 (cond ((l4.length:Int) != 5)
 ((F_part_stream 6).bind fun x62=>
 some (x62.1,x62.2.1,x62.2.2.1,x62.2.2.2.1,x62.2.2.2.2.1,x62.2.2.2.2.2.1,x62.2.2.2.2.2.2.1,x62.2.2.2.2.2.2.2.1,x62.2.2.2.2.2.2.2.2.1,x62.2.2.2.2.2.2.2.2.2.1,x62.2.2.2.2.2.2.2.2.2.2.1,x62.2.2.2.2.2.2.2.2.2.2.2))
 (cond (i1==2)
 (some (([]:List Int),0,0,0,0,([]:List (Int×Int)),false,false,false,false,false,0))
 (cond ((l4.length:Int) != 4)
 ((F_part_conn 6).bind fun x63=>
 some (x63.1,x63.2.1,x63.2.2.1,x63.2.2.2.1,x63.2.2.2.2.1,x63.2.2.2.2.2.1,x63.2.2.2.2.2.2.1,x63.2.2.2.2.2.2.2.1,x63.2.2.2.2.2.2.2.2.1,x63.2.2.2.2.2.2.2.2.2.1,x63.2.2.2.2.2.2.2.2.2.2.1,x63.2.2.2.2.2.2.2.2.2.2.2))
 ((F_part_number l4).bind fun i65=>
 some (([]:List Int),0,i65,0,0,([]:List (Int×Int)),false,false,false,false,false,0)))))
 (cond (i1==2)
 (some (([]:List Int),0,0,0,0,([]:List (Int×Int)),false,false,false,false,false,0))
 (cond ((l4.length:Int) != 4)
 ((F_part_conn 6).bind fun x66=>
 some (x66.1,x66.2.1,x66.2.2.1,x66.2.2.2.1,x66.2.2.2.2.1,x66.2.2.2.2.2.1,x66.2.2.2.2.2.2.1,x66.2.2.2.2.2.2.2.1,x66.2.2.2.2.2.2.2.2.1,x66.2.2.2.2.2.2.2.2.2.1,x66.2.2.2.2.2.2.2.2.2.2.1,x66.2.2.2.2.2.2.2.2.2.2.2))
 ((F_part_number l4).bind fun i67=>
 some (([]:List Int),0,i67,0,0,([]:List (Int×Int)),false,false,false,false,false,0)))))))
 (some (([]:List Int),0,0,0,0,([]:List (Int×Int)),false,false,false,false,false,0)))
 (cond (i1==3)
 (cond (i1==3)
 (cond (i3==0)
 ((F_part_conn 1).bind fun x68=>
 some (x68.1,x68.2.1,x68.2.2.1,x68.2.2.2.1,x68.2.2.2.2.1,x68.2.2.2.2.2.1,x68.2.2.2.2.2.2.1,x68.2.2.2.2.2.2.2.1,x68.2.2.2.2.2.2.2.2.1,x68.2.2.2.2.2.2.2.2.2.1,x68.2.2.2.2.2.2.2.2.2.2.1,x68.2.2.2.2.2.2.2.2.2.2.2))
 (cond (i1==9)
 ((F_bytes_Clone l4).bind fun l69=>
 some (l69,0,0,0,0,([]:List (Int×Int)),false,false,(decide ((bits .and .i64 i2 4) > 0)),false,false,0))
 (cond (i1==2)
 (cond ((l4.length:Int) != 5)
 ((F_part_stream 6).bind fun x70=>
 some (x70.1,x70.2.1,x70.2.2.1,x70.2.2.2.1,x70.2.2.2.2.1,x70.2.2.2.2.2.1,x70.2.2.2.2.2.2.1,x70.2.2.2.2.2.2.2.1,x70.2.2.2.2.2.2.2.2.1,x70.2.2.2.2.2.2.2.2.2.1,x70.2.2.2.2.2.2.2.2.2.2.1,x70.2.2.2.2.2.2.2.2.2.2.2))
 (cond (i1==2)
 (some (([]:List Int),0,0,0,0,([]:List (Int×Int)),false,false,false,false,false,0))
 (cond ((l4.length:Int) != 4)
 ((F_part_conn 6).bind fun x71=>
 some (x71.1,x71.2.1,x71.2.2.1,x71.2.2.2.1,x71.2.2.2.2.1,x71.2.2.2.2.2.1,x71.2.2.2.2.2.2.1,x71.2.2.2.2.2.2.2.1,x71.2.2.2.2.2.2.2.2.1,x71.2.2.2.2.2.2.2.2.2.1,x71.2.2.2.2.2.2.2.2.2.2.1,x71.2.2.2.2.2.2.2.2.2.2.2))
 ((F_part_number l4).bind fun i72=>
 some (([]:List Int),0,i72,0,0,([]:List (Int×Int)),false,false,false,false,false,0)))))
 (cond (i1==2)
 (some (([]:List Int),0,0,0,0,([]:List (Int×Int)),false,false,false,false,false,0))
 (cond ((l4.length:Int) != 4)
 ((F_part_conn 6).bind fun x73=>
 some (x73.1,x73.2.1,x73.2.2.1,x73.2.2.2.1,x73.2.2.2.2.1,x73.2.2.2.2.2.1,x73.2.2.2.2.2.2.1,x73.2.2.2.2.2.2.2.1,x73.2.2.2.2.2.2.2.2.1,x73.2.2.2.2.2.2.2.2.2.1,x73.2.2.2.2.2.2.2.2.2.2.1,x73.2.2.2.2.2.2.2.2.2.2.2))
 ((F_part_number l4).bind fun i74=>
 some (([]:List Int),0,i74,0,0,([]:List (Int×Int)),false,false,false,false,false,0)))))))
 (some (([]:List Int),0,0,0,0,([]:List (Int×Int)),false,false,false,false,false,0)))
 (cond (i1==9)
 (cond (i3==0)
 ((F_part_conn 1).bind fun x75=>
 some (x75.1,x75.2.1,x75.2.2.1,x75.2.2.2.1,x75.2.2.2.2.1,x75.2.2.2.2.2.1,x75.2.2.2.2.2.2.1,x75.2.2.2.2.2.2.2.1,x75.2.2.2.2.2.2.2.2.1,x75.2.2.2.2.2.2.2.2.2.1,x75.2.2.2.2.2.2.2.2.2.2.1,x75.2.2.2.2.2.2.2.2.2.2.2))
 (cond (i1==9)
 ((F_bytes_Clone l4).bind fun l76=>
 some (l76,0,0,0,0,([]:List (Int×Int)),false,false,(decide ((bits .and .i64 i2 4) > 0)),false,false,0))
 (cond (i1==2)
 (cond ((l4.length:Int) != 5)
 ((F_part_stream 6).bind fun x77=>
 some (x77.1,x77.2.1,x77.2.2.1,x77.2.2.2.1,x77.2.2.2.2.1,x77.2.2.2.2.2.1,x77.2.2.2.2.2.2.1,x77.2.2.2.2.2.2.2.1,x77.2.2.2.2.2.2.2.2.1,x77.2.2.2.2.2.2.2.2.2.1,x77.2.2.2.2.2.2.2.2.2.2.1,x77.2.2.2.2.2.2.2.2.2.2.2))
 (cond (i1==2)
 (some (([]:List Int),0,0,0,0,([]:List (Int×Int)),false,false,false,false,false,0))
 (cond ((l4.length:Int) != 4)
 ((F_part_conn 6).bind fun x78=>
 some (x78.1,x78.2.1,x78.2.2.1,x78.2.2.2.1,x78.2.2.2.2.1,x78.2.2.2.2.2.1,x78.2.2.2.2.2.2.1,x78.2.2.2.2.2.2.2.1,x78.2.2.2.2.2.2.2.2.1,x78.2.2.2.2.2.2.2.2.2.1,x78.2.2.2.2.2.2.2.2.2.2.1,x78.2.2.2.2.2.2.2.2.2.2.2))
 ((F_part_number l4).bind fun i79=>
 some (([]:List Int),0,i79,0,0,([]:List (Int×Int)),false,false,false,false,false,0)))))
 (cond (i1==2)
 (some (([]:List Int),0,0,0,0,([]:List (Int×Int)),false,false,false,false,false,0))
 (cond ((l4.length:Int) != 4)
 ((F_part_conn 6).bind fun x80=>
 some (x80.1,x80.2.1,x80.2.2.1,x80.2.2.2.1,x80.2.2.2.2.1,x80.2.2.2.2.2.1,x80.2.2.2.2.2.2.1,x80.2.2.2.2.2.2.2.1,x80.2.2.2.2.2.2.2.2.1,x80.2.2.2.2.2.2.2.2.2.1,x80.2.2.2.2.2.2.2.2.2.2.1,x80.2.2.2.2.2.2.2.2.2.2.2))
 ((F_part_number l4).bind fun i81=>
 some (([]:List Int),0,i81,0,0,([]:List (Int×Int)),false,false,false,false,false,0)))))))
 (some (([]:List Int),0,0,0,0,([]:List (Int×Int)),false,false,false,false,false,0)))))))
 (cond (i1==7)
 ((F_part_whole i1 i2 i3 l4).bind fun x82=>
 some (x82.1,x82.2.1,x82.2.2.1,x82.2.2.2.1,x82.2.2.2.2.1,x82.2.2.2.2.2.1,x82.2.2.2.2.2.2.1,x82.2.2.2.2.2.2.2.1,x82.2.2.2.2.2.2.2.2.1,x82.2.2.2.2.2.2.2.2.2.1,x82.2.2.2.2.2.2.2.2.2.2.1,x82.2.2.2.2.2.2.2.2.2.2.2))
 (cond (i1==8)
 ((F_part_update i1 i2 i3 l4).bind fun x83=>
 some (x83.1,x83.2.1,x83.2.2.1,x83.2.2.2.1,x83.2.2.2.2.1,x83.2.2.2.2.2.1,x83.2.2.2.2.2.2.1,x83.2.2.2.2.2.2.2.1,x83.2.2.2.2.2.2.2.2.1,x83.2.2.2.2.2.2.2.2.2.1,x83.2.2.2.2.2.2.2.2.2.2.1,x83.2.2.2.2.2.2.2.2.2.2.2))
 (cond (i1==2)
 (cond (i1==2)
 (cond (i3==0)
 ((F_part_conn 1).bind fun x84=>
 some (x84.1,x84.2.1,x84.2.2.1,x84.2.2.2.1,x84.2.2.2.2.1,x84.2.2.2.2.2.1,x84.2.2.2.2.2.2.1,x84.2.2.2.2.2.2.2.1,x84.2.2.2.2.2.2.2.2.1,x84.2.2.2.2.2.2.2.2.2.1,x84.2.2.2.2.2.2.2.2.2.2.1,x84.2.2.2.2.2.2.2.2.2.2.2))
 (cond (i1==9)
 ((F_bytes_Clone l4).bind fun l85=>
 some (l85,0,0,0,0,([]:List (Int×Int)),false,false,(decide ((bits .and .i64 i2 4) > 0)),false,false,0))
 (cond (i1==2)
 (cond ((l4.length:Int) != 5)
 ((F_part_stream 6).bind fun x86=>
 some (x86.1,x86.2.1,x86.2.2.1,x86.2.2.2.1,x86.2.2.2.2.1,x86.2.2.2.2.2.1,x86.2.2.2.2.2.2.1,x86.2.2.2.2.2.2.2.1,x86.2.2.2.2.2.2.2.2.1,x86.2.2.2.2.2.2.2.2.2.1,x86.2.2.2.2.2.2.2.2.2.2.1,x86.2.2.2.2.2.2.2.2.2.2.2))
 (cond (i1==2)
 (some (([]:List Int),0,0,0,0,([]:List (Int×Int)),false,false,false,false,false,0))
 (cond ((l4.length:Int) != 4)
 ((F_part_conn 6).bind fun x87=>
 some (x87.1,x87.2.1,x87.2.2.1,x87.2.2.2.1,x87.2.2.2.2.1,x87.2.2.2.2.2.1,x87.2.2.2.2.2.2.1,x87.2.2.2.2.2.2.2.1,x87.2.2.2.2.2.2.2.2.1,x87.2.2.2.2.2.2.2.2.2.1,x87.2.2.2.2.2.2.2.2.2.2.1,x87.2.2.2.2.2.2.2.2.2.2.2))
 ((F_part_number l4).bind fun i88=>
 some (([]:List Int),0,i88,0,0,([]:List (Int×Int)),false,false,false,false,false,0)))))
 (cond (i1==2)
 (some (([]:List Int),0,0,0,0,([]:List (Int×Int)),false,false,false,false,false,0))
 (cond ((l4.length:Int) != 4)
 ((F_part_conn 6).bind fun x89=>
 some (x89.1,x89.2.1,x89.2.2.1,x89.2.2.2.1,x89.2.2.2.2.1,x89.2.2.2.2.2.1,x89.2.2.2.2.2.2.1,x89.2.2.2.2.2.2.2.1,x89.2.2.2.2.2.2.2.2.1,x89.2.2.2.2.2.2.2.2.2.1,x89.2.2.2.2.2.2.2.2.2.2.1,x89.2.2.2.2.2.2.2.2.2.2.2))
 ((F_part_number l4).bind fun i90=>
 some (([]:List Int),0,i90,0,0,([]:List (Int×Int)),false,false,false,false,false,0)))))))
 (some (([]:List Int),0,0,0,0,([]:List (Int×Int)),false,false,false,false,false,0)))
 (cond (i1==3)
 (cond (i1==3)
 (cond (i3==0)
 ((F_part_conn 1).bind fun x91=>
 some (x91.1,x91.2.1,x91.2.2.1,x91.2.2.2.1,x91.2.2.2.2.1,x91.2.2.2.2.2.1,x91.2.2.2.2.2.2.1,x91.2.2.2.2.2.2.2.1,x91.2.2.2.2.2.2.2.2.1,x91.2.2.2.2.2.2.2.2.2.1,x91.2.2.2.2.2.2.2.2.2.2.1,x91.2.2.2.2.2.2.2.2.2.2.2))
 (cond (i1==9)
 ((F_bytes_Clone l4).bind fun l92=>
 some (l92,0,0,0,0,([]:List (Int×Int)),false,false,(decide ((bits .and .i64 i2 4) > 0)),false,false,0))
 (cond (i1==2)
 (cond ((l4.length:Int) != 5)
 ((F_part_stream 6).bind fun x93=>
 some (x93.1,x93.2.1,x93.2.2.1,x93.2.2.2.1,x93.2.2.2.2.1,x93.2.2.2.2.2.1,x93.2.2.2.2.2.2.1,x93.2.2.2.2.2.2.2.1,x93.2.2.2.2.2.2.2.2.1,x93.2.2.2.2.2.2.2.2.2.1,x93.2.2.2.2.2.2.2.2.2.2.1,x93.2.2.2.2.2.2.2.2.2.2.2))
 (cond (i1==2)
 (some (([]:List Int),0,0,0,0,([]:List (Int×Int)),false,false,false,false,false,0))
 (cond ((l4.length:Int) != 4)
 ((F_part_conn 6).bind fun x94=>
 some (x94.1,x94.2.1,x94.2.2.1,x94.2.2.2.1,x94.2.2.2.2.1,x94.2.2.2.2.2.1,x94.2.2.2.2.2.2.1,x94.2.2.2.2.2.2.2.1,x94.2.2.2.2.2.2.2.2.1,x94.2.2.2.2.2.2.2.2.2.1,x94.2.2.2.2.2.2.2.2.2.2.1,x94.2.2.2.2.2.2.2.2.2.2.2))
 ((F_part_number l4).bind fun i95=>
 some (([]:List Int),0,i95,0,0,([]:List (Int×Int)),false,false,false,false,false,0)))))
 (cond (i1==2)
 (some (([]:List Int),0,0,0,0,([]:List (Int×Int)),false,false,false,false,false,0))
 (cond ((l4.length:Int) != 4)
 ((F_part_conn 6).bind fun x96=>
 some (x96.1,x96.2.1,x96.2.2.1,x96.2.2.2.1,x96.2.2.2.2.1,x96.2.2.2.2.2.1,x96.2.2.2.2.2.2.1,x96.2.2.2.2.2.2.2.1,x96.2.2.2.2.2.2.2.2.1,x96.2.2.2.2.2.2.2.2.2.1,x96.2.2.2.2.2.2.2.2.2.2.1,x96.2.2.2.2.2.2.2.2.2.2.2))
 ((F_part_number l4).bind fun i97=>
 some (([]:List Int),0,i97,0,0,([]:List (Int×Int)),false,false,false,false,false,0)))))))
 (some (([]:List Int),0,0,0,0,([]:List (Int×Int)),false,false,false,false,false,0)))
 (cond (i1==9)
 (cond (i3==0)
 ((F_part_conn 1).bind fun x98=>
 some (x98.1,x98.2.1,x98.2.2.1,x98.2.2.2.1,x98.2.2.2.2.1,x98.2.2.2.2.2.1,x98.2.2.2.2.2.2.1,x98.2.2.2.2.2.2.2.1,x98.2.2.2.2.2.2.2.2.1,x98.2.2.2.2.2.2.2.2.2.1,x98.2.2.2.2.2.2.2.2.2.2.1,x98.2.2.2.2.2.2.2.2.2.2.2))
 (cond (i1==9)
 ((F_bytes_Clone l4).bind fun l99=>
 some (l99,0,0,0,0,([]:List (Int×Int)),false,false,(decide ((bits .and .i64 i2 4) > 0)),false,false,0))
 (cond (i1==2)
 (cond ((l4.length:Int) != 5)
 ((F_part_stream 6).bind fun x100=>
 some (x100.1,x100.2.1,x100.2.2.1,x100.2.2.2.1,x100.2.2.2.2.1,x100.2.2.2.2.2.1,x100.2.2.2.2.2.2.1,x100.2.2.2.2.2.2.2.1,x100.2.2.2.2.2.2.2.2.1,x100.2.2.2.2.2.2.2.2.2.1,x100.2.2.2.2.2.2.2.2.2.2.1,x100.2.2.2.2.2.2.2.2.2.2.2))
 (cond (i1==2)
 (some (([]:List Int),0,0,0,0,([]:List (Int×Int)),false,false,false,false,false,0))
 (cond ((l4.length:Int) != 4)
 ((F_part_conn 6).bind fun x101=>
 some (x101.1,x101.2.1,x101.2.2.1,x101.2.2.2.1,x101.2.2.2.2.1,x101.2.2.2.2.2.1,x101.2.2.2.2.2.2.1,x101.2.2.2.2.2.2.2.1,x101.2.2.2.2.2.2.2.2.1,x101.2.2.2.2.2.2.2.2.2.1,x101.2.2.2.2.2.2.2.2.2.2.1,x101.2.2.2.2.2.2.2.2.2.2.2))
 ((F_part_number l4).bind fun i102=>
 some (([]:List Int),0,i102,0,0,([]:List (Int×Int)),false,false,false,false,false,0)))))
 (cond (i1==2)
 (some (([]:List Int),0,0,0,0,([]:List (Int×Int)),false,false,false,false,false,0))
 (cond ((l4.length:Int) != 4)
 ((F_part_conn 6).bind fun x103=>
 some (x103.1,x103.2.1,x103.2.2.1,x103.2.2.2.1,x103.2.2.2.2.1,x103.2.2.2.2.2.1,x103.2.2.2.2.2.2.1,x103.2.2.2.2.2.2.2.1,x103.2.2.2.2.2.2.2.2.1,x103.2.2.2.2.2.2.2.2.2.1,x103.2.2.2.2.2.2.2.2.2.2.1,x103.2.2.2.2.2.2.2.2.2.2.2))
 ((F_part_number l4).bind fun i104=>
 some (([]:List Int),0,i104,0,0,([]:List (Int×Int)),false,false,false,false,false,0)))))))
 (some (([]:List Int),0,0,0,0,([]:List (Int×Int)),false,false,false,false,false,0)))))))))))
def F_part_Read_sig:Sig:=⟨[.v true [.d (.int .i64),.d (.int .i64),.d (.int .i64),.d (.sl (.int .u8))]],[(true,[.own 5 (.int .u8),.d (.int .i64),.d (.int .i64),.d (.int .i64),.d (.int .i64),.own 66 Zp13,.d .bool,.d .bool,.d .bool]),(true,[.d .bool,.d .bool,.d (.int .i64)])],[]⟩
def F_part_Read_ann:List (Nat×Ann):=[]
noncomputable def F_part_Read_env:Env:=⟨Tryd.prog,[(29,⟨F_bytes_Clone_sig,⟨F_bytes_Clone⟩⟩),(39,⟨F_part_bodied_sig,⟨F_part_bodied⟩⟩),(40,⟨F_part_settings_sig,⟨F_part_settings⟩⟩),(41,⟨F_part_conn_sig,⟨F_part_conn⟩⟩),(42,⟨F_part_whole_sig,⟨F_part_whole⟩⟩),(43,⟨F_part_update_sig,⟨F_part_update⟩⟩),(44,⟨F_part_stream_sig,⟨F_part_stream⟩⟩),(45,⟨F_part_number_sig,⟨F_part_number⟩⟩)],[]⟩
theorem F_part_Read_text:pvFn F_part_Read_env F_part_Read_ann Tryd.f32 F_part_Read_sig=F_part_Read:=by kernel_rfl
noncomputable def F_sets_wrong (i1:Int) (i2:Int):Option (Int):=
 cond (i1==2)
 (cond (i2 != 0)
 (cond (i2 != 1)
 (cond (i2 != 1)
 (some 1)
 (cond (i1==4)
 (cond (decide (i2 > 2147483647))
 (some 3)
 (some 0))
 (some 0)))
 (cond (i1==5)
 (cond (decide (i2 < 16384))
 (some 1)
 (cond (decide (i2 > 16777215))
 (some 1)
 (cond (i1==4)
 (cond (decide (i2 > 2147483647))
 (some 3)
 (some 0))
 (some 0))))
 (cond (i1==4)
 (cond (decide (i2 > 2147483647))
 (some 3)
 (some 0))
 (some 0))))
 (cond (i1==5)
 (cond (decide (i2 < 16384))
 (some 1)
 (cond (decide (i2 > 16777215))
 (some 1)
 (cond (i1==4)
 (cond (decide (i2 > 2147483647))
 (some 3)
 (some 0))
 (some 0))))
 (cond (i1==4)
 (cond (decide (i2 > 2147483647))
 (some 3)
 (some 0))
 (some 0))))
 (cond (i1==5)
 (cond (decide (i2 < 16384))
 (some 1)
 (cond (decide (i2 > 16777215))
 (some 1)
 (cond (i1==4)
 (cond (decide (i2 > 2147483647))
 (some 3)
 (some 0))
 (some 0))))
 (cond (i1==4)
 (cond (decide (i2 > 2147483647))
 (some 3)
 (some 0))
 (some 0)))
def F_sets_wrong_sig:Sig:=⟨[.v true [.d (.int .i64),.d (.int .i64)]],[(false,[.d (.int .i64)])],[]⟩
def F_sets_wrong_ann:List (Nat×Ann):=[]
noncomputable def F_sets_wrong_env:Env:=⟨Tryd.prog,[],[]⟩
theorem F_sets_wrong_text:pvFn F_sets_wrong_env F_sets_wrong_ann Tryd.f62 F_sets_wrong_sig=F_sets_wrong:=by kernel_rfl
noncomputable def F_sets_Apply_L3 (l7:List (Int×Int)) (s:Int×Int×Int×Int×Int×Int×Int×Int×Int×Int×Int×Int×Int×Bool×Bool×Int):Option (((Int×Int×Int×Int×Int×Int×Bool×Bool×Int)⊕(Int×Int×Int×Int×Int×Int×Int×Int×Int×Int×Int×Int×Bool×Bool×Int))⊕(Int×Int×Int×Int×Int×Int×Int×Int×Int×Int×Int×Int×Int×Bool×Bool×Int)):=
 let i9:=s.1;let i10:=s.2.1;let i11:=s.2.2.1;let i12:=s.2.2.2.1;let i13:=s.2.2.2.2.1;let i14:=s.2.2.2.2.2.1;let i15:=s.2.2.2.2.2.2.1;let i17:=s.2.2.2.2.2.2.2.1;let i18:=s.2.2.2.2.2.2.2.2.1;let i19:=s.2.2.2.2.2.2.2.2.2.1;let i20:=s.2.2.2.2.2.2.2.2.2.2.1;let i21:=s.2.2.2.2.2.2.2.2.2.2.2.1;let i22:=s.2.2.2.2.2.2.2.2.2.2.2.2.1;let b23:=s.2.2.2.2.2.2.2.2.2.2.2.2.2.1;let b24:=s.2.2.2.2.2.2.2.2.2.2.2.2.2.2.1;let i25:=s.2.2.2.2.2.2.2.2.2.2.2.2.2.2.2
 cond (decide (i9 < (l7.length:Int)))
 ((getI l7 i9).bind fun x26=>
 (F_sets_wrong x26.1 x26.2).bind fun i27=>
 cond (i27 != 0)
 (some (.inl (.inl (0,0,0,0,0,0,true,true,i27))))
 (cond (x26.1==1)
 (some (.inr ((IntKind.i64.wrap (i9+1)),(minI x26.2 2147483647),i11,i12,i13,i14,i15,i17,i18,i19,i20,i21,i22,b23,b24,i25)))
 (cond (x26.1==2)
 (some (.inr ((IntKind.i64.wrap (i9+1)),i10,x26.2,i12,i13,i14,i15,i17,i18,i19,i20,i21,i22,b23,b24,i25)))
 (cond (x26.1==3)
 (some (.inr ((IntKind.i64.wrap (i9+1)),i10,i11,(minI x26.2 2147483647),i13,i14,i15,i17,i18,i19,i20,i21,i22,b23,b24,i25)))
 (cond (x26.1==4)
 (some (.inr ((IntKind.i64.wrap (i9+1)),i10,i11,i12,x26.2,i14,i15,i17,i18,i19,i20,i21,i22,b23,b24,i25)))
 (cond (x26.1==5)
 (some (.inr ((IntKind.i64.wrap (i9+1)),i10,i11,i12,i13,x26.2,i15,i17,i18,i19,i20,i21,i22,b23,b24,i25)))
 (cond (x26.1==6)
 (some (.inr ((IntKind.i64.wrap (i9+1)),i10,i11,i12,i13,i14,(minI x26.2 2147483647),i17,i18,i19,i20,i21,i22,b23,b24,i25)))
 (some (.inr ((IntKind.i64.wrap (i9+1)),i10,i11,i12,i13,i14,i15,i17,i18,i19,i20,i21,i22,b23,b24,i25))))))))))
 (some (.inl (.inr (i10,i11,i12,i13,i14,i15,i17,i18,i19,i20,i21,i22,b23,b24,i25))))
noncomputable def F_sets_Apply_J1 (s:Int×Int×Int×Int×Int×Int×Int×Int×Int×Int×Int×Int×Bool×Bool×Int):Option (Int×Int×Int×Int×Int×Int×Bool×Bool×Int):=
 let i28:=s.1;let i29:=s.2.1;let i30:=s.2.2.1;let i31:=s.2.2.2.1;let i33:=s.2.2.2.2.1;let i34:=s.2.2.2.2.2.1;let i35:=s.2.2.2.2.2.2.1;let i36:=s.2.2.2.2.2.2.2.1;let i37:=s.2.2.2.2.2.2.2.2.1;let i38:=s.2.2.2.2.2.2.2.2.2.1;let i39:=s.2.2.2.2.2.2.2.2.2.2.1;let i40:=s.2.2.2.2.2.2.2.2.2.2.2.1;let b41:=s.2.2.2.2.2.2.2.2.2.2.2.2.1;let b42:=s.2.2.2.2.2.2.2.2.2.2.2.2.2.1;let i43:=s.2.2.2.2.2.2.2.2.2.2.2.2.2.2
 some (i28,i29,i30,i31,i33,i34,false,false,0)
noncomputable def F_sets_Apply (i1:Int) (i2:Int) (i3:Int) (i4:Int) (i5:Int) (i6:Int) (l7:List (Int×Int)):Option (Int×Int×Int×Int×Int×Int×Bool×Bool×Int):=
 joinC (S:=Int×Int×Int×Int×Int×Int×Int×Int×Int×Int×Int×Int×Bool×Bool×Int) (R:=Int×Int×Int×Int×Int×Int×Bool×Bool×Int)
 (loopC (S:=Int×Int×Int×Int×Int×Int×Int×Int×Int×Int×Int×Int×Int×Bool×Bool×Int) (R:=(Int×Int×Int×Int×Int×Int×Bool×Bool×Int)⊕(Int×Int×Int×Int×Int×Int×Int×Int×Int×Int×Int×Int×Bool×Bool×Int)) (F_sets_Apply_L3 l7) (0,i1,i2,i3,i4,i5,i6,0,0,0,0,0,0,false,false,0))
 (F_sets_Apply_J1)
def F_sets_Apply_sig:Sig:=⟨[.v true [.d (.int .i64),.d (.int .i64),.d (.int .i64),.d (.int .i64),.d (.int .i64),.d (.int .i64)],.v false [.d (.sl Zp13)]],[(true,[.d (.int .i64),.d (.int .i64),.d (.int .i64),.d (.int .i64),.d (.int .i64),.d (.int .i64)]),(true,[.d .bool,.d .bool,.d (.int .i64)])],[]⟩
def F_sets_Apply_ann:List (Nat×Ann):=[(1,⟨2,[],[(2,[.d (.int .i64),.d (.int .i64),.d (.int .i64),.d (.int .i64),.d (.int .i64),.d (.int .i64)]),(4,[.d (.int .i64),.d (.int .i64),.d (.int .i64),.d (.int .i64),.d (.int .i64),.d (.int .i64)]),(5,[.d .bool,.d .bool,.d (.int .i64)])],(List.range' 7 51),[],[],[]⟩),(3,⟨4,[(11,false,[.d (.int .i64)])],[(2,[.d (.int .i64),.d (.int .i64),.d (.int .i64),.d (.int .i64),.d (.int .i64),.d (.int .i64)]),(4,[.d (.int .i64),.d (.int .i64),.d (.int .i64),.d (.int .i64),.d (.int .i64),.d (.int .i64)]),(5,[.d .bool,.d .bool,.d (.int .i64)])],([7,8]++List.range' 12 46),[],[],[]⟩)]
noncomputable def F_sets_Apply_env:Env:=⟨Tryd.prog,[(62,⟨F_sets_wrong_sig,⟨F_sets_wrong⟩⟩)],[]⟩
theorem F_sets_Apply_text:pvFn F_sets_Apply_env F_sets_Apply_ann Tryd.f50 F_sets_Apply_sig=F_sets_Apply:=by kernel_rfl
noncomputable def F_watch_Watch_applies (p1:Int) (l2:Zt5) (l3:Zt1) (l4:List (Option Int×Bool×Bool×Bool×List Int)):Option (Bool×Zt1×List (Option Int×Bool×Bool×Bool×List Int)):=
 chk (nnI p1)
 ((getI l3 p1).bind fun x5=>
 cond ((x5.2.2.2.2.2.2.2.2.2.1.length:Int)==0)
 (some (false,l3,l4))
 (chk (nnI p1)
 ((getI l3 p1).bind fun x6=>
 chk (nnI p1)
 ((getI l3 p1).bind fun x7=>
 (getI x7.2.2.2.2.2.2.2.2.2.1 0).bind fun l8=>
 (F_sets_Apply x6.2.2.2.2.2.2.2.2.2.2.1.1 x6.2.2.2.2.2.2.2.2.2.2.1.2.1 x6.2.2.2.2.2.2.2.2.2.2.1.2.2.1 x6.2.2.2.2.2.2.2.2.2.2.1.2.2.2.1 x6.2.2.2.2.2.2.2.2.2.2.1.2.2.2.2.1 x6.2.2.2.2.2.2.2.2.2.2.1.2.2.2.2.2 l8).bind fun x9=>
 chk (nnI p1)
 ((getI l3 p1).bind fun x10=>
 (cutI x10.2.2.2.2.2.2.2.2.2.1 1 (x10.2.2.2.2.2.2.2.2.2.1.length:Int)).bind fun l11=>
 chk (nnI p1)
 ((getI l3 p1).bind fun x12=>
 chk (eqI p1 p1)
 (chk (nnI p1)
 ((getI (l3.set (Int.toNat p1) (x12.1,(x12.2.1,(x12.2.2.1,(x12.2.2.2.1,(x12.2.2.2.2.1,(x12.2.2.2.2.2.1,(x12.2.2.2.2.2.2.1,(x12.2.2.2.2.2.2.2.1,(x12.2.2.2.2.2.2.2.2.1,(l11,x12.2.2.2.2.2.2.2.2.2.2))))))))))) p1).bind fun x13=>
 chk (nnI p1)
 ((getI (l3.set (Int.toNat p1) (x12.1,(x12.2.1,(x12.2.2.1,(x12.2.2.2.1,(x12.2.2.2.2.1,(x12.2.2.2.2.2.1,(x12.2.2.2.2.2.2.1,(x12.2.2.2.2.2.2.2.1,(x12.2.2.2.2.2.2.2.2.1,(l11,x12.2.2.2.2.2.2.2.2.2.2))))))))))) p1).bind fun x14=>
 chk (nnI p1)
 ((getI ((l3.set (Int.toNat p1) (x12.1,(x12.2.1,(x12.2.2.1,(x12.2.2.2.1,(x12.2.2.2.2.1,(x12.2.2.2.2.2.1,(x12.2.2.2.2.2.2.1,(x12.2.2.2.2.2.2.2.1,(x12.2.2.2.2.2.2.2.2.1,(l11,x12.2.2.2.2.2.2.2.2.2.2))))))))))).set (Int.toNat p1) (x14.1,(x14.2.1,(x14.2.2.1,(x14.2.2.2.1,(x14.2.2.2.2.1,(x14.2.2.2.2.2.1,(x14.2.2.2.2.2.2.1,(x14.2.2.2.2.2.2.2.1,(x14.2.2.2.2.2.2.2.2.1,(x14.2.2.2.2.2.2.2.2.2.1,((x9.1,x9.2.1,x9.2.2.1,x9.2.2.2.1,x9.2.2.2.2.1,x9.2.2.2.2.2.1),x14.2.2.2.2.2.2.2.2.2.2.2)))))))))))) p1).bind fun x15=>
 chk (apOk (IntKind.i64.wrap (x9.2.2.2.1 - x13.2.2.2.2.2.2.2.2.2.2.1.2.2.2.1)) p1 l2 (((l3.set (Int.toNat p1) (x12.1,(x12.2.1,(x12.2.2.1,(x12.2.2.2.1,(x12.2.2.2.2.1,(x12.2.2.2.2.2.1,(x12.2.2.2.2.2.2.1,(x12.2.2.2.2.2.2.2.1,(x12.2.2.2.2.2.2.2.2.1,(l11,x12.2.2.2.2.2.2.2.2.2.2))))))))))).set (Int.toNat p1) (x14.1,(x14.2.1,(x14.2.2.1,(x14.2.2.2.1,(x14.2.2.2.2.1,(x14.2.2.2.2.2.1,(x14.2.2.2.2.2.2.1,(x14.2.2.2.2.2.2.2.1,(x14.2.2.2.2.2.2.2.2.1,(x14.2.2.2.2.2.2.2.2.2.1,((x9.1,x9.2.1,x9.2.2.1,x9.2.2.2.1,x9.2.2.2.2.1,x9.2.2.2.2.2.1),x14.2.2.2.2.2.2.2.2.2.2.2)))))))))))).set (Int.toNat p1) (x15.1,(x15.2.1,(x15.2.2.1,(x15.2.2.2.1,(x9.2.2.2.2.2.2.1,x15.2.2.2.2.2)))))) l4)
 (some (true,(apW (IntKind.i64.wrap (x9.2.2.2.1 - x13.2.2.2.2.2.2.2.2.2.2.1.2.2.2.1)) p1 l2 (((l3.set (Int.toNat p1) (x12.1,(x12.2.1,(x12.2.2.1,(x12.2.2.2.1,(x12.2.2.2.2.1,(x12.2.2.2.2.2.1,(x12.2.2.2.2.2.2.1,(x12.2.2.2.2.2.2.2.1,(x12.2.2.2.2.2.2.2.2.1,(l11,x12.2.2.2.2.2.2.2.2.2.2))))))))))).set (Int.toNat p1) (x14.1,(x14.2.1,(x14.2.2.1,(x14.2.2.2.1,(x14.2.2.2.2.1,(x14.2.2.2.2.2.1,(x14.2.2.2.2.2.2.1,(x14.2.2.2.2.2.2.2.1,(x14.2.2.2.2.2.2.2.2.1,(x14.2.2.2.2.2.2.2.2.2.1,((x9.1,x9.2.1,x9.2.2.1,x9.2.2.2.1,x9.2.2.2.2.1,x9.2.2.2.2.2.1),x14.2.2.2.2.2.2.2.2.2.2.2)))))))))))).set (Int.toNat p1) (x15.1,(x15.2.1,(x15.2.2.1,(x15.2.2.2.1,(x9.2.2.2.2.2.2.1,x15.2.2.2.2.2)))))) l4),(apS (IntKind.i64.wrap (x9.2.2.2.1 - x13.2.2.2.2.2.2.2.2.2.2.1.2.2.2.1)) p1 l2 (((l3.set (Int.toNat p1) (x12.1,(x12.2.1,(x12.2.2.1,(x12.2.2.2.1,(x12.2.2.2.2.1,(x12.2.2.2.2.2.1,(x12.2.2.2.2.2.2.1,(x12.2.2.2.2.2.2.2.1,(x12.2.2.2.2.2.2.2.2.1,(l11,x12.2.2.2.2.2.2.2.2.2.2))))))))))).set (Int.toNat p1) (x14.1,(x14.2.1,(x14.2.2.1,(x14.2.2.2.1,(x14.2.2.2.2.1,(x14.2.2.2.2.2.1,(x14.2.2.2.2.2.2.1,(x14.2.2.2.2.2.2.2.1,(x14.2.2.2.2.2.2.2.2.1,(x14.2.2.2.2.2.2.2.2.2.1,((x9.1,x9.2.1,x9.2.2.1,x9.2.2.2.1,x9.2.2.2.2.1,x9.2.2.2.2.2.1),x14.2.2.2.2.2.2.2.2.2.2.2)))))))))))).set (Int.toNat p1) (x15.1,(x15.2.1,(x15.2.2.1,(x15.2.2.2.1,(x9.2.2.2.2.2.2.1,x15.2.2.2.2.2)))))) l4)))))))))))))
def F_watch_Watch_applies_sig:Sig:=⟨[.v false [.d (.ptr 59)]],[(false,[.d .bool])],[(1000103,(.sl Zp14),false),(1000118,Zp8,true),(1000142,Zp11,true)]⟩
def F_watch_Watch_applies_ann:List (Nat×Ann):=[(10,⟨910,[],[],[],[],[],[]⟩)]
noncomputable def F_watch_Watch_applies_env:Env:=⟨Tryd.prog,[(50,⟨F_sets_Apply_sig,⟨F_sets_Apply⟩⟩)],[34]⟩
theorem F_watch_Watch_applies_text:pvFnT 7 apTail F_watch_Watch_applies_env F_watch_Watch_applies_ann Tryd.f34 F_watch_Watch_applies_sig=F_watch_Watch_applies:=by kernel_rfl
noncomputable def F_watch_Watch_live (p1:Int) (i2:Int) (l3:Zt5) (l4:Zt1) (l5:List (Option Int×Bool×Bool×Bool×List Int)):Option (Int):=
 chk (nnI p1)
 ((getI l4 p1).bind fun x6=>
 (getI l3 x6.2.2.2.2.2.2.2.1).bind fun m7=>
 cond (!(eqI (getZ (mapGet m7 i2) (-1:Int)) (-1)))
 (chk (nnI (getZ (mapGet m7 i2) (-1:Int)))
 ((getI l5 (getZ (mapGet m7 i2) (-1:Int))).bind fun x8=>
 cond (!x8.2.2.1)
 (chk (nnI (getZ (mapGet m7 i2) (-1:Int)))
 ((getI l5 (getZ (mapGet m7 i2) (-1:Int))).bind fun x9=>
 cond (!x9.2.2.2.1)
 (some (getZ (mapGet m7 i2) (-1:Int)))
 (some (-1:Int))))
 (some (-1:Int))))
 (some (-1:Int)))
def F_watch_Watch_live_sig:Sig:=⟨[.v false [.d (.ptr 59)],.v false [.d (.int .i64)]],[(false,[.d (.ptr 71)])],[(1000103,(.sl Zp14),false),(1000118,Zp8,false),(1000142,Zp11,false)]⟩
def F_watch_Watch_live_ann:List (Nat×Ann):=[]
noncomputable def F_watch_Watch_live_env:Env:=⟨Tryd.prog,[],[]⟩
theorem F_watch_Watch_live_text:pvFn F_watch_Watch_live_env F_watch_Watch_live_ann Tryd.f52 F_watch_Watch_live_sig=F_watch_Watch_live:=by kernel_rfl
noncomputable def F_pint_ones (i1:Int):Option (Int):=
 cond ((decide (i1 < 1))||(decide (i1 > 8)))
 (some 0)
 (chk (decide (0<=i1))
 (some (IntKind.i64.wrap ((IntKind.i64.wrap (1*2 ^ (min (i1).toNat 64))) - 1))))
def F_pint_ones_sig:Sig:=⟨[.v false [.d (.int .i64)]],[(false,[.d (.int .i64)])],[]⟩
def F_pint_ones_ann:List (Nat×Ann):=[]
noncomputable def F_pint_ones_env:Env:=⟨Tryd.prog,[],[]⟩
theorem F_pint_ones_text:pvFn F_pint_ones_env F_pint_ones_ann Tryd.f78 F_pint_ones_sig=F_pint_ones:=by kernel_rfl
noncomputable def F_pint_Get_G1_0 (l1:List Int) (s:Int×Int):Option ((Int×Int×Int)⊕(Nat×Int×Int)):=
 let i10:=s.1;let i11:=s.2
 cond (i11==(l1.length:Int))
 (some (.inl (0,0,4)))
 ((getI l1 i11).bind fun i12=>
 chk (decide (0<=(IntKind.i64.wrap (7*(IntKind.i64.wrap (i11 - 1))))))
 (cond (decide ((IntKind.i64.wrap (i10+(IntKind.i64.wrap ((IntKind.i64.wrap (bits .and .u8 i12 127))*2 ^ (min ((IntKind.i64.wrap (7*(IntKind.i64.wrap (i11 - 1))))).toNat 64))))) > 2147483647))
 (some (.inl (0,0,1)))
 (cond ((IntKind.i64.wrap (i11+1))==6)
 ((getI l1 (IntKind.i64.wrap ((IntKind.i64.wrap (i11+1)) - 1))).bind fun i13=>
 cond (decide (i13 >= 128))
 (some (.inl (0,0,1)))
 ((getI l1 (IntKind.i64.wrap ((IntKind.i64.wrap (i11+1)) - 1))).bind fun i14=>
 cond (decide (i14 >= 128))
 (some (.inr (0,((IntKind.i64.wrap (i10+(IntKind.i64.wrap ((IntKind.i64.wrap (bits .and .u8 i12 127))*2 ^ (min ((IntKind.i64.wrap (7*(IntKind.i64.wrap (i11 - 1))))).toNat 64))))),(IntKind.i64.wrap (i11+1))))))
 (some (.inl ((IntKind.i64.wrap (i10+(IntKind.i64.wrap ((IntKind.i64.wrap (bits .and .u8 i12 127))*2 ^ (min ((IntKind.i64.wrap (7*(IntKind.i64.wrap (i11 - 1))))).toNat 64))))),(IntKind.i64.wrap (i11+1)),0)))))
 ((getI l1 (IntKind.i64.wrap ((IntKind.i64.wrap (i11+1)) - 1))).bind fun i15=>
 cond (decide (i15 >= 128))
 (some (.inr (0,((IntKind.i64.wrap (i10+(IntKind.i64.wrap ((IntKind.i64.wrap (bits .and .u8 i12 127))*2 ^ (min ((IntKind.i64.wrap (7*(IntKind.i64.wrap (i11 - 1))))).toNat 64))))),(IntKind.i64.wrap (i11+1))))))
 (some (.inl ((IntKind.i64.wrap (i10+(IntKind.i64.wrap ((IntKind.i64.wrap (bits .and .u8 i12 127))*2 ^ (min ((IntKind.i64.wrap (7*(IntKind.i64.wrap (i11 - 1))))).toNat 64))))),(IntKind.i64.wrap (i11+1)),0)))))))
noncomputable def F_pint_Get_G1 (l1:List Int) (p:Nat×Int×Int):Option ((Int×Int×Int)⊕(Nat×Int×Int)):=
 cond (hasN [0] p.1) (F_pint_Get_G1_0 l1 p.2) (none)
noncomputable def F_pint_Get (l1:List Int) (i2:Int):Option (Int×Int×Int):=
 joinC (S:=Nat×Int×Int) (R:=Int×Int×Int)
 ((F_pint_ones i2).bind fun i3=>
 cond (i3==0)
 (some (.inl (0,0,1)))
 (cond ((l1.length:Int)==0)
 (some (.inl (0,0,4)))
 ((getI l1 0).bind fun i4=>
 cond (decide ((bits .and .i64 (IntKind.i64.wrap i4) i3) < i3))
 (some (.inl ((bits .and .i64 (IntKind.i64.wrap i4) i3),1,0)))
 (cond (1==(l1.length:Int))
 (some (.inl (0,0,4)))
 ((getI l1 1).bind fun i5=>
 chk (decide (0<=(IntKind.i64.wrap (7*(IntKind.i64.wrap (1 - 1))))))
 (cond (decide ((IntKind.i64.wrap ((bits .and .i64 (IntKind.i64.wrap i4) i3)+(IntKind.i64.wrap ((IntKind.i64.wrap (bits .and .u8 i5 127))*2 ^ (min ((IntKind.i64.wrap (7*(IntKind.i64.wrap (1 - 1))))).toNat 64))))) > 2147483647))
 (some (.inl (0,0,1)))
 (cond ((IntKind.i64.wrap (1+1))==6)
 ((getI l1 (IntKind.i64.wrap ((IntKind.i64.wrap (1+1)) - 1))).bind fun i6=>
 cond (decide (i6 >= 128))
 (some (.inl (0,0,1)))
 ((getI l1 (IntKind.i64.wrap ((IntKind.i64.wrap (1+1)) - 1))).bind fun i7=>
 cond (decide (i7 >= 128))
 (some (.inr (0,((IntKind.i64.wrap ((bits .and .i64 (IntKind.i64.wrap i4) i3)+(IntKind.i64.wrap ((IntKind.i64.wrap (bits .and .u8 i5 127))*2 ^ (min ((IntKind.i64.wrap (7*(IntKind.i64.wrap (1 - 1))))).toNat 64))))),(IntKind.i64.wrap (1+1))))))
 (some (.inl ((IntKind.i64.wrap ((bits .and .i64 (IntKind.i64.wrap i4) i3)+(IntKind.i64.wrap ((IntKind.i64.wrap (bits .and .u8 i5 127))*2 ^ (min ((IntKind.i64.wrap (7*(IntKind.i64.wrap (1 - 1))))).toNat 64))))),(IntKind.i64.wrap (1+1)),0)))))
 ((getI l1 (IntKind.i64.wrap ((IntKind.i64.wrap (1+1)) - 1))).bind fun i9=>
 cond (decide (i9 >= 128))
 (some (.inr (0,((IntKind.i64.wrap ((bits .and .i64 (IntKind.i64.wrap i4) i3)+(IntKind.i64.wrap ((IntKind.i64.wrap (bits .and .u8 i5 127))*2 ^ (min ((IntKind.i64.wrap (7*(IntKind.i64.wrap (1 - 1))))).toNat 64))))),(IntKind.i64.wrap (1+1))))))
 (some (.inl ((IntKind.i64.wrap ((bits .and .i64 (IntKind.i64.wrap i4) i3)+(IntKind.i64.wrap ((IntKind.i64.wrap (bits .and .u8 i5 127))*2 ^ (min ((IntKind.i64.wrap (7*(IntKind.i64.wrap (1 - 1))))).toNat 64))))),(IntKind.i64.wrap (1+1)),0)))))))))))
 (fun p=>loopC (S:=Nat×Int×Int) (R:=Int×Int×Int) (F_pint_Get_G1 l1) p)
def F_pint_Get_sig:Sig:=⟨[.v false [.d (.sl (.int .u8))],.v false [.d (.int .i64)]],[(false,[.d (.int .i64)]),(false,[.d (.int .i64)]),(false,[.d (.int .i64)])],[]⟩
def F_pint_Get_ann:List (Nat×Ann):=[(1,⟨2,[(8,false,[.d (.int .i64)]),(9,false,[.d (.int .i64)])],[],([4,5,6,7]++List.range' 10 58),[],[],[]⟩)]
noncomputable def F_pint_Get_env:Env:=⟨Tryd.prog,[(78,⟨F_pint_ones_sig,⟨F_pint_ones⟩⟩)],[]⟩
theorem F_pint_Get_text:pvFn F_pint_Get_env F_pint_Get_ann Tryd.f74 F_pint_Get_sig=F_pint_Get:=by kernel_rfl
noncomputable def F_unpack_block_number (l1:List Int) (p2:Int) (i3:Int) (i4:Int) (l5:Zt6) (i6:Int):Option (Int×Bool×List Int×Int×Int×Int×Zt6):=
 (F_pint_Get l1 i6).bind fun x7=>
 cond (x7.2.2 != 0)
 (some (0,false,l1,p2,i3,i4,l5))
 ((cutI l1 x7.2.1 (l1.length:Int)).bind fun l8=>
 some (x7.1,true,l8,p2,i3,i4,l5))
def F_unpack_block_number_sig:Sig:=⟨[.m [.d (.sl (.int .u8)),.d (.ptr 91),.d (.int .i64),.d (.int .i64),.own 109 Zp15],.v false [.d (.int .i64)]],[(false,[.d (.int .i64)]),(false,[.d .bool])],[]⟩
def F_unpack_block_number_ann:List (Nat×Ann):=[]
noncomputable def F_unpack_block_number_env:Env:=⟨Tryd.prog,[(74,⟨F_pint_Get_sig,⟨F_pint_Get⟩⟩)],[25]⟩
theorem F_unpack_block_number_text:pvFn F_unpack_block_number_env F_unpack_block_number_ann Tryd.f69 F_unpack_block_number_sig=F_unpack_block_number:=by kernel_rfl
noncomputable def F_internal_stringslite_Cut (s1:List Int) (s2:List Int):Option (List Int×List Int×Bool):=
 (F_internal_stringslite_Index s1 s2).bind fun i3=>
 cond (decide (i3 >= 0))
 ((cutI s1 0 i3).bind fun s4=>
 (cutI s1 (IntKind.i64.wrap (i3+(s2.length:Int))) (s1.length:Int)).bind fun s5=>
 some (s4,s5,true))
 (some (s1,([]:List Int),false))
def F_internal_stringslite_Cut_sig:Sig:=⟨[.v false [.d .str],.v false [.d .str]],[(false,[.d .str]),(false,[.d .str]),(false,[.d .bool])],[]⟩
def F_internal_stringslite_Cut_ann:List (Nat×Ann):=[]
noncomputable def F_internal_stringslite_Cut_env:Env:=⟨Tryd.prog,[(89,⟨F_internal_stringslite_Index_sig,⟨F_internal_stringslite_Index⟩⟩)],[]⟩
theorem F_internal_stringslite_Cut_text:pvFn F_internal_stringslite_Cut_env F_internal_stringslite_Cut_ann Tryd.f85 F_internal_stringslite_Cut_sig=F_internal_stringslite_Cut:=by kernel_rfl
noncomputable def F_strings_Cut (s1:List Int) (s2:List Int):Option (List Int×List Int×Bool):=
 (F_internal_stringslite_Cut s1 s2).bind fun x3=>
 some (x3.1,x3.2.1,x3.2.2)
def F_strings_Cut_sig:Sig:=⟨[.v false [.d .str],.v false [.d .str]],[(false,[.d .str]),(false,[.d .str]),(false,[.d .bool])],[]⟩
def F_strings_Cut_ann:List (Nat×Ann):=[]
noncomputable def F_strings_Cut_env:Env:=⟨Tryd.prog,[(85,⟨F_internal_stringslite_Cut_sig,⟨F_internal_stringslite_Cut⟩⟩)],[]⟩
theorem F_strings_Cut_text:pvFn F_strings_Cut_env F_strings_Cut_ann Tryd.f82 F_strings_Cut_sig=F_strings_Cut:=by kernel_rfl
noncomputable def F_stat_split (s1:List Int):Option (List Int×List Int×Bool):=
 (F_strings_Cut s1 ([32]:List Int)).bind fun x2=>
 some (x2.1,x2.2.1,false)
def F_stat_split_sig:Sig:=⟨[.v false [.d .str]],[(true,[.d .str,.d .str,.d .bool])],[]⟩
def F_stat_split_ann:List (Nat×Ann):=[]
noncomputable def F_stat_split_env:Env:=⟨Tryd.prog,[(82,⟨F_strings_Cut_sig,⟨F_strings_Cut⟩⟩)],[]⟩
theorem F_stat_split_text:pvFn F_stat_split_env F_stat_split_ann Tryd.f79 F_stat_split_sig=F_stat_split:=by kernel_rfl
noncomputable def F_stat_Get (i1:Int):Option (List Int×List Int×Bool×Bool):=
 cond ((decide (i1 < 1))||(decide (i1 > 61)))
 (some (([]:List Int),([]:List Int),false,false))
 ((F_strings_Split ([58,97,117,116,104,111,114,105,116,121,124,58,109,101,116,104,111,100,32,71,69,84,124,58,109,101,116,104,111,100,32,80,79,83,84,124,58,112,97,116,104,32,47,124,58,112,97,116,104,32,47,105,110,100,101,120,46,104,116,109,108,124,58,115,99,104,101,109,101,32,104,116,116,112,124,58,115,99,104,101,109,101,32,104,116,116,112,115,124,58,115,116,97,116,117,115,32,50,48,48,124,58,115,116,97,116,117,115,32,50,48,52,124,58,115,116,97,116,117,115,32,50,48,54,124,58,115,116,97,116,117,115,32,51,48,52,124,58,115,116,97,116,117,115,32,52,48,48,124,58,115,116,97,116,117,115,32,52,48,52,124,58,115,116,97,116,117,115,32,53,48,48,124,97,99,99,101,112,116,45,99,104,97,114,115,101,116,124,97,99,99,101,112,116,45,101,110,99,111,100,105,110,103,32,103,122,105,112,44,32,100,101,102,108,97,116,101,124,97,99,99,101,112,116,45,108,97,110,103,117,97,103,101,124,97,99,99,101,112,116,45,114,97,110,103,101,115,124,97,99,99,101,112,116,124,97,99,99,101,115,115,45,99,111,110,116,114,111,108,45,97,108,108,111,119,45,111,114,105,103,105,110,124,97,103,101,124,97,108,108,111,119,124,97,117,116,104,111,114,105,122,97,116,105,111,110,124,99,97,99,104,101,45,99,111,110,116,114,111,108,124,99,111,110,116,101,110,116,45,100,105,115,112,111,115,105,116,105,111,110,124,99,111,110,116,101,110,116,45,101,110,99,111,100,105,110,103,124,99,111,110,116,101,110,116,45,108,97,110,103,117,97,103,101,124,99,111,110,116,101,110,116,45,108,101,110,103,116,104,124,99,111,110,116,101,110,116,45,108,111,99,97,116,105,111,110,124,99,111,110,116,101,110,116,45,114,97,110,103,101,124,99,111,110,116,101,110,116,45,116,121,112,101,124,99,111,111,107,105,101,124,100,97,116,101,124,101,116,97,103,124,101,120,112,101,99,116,124,101,120,112,105,114,101,115,124,102,114,111,109,124,104,111,115,116,124,105,102,45,109,97,116,99,104,124,105,102,45,109,111,100,105,102,105,101,100,45,115,105,110,99,101,124,105,102,45,110,111,110,101,45,109,97,116,99,104,124,105,102,45,114,97,110,103,101,124,105,102,45,117,110,109,111,100,105,102,105,101,100,45,115,105,110,99,101,124,108,97,115,116,45,109,111,100,105,102,105,101,100,124,108,105,110,107,124,108,111,99,97,116,105,111,110,124,109,97,120,45,102,111,114,119,97,114,100,115,124,112,114,111,120,121,45,97,117,116,104,101,110,116,105,99,97,116,101,124,112,114,111,120,121,45,97,117,116,104,111,114,105,122,97,116,105,111,110,124,114,97,110,103,101,124,114,101,102,101,114,101,114,124,114,101,102,114,101,115,104,124,114,101,116,114,121,45,97,102,116,101,114,124,115,101,114,118,101,114,124,115,101,116,45,99,111,111,107,105,101,124,115,116,114,105,99,116,45,116,114,97,110,115,112,111,114,116,45,115,101,99,117,114,105,116,121,124,116,114,97,110,115,102,101,114,45,101,110,99,111,100,105,110,103,124,117,115,101,114,45,97,103,101,110,116,124,118,97,114,121,124,118,105,97,124,119,119,119,45,97,117,116,104,101,110,116,105,99,97,116,101]:List Int) ([124]:List Int)).bind fun l2=>
 (getI l2 (IntKind.i64.wrap (i1 - 1))).bind fun s3=>
 (F_stat_split s3).bind fun x4=>
 some (x4.1,x4.2.1,x4.2.2,true))
def F_stat_Get_sig:Sig:=⟨[.v false [.d (.int .i64)]],[(true,[.d .str,.d .str,.d .bool]),(false,[.d .bool])],[]⟩
def F_stat_Get_ann:List (Nat×Ann):=[]
noncomputable def F_stat_Get_env:Env:=⟨Tryd.prog,[(79,⟨F_stat_split_sig,⟨F_stat_split⟩⟩),(80,⟨F_strings_Split_sig,⟨F_strings_Split⟩⟩)],[]⟩
theorem F_stat_Get_text:pvFn F_stat_Get_env F_stat_Get_ann Tryd.f75 F_stat_Get_sig=F_stat_Get:=by kernel_rfl
noncomputable def F_dyn_Table_Get (p1:Int) (i2:Int) (l3:Zt3):Option (List Int×List Int×Bool×Bool):=
 cond (decide (i2 < 1))
 (some (([]:List Int),([]:List Int),false,false))
 (chk (nnI p1)
 ((getI l3 p1).bind fun x4=>
 cond (decide (i2 > (x4.1.length:Int)))
 (some (([]:List Int),([]:List Int),false,false))
 (chk (nnI p1)
 ((getI l3 p1).bind fun x5=>
 chk (nnI p1)
 ((getI l3 p1).bind fun x6=>
 (getI x5.1 (IntKind.i64.wrap ((x6.1.length:Int) - i2))).bind fun x7=>
 some (x7.1,x7.2.1,x7.2.2,true))))))
def F_dyn_Table_Get_sig:Sig:=⟨[.v false [.d (.ptr 91)],.v false [.d (.int .i64)]],[(true,[.d .str,.d .str,.d .bool]),(false,[.d .bool])],[(1000182,Zp10,false)]⟩
def F_dyn_Table_Get_ann:List (Nat×Ann):=[]
noncomputable def F_dyn_Table_Get_env:Env:=⟨Tryd.prog,[],[]⟩
theorem F_dyn_Table_Get_text:pvFn F_dyn_Table_Get_env F_dyn_Table_Get_ann Tryd.f76 F_dyn_Table_Get_sig=F_dyn_Table_Get:=by kernel_rfl
noncomputable def F_unpack_block_at (l1:List Int) (p2:Int) (i3:Int) (i4:Int) (l5:Zt6) (i6:Int) (l7:Zt3):Option (List Int×List Int×Bool×Bool×List Int×Int×Int×Int×Zt6):=
 cond (decide (i6<=61))
 ((F_stat_Get i6).bind fun x8=>
 some (x8.1,x8.2.1,x8.2.2.1,x8.2.2.2,l1,p2,i3,i4,l5))
 ((F_dyn_Table_Get p2 (IntKind.i64.wrap (i6 - 61)) l7).bind fun x9=>
 some (x9.1,x9.2.1,x9.2.2.1,x9.2.2.2,l1,p2,i3,i4,l5))
def F_unpack_block_at_sig:Sig:=⟨[.m [.d (.sl (.int .u8)),.d (.ptr 91),.d (.int .i64),.d (.int .i64),.own 109 Zp15],.v false [.d (.int .i64)]],[(true,[.d .str,.d .str,.d .bool]),(false,[.d .bool])],[(1000182,Zp10,false)]⟩
def F_unpack_block_at_ann:List (Nat×Ann):=[]
noncomputable def F_unpack_block_at_env:Env:=⟨Tryd.prog,[(75,⟨F_stat_Get_sig,⟨F_stat_Get⟩⟩),(76,⟨F_dyn_Table_Get_sig,⟨F_dyn_Table_Get⟩⟩)],[]⟩
theorem F_unpack_block_at_text:pvFn F_unpack_block_at_env F_unpack_block_at_ann Tryd.f70 F_unpack_block_at_sig=F_unpack_block_at:=by kernel_rfl
noncomputable def F_huff_bitsOf (i1:Int):Option (Int):=
 (getI ([105,115,120,120,120,120,120,120,120,116,122,120,120,122,120,120,120,120,120,120,120,120,122,120,120,120,120,120,120,120,120,120,98,102,102,104,105,98,100,103,102,102,100,103,100,98,98,98,97,97,97,98,98,98,98,98,98,98,99,100,107,98,104,102,105,98,99,99,99,99,99,99,99,99,99,99,99,99,99,99,99,99,99,99,99,99,99,99,100,99,100,105,111,105,106,98,107,97,98,97,98,97,98,98,98,97,99,99,98,98,98,97,98,99,98,97,97,98,99,99,99,99,99,107,103,106,105,120,112,114,112,112,114,114,114,115,114,115,115,115,115,115,116,115,116,116,114,115,116,115,115,115,115,113,114,115,114,115,115,116,114,113,112,114,114,115,115,113,115,114,114,116,113,114,115,115,113,113,114,113,115,114,115,115,112,114,114,114,115,114,114,115,118,118,112,111,114,115,114,117,118,118,118,119,119,118,116,117,111,113,118,119,119,118,119,116,113,113,118,118,120,119,119,119,112,116,112,113,114,113,113,115,114,114,117,117,116,116,118,115,118,119,118,118,119,119,119,119,119,120,119,119,119,119,119,118,122]:List Int) i1).bind fun i2=>
 some (IntKind.i64.wrap ((IntKind.i64.wrap (IntKind.u8.wrap (i2 - 97)))+5))
def F_huff_bitsOf_sig:Sig:=⟨[.v false [.d (.int .i64)]],[(false,[.d (.int .i64)])],[]⟩
def F_huff_bitsOf_ann:List (Nat×Ann):=[]
noncomputable def F_huff_bitsOf_env:Env:=⟨Tryd.prog,[],[]⟩
theorem F_huff_bitsOf_text:pvFn F_huff_bitsOf_env F_huff_bitsOf_ann Tryd.f84 F_huff_bitsOf_sig=F_huff_bitsOf:=by kernel_rfl
noncomputable def F_huff_opened_L12 (l1:Zt2) (i3:Int) (s:Int×Zt2):Option ((((((Int×Zt2)⊕(Zt2))⊕(Int×Int×Zt2))⊕(Int×Zt2))⊕(Zt2))⊕(Int×Zt2)):=
 let i9:=s.1;let l10:=s.2
 cond (decide (i9 < 257))
 ((F_huff_bitsOf i9).bind fun i11=>
 cond (i11==i3)
 (chk (nnI (l1.length:Int))
 ((getI l10 (l1.length:Int)).bind fun x12=>
 chk (decide ((x12.2.2.2.length+([i9]:List Int).length)*8<=140737488355328)&&decide (x12.2.2.2.length+([i9]:List Int).length<=maxLen))
 (chk (nnI (l1.length:Int))
 ((getI l10 (l1.length:Int)).bind fun x13=>
 chk (eqI (l1.length:Int) (l1.length:Int))
 (some (.inr ((IntKind.i64.wrap (i9+1)),(l10.set (Int.toNat (l1.length:Int)) (x13.1,(x13.2.1,(x13.2.2.1,(x12.2.2.2++([i9]:List Int)))))))))))))
 (some (.inr ((IntKind.i64.wrap (i9+1)),l10))))
 (some (.inl (.inr l10)))
noncomputable def F_huff_opened_J10 (l1:Zt2) (i2:Int) (i3:Int) (s:Zt2):Option ((((Int×Zt2)⊕(Zt2))⊕(Int×Int×Zt2))⊕(Int×Zt2)):=
 let l14:=s
 chk (nnI (l1.length:Int))
 ((getI l14 (l1.length:Int)).bind fun x15=>
 chk (nnI (l1.length:Int))
 (chk (decide (0<=i3)&&decide (i3 < (31:Int)))
 ((getI l14 (l1.length:Int)).bind fun x16=>
 (getI x16.2.2.1 i3).bind fun i17=>
 chk (nnI (l1.length:Int))
 (chk (decide (0<=i3)&&decide (i3 < (31:Int)))
 ((getI l14 (l1.length:Int)).bind fun x18=>
 chk (decide (i3 < (31:Int)))
 (chk (nnI (l1.length:Int))
 (chk (decide (0<=i3)&&decide (i3 < (31:Int)))
 ((getI (l14.set (Int.toNat (l1.length:Int)) (x18.1,((List.set x18.2.1 (Int.toNat i3) (IntKind.i64.wrap ((x15.2.2.2.length:Int) - i17))),x18.2.2))) (l1.length:Int)).bind fun x19=>
 (getI x19.2.1 i3).bind fun i20=>
 some (.inr ((IntKind.i64.wrap ((IntKind.i64.wrap (i2+i20))*2 ^ 1)),(l14.set (Int.toNat (l1.length:Int)) (x18.1,((List.set x18.2.1 (Int.toNat i3) (IntKind.i64.wrap ((x15.2.2.2.length:Int) - i17))),x18.2.2)))))))))))))
noncomputable def F_huff_opened_J8 (i3:Int) (s:Int×Zt2):Option (((Int×Zt2)⊕(Zt2))⊕(Int×Int×Zt2)):=
 let i21:=s.1;let l22:=s.2
 some (.inr (i21,(IntKind.i64.wrap (i3+1)),l22))
noncomputable def F_huff_opened_L5 (l1:Zt2) (s:Int×Int×Zt2):Option (((Int×Zt2)⊕(Zt2))⊕(Int×Int×Zt2)):=
 let i2:=s.1;let i3:=s.2.1;let l4:=s.2.2
 cond (decide (i3<=30))
 (joinC (S:=Int×Zt2) (R:=((Int×Zt2)⊕(Zt2))⊕(Int×Int×Zt2))
 (chk (nnI (l1.length:Int))
 ((getI l4 (l1.length:Int)).bind fun x5=>
 chk (nnI (l1.length:Int))
 (chk (decide (0<=i3)&&decide (i3 < (31:Int)))
 ((getI l4 (l1.length:Int)).bind fun x6=>
 chk (decide (i3 < (31:Int)))
 (chk (nnI (l1.length:Int))
 (chk (decide (0<=i3)&&decide (i3 < (31:Int)))
 ((getI (l4.set (Int.toNat (l1.length:Int)) ((List.set x6.1 (Int.toNat i3) i2),x6.2)) (l1.length:Int)).bind fun x7=>
 chk (decide (i3 < (31:Int)))
 (joinC (S:=Zt2) (R:=(((Int×Zt2)⊕(Zt2))⊕(Int×Int×Zt2))⊕(Int×Zt2))
 (loopC (S:=Int×Zt2) (R:=((((Int×Zt2)⊕(Zt2))⊕(Int×Int×Zt2))⊕(Int×Zt2))⊕(Zt2)) (F_huff_opened_L12 l1 i3) (0,((l4.set (Int.toNat (l1.length:Int)) ((List.set x6.1 (Int.toNat i3) i2),x6.2)).set (Int.toNat (l1.length:Int)) (x7.1,(x7.2.1,((List.set x7.2.2.1 (Int.toNat i3) (x5.2.2.2.length:Int)),x7.2.2.2))))))
 (F_huff_opened_J10 l1 i2 i3)))))))))
 (F_huff_opened_J8 i3))
 (some (.inl (.inr l4)))
noncomputable def F_huff_opened_J3 (l1:Zt2) (s:Zt2):Option (Int×Zt2):=
 let l23:=s
 some ((l1.length:Int),l23)
noncomputable def F_huff_opened (l1:Zt2):Option (Int×Zt2):=
 joinC (S:=Zt2) (R:=Int×Zt2)
 (loopC (S:=Int×Int×Zt2) (R:=(Int×Zt2)⊕(Zt2)) (F_huff_opened_L5 l1) (0,5,(l1++[((List.replicate 31 0),((List.replicate 31 0),((List.replicate 31 0),([]:List Int))))])))
 (F_huff_opened_J3 l1)
def F_huff_opened_sig:Sig:=⟨[],[(false,[.d (.ptr 144)])],[(1000288,Zp9,true)]⟩
def F_huff_opened_ann:List (Nat×Ann):=[(3,⟨4,[],[],([2,3,4]++List.range' 7 64),[],[(1000288,Zp9,true)],[]⟩),(5,⟨6,[(2,false,[.d (.int .i64)]),(3,false,[.d (.int .i64)])],[],([4]++List.range' 7 64),[],[(1000288,Zp9,true)],[]⟩),(8,⟨9,[(2,false,[.d (.int .i64)])],[],([4]++List.range' 11 60),[],[(1000288,Zp9,true)],[]⟩),(10,⟨11,[],[],([4]++List.range' 27 18),[],[(1000288,Zp9,true)],[]⟩),(12,⟨13,[(27,false,[.d (.int .i64)])],[],([4]++List.range' 28 17),[],[(1000288,Zp9,true)],[]⟩)]
noncomputable def F_huff_opened_env:Env:=⟨Tryd.prog,[(84,⟨F_huff_bitsOf_sig,⟨F_huff_bitsOf⟩⟩)],[38]⟩
theorem F_huff_opened_text:pvFn F_huff_opened_env F_huff_opened_ann Tryd.f81 F_huff_opened_sig=F_huff_opened:=by kernel_rfl
noncomputable def F_huff_Decode_G1_1 (l1:List Int) (i2:Int) (s:Int×List Int×Int×Int×Int×Zt2):Option ((List Int×Int×Zt2)⊕(Nat×Int×List Int×Int×Int×Int×Zt2)):=
 let p19:=s.1;let l20:=s.2.1;let i21:=s.2.2.1;let i22:=s.2.2.2.1;let i23:=s.2.2.2.2.1;let l24:=s.2.2.2.2.2
 cond (i23==(IntKind.i64.wrap (8*(l1.length:Int))))
 (some (.inr (0,(p19,l20,i21,i22,i23,l24))))
 ((getI l1 (IntKind.i64.wrap (Int.tdiv i23 8))).bind fun i25=>
 chk (decide (0<=(IntKind.i64.wrap (7 - (Int.tmod i23 8)))))
 (chk (nnI p19)
 (chk (decide (0<=(IntKind.i64.wrap (i22+1)))&&decide ((IntKind.i64.wrap (i22+1)) < (31:Int)))
 ((getI l24 p19).bind fun x26=>
 (getI x26.1 (IntKind.i64.wrap (i22+1))).bind fun i27=>
 chk (nnI p19)
 (chk (decide (0<=(IntKind.i64.wrap (i22+1)))&&decide ((IntKind.i64.wrap (i22+1)) < (31:Int)))
 ((getI l24 p19).bind fun x28=>
 (getI x28.2.1 (IntKind.i64.wrap (i22+1))).bind fun i29=>
 cond (decide ((IntKind.i64.wrap ((bits .or .i64 (IntKind.i64.wrap (i21*2 ^ 1)) (IntKind.i64.wrap (bits .and .u8 (Int.fdiv i25 (2 ^ (min ((IntKind.i64.wrap (7 - (Int.tmod i23 8)))).toNat 8))) 1))) - i27)) >= i29))
 (some (.inr (1,(p19,l20,(bits .or .i64 (IntKind.i64.wrap (i21*2 ^ 1)) (IntKind.i64.wrap (bits .and .u8 (Int.fdiv i25 (2 ^ (min ((IntKind.i64.wrap (7 - (Int.tmod i23 8)))).toNat 8))) 1))),(IntKind.i64.wrap (i22+1)),(IntKind.i64.wrap (i23+1)),l24))))
 (chk (nnI p19)
 (chk (decide (0<=(IntKind.i64.wrap (i22+1)))&&decide ((IntKind.i64.wrap (i22+1)) < (31:Int)))
 ((getI l24 p19).bind fun x30=>
 (getI x30.1 (IntKind.i64.wrap (i22+1))).bind fun i31=>
 cond (decide ((bits .or .i64 (IntKind.i64.wrap (i21*2 ^ 1)) (IntKind.i64.wrap (bits .and .u8 (Int.fdiv i25 (2 ^ (min ((IntKind.i64.wrap (7 - (Int.tmod i23 8)))).toNat 8))) 1))) < i31))
 (some (.inr (1,(p19,l20,(bits .or .i64 (IntKind.i64.wrap (i21*2 ^ 1)) (IntKind.i64.wrap (bits .and .u8 (Int.fdiv i25 (2 ^ (min ((IntKind.i64.wrap (7 - (Int.tmod i23 8)))).toNat 8))) 1))),(IntKind.i64.wrap (i22+1)),(IntKind.i64.wrap (i23+1)),l24))))
 (chk (nnI p19)
 ((getI l24 p19).bind fun x32=>
 chk (nnI p19)
 (chk (decide (0<=(IntKind.i64.wrap (i22+1)))&&decide ((IntKind.i64.wrap (i22+1)) < (31:Int)))
 ((getI l24 p19).bind fun x33=>
 (getI x33.2.2.1 (IntKind.i64.wrap (i22+1))).bind fun i34=>
 chk (nnI p19)
 (chk (decide (0<=(IntKind.i64.wrap (i22+1)))&&decide ((IntKind.i64.wrap (i22+1)) < (31:Int)))
 ((getI l24 p19).bind fun x35=>
 (getI x35.1 (IntKind.i64.wrap (i22+1))).bind fun i36=>
 (getI x32.2.2.2 (IntKind.i64.wrap ((IntKind.i64.wrap (i34+(bits .or .i64 (IntKind.i64.wrap (i21*2 ^ 1)) (IntKind.i64.wrap (bits .and .u8 (Int.fdiv i25 (2 ^ (min ((IntKind.i64.wrap (7 - (Int.tmod i23 8)))).toNat 8))) 1))))) - i36))).bind fun i37=>
 cond (i37==256)
 (some (.inl (([]:List Int),2,l24)))
 (cond (decide ((l20.length:Int) >= i2))
 (some (.inl (([]:List Int),3,l24)))
 (chk (decide ((l20.length+([(IntKind.u8.wrap i37)]:List Int).length)*1<=140737488355328)&&decide (l20.length+([(IntKind.u8.wrap i37)]:List Int).length<=maxLen))
 (some (.inr (1,(p19,(l20++([(IntKind.u8.wrap i37)]:List Int)),0,0,(IntKind.i64.wrap (i23+1)),l24)))))))))))))))))))))
noncomputable def F_huff_Decode_G1_0 (s:Int×List Int×Int×Int×Int×Zt2):Option ((List Int×Int×Zt2)⊕(Nat×Int×List Int×Int×Int×Int×Zt2)):=
 let p19:=s.1;let l20:=s.2.1;let i21:=s.2.2.1;let i22:=s.2.2.2.1;let i23:=s.2.2.2.2.1;let l24:=s.2.2.2.2.2
 cond (decide (i22 > 7))
 (some (.inl (([]:List Int),2,l24)))
 (chk (decide (0<=i22))
 (cond (i21 != (IntKind.i64.wrap ((IntKind.i64.wrap (1*2 ^ (min (i22).toNat 64))) - 1)))
 (some (.inl (([]:List Int),2,l24)))
 (some (.inl (l20,0,l24)))))
noncomputable def F_huff_Decode_G1 (l1:List Int) (i2:Int) (p:Nat×Int×List Int×Int×Int×Int×Zt2):Option ((List Int×Int×Zt2)⊕(Nat×Int×List Int×Int×Int×Int×Zt2)):=
 cond (hasN [1] p.1) (F_huff_Decode_G1_1 l1 i2 p.2) (cond (hasN [0] p.1) (F_huff_Decode_G1_0 p.2) (none))
noncomputable def F_huff_Decode (l1:List Int) (i2:Int) (l3:Zt2):Option (List Int×Int×Zt2):=
 joinC (S:=Nat×Int×List Int×Int×Int×Int×Zt2) (R:=List Int×Int×Zt2)
 ((F_huff_opened l3).bind fun x4=>
 cond (0==(IntKind.i64.wrap (8*(l1.length:Int))))
 (some (.inr (0,(x4.1,([]:List Int),0,0,0,x4.2))))
 ((getI l1 (IntKind.i64.wrap (Int.tdiv 0 8))).bind fun i5=>
 chk (decide (0<=(IntKind.i64.wrap (7 - (Int.tmod 0 8)))))
 (chk (nnI x4.1)
 (chk (decide (0<=(IntKind.i64.wrap (0+1)))&&decide ((IntKind.i64.wrap (0+1)) < (31:Int)))
 ((getI x4.2 x4.1).bind fun x6=>
 (getI x6.1 (IntKind.i64.wrap (0+1))).bind fun i7=>
 chk (nnI x4.1)
 (chk (decide (0<=(IntKind.i64.wrap (0+1)))&&decide ((IntKind.i64.wrap (0+1)) < (31:Int)))
 ((getI x4.2 x4.1).bind fun x8=>
 (getI x8.2.1 (IntKind.i64.wrap (0+1))).bind fun i9=>
 cond (decide ((IntKind.i64.wrap ((bits .or .i64 (IntKind.i64.wrap (0*2 ^ 1)) (IntKind.i64.wrap (bits .and .u8 (Int.fdiv i5 (2 ^ (min ((IntKind.i64.wrap (7 - (Int.tmod 0 8)))).toNat 8))) 1))) - i7)) >= i9))
 (some (.inr (1,(x4.1,([]:List Int),(bits .or .i64 (IntKind.i64.wrap (0*2 ^ 1)) (IntKind.i64.wrap (bits .and .u8 (Int.fdiv i5 (2 ^ (min ((IntKind.i64.wrap (7 - (Int.tmod 0 8)))).toNat 8))) 1))),(IntKind.i64.wrap (0+1)),(IntKind.i64.wrap (0+1)),x4.2))))
 (chk (nnI x4.1)
 (chk (decide (0<=(IntKind.i64.wrap (0+1)))&&decide ((IntKind.i64.wrap (0+1)) < (31:Int)))
 ((getI x4.2 x4.1).bind fun x10=>
 (getI x10.1 (IntKind.i64.wrap (0+1))).bind fun i11=>
 cond (decide ((bits .or .i64 (IntKind.i64.wrap (0*2 ^ 1)) (IntKind.i64.wrap (bits .and .u8 (Int.fdiv i5 (2 ^ (min ((IntKind.i64.wrap (7 - (Int.tmod 0 8)))).toNat 8))) 1))) < i11))
 (some (.inr (1,(x4.1,([]:List Int),(bits .or .i64 (IntKind.i64.wrap (0*2 ^ 1)) (IntKind.i64.wrap (bits .and .u8 (Int.fdiv i5 (2 ^ (min ((IntKind.i64.wrap (7 - (Int.tmod 0 8)))).toNat 8))) 1))),(IntKind.i64.wrap (0+1)),(IntKind.i64.wrap (0+1)),x4.2))))
 (chk (nnI x4.1)
 ((getI x4.2 x4.1).bind fun x12=>
 chk (nnI x4.1)
 (chk (decide (0<=(IntKind.i64.wrap (0+1)))&&decide ((IntKind.i64.wrap (0+1)) < (31:Int)))
 ((getI x4.2 x4.1).bind fun x13=>
 (getI x13.2.2.1 (IntKind.i64.wrap (0+1))).bind fun i14=>
 chk (nnI x4.1)
 (chk (decide (0<=(IntKind.i64.wrap (0+1)))&&decide ((IntKind.i64.wrap (0+1)) < (31:Int)))
 ((getI x4.2 x4.1).bind fun x15=>
 (getI x15.1 (IntKind.i64.wrap (0+1))).bind fun i17=>
 (getI x12.2.2.2 (IntKind.i64.wrap ((IntKind.i64.wrap (i14+(bits .or .i64 (IntKind.i64.wrap (0*2 ^ 1)) (IntKind.i64.wrap (bits .and .u8 (Int.fdiv i5 (2 ^ (min ((IntKind.i64.wrap (7 - (Int.tmod 0 8)))).toNat 8))) 1))))) - i17))).bind fun i18=>
 cond (i18==256)
 (some (.inl (([]:List Int),2,x4.2)))
 (cond (decide ((([]:List Int).length:Int) >= i2))
 (some (.inl (([]:List Int),3,x4.2)))
 (chk (decide ((([]:List Int).length+([(IntKind.u8.wrap i18)]:List Int).length)*1<=140737488355328)&&decide (([]:List Int).length+([(IntKind.u8.wrap i18)]:List Int).length<=maxLen))
 (some (.inr (1,(x4.1,(([]:List Int)++([(IntKind.u8.wrap i18)]:List Int)),0,0,(IntKind.i64.wrap (0+1)),x4.2))))))))))))))))))))))
 (fun p=>loopC (S:=Nat×Int×List Int×Int×Int×Int×Zt2) (R:=List Int×Int×Zt2) (F_huff_Decode_G1 l1 i2) p)
def F_huff_Decode_sig:Sig:=⟨[.v false [.d (.sl (.int .u8))],.v false [.d (.int .i64)]],[(false,[.own 5 (.int .u8)]),(false,[.d (.int .i64)])],[(1000288,Zp9,true)]⟩
def F_huff_Decode_ann:List (Nat×Ann):=[(1,⟨2,[(6,false,[.d (.ptr 144)]),(7,false,[.own 5 (.int .u8)]),(8,false,[.d (.int .i64)]),(9,false,[.d (.int .i64)]),(10,false,[.d (.int .i64)])],[],([4,5]++List.range' 11 92),[],[(1000288,Zp9,true)],[]⟩)]
noncomputable def F_huff_Decode_env:Env:=⟨Tryd.prog,[(81,⟨F_huff_opened_sig,⟨F_huff_opened⟩⟩)],[]⟩
theorem F_huff_Decode_text:pvFn F_huff_Decode_env F_huff_Decode_ann Tryd.f77 F_huff_Decode_sig=F_huff_Decode:=by kernel_rfl
noncomputable def F_unpack_block_text (l1:List Int) (p2:Int) (i3:Int) (i4:Int) (l5:Zt6) (l6:Zt2):Option (List Int×Bool×List Int×Int×Int×Int×Zt6×Zt2):=
 cond (decide ((l1.length:Int) > 0))
 ((getI l1 0).bind fun i7=>
 (F_unpack_block_number l1 p2 i3 i4 l5 7).bind fun x8=>
 cond ((!x8.2.1)||(decide (x8.1 > 16384)))
 (some (([]:List Int),false,x8.2.2.1,x8.2.2.2.1,x8.2.2.2.2.1,x8.2.2.2.2.2.1,x8.2.2.2.2.2.2,l6))
 (cond (decide (x8.1 > (x8.2.2.1.length:Int)))
 (some (([]:List Int),false,x8.2.2.1,x8.2.2.2.1,x8.2.2.2.2.1,x8.2.2.2.2.2.1,x8.2.2.2.2.2.2,l6))
 ((cutI x8.2.2.1 0 x8.1).bind fun l9=>
 (cutI x8.2.2.1 x8.1 (x8.2.2.1.length:Int)).bind fun l10=>
 cond (decide ((bits .and .u8 i7 128) > 0))
 ((F_huff_Decode l9 16384 l6).bind fun x11=>
 cond (x11.2.1 != 0)
 (some (([]:List Int),false,l10,x8.2.2.2.1,x8.2.2.2.2.1,x8.2.2.2.2.2.1,x8.2.2.2.2.2.2,x11.2.2))
 (some (x11.1,true,l10,x8.2.2.2.1,x8.2.2.2.2.1,x8.2.2.2.2.2.1,x8.2.2.2.2.2.2,x11.2.2)))
 (some (l9,true,l10,x8.2.2.2.1,x8.2.2.2.2.1,x8.2.2.2.2.2.1,x8.2.2.2.2.2.2,l6)))))
 ((F_unpack_block_number l1 p2 i3 i4 l5 7).bind fun x12=>
 cond ((!x12.2.1)||(decide (x12.1 > 16384)))
 (some (([]:List Int),false,x12.2.2.1,x12.2.2.2.1,x12.2.2.2.2.1,x12.2.2.2.2.2.1,x12.2.2.2.2.2.2,l6))
 (cond (decide (x12.1 > (x12.2.2.1.length:Int)))
 (some (([]:List Int),false,x12.2.2.1,x12.2.2.2.1,x12.2.2.2.2.1,x12.2.2.2.2.2.1,x12.2.2.2.2.2.2,l6))
 ((cutI x12.2.2.1 0 x12.1).bind fun l13=>
 (cutI x12.2.2.1 x12.1 (x12.2.2.1.length:Int)).bind fun l14=>
 some (l13,true,l14,x12.2.2.2.1,x12.2.2.2.2.1,x12.2.2.2.2.2.1,x12.2.2.2.2.2.2,l6))))
def F_unpack_block_text_sig:Sig:=⟨[.m [.d (.sl (.int .u8)),.d (.ptr 91),.d (.int .i64),.d (.int .i64),.own 109 Zp15]],[(false,[.d .str]),(false,[.d .bool])],[(1000288,Zp9,true)]⟩
def F_unpack_block_text_ann:List (Nat×Ann):=[]
noncomputable def F_unpack_block_text_env:Env:=⟨Tryd.prog,[(69,⟨F_unpack_block_number_sig,⟨F_unpack_block_number⟩⟩),(77,⟨F_huff_Decode_sig,⟨F_huff_Decode⟩⟩)],[56]⟩
theorem F_unpack_block_text_text:pvFn F_unpack_block_text_env F_unpack_block_text_ann Tryd.f73 F_unpack_block_text_sig=F_unpack_block_text:=by kernel_rfl
noncomputable def F_unpack_block_literal (l1:List Int) (p2:Int) (i3:Int) (i4:Int) (l5:Zt6) (i6:Int) (l7:Zt3) (l8:Zt2):Option (List Int×List Int×Bool×Bool×List Int×Int×Int×Int×Zt6×Zt2):=
 (F_unpack_block_number l1 p2 i3 i4 l5 i6).bind fun x9=>
 cond (!x9.2.1)
 (some (([]:List Int),([]:List Int),false,false,x9.2.2.1,x9.2.2.2.1,x9.2.2.2.2.1,x9.2.2.2.2.2.1,x9.2.2.2.2.2.2,l8))
 (cond (decide (x9.1 > 0))
 ((F_unpack_block_at x9.2.2.1 x9.2.2.2.1 x9.2.2.2.2.1 x9.2.2.2.2.2.1 x9.2.2.2.2.2.2 x9.1 l7).bind fun x10=>
 cond (!x10.2.2.2.1)
 (some (([]:List Int),([]:List Int),false,false,x10.2.2.2.2.1,x10.2.2.2.2.2.1,x10.2.2.2.2.2.2.1,x10.2.2.2.2.2.2.2.1,x10.2.2.2.2.2.2.2.2,l8))
 ((F_unpack_block_text x10.2.2.2.2.1 x10.2.2.2.2.2.1 x10.2.2.2.2.2.2.1 x10.2.2.2.2.2.2.2.1 x10.2.2.2.2.2.2.2.2 l8).bind fun x11=>
 some (x10.1,x11.1,x10.2.2.1,x11.2.1,x11.2.2.1,x11.2.2.2.1,x11.2.2.2.2.1,x11.2.2.2.2.2.1,x11.2.2.2.2.2.2.1,x11.2.2.2.2.2.2.2)))
 ((F_unpack_block_text x9.2.2.1 x9.2.2.2.1 x9.2.2.2.2.1 x9.2.2.2.2.2.1 x9.2.2.2.2.2.2 l8).bind fun x12=>
 cond (!x12.2.1)
 (some (([]:List Int),([]:List Int),false,false,x12.2.2.1,x12.2.2.2.1,x12.2.2.2.2.1,x12.2.2.2.2.2.1,x12.2.2.2.2.2.2.1,x12.2.2.2.2.2.2.2))
 ((F_unpack_block_text x12.2.2.1 x12.2.2.2.1 x12.2.2.2.2.1 x12.2.2.2.2.2.1 x12.2.2.2.2.2.2.1 x12.2.2.2.2.2.2.2).bind fun x13=>
 some (x12.1,x13.1,false,x13.2.1,x13.2.2.1,x13.2.2.2.1,x13.2.2.2.2.1,x13.2.2.2.2.2.1,x13.2.2.2.2.2.2.1,x13.2.2.2.2.2.2.2))))
def F_unpack_block_literal_sig:Sig:=⟨[.m [.d (.sl (.int .u8)),.d (.ptr 91),.d (.int .i64),.d (.int .i64),.own 109 Zp15],.v false [.d (.int .i64)]],[(true,[.d .str,.d .str,.d .bool]),(false,[.d .bool])],[(1000182,Zp10,false),(1000288,Zp9,true)]⟩
def F_unpack_block_literal_ann:List (Nat×Ann):=[]
noncomputable def F_unpack_block_literal_env:Env:=⟨Tryd.prog,[(69,⟨F_unpack_block_number_sig,⟨F_unpack_block_number⟩⟩),(70,⟨F_unpack_block_at_sig,⟨F_unpack_block_at⟩⟩),(73,⟨F_unpack_block_text_sig,⟨F_unpack_block_text⟩⟩)],[]⟩
theorem F_unpack_block_literal_text:pvFn F_unpack_block_literal_env F_unpack_block_literal_ann Tryd.f68 F_unpack_block_literal_sig=F_unpack_block_literal:=by kernel_rfl
noncomputable def F_dyn_Table_Add (p1:Int) (s2:List Int) (s3:List Int) (b4:Bool) (l5:Zt3):Option (Zt3):=
 (F_stat_Size s2 s3 b4).bind fun i6=>
 chk (nnI p1)
 ((getI l5 p1).bind fun x7=>
 (F_dyn_Table_shrinks p1 (IntKind.i64.wrap (x7.2.2 - i6)) l5).bind fun l8=>
 chk (nnI p1)
 ((getI l8 p1).bind fun x9=>
 cond (decide (i6<=x9.2.2))
 (chk (nnI p1)
 ((getI l8 p1).bind fun x10=>
 chk (decide ((x10.1.length+([(s2,s3,false)]:Zt6).length)*40<=140737488355328)&&decide (x10.1.length+([(s2,s3,false)]:Zt6).length<=maxLen))
 (chk (nnI p1)
 ((getI l8 p1).bind fun x11=>
 chk (nnI p1)
 ((getI l8 p1).bind fun x12=>
 chk (eqI p1 p1)
 (chk (nnI p1)
 ((getI (l8.set (Int.toNat p1) ((x10.1++([(s2,s3,false)]:Zt6)),x12.2)) p1).bind fun x13=>
 some ((l8.set (Int.toNat p1) ((x10.1++([(s2,s3,false)]:Zt6)),x12.2)).set (Int.toNat p1) (x13.1,((IntKind.i64.wrap (x11.2.1+i6)),x13.2.2))))))))))
 (some l8)))
def F_dyn_Table_Add_sig:Sig:=⟨[.v false [.d (.ptr 91)],.v true [.d .str,.d .str,.d .bool]],[],[(1000182,Zp10,true)]⟩
def F_dyn_Table_Add_ann:List (Nat×Ann):=[]
noncomputable def F_dyn_Table_Add_env:Env:=⟨Tryd.prog,[(57,⟨F_dyn_Table_shrinks_sig,⟨F_dyn_Table_shrinks⟩⟩),(66,⟨F_stat_Size_sig,⟨F_stat_Size⟩⟩)],[27]⟩
theorem F_dyn_Table_Add_text:pvFn F_dyn_Table_Add_env F_dyn_Table_Add_ann Tryd.f71 F_dyn_Table_Add_sig=F_dyn_Table_Add:=by kernel_rfl
noncomputable def F_unpack_block_keep (l1:List Int) (p2:Int) (i3:Int) (i4:Int) (l5:Zt6) (s6:List Int) (s7:List Int) (b8:Bool):Option (List Int×Int×Int×Int×Zt6):=
 (F_stat_Size s6 s7 b8).bind fun i9=>
 cond (decide ((IntKind.i64.wrap (i4+i9))<=i3))
 (chk (decide ((l5.length+([(s6,s7,b8)]:Zt6).length)*40<=140737488355328)&&decide (l5.length+([(s6,s7,b8)]:Zt6).length<=maxLen))
 (some (l1,p2,i3,(IntKind.i64.wrap (i4+i9)),(l5++([(s6,s7,b8)]:Zt6)))))
 (some (l1,p2,i3,(IntKind.i64.wrap (i4+i9)),l5))
def F_unpack_block_keep_sig:Sig:=⟨[.m [.d (.sl (.int .u8)),.d (.ptr 91),.d (.int .i64),.d (.int .i64),.own 109 Zp15],.v true [.d .str,.d .str,.d .bool]],[],[]⟩
def F_unpack_block_keep_ann:List (Nat×Ann):=[]
noncomputable def F_unpack_block_keep_env:Env:=⟨Tryd.prog,[(66,⟨F_stat_Size_sig,⟨F_stat_Size⟩⟩)],[26]⟩
theorem F_unpack_block_keep_text:pvFn F_unpack_block_keep_env F_unpack_block_keep_ann Tryd.f72 F_unpack_block_keep_sig=F_unpack_block_keep:=by kernel_rfl
noncomputable def F_unpack_block_read_G1_0 (s:Bool×Int×Bool×List Int×List Int×Bool×List Int×Int×Int×Int×Zt6×Zt3×Zt2):Option ((Bool×List Int×Int×Int×Int×Zt6×Zt3×Zt2)⊕(Nat×Bool×Int×Bool×List Int×List Int×Bool×List Int×Int×Int×Int×Zt6×Zt3×Zt2)):=
 let b11:=s.1;let i12:=s.2.1;let b13:=s.2.2.1;let s14:=s.2.2.2.1;let s15:=s.2.2.2.2.1;let b16:=s.2.2.2.2.2.1;let l17:=s.2.2.2.2.2.2.1;let p18:=s.2.2.2.2.2.2.2.1;let i19:=s.2.2.2.2.2.2.2.2.1;let i20:=s.2.2.2.2.2.2.2.2.2.1;let l21:=s.2.2.2.2.2.2.2.2.2.2.1;let l22:=s.2.2.2.2.2.2.2.2.2.2.2.1;let l23:=s.2.2.2.2.2.2.2.2.2.2.2.2
 cond ((l17.length:Int)==0)
 (some (.inl (true,l17,p18,i19,i20,l21,l22,l23)))
 ((getI l17 0).bind fun i24=>
 cond (decide (i24 >= 128))
 (some (.inr (1,(b11,i12,b13,s14,s15,b16,l17,p18,i19,i20,l21,l22,l23))))
 (cond (decide (i24 >= 64))
 (some (.inr (2,(b11,i12,b13,s14,s15,b16,l17,p18,i19,i20,l21,l22,l23))))
 (cond (decide (i24 >= 32))
 (some (.inr (3,(b11,i12,b13,s14,s15,b16,l17,p18,i19,i20,l21,l22,l23))))
 ((F_unpack_block_literal l17 p18 i19 i20 l21 4 l22 l23).bind fun x25=>
 some (.inr (4,(x25.2.2.2.1,i12,b13,x25.1,x25.2.1,(decide (i24 >= 16)),x25.2.2.2.2.1,x25.2.2.2.2.2.1,x25.2.2.2.2.2.2.1,x25.2.2.2.2.2.2.2.1,x25.2.2.2.2.2.2.2.2.1,l22,x25.2.2.2.2.2.2.2.2.2)))))))
noncomputable def F_unpack_block_read_G1_1 (s:Bool×Int×Bool×List Int×List Int×Bool×List Int×Int×Int×Int×Zt6×Zt3×Zt2):Option ((Bool×List Int×Int×Int×Int×Zt6×Zt3×Zt2)⊕(Nat×Bool×Int×Bool×List Int×List Int×Bool×List Int×Int×Int×Int×Zt6×Zt3×Zt2)):=
 let b11:=s.1;let i12:=s.2.1;let b13:=s.2.2.1;let s14:=s.2.2.2.1;let s15:=s.2.2.2.2.1;let b16:=s.2.2.2.2.2.1;let l17:=s.2.2.2.2.2.2.1;let p18:=s.2.2.2.2.2.2.2.1;let i19:=s.2.2.2.2.2.2.2.2.1;let i20:=s.2.2.2.2.2.2.2.2.2.1;let l21:=s.2.2.2.2.2.2.2.2.2.2.1;let l22:=s.2.2.2.2.2.2.2.2.2.2.2.1;let l23:=s.2.2.2.2.2.2.2.2.2.2.2.2
 (F_unpack_block_number l17 p18 i19 i20 l21 7).bind fun x26=>
 cond x26.2.1
 ((F_unpack_block_at x26.2.2.1 x26.2.2.2.1 x26.2.2.2.2.1 x26.2.2.2.2.2.1 x26.2.2.2.2.2.2 x26.1 l22).bind fun x27=>
 some (.inr (4,(x27.2.2.2.1,i12,b13,x27.1,x27.2.1,x27.2.2.1,x27.2.2.2.2.1,x27.2.2.2.2.2.1,x27.2.2.2.2.2.2.1,x27.2.2.2.2.2.2.2.1,x27.2.2.2.2.2.2.2.2,l22,l23))))
 (some (.inr (4,(x26.2.1,i12,b13,s14,s15,b16,x26.2.2.1,x26.2.2.2.1,x26.2.2.2.2.1,x26.2.2.2.2.2.1,x26.2.2.2.2.2.2,l22,l23))))
noncomputable def F_unpack_block_read_G1_2 (s:Bool×Int×Bool×List Int×List Int×Bool×List Int×Int×Int×Int×Zt6×Zt3×Zt2):Option ((Bool×List Int×Int×Int×Int×Zt6×Zt3×Zt2)⊕(Nat×Bool×Int×Bool×List Int×List Int×Bool×List Int×Int×Int×Int×Zt6×Zt3×Zt2)):=
 let b11:=s.1;let i12:=s.2.1;let b13:=s.2.2.1;let s14:=s.2.2.2.1;let s15:=s.2.2.2.2.1;let b16:=s.2.2.2.2.2.1;let l17:=s.2.2.2.2.2.2.1;let p18:=s.2.2.2.2.2.2.2.1;let i19:=s.2.2.2.2.2.2.2.2.1;let i20:=s.2.2.2.2.2.2.2.2.2.1;let l21:=s.2.2.2.2.2.2.2.2.2.2.1;let l22:=s.2.2.2.2.2.2.2.2.2.2.2.1;let l23:=s.2.2.2.2.2.2.2.2.2.2.2.2
 (F_unpack_block_literal l17 p18 i19 i20 l21 6 l22 l23).bind fun x28=>
 cond x28.2.2.2.1
 ((F_dyn_Table_Add x28.2.2.2.2.2.1 x28.1 x28.2.1 x28.2.2.1 l22).bind fun l29=>
 some (.inr (4,(x28.2.2.2.1,i12,b13,x28.1,x28.2.1,x28.2.2.1,x28.2.2.2.2.1,x28.2.2.2.2.2.1,x28.2.2.2.2.2.2.1,x28.2.2.2.2.2.2.2.1,x28.2.2.2.2.2.2.2.2.1,l29,x28.2.2.2.2.2.2.2.2.2))))
 (some (.inr (4,(x28.2.2.2.1,i12,b13,x28.1,x28.2.1,x28.2.2.1,x28.2.2.2.2.1,x28.2.2.2.2.2.1,x28.2.2.2.2.2.2.1,x28.2.2.2.2.2.2.2.1,x28.2.2.2.2.2.2.2.2.1,l22,x28.2.2.2.2.2.2.2.2.2))))
noncomputable def F_unpack_block_read_G1_3 (s:Bool×Int×Bool×List Int×List Int×Bool×List Int×Int×Int×Int×Zt6×Zt3×Zt2):Option ((Bool×List Int×Int×Int×Int×Zt6×Zt3×Zt2)⊕(Nat×Bool×Int×Bool×List Int×List Int×Bool×List Int×Int×Int×Int×Zt6×Zt3×Zt2)):=
 let b11:=s.1;let i12:=s.2.1;let b13:=s.2.2.1;let s14:=s.2.2.2.1;let s15:=s.2.2.2.2.1;let b16:=s.2.2.2.2.2.1;let l17:=s.2.2.2.2.2.2.1;let p18:=s.2.2.2.2.2.2.2.1;let i19:=s.2.2.2.2.2.2.2.2.1;let i20:=s.2.2.2.2.2.2.2.2.2.1;let l21:=s.2.2.2.2.2.2.2.2.2.2.1;let l22:=s.2.2.2.2.2.2.2.2.2.2.2.1;let l23:=s.2.2.2.2.2.2.2.2.2.2.2.2
 (F_unpack_block_number l17 p18 i19 i20 l21 5).bind fun x30=>
 cond (((!x30.2.1)||b13)||(decide ((IntKind.i64.wrap (i12+1)) > 2)))
 (some (.inl (false,x30.2.2.1,x30.2.2.2.1,x30.2.2.2.2.1,x30.2.2.2.2.2.1,x30.2.2.2.2.2.2,l22,l23)))
 ((F_dyn_Table_Limit x30.2.2.2.1 x30.1 l22).bind fun x31=>
 cond (x31.1 != 0)
 (some (.inl (false,x30.2.2.1,x30.2.2.2.1,x30.2.2.2.2.1,x30.2.2.2.2.2.1,x30.2.2.2.2.2.2,x31.2,l23)))
 (some (.inr (0,(x30.2.1,(IntKind.i64.wrap (i12+1)),b13,s14,s15,b16,x30.2.2.1,x30.2.2.2.1,x30.2.2.2.2.1,x30.2.2.2.2.2.1,x30.2.2.2.2.2.2,x31.2,l23)))))
noncomputable def F_unpack_block_read_G1_4 (s:Bool×Int×Bool×List Int×List Int×Bool×List Int×Int×Int×Int×Zt6×Zt3×Zt2):Option ((Bool×List Int×Int×Int×Int×Zt6×Zt3×Zt2)⊕(Nat×Bool×Int×Bool×List Int×List Int×Bool×List Int×Int×Int×Int×Zt6×Zt3×Zt2)):=
 let b11:=s.1;let i12:=s.2.1;let b13:=s.2.2.1;let s14:=s.2.2.2.1;let s15:=s.2.2.2.2.1;let b16:=s.2.2.2.2.2.1;let l17:=s.2.2.2.2.2.2.1;let p18:=s.2.2.2.2.2.2.2.1;let i19:=s.2.2.2.2.2.2.2.2.1;let i20:=s.2.2.2.2.2.2.2.2.2.1;let l21:=s.2.2.2.2.2.2.2.2.2.2.1;let l22:=s.2.2.2.2.2.2.2.2.2.2.2.1;let l23:=s.2.2.2.2.2.2.2.2.2.2.2.2
 cond (!b11)
 (some (.inl (false,l17,p18,i19,i20,l21,l22,l23)))
 ((F_unpack_block_keep l17 p18 i19 i20 l21 s14 s15 b16).bind fun x32=>
 some (.inr (0,(b11,i12,true,s14,s15,b16,x32.1,x32.2.1,x32.2.2.1,x32.2.2.2.1,x32.2.2.2.2,l22,l23))))
noncomputable def F_unpack_block_read_G1 (p:Nat×Bool×Int×Bool×List Int×List Int×Bool×List Int×Int×Int×Int×Zt6×Zt3×Zt2):Option ((Bool×List Int×Int×Int×Int×Zt6×Zt3×Zt2)⊕(Nat×Bool×Int×Bool×List Int×List Int×Bool×List Int×Int×Int×Int×Zt6×Zt3×Zt2)):=
 cond (hasN [0] p.1) (F_unpack_block_read_G1_0 p.2) (cond (hasN [1] p.1) (F_unpack_block_read_G1_1 p.2) (cond (hasN [2] p.1) (F_unpack_block_read_G1_2 p.2) (cond (hasN [3] p.1) (F_unpack_block_read_G1_3 p.2) (cond (hasN [4] p.1) (F_unpack_block_read_G1_4 p.2) (none)))))
noncomputable def F_unpack_block_read (l1:List Int) (p2:Int) (i3:Int) (i4:Int) (l5:Zt6) (l6:Zt3) (l7:Zt2):Option (Bool×List Int×Int×Int×Int×Zt6×Zt3×Zt2):=
 joinC (S:=Nat×Bool×Int×Bool×List Int×List Int×Bool×List Int×Int×Int×Int×Zt6×Zt3×Zt2) (R:=Bool×List Int×Int×Int×Int×Zt6×Zt3×Zt2)
 (cond ((l1.length:Int)==0)
 (some (.inl (true,l1,p2,i3,i4,l5,l6,l7)))
 ((getI l1 0).bind fun i9=>
 cond (decide (i9 >= 128))
 (some (.inr (1,(false,0,false,([]:List Int),([]:List Int),false,l1,p2,i3,i4,l5,l6,l7))))
 (cond (decide (i9 >= 64))
 (some (.inr (2,(false,0,false,([]:List Int),([]:List Int),false,l1,p2,i3,i4,l5,l6,l7))))
 (cond (decide (i9 >= 32))
 (some (.inr (3,(false,0,false,([]:List Int),([]:List Int),false,l1,p2,i3,i4,l5,l6,l7))))
 ((F_unpack_block_literal l1 p2 i3 i4 l5 4 l6 l7).bind fun x10=>
 some (.inr (4,(x10.2.2.2.1,0,false,x10.1,x10.2.1,(decide (i9 >= 16)),x10.2.2.2.2.1,x10.2.2.2.2.2.1,x10.2.2.2.2.2.2.1,x10.2.2.2.2.2.2.2.1,x10.2.2.2.2.2.2.2.2.1,l6,x10.2.2.2.2.2.2.2.2.2))))))))
 (fun p=>loopC (S:=Nat×Bool×Int×Bool×List Int×List Int×Bool×List Int×Int×Int×Int×Zt6×Zt3×Zt2) (R:=Bool×List Int×Int×Int×Int×Zt6×Zt3×Zt2) (F_unpack_block_read_G1) p)
def F_unpack_block_read_sig:Sig:=⟨[.m [.d (.sl (.int .u8)),.d (.ptr 91),.d (.int .i64),.d (.int .i64),.own 109 Zp15]],[(false,[.d .bool])],[(1000182,Zp10,true),(1000288,Zp9,true)]⟩
def F_unpack_block_read_ann:List (Nat×Ann):=[(1,⟨2,[(5,false,[.d .bool]),(7,false,[.d (.int .i64)]),(8,false,[.d .bool])],[(3,[.d .str,.d .str,.d .bool]),(0,[.d (.sl (.int .u8)),.d (.ptr 91),.d (.int .i64),.d (.int .i64),.own 109 Zp15])],([2,3,4,6]++List.range' 9 83),[],[(1000182,Zp10,true),(1000288,Zp9,true)],[3]⟩)]
noncomputable def F_unpack_block_read_env:Env:=⟨Tryd.prog,[(37,⟨F_dyn_Table_Limit_sig,⟨F_dyn_Table_Limit⟩⟩),(68,⟨F_unpack_block_literal_sig,⟨F_unpack_block_literal⟩⟩),(69,⟨F_unpack_block_number_sig,⟨F_unpack_block_number⟩⟩),(70,⟨F_unpack_block_at_sig,⟨F_unpack_block_at⟩⟩),(71,⟨F_dyn_Table_Add_sig,⟨F_dyn_Table_Add⟩⟩),(72,⟨F_unpack_block_keep_sig,⟨F_unpack_block_keep⟩⟩)],[]⟩
theorem F_unpack_block_read_text:pvFn F_unpack_block_read_env F_unpack_block_read_ann Tryd.f64 F_unpack_block_read_sig=F_unpack_block_read:=by kernel_rfl
noncomputable def F_unpack_Dec_Decode (p1:Int) (l2:List Int) (i3:Int) (l4:Zt7) (l5:Zt3) (l6:Zt2):Option (Zt6×Int×Zt7×Zt3×Zt2):=
 chk (nnI p1)
 ((getI l4 p1).bind fun x7=>
 cond x7.2
 (some (([]:Zt6),5,l4,l5,l6))
 ((F_slices_Clone_byte_byte l2).bind fun l8=>
 chk (nnI p1)
 ((getI l4 p1).bind fun x9=>
 (F_unpack_block_read l8 x9.1 i3 0 ([]:Zt6) l5 l6).bind fun x10=>
 cond (!x10.1)
 (chk (nnI p1)
 ((getI l4 p1).bind fun x11=>
 some (([]:Zt6),2,(l4.set (Int.toNat p1) (x11.1,true)),x10.2.2.2.2.2.2.1,x10.2.2.2.2.2.2.2)))
 (cond (decide (x10.2.2.2.2.1 > i3))
 (some (([]:Zt6),3,l4,x10.2.2.2.2.2.2.1,x10.2.2.2.2.2.2.2))
 (some (x10.2.2.2.2.2.1,0,l4,x10.2.2.2.2.2.2.1,x10.2.2.2.2.2.2.2))))))
def F_unpack_Dec_Decode_sig:Sig:=⟨[.v false [.d (.ptr 78)],.v false [.d (.sl (.int .u8))],.v false [.d (.int .i64)]],[(false,[.own 109 Zp15]),(false,[.d (.int .i64)])],[(1000156,Zp16,true),(1000182,Zp10,true),(1000288,Zp9,true)]⟩
def F_unpack_Dec_Decode_ann:List (Nat×Ann):=[]
noncomputable def F_unpack_Dec_Decode_env:Env:=⟨Tryd.prog,[(63,⟨F_slices_Clone_byte_byte_sig,⟨F_slices_Clone_byte_byte⟩⟩),(64,⟨F_unpack_block_read_sig,⟨F_unpack_block_read⟩⟩)],[]⟩
theorem F_unpack_Dec_Decode_text:pvFn F_unpack_Dec_Decode_env F_unpack_Dec_Decode_ann Tryd.f53 F_unpack_Dec_Decode_sig=F_unpack_Dec_Decode:=by kernel_rfl
noncomputable def F_unpack_Dec_Table (p1:Int) (l2:Zt7):Option (Int):=
 chk (nnI p1)
 ((getI l2 p1).bind fun x3=>
 some x3.1)
def F_unpack_Dec_Table_sig:Sig:=⟨[.v false [.d (.ptr 78)]],[(false,[.d (.ptr 91)])],[(1000156,Zp16,false)]⟩
def F_unpack_Dec_Table_ann:List (Nat×Ann):=[]
noncomputable def F_unpack_Dec_Table_env:Env:=⟨Tryd.prog,[],[]⟩
theorem F_unpack_Dec_Table_text:pvFn F_unpack_Dec_Table_env F_unpack_Dec_Table_ann Tryd.f54 F_unpack_Dec_Table_sig=F_unpack_Dec_Table:=by kernel_rfl
noncomputable def F_dyn_Table_Most (p1:Int) (l2:Zt3):Option (Int):=
 chk (nnI p1)
 ((getI l2 p1).bind fun x3=>
 some x3.2.2)
def F_dyn_Table_Most_sig:Sig:=⟨[.v false [.d (.ptr 91)]],[(false,[.d (.int .i64)])],[(1000182,Zp10,false)]⟩
def F_dyn_Table_Most_ann:List (Nat×Ann):=[]
noncomputable def F_dyn_Table_Most_env:Env:=⟨Tryd.prog,[],[]⟩
theorem F_dyn_Table_Most_text:pvFn F_dyn_Table_Most_env F_dyn_Table_Most_ann Tryd.f55 F_dyn_Table_Most_sig=F_dyn_Table_Most:=by kernel_rfl
noncomputable def F_watch_Watch_answers (p1:Int) (i2:Int) (i3:Int) (i4:Int) (l5:List Int) (l6:List Int) (i7:Int) (i9:Int) (i10:Int) (i11:Int) (l12:List (Int×Int)) (b13:Bool) (b14:Bool) (b15:Bool) (l16:Zt5) (l17:Zt1) (l18:List (Option Int×Bool×Bool×Bool×List Int)) (l19:Zt7) (l20:Zt3) (l21:Zt2):Option (Bool×List (Option Int×Bool×Bool×Bool×List Int)×Zt7×Zt3×Zt2):=
 (F_watch_Watch_live p1 i4 l16 l17 l18).bind fun p22=>
 cond (eqI p22 (-1))
 (some (false,l18,l19,l20,l21))
 (chk (nnI p1)
 ((getI l17 p1).bind fun x23=>
 cond (decide ((l5.length:Int) > x23.2.2.2.2.2.2.2.2.2.2.1.2.2.2.2.1))
 (some (false,l18,l19,l20,l21))
 (chk (nnI p1)
 ((getI l17 p1).bind fun x24=>
 (F_unpack_Dec_Decode x24.2.2.2.2.2.2.2.2.2.2.2.1 l6 2147483647 l19 l20 l21).bind fun x25=>
 cond ((x25.2.1 != 0)||((x25.1.length:Int)==0))
 (some (false,l18,x25.2.2.1,x25.2.2.2.1,x25.2.2.2.2))
 ((getI x25.1 0).bind fun x26=>
 cond (!(x26.1==([58,115,116,97,116,117,115]:List Int)))
 (some (false,l18,x25.2.2.1,x25.2.2.2.1,x25.2.2.2.2))
 (chk (nnI p1)
 ((getI l17 p1).bind fun x27=>
 (F_unpack_Dec_Table x27.2.2.2.2.2.2.2.2.2.2.2.1 x25.2.2.1).bind fun p28=>
 (F_dyn_Table_Most p28 x25.2.2.2.1).bind fun i29=>
 chk (nnI p1)
 ((getI l17 p1).bind fun x30=>
 cond (decide (i29 > x30.2.2.2.2.2.2.2.2.2.2.1.1))
 (some (false,l18,x25.2.2.1,x25.2.2.2.1,x25.2.2.2.2))
 (chk (nnI p22)
 ((getI l18 p22).bind fun x31=>
 chk (nnI p22)
 ((getI (l18.set (Int.toNat p22) (x31.1,(true,x31.2.2))) p22).bind fun x32=>
 some (true,((l18.set (Int.toNat p22) (x31.1,(true,x31.2.2))).set (Int.toNat p22) (x32.1,(x32.2.1,(b13,x32.2.2.2)))),x25.2.2.1,x25.2.2.2.1,x25.2.2.2.2))))))))))))
def F_watch_Watch_answers_sig:Sig:=⟨[.v false [.d (.ptr 59)],.v true [.d (.int .i64),.d (.int .i64),.d (.int .i64),.d (.sl (.int .u8))],.v true [.d (.sl (.int .u8)),.d (.int .i64),.d (.int .i64),.d (.int .i64),.d (.int .i64),.d (.sl Zp13),.d .bool,.d .bool,.d .bool]],[(false,[.d .bool])],[(1000103,(.sl Zp14),false),(1000118,Zp8,false),(1000142,Zp11,true),(1000156,Zp16,true),(1000182,Zp10,true),(1000288,Zp9,true)]⟩
def F_watch_Watch_answers_ann:List (Nat×Ann):=[]
noncomputable def F_watch_Watch_answers_env:Env:=⟨Tryd.prog,[(52,⟨F_watch_Watch_live_sig,⟨F_watch_Watch_live⟩⟩),(53,⟨F_unpack_Dec_Decode_sig,⟨F_unpack_Dec_Decode⟩⟩),(54,⟨F_unpack_Dec_Table_sig,⟨F_unpack_Dec_Table⟩⟩),(55,⟨F_dyn_Table_Most_sig,⟨F_dyn_Table_Most⟩⟩)],[]⟩
theorem F_watch_Watch_answers_text:pvFn F_watch_Watch_answers_env F_watch_Watch_answers_ann Tryd.f35 F_watch_Watch_answers_sig=F_watch_Watch_answers:=by kernel_rfl
noncomputable def F_watch_Watch_sends (p1:Int) (i2:Int) (i3:Int) (i4:Int) (l5:List Int) (l6:List Int) (i7:Int) (i9:Int) (i10:Int) (i11:Int) (l12:List (Int×Int)) (b13:Bool) (b14:Bool) (b15:Bool) (l16:Zt5) (l17:Zt1) (l18:List (Option Int×Bool×Bool×Bool×List Int)):Option (Bool×Zt1×List (Option Int×Bool×Bool×Bool×List Int)):=
 (F_watch_Watch_live p1 i4 l16 l17 l18).bind fun p19=>
 cond (eqI p19 (-1))
 (some (false,l17,l18))
 (chk (nnI p19)
 ((getI l18 p19).bind fun x20=>
 cond (!x20.2.1)
 (some (false,l17,l18))
 (chk (nnI p1)
 ((getI l17 p1).bind fun x21=>
 cond (decide ((l5.length:Int) > x21.2.2.2.2.2.2.2.2.2.2.1.2.2.2.2.1))
 (some (false,l17,l18))
 (chk (nnI p19)
 ((getI l18 p19).bind fun x22=>
 (x22.1).bind fun i23=>
 chk (nnI p1)
 ((getI l17 p1).bind fun x24=>
 (F_flow_Windows i23 x24.2.2.2.2.2.2.2.2.1).bind fun z25=>
 cond (decide ((l5.length:Int) > 0))
 ((F_flow_Spend z25 (l5.length:Int)).bind fun x26=>
 cond (x26.2 != 0)
 (some (false,l17,l18))
 ((F_flow_Stream x26.1).bind fun i27=>
 (F_flow_Conn x26.1).bind fun i28=>
 chk (nnI p19)
 ((getI l18 p19).bind fun x29=>
 chk (nnI p1)
 ((getI l17 p1).bind fun x30=>
 chk (nnI p19)
 ((getI (l18.set (Int.toNat p19) ((some i27),x29.2)) p19).bind fun x31=>
 chk (decide ((x31.2.2.2.2.length+l6.length)*1<=140737488355328)&&decide (x31.2.2.2.2.length+l6.length<=maxLen))
 (chk (nnI p19)
 ((getI (l18.set (Int.toNat p19) ((some i27),x29.2)) p19).bind fun x32=>
 chk (eqI p19 p19)
 (chk (nnI p19)
 ((getI ((l18.set (Int.toNat p19) ((some i27),x29.2)).set (Int.toNat p19) (x32.1,(x32.2.1,(x32.2.2.1,(x32.2.2.2.1,(x31.2.2.2.2++l6)))))) p19).bind fun x33=>
 some (true,(l17.set (Int.toNat p1) (x30.1,(x30.2.1,(x30.2.2.1,(x30.2.2.2.1,(x30.2.2.2.2.1,(x30.2.2.2.2.2.1,(x30.2.2.2.2.2.2.1,(x30.2.2.2.2.2.2.2.1,(i28,x30.2.2.2.2.2.2.2.2.2)))))))))),(((l18.set (Int.toNat p19) ((some i27),x29.2)).set (Int.toNat p19) (x32.1,(x32.2.1,(x32.2.2.1,(x32.2.2.2.1,(x31.2.2.2.2++l6)))))).set (Int.toNat p19) (x33.1,(x33.2.1,(b13,x33.2.2.2))))))))))))))
 ((F_flow_Stream z25).bind fun i34=>
 (F_flow_Conn z25).bind fun i35=>
 chk (nnI p19)
 ((getI l18 p19).bind fun x36=>
 chk (nnI p1)
 ((getI l17 p1).bind fun x37=>
 chk (nnI p19)
 ((getI (l18.set (Int.toNat p19) ((some i34),x36.2)) p19).bind fun x38=>
 chk (decide ((x38.2.2.2.2.length+l6.length)*1<=140737488355328)&&decide (x38.2.2.2.2.length+l6.length<=maxLen))
 (chk (nnI p19)
 ((getI (l18.set (Int.toNat p19) ((some i34),x36.2)) p19).bind fun x39=>
 chk (eqI p19 p19)
 (chk (nnI p19)
 ((getI ((l18.set (Int.toNat p19) ((some i34),x36.2)).set (Int.toNat p19) (x39.1,(x39.2.1,(x39.2.2.1,(x39.2.2.2.1,(x38.2.2.2.2++l6)))))) p19).bind fun x40=>
 some (true,(l17.set (Int.toNat p1) (x37.1,(x37.2.1,(x37.2.2.1,(x37.2.2.2.1,(x37.2.2.2.2.1,(x37.2.2.2.2.2.1,(x37.2.2.2.2.2.2.1,(x37.2.2.2.2.2.2.2.1,(i35,x37.2.2.2.2.2.2.2.2.2)))))))))),(((l18.set (Int.toNat p19) ((some i34),x36.2)).set (Int.toNat p19) (x39.1,(x39.2.1,(x39.2.2.1,(x39.2.2.2.1,(x38.2.2.2.2++l6)))))).set (Int.toNat p19) (x40.1,(x40.2.1,(b13,x40.2.2.2))))))))))))))))))))
def F_watch_Watch_sends_sig:Sig:=⟨[.v false [.d (.ptr 59)],.v true [.d (.int .i64),.d (.int .i64),.d (.int .i64),.d (.sl (.int .u8))],.v true [.d (.sl (.int .u8)),.d (.int .i64),.d (.int .i64),.d (.int .i64),.d (.int .i64),.d (.sl Zp13),.d .bool,.d .bool,.d .bool]],[(false,[.d .bool])],[(1000103,(.sl Zp14),false),(1000118,Zp8,true),(1000142,Zp11,true)]⟩
def F_watch_Watch_sends_ann:List (Nat×Ann):=[]
noncomputable def F_watch_Watch_sends_env:Env:=⟨Tryd.prog,[(47,⟨F_flow_Windows_sig,⟨F_flow_Windows⟩⟩),(48,⟨F_flow_Conn_sig,⟨F_flow_Conn⟩⟩),(49,⟨F_flow_Stream_sig,⟨F_flow_Stream⟩⟩),(52,⟨F_watch_Watch_live_sig,⟨F_watch_Watch_live⟩⟩),(56,⟨F_flow_Spend_sig,⟨F_flow_Spend⟩⟩)],[72]⟩
theorem F_watch_Watch_sends_text:pvFn F_watch_Watch_sends_env F_watch_Watch_sends_ann Tryd.f36 F_watch_Watch_sends_sig=F_watch_Watch_sends:=by kernel_rfl
noncomputable def F_watch_Watch_right (p1:Int) (i2:Int) (i3:Int) (i4:Int) (l5:List Int) (l6:Zt5) (l7:Zt1) (l8:List (Option Int×Bool×Bool×Bool×List Int)) (l9:Zt7) (l10:Zt3) (l11:Zt2):Option (Bool×Zt1×List (Option Int×Bool×Bool×Bool×List Int)×Zt7×Zt3×Zt2):=
 (F_part_Read i2 i3 i4 l5).bind fun x12=>
 chk (nnI p1)
 ((getI l7 p1).bind fun x13=>
 cond (x13.2.2.2.2.2.2.2.2.2.2.2.2.1==0)
 (cond (i2 != 4)
 (some (false,l7,l8,l9,l10,l11))
 (cond x12.2.2.2.2.2.2.2.1
 (cond x12.2.2.2.2.2.2.2.1
 (some (false,l7,l8,l9,l10,l11))
 (cond (i2==4)
 (cond (!x12.2.2.2.2.2.2.2.1)
 (some (true,l7,l8,l9,l10,l11))
 ((F_watch_Watch_applies p1 l6 l7 l8).bind fun x14=>
 some (x14.1,x14.2.1,x14.2.2,l9,l10,l11)))
 (cond (i2==1)
 (cond x12.2.2.2.2.2.2.2.2.1
 ((F_watch_Watch_answers p1 i2 i3 i4 l5 x12.1 x12.2.1 x12.2.2.1 x12.2.2.2.1 x12.2.2.2.2.1 x12.2.2.2.2.2.1 x12.2.2.2.2.2.2.1 x12.2.2.2.2.2.2.2.1 x12.2.2.2.2.2.2.2.2.1 l6 l7 l8 l9 l10 l11).bind fun x15=>
 some (x15.1,l7,x15.2.1,x15.2.2.1,x15.2.2.2.1,x15.2.2.2.2))
 (some (false,l7,l8,l9,l10,l11)))
 (cond (i2==0)
 ((F_watch_Watch_sends p1 i2 i3 i4 l5 x12.1 x12.2.1 x12.2.2.1 x12.2.2.2.1 x12.2.2.2.2.1 x12.2.2.2.2.2.1 x12.2.2.2.2.2.2.1 x12.2.2.2.2.2.2.2.1 x12.2.2.2.2.2.2.2.2.1 l6 l7 l8).bind fun x16=>
 some (x16.1,x16.2.1,x16.2.2,l9,l10,l11))
 (cond (i2==3)
 (chk (nnI p1)
 ((getI l7 p1).bind fun x17=>
 (getI l6 x17.2.2.2.2.2.2.2.1).bind fun m18=>
 cond (eqI (getZ (mapGet m18 i4) (-1:Int)) (-1))
 (some (false,l7,l8,l9,l10,l11))
 (chk (nnI (getZ (mapGet m18 i4) (-1:Int)))
 ((getI l8 (getZ (mapGet m18 i4) (-1:Int))).bind fun x19=>
 cond x19.2.2.2.1
 (some (false,l7,l8,l9,l10,l11))
 (chk (nnI (getZ (mapGet m18 i4) (-1:Int)))
 ((getI l8 (getZ (mapGet m18 i4) (-1:Int))).bind fun x20=>
 some (true,l7,(l8.set (Int.toNat (getZ (mapGet m18 i4) (-1:Int))) (x20.1,(x20.2.1,(x20.2.2.1,(true,x20.2.2.2.2))))),l9,l10,l11)))))))
 (cond (i2==8)
 (chk (nnI p1)
 ((getI l7 p1).bind fun x21=>
 (getI l6 x21.2.2.2.2.2.2.2.1).bind fun m22=>
 cond (i4==0)
 (some (true,l7,l8,l9,l10,l11))
 (cond (!(eqI (getZ (mapGet m22 i4) (-1:Int)) (-1)))
 (chk (nnI (getZ (mapGet m22 i4) (-1:Int)))
 ((getI l8 (getZ (mapGet m22 i4) (-1:Int))).bind fun x23=>
 some ((!x23.2.2.2.1),l7,l8,l9,l10,l11)))
 (some (false,l7,l8,l9,l10,l11)))))
 (cond (i2==7)
 (chk (nnI p1)
 ((getI l7 p1).bind fun x24=>
 some (true,(l7.set (Int.toNat p1) (x24.1,(x24.2.1,(x24.2.2.1,(x24.2.2.2.1,(x24.2.2.2.2.1,(x24.2.2.2.2.2.1,(x24.2.2.2.2.2.2.1,(x24.2.2.2.2.2.2.2.1,(x24.2.2.2.2.2.2.2.2.1,(x24.2.2.2.2.2.2.2.2.2.1,(x24.2.2.2.2.2.2.2.2.2.2.1,(x24.2.2.2.2.2.2.2.2.2.2.2.1,(x24.2.2.2.2.2.2.2.2.2.2.2.2.1,(x12.2.2.1 != 0))))))))))))))),l8,l9,l10,l11)))
 (some ((i2==6),l7,l8,l9,l10,l11)))))))))
 (cond x12.2.2.2.2.2.2.2.2.2.1
 (cond x12.2.2.2.2.2.2.2.2.2.1
 (some (false,l7,l8,l9,l10,l11))
 (cond (i2==4)
 (cond (!x12.2.2.2.2.2.2.2.1)
 (some (true,l7,l8,l9,l10,l11))
 ((F_watch_Watch_applies p1 l6 l7 l8).bind fun x25=>
 some (x25.1,x25.2.1,x25.2.2,l9,l10,l11)))
 (cond (i2==1)
 (cond x12.2.2.2.2.2.2.2.2.1
 ((F_watch_Watch_answers p1 i2 i3 i4 l5 x12.1 x12.2.1 x12.2.2.1 x12.2.2.2.1 x12.2.2.2.2.1 x12.2.2.2.2.2.1 x12.2.2.2.2.2.2.1 x12.2.2.2.2.2.2.2.1 x12.2.2.2.2.2.2.2.2.1 l6 l7 l8 l9 l10 l11).bind fun x26=>
 some (x26.1,l7,x26.2.1,x26.2.2.1,x26.2.2.2.1,x26.2.2.2.2))
 (some (false,l7,l8,l9,l10,l11)))
 (cond (i2==0)
 ((F_watch_Watch_sends p1 i2 i3 i4 l5 x12.1 x12.2.1 x12.2.2.1 x12.2.2.2.1 x12.2.2.2.2.1 x12.2.2.2.2.2.1 x12.2.2.2.2.2.2.1 x12.2.2.2.2.2.2.2.1 x12.2.2.2.2.2.2.2.2.1 l6 l7 l8).bind fun x27=>
 some (x27.1,x27.2.1,x27.2.2,l9,l10,l11))
 (cond (i2==3)
 (chk (nnI p1)
 ((getI l7 p1).bind fun x28=>
 (getI l6 x28.2.2.2.2.2.2.2.1).bind fun m29=>
 cond (eqI (getZ (mapGet m29 i4) (-1:Int)) (-1))
 (some (false,l7,l8,l9,l10,l11))
 (chk (nnI (getZ (mapGet m29 i4) (-1:Int)))
 ((getI l8 (getZ (mapGet m29 i4) (-1:Int))).bind fun x30=>
 cond x30.2.2.2.1
 (some (false,l7,l8,l9,l10,l11))
 (chk (nnI (getZ (mapGet m29 i4) (-1:Int)))
 ((getI l8 (getZ (mapGet m29 i4) (-1:Int))).bind fun x31=>
 some (true,l7,(l8.set (Int.toNat (getZ (mapGet m29 i4) (-1:Int))) (x31.1,(x31.2.1,(x31.2.2.1,(true,x31.2.2.2.2))))),l9,l10,l11)))))))
 (cond (i2==8)
 (chk (nnI p1)
 ((getI l7 p1).bind fun x32=>
 (getI l6 x32.2.2.2.2.2.2.2.1).bind fun m33=>
 cond (i4==0)
 (some (true,l7,l8,l9,l10,l11))
 (cond (!(eqI (getZ (mapGet m33 i4) (-1:Int)) (-1)))
 (chk (nnI (getZ (mapGet m33 i4) (-1:Int)))
 ((getI l8 (getZ (mapGet m33 i4) (-1:Int))).bind fun x34=>
 some ((!x34.2.2.2.1),l7,l8,l9,l10,l11)))
 (some (false,l7,l8,l9,l10,l11)))))
 (cond (i2==7)
 (chk (nnI p1)
 ((getI l7 p1).bind fun x35=>
 some (true,(l7.set (Int.toNat p1) (x35.1,(x35.2.1,(x35.2.2.1,(x35.2.2.2.1,(x35.2.2.2.2.1,(x35.2.2.2.2.2.1,(x35.2.2.2.2.2.2.1,(x35.2.2.2.2.2.2.2.1,(x35.2.2.2.2.2.2.2.2.1,(x35.2.2.2.2.2.2.2.2.2.1,(x35.2.2.2.2.2.2.2.2.2.2.1,(x35.2.2.2.2.2.2.2.2.2.2.2.1,(x35.2.2.2.2.2.2.2.2.2.2.2.2.1,(x12.2.2.1 != 0))))))))))))))),l8,l9,l10,l11)))
 (some ((i2==6),l7,l8,l9,l10,l11)))))))))
 (chk (nnI p1)
 ((getI l7 p1).bind fun x36=>
 cond x36.2.2.2.2.2.2.2.2.2.2.2.2.2
 (some (false,l7,l8,l9,l10,l11))
 (cond (i2==4)
 (cond (!x12.2.2.2.2.2.2.2.1)
 (some (true,l7,l8,l9,l10,l11))
 ((F_watch_Watch_applies p1 l6 l7 l8).bind fun x37=>
 some (x37.1,x37.2.1,x37.2.2,l9,l10,l11)))
 (cond (i2==1)
 (cond x12.2.2.2.2.2.2.2.2.1
 ((F_watch_Watch_answers p1 i2 i3 i4 l5 x12.1 x12.2.1 x12.2.2.1 x12.2.2.2.1 x12.2.2.2.2.1 x12.2.2.2.2.2.1 x12.2.2.2.2.2.2.1 x12.2.2.2.2.2.2.2.1 x12.2.2.2.2.2.2.2.2.1 l6 l7 l8 l9 l10 l11).bind fun x38=>
 some (x38.1,l7,x38.2.1,x38.2.2.1,x38.2.2.2.1,x38.2.2.2.2))
 (some (false,l7,l8,l9,l10,l11)))
 (cond (i2==0)
 ((F_watch_Watch_sends p1 i2 i3 i4 l5 x12.1 x12.2.1 x12.2.2.1 x12.2.2.2.1 x12.2.2.2.2.1 x12.2.2.2.2.2.1 x12.2.2.2.2.2.2.1 x12.2.2.2.2.2.2.2.1 x12.2.2.2.2.2.2.2.2.1 l6 l7 l8).bind fun x39=>
 some (x39.1,x39.2.1,x39.2.2,l9,l10,l11))
 (cond (i2==3)
 (chk (nnI p1)
 ((getI l7 p1).bind fun x40=>
 (getI l6 x40.2.2.2.2.2.2.2.1).bind fun m41=>
 cond (eqI (getZ (mapGet m41 i4) (-1:Int)) (-1))
 (some (false,l7,l8,l9,l10,l11))
 (chk (nnI (getZ (mapGet m41 i4) (-1:Int)))
 ((getI l8 (getZ (mapGet m41 i4) (-1:Int))).bind fun x42=>
 cond x42.2.2.2.1
 (some (false,l7,l8,l9,l10,l11))
 (chk (nnI (getZ (mapGet m41 i4) (-1:Int)))
 ((getI l8 (getZ (mapGet m41 i4) (-1:Int))).bind fun x43=>
 some (true,l7,(l8.set (Int.toNat (getZ (mapGet m41 i4) (-1:Int))) (x43.1,(x43.2.1,(x43.2.2.1,(true,x43.2.2.2.2))))),l9,l10,l11)))))))
 (cond (i2==8)
 (chk (nnI p1)
 ((getI l7 p1).bind fun x44=>
 (getI l6 x44.2.2.2.2.2.2.2.1).bind fun m45=>
 cond (i4==0)
 (some (true,l7,l8,l9,l10,l11))
 (cond (!(eqI (getZ (mapGet m45 i4) (-1:Int)) (-1)))
 (chk (nnI (getZ (mapGet m45 i4) (-1:Int)))
 ((getI l8 (getZ (mapGet m45 i4) (-1:Int))).bind fun x46=>
 some ((!x46.2.2.2.1),l7,l8,l9,l10,l11)))
 (some (false,l7,l8,l9,l10,l11)))))
 (cond (i2==7)
 (chk (nnI p1)
 ((getI l7 p1).bind fun x47=>
 some (true,(l7.set (Int.toNat p1) (x47.1,(x47.2.1,(x47.2.2.1,(x47.2.2.2.1,(x47.2.2.2.2.1,(x47.2.2.2.2.2.1,(x47.2.2.2.2.2.2.1,(x47.2.2.2.2.2.2.2.1,(x47.2.2.2.2.2.2.2.2.1,(x47.2.2.2.2.2.2.2.2.2.1,(x47.2.2.2.2.2.2.2.2.2.2.1,(x47.2.2.2.2.2.2.2.2.2.2.2.1,(x47.2.2.2.2.2.2.2.2.2.2.2.2.1,(x12.2.2.1 != 0))))))))))))))),l8,l9,l10,l11)))
 (some ((i2==6),l7,l8,l9,l10,l11)))))))))))))
 (cond x12.2.2.2.2.2.2.2.2.2.1
 (cond x12.2.2.2.2.2.2.2.2.2.1
 (some (false,l7,l8,l9,l10,l11))
 (cond (i2==4)
 (cond (!x12.2.2.2.2.2.2.2.1)
 (some (true,l7,l8,l9,l10,l11))
 ((F_watch_Watch_applies p1 l6 l7 l8).bind fun x48=>
 some (x48.1,x48.2.1,x48.2.2,l9,l10,l11)))
 (cond (i2==1)
 (cond x12.2.2.2.2.2.2.2.2.1
 ((F_watch_Watch_answers p1 i2 i3 i4 l5 x12.1 x12.2.1 x12.2.2.1 x12.2.2.2.1 x12.2.2.2.2.1 x12.2.2.2.2.2.1 x12.2.2.2.2.2.2.1 x12.2.2.2.2.2.2.2.1 x12.2.2.2.2.2.2.2.2.1 l6 l7 l8 l9 l10 l11).bind fun x49=>
 some (x49.1,l7,x49.2.1,x49.2.2.1,x49.2.2.2.1,x49.2.2.2.2))
 (some (false,l7,l8,l9,l10,l11)))
 (cond (i2==0)
 ((F_watch_Watch_sends p1 i2 i3 i4 l5 x12.1 x12.2.1 x12.2.2.1 x12.2.2.2.1 x12.2.2.2.2.1 x12.2.2.2.2.2.1 x12.2.2.2.2.2.2.1 x12.2.2.2.2.2.2.2.1 x12.2.2.2.2.2.2.2.2.1 l6 l7 l8).bind fun x50=>
 some (x50.1,x50.2.1,x50.2.2,l9,l10,l11))
 (cond (i2==3)
 (chk (nnI p1)
 ((getI l7 p1).bind fun x51=>
 (getI l6 x51.2.2.2.2.2.2.2.1).bind fun m52=>
 cond (eqI (getZ (mapGet m52 i4) (-1:Int)) (-1))
 (some (false,l7,l8,l9,l10,l11))
 (chk (nnI (getZ (mapGet m52 i4) (-1:Int)))
 ((getI l8 (getZ (mapGet m52 i4) (-1:Int))).bind fun x53=>
 cond x53.2.2.2.1
 (some (false,l7,l8,l9,l10,l11))
 (chk (nnI (getZ (mapGet m52 i4) (-1:Int)))
 ((getI l8 (getZ (mapGet m52 i4) (-1:Int))).bind fun x54=>
 some (true,l7,(l8.set (Int.toNat (getZ (mapGet m52 i4) (-1:Int))) (x54.1,(x54.2.1,(x54.2.2.1,(true,x54.2.2.2.2))))),l9,l10,l11)))))))
 (cond (i2==8)
 (chk (nnI p1)
 ((getI l7 p1).bind fun x55=>
 (getI l6 x55.2.2.2.2.2.2.2.1).bind fun m56=>
 cond (i4==0)
 (some (true,l7,l8,l9,l10,l11))
 (cond (!(eqI (getZ (mapGet m56 i4) (-1:Int)) (-1)))
 (chk (nnI (getZ (mapGet m56 i4) (-1:Int)))
 ((getI l8 (getZ (mapGet m56 i4) (-1:Int))).bind fun x57=>
 some ((!x57.2.2.2.1),l7,l8,l9,l10,l11)))
 (some (false,l7,l8,l9,l10,l11)))))
 (cond (i2==7)
 (chk (nnI p1)
 ((getI l7 p1).bind fun x58=>
 some (true,(l7.set (Int.toNat p1) (x58.1,(x58.2.1,(x58.2.2.1,(x58.2.2.2.1,(x58.2.2.2.2.1,(x58.2.2.2.2.2.1,(x58.2.2.2.2.2.2.1,(x58.2.2.2.2.2.2.2.1,(x58.2.2.2.2.2.2.2.2.1,(x58.2.2.2.2.2.2.2.2.2.1,(x58.2.2.2.2.2.2.2.2.2.2.1,(x58.2.2.2.2.2.2.2.2.2.2.2.1,(x58.2.2.2.2.2.2.2.2.2.2.2.2.1,(x12.2.2.1 != 0))))))))))))))),l8,l9,l10,l11)))
 (some ((i2==6),l7,l8,l9,l10,l11)))))))))
 (chk (nnI p1)
 ((getI l7 p1).bind fun x59=>
 cond x59.2.2.2.2.2.2.2.2.2.2.2.2.2
 (some (false,l7,l8,l9,l10,l11))
 (cond (i2==4)
 (cond (!x12.2.2.2.2.2.2.2.1)
 (some (true,l7,l8,l9,l10,l11))
 ((F_watch_Watch_applies p1 l6 l7 l8).bind fun x60=>
 some (x60.1,x60.2.1,x60.2.2,l9,l10,l11)))
 (cond (i2==1)
 (cond x12.2.2.2.2.2.2.2.2.1
 ((F_watch_Watch_answers p1 i2 i3 i4 l5 x12.1 x12.2.1 x12.2.2.1 x12.2.2.2.1 x12.2.2.2.2.1 x12.2.2.2.2.2.1 x12.2.2.2.2.2.2.1 x12.2.2.2.2.2.2.2.1 x12.2.2.2.2.2.2.2.2.1 l6 l7 l8 l9 l10 l11).bind fun x61=>
 some (x61.1,l7,x61.2.1,x61.2.2.1,x61.2.2.2.1,x61.2.2.2.2))
 (some (false,l7,l8,l9,l10,l11)))
 (cond (i2==0)
 ((F_watch_Watch_sends p1 i2 i3 i4 l5 x12.1 x12.2.1 x12.2.2.1 x12.2.2.2.1 x12.2.2.2.2.1 x12.2.2.2.2.2.1 x12.2.2.2.2.2.2.1 x12.2.2.2.2.2.2.2.1 x12.2.2.2.2.2.2.2.2.1 l6 l7 l8).bind fun x62=>
 some (x62.1,x62.2.1,x62.2.2,l9,l10,l11))
 (cond (i2==3)
 (chk (nnI p1)
 ((getI l7 p1).bind fun x63=>
 (getI l6 x63.2.2.2.2.2.2.2.1).bind fun m64=>
 cond (eqI (getZ (mapGet m64 i4) (-1:Int)) (-1))
 (some (false,l7,l8,l9,l10,l11))
 (chk (nnI (getZ (mapGet m64 i4) (-1:Int)))
 ((getI l8 (getZ (mapGet m64 i4) (-1:Int))).bind fun x65=>
 cond x65.2.2.2.1
 (some (false,l7,l8,l9,l10,l11))
 (chk (nnI (getZ (mapGet m64 i4) (-1:Int)))
 ((getI l8 (getZ (mapGet m64 i4) (-1:Int))).bind fun x66=>
 some (true,l7,(l8.set (Int.toNat (getZ (mapGet m64 i4) (-1:Int))) (x66.1,(x66.2.1,(x66.2.2.1,(true,x66.2.2.2.2))))),l9,l10,l11)))))))
 (cond (i2==8)
 (chk (nnI p1)
 ((getI l7 p1).bind fun x67=>
 (getI l6 x67.2.2.2.2.2.2.2.1).bind fun m68=>
 cond (i4==0)
 (some (true,l7,l8,l9,l10,l11))
 (cond (!(eqI (getZ (mapGet m68 i4) (-1:Int)) (-1)))
 (chk (nnI (getZ (mapGet m68 i4) (-1:Int)))
 ((getI l8 (getZ (mapGet m68 i4) (-1:Int))).bind fun x69=>
 some ((!x69.2.2.2.1),l7,l8,l9,l10,l11)))
 (some (false,l7,l8,l9,l10,l11)))))
 (cond (i2==7)
 (chk (nnI p1)
 ((getI l7 p1).bind fun x70=>
 some (true,(l7.set (Int.toNat p1) (x70.1,(x70.2.1,(x70.2.2.1,(x70.2.2.2.1,(x70.2.2.2.2.1,(x70.2.2.2.2.2.1,(x70.2.2.2.2.2.2.1,(x70.2.2.2.2.2.2.2.1,(x70.2.2.2.2.2.2.2.2.1,(x70.2.2.2.2.2.2.2.2.2.1,(x70.2.2.2.2.2.2.2.2.2.2.1,(x70.2.2.2.2.2.2.2.2.2.2.2.1,(x70.2.2.2.2.2.2.2.2.2.2.2.2.1,(x12.2.2.1 != 0))))))))))))))),l8,l9,l10,l11)))
 (some ((i2==6),l7,l8,l9,l10,l11))))))))))))
def F_watch_Watch_right_sig:Sig:=⟨[.v false [.d (.ptr 59)],.v true [.d (.int .i64),.d (.int .i64),.d (.int .i64),.d (.sl (.int .u8))]],[(false,[.d .bool])],[(1000103,(.sl Zp14),false),(1000118,Zp8,true),(1000142,Zp11,true),(1000156,Zp16,true),(1000182,Zp10,true),(1000288,Zp9,true)]⟩
def F_watch_Watch_right_ann:List (Nat×Ann):=[]
noncomputable def F_watch_Watch_right_env:Env:=⟨Tryd.prog,[(32,⟨F_part_Read_sig,⟨F_part_Read⟩⟩),(34,⟨F_watch_Watch_applies_sig,⟨F_watch_Watch_applies⟩⟩),(35,⟨F_watch_Watch_answers_sig,⟨F_watch_Watch_answers⟩⟩),(36,⟨F_watch_Watch_sends_sig,⟨F_watch_Watch_sends⟩⟩)],[]⟩
theorem F_watch_Watch_right_text:pvFn F_watch_Watch_right_env F_watch_Watch_right_ann Tryd.f28 F_watch_Watch_right_sig=F_watch_Watch_right:=by kernel_rfl
noncomputable def F_watch_Watch_Out_L3 (p1:Int) (l3:Zt5) (s:Zt1×List (Option Int×Bool×Bool×Bool×List Int)×Zt4×Zt7×Zt3×Zt2):Option ((Int×Zt1×List (Option Int×Bool×Bool×Bool×List Int)×Zt4×Zt7×Zt3×Zt2)⊕(Zt1×List (Option Int×Bool×Bool×Bool×List Int)×Zt4×Zt7×Zt3×Zt2)):=
 let l12:=s.1;let l13:=s.2.1;let l14:=s.2.2.1;let l15:=s.2.2.2.1;let l16:=s.2.2.2.2.1;let l17:=s.2.2.2.2.2
 chk (nnI p1)
 ((getI l12 p1).bind fun x18=>
 cond (!x18.2.2.2.2.2.1)
 (chk (nnI p1)
 ((getI l12 p1).bind fun x19=>
 cond (!x19.2.2.2.2.1)
 (chk (nnI p1)
 ((getI l12 p1).bind fun x20=>
 (F_frame_Parser_Next x20.2.2.1 l14).bind fun x21=>
 cond (x21.2.2.2.2.1==4)
 (Option.map Sum.inl
 (chk (nnI p1)
 ((getI l12 p1).bind fun x22=>
 cond x22.2.2.2.2.2.1
 (some (2,l12,l13,x21.2.2.2.2.2,l15,l16,l17))
 (some (0,l12,l13,x21.2.2.2.2.2,l15,l16,l17)))))
 (cond (x21.2.2.2.2.1 != 0)
 (chk (nnI p1)
 ((getI l12 p1).bind fun x23=>
 chk (nnI p1)
 ((getI (l12.set (Int.toNat p1) (x23.1,(x23.2.1,(x23.2.2.1,(x23.2.2.2.1,(x23.2.2.2.2.1,(true,x23.2.2.2.2.2.2))))))) p1).bind fun x24=>
 cond (!x24.2.2.2.2.2.1)
 (chk (nnI p1)
 ((getI (l12.set (Int.toNat p1) (x23.1,(x23.2.1,(x23.2.2.1,(x23.2.2.2.1,(x23.2.2.2.2.1,(true,x23.2.2.2.2.2.2))))))) p1).bind fun x25=>
 chk (nnI p1)
 ((getI (l12.set (Int.toNat p1) (x23.1,(x23.2.1,(x23.2.2.1,(x23.2.2.2.1,(x23.2.2.2.2.1,(true,x23.2.2.2.2.2.2))))))) p1).bind fun x26=>
 some (.inr (((l12.set (Int.toNat p1) (x23.1,(x23.2.1,(x23.2.2.1,(x23.2.2.2.1,(x23.2.2.2.2.1,(true,x23.2.2.2.2.2.2))))))).set (Int.toNat p1) (x26.1,(x26.2.1,(x26.2.2.1,(x26.2.2.2.1,(x26.2.2.2.2.1,(x26.2.2.2.2.2.1,(x26.2.2.2.2.2.2.1,(x26.2.2.2.2.2.2.2.1,(x26.2.2.2.2.2.2.2.2.1,(x26.2.2.2.2.2.2.2.2.2.1,(x26.2.2.2.2.2.2.2.2.2.2.1,(x26.2.2.2.2.2.2.2.2.2.2.2.1,((IntKind.i64.wrap (x25.2.2.2.2.2.2.2.2.2.2.2.2.1+1)),x26.2.2.2.2.2.2.2.2.2.2.2.2.2)))))))))))))),l13,x21.2.2.2.2.2,l15,l16,l17)))))
 (some (.inr ((l12.set (Int.toNat p1) (x23.1,(x23.2.1,(x23.2.2.1,(x23.2.2.2.1,(x23.2.2.2.2.1,(true,x23.2.2.2.2.2.2))))))),l13,x21.2.2.2.2.2,l15,l16,l17))))))
 ((F_watch_Watch_right p1 x21.1 x21.2.1 x21.2.2.1 x21.2.2.2.1 l3 l12 l13 l15 l16 l17).bind fun x27=>
 chk (nnI p1)
 ((getI x27.2.1 p1).bind fun x28=>
 chk (nnI p1)
 ((getI (x27.2.1.set (Int.toNat p1) (x28.1,(x28.2.1,(x28.2.2.1,(x28.2.2.2.1,(x28.2.2.2.2.1,((!x27.1),x28.2.2.2.2.2.2))))))) p1).bind fun x29=>
 cond (!x29.2.2.2.2.2.1)
 (chk (nnI p1)
 ((getI (x27.2.1.set (Int.toNat p1) (x28.1,(x28.2.1,(x28.2.2.1,(x28.2.2.2.1,(x28.2.2.2.2.1,((!x27.1),x28.2.2.2.2.2.2))))))) p1).bind fun x30=>
 chk (nnI p1)
 ((getI (x27.2.1.set (Int.toNat p1) (x28.1,(x28.2.1,(x28.2.2.1,(x28.2.2.2.1,(x28.2.2.2.2.1,((!x27.1),x28.2.2.2.2.2.2))))))) p1).bind fun x31=>
 some (.inr (((x27.2.1.set (Int.toNat p1) (x28.1,(x28.2.1,(x28.2.2.1,(x28.2.2.2.1,(x28.2.2.2.2.1,((!x27.1),x28.2.2.2.2.2.2))))))).set (Int.toNat p1) (x31.1,(x31.2.1,(x31.2.2.1,(x31.2.2.2.1,(x31.2.2.2.2.1,(x31.2.2.2.2.2.1,(x31.2.2.2.2.2.2.1,(x31.2.2.2.2.2.2.2.1,(x31.2.2.2.2.2.2.2.2.1,(x31.2.2.2.2.2.2.2.2.2.1,(x31.2.2.2.2.2.2.2.2.2.2.1,(x31.2.2.2.2.2.2.2.2.2.2.2.1,((IntKind.i64.wrap (x30.2.2.2.2.2.2.2.2.2.2.2.2.1+1)),x31.2.2.2.2.2.2.2.2.2.2.2.2.2)))))))))))))),x27.2.2.1,x21.2.2.2.2.2,x27.2.2.2.1,x27.2.2.2.2.1,x27.2.2.2.2.2)))))
 (some (.inr ((x27.2.1.set (Int.toNat p1) (x28.1,(x28.2.1,(x28.2.2.1,(x28.2.2.2.1,(x28.2.2.2.2.1,((!x27.1),x28.2.2.2.2.2.2))))))),x27.2.2.1,x21.2.2.2.2.2,x27.2.2.2.1,x27.2.2.2.2.1,x27.2.2.2.2.2)))))))))
 (Option.map Sum.inl
 (chk (nnI p1)
 ((getI l12 p1).bind fun x32=>
 cond x32.2.2.2.2.2.1
 (some (2,l12,l13,l14,l15,l16,l17))
 (some (0,l12,l13,l14,l15,l16,l17)))))))
 (Option.map Sum.inl
 (chk (nnI p1)
 ((getI l12 p1).bind fun x33=>
 cond x33.2.2.2.2.2.1
 (some (2,l12,l13,l14,l15,l16,l17))
 (some (0,l12,l13,l14,l15,l16,l17))))))
noncomputable def F_watch_Watch_Out (p1:Int) (l2:List Int) (l3:Zt5) (l4:Zt1) (l5:List (Option Int×Bool×Bool×Bool×List Int)) (l6:Zt4) (l7:Zt7) (l8:Zt3) (l9:Zt2):Option (Int×Zt1×List (Option Int×Bool×Bool×Bool×List Int)×Zt4×Zt7×Zt3×Zt2):=
 chk (nnI p1)
 ((getI l4 p1).bind fun x10=>
 (F_frame_Parser_Feed x10.2.2.1 l2 l6).bind fun l11=>
 loopC (S:=Zt1×List (Option Int×Bool×Bool×Bool×List Int)×Zt4×Zt7×Zt3×Zt2) (R:=Int×Zt1×List (Option Int×Bool×Bool×Bool×List Int)×Zt4×Zt7×Zt3×Zt2) (F_watch_Watch_Out_L3 p1 l3) (l4,l5,l11,l7,l8,l9))
def F_watch_Watch_Out_sig:Sig:=⟨[.v false [.d (.ptr 59)],.v false [.d (.sl (.int .u8))]],[(false,[.d (.int .i64)])],[(1000103,(.sl Zp14),false),(1000118,Zp8,true),(1000142,Zp11,true),(1000146,Zp12,true),(1000156,Zp16,true),(1000182,Zp10,true),(1000288,Zp9,true)]⟩
def F_watch_Watch_Out_ann:List (Nat×Ann):=[(3,⟨4,[],[],([5,6]++List.range' 13 45),[1000103],[(1000118,Zp8,true),(1000142,Zp11,true),(1000146,Zp12,true),(1000156,Zp16,true),(1000182,Zp10,true),(1000288,Zp9,true)],[]⟩)]
noncomputable def F_watch_Watch_Out_env:Env:=⟨Tryd.prog,[(24,⟨F_frame_Parser_Feed_sig,⟨F_frame_Parser_Feed⟩⟩),(25,⟨F_frame_Parser_Next_sig,⟨F_frame_Parser_Next⟩⟩),(28,⟨F_watch_Watch_right_sig,⟨F_watch_Watch_right⟩⟩)],[]⟩
theorem F_watch_Watch_Out_text:pvFn F_watch_Watch_Out_env F_watch_Watch_Out_ann Tryd.f12 F_watch_Watch_Out_sig=F_watch_Watch_Out:=by kernel_rfl
noncomputable def F_watch_Watch_Frames (p1:Int) (l2:Zt1):Option (Int):=
 chk (nnI p1)
 ((getI l2 p1).bind fun x3=>
 some x3.2.2.2.2.2.2.2.2.2.2.2.2.1)
def F_watch_Watch_Frames_sig:Sig:=⟨[.v false [.d (.ptr 59)]],[(false,[.d (.int .i64)])],[(1000118,Zp8,false)]⟩
def F_watch_Watch_Frames_ann:List (Nat×Ann):=[]
noncomputable def F_watch_Watch_Frames_env:Env:=⟨Tryd.prog,[],[]⟩
theorem F_watch_Watch_Frames_text:pvFn F_watch_Watch_Frames_env F_watch_Watch_Frames_ann Tryd.f13 F_watch_Watch_Frames_sig=F_watch_Watch_Frames:=by kernel_rfl
noncomputable def F_wlvref10_Put (i1:Int) (i2:Int) (i3:Int) (l4:List Int):Option (List Int×Int):=
 cond (decide (i1 < 0))
 (some (([]:List Int),1))
 (cond (decide (i1 > 255))
 (some (([]:List Int),1))
 (cond (decide (i2 < 0))
 (some (([]:List Int),1))
 (cond (decide (i2 > 255))
 (some (([]:List Int),1))
 (cond (decide (i3 < 0))
 (some (([]:List Int),1))
 (cond (decide (i3 > 2147483647))
 (some (([]:List Int),1))
 (cond (decide ((l4.length:Int) >= 16777216))
 (some (([]:List Int),3))
 ((F_wlvref10_num (l4.length:Int) 3).bind fun l5=>
 chk (decide ((l5.length+([(IntKind.u8.wrap i1),(IntKind.u8.wrap i2)]:List Int).length)*1<=140737488355328)&&decide (l5.length+([(IntKind.u8.wrap i1),(IntKind.u8.wrap i2)]:List Int).length<=maxLen))
 ((F_wlvref10_num i3 4).bind fun l6=>
 chk (decide (((l5++([(IntKind.u8.wrap i1),(IntKind.u8.wrap i2)]:List Int)).length+l6.length)*1<=140737488355328)&&decide ((l5++([(IntKind.u8.wrap i1),(IntKind.u8.wrap i2)]:List Int)).length+l6.length<=maxLen))
 (chk (decide ((((l5++([(IntKind.u8.wrap i1),(IntKind.u8.wrap i2)]:List Int))++l6).length+l4.length)*1<=140737488355328)&&decide (((l5++([(IntKind.u8.wrap i1),(IntKind.u8.wrap i2)]:List Int))++l6).length+l4.length<=maxLen))
 (some ((((l5++([(IntKind.u8.wrap i1),(IntKind.u8.wrap i2)]:List Int))++l6)++l4),0)))))))))))
def F_wlvref10_Put_sig:Sig:=⟨[.v true [.d (.int .i64),.d (.int .i64),.d (.int .i64),.d (.sl (.int .u8))]],[(false,[.own 5 (.int .u8)]),(false,[.d (.int .i64)])],[]⟩
def F_wlvref10_Put_ann:List (Nat×Ann):=[]
noncomputable def F_wlvref10_Put_env:Env:=⟨Tryd.prog,[(27,⟨F_wlvref10_num_sig,⟨F_wlvref10_num⟩⟩)],[]⟩
theorem F_wlvref10_Put_text:pvFn F_wlvref10_Put_env F_wlvref10_Put_ann Tryd.f20 F_wlvref10_Put_sig=F_wlvref10_Put:=by kernel_rfl
noncomputable def F_wlvlaw27_first (l1:Zt5) (l2:Zt1) (l3:List (Option Int×Bool×Bool×Bool×List Int)) (l4:Zt4) (l5:Zt7) (l6:Zt3) (l7:Zt2):Option (Bool×Zt5×Zt1×List (Option Int×Bool×Bool×Bool×List Int)×Zt4×Zt7×Zt3×Zt2):=
 (F_watch_New l1 l2 l4 l5 l6).bind fun x8=>
 cond (eqI x8.1 (-1))
 (some (false,x8.2.1,x8.2.2.1,l3,x8.2.2.2.1,x8.2.2.2.2.1,x8.2.2.2.2.2,l7))
 ((F_watch_Watch_Out x8.1 ([]:List Int) x8.2.1 x8.2.2.1 l3 x8.2.2.2.1 x8.2.2.2.2.1 x8.2.2.2.2.2 l7).bind fun x9=>
 cond (x9.1 != 0)
 (some (false,x8.2.1,x9.2.1,x9.2.2.1,x9.2.2.2.1,x9.2.2.2.2.1,x9.2.2.2.2.2.1,x9.2.2.2.2.2.2))
 ((F_watch_Watch_Frames x8.1 x9.2.1).bind fun i10=>
 cond (i10 != 0)
 (some (false,x8.2.1,x9.2.1,x9.2.2.1,x9.2.2.2.1,x9.2.2.2.2.1,x9.2.2.2.2.2.1,x9.2.2.2.2.2.2))
 ((F_wlvref10_Settings ([]:List (Int×Int)) false).bind fun x11=>
 (F_wlvref10_Put x11.1 x11.2.1 x11.2.2.1 x11.2.2.2).bind fun x12=>
 (F_wlvref10_Put 5 0 1 ([]:List Int)).bind fun x13=>
 (F_watch_Watch_Out x8.1 x12.1 x8.2.1 x9.2.1 x9.2.2.1 x9.2.2.2.1 x9.2.2.2.2.1 x9.2.2.2.2.2.1 x9.2.2.2.2.2.2).bind fun x14=>
 cond (x14.1==0)
 ((F_watch_Watch_Frames x8.1 x14.2.1).bind fun i15=>
 cond (i15==1)
 ((F_watch_Watch_Out x8.1 x13.1 x8.2.1 x14.2.1 x14.2.2.1 x14.2.2.2.1 x14.2.2.2.2.1 x14.2.2.2.2.2.1 x14.2.2.2.2.2.2).bind fun x16=>
 cond (x16.1==2)
 ((F_watch_Watch_Out x8.1 x12.1 x8.2.1 x16.2.1 x16.2.2.1 x16.2.2.2.1 x16.2.2.2.2.1 x16.2.2.2.2.2.1 x16.2.2.2.2.2.2).bind fun x17=>
 some ((x17.1==2),x8.2.1,x17.2.1,x17.2.2.1,x17.2.2.2.1,x17.2.2.2.2.1,x17.2.2.2.2.2.1,x17.2.2.2.2.2.2))
 (some (false,x8.2.1,x16.2.1,x16.2.2.1,x16.2.2.2.1,x16.2.2.2.2.1,x16.2.2.2.2.2.1,x16.2.2.2.2.2.2)))
 (some (false,x8.2.1,x14.2.1,x14.2.2.1,x14.2.2.2.1,x14.2.2.2.2.1,x14.2.2.2.2.2.1,x14.2.2.2.2.2.2)))
 (some (false,x8.2.1,x14.2.1,x14.2.2.1,x14.2.2.2.1,x14.2.2.2.2.1,x14.2.2.2.2.2.1,x14.2.2.2.2.2.2)))))
def F_wlvlaw27_first_sig:Sig:=⟨[],[(false,[.d .bool])],[(1000103,(.sl Zp14),true),(1000118,Zp8,true),(1000142,Zp11,true),(1000146,Zp12,true),(1000156,Zp16,true),(1000182,Zp10,true),(1000288,Zp9,true)]⟩
def F_wlvlaw27_first_ann:List (Nat×Ann):=[]
noncomputable def F_wlvlaw27_first_env:Env:=⟨Tryd.prog,[(8,⟨F_watch_New_sig,⟨F_watch_New⟩⟩),(11,⟨F_wlvref10_Settings_sig,⟨F_wlvref10_Settings⟩⟩),(12,⟨F_watch_Watch_Out_sig,⟨F_watch_Watch_Out⟩⟩),(13,⟨F_watch_Watch_Frames_sig,⟨F_watch_Watch_Frames⟩⟩),(20,⟨F_wlvref10_Put_sig,⟨F_wlvref10_Put⟩⟩)],[]⟩
theorem F_wlvlaw27_first_text:pvFn F_wlvlaw27_first_env F_wlvlaw27_first_ann Tryd.f7 F_wlvlaw27_first_sig=F_wlvlaw27_first:=by kernel_rfl
noncomputable def F_watch_Watch_granted (p1:Int) (i2:Int) (i3:Int) (l4:Zt5) (l5:Zt1) (l6:List (Option Int×Bool×Bool×Bool×List Int)):Option (Zt1×List (Option Int×Bool×Bool×Bool×List Int)):=
 cond (i2==0)
 (chk (nnI p1)
 ((getI l5 p1).bind fun x7=>
 (F_flow_Windows 0 x7.2.2.2.2.2.2.2.2.1).bind fun z8=>
 (F_flow_Grant z8 0 i3).bind fun x9=>
 (F_flow_Conn x9.1).bind fun i10=>
 chk (nnI p1)
 ((getI l5 p1).bind fun x11=>
 chk (nnI p1)
 ((getI (l5.set (Int.toNat p1) (x11.1,(x11.2.1,(x11.2.2.1,(x11.2.2.2.1,(x11.2.2.2.2.1,(x11.2.2.2.2.2.1,(x11.2.2.2.2.2.2.1,(x11.2.2.2.2.2.2.2.1,(i10,x11.2.2.2.2.2.2.2.2.2)))))))))) p1).bind fun x12=>
 some (((l5.set (Int.toNat p1) (x11.1,(x11.2.1,(x11.2.2.1,(x11.2.2.2.1,(x11.2.2.2.2.1,(x11.2.2.2.2.2.1,(x11.2.2.2.2.2.2.1,(x11.2.2.2.2.2.2.2.1,(i10,x11.2.2.2.2.2.2.2.2.2)))))))))).set (Int.toNat p1) (x12.1,(x12.2.1,(x12.2.2.1,(x12.2.2.2.1,(x9.2.1,x12.2.2.2.2.2)))))),l6)))))
 (chk (nnI p1)
 ((getI l5 p1).bind fun x13=>
 (getI l4 x13.2.2.2.2.2.2.2.1).bind fun m14=>
 cond (!(eqI (getZ (mapGet m14 i2) (-1:Int)) (-1)))
 (chk (nnI (getZ (mapGet m14 i2) (-1:Int)))
 ((getI l6 (getZ (mapGet m14 i2) (-1:Int))).bind fun x15=>
 (x15.1).bind fun i17=>
 (F_flow_Windows i17 0).bind fun z18=>
 (F_flow_Grant z18 i3 0).bind fun x19=>
 (F_flow_Stream x19.1).bind fun i20=>
 chk (nnI (getZ (mapGet m14 i2) (-1:Int)))
 ((getI l6 (getZ (mapGet m14 i2) (-1:Int))).bind fun x21=>
 chk (nnI p1)
 ((getI l5 p1).bind fun x22=>
 some ((l5.set (Int.toNat p1) (x22.1,(x22.2.1,(x22.2.2.1,(x22.2.2.2.1,(x19.2.1,x22.2.2.2.2.2)))))),(l6.set (Int.toNat (getZ (mapGet m14 i2) (-1:Int))) ((some i20),x21.2)))))))
 (some (l5,l6))))
def F_watch_Watch_granted_sig:Sig:=⟨[.v false [.d (.ptr 59)],.v false [.d (.int .i64)],.v false [.d (.int .i64)]],[],[(1000103,(.sl Zp14),false),(1000118,Zp8,true),(1000142,Zp11,true)]⟩
def F_watch_Watch_granted_ann:List (Nat×Ann):=[]
noncomputable def F_watch_Watch_granted_env:Env:=⟨Tryd.prog,[(46,⟨F_flow_Grant_sig,⟨F_flow_Grant⟩⟩),(47,⟨F_flow_Windows_sig,⟨F_flow_Windows⟩⟩),(48,⟨F_flow_Conn_sig,⟨F_flow_Conn⟩⟩),(49,⟨F_flow_Stream_sig,⟨F_flow_Stream⟩⟩)],[]⟩
theorem F_watch_Watch_granted_text:pvFn F_watch_Watch_granted_env F_watch_Watch_granted_ann Tryd.f33 F_watch_Watch_granted_sig=F_watch_Watch_granted:=by kernel_rfl
noncomputable def F_watch_Watch_hears (p1:Int) (i2:Int) (i3:Int) (i4:Int) (l5:List Int) (l6:Zt5) (l7:Zt1) (l8:List (Option Int×Bool×Bool×Bool×List Int)):Option (Zt5×Zt1×List (Option Int×Bool×Bool×Bool×List Int)):=
 (F_part_Read i2 i3 i4 l5).bind fun x9=>
 cond (i2==1)
 (cond ((Int.tmod i4 2)==1)
 (chk (nnI p1)
 ((getI l7 p1).bind fun x10=>
 cond (decide (i4 > x10.2.2.2.2.2.2.1))
 (chk (nnI p1)
 ((getI l7 p1).bind fun x11=>
 chk (nnI p1)
 ((getI (l7.set (Int.toNat p1) (x11.1,(x11.2.1,(x11.2.2.1,(x11.2.2.2.1,(x11.2.2.2.2.1,(x11.2.2.2.2.2.1,(i4,x11.2.2.2.2.2.2.2)))))))) p1).bind fun x12=>
 chk (nnI p1)
 ((getI (l7.set (Int.toNat p1) (x11.1,(x11.2.1,(x11.2.2.1,(x11.2.2.2.1,(x11.2.2.2.2.1,(x11.2.2.2.2.2.1,(i4,x11.2.2.2.2.2.2.2)))))))) p1).bind fun x13=>
 (getI l6 x12.2.2.2.2.2.2.2.1).bind fun m14=>
 some ((l6.set (Int.toNat x12.2.2.2.2.2.2.2.1) (mapSet m14 i4 (l8.length:Int))),(l7.set (Int.toNat p1) (x11.1,(x11.2.1,(x11.2.2.1,(x11.2.2.2.1,(x11.2.2.2.2.1,(x11.2.2.2.2.2.1,(i4,x11.2.2.2.2.2.2.2)))))))),(l8++[((some x13.2.2.2.2.2.2.2.2.2.2.1.2.2.2.1),(false,(false,(false,([]:List Int)))))]))))))
 (some (l6,l7,l8))))
 (some (l6,l7,l8)))
 (cond (i2==4)
 (cond (!x9.2.2.2.2.2.2.2.2.2.1)
 (cond (!x9.2.2.2.2.2.2.2.1)
 (chk (nnI p1)
 ((getI l7 p1).bind fun x15=>
 chk (decide ((x15.2.2.2.2.2.2.2.2.2.1.length+([x9.2.2.2.2.2.1]:Zt5).length)*24<=140737488355328)&&decide (x15.2.2.2.2.2.2.2.2.2.1.length+([x9.2.2.2.2.2.1]:Zt5).length<=maxLen))
 (chk (nnI p1)
 ((getI l7 p1).bind fun x16=>
 chk (eqI p1 p1)
 (some (l6,(l7.set (Int.toNat p1) (x16.1,(x16.2.1,(x16.2.2.1,(x16.2.2.2.1,(x16.2.2.2.2.1,(x16.2.2.2.2.2.1,(x16.2.2.2.2.2.2.1,(x16.2.2.2.2.2.2.2.1,(x16.2.2.2.2.2.2.2.2.1,((x15.2.2.2.2.2.2.2.2.2.1++([x9.2.2.2.2.2.1]:Zt5)),x16.2.2.2.2.2.2.2.2.2.2))))))))))),l8))))))
 (some (l6,l7,l8)))
 (some (l6,l7,l8)))
 (cond (i2==8)
 (cond (!x9.2.2.2.2.2.2.2.2.2.1)
 ((F_watch_Watch_granted p1 i4 x9.2.2.2.2.1 l6 l7 l8).bind fun x17=>
 some (l6,x17.1,x17.2))
 (some (l6,l7,l8)))
 (some (l6,l7,l8))))
def F_watch_Watch_hears_sig:Sig:=⟨[.v false [.d (.ptr 59)],.v true [.d (.int .i64),.d (.int .i64),.d (.int .i64),.d (.sl (.int .u8))]],[],[(1000103,(.sl Zp14),true),(1000118,Zp8,true),(1000142,Zp11,true)]⟩
def F_watch_Watch_hears_ann:List (Nat×Ann):=[]
noncomputable def F_watch_Watch_hears_env:Env:=⟨Tryd.prog,[(32,⟨F_part_Read_sig,⟨F_part_Read⟩⟩),(33,⟨F_watch_Watch_granted_sig,⟨F_watch_Watch_granted⟩⟩)],[60]⟩
theorem F_watch_Watch_hears_text:pvFn F_watch_Watch_hears_env F_watch_Watch_hears_ann Tryd.f26 F_watch_Watch_hears_sig=F_watch_Watch_hears:=by kernel_rfl
noncomputable def F_watch_Watch_In_L3 (p1:Int) (s:Zt5×Zt1×List (Option Int×Bool×Bool×Bool×List Int)×Zt4):Option ((Zt5×Zt1×List (Option Int×Bool×Bool×Bool×List Int)×Zt4)⊕(Zt5×Zt1×List (Option Int×Bool×Bool×Bool×List Int)×Zt4)):=
 let l13:=s.1;let l14:=s.2.1;let l15:=s.2.2.1;let l16:=s.2.2.2
 chk (nnI p1)
 ((getI l14 p1).bind fun x17=>
 cond (!x17.2.2.2.1)
 (chk (nnI p1)
 ((getI l14 p1).bind fun x18=>
 cond (!x18.2.2.2.2.1)
 (chk (nnI p1)
 ((getI l14 p1).bind fun x19=>
 (F_frame_Parser_Next x19.2.1 l16).bind fun x20=>
 cond (x20.2.2.2.2.1==4)
 (some (.inl (l13,l14,l15,x20.2.2.2.2.2)))
 (chk (nnI p1)
 ((getI l14 p1).bind fun x21=>
 chk (nnI p1)
 ((getI (l14.set (Int.toNat p1) (x21.1,(x21.2.1,(x21.2.2.1,((x20.2.2.2.2.1 != 0),x21.2.2.2.2))))) p1).bind fun x22=>
 cond (!x22.2.2.2.1)
 ((F_watch_Watch_hears p1 x20.1 x20.2.1 x20.2.2.1 x20.2.2.2.1 l13 (l14.set (Int.toNat p1) (x21.1,(x21.2.1,(x21.2.2.1,((x20.2.2.2.2.1 != 0),x21.2.2.2.2))))) l15).bind fun x23=>
 some (.inr (x23.1,x23.2.1,x23.2.2,x20.2.2.2.2.2)))
 (some (.inr (l13,(l14.set (Int.toNat p1) (x21.1,(x21.2.1,(x21.2.2.1,((x20.2.2.2.2.1 != 0),x21.2.2.2.2))))),l15,x20.2.2.2.2.2))))))))
 (some (.inl (l13,l14,l15,l16)))))
 (some (.inl (l13,l14,l15,l16))))
noncomputable def F_watch_Watch_In (p1:Int) (l2:List Int) (l3:Zt5) (l4:Zt1) (l5:List (Option Int×Bool×Bool×Bool×List Int)) (l6:Zt4):Option (Zt5×Zt1×List (Option Int×Bool×Bool×Bool×List Int)×Zt4):=
 chk (nnI p1)
 ((getI l4 p1).bind fun x7=>
 chk (nnI p1)
 ((getI l4 p1).bind fun x8=>
 chk (nnI p1)
 ((getI l4 p1).bind fun x9=>
 chk (nnI p1)
 ((getI (l4.set (Int.toNat p1) ((IntKind.i64.wrap (x8.1+(minI (IntKind.i64.wrap (24 - x7.1)) (l2.length:Int)))),x9.2)) p1).bind fun x10=>
 (cutI l2 (minI (IntKind.i64.wrap (24 - x7.1)) (l2.length:Int)) (l2.length:Int)).bind fun l11=>
 (F_frame_Parser_Feed x10.2.1 l11 l6).bind fun l12=>
 loopC (S:=Zt5×Zt1×List (Option Int×Bool×Bool×Bool×List Int)×Zt4) (R:=Zt5×Zt1×List (Option Int×Bool×Bool×Bool×List Int)×Zt4) (F_watch_Watch_In_L3 p1) (l3,(l4.set (Int.toNat p1) ((IntKind.i64.wrap (x8.1+(minI (IntKind.i64.wrap (24 - x7.1)) (l2.length:Int)))),x9.2)),l5,l12)))))
def F_watch_Watch_In_sig:Sig:=⟨[.v false [.d (.ptr 59)],.v false [.d (.sl (.int .u8))]],[],[(1000103,(.sl Zp14),true),(1000118,Zp8,true),(1000142,Zp11,true),(1000146,Zp12,true)]⟩
def F_watch_Watch_In_ann:List (Nat×Ann):=[(3,⟨4,[],[],([5,6]++List.range' 31 35),[],[(1000103,(.sl Zp14),true),(1000118,Zp8,true),(1000142,Zp11,true),(1000146,Zp12,true)],[]⟩)]
noncomputable def F_watch_Watch_In_env:Env:=⟨Tryd.prog,[(24,⟨F_frame_Parser_Feed_sig,⟨F_frame_Parser_Feed⟩⟩),(25,⟨F_frame_Parser_Next_sig,⟨F_frame_Parser_Next⟩⟩),(26,⟨F_watch_Watch_hears_sig,⟨F_watch_Watch_hears⟩⟩)],[]⟩
theorem F_watch_Watch_In_text:pvFn F_watch_Watch_In_env F_watch_Watch_In_ann Tryd.f9 F_watch_Watch_In_sig=F_watch_Watch_In:=by kernel_rfl
noncomputable def F_wlvlaw27_Few_L4 (l1:Zt4) (s:Int×Int):Option (((Bool)⊕(Int))⊕(Int×Int)):=
 let i2:=s.1;let i3:=s.2
 cond ((decide (i3 < (l1.length:Int)))&&(decide (i3 < 300)))
 ((getI l1 i3).bind fun x4=>
 some (.inr ((IntKind.i64.wrap (i2+(minI (x4.2.length:Int) 100001))),(IntKind.i64.wrap (i3+1)))))
 (some (.inl (.inr i2)))
noncomputable def F_wlvlaw27_Few_J2 (l1:Zt4) (s:Int):Option (Bool):=
 let i5:=s
 some ((decide ((l1.length:Int)<=300))&&(decide (i5<=100000)))
noncomputable def F_wlvlaw27_Few (l1:Zt4):Option (Bool):=
 joinC (S:=Int) (R:=Bool)
 (loopC (S:=Int×Int) (R:=(Bool)⊕(Int)) (F_wlvlaw27_Few_L4 l1) (0,0))
 (F_wlvlaw27_Few_J2 l1)
def F_wlvlaw27_Few_sig:Sig:=⟨[.v false [.d (.sl Zp12)]],[(false,[.d .bool])],[]⟩
def F_wlvlaw27_Few_ann:List (Nat×Ann):=[(2,⟨3,[(3,false,[.d (.int .i64)])],[],(List.range' 4 20),[],[],[]⟩),(4,⟨5,[(3,false,[.d (.int .i64)]),(4,false,[.d (.int .i64)])],[],(List.range' 5 19),[],[],[]⟩)]
noncomputable def F_wlvlaw27_Few_env:Env:=⟨Tryd.prog,[],[]⟩
theorem F_wlvlaw27_Few_text:pvFn F_wlvlaw27_Few_env F_wlvlaw27_Few_ann Tryd.f17 F_wlvlaw27_Few_sig=F_wlvlaw27_Few:=by kernel_rfl
noncomputable def F_wlvref_Bytes (l1:List Int) (l2:List Int):Option (Bool):=
 some (l1==l2)
def F_wlvref_Bytes_sig:Sig:=⟨[.v false [.d (.sl (.int .u8))],.v false [.d (.sl (.int .u8))]],[(false,[.d .bool])],[]⟩
def F_wlvref_Bytes_ann:List (Nat×Ann):=[]
noncomputable def F_wlvref_Bytes_env:Env:=⟨Tryd.prog,[],[]⟩
theorem F_wlvref_Bytes_text:pvFn F_wlvref_Bytes_env F_wlvref_Bytes_ann Tryd.f18 F_wlvref_Bytes_sig=F_wlvref_Bytes:=by kernel_rfl
noncomputable def F_watch_Watch_Sent (p1:Int) (i2:Int) (l3:Zt5) (l4:Zt1) (l5:List (Option Int×Bool×Bool×Bool×List Int)):Option (List Int):=
 chk (nnI p1)
 ((getI l4 p1).bind fun x6=>
 (getI l3 x6.2.2.2.2.2.2.2.1).bind fun m7=>
 cond (!(eqI (getZ (mapGet m7 i2) (-1:Int)) (-1)))
 (chk (nnI (getZ (mapGet m7 i2) (-1:Int)))
 ((getI l5 (getZ (mapGet m7 i2) (-1:Int))).bind fun x8=>
 (F_bytes_Clone x8.2.2.2.2).bind fun l9=>
 some l9))
 (some ([]:List Int)))
def F_watch_Watch_Sent_sig:Sig:=⟨[.v false [.d (.ptr 59)],.v false [.d (.int .i64)]],[(false,[.own 5 (.int .u8)])],[(1000103,(.sl Zp14),false),(1000118,Zp8,false),(1000142,Zp11,false)]⟩
def F_watch_Watch_Sent_ann:List (Nat×Ann):=[]
noncomputable def F_watch_Watch_Sent_env:Env:=⟨Tryd.prog,[(29,⟨F_bytes_Clone_sig,⟨F_bytes_Clone⟩⟩)],[]⟩
theorem F_watch_Watch_Sent_text:pvFn F_watch_Watch_Sent_env F_watch_Watch_Sent_ann Tryd.f19 F_watch_Watch_Sent_sig=F_watch_Watch_Sent:=by kernel_rfl
noncomputable def F_wlvlaw27_WatchPieces_L22 (l1:Zt4) (i2:Int) (x14:Int×Zt5×Zt1×Zt4×Zt7×Zt3) (i15:Int) (s:Int×Int×Zt5×Zt1×List (Option Int×Bool×Bool×Bool×List Int)×Zt4×Zt7×Zt3×Zt2):Option ((((((Bool×Zt5×Zt1×List (Option Int×Bool×Bool×Bool×List Int)×Zt4×Zt7×Zt3×Zt2)⊕(Zt5×Zt1×List (Option Int×Bool×Bool×Bool×List Int)×Zt4×Zt7×Zt3×Zt2))⊕(Int×Zt5×Zt1×List (Option Int×Bool×Bool×Bool×List Int)×Zt4×Zt7×Zt3×Zt2))⊕(Zt5×Zt1×List (Option Int×Bool×Bool×Bool×List Int)×Zt4×Zt7×Zt3×Zt2))⊕(Int×Zt5×Zt1×List (Option Int×Bool×Bool×Bool×List Int)×Zt4×Zt7×Zt3×Zt2))⊕(Int×Int×Zt5×Zt1×List (Option Int×Bool×Bool×Bool×List Int)×Zt4×Zt7×Zt3×Zt2)):=
 let i26:=s.1;let i27:=s.2.1;let l28:=s.2.2.1;let l29:=s.2.2.2.1;let l30:=s.2.2.2.2.1;let l31:=s.2.2.2.2.2.1;let l32:=s.2.2.2.2.2.2.1;let l33:=s.2.2.2.2.2.2.2.1;let l34:=s.2.2.2.2.2.2.2.2
 (getI l1 i15).bind fun x35=>
 cond (decide (i27 < (x35.2.length:Int)))
 ((getI l1 i15).bind fun x36=>
 (getI l1 i15).bind fun x37=>
 (cutI x36.2 i27 (minI (IntKind.i64.wrap (i27+i2)) (x37.2.length:Int))).bind fun l38=>
 (getI l1 i15).bind fun x39=>
 cond (x39.1==0)
 ((F_watch_Watch_In x14.1 l38 l28 l29 l30 l31).bind fun x40=>
 some (.inr (i26,(IntKind.i64.wrap (i27+i2)),x40.1,x40.2.1,x40.2.2.1,x40.2.2.2,l32,l33,l34)))
 ((F_watch_Watch_Out x14.1 l38 l28 l29 l30 l31 l32 l33 l34).bind fun x41=>
 some (.inr (x41.1,(IntKind.i64.wrap (i27+i2)),l28,x41.2.1,x41.2.2.1,x41.2.2.2.1,x41.2.2.2.2.1,x41.2.2.2.2.2.1,x41.2.2.2.2.2.2))))
 (some (.inl (.inr (i26,l28,l29,l30,l31,l32,l33,l34))))
noncomputable def F_wlvlaw27_WatchPieces_J20 (l1:Zt4) (x13:Int×Zt5×Zt1×Zt4×Zt7×Zt3) (x14:Int×Zt5×Zt1×Zt4×Zt7×Zt3) (i15:Int) (s:Int×Zt5×Zt1×List (Option Int×Bool×Bool×Bool×List Int)×Zt4×Zt7×Zt3×Zt2):Option ((((Bool×Zt5×Zt1×List (Option Int×Bool×Bool×Bool×List Int)×Zt4×Zt7×Zt3×Zt2)⊕(Zt5×Zt1×List (Option Int×Bool×Bool×Bool×List Int)×Zt4×Zt7×Zt3×Zt2))⊕(Int×Zt5×Zt1×List (Option Int×Bool×Bool×Bool×List Int)×Zt4×Zt7×Zt3×Zt2))⊕(Zt5×Zt1×List (Option Int×Bool×Bool×Bool×List Int)×Zt4×Zt7×Zt3×Zt2)):=
 let i42:=s.1;let l43:=s.2.1;let l44:=s.2.2.1;let l45:=s.2.2.2.1;let l46:=s.2.2.2.2.1;let l47:=s.2.2.2.2.2.1;let l48:=s.2.2.2.2.2.2.1;let l49:=s.2.2.2.2.2.2.2
 (getI l1 i15).bind fun x50=>
 cond (x50.1 != 0)
 ((getI l1 i15).bind fun x51=>
 cond ((decide ((x51.2.length:Int) > 0))&&(0 != i42))
 (some (.inl (.inl (.inl (false,l43,l44,l45,l46,l47,l48,l49)))))
 ((F_watch_Watch_Frames x13.1 l44).bind fun i52=>
 (F_watch_Watch_Frames x14.1 l44).bind fun i53=>
 cond (i52 != i53)
 (some (.inl (.inl (.inl (false,l43,l44,l45,l46,l47,l48,l49)))))
 (some (.inr (l43,l44,l45,l46,l47,l48,l49)))))
 ((F_watch_Watch_Frames x13.1 l44).bind fun i54=>
 (F_watch_Watch_Frames x14.1 l44).bind fun i55=>
 cond (i54 != i55)
 (some (.inl (.inl (.inl (false,l43,l44,l45,l46,l47,l48,l49)))))
 (some (.inr (l43,l44,l45,l46,l47,l48,l49))))
noncomputable def F_wlvlaw27_WatchPieces_J20a (l1:Zt4) (x13:Int×Zt5×Zt1×Zt4×Zt7×Zt3) (x14:Int×Zt5×Zt1×Zt4×Zt7×Zt3) (i15:Int) (x57:Int×Zt1×List (Option Int×Bool×Bool×Bool×List Int)×Zt4×Zt7×Zt3×Zt2) (s:Int×Zt5×Zt1×List (Option Int×Bool×Bool×Bool×List Int)×Zt4×Zt7×Zt3×Zt2):Option ((((Bool×Zt5×Zt1×List (Option Int×Bool×Bool×Bool×List Int)×Zt4×Zt7×Zt3×Zt2)⊕(Zt5×Zt1×List (Option Int×Bool×Bool×Bool×List Int)×Zt4×Zt7×Zt3×Zt2))⊕(Int×Zt5×Zt1×List (Option Int×Bool×Bool×Bool×List Int)×Zt4×Zt7×Zt3×Zt2))⊕(Zt5×Zt1×List (Option Int×Bool×Bool×Bool×List Int)×Zt4×Zt7×Zt3×Zt2)):=
 let i74:=s.1;let l75:=s.2.1;let l76:=s.2.2.1;let l77:=s.2.2.2.1;let l78:=s.2.2.2.2.1;let l79:=s.2.2.2.2.2.1;let l80:=s.2.2.2.2.2.2.1;let l81:=s.2.2.2.2.2.2.2
 (getI l1 i15).bind fun x82=>
 cond (x82.1 != 0)
 ((getI l1 i15).bind fun x83=>
 cond ((decide ((x83.2.length:Int) > 0))&&(x57.1 != i74))
 (some (.inl (.inl (.inl (false,l75,l76,l77,l78,l79,l80,l81)))))
 ((F_watch_Watch_Frames x13.1 l76).bind fun i84=>
 (F_watch_Watch_Frames x14.1 l76).bind fun i85=>
 cond (i84 != i85)
 (some (.inl (.inl (.inl (false,l75,l76,l77,l78,l79,l80,l81)))))
 (some (.inr (l75,l76,l77,l78,l79,l80,l81)))))
 ((F_watch_Watch_Frames x13.1 l76).bind fun i86=>
 (F_watch_Watch_Frames x14.1 l76).bind fun i87=>
 cond (i86 != i87)
 (some (.inl (.inl (.inl (false,l75,l76,l77,l78,l79,l80,l81)))))
 (some (.inr (l75,l76,l77,l78,l79,l80,l81))))
noncomputable def F_wlvlaw27_WatchPieces_J16 (i15:Int) (s:Zt5×Zt1×List (Option Int×Bool×Bool×Bool×List Int)×Zt4×Zt7×Zt3×Zt2):Option (((Bool×Zt5×Zt1×List (Option Int×Bool×Bool×Bool×List Int)×Zt4×Zt7×Zt3×Zt2)⊕(Zt5×Zt1×List (Option Int×Bool×Bool×Bool×List Int)×Zt4×Zt7×Zt3×Zt2))⊕(Int×Zt5×Zt1×List (Option Int×Bool×Bool×Bool×List Int)×Zt4×Zt7×Zt3×Zt2)):=
 let l88:=s.1;let l89:=s.2.1;let l90:=s.2.2.1;let l91:=s.2.2.2.1;let l92:=s.2.2.2.2.1;let l93:=s.2.2.2.2.2.1;let l94:=s.2.2.2.2.2.2
 some (.inr ((IntKind.i64.wrap (i15+1)),l88,l89,l90,l91,l92,l93,l94))
noncomputable def F_wlvlaw27_WatchPieces_L13 (l1:Zt4) (i2:Int) (x13:Int×Zt5×Zt1×Zt4×Zt7×Zt3) (x14:Int×Zt5×Zt1×Zt4×Zt7×Zt3) (s:Int×Zt5×Zt1×List (Option Int×Bool×Bool×Bool×List Int)×Zt4×Zt7×Zt3×Zt2):Option (((Bool×Zt5×Zt1×List (Option Int×Bool×Bool×Bool×List Int)×Zt4×Zt7×Zt3×Zt2)⊕(Zt5×Zt1×List (Option Int×Bool×Bool×Bool×List Int)×Zt4×Zt7×Zt3×Zt2))⊕(Int×Zt5×Zt1×List (Option Int×Bool×Bool×Bool×List Int)×Zt4×Zt7×Zt3×Zt2)):=
 let i15:=s.1;let l16:=s.2.1;let l17:=s.2.2.1;let l18:=s.2.2.2.1;let l19:=s.2.2.2.2.1;let l20:=s.2.2.2.2.2.1;let l21:=s.2.2.2.2.2.2.1;let l22:=s.2.2.2.2.2.2.2
 cond (decide (i15 < (l1.length:Int)))
 (joinC (S:=Zt5×Zt1×List (Option Int×Bool×Bool×Bool×List Int)×Zt4×Zt7×Zt3×Zt2) (R:=((Bool×Zt5×Zt1×List (Option Int×Bool×Bool×Bool×List Int)×Zt4×Zt7×Zt3×Zt2)⊕(Zt5×Zt1×List (Option Int×Bool×Bool×Bool×List Int)×Zt4×Zt7×Zt3×Zt2))⊕(Int×Zt5×Zt1×List (Option Int×Bool×Bool×Bool×List Int)×Zt4×Zt7×Zt3×Zt2))
 ((getI l1 i15).bind fun x23=>
 cond (x23.1==0)
 ((getI l1 i15).bind fun x24=>
 (F_watch_Watch_In x13.1 x24.2 l16 l17 l18 l19).bind fun x25=>
 joinC (S:=Int×Zt5×Zt1×List (Option Int×Bool×Bool×Bool×List Int)×Zt4×Zt7×Zt3×Zt2) (R:=(((Bool×Zt5×Zt1×List (Option Int×Bool×Bool×Bool×List Int)×Zt4×Zt7×Zt3×Zt2)⊕(Zt5×Zt1×List (Option Int×Bool×Bool×Bool×List Int)×Zt4×Zt7×Zt3×Zt2))⊕(Int×Zt5×Zt1×List (Option Int×Bool×Bool×Bool×List Int)×Zt4×Zt7×Zt3×Zt2))⊕(Zt5×Zt1×List (Option Int×Bool×Bool×Bool×List Int)×Zt4×Zt7×Zt3×Zt2))
 (loopC (S:=Int×Int×Zt5×Zt1×List (Option Int×Bool×Bool×Bool×List Int)×Zt4×Zt7×Zt3×Zt2) (R:=((((Bool×Zt5×Zt1×List (Option Int×Bool×Bool×Bool×List Int)×Zt4×Zt7×Zt3×Zt2)⊕(Zt5×Zt1×List (Option Int×Bool×Bool×Bool×List Int)×Zt4×Zt7×Zt3×Zt2))⊕(Int×Zt5×Zt1×List (Option Int×Bool×Bool×Bool×List Int)×Zt4×Zt7×Zt3×Zt2))⊕(Zt5×Zt1×List (Option Int×Bool×Bool×Bool×List Int)×Zt4×Zt7×Zt3×Zt2))⊕(Int×Zt5×Zt1×List (Option Int×Bool×Bool×Bool×List Int)×Zt4×Zt7×Zt3×Zt2)) (F_wlvlaw27_WatchPieces_L22 l1 i2 x14 i15) (0,0,x25.1,x25.2.1,x25.2.2.1,x25.2.2.2,l20,l21,l22))
 (F_wlvlaw27_WatchPieces_J20 l1 x13 x14 i15))
 ((getI l1 i15).bind fun x56=>
 (F_watch_Watch_Out x13.1 x56.2 l16 l17 l18 l19 l20 l21 l22).bind fun x57=>
 joinC (S:=Int×Zt5×Zt1×List (Option Int×Bool×Bool×Bool×List Int)×Zt4×Zt7×Zt3×Zt2) (R:=(((Bool×Zt5×Zt1×List (Option Int×Bool×Bool×Bool×List Int)×Zt4×Zt7×Zt3×Zt2)⊕(Zt5×Zt1×List (Option Int×Bool×Bool×Bool×List Int)×Zt4×Zt7×Zt3×Zt2))⊕(Int×Zt5×Zt1×List (Option Int×Bool×Bool×Bool×List Int)×Zt4×Zt7×Zt3×Zt2))⊕(Zt5×Zt1×List (Option Int×Bool×Bool×Bool×List Int)×Zt4×Zt7×Zt3×Zt2))
 (loopC (S:=Int×Int×Zt5×Zt1×List (Option Int×Bool×Bool×Bool×List Int)×Zt4×Zt7×Zt3×Zt2) (R:=((((Bool×Zt5×Zt1×List (Option Int×Bool×Bool×Bool×List Int)×Zt4×Zt7×Zt3×Zt2)⊕(Zt5×Zt1×List (Option Int×Bool×Bool×Bool×List Int)×Zt4×Zt7×Zt3×Zt2))⊕(Int×Zt5×Zt1×List (Option Int×Bool×Bool×Bool×List Int)×Zt4×Zt7×Zt3×Zt2))⊕(Zt5×Zt1×List (Option Int×Bool×Bool×Bool×List Int)×Zt4×Zt7×Zt3×Zt2))⊕(Int×Zt5×Zt1×List (Option Int×Bool×Bool×Bool×List Int)×Zt4×Zt7×Zt3×Zt2)) (F_wlvlaw27_WatchPieces_L22 l1 i2 x14 i15) (0,0,l16,x57.2.1,x57.2.2.1,x57.2.2.2.1,x57.2.2.2.2.1,x57.2.2.2.2.2.1,x57.2.2.2.2.2.2))
 (F_wlvlaw27_WatchPieces_J20a l1 x13 x14 i15 x57)))
 (F_wlvlaw27_WatchPieces_J16 i15))
 (some (.inl (.inr (l16,l17,l18,l19,l20,l21,l22))))
noncomputable def F_wlvlaw27_WatchPieces_J11 (x13:Int×Zt5×Zt1×Zt4×Zt7×Zt3) (x14:Int×Zt5×Zt1×Zt4×Zt7×Zt3) (s:Zt5×Zt1×List (Option Int×Bool×Bool×Bool×List Int)×Zt4×Zt7×Zt3×Zt2):Option (Bool×Zt5×Zt1×List (Option Int×Bool×Bool×Bool×List Int)×Zt4×Zt7×Zt3×Zt2):=
 let l95:=s.1;let l96:=s.2.1;let l97:=s.2.2.1;let l98:=s.2.2.2.1;let l99:=s.2.2.2.2.1;let l100:=s.2.2.2.2.2.1;let l101:=s.2.2.2.2.2.2
 (F_wlvlaw27_first l95 l96 l97 l98 l99 l100 l101).bind fun x102=>
 cond x102.1
 ((F_watch_Watch_Sent x13.1 1 x102.2.1 x102.2.2.1 x102.2.2.2.1).bind fun l103=>
 (F_watch_Watch_Sent x14.1 1 x102.2.1 x102.2.2.1 x102.2.2.2.1).bind fun l104=>
 (F_wlvref_Bytes l103 l104).bind fun b105=>
 some (b105,x102.2.1,x102.2.2.1,x102.2.2.2.1,x102.2.2.2.2.1,x102.2.2.2.2.2.1,x102.2.2.2.2.2.2.1,x102.2.2.2.2.2.2.2))
 (some (false,x102.2.1,x102.2.2.1,x102.2.2.2.1,x102.2.2.2.2.1,x102.2.2.2.2.2.1,x102.2.2.2.2.2.2.1,x102.2.2.2.2.2.2.2))
noncomputable def F_wlvlaw27_WatchPieces (l1:Zt4) (i2:Int) (l3:Zt5) (l4:Zt1) (l5:List (Option Int×Bool×Bool×Bool×List Int)) (l6:Zt4) (l7:Zt7) (l8:Zt3) (l9:Zt2):Option (Bool×Zt5×Zt1×List (Option Int×Bool×Bool×Bool×List Int)×Zt4×Zt7×Zt3×Zt2):=
 (F_wlvlaw27_first l3 l4 l5 l6 l7 l8 l9).bind fun x10=>
 cond (!x10.1)
 (some (false,x10.2.1,x10.2.2.1,x10.2.2.2.1,x10.2.2.2.2.1,x10.2.2.2.2.2.1,x10.2.2.2.2.2.2.1,x10.2.2.2.2.2.2.2))
 ((F_wlvlaw27_Few l1).bind fun b11=>
 cond (((!b11)||(decide (i2 < 1)))||(decide (i2 > 100)))
 ((F_wlvlaw27_first x10.2.1 x10.2.2.1 x10.2.2.2.1 x10.2.2.2.2.1 x10.2.2.2.2.2.1 x10.2.2.2.2.2.2.1 x10.2.2.2.2.2.2.2).bind fun x12=>
 some (x12.1,x12.2.1,x12.2.2.1,x12.2.2.2.1,x12.2.2.2.2.1,x12.2.2.2.2.2.1,x12.2.2.2.2.2.2.1,x12.2.2.2.2.2.2.2))
 ((F_watch_New x10.2.1 x10.2.2.1 x10.2.2.2.2.1 x10.2.2.2.2.2.1 x10.2.2.2.2.2.2.1).bind fun x13=>
 (F_watch_New x13.2.1 x13.2.2.1 x13.2.2.2.1 x13.2.2.2.2.1 x13.2.2.2.2.2).bind fun x14=>
 cond ((eqI x13.1 (-1))||(eqI x14.1 (-1)))
 (some (false,x14.2.1,x14.2.2.1,x10.2.2.2.1,x14.2.2.2.1,x14.2.2.2.2.1,x14.2.2.2.2.2,x10.2.2.2.2.2.2.2))
 (joinC (S:=Zt5×Zt1×List (Option Int×Bool×Bool×Bool×List Int)×Zt4×Zt7×Zt3×Zt2) (R:=Bool×Zt5×Zt1×List (Option Int×Bool×Bool×Bool×List Int)×Zt4×Zt7×Zt3×Zt2)
 (loopC (S:=Int×Zt5×Zt1×List (Option Int×Bool×Bool×Bool×List Int)×Zt4×Zt7×Zt3×Zt2) (R:=(Bool×Zt5×Zt1×List (Option Int×Bool×Bool×Bool×List Int)×Zt4×Zt7×Zt3×Zt2)⊕(Zt5×Zt1×List (Option Int×Bool×Bool×Bool×List Int)×Zt4×Zt7×Zt3×Zt2)) (F_wlvlaw27_WatchPieces_L13 l1 i2 x13 x14) (0,x14.2.1,x14.2.2.1,x10.2.2.2.1,x14.2.2.2.1,x14.2.2.2.2.1,x14.2.2.2.2.2,x10.2.2.2.2.2.2.2))
 (F_wlvlaw27_WatchPieces_J11 x13 x14))))
def F_wlvlaw27_WatchPieces_sig:Sig:=⟨[.v false [.d (.sl Zp12)],.v false [.d (.int .i64)]],[(false,[.d .bool])],[(1000103,(.sl Zp14),true),(1000118,Zp8,true),(1000142,Zp11,true),(1000146,Zp12,true),(1000156,Zp16,true),(1000182,Zp10,true),(1000288,Zp9,true)]⟩
def F_wlvlaw27_WatchPieces_ann:List (Nat×Ann):=[(11,⟨12,[],[],([4,7,8,9,10,11]++List.range' 34 93),[],[(1000103,(.sl Zp14),true),(1000118,Zp8,true),(1000142,Zp11,true),(1000146,Zp12,true),(1000156,Zp16,true),(1000182,Zp10,true),(1000288,Zp9,true)],[]⟩),(13,⟨14,[(7,false,[.d (.int .i64)])],[],([4,8,9,10,11]++List.range' 34 93),[],[(1000103,(.sl Zp14),true),(1000118,Zp8,true),(1000142,Zp11,true),(1000146,Zp12,true),(1000156,Zp16,true),(1000182,Zp10,true),(1000288,Zp9,true)],[]⟩),(16,⟨17,[],[],([4,8,9,10,11]++List.range' 40 87),[],[(1000103,(.sl Zp14),true),(1000118,Zp8,true),(1000142,Zp11,true),(1000146,Zp12,true),(1000156,Zp16,true),(1000182,Zp10,true),(1000288,Zp9,true)],[]⟩),(20,⟨21,[(9,false,[.d (.int .i64)])],[],([10,11]++List.range' 60 40),[],[(1000103,(.sl Zp14),true),(1000118,Zp8,true),(1000142,Zp11,true),(1000146,Zp12,true),(1000156,Zp16,true),(1000182,Zp10,true),(1000288,Zp9,true)],[]⟩),(22,⟨23,[(9,false,[.d (.int .i64)]),(10,false,[.d (.int .i64)])],[],([11]++List.range' 60 40),[],[(1000103,(.sl Zp14),true),(1000118,Zp8,true),(1000142,Zp11,true),(1000146,Zp12,true),(1000156,Zp16,true),(1000182,Zp10,true),(1000288,Zp9,true)],[]⟩)]
noncomputable def F_wlvlaw27_WatchPieces_env:Env:=⟨Tryd.prog,[(7,⟨F_wlvlaw27_first_sig,⟨F_wlvlaw27_first⟩⟩),(8,⟨F_watch_New_sig,⟨F_watch_New⟩⟩),(9,⟨F_watch_Watch_In_sig,⟨F_watch_Watch_In⟩⟩),(12,⟨F_watch_Watch_Out_sig,⟨F_watch_Watch_Out⟩⟩),(13,⟨F_watch_Watch_Frames_sig,⟨F_watch_Watch_Frames⟩⟩),(17,⟨F_wlvlaw27_Few_sig,⟨F_wlvlaw27_Few⟩⟩),(18,⟨F_wlvref_Bytes_sig,⟨F_wlvref_Bytes⟩⟩),(19,⟨F_watch_Watch_Sent_sig,⟨F_watch_Watch_Sent⟩⟩)],[]⟩
theorem F_wlvlaw27_WatchPieces_text:pvFn F_wlvlaw27_WatchPieces_env F_wlvlaw27_WatchPieces_ann Tryd.f5 F_wlvlaw27_WatchPieces_sig=F_wlvlaw27_WatchPieces:=by kernel_rfl
end Go.Proofs.YtifbhefbhlbofaaDoor
namespace Go.Proofs.YtifbhefbhlbofaaDoor
open Pv
theorem F_flow_cut_sound {T:Tab}:SoundFn Tryd.prog T 61 F_flow_cut_sig ⟨F_flow_cut⟩:=by
 have h:=fn_sound (T:=T) (E:=F_flow_cut_env) (by unfold Env.ok;exact fun p h=>by cases h) (A:=F_flow_cut_ann) (f:=61) (fn:=Tryd.f61) (s:=F_flow_cut_sig) Tryd.func61
 rw [F_flow_cut_text] at h
 exact h
theorem F_flow_Windows_sound {T:Tab}:SoundFn Tryd.prog T 47 F_flow_Windows_sig ⟨F_flow_Windows⟩:=by
 have h:=fn_sound (T:=T) (E:=F_flow_Windows_env) (by unfold Env.ok;exact List.forall_mem_cons.2 ⟨F_flow_cut_sound,fun p h=>by cases h⟩) (A:=F_flow_Windows_ann) (f:=47) (fn:=Tryd.f47) (s:=F_flow_Windows_sig) Tryd.func47
 rw [F_flow_Windows_text] at h
 exact h
theorem F_flow_part_sound {T:Tab}:SoundFn Tryd.prog T 67 F_flow_part_sig ⟨F_flow_part⟩:=by
 have h:=fn_sound (T:=T) (E:=F_flow_part_env) (by unfold Env.ok;exact fun p h=>by cases h) (A:=F_flow_part_ann) (f:=67) (fn:=Tryd.f67) (s:=F_flow_part_sig) Tryd.func67
 rw [F_flow_part_text] at h
 exact h
theorem F_flow_parts_sound {T:Tab}:SoundFn Tryd.prog T 59 F_flow_parts_sig ⟨F_flow_parts⟩:=by
 have h:=fn_sound (T:=T) (E:=F_flow_parts_env) (by unfold Env.ok;exact List.forall_mem_cons.2 ⟨F_flow_part_sound,fun p h=>by cases h⟩) (A:=F_flow_parts_ann) (f:=59) (fn:=Tryd.f59) (s:=F_flow_parts_sig) Tryd.func59
 rw [F_flow_parts_text] at h
 exact h
theorem F_flow_Stream_sound {T:Tab}:SoundFn Tryd.prog T 49 F_flow_Stream_sig ⟨F_flow_Stream⟩:=by
 have h:=fn_sound (T:=T) (E:=F_flow_Stream_env) (by unfold Env.ok;exact List.forall_mem_cons.2 ⟨F_flow_parts_sound,fun p h=>by cases h⟩) (A:=F_flow_Stream_ann) (f:=49) (fn:=Tryd.f49) (s:=F_flow_Stream_sig) Tryd.func49
 rw [F_flow_Stream_text] at h
 exact h
theorem F_flow_Conn_sound {T:Tab}:SoundFn Tryd.prog T 48 F_flow_Conn_sig ⟨F_flow_Conn⟩:=by
 have h:=fn_sound (T:=T) (E:=F_flow_Conn_env) (by unfold Env.ok;exact List.forall_mem_cons.2 ⟨F_flow_parts_sound,fun p h=>by cases h⟩) (A:=F_flow_Conn_ann) (f:=48) (fn:=Tryd.f48) (s:=F_flow_Conn_sig) Tryd.func48
 rw [F_flow_Conn_text] at h
 exact h
theorem F_flow_fault_sound {T:Tab}:SoundFn Tryd.prog T 60 F_flow_fault_sig ⟨F_flow_fault⟩:=by
 have h:=fn_sound (T:=T) (E:=F_flow_fault_env) (by unfold Env.ok;exact fun p h=>by cases h) (A:=F_flow_fault_ann) (f:=60) (fn:=Tryd.f60) (s:=F_flow_fault_sig) Tryd.func60
 rw [F_flow_fault_text] at h
 exact h
theorem F_flow_Shift_sound {T:Tab}:SoundFn Tryd.prog T 51 F_flow_Shift_sig ⟨F_flow_Shift⟩:=by
 have h:=fn_sound (T:=T) (E:=F_flow_Shift_env) (by unfold Env.ok;exact List.forall_mem_cons.2 ⟨F_flow_Windows_sound,List.forall_mem_cons.2 ⟨F_flow_Conn_sound,List.forall_mem_cons.2 ⟨F_flow_Stream_sound,List.forall_mem_cons.2 ⟨F_flow_parts_sound,List.forall_mem_cons.2 ⟨F_flow_fault_sound,List.forall_mem_cons.2 ⟨F_flow_cut_sound,fun p h=>by cases h⟩⟩⟩⟩⟩⟩) (A:=F_flow_Shift_ann) (f:=51) (fn:=Tryd.f51) (s:=F_flow_Shift_sig) Tryd.func51
 rw [F_flow_Shift_text] at h
 exact h
theorem F_flow_Grant_sound {T:Tab}:SoundFn Tryd.prog T 46 F_flow_Grant_sig ⟨F_flow_Grant⟩:=by
 have h:=fn_sound (T:=T) (E:=F_flow_Grant_env) (by unfold Env.ok;exact List.forall_mem_cons.2 ⟨F_flow_parts_sound,List.forall_mem_cons.2 ⟨F_flow_fault_sound,fun p h=>by cases h⟩⟩) (A:=F_flow_Grant_ann) (f:=46) (fn:=Tryd.f46) (s:=F_flow_Grant_sig) Tryd.func46
 rw [F_flow_Grant_text] at h
 exact h
theorem F_flow_May_sound {T:Tab}:SoundFn Tryd.prog T 65 F_flow_May_sig ⟨F_flow_May⟩:=by
 have h:=fn_sound (T:=T) (E:=F_flow_May_env) (by unfold Env.ok;exact List.forall_mem_cons.2 ⟨F_flow_Conn_sound,List.forall_mem_cons.2 ⟨F_flow_Stream_sound,fun p h=>by cases h⟩⟩) (A:=F_flow_May_ann) (f:=65) (fn:=Tryd.f65) (s:=F_flow_May_sig) Tryd.func65
 rw [F_flow_May_text] at h
 exact h
theorem F_flow_Spend_sound {T:Tab}:SoundFn Tryd.prog T 56 F_flow_Spend_sig ⟨F_flow_Spend⟩:=by
 have h:=fn_sound (T:=T) (E:=F_flow_Spend_env) (by unfold Env.ok;exact List.forall_mem_cons.2 ⟨F_flow_parts_sound,List.forall_mem_cons.2 ⟨F_flow_May_sound,fun p h=>by cases h⟩⟩) (A:=F_flow_Spend_ann) (f:=56) (fn:=Tryd.f56) (s:=F_flow_Spend_sig) Tryd.func56
 rw [F_flow_Spend_text] at h
 exact h
end Go.Proofs.YtifbhefbhlbofaaDoor
namespace Go.Proofs.YtifbhefbhlbofaaDoor
open Pv
set_option linter.unusedVariables false
theorem getI_n {α:Type} {l:List α} {j:Int} {x:α} (h:getI l j=some x):∃ n:Nat,j=(n:Int) /\ l[n]? = some x:=by
 unfold getI at h
 cases hd:decide (0<=j) with
 | false=>rw [hd] at h;cases h
 | true=>
  rw [hd,cond_true] at h
  have:=of_decide_eq_true hd
  exact ⟨j.toNat,by omega,h⟩
theorem getI_of {α:Type} {l:List α} {n:Nat} {x:α} (h:l[n]? = some x):getI l (n:Int)=some x:=by
 unfold getI
 rw [decide_eq_true (by omega),cond_true,Int.toNat_natCast];exact h
structure ApRel (by_:Int) (p:Nat) (ms:ApM) (es:List MapEntry) (W0:List ApW) (w0:ApW) (S0:List ApS) (seen:Array Nat) (bl:Bool) (W:List ApW) (S:List ApS):Prop where
 W:W=W0.set p (setBlind w0 bl)
 len:S.length=S0.length
 old:w0.2.2.2.2.1=true->bl=true /\ S=S0
 other:w0.2.2.2.2.1=false -> ∀ (j:Nat) x0,S0[j]? = some x0->(∀ q∈ms,q.2≠(j:Int))->S[j]? = some x0
 mine:w0.2.2.2.2.1=false -> ∀ (i j:Nat) q e x0,ms[i]? = some q->es[i]? = some e->q.2=(j:Int)->S0[j]? = some x0 -> ∃ x,S[j]? = some x /\ x.2=x0.2 /\ (∃ c,x.1=some c) /\ (bl=false->seen.contains e.born=false->x=x0) /\ (bl=false->seen.contains e.born=true->x=winNew by_ false x0)
 bad:w0.2.2.2.2.1=false->bl=true->ms.any (winBad by_ S0)=true
 fine:bl=false -> ∀ (i:Nat) q e,ms[i]? = some q->es[i]? = some e->seen.contains e.born=true->winBad by_ S0 q=false
section
variable {by_ : Int} {p : Nat} {ms : ApM} {es : List MapEntry} {W0 W : List ApW} {w0 : ApW} {S0 S : List ApS} {seen : Array Nat} {bl : Bool}
theorem winOk_some {q:Int×Int} (h:winOk by_ S0 q=true):∃ (j:Nat) (n:Int) (y:Bool×Bool×Bool×List Int) (k:Int) (b:Bool),q.2=(j:Int) /\ S0[j]? = some (some n,y) /\ winStep by_ n=some (k,b) /\ winBad by_ S0 q=b:=by
 unfold winOk at h
 split at h
 ·rename_i n y hg
  split at h
  ·rename_i kb hw
   obtain ⟨j,hj,hget⟩:=getI_n hg
   refine ⟨j,n,y,kb.1,kb.2,hj,hget,hw,?_⟩
   unfold winBad
   rw [hg]
   simp only
   rw [hw]
  ·cases h
 ·cases h
theorem ApRel.start (hW:W0[p]? = some w0) (hok:ms.all (winOk by_ S0)=true):ApRel by_ p ms es W0 w0 S0 #[] w0.2.2.2.2.1 W0 S0:=by
 refine ⟨?_,rfl,fun h=>⟨h,rfl⟩,fun _ j x0 hx _=>hx,fun hb i j q e x0 hq _ hj hx=>?_,fun hb h=>(by rw [hb] at h;cases h),fun _ i q e _ _ h=>(by simp at h)⟩
 ·have:setBlind w0 w0.2.2.2.2.1=w0:=rfl
  rw [this]
  apply List.ext_getElem?
  intro i
  rw [List.getElem?_set]
  split
  ·rename_i e;subst e
   rw [if_pos (List.getElem?_eq_some_iff.1 hW).1,hW]
  ·rfl
 ·obtain ⟨j',n,y,k,b,h1,h2,_⟩:=winOk_some (List.all_eq_true.1 hok q (List.mem_of_getElem? hq))
  have:j'=j:=by omega
  subst this
  rw [hx] at h2
  cases h2
  exact ⟨_,hx,rfl,⟨n,rfl⟩,fun _ _=>rfl,fun _ h=>(by simp at h)⟩
theorem ApRel.skip (h:ApRel by_ p ms es W0 w0 S0 seen true W S) (b:Nat):ApRel by_ p ms es W0 w0 S0 (seen.push b) true W S:=
 ⟨h.W,h.len,h.old,h.other,fun hb i j q e x0 hq he hj hx=>by
  obtain ⟨x,h1,h2,h3,_⟩:=h.mine hb i j q e x0 hq he hj hx
  exact ⟨x,h1,h2,h3,fun e=>(by cases e),fun e=>(by cases e)⟩,h.bad,fun e=>(by cases e)⟩
theorem ApRel.step (h:ApRel by_ p ms es W0 w0 S0 seen false W S) (hok:ms.all (winOk by_ S0)=true) (hnd:(ms.map (·.2)).Nodup) (hbn:(es.map (·.born)).Nodup) {i:Nat} {q:Int×Int} {e:MapEntry} (hq:ms[i]? = some q) (he:es[i]? = some e) (hse:seen.contains e.born=false) :
  ∃ (j:Nat) (n:Int) (y:Bool×Bool×Bool×List Int) (k:Int) (b:Bool),q.2=(j:Int) /\ S[j]? = some (some n,y) /\ winStep by_ n=some (k,b) /\ ApRel by_ p ms es W0 w0 S0 (seen.push e.born) b (W.set p (setBlind w0 b)) (S.set j (some k,y)):=by
 have hb0:w0.2.2.2.2.1=false:=by
  cases hb:w0.2.2.2.2.1 with
  | false=>rfl
  | true=>have:=(h.old hb).1;cases this
 obtain ⟨j,n,y,k,b,h1,h2,h3,h4⟩:=winOk_some (List.all_eq_true.1 hok q (List.mem_of_getElem? hq))
 obtain ⟨x,x1,x2,x3,x4,x5⟩:=h.mine hb0 i j q e _ hq he h1 h2
 have ex:=x4 rfl hse
 subst ex
 have hjl:j < S.length:=(List.getElem?_eq_some_iff.1 x1).1
 have same:∀ (i':Nat) q',ms[i']? = some q'->q'.2=(j:Int)->i'=i:=fun i' q' hq' hj'=>by
  have hl1:=(List.getElem?_eq_some_iff.1 hq).1
  have hl2:=(List.getElem?_eq_some_iff.1 hq').1
  have e1:(ms.map (·.2))[i']? = (ms.map (·.2))[i]?:=by rw [List.getElem?_map,List.getElem?_map,hq,hq'];simp [h1,hj']
  exact (List.getElem?_inj (by simpa using hl2) hnd).1 e1
 have sameE:∀ (i':Nat) e',es[i']? = some e'->e'.born=e.born->i'=i:=fun i' e' he' hb'=>by
  have hl2:=(List.getElem?_eq_some_iff.1 he').1
  have e1:(es.map (·.born))[i']? = (es.map (·.born))[i]?:=by rw [List.getElem?_map,List.getElem?_map,he,he'];simp [hb']
  exact (List.getElem?_inj (by simpa using hl2) hbn).1 e1
 have hpush:∀ z,(seen.push e.born).contains z=(seen.contains z||z==e.born):=fun z=>contains_push seen e.born z
 refine ⟨j,n,y,k,b,h1,x1,h3,?_,(by rw [List.length_set];exact h.len),fun hb=>(by rw [hb0] at hb;cases hb),fun _ j' x0 hx hno=>?_,fun _ i' j' q' e' x0 hq' he' hj' hx=>?_,fun _ hb=>?_,fun hb i' q' e' hq' he' hs=>?_⟩
 ·rw [h.W,List.set_set]
 ·have hne:j≠j':=fun e=>hno q (List.mem_of_getElem? hq) (by rw [h1,e])
  rw [List.getElem?_set,if_neg hne]
  exact h.other hb0 j' x0 hx hno
 ·by_cases ej:j=j'
  ·subst ej
   have ei:=same i' q' hq' hj'
   subst ei
   rw [he] at he';cases he'
   rw [h2] at hx;cases hx
   refine ⟨(some k,y),(by rw [List.getElem?_set,if_pos rfl,if_pos hjl]),rfl,⟨k,rfl⟩,fun _ hs=>?_,fun hb _=>?_⟩
   ·rw [hpush] at hs;simp at hs
   ·unfold winNew
    rw [cond_false]
    simp only
    rw [h3]
  ·obtain ⟨x,y1,y2,y3,y4,y5⟩:=h.mine hb0 i' j' q' e' x0 hq' he' hj' hx
   have hbne:(e'.born==e.born)=false:=by
    cases hc:(e'.born==e.born) with
    | false=>rfl
    | true=>
     have:=sameE i' e' he' (by simpa using hc)
     subst this
     rw [hq] at hq';cases hq'
     omega
   refine ⟨x,(by rw [List.getElem?_set,if_neg ej];exact y1),y2,y3,fun _ hs=>y4 rfl ?_,fun _ hs=>y5 rfl ?_⟩
   ·rw [hpush,hbne,Bool.or_false] at hs;exact hs
   ·rw [hpush,hbne,Bool.or_false] at hs;exact hs
 ·subst hb
  exact List.any_eq_true.2 ⟨q,List.mem_of_getElem? hq,h4⟩
 ·subst hb
  rw [hpush] at hs
  cases hc:(e'.born==e.born) with
  | false=>
   rw [hc,Bool.or_false] at hs
   exact h.fine rfl i' q' e' hq' he' hs
  | true=>
   have:=sameE i' e' he' (by simpa using hc)
   subst this
   rw [hq] at hq';cases hq'
   exact h4
theorem ApRel.done (h:ApRel by_ p ms es W0 w0 S0 seen bl W S) (hW:W0[p]? = some w0) (M:List ApM) (hM:getI M w0.2.2.2.2.2.2.2.1=some ms) (hok:ms.all (winOk by_ S0)=true) (hlen:es.length=ms.length) (hall:∀ e∈es,seen.contains e.born=true) :
  W=apW by_ (p:Int) M W0 S0 /\ (apS by_ (p:Int) M W0 S0).length=S.length /\ ∀ (j:Nat) x',(apS by_ (p:Int) M W0 S0)[j]? = some x' -> ∃ x,S[j]? = some x /\ (x'=x \/ x'=(none,x.2)):=by
 have hes:apEs M W0 (p:Int)=some (w0,ms):=by
  unfold apEs
  rw [getI_of hW,Option.bind_some,hM];rfl
 unfold apW apS
 rw [hes]
 simp only [Int.toNat_natCast]
 cases hb0:w0.2.2.2.2.1 with
 | true=>
  obtain ⟨rfl,rfl⟩:=h.old hb0
  refine ⟨(by rw [h.W,Bool.true_or]),(by rw [cond_true]),fun j x' hx=>⟨x',by simpa using hx,.inl rfl⟩⟩
 | false=>
  have hany:ms.any (winBad by_ S0)=bl:=by
   cases hbl:bl with
   | true=>exact h.bad hb0 hbl
   | false=>
    rw [List.any_eq_false]
    intro q hq
    obtain ⟨i,hi⟩:=List.mem_iff_getElem?.1 hq
    have hil:i < es.length:=by rw [hlen];exact (List.getElem?_eq_some_iff.1 hi).1
    rw [h.fine hbl i q es[i] hi (List.getElem?_eq_getElem hil) (hall _ (List.getElem_mem hil))]
    simp
  rw [hany,Bool.false_or]
  refine ⟨h.W,(by rw [cond_false,List.length_mapIdx];exact h.len.symm),fun j x' hx=>?_⟩
  rw [cond_false,List.getElem?_mapIdx] at hx
  obtain ⟨x0,hx0,hx'⟩:=Option.map_eq_some_iff.1 hx
  cases hc:ms.any fun q=>eqI q.2 (j:Int) with
  | false=>
   rw [hc,cond_false] at hx'
   subst hx'
   refine ⟨x0,h.other hb0 j x0 hx0 fun q hq e=>?_,.inl rfl⟩
   rw [List.any_eq_false] at hc
   exact hc q hq (by unfold eqI;exact beq_iff_eq.2 e)
  | true=>
   rw [hc,cond_true] at hx'
   subst hx'
   obtain ⟨q,hq,hqj⟩:=List.any_eq_true.1 hc
   have hqj:q.2=(j:Int):=by unfold eqI at hqj;exact beq_iff_eq.1 hqj
   obtain ⟨i,hi⟩:=List.mem_iff_getElem?.1 hq
   have hil:i < es.length:=by rw [hlen];exact (List.getElem?_eq_some_iff.1 hi).1
   obtain ⟨x,y1,y2,y3,y4,y5⟩:=h.mine hb0 i j q es[i] x0 hi (List.getElem?_eq_getElem hil) hqj hx0
   cases hbl:bl with
   | true=>
    refine ⟨x,y1,.inr ?_⟩
    unfold winNew
    rw [cond_true,y2]
   | false=>exact ⟨x,y1,.inl (y5 hbl (hall _ (List.getElem_mem hil))).symm⟩
end
end Go.Proofs.YtifbhefbhlbofaaDoor
namespace Go.Proofs.YtifbhefbhlbofaaDoor
open Go.RowKit
namespace Pv
set_option linter.unusedVariables false
section
variable {E : Env} {F : Fr} {g : Gh} {st : PSt} {w : World}
end
end Pv
end Go.Proofs.YtifbhefbhlbofaaDoor
namespace Go.Proofs.YtifbhefbhlbofaaDoor
namespace Pv
set_option linter.unusedVariables false
open Go.ChangeMaps (setBlock)
section
variable {F F' : Fr} {g : Gh} {st : PSt} {tmf : Nat -> Value} {w w' : World} {O : Tok -> Bool} {Rm : Nat -> Prop}
theorem RepL.fr (hW:∀ b o,¬ Rm b->Wr F b o->Wr F' b o) (ht:∀ t b,O t=true->g.blk t=some b -> ¬ Rm b) {l:Leaf} {cs:List Value} (h:RepL F g w O l cs):RepL F' g w O l cs:=by
 cases l with
 | d t x=>exact h
 | own k E e l=>
  refine ⟨h.1,fun ho=>?_⟩
  obtain ⟨v,hv,hr⟩:=h.2 ho
  refine ⟨v,hv,?_⟩
  rcases hr with hr | ⟨b,cap,cur,h1,h2,h3,h4,h5,h6,h7,h8,h9⟩
  ·exact .inl hr
  ·exact .inr ⟨b,cap,cur,h1,h2,h3,h4,h5,h6,h7,h8,fun o ho'=>hW b o (ht k b ho h2) (h9 o ho')⟩
theorem RepLs.fr (hW:∀ b o,¬ Rm b->Wr F b o->Wr F' b o) (ht:∀ t b,O t=true->g.blk t=some b -> ¬ Rm b):∀ {ls:List Leaf} {cs:List Value},RepLs F g w O ls cs->RepLs F' g w O ls cs
 | [],_,h=>h
 | _::_,_,⟨c1,c2,h1,h2,h3⟩=>⟨c1,c2,h1,RepL.fr hW ht h2,RepLs.fr hW ht h3⟩
theorem RelV.fr (hW:∀ b o,¬ Rm b->Wr F b o->Wr F' b o) (ht:∀ t b,O t=true->g.blk t=some b -> ¬ Rm b) {u:Value} {ag:Bool} {ls:List Leaf} (h:RelV F g w O u ag ls):RelV F' g w O u ag ls:=
 let ⟨cs,h1,h2⟩:=h
 ⟨cs,RepLs.fr hW ht h1,h2⟩
theorem RelT.fr (hW:∀ b o,¬ Rm b->Wr F b o->Wr F' b o) (ht:∀ t b,O t=true->g.blk t=some b -> ¬ Rm b):∀ {us:List Value} {xs:List (Bool×List Leaf)},RelT F g w O us xs->RelT F' g w O us xs
 | [],[],_=>trivial
 | _::_,_::_,h=>⟨RelV.fr hW ht h.1,RelT.fr hW ht h.2⟩
 | [],_::_,h=>h.elim
 | _::_,[],h=>h.elim
theorem RelP.fr (hW:∀ b o,¬ Rm b->Wr F b o->Wr F' b o) (ht:∀ t b,O t=true->g.blk t=some b -> ¬ Rm b) {u:Value} {p:PV} (h:RelP F g w O tmf u p):RelP F' g w O tmf u p:=by
 cases p with
 | w ag ls=>exact RelV.fr hW ht h
 | tup xs=>
  obtain ⟨us,h1,h2⟩:=h
  exact ⟨us,h1,RelT.fr hW ht h2⟩
 | spec t want ag ls=>
  obtain ⟨b,h1,h2,h3⟩:=h
  exact ⟨b,h1,fun e=>RelV.fr hW ht (h2 e),h3⟩
 | elem ls=>
  obtain ⟨ad,cs,h1,h2,h4,h3⟩:=h
  exact ⟨ad,cs,h1,RepLs.fr hW ht h2,h4,h3⟩
 | un E l q t=>
  intro hO
  obtain ⟨b,cap,cur,h1,h2,h3,h4,h5,h6,h7,h8,h9⟩:=h hO
  exact ⟨b,cap,cur,h1,h2,h3,h4,h5,h6,h7,h8,fun o=>hW b o (ht t b hO h2) (h9 o)⟩
 | fa k j s E e l n v t=>
  refine ⟨h.1,h.2.1,fun hO hv=>?_⟩
  obtain ⟨m,h3,h4⟩:=h.2.2 hO hv
  refine ⟨m,h3,?_⟩
  rcases h4 with h4 | ⟨b,off,cap,cur,q1,q2,q3,q4,q5,q6,q7,q8⟩
  ·exact .inl h4
  ·refine .inr ⟨b,off,cap,cur,q1,q2,q3,q4,q5,q6,q7,?_⟩
   rcases q8 with q8 | ⟨q8,q9,q10,q11⟩
   ·exact .inl q8
   ·exact .inr ⟨q8,q9,q10,fun o=>hW b o (ht t b hO q8) (q11 o)⟩
 | _=>exact h
theorem LocOk.fr (hW:∀ b o,¬ Rm b->Wr F b o->Wr F' b o) (ht:∀ t b,O t=true->g.blk t=some b -> ¬ Rm b) {ls:List Leaf} {p:Nat×Nat} (hp:¬ Rm p.1) (h:LocOk F g w O ls p):LocOk F' g w O ls p:=by
 obtain ⟨cur,T,h1,h2,h3,h4,h5⟩:=h
 exact ⟨cur,T,h1,h2,RepLs.fr hW ht h3,fun o a b=>⟨(h4 o a b).1,hW _ o hp (h4 o a b).2⟩,h5⟩
theorem PoolOk.fr (hP:∀ k,F.PT k->F'.PT k) {k:Nat} {ls:List Leaf} (h:PoolOk F g w ls k):PoolOk F' g w ls k:=by
 obtain ⟨e,l,h1,h2,h3⟩:=h
 refine ⟨e,l,?_,h2,h3⟩
 rcases h1 with ⟨v,a,b,c⟩ | h1
 ·exact .inl ⟨v,a,b,hP k c⟩
 ·exact .inr h1
def roundF (F:Fr) (g:Gh) (w:World) (Rm:Nat->Prop):Fr:=⟨F.n,w,g.C,fun b o=>¬ Rm b /\ Wr F b o,g.ow,F.PT⟩
theorem MRel.round (h:MRel F g st tmf w) (hnt:∀ t b,st.O t=true->g.blk t=some b -> ¬ Rm b) (hnl:∀ k x,st.L k=some x->isPool k=false -> ¬ Rm (g.ρ k).1) (how:∀ b k j s,Rm b->g.ow b=some (k,j,s) -> ¬ F.PT k):MRel (roundF F g w Rm) g st tmf w:=by
 have hW:∀ b o,¬ Rm b->Wr F b o->Wr (roundF F g w Rm) b o:=fun b o hb hw=>.inr ⟨hb,hw⟩
 refine ⟨⟨Nat.le_refl _,rfl,rfl,rfl,fun _ _ _=>rfl,fun b cs T fr _ hb=>⟨cs,fr,hb,rfl,fun _ _=>rfl⟩,fun _ _ _ _=>Iff.rfl,fun _ _ hc=>hc,fun _ _ _ hc=>hc,h.fr.lim⟩,
  fun i=>RelP.fr hW hnt (h.slots i),fun k σ ls hL np=>LocOk.fr hW hnt (hnl k _ hL np) (h.locals k σ ls hL np),fun k σ ls hL np=>PoolOk.fr (fun _ q=>q) (h.pools k σ ls hL np),h.hist,h.kn,h.sp,h.fresh,h.locL,h.blk0,h.blkI,h.blkL,h.blkS,fun k b hk hb=>?_,h.ρI,
  ⟨h.ows.tok,h.ows.loc,h.ows.lim,fun _ _ _=>rfl,fun _ _ hb=>hb,fun _ _ _=>rfl,fun b k j s hb hp o hc=>.inr ⟨fun e=>how b k j s e hb hp,h.ows.wr b k j s hb hp o hc⟩⟩⟩
 have hne:¬ Rm b:=hnt k b hk hb
 rcases h.blkW k b hk hb with hw | ⟨o,hx⟩
 ·exact .inr ⟨0,hne,.inl hw⟩
 ·exact .inr ⟨o,hne,.inr hx⟩
theorem MRel.unround {g':Gh} {st':PSt} {tmf':Nat->Value} (hF:Frame F g.C w) (hO:Owns F g st.L st.O w) (h:MRel (roundF F g w Rm) g' st' tmf' w'):MRel F g' st' tmf' w':=by
  have hW:∀ b o,¬ (fun _=>False) b->Wr (roundF F g w Rm) b o->Wr F b o:=fun b o _ hw=>by
    rcases hw with hw | hw
    · exact .inl (Nat.le_trans hF.size hw)
    · exact hw.2
  have hnt:∀ t b,st'.O t=true->g'.blk t=some b -> ¬ (fun _=>False) b:=fun _ _ _ _ e=>e
  have hnX:∀ b,b < F.w0.heap.size->(∀ o,¬ F.X b o) -> ∀ o,¬ (roundF F g w Rm).X b o:=fun b hb hx o hc=>by
    rcases hc.2 with hc | hc
    · omega
    · exact hx o hc
  have hlt:∀ b,b < F.w0.heap.size->b < (roundF F g w Rm).w0.heap.size:=fun b hb=>Nat.lt_of_lt_of_le hb hF.size
  refine ⟨⟨Nat.le_trans hF.size h.fr.size, h.fr.os.trans hF.os, h.fr.tape.trans hF.tape, h.fr.output.trans hF.output, fun b hb hx => (h.fr.old b (hlt b hb) (hnX b hb hx)).trans (hF.old b hb hx), fun b cs T fr hb hcs => ?_,
      fun b o hb hx=>?_,fun b o hc=>h.fr.mono b o (hF.mono b o hc),fun T j b hb=>h.fr.imono T j b (hF.imono T j b hb),h.fr.lim⟩,
    fun i=>RelP.fr hW hnt (h.slots i),fun k σ ls hL np=>LocOk.fr hW hnt (fun e=>e) (h.locals k σ ls hL np),fun k σ ls hL np=>PoolOk.fr (fun _ q=>q) (h.pools k σ ls hL np),h.hist,h.kn,h.sp,h.fresh,h.locL,h.blk0,h.blkI,h.blkL,h.blkS,fun k b hk hb=>?_,h.ρI,
    ⟨h.ows.tok,h.ows.loc,h.ows.lim,fun b hb hx=>(h.ows.fr b (hlt b hb) (hnX b hb hx)).trans (hO.fr b hb hx),fun b o hb=>h.ows.mono b o (hO.mono b o hb),fun k hk j=>(h.ows.i k hk j).trans (hO.i k hk j),fun b k j s hb hp o hc=>?_⟩⟩
  · obtain ⟨cs1,fr1,h1,h2,h3⟩:=hF.shape b cs T fr hb hcs
    obtain ⟨cs2,fr2,h4,h5,h6⟩:=h.fr.shape b cs1 T fr1 (hlt b hb) h1
    refine ⟨cs2,fr2,h4,h5.trans h2,fun o ho=>(h6 o fun hc=>?_).trans (h3 o ho)⟩
    rcases hc.2 with hc | hc
    · omega
    · exact ho hc
  · refine (h.fr.com b o (hlt b hb) fun hc=>?_).trans (hF.com b o hb hx)
    rcases hc.2 with hc | hc
    · omega
    · exact hx hc
  · rcases h.blkW k b hk hb with hw | ⟨o,hx⟩
    · exact .inl (Nat.le_trans hF.size hw)
    · exact hx.2.imp id fun q=>⟨o,q⟩
  · rcases h.ows.wr b k j s hb hp o hc with hw | hw
    · exact .inl (Nat.le_trans hF.size hw)
    · exact hw.2
theorem round_kept {g':Gh} {st':PSt} {tmf':Nat->Value} {b:Nat} (hb:b < w.heap.size) (hR:Rm b) (h:MRel (roundF F g w Rm) g' st' tmf' w'):w'.heap[b]? = w.heap[b]? /\ g'.ow b=g.ow b:=
 ⟨h.fr.old b hb fun o hc=>hc.1 hR,h.ows.fr b hb fun o hc=>hc.1 hR⟩
theorem MRel.apart {r:Nat} (h:MRel F g st tmf w) (hsz:w.heap.size<=w'.heap.size) (hk:∀ b,b < w.heap.size->b≠r->w'.heap[b]? = w.heap[b]?) (hrF:F.w0.heap.size<=r) (hcell:∀ o s,w.cell? ⟨r,o,s⟩=none) (h5:w'.os=w.os) (h6:w'.tape=w.tape) (h7:w'.output=w.output)
  (hnt:∀ t,st.O t=true->g.blk t≠some r) (hnl:∀ k x,st.L k=some x->isPool k=false->(g.ρ k).1≠r) (how:g.ow r=none):MRel F g st tmf w':=by
 have hcl:∀ (a:Addr) (u:Value),w.cell? a=some u->w'.cell? a=some u:=fun a u hc=>by
  have hne:a.block≠r:=fun e=>by
   obtain ⟨b,o,s⟩:=a
   have e:b=r:=e
   subst e
   rw [hcell o s] at hc;cases hc
  have hlt:a.block < w.heap.size:=by
   rcases Nat.lt_or_ge a.block w.heap.size with hl | hl
   ·exact hl
   ·unfold World.cell? at hc
    rw [Array.getElem?_eq_none hl] at hc
    cases hc
  unfold World.cell? at hc ⊢
  rw [hk _ hlt hne];exact hc
 have G:Gw w g.C w' g.C:=⟨fun a u hc hC=>⟨hcl a u hc,hC⟩,fun _ _ _ q=>q⟩
 have kp:∀ b,b < w.heap.size->b≠r->Kp g w g w' b:=fun b hb hne=>⟨hk b hb hne,fun _=>Iff.rfl⟩
 have lv:∀ t,Lives g w st.O g w' st.O t:=fun t ho=>⟨ho,rfl,fun b hb=>kp b (h.blkS t b ho hb) fun e=>hnt t ho (by rw [hb,e])⟩
 have own:∀ b k j s,g.ow b=some (k,j,s)->Kp g w g w' b /\ g.ow b=some (k,j,s):=fun b k j s hb=>⟨kp b (h.ows.lim b _ hb) fun e=>(by rw [e,how] at hb;cases hb),hb⟩
 refine ⟨⟨Nat.le_trans h.fr.size hsz,h5.trans h.fr.os,h6.trans h.fr.tape,h7.trans h.fr.output,fun b hb hx=>(hk b (Nat.lt_of_lt_of_le hb h.fr.size) (by omega)).trans (h.fr.old b hb hx),fun b cs T fr hb hcs=>?_,h.fr.com,h.fr.mono,h.fr.imono,fun b o hc=>Nat.lt_of_lt_of_le (h.fr.lim b o hc) hsz⟩,
  fun i=>(h.slots i).gw G (fun k _=>lv k) (fun _ _=>rfl) (fun _ _ _ _ _=>rfl) (fun k _ _=>.inl ⟨rfl,fun b j s hb=>own b k j s hb⟩),
  fun k σ ls hL np=>(h.locals k σ ls hL np).gw (O':=st.O) G (fun k' E e x _=>lv k') (kp _ ?_ (hnl k _ hL np)),
  fun k σ ls hL np=>(h.pools k σ ls hL np).gw G rfl (fun _=>rfl) fun b j s hb=>own b k j s hb,h.hist,h.kn,h.sp,h.fresh,h.locL,h.blk0,h.blkI,h.blkL,fun k b hb hbl=>Nat.lt_of_lt_of_le (h.blkS k b hb hbl) hsz,h.blkW,h.ρI,
  ⟨h.ows.tok,h.ows.loc,fun b o hb=>Nat.lt_of_lt_of_le (h.ows.lim b o hb) hsz,h.ows.fr,h.ows.mono,h.ows.i,h.ows.wr⟩⟩
 ·obtain ⟨cs1,fr1,h1,h2,h3⟩:=h.fr.shape b cs T fr hb hcs
  exact ⟨cs1,fr1,(hk b (Nat.lt_of_lt_of_le hb h.fr.size) (by omega)).trans h1,h2,h3⟩
 ·obtain ⟨cur,T,hc,_⟩:=h.locals k σ ls hL np
  rcases Nat.lt_or_ge (g.ρ k).1 w.heap.size with hl | hl
  ·exact hl
  ·rw [Array.getElem?_eq_none hl] at hc;cases hc
theorem MRel.to_pools {st':PSt} {tmf':Nat->Value} (ρ':Nat->Nat×Nat) (h:MRel F g st tmf w) (hL:∀ k σ ls,st'.L k=some (σ,ls)->σ=0 /\ isPool k=true /\ PoolOk F g w ls k) (hO:∀ t,st'.O t=true->t=.zero) (hkn:st'.kn=[]) (hsp:st'.sp=[]) (hfr:st'.fr=[])
  (hs:∀ i,RelP F { g with ρ:=ρ' } w st'.O tmf' (tmf' i) (st'.φ i)) (hns:∀ i t want ag ls,st'.φ i≠.spec t want ag ls) (hk:∀ i,keyP (st'.φ i)=[]):MRel F { g with ρ:=ρ' } st' tmf' w:=by
 have z:∀ t b,st'.O t=true->g.blk t=some b->False:=fun t b ht hb=>by
  rw [hO t ht,h.blk0] at hb;cases hb
 refine ⟨h.fr,hs,fun k σ ls hL' np=>?_,fun k σ ls hL' _=>(hL k σ ls hL').2.2,fun k σ ls hL' hσ=>(hσ (hL k σ ls hL').1).elim,fun t b hb=>?_,fun i t want ag ls e=>absurd e (hns i t want ag ls),fun d hd=>?_,fun i k hm=>?_,h.blk0,fun k k' b hk1 _ hb _=>(z k b hk1 hb).elim,fun k b j x hk1 hb _ _=>(z k b hk1 hb).elim,fun k b hk1 hb=>(z k b hk1 hb).elim,fun k b hk1 hb=>(z k b hk1 hb).elim,fun j j' x x' hj _ np _ _=>?_,
  ⟨fun t b ht hb=>(z t b ht hb).elim,fun k x hL' np=>?_,h.ows.lim,h.ows.fr,h.ows.mono,h.ows.i,h.ows.wr⟩⟩
 ·rw [(hL k σ ls hL').2.1] at np;cases np
 ·rw [hkn] at hb;cases hb
 ·rw [hfr] at hd;cases hd
 ·rw [hk i] at hm;cases hm
 ·rw [(hL j x.1 x.2 hj).2.1] at np;cases np
 ·rw [(hL k x.1 x.2 hL').2.1] at np;cases np
theorem MRel.to_pools_ver {st':PSt} {tmf':Nat->Value} (ρ':Nat->Nat×Nat) (ver':Nat->Nat) (h:MRel F g st tmf w) (hL:∀ k σ ls,st'.L k=some (σ,ls)->σ=0 /\ isPool k=true /\ PoolOk F { g with ver:=ver' } w ls k) (hO:∀ t,st'.O t=true->t=.zero) (hkn:st'.kn=[]) (hsp:st'.sp=[]) (hfr:st'.fr=[])
  (hs:∀ i,RelP F { g with ρ:=ρ',ver:=ver' } w st'.O tmf' (tmf' i) (st'.φ i)) (hns:∀ i t want ag ls,st'.φ i≠.spec t want ag ls) (hk:∀ i,keyP (st'.φ i)=[]):MRel F { g with ρ:=ρ',ver:=ver' } st' tmf' w:=by
 have z:∀ t b,st'.O t=true->g.blk t=some b->False:=fun t b ht hb=>by
  rw [hO t ht,h.blk0] at hb;cases hb
 refine ⟨h.fr,hs,fun k σ ls hL' np=>?_,fun k σ ls hL' _=>(hL k σ ls hL').2.2,fun k σ ls hL' hσ=>(hσ (hL k σ ls hL').1).elim,fun t b hb=>?_,fun i t want ag ls e=>absurd e (hns i t want ag ls),fun d hd=>?_,fun i k hm=>?_,h.blk0,fun k k' b hk1 _ hb _=>(z k b hk1 hb).elim,fun k b j x hk1 hb _ _=>(z k b hk1 hb).elim,fun k b hk1 hb=>(z k b hk1 hb).elim,fun k b hk1 hb=>(z k b hk1 hb).elim,fun j j' x x' hj _ np _ _=>?_,
  ⟨fun t b ht hb=>(z t b ht hb).elim,fun k x hL' np=>?_,h.ows.lim,h.ows.fr,h.ows.mono,h.ows.i,h.ows.wr⟩⟩
 ·rw [(hL k σ ls hL').2.1] at np;cases np
 ·rw [hkn] at hb;cases hb
 ·rw [hfr] at hd;cases hd
 ·rw [hk i] at hm;cases hm
 ·rw [(hL j x.1 x.2 hj).2.1] at np;cases np
 ·rw [(hL k x.1 x.2 hL').2.1] at np;cases np
end
section
variable {E : Env} {F : Fr} {R : Type} {r : R} {ops : Array Oper}
theorem pvOps_pre (hE:E.okF F) {M:Nat->Prop} {Q:Exit->Act->World->Prop} (rest:List Oper):∀ (l:List Oper) (tr:List Rec) (g:Gh) (st:PSt) (a:Act) (w:World) (C:List Rec->PSt->Option R),(∀ o∈l,∀ x,o.dst=some x->x < F.n /\ M x)->AR F g st a w->pvOps E ops l tr st C=some r ->
  (∀ a' w' g' tr' st',C tr' st'=some r->AR F g' st' a' w'->Lft M (fun _=>False) g a w g' a' w'->wpList E.P ops Q rest a' w')->wpList E.P ops Q (l++rest) a w
 | [],tr,g,st,a,w,C,_,h,hv,hQ=>hQ a w g tr st hv h (Lft.refl _ _)
 | o::l,tr,g,st,a,w,C,hd,h,hv,hQ=>by
  refine wpList_step fun K hK=>?_
  unfold pvOps at hv
  refine pvStep_sound (Q:=Q) hE h (fun x hx=>(hd o (by simp) x hx).1) hv fun a' w' g' rc st' hC h' hl=>hK _ _ ?_
  refine pvOps_pre hE rest l _ g' st' a' w' C (fun o ho=>hd o (by simp [ho])) h' hC fun a2 w2 g2 tr2 st2 hC2 h2 hl2=>hQ a2 w2 g2 tr2 st2 hC2 h2 ?_
  exact (hl.mono (fun i hi=>(hd o (by simp) i hi).2) (fun _ hi=>hi)).trans hl2
theorem wpl_val {P:Program} {ops:Array Oper} {rest:List Oper} {o:Oper} {a:Act} {w w':World} {v:Value} {Q:Exit->Act->World->Prop} (hg:o.guard=none) (hr:(execOp a.eval o).run P w=.ok (.value v) w') (h:wpList P ops Q rest (a.put o.dst v) w'):wpList P ops Q (o::rest) a w:=by
 refine wpList_plain hg fun K hK=>?_
 unfold Oper.wp
 rw [hr,Oper.upon_value]
 exact hK _ _ h
theorem tm_at {a:Act} {d i:Nat} {u:Value} (hd:d < a.tmps.size):tm (a.put (some d) u) i=if d=i then u else tm a i:=by
 rw [tm_put a (some d) u i (fun x e=>by cases e;exact hd)]
 simp
end
section
variable {E : Env} {F : Fr} {g : Gh} {st : PSt} {w : World}
theorem erase_handTail (r:Nat) (h:PSt->Option (Bool×PSt)):∀ ac:AC,(ac.handTail r h).erase=ac.erase:=by
 intro ac
 induction ac with
 | seq a b iha ihb=>
  unfold AC.handTail
  split
  ·split
   ·rfl
   ·exact congrArg (Code.seq _) ihb
  ·exact congrArg (Code.seq _) ihb
 | _=>rfl
theorem fnT_calls {T:Tab} (hE:E.ok T) {r:Nat} {h:PSt->Option (Bool×PSt)} {A:List (Nat×Ann)} {f:FuncId} {fn:Func} {s:Sig} (hf:E.P.funcs[f]? = some fn) (hh:∀ c ac k,fn.body=some c->annot A c 0=some (ac,k) -> ∀ p∈(ac.handTail r h).hands,HandS E.P F p.1 p.2)
    {xs:List Dat} {y:s.out.D} {tmf:Nat->Value} {args:Array Value} (hT:TabF T F) (hent:entrySt s xs=some st) (happ:appF s.ins (pvFnT r h E A fn s) xs=some y) (hrel:MRel F g st tmf w) (hw:F.w0=w) (hPT:∀ k,F.PT k ↔ ∃ e,(k,e,true)∈s.pls) (hn:F.n=fn.ntmps)
    (hsz:args.size=s.ps.length) (htm:∀ i,tmf i=args.getD i undef):Calls E.P f args w fun e w'=>∃ us g' st',e=.returned (retV us) /\ us.length=s.rs.length /\ exitSt s y=some st' /\ MRel F g' st' (fun i=>us.getD i undef) w' /\ ∀ k,isM s.ps k=true->g'.ρ k=g.ρ k:=by
  have hv:=appF_curry _ _ _ _ happ
  unfold pvFnTL at hv
  rw [hent] at hv
  split at hv
  case h_2=>cases hv
  rename_i c st0 hb he
  injection he with he
  subst he
  split at hv
  case h_2=>cases hv
  rename_i ac0 k hac
  obtain ⟨ac,hace⟩:∃ ac,ac=AC.handTail r h ac0:=⟨_,rfl⟩
  rw [<-hace] at hv
  simp only at hv
  split at hv
  case h_2=>cases hv
  rename_i hgd
  simp only [Bool.and_eq_true] at hgd
  obtain ⟨⟨⟨⟨⟨⟨hg1,hg2⟩,hg3⟩,hg6⟩,hg7⟩,hg4⟩,hg5⟩:=hgd
  have hFn:=hn
  have hn6:F.n<=1000000:=by rw [hFn];exact Nat.le_of_ble_eq_true hg7
  have hmp:∀ k,isM s.ps k=true->isPool k=false:=fun k hk=>by
    obtain ⟨ts,hts⟩:=isM_iff.1 hk
    have:=(List.getElem?_eq_some_iff.1 hts).1
    have h3:=Nat.le_of_ble_eq_true hg3
    show Nat.ble 1000000 k=false
    rw [<-Bool.not_eq_true,Nat.ble_eq]
    omega
  have hle:args.size<=fn.ntmps:=by rw [hsz];rw [Nat.ble_eq] at hg3;exact hg3
  have hdst:∀ d∈ac.dsts,d < F.n:=fun d hd=>by
    have:=List.all_eq_true.1 hg2 d hd
    rw [Nat.blt_eq] at this
    omega
  have htm':tm { tmps:=args++Array.replicate (fn.ntmps - args.size) undef,defers:=[] }=tmf:=by
    funext i
    rw [htm i]
    unfold tm
    simp only [Array.getD_eq_getD_getElem?,Array.getElem?_append]
    by_cases hlt:i < args.size
    · simp [hlt]
    · rw [if_neg hlt,Array.getElem?_eq_none (show args.size<=i by omega)]
      simp only [Array.getElem?_replicate,Option.getD_none]
      split <;> rfl
  have hAR:AR F g st { tmps:=args++Array.replicate (fn.ntmps - args.size) undef,defers:=[] } w:=⟨by simp;omega,rfl,by rw [htm'];exact hrel⟩
  have he:ac.erase=c:=by rw [hace,erase_handTail];exact annot_erase c 0 ac0 k hac
  refine calls_of_wp hf hb ?_
  have hs:=pv_sound hn6 ⟨T,hE,hT⟩ ac (by rw [hace];exact hh c ac0 k hb hac) _ st y g _ w hg1 hdst hAR hv
  rw [he] at hs
  have fin : ∀ {x a' w' g' st'}, retF E.P fn.results.toList s st' = some y -> AR F g' st' a' w' -> LftX x (· ∈ ac.dsts) (· ∈ ac.ids) g { tmps := args ++ Array.replicate (fn.ntmps - args.size) undef, defers := [] } w g' a' w' ->
      a'.defers=[] /\ ∃ v,(results fn a'.tmps).run E.P w'=.ok v w' /\ ∃ us g' st',Ending.returned v=.returned (retV us) /\ us.length=s.rs.length /\ exitSt s y=some st' /\ MRel F g' st' (fun i=>us.getD i undef) w' /\ ∀ k,isM s.ps k=true->g'.ρ k=g.ρ k:=fun {x a' w' g' st'} hr hA hl=>by
    obtain ⟨us,g2,stX,r1,r2,r3,r4,r5,r6⟩:=exit_relF hg6 hmp hA hr
    refine ⟨hA.defers,retV us,results_run r2 r3,us,g2,stX,rfl,r1,r4,r5,fun k hk=>?_⟩
    rw [r6]
    refine hl.ρ k fun hm=>?_
    have hlt:k < s.ps.length:=by
      obtain ⟨ts,hts⟩:=isM_iff.1 hk
      exact (List.getElem?_eq_some_iff.1 hts).1
    have:=List.all_eq_true.1 hg5 k (List.mem_range.2 hlt)
    rw [hk,hasN_iff.2 hm] at this
    cases this
  refine Code.wp_mono (fun e a' w' hp=>?_) hs
  obtain ⟨x,st',g',rfl,hQ,hr,hl⟩:=hp
  cases x with
  | exit i=>cases hQ
  | normal=>exact fin hQ hr hl
  | ret=>exact fin hQ hr hl
  | goto i=>cases hQ
theorem fn_soundT {T:Tab} (hE:E.ok T) {r:Nat} {h:PSt->Option (Bool×PSt)} {A:List (Nat×Ann)} {f:FuncId} {fn:Func} {s:Sig} (hf:E.P.funcs[f]? = some fn)
  (hh:∀ F:Fr,F.n=fn.ntmps->(∀ k,F.PT k ↔ ∃ e,(k,e,true)∈s.pls) -> ∀ c ac k,fn.body=some c->annot A c 0=some (ac,k) -> ∀ p∈(ac.handTail r h).hands,HandS E.P F p.1 p.2):SoundFn E.P T f s ⟨pvFnT r h E A fn s⟩:=by
 intro F g st xs y tmf w args hT hent happ hrel hw hPT hn hsz htm
 exact fnT_calls hE hf (hh F (hn fn hf) hPT) hT hent happ hrel hw hPT (hn fn hf) hsz htm
end
end Pv
end Go.Proofs.YtifbhefbhlbofaaDoor
namespace Go.Proofs.YtifbhefbhlbofaaDoor
open Pv Go.ChangeMaps
set_option linter.unusedVariables false
noncomputable def apEnv:Env:=⟨Tryd.prog,[(47,⟨F_flow_Windows_sig,⟨F_flow_Windows⟩⟩),(51,⟨F_flow_Shift_sig,⟨F_flow_Shift⟩⟩),(49,⟨F_flow_Stream_sig,⟨F_flow_Stream⟩⟩)],[]⟩
theorem apEnv_ok (F:Fr):apEnv.okF F:=⟨[],by unfold Env.ok;exact List.forall_mem_cons.2 ⟨F_flow_Windows_sound,List.forall_mem_cons.2 ⟨F_flow_Shift_sound,List.forall_mem_cons.2 ⟨F_flow_Stream_sound,fun p h=>by cases h⟩⟩⟩,fun p h=>by cases h⟩
abbrev apAnn:List (Nat×Ann):=[(10,⟨910,[],[],[],[],[],[]⟩)]
def apL2 (v v' v'':Nat) (b:Bool) (W:List ApW) (S:List ApS) (M:List ApM):Nat->Option (Nat×List Leaf):=findL [(kW,[.d (.arr v apWt) W]),(kS,[.d (.arr v' apSt) S]),(kM,[poolLeaf b v'' apMt M])]
def apSt2 (q:PV) (v v' v'':Nat) (b:Bool) (p by_:Int) (W:List ApW) (S:List ApS) (M:List ApM):PSt:=
 ⟨fun i=>match i with | 0=>.w false [.d (.ptr 59) p] | 5=>pint .i64 by_ | 7=>q | _=>.dead,apL2 v v' v'' b W S M,fun t=>tokEq t .zero,[],[],[]⟩
noncomputable def apObs2 (s:PSt):Option (Int×Int×List ApW×List ApS×List ApM):=match s.φ 0,s.φ 5 with
 | .w false [.d (.ptr T) p],.w false [.d (.int .i64) b]=>match Nat.beq T 59,apObs s.L with
  | true,some (W,S,M)=>some (p,b,W,S,M)
  | _,_=>none
 | _,_=>none
section
variable {F : Fr} {g : Gh} {st : PSt} {w : World} {tmf tmf' : Nat -> Value}
theorem pool_cast (h:MRel F g st tmf w) {k v:Nat} {b:Bool} {e e':Ty} {l:List e.D} {l':List e'.D} (hp:poolL st.L k=some (b,v,⟨e,l⟩)) (hk:isPool k=true) (hc:castD (t:=.sl e) (.sl e') l=some l'):PoolOk F g w [poolLeaf b v e' l'] k:=by
 obtain ⟨he,hx⟩:=castD_some hc
 injection he with he
 subst he
 subst hx
 obtain ⟨σ,hp⟩:=poolL_some hp
 rcases hp with ⟨rfl,hL⟩ | ⟨rfl,_,hL⟩
 ·exact h.pools k σ _ hL hk
 ·exact h.pools k σ _ hL hk
theorem obs_pools (h:MRel F g st tmf w) {W:List ApW} {S:List ApS} {M:List ApM} (ho:apObs st.L=some (W,S,M)):∃ (v v' v'':Nat) (b:Bool),PoolOk F g w [.d (.arr v apWt) W] kW /\ PoolOk F g w [.d (.arr v' apSt) S] kS /\ PoolOk F g w [poolLeaf b v'' apMt M] kM:=by
 unfold apObs at ho
 split at ho
 ·rename_i v e l v' e' l' b v'' e'' l'' h1 h2 h3
  split at ho
  ·rename_i W' S' M' c1 c2 c3
   injection ho with ho
   injection ho with q1 ho
   injection ho with q2 q3
   subst q1;subst q2;subst q3
   exact ⟨v,v',v'',b,pool_cast h h1 (isPool_pk _) c1,pool_cast h h2 (isPool_pk _) c2,pool_cast h h3 (isPool_mk _) c3⟩
  ·cases ho
 ·cases ho
theorem obs2_some {p by_:Int} {W:List ApW} {S:List ApS} {M:List ApM} (h:apObs2 st=some (p,by_,W,S,M)):st.φ 0=.w false [.d (.ptr 59) p] /\ st.φ 5=.w false [.d (.int .i64) by_] /\ apObs st.L=some (W,S,M):=by
 unfold apObs2 at h
 split at h
 ·rename_i T p' b' h0 h5
  split at h
  ·rename_i W' S' M' hT ho
   injection h with h
   injection h with q1 h
   injection h with q2 h
   injection h with q3 h
   injection h with q4 q5
   subst q1;subst q2;subst q3;subst q4;subst q5
   rw [Nat.eq_of_beq_eq_true hT] at h0
   exact ⟨h0,h5,ho⟩
  ·cases h
 ·cases h
theorem leaf_any {t:Ty} {x:t.D} {u:Value} {O O':Tok->Bool} {ρ':Nat->Nat×Nat} (h:RelP F g w O tmf u (.w false [.d t x])):RelP F { g with ρ:=ρ' } w O' tmf' u (.w false [.d t x]):=by
 obtain ⟨cs,h1,h2⟩:=h
 exact ⟨cs,repLs_single.2 (repLs_single.1 h1),h2⟩
theorem ap_canon (h:MRel F g st tmf w) {v v' v'':Nat} {b:Bool} {p by_:Int} {W:List ApW} {S:List ApS} {M:List ApM} (h1:PoolOk F g w [.d (.arr v apWt) W] kW) (h2:PoolOk F g w [.d (.arr v' apSt) S] kS) (h3:PoolOk F g w [poolLeaf b v'' apMt M] kM) (ρ':Nat->Nat×Nat) {q:PV}
  (r0:RelP F g w (fun _=>false) tmf' (tmf' 0) (.w false [.d (.ptr 59) p])) (r5:RelP F g w (fun _=>false) tmf' (tmf' 5) (.w false [.d (.int .i64) by_])) (hq:q=.dead \/ ∃ s,q=.w false [.d (.ptr 71) s] /\ RelP F g w (fun _=>false) tmf' (tmf' 7) (.w false [.d (.ptr 71) s])) :
  MRel F { g with ρ:=ρ' } (apSt2 q v v' v'' b p by_ W S M) tmf' w:=by
 have hφ:∀ i,(apSt2 q v v' v'' b p by_ W S M).φ i=.dead \/ (i=0 /\ (apSt2 q v v' v'' b p by_ W S M).φ i=.w false [.d (.ptr 59) p]) \/ (i=5 /\ (apSt2 q v v' v'' b p by_ W S M).φ i=.w false [.d (.int .i64) by_]) \/ (i=7 /\ (apSt2 q v v' v'' b p by_ W S M).φ i=q):=fun i=>by
  unfold apSt2
  dsimp only
  split
  ·exact .inr (.inl ⟨rfl,rfl⟩)
  ·exact .inr (.inr (.inl ⟨rfl,rfl⟩))
  ·exact .inr (.inr (.inr ⟨rfl,rfl⟩))
  ·exact .inl rfl
 refine MRel.to_pools ρ' h (fun k σ ls hL=>?_) (fun t ht=>?_) rfl rfl rfl (fun i=>?_) (fun i t want ag ls e=>?_) (fun i=>?_)
 ·have hL:findL [(kW,[.d (.arr v apWt) W]),(kS,[.d (.arr v' apSt) S]),(kM,[poolLeaf b v'' apMt M])] k=some (σ,ls):=hL
  unfold findL at hL
  split at hL
  ·rename_i hk
   have hk:=Nat.eq_of_beq_eq_true hk
   subst hk
   cases hL
   exact ⟨rfl,isPool_pk _,h1⟩
  ·unfold findL at hL
   split at hL
   ·rename_i hk
    have hk:=Nat.eq_of_beq_eq_true hk
    subst hk
    cases hL
    exact ⟨rfl,isPool_pk _,h2⟩
   ·unfold findL at hL
    split at hL
    ·rename_i hk
     have hk:=Nat.eq_of_beq_eq_true hk
     subst hk
     cases hL
     exact ⟨rfl,isPool_mk _,h3⟩
    ·cases hL
 ·have ht:tokEq t .zero=true:=ht
  cases t <;> first | rfl | cases ht
 ·rcases hφ i with e | ⟨e0,e⟩ | ⟨e0,e⟩ | ⟨e0,e⟩
  ·rw [e];trivial
  ·rw [e,e0];exact leaf_any r0
  ·rw [e,e0];exact leaf_any r5
  ·rw [e,e0]
   rcases hq with rfl | ⟨s,rfl,r7⟩
   ·trivial
   ·exact leaf_any r7
 ·rcases hφ i with e1 | ⟨_,e1⟩ | ⟨_,e1⟩ | ⟨_,e1⟩
  ·rw [e1] at e;cases e
  ·rw [e1] at e;cases e
  ·rw [e1] at e;cases e
  ·rw [e1] at e
   rcases hq with rfl | ⟨s,rfl,_⟩ <;> cases e
 ·rcases hφ i with e1 | ⟨_,e1⟩ | ⟨_,e1⟩ | ⟨_,e1⟩
  ·rw [e1];rfl
  ·rw [e1];rfl
  ·rw [e1];rfl
  ·rw [e1]
   rcases hq with rfl | ⟨s,rfl,_⟩ <;> rfl
theorem ap_weak {v:Nat} {S S':List ApS} (h:PoolOk F g w [.d (.arr v apSt) S] kS) (hl:S'.length=S.length) (hx:∀ (j:Nat) x',S'[j]? = some x' -> ∃ x,S[j]? = some x /\ (x'=x \/ x'=(none,x.2))):PoolOk F g w [.d (.arr v apSt) S'] kS:=by
 obtain ⟨e,l,h1,h2,h3⟩:=h
 rcases h1 with ⟨v1,h1,h4,h5⟩ | h1
 ·cases h1
  refine ⟨apSt,S',.inl ⟨v,rfl,h4,h5⟩,fun j b hb=>?_,fun j x' hj=>?_⟩
  ·have:=h2 j b hb
   have hl:List.length (α:=Ty.D apSt) S'=List.length (α:=Ty.D apSt) S:=hl
   omega
  ·obtain ⟨x,y1,y2⟩:=hx j x' hj
   have h6:=h3 j x y1
   rcases y2 with rfl | rfl
   ·exact h6
   ·unfold ItemOk at h6 ⊢
    rw [isMapK_pk] at h6 ⊢
    obtain ⟨b,cur,T,fr,z1,z2,z3,z4,z5,z6,z7⟩:=h6
    refine ⟨b,cur,T,fr,z1,z2,z3,?_,z5,z6,z7⟩
    obtain ⟨c1,c2,k1,⟨n,k2,k3,k4⟩,k5⟩:=z4
    exact ⟨c1,c2,k1,⟨n,k2,k3,fun m hm=>by cases hm⟩,k5⟩
 ·cases h1
end
noncomputable def apHands:List (Code×(PSt->Option (Bool×PSt))):=match Tryd.f34.body with
 | some c=>(match annot apAnn c 0 with
  | some (ac,_)=>(ac.handTail 7 apTail).hands
  | none=>[])
 | none=>[]
noncomputable def apBody (p s by_:Int) (W:List ApW) (S:List ApS) (M:List ApM):Option (Int×Int×List ApW×List ApS×List ApM):=
 chk (nnI p) ((getI W p).bind fun w=>cond (!w.2.2.2.2.1)
  (chk (nnI s) ((getI S s).bind fun x=>(x.1).bind fun n=>(F_flow_Windows n 0).bind fun z=>(F_flow_Shift z by_).bind fun y=>(F_flow_Stream y.1).bind fun k=>
   chk (nnI s) ((getI S s).bind fun x'=>chk (nnI p) ((getI W p).bind fun w'=>some (p,by_,W.set p.toNat (w'.1,(w'.2.1,(w'.2.2.1,(w'.2.2.2.1,(y.2.1,w'.2.2.2.2.2))))),S.set s.toNat (some k,x'.2),M)))))
  (some (p,by_,W,S,M)))
noncomputable def roundQ (x:Xt) (s:PSt):Option (Int×Int×List ApW×List ApS×List ApM):=match x with
 | .normal=>apObs2 s
 | _=>none
def sndC:Code->Code
 | .seq _ b=>b
 | c=>c
def fstC:Code->Code
 | .seq a _=>a
 | c=>c
def inC:Code->Code
 | .block _ b=>b
 | .loop b=>b
 | c=>c
noncomputable def apRoundC:Code:=match Tryd.f34.body with
 | some c=>sndC (inC (sndC (sndC (inC (inC (sndC (fstC (sndC (sndC (sndC (sndC (sndC (sndC c)))))))))))))
 | none=>.skip
noncomputable def apRound:Option AC:=match annot [] apRoundC 0 with | some (ac,_)=>some ac | none=>none
theorem apRound_text (v v' v'':Nat) (b:Bool):(fun (p s by_:Int) (W:List ApW) (S:List ApS) (M:List ApM)=>match apRound with | some ac=>pv apEnv ac roundQ (apSt2 (.w false [.d (.ptr 71) s]) v v' v'' b p by_ W S M) | none=>none)=apBody:=by
 cases b <;> kernel_rfl
noncomputable def apTailC:Code:=match Tryd.f34.body with
 | some c=>sndC (sndC (sndC (sndC (sndC (sndC c)))))
 | none=>.skip
def opsC:Code->Array Oper
 | .region _ o _=>o
 | _=>#[]
noncomputable def ops7:Array Oper:=opsC (fstC (fstC apTailC))
noncomputable def loopB:Code:=inC (inC (sndC (fstC apTailC)))
noncomputable def ops8:Array Oper:=opsC (fstC loopB)
noncomputable def ops9:Array Oper:=opsC (fstC (inC (sndC (sndC loopB))))
noncomputable def ops13:Array Oper:=opsC (fstC (sndC apTailC))
theorem ap_shape:apTailC=.seq (.seq (.region 7 ops7 false) (.block 0 (.loop (.seq (.region 8 ops8 false) (.seq (.cond (.tmp 61) .skip (.exit 0)) (.block 1 (.seq (.region 9 ops9 false) apRoundC))))))) (.seq (.region 13 ops13 false) .ret):=by kernel_rfl
theorem ap_hands:apHands=[(apTailC,apTail)]:=by kernel_rfl
theorem ap_good:(match apRound with | some ac=>ac.good&&ac.dsts.all (fun d=>Nat.blt d 89&&Nat.blt 7 d&&notB (Nat.beq d 59))&&(match ac.hands with | []=>true | _=>false) | none=>false)=true:=by kernel_rfl
noncomputable def headC (s:PSt):Option (Int×Int×Int×List ApW×List ApS×List ApM):=match s.φ 58 with
 | .w false [.d (.mp T) m]=>(match Nat.beq T 51,apObs2 s with | true,some x=>some (m,x) | _,_=>none)
 | _=>none
theorem head_text (v v' v'':Nat) (b:Bool):(fun (p by_:Int) (W:List ApW) (S:List ApS) (M:List ApM)=>pvOps apEnv ops7 (ops7.toList.take 4) [] (apSt2 .dead v v' v'' b p by_ W S M) (fun _ s=>headC s))=fun p by_ W S M=>chk (nnI p) ((getI W p).bind fun w=>some (w.2.2.2.2.2.2.2.1,(p,by_,W,S,M))):=by
 cases b <;> kernel_rfl
theorem ops7_dst:ops7.toList.map (·.dst)=[some 55,some 56,some 57,some 58,some 59]:=by kernel_rfl
theorem ops7_last:(ops7.toList.drop 4).map (fun o=>(o.dst,o.op,o.guard))=[(some 59,.range 51 (.tmp 58),none)]:=by kernel_rfl
theorem ops8_is:ops8.toList.map (fun o=>(o.dst,o.op,o.guard))=[(some 60,.next (.tmp 59) false,none),(some 61,.extract (.tmp 60) 0,none)]:=by kernel_rfl
theorem ops8_ty:ops8.toList.map (fun o=>o.type)=[0,4]:=by kernel_rfl
theorem ops9_is:ops9.toList.map (fun o=>(o.dst,o.op,o.guard))=[(some 62,.entry (.tmp 59),none),(some 63,.extract (.tmp 62) 1,none),(some 7,.assign (.tmp 63),none)]:=by kernel_rfl
theorem ops13_is:ops13.toList.map (fun o=>(o.dst,o.op,o.guard))=[(some 2,.assign (.const (.bool true)),none)]:=by kernel_rfl
end Go.Proofs.YtifbhefbhlbofaaDoor
