/- Texts of this claim, one behind the other. -/
import Derived.Test.YtifbhefbhlbofaaGreatDoorConnBlocksM4
import Derived.Shelf.Spec.SlicesInsert
import Derived.LoopTactic
import Derived.Handy
import Derived.RegionTactic
import Derived.Lib.Builder
import Derived.Laws.ResultCell
import Derived.Laws.IdiomCopy
import Derived.Laws.CopyOwn
import Derived.Laws.Tables
import Derived.Lib.SliceRun
import Derived.Shelf.SlIterI.Nil
import Derived.Shelf.SlIterI.Sorted
import Derived.Shelf.SortM.Plain
import Derived.Shelf.SortM.SortNone
set_option maxRecDepth 100000
namespace Go.Proofs.YtifbhefbhlbofaaGreatDoor
open Pv
set_option linter.unusedVariables false
noncomputable def F_stat_Size (s1:List Int) (s2:List Int) (b3:Bool):Option (Int):=
 some (IntKind.i64.wrap ((IntKind.i64.wrap ((s1.length:Int)+(s2.length:Int)))+32))
def F_stat_Size_sig:Sig:=⟨[.v true [.d .str,.d .str,.d .bool]],[(false,[.d (.int .i64)])],[]⟩
def F_stat_Size_ann:List (Nat×Ann):=[]
noncomputable def F_stat_Size_env:Env:=⟨Tryz.prog,[],[]⟩
theorem F_stat_Size_text:pvFn F_stat_Size_env F_stat_Size_ann Tryz.f158 F_stat_Size_sig=F_stat_Size:=by kernel_rfl
noncomputable def F_dyn_Table_shrinks_L2 (p1:Int) (i2:Int) (s:Int×List (Zt2×Int×Int)):Option (((List (Zt2×Int×Int))⊕(Int×List (Zt2×Int×Int)))⊕(Int×List (Zt2×Int×Int))):=
 let i4:=s.1;let l5:=s.2
 chk (nnI p1)
 ((getI l5 p1).bind fun x6=>
 cond (decide (i4 < (x6.1.length:Int)))
 (chk (nnI p1)
 ((getI l5 p1).bind fun x7=>
 cond (decide (x7.2.1 > i2))
 (chk (nnI p1)
 ((getI l5 p1).bind fun x8=>
 chk (nnI p1)
 ((getI l5 p1).bind fun x9=>
 (getI x9.1 i4).bind fun x10=>
 (F_stat_Size x10.1 x10.2.1 x10.2.2).bind fun i11=>
 chk (nnI p1)
 ((getI l5 p1).bind fun x12=>
 some (.inr ((IntKind.i64.wrap (i4+1)),(l5.set (Int.toNat p1) (x12.1,((IntKind.i64.wrap (x8.2.1 - i11)),x12.2.2)))))))))
 (some (.inl (.inr (i4,l5))))))
 (some (.inl (.inr (i4,l5)))))
noncomputable def F_dyn_Table_shrinks_J1 (p1:Int) (s:Int×List (Zt2×Int×Int)):Option (List (Zt2×Int×Int)):=
 let i13:=s.1;let l14:=s.2
 chk (nnI p1)
 ((getI l14 p1).bind fun x15=>
 (cutI x15.1 i13 (x15.1.length:Int)).bind fun l16=>
 chk (nnI p1)
 ((getI l14 p1).bind fun x17=>
 chk (eqI p1 p1)
 (some (l14.set (Int.toNat p1) (l16,x17.2)))))
noncomputable def F_dyn_Table_shrinks (p1:Int) (i2:Int) (l3:List (Zt2×Int×Int)):Option (List (Zt2×Int×Int)):=
 joinC (S:=Int×List (Zt2×Int×Int)) (R:=List (Zt2×Int×Int))
 (loopC (S:=Int×List (Zt2×Int×Int)) (R:=(List (Zt2×Int×Int))⊕(Int×List (Zt2×Int×Int))) (F_dyn_Table_shrinks_L2 p1 i2) (0,l3))
 (F_dyn_Table_shrinks_J1 p1)
def F_dyn_Table_shrinks_sig:Sig:=⟨[.v false [.d (.ptr 109)],.v false [.d (.int .i64)]],[],[(1000218,Zp11,true)]⟩
def F_dyn_Table_shrinks_ann:List (Nat×Ann):=[(1,⟨2,[(4,false,[.d (.int .i64)])],[],(List.range' 5 32),[],[(1000218,Zp11,true)],[]⟩),(2,⟨3,[(4,false,[.d (.int .i64)])],[],(List.range' 5 32),[],[(1000218,Zp11,true)],[]⟩)]
noncomputable def F_dyn_Table_shrinks_env:Env:=⟨Tryz.prog,[(158,⟨F_stat_Size_sig,⟨F_stat_Size⟩⟩)],[41]⟩
theorem F_dyn_Table_shrinks_text:pvFn F_dyn_Table_shrinks_env F_dyn_Table_shrinks_ann Tryz.f152 F_dyn_Table_shrinks_sig=F_dyn_Table_shrinks:=by kernel_rfl
noncomputable def F_dyn_Table_Limit (p1:Int) (i2:Int) (l3:List (Zt2×Int×Int)):Option (Int×List (Zt2×Int×Int)):=
 cond ((decide (i2 < 0))||(decide (i2 > 4096)))
 (some (1,l3))
 (chk (nnI p1)
 ((getI l3 p1).bind fun x4=>
 (F_dyn_Table_shrinks p1 i2 (l3.set (Int.toNat p1) (x4.1,(x4.2.1,i2)))).bind fun l5=>
 chk (nnI p1)
 ((getI l5 p1).bind fun x6=>
 (F_slices_Clone_stat_Field_stat_Field x6.1).bind fun l7=>
 chk (nnI p1)
 ((getI l5 p1).bind fun x8=>
 chk (true)
 (some (0,(l5.set (Int.toNat p1) (l7,x8.2))))))))
def F_dyn_Table_Limit_sig:Sig:=⟨[.v false [.d (.ptr 109)],.v false [.d (.int .i64)]],[(false,[.d (.int .i64)])],[(1000218,Zp11,true)]⟩
def F_dyn_Table_Limit_ann:List (Nat×Ann):=[]
noncomputable def F_dyn_Table_Limit_env:Env:=⟨Tryz.prog,[(152,⟨F_dyn_Table_shrinks_sig,⟨F_dyn_Table_shrinks⟩⟩),(153,⟨F_slices_Clone_stat_Field_stat_Field_sig,⟨F_slices_Clone_stat_Field_stat_Field⟩⟩)],[]⟩
theorem F_dyn_Table_Limit_text:pvFn F_dyn_Table_Limit_env F_dyn_Table_Limit_ann Tryz.f108 F_dyn_Table_Limit_sig=F_dyn_Table_Limit:=by kernel_rfl
noncomputable def F_dyn_New (i1:Int) (l2:List (Zt2×Int×Int)):Option (Int×Int×List (Zt2×Int×Int)):=
 (F_dyn_Table_Limit (l2.length:Int) i1 (l2++[(([]:Zt2),(0,0))])).bind fun x3=>
 cond (x3.1 != 0)
 (some ((-1:Int),1,x3.2))
 (some ((l2.length:Int),0,x3.2))
def F_dyn_New_sig:Sig:=⟨[.v false [.d (.int .i64)]],[(false,[.d (.ptr 109)]),(false,[.d (.int .i64)])],[(1000218,Zp11,true)]⟩
def F_dyn_New_ann:List (Nat×Ann):=[]
noncomputable def F_dyn_New_env:Env:=⟨Tryz.prog,[(108,⟨F_dyn_Table_Limit_sig,⟨F_dyn_Table_Limit⟩⟩)],[]⟩
theorem F_dyn_New_text:pvFn F_dyn_New_env F_dyn_New_ann Tryz.f56 F_dyn_New_sig=F_dyn_New:=by kernel_rfl
noncomputable def F_unpack_New (l1:Zt8) (l2:List (Zt2×Int×Int)):Option (Int×Zt8×List (Zt2×Int×Int)):=
 (F_dyn_New 4096 l2).bind fun x3=>
 some ((l1.length:Int),(l1++[(x3.1,false)]),x3.2.2)
def F_unpack_New_sig:Sig:=⟨[],[(false,[.d (.ptr 99)])],[(1000198,Zp18,true),(1000218,Zp11,true)]⟩
def F_unpack_New_ann:List (Nat×Ann):=[]
noncomputable def F_unpack_New_env:Env:=⟨Tryz.prog,[(56,⟨F_dyn_New_sig,⟨F_dyn_New⟩⟩)],[]⟩
theorem F_unpack_New_text:pvFn F_unpack_New_env F_unpack_New_ann Tryz.f13 F_unpack_New_sig=F_unpack_New:=by kernel_rfl
noncomputable def F_frame_New (i1:Int) (l2:Zt5):Option (Int×Zt5):=
 some ((l2.length:Int),(l2++[(i1,([]:List Int))]))
def F_frame_New_sig:Sig:=⟨[.v false [.d (.int .i64)]],[(false,[.d (.ptr 111)])],[(1000222,Zp14,true)]⟩
def F_frame_New_ann:List (Nat×Ann):=[]
noncomputable def F_frame_New_env:Env:=⟨Tryz.prog,[],[]⟩
theorem F_frame_New_text:pvFn F_frame_New_env F_frame_New_ann Tryz.f19 F_frame_New_sig=F_frame_New:=by kernel_rfl
noncomputable def F_sets_First:Option (Int×Int×Int×Int×Int×Int):=
 some (4096,1,2147483647,65535,16384,2147483647)
def F_sets_First_sig:Sig:=⟨[],[(true,[.d (.int .i64),.d (.int .i64),.d (.int .i64),.d (.int .i64),.d (.int .i64),.d (.int .i64)])],[]⟩
def F_sets_First_ann:List (Nat×Ann):=[]
noncomputable def F_sets_First_env:Env:=⟨Tryz.prog,[],[]⟩
theorem F_sets_First_text:pvFn F_sets_First_env F_sets_First_ann Tryz.f68 F_sets_First_sig=F_sets_First:=by kernel_rfl
noncomputable def F_pack_New (l1:List (Zt2×Int×Int)) (l2:Zt3):Option (Int×List (Zt2×Int×Int)×Zt3):=
 (F_dyn_New 4096 l1).bind fun x3=>
 some ((l2.length:Int),x3.2.2,(l2++[(x3.1,(4096,4096))]))
def F_pack_New_sig:Sig:=⟨[],[(false,[.d (.ptr 179)])],[(1000218,Zp11,true),(1000358,Zp19,true)]⟩
def F_pack_New_ann:List (Nat×Ann):=[]
noncomputable def F_pack_New_env:Env:=⟨Tryz.prog,[(56,⟨F_dyn_New_sig,⟨F_dyn_New⟩⟩)],[]⟩
theorem F_pack_New_text:pvFn F_pack_New_env F_pack_New_ann Tryz.f69 F_pack_New_sig=F_pack_New:=by kernel_rfl
noncomputable def F_part_bits_L4 (i1:Int) (s:List Int×Int):Option (((List Int)⊕(List Int))⊕(List Int×Int)):=
 let l3:=s.1;let i4:=s.2
 cond (decide (i4 >= 0))
 (chk (decide (0<=(IntKind.i64.wrap (8*i4))))
 (chk (decide ((l3.length+([(IntKind.u8.wrap (Int.fdiv i1 (2 ^ (min ((IntKind.i64.wrap (8*i4))).toNat 64))))]:List Int).length)*1<=140737488355328)&&decide (l3.length+([(IntKind.u8.wrap (Int.fdiv i1 (2 ^ (min ((IntKind.i64.wrap (8*i4))).toNat 64))))]:List Int).length<=maxLen))
 (some (.inr ((l3++([(IntKind.u8.wrap (Int.fdiv i1 (2 ^ (min ((IntKind.i64.wrap (8*i4))).toNat 64))))]:List Int)),(IntKind.i64.wrap (i4 - 1)))))))
 (some (.inl (.inr l3)))
noncomputable def F_part_bits_J2 (s:List Int):Option (List Int):=
 let l5:=s
 some l5
noncomputable def F_part_bits (i1:Int) (i2:Int):Option (List Int):=
 joinC (S:=List Int) (R:=List Int)
 (loopC (S:=List Int×Int) (R:=(List Int)⊕(List Int)) (F_part_bits_L4 i1) (([]:List Int),(IntKind.i64.wrap (i2 - 1))))
 (F_part_bits_J2)
def F_part_bits_sig:Sig:=⟨[.v false [.d (.int .i64)],.v false [.d (.int .i64)]],[(false,[.own 5 (.int .u8)])],[]⟩
def F_part_bits_ann:List (Nat×Ann):=[(2,⟨3,[(5,false,[.own 5 (.int .u8)])],[],(List.range' 6 15),[],[],[]⟩),(4,⟨5,[(5,false,[.own 5 (.int .u8)]),(6,false,[.d (.int .i64)])],[],(List.range' 9 12),[],[],[]⟩)]
noncomputable def F_part_bits_env:Env:=⟨Tryz.prog,[],[]⟩
theorem F_part_bits_text:pvFn F_part_bits_env F_part_bits_ann Tryz.f121 F_part_bits_sig=F_part_bits:=by kernel_rfl
noncomputable def F_part_Goaway (i1:Int) (i2:Int):Option (Int×Int×Int×List Int):=
 (F_part_bits (bits .and .i64 i1 2147483647) 4).bind fun l3=>
 (F_part_bits i2 4).bind fun l4=>
 chk (decide ((l3.length+l4.length)*1<=140737488355328)&&decide (l3.length+l4.length<=maxLen))
 (some (7,0,0,(l3++l4)))
def F_part_Goaway_sig:Sig:=⟨[.v false [.d (.int .i64)],.v false [.d (.int .i64)]],[(true,[.d (.int .i64),.d (.int .i64),.d (.int .i64),.own 5 (.int .u8)])],[]⟩
def F_part_Goaway_ann:List (Nat×Ann):=[]
noncomputable def F_part_Goaway_env:Env:=⟨Tryz.prog,[(121,⟨F_part_bits_sig,⟨F_part_bits⟩⟩)],[]⟩
theorem F_part_Goaway_text:pvFn F_part_Goaway_env F_part_Goaway_ann Tryz.f93 F_part_Goaway_sig=F_part_Goaway:=by kernel_rfl
noncomputable def F_frame_Put (i1:Int) (i2:Int) (i3:Int) (l4:List Int):Option (List Int×Int):=
 cond (decide (i1 < 0))
 (some (([]:List Int),1))
 (cond (decide (i1 > 255))
 (some (([]:List Int),1))
 (cond (decide (i2 < 0))
 (some (([]:List Int),1))
 (cond (decide (i2 > 255))
 (some (([]:List Int),1))
 (cond (decide (i3 < 0))
 (some (([]:List Int),1))
 (cond (decide (i3 > 2147483647))
 (some (([]:List Int),1))
 (cond (decide ((l4.length:Int) > 16777215))
 (some (([]:List Int),3))
 (chk (decide ((([(IntKind.u8.wrap (Int.fdiv (l4.length:Int) (2 ^ 16))),(IntKind.u8.wrap (Int.fdiv (l4.length:Int) (2 ^ 8))),(IntKind.u8.wrap (l4.length:Int)),(IntKind.u8.wrap i1),(IntKind.u8.wrap i2),(IntKind.u8.wrap (Int.fdiv i3 (2 ^ 24))),(IntKind.u8.wrap (Int.fdiv i3 (2 ^ 16))),(IntKind.u8.wrap (Int.fdiv i3 (2 ^ 8))),(IntKind.u8.wrap i3)]:List Int).length+l4.length)*1<=140737488355328)&&decide (([(IntKind.u8.wrap (Int.fdiv (l4.length:Int) (2 ^ 16))),(IntKind.u8.wrap (Int.fdiv (l4.length:Int) (2 ^ 8))),(IntKind.u8.wrap (l4.length:Int)),(IntKind.u8.wrap i1),(IntKind.u8.wrap i2),(IntKind.u8.wrap (Int.fdiv i3 (2 ^ 24))),(IntKind.u8.wrap (Int.fdiv i3 (2 ^ 16))),(IntKind.u8.wrap (Int.fdiv i3 (2 ^ 8))),(IntKind.u8.wrap i3)]:List Int).length+l4.length<=maxLen))
 (some ((([(IntKind.u8.wrap (Int.fdiv (l4.length:Int) (2 ^ 16))),(IntKind.u8.wrap (Int.fdiv (l4.length:Int) (2 ^ 8))),(IntKind.u8.wrap (l4.length:Int)),(IntKind.u8.wrap i1),(IntKind.u8.wrap i2),(IntKind.u8.wrap (Int.fdiv i3 (2 ^ 24))),(IntKind.u8.wrap (Int.fdiv i3 (2 ^ 16))),(IntKind.u8.wrap (Int.fdiv i3 (2 ^ 8))),(IntKind.u8.wrap i3)]:List Int)++l4),0)))))))))
def F_frame_Put_sig:Sig:=⟨[.v true [.d (.int .i64),.d (.int .i64),.d (.int .i64),.d (.sl (.int .u8))]],[(false,[.own 5 (.int .u8)]),(false,[.d (.int .i64)])],[]⟩
def F_frame_Put_ann:List (Nat×Ann):=[]
noncomputable def F_frame_Put_env:Env:=⟨Tryz.prog,[],[]⟩
theorem F_frame_Put_text:pvFn F_frame_Put_env F_frame_Put_ann Tryz.f118 F_frame_Put_sig=F_frame_Put:=by kernel_rfl
noncomputable def F_conn_Conn_puts (p1:Int) (i2:Int) (i3:Int) (i4:Int) (l5:List Int) (l6:Zt1):Option (Zt1):=
 (F_frame_Put i2 i3 i4 l5).bind fun x7=>
 chk (nnI p1)
 ((getI l6 p1).bind fun x8=>
 chk (decide ((x8.2.2.2.2.1.length+x7.1.length)*1<=140737488355328)&&decide (x8.2.2.2.2.1.length+x7.1.length<=maxLen))
 (chk (nnI p1)
 ((getI l6 p1).bind fun x9=>
 chk (eqI p1 p1)
 (some (l6.set (Int.toNat p1) (x9.1,(x9.2.1,(x9.2.2.1,(x9.2.2.2.1,((x8.2.2.2.2.1++x7.1),x9.2.2.2.2.2))))))))))
def F_conn_Conn_puts_sig:Sig:=⟨[.v false [.d (.ptr 126)],.v true [.d (.int .i64),.d (.int .i64),.d (.int .i64),.d (.sl (.int .u8))]],[],[(1000252,Zp9,true)]⟩
def F_conn_Conn_puts_ann:List (Nat×Ann):=[]
noncomputable def F_conn_Conn_puts_env:Env:=⟨Tryz.prog,[(118,⟨F_frame_Put_sig,⟨F_frame_Put⟩⟩)],[15]⟩
theorem F_conn_Conn_puts_text:pvFn F_conn_Conn_puts_env F_conn_Conn_puts_ann Tryz.f120 F_conn_Conn_puts_sig=F_conn_Conn_puts:=by kernel_rfl
noncomputable def F_conn_Conn_tells (p1:Int) (i2:Int) (i3:Int) (i4:Int) (l5:Zt2) (l6:List Int) (b7:Bool) (b8:Bool) (b9:Bool) (l10:Zt1):Option (Zt1):=
 chk (nnI p1)
 ((getI l10 p1).bind fun x11=>
 cond x11.2.2.2.2.2.2.2.2.2.2.2.2.2.2
 (chk (nnI p1)
 ((getI l10 p1).bind fun x12=>
 chk (decide ((x12.2.2.2.2.2.2.2.2.2.2.2.2.2.1.length+([(i2,i3,i4,l5,l6,b7,b8,b9)]:Zt4).length)*80<=140737488355328)&&decide (x12.2.2.2.2.2.2.2.2.2.2.2.2.2.1.length+([(i2,i3,i4,l5,l6,b7,b8,b9)]:Zt4).length<=maxLen))
 (chk (nnI p1)
 ((getI l10 p1).bind fun x13=>
 chk (eqI p1 p1)
 (some (l10.set (Int.toNat p1) (x13.1,(x13.2.1,(x13.2.2.1,(x13.2.2.2.1,(x13.2.2.2.2.1,(x13.2.2.2.2.2.1,(x13.2.2.2.2.2.2.1,(x13.2.2.2.2.2.2.2.1,(x13.2.2.2.2.2.2.2.2.1,(x13.2.2.2.2.2.2.2.2.2.1,(x13.2.2.2.2.2.2.2.2.2.2.1,(x13.2.2.2.2.2.2.2.2.2.2.2.1,(x13.2.2.2.2.2.2.2.2.2.2.2.2.1,((x12.2.2.2.2.2.2.2.2.2.2.2.2.2.1++([(i2,i3,i4,l5,l6,b7,b8,b9)]:Zt4)),x13.2.2.2.2.2.2.2.2.2.2.2.2.2.2))))))))))))))))))))
 (some l10))
def F_conn_Conn_tells_sig:Sig:=⟨[.v false [.d (.ptr 126)],.v true [.d (.int .i64),.d (.int .i64),.d (.int .i64),.d (.sl Zp17),.d (.sl (.int .u8)),.d .bool,.d .bool,.d .bool]],[],[(1000252,Zp9,true)]⟩
def F_conn_Conn_tells_ann:List (Nat×Ann):=[]
noncomputable def F_conn_Conn_tells_env:Env:=⟨Tryz.prog,[],[12]⟩
theorem F_conn_Conn_tells_text:pvFn F_conn_Conn_tells_env F_conn_Conn_tells_ann Tryz.f122 F_conn_Conn_tells_sig=F_conn_Conn_tells:=by kernel_rfl
noncomputable def F_conn_Conn_dies (p1:Int) (i2:Int) (l3:Zt5) (l4:Zt1):Option (Zt5×Zt1):=
 chk (nnI p1)
 ((getI l4 p1).bind fun x5=>
 cond x5.2.2.2.2.2.1
 (some (l3,l4))
 (chk (nnI p1)
 ((getI l4 p1).bind fun x6=>
 chk (nnI p1)
 ((getI (l4.set (Int.toNat p1) (x6.1,(x6.2.1,(x6.2.2.1,(x6.2.2.2.1,(x6.2.2.2.2.1,(true,x6.2.2.2.2.2.2))))))) p1).bind fun x7=>
 chk (nnI p1)
 ((getI ((l4.set (Int.toNat p1) (x6.1,(x6.2.1,(x6.2.2.1,(x6.2.2.2.1,(x6.2.2.2.2.1,(true,x6.2.2.2.2.2.2))))))).set (Int.toNat p1) (x7.1,(x7.2.1,(x7.2.2.1,(x7.2.2.2.1,(x7.2.2.2.2.1,(x7.2.2.2.2.2.1,(i2,x7.2.2.2.2.2.2.2)))))))) p1).bind fun x8=>
 (F_part_Goaway x8.2.2.2.2.2.2.2.2.1 i2).bind fun x9=>
 (F_conn_Conn_puts p1 x9.1 x9.2.1 x9.2.2.1 x9.2.2.2 ((l4.set (Int.toNat p1) (x6.1,(x6.2.1,(x6.2.2.1,(x6.2.2.2.1,(x6.2.2.2.2.1,(true,x6.2.2.2.2.2.2))))))).set (Int.toNat p1) (x7.1,(x7.2.1,(x7.2.2.1,(x7.2.2.2.1,(x7.2.2.2.2.1,(x7.2.2.2.2.2.1,(i2,x7.2.2.2.2.2.2.2))))))))).bind fun l10=>
 (F_conn_Conn_tells p1 5 0 i2 ([]:Zt2) ([]:List Int) false false false l10).bind fun l11=>
 (F_frame_New 16384 l3).bind fun x12=>
 chk (nnI p1)
 ((getI l11 p1).bind fun x13=>
 chk (nnI p1)
 ((getI (l11.set (Int.toNat p1) ((x13.1.1,(x13.1.2.1,(x13.1.2.2.1,(x13.1.2.2.2.1,(x12.1,x13.1.2.2.2.2.2))))),x13.2)) p1).bind fun x14=>
 some (x12.2,((l11.set (Int.toNat p1) ((x13.1.1,(x13.1.2.1,(x13.1.2.2.1,(x13.1.2.2.2.1,(x12.1,x13.1.2.2.2.2.2))))),x13.2)).set (Int.toNat p1) ((x14.1.1,(x14.1.2.1,(x14.1.2.2.1,(x14.1.2.2.2.1,(x14.1.2.2.2.2.1,(-1:Int)))))),x14.2))))))))))
def F_conn_Conn_dies_sig:Sig:=⟨[.v false [.d (.ptr 126)],.v false [.d (.int .i64)]],[],[(1000222,Zp14,true),(1000252,Zp9,true)]⟩
def F_conn_Conn_dies_ann:List (Nat×Ann):=[]
noncomputable def F_conn_Conn_dies_env:Env:=⟨Tryz.prog,[(19,⟨F_frame_New_sig,⟨F_frame_New⟩⟩),(93,⟨F_part_Goaway_sig,⟨F_part_Goaway⟩⟩),(120,⟨F_conn_Conn_puts_sig,⟨F_conn_Conn_puts⟩⟩),(122,⟨F_conn_Conn_tells_sig,⟨F_conn_Conn_tells⟩⟩)],[]⟩
theorem F_conn_Conn_dies_text:pvFn F_conn_Conn_dies_env F_conn_Conn_dies_ann Tryz.f72 F_conn_Conn_dies_sig=F_conn_Conn_dies:=by kernel_rfl
noncomputable def F_conn_Conn_lays (p1:Int) (i2:Int) (i3:Int) (i4:Int) (l5:List Int) (l6:Zt5) (l7:Zt1):Option (Zt5×Zt1):=
 chk (nnI p1)
 ((getI l7 p1).bind fun x8=>
 cond x8.2.2.2.2.2.1
 (some (l6,l7))
 ((F_conn_Conn_puts p1 i2 i3 i4 l5 l7).bind fun l9=>
 chk (nnI p1)
 ((getI l9 p1).bind fun x10=>
 cond (decide ((x10.2.2.2.2.1.length:Int) > 131072))
 ((F_conn_Conn_dies p1 11 l6 l9).bind fun x11=>
 some (x11.1,x11.2))
 (some (l6,l9)))))
def F_conn_Conn_lays_sig:Sig:=⟨[.v false [.d (.ptr 126)],.v true [.d (.int .i64),.d (.int .i64),.d (.int .i64),.d (.sl (.int .u8))]],[],[(1000222,Zp14,true),(1000252,Zp9,true)]⟩
def F_conn_Conn_lays_ann:List (Nat×Ann):=[]
noncomputable def F_conn_Conn_lays_env:Env:=⟨Tryz.prog,[(72,⟨F_conn_Conn_dies_sig,⟨F_conn_Conn_dies⟩⟩),(120,⟨F_conn_Conn_puts_sig,⟨F_conn_Conn_puts⟩⟩)],[]⟩
theorem F_conn_Conn_lays_text:pvFn F_conn_Conn_lays_env F_conn_Conn_lays_ann Tryz.f70 F_conn_Conn_lays_sig=F_conn_Conn_lays:=by kernel_rfl
noncomputable def F_part_flag (b1:Bool) (i2:Int):Option (Int):=
 cond b1
 (some i2)
 (some 0)
def F_part_flag_sig:Sig:=⟨[.v false [.d .bool],.v false [.d (.int .i64)]],[(false,[.d (.int .i64)])],[]⟩
def F_part_flag_ann:List (Nat×Ann):=[]
noncomputable def F_part_flag_env:Env:=⟨Tryz.prog,[],[]⟩
theorem F_part_flag_text:pvFn F_part_flag_env F_part_flag_ann Tryz.f106 F_part_flag_sig=F_part_flag:=by kernel_rfl
noncomputable def F_part_Settings_L4 (l1:List (Int×Int)) (s:Int×Int×Int×Int×List Int×Int×Int×Int×List Int):Option (((Int×Int×Int×List Int)⊕(Int×Int×Int×List Int×Int×Int×Int×List Int))⊕(Int×Int×Int×Int×List Int×Int×Int×Int×List Int)):=
 let i4:=s.1;let i5:=s.2.1;let i6:=s.2.2.1;let i7:=s.2.2.2.1;let l8:=s.2.2.2.2.1;let i9:=s.2.2.2.2.2.1;let i10:=s.2.2.2.2.2.2.1;let i11:=s.2.2.2.2.2.2.2.1;let l12:=s.2.2.2.2.2.2.2.2
 cond (decide (i4 < (l1.length:Int)))
 ((getI l1 i4).bind fun x13=>
 (F_part_bits x13.1 2).bind fun l14=>
 chk (decide ((l12.length+l14.length)*1<=140737488355328)&&decide (l12.length+l14.length<=maxLen))
 ((F_part_bits x13.2 4).bind fun l15=>
 chk (decide (((l12++l14).length+l15.length)*1<=140737488355328)&&decide ((l12++l14).length+l15.length<=maxLen))
 (some (.inr ((IntKind.i64.wrap (i4+1)),i5,i6,i7,l8,i9,i10,i11,((l12++l14)++l15))))))
 (some (.inl (.inr (i5,i6,i7,l8,i9,i10,i11,l12))))
noncomputable def F_part_Settings_J2 (s:Int×Int×Int×List Int×Int×Int×Int×List Int):Option (Int×Int×Int×List Int):=
 let i17:=s.1;let i18:=s.2.1;let i19:=s.2.2.1;let l20:=s.2.2.2.1;let i21:=s.2.2.2.2.1;let i22:=s.2.2.2.2.2.1;let i23:=s.2.2.2.2.2.2.1;let l24:=s.2.2.2.2.2.2.2
 some (i21,i22,i23,l24)
noncomputable def F_part_Settings (l1:List (Int×Int)) (b2:Bool):Option (Int×Int×Int×List Int):=
 (F_part_flag b2 1).bind fun i3=>
 joinC (S:=Int×Int×Int×List Int×Int×Int×Int×List Int) (R:=Int×Int×Int×List Int)
 (loopC (S:=Int×Int×Int×Int×List Int×Int×Int×Int×List Int) (R:=(Int×Int×Int×List Int)⊕(Int×Int×Int×List Int×Int×Int×Int×List Int)) (F_part_Settings_L4 l1) (0,0,0,0,([]:List Int),4,i3,0,([]:List Int)))
 (F_part_Settings_J2)
def F_part_Settings_sig:Sig:=⟨[.v false [.d (.sl Zp10)],.v false [.d .bool]],[(true,[.d (.int .i64),.d (.int .i64),.d (.int .i64),.own 5 (.int .u8)])],[]⟩
def F_part_Settings_ann:List (Nat×Ann):=[(2,⟨3,[],[(4,[.d (.int .i64),.d (.int .i64),.d (.int .i64),.own 5 (.int .u8)]),(5,[.d (.int .i64),.d (.int .i64),.d (.int .i64),.own 5 (.int .u8)])],([7]++List.range' 11 18),[],[],[]⟩),(4,⟨5,[(13,false,[.d (.int .i64)])],[(4,[.d (.int .i64),.d (.int .i64),.d (.int .i64),.own 5 (.int .u8)]),(5,[.d (.int .i64),.d (.int .i64),.d (.int .i64),.own 5 (.int .u8)])],([7]++List.range' 14 15),[],[],[]⟩)]
noncomputable def F_part_Settings_env:Env:=⟨Tryz.prog,[(106,⟨F_part_flag_sig,⟨F_part_flag⟩⟩),(121,⟨F_part_bits_sig,⟨F_part_bits⟩⟩)],[18]⟩
theorem F_part_Settings_text:pvFn F_part_Settings_env F_part_Settings_ann Tryz.f71 F_part_Settings_sig=F_part_Settings:=by kernel_rfl
noncomputable def F_conn_New (i1:Int) (i2:Int) (l3:Zt8) (l4:List (Zt2×Int×Int)) (l5:Zt5) (l6:Zt7) (l7:Zt1) (l8:Zt3):Option (Int×Zt8×List (Zt2×Int×Int)×Zt5×Zt7×Zt1×Zt3):=
 (F_sets_First).bind fun x9=>
 (F_pack_New l4 l8).bind fun x10=>
 (F_unpack_New l3 x10.2.1).bind fun x11=>
 (F_frame_New 16384 l5).bind fun x12=>
 chk (nnI (l7.length:Int))
 ((getI (l7++[((0,(false,(0,((-1:Int),((-1:Int),(-1:Int)))))),(i1,((x9.1,(x9.2.1,(x9.2.2.1,(x9.2.2.2.1,(x9.2.2.2.2.1,x9.2.2.2.2.2))))),(x10.1,(([]:List Int),(false,(0,(false,(0,((l6.length:Int),(([]:List Int),(65535,(65535,(([]:Zt4),false))))))))))))))]) (l7.length:Int)).bind fun x13=>
 (F_part_Settings ([(3,i1),(6,i2)]:List (Int×Int)) false).bind fun x14=>
 (F_conn_Conn_lays (l7.length:Int) x14.1 x14.2.1 x14.2.2.1 x14.2.2.2 x12.2 ((l7++[((0,(false,(0,((-1:Int),((-1:Int),(-1:Int)))))),(i1,((x9.1,(x9.2.1,(x9.2.2.1,(x9.2.2.2.1,(x9.2.2.2.2.1,x9.2.2.2.2.2))))),(x10.1,(([]:List Int),(false,(0,(false,(0,((l6.length:Int),(([]:List Int),(65535,(65535,(([]:Zt4),false))))))))))))))]).set (Int.toNat (l7.length:Int)) ((0,false,i2,x11.1,x12.1,(-1:Int)),x13.2))).bind fun x15=>
 some ((l7.length:Int),x11.2.1,x11.2.2,x15.1,(l6++[[]]),x15.2,x10.2.2))
def F_conn_New_sig:Sig:=⟨[.v false [.d (.int .i64)],.v false [.d (.int .i64)]],[(false,[.d (.ptr 126)])],[(1000198,Zp18,true),(1000218,Zp11,true),(1000222,Zp14,true),(1000243,(.sl Zp15),true),(1000252,Zp9,true),(1000358,Zp19,true)]⟩
def F_conn_New_ann:List (Nat×Ann):=[]
noncomputable def F_conn_New_env:Env:=⟨Tryz.prog,[(13,⟨F_unpack_New_sig,⟨F_unpack_New⟩⟩),(19,⟨F_frame_New_sig,⟨F_frame_New⟩⟩),(68,⟨F_sets_First_sig,⟨F_sets_First⟩⟩),(69,⟨F_pack_New_sig,⟨F_pack_New⟩⟩),(70,⟨F_conn_Conn_lays_sig,⟨F_conn_Conn_lays⟩⟩),(71,⟨F_part_Settings_sig,⟨F_part_Settings⟩⟩)],[]⟩
theorem F_conn_New_text:pvFn F_conn_New_env F_conn_New_ann Tryz.f25 F_conn_New_sig=F_conn_New:=by kernel_rfl
noncomputable def F_frame_Parser_Feed (p1:Int) (l2:List Int) (l3:Zt5):Option (Zt5):=
 chk (nnI p1)
 ((getI l3 p1).bind fun x4=>
 (F_slices_Concat_byte_byte ([x4.2,l2]:List (List Int))).bind fun l5=>
 chk (nnI p1)
 ((getI l3 p1).bind fun x6=>
 some (l3.set (Int.toNat p1) (x6.1,l5))))
def F_frame_Parser_Feed_sig:Sig:=⟨[.v false [.d (.ptr 111)],.v false [.d (.sl (.int .u8))]],[],[(1000222,Zp14,true)]⟩
def F_frame_Parser_Feed_ann:List (Nat×Ann):=[]
noncomputable def F_frame_Parser_Feed_env:Env:=⟨Tryz.prog,[(59,⟨F_slices_Concat_byte_byte_sig,⟨F_slices_Concat_byte_byte⟩⟩)],[]⟩
theorem F_frame_Parser_Feed_text:pvFn F_frame_Parser_Feed_env F_frame_Parser_Feed_ann Tryz.f20 F_frame_Parser_Feed_sig=F_frame_Parser_Feed:=by kernel_rfl
noncomputable def F_frame_Parser_Next_G1_0 (s:Int×Int×Int×List Int×Zt5):Option ((Int×Int×Int×List Int×Int×Zt5)⊕(Nat×Int×Int×Int×List Int×Zt5)):=
 let i30:=s.1;let i31:=s.2.1;let i33:=s.2.2.1;let l34:=s.2.2.2.1;let l35:=s.2.2.2.2
 some (.inl (0,0,0,([]:List Int),4,l35))
noncomputable def F_frame_Parser_Next_G1 (p:Nat×Int×Int×Int×List Int×Zt5):Option ((Int×Int×Int×List Int×Int×Zt5)⊕(Nat×Int×Int×Int×List Int×Zt5)):=
 cond (hasN [0] p.1) (F_frame_Parser_Next_G1_0 p.2) (none)
noncomputable def F_frame_Parser_Next (p1:Int) (l2:Zt5):Option (Int×Int×Int×List Int×Int×Zt5):=
 joinC (S:=Nat×Int×Int×Int×List Int×Zt5) (R:=Int×Int×Int×List Int×Int×Zt5)
 (chk (nnI p1)
 ((getI l2 p1).bind fun x3=>
 cond (decide ((x3.2.length:Int) < 9))
 (some (.inr (0,(0,0,0,([]:List Int),l2))))
 (chk (nnI p1)
 ((getI l2 p1).bind fun x4=>
 (getI x4.2 0).bind fun i5=>
 chk (nnI p1)
 ((getI l2 p1).bind fun x6=>
 (getI x6.2 1).bind fun i7=>
 chk (nnI p1)
 ((getI l2 p1).bind fun x8=>
 (getI x8.2 2).bind fun i9=>
 chk (nnI p1)
 ((getI l2 p1).bind fun x10=>
 cond (decide ((bits .or .i64 (bits .or .i64 (IntKind.i64.wrap ((IntKind.i64.wrap i5)*2 ^ 16)) (IntKind.i64.wrap ((IntKind.i64.wrap i7)*2 ^ 8))) (IntKind.i64.wrap i9)) > x10.1))
 (some (.inl (0,0,0,([]:List Int),3,l2)))
 (chk (nnI p1)
 ((getI l2 p1).bind fun x11=>
 cond (decide ((IntKind.i64.wrap ((x11.2.length:Int) - 9)) < (bits .or .i64 (bits .or .i64 (IntKind.i64.wrap ((IntKind.i64.wrap i5)*2 ^ 16)) (IntKind.i64.wrap ((IntKind.i64.wrap i7)*2 ^ 8))) (IntKind.i64.wrap i9))))
 (some (.inr (0,(0,0,0,([]:List Int),l2))))
 (chk (nnI p1)
 ((getI l2 p1).bind fun x12=>
 (getI x12.2 3).bind fun i13=>
 chk (nnI p1)
 ((getI l2 p1).bind fun x14=>
 (getI x14.2 4).bind fun i15=>
 chk (nnI p1)
 ((getI l2 p1).bind fun x16=>
 (getI x16.2 5).bind fun i17=>
 chk (nnI p1)
 ((getI l2 p1).bind fun x18=>
 (getI x18.2 6).bind fun i19=>
 chk (nnI p1)
 ((getI l2 p1).bind fun x20=>
 (getI x20.2 7).bind fun i21=>
 chk (nnI p1)
 ((getI l2 p1).bind fun x22=>
 (getI x22.2 8).bind fun i23=>
 chk (nnI p1)
 ((getI l2 p1).bind fun x24=>
 (cutI x24.2 9 (IntKind.i64.wrap (9+(bits .or .i64 (bits .or .i64 (IntKind.i64.wrap ((IntKind.i64.wrap i5)*2 ^ 16)) (IntKind.i64.wrap ((IntKind.i64.wrap i7)*2 ^ 8))) (IntKind.i64.wrap i9))))).bind fun l25=>
 (F_bytes_Clone l25).bind fun l26=>
 chk (nnI p1)
 ((getI l2 p1).bind fun x27=>
 (cutI x27.2 (IntKind.i64.wrap (9+(bits .or .i64 (bits .or .i64 (IntKind.i64.wrap ((IntKind.i64.wrap i5)*2 ^ 16)) (IntKind.i64.wrap ((IntKind.i64.wrap i7)*2 ^ 8))) (IntKind.i64.wrap i9)))) (x27.2.length:Int)).bind fun l28=>
 chk (nnI p1)
 ((getI l2 p1).bind fun x29=>
 some (.inl ((IntKind.i64.wrap i13),(IntKind.i64.wrap i15),(bits .and .i64 (bits .or .i64 (bits .or .i64 (bits .or .i64 (IntKind.i64.wrap ((IntKind.i64.wrap i17)*2 ^ 24)) (IntKind.i64.wrap ((IntKind.i64.wrap i19)*2 ^ 16))) (IntKind.i64.wrap ((IntKind.i64.wrap i21)*2 ^ 8))) (IntKind.i64.wrap i23)) 2147483647),l26,0,(l2.set (Int.toNat p1) (x29.1,l28)))))))))))))))))))))))
 (fun p=>loopC (S:=Nat×Int×Int×Int×List Int×Zt5) (R:=Int×Int×Int×List Int×Int×Zt5) (F_frame_Parser_Next_G1) p)
def F_frame_Parser_Next_sig:Sig:=⟨[.v false [.d (.ptr 111)]],[(true,[.d (.int .i64),.d (.int .i64),.d (.int .i64),.own 5 (.int .u8)]),(false,[.d (.int .i64)])],[(1000222,Zp14,true)]⟩
def F_frame_Parser_Next_ann:List (Nat×Ann):=[(1,⟨2,[],[(2,[.d (.int .i64),.d (.int .i64),.d (.int .i64),.own 5 (.int .u8)])],(List.range' 3 122),[],[(1000222,Zp14,true)],[]⟩)]
noncomputable def F_frame_Parser_Next_env:Env:=⟨Tryz.prog,[(66,⟨F_bytes_Clone_sig,⟨F_bytes_Clone⟩⟩)],[117]⟩
theorem F_frame_Parser_Next_text:pvFn F_frame_Parser_Next_env F_frame_Parser_Next_ann Tryz.f22 F_frame_Parser_Next_sig=F_frame_Parser_Next:=by kernel_rfl
noncomputable def F_conn_Conn_State (p1:Int) (i2:Int) (l3:Zt7) (l4:Zt1) (l5:Zt3):Option (Int):=
 chk (nnI p1)
 ((getI l4 p1).bind fun x6=>
 (getI l3 x6.2.2.2.2.2.2.2.2.2.1).bind fun m7=>
 cond ((decide (i2 < 1))||((Int.tmod i2 2)==0))
 (some 0)
 (chk (nnI p1)
 ((getI l4 p1).bind fun x8=>
 cond (decide (i2 > x8.2.2.2.2.2.2.2.2.1))
 (some 0)
 (cond (!(eqI (getZ (mapGet m7 i2) (-1:Int)) (-1)))
 (chk (nnI (getZ (mapGet m7 i2) (-1:Int)))
 ((getI l5 (getZ (mapGet m7 i2) (-1:Int))).bind fun x9=>
 some x9.1))
 (some 4)))))
def F_conn_Conn_State_sig:Sig:=⟨[.v false [.d (.ptr 126)],.v false [.d (.int .i64)]],[(false,[.d (.int .i64)])],[(1000243,(.sl Zp15),false),(1000252,Zp9,false),(1000278,Zp16,false)]⟩
def F_conn_Conn_State_ann:List (Nat×Ann):=[]
noncomputable def F_conn_Conn_State_env:Env:=⟨Tryz.prog,[],[]⟩
theorem F_conn_Conn_State_text:pvFn F_conn_Conn_State_env F_conn_Conn_State_ann Tryz.f38 F_conn_Conn_State_sig=F_conn_Conn_State:=by kernel_rfl
noncomputable def F_part_conn (i1:Int):Option (List Int×Int×Int×Int×Int×List (Int×Int)×Bool×Bool×Bool×Bool×Bool×Int):=
 some (([]:List Int),0,0,0,0,([]:List (Int×Int)),false,false,false,true,true,i1)
def F_part_conn_sig:Sig:=⟨[.v false [.d (.int .i64)]],[(true,[.own 5 (.int .u8),.d (.int .i64),.d (.int .i64),.d (.int .i64),.d (.int .i64),.own 130 Zp10,.d .bool,.d .bool,.d .bool]),(true,[.d .bool,.d .bool,.d (.int .i64)])],[]⟩
def F_part_conn_ann:List (Nat×Ann):=[]
noncomputable def F_part_conn_env:Env:=⟨Tryz.prog,[],[]⟩
theorem F_part_conn_text:pvFn F_part_conn_env F_part_conn_ann Tryz.f98 F_part_conn_sig=F_part_conn:=by kernel_rfl
noncomputable def F_part_bodied_G1_0 (i1:Int) (i2:Int) (s:List Int×Int×List Int×Int×Int×Int×Int×List (Int×Int)×Bool×Bool×Bool×List Int×Int×Int×Int×Int×List (Int×Int)×Bool×Bool×Bool×Bool×Bool×Int):Option ((List Int×Int×Int×Int×Int×List (Int×Int)×Bool×Bool×Bool×Bool×Bool×Int)⊕(Nat×List Int×Int×List Int×Int×Int×Int×Int×List (Int×Int)×Bool×Bool×Bool×List Int×Int×Int×Int×Int×List (Int×Int)×Bool×Bool×Bool×Bool×Bool×Int)):=
 let l24:=s.1;let i25:=s.2.1;let l26:=s.2.2.1;let i27:=s.2.2.2.1;let i28:=s.2.2.2.2.1;let i29:=s.2.2.2.2.2.1;let i30:=s.2.2.2.2.2.2.1;let l31:=s.2.2.2.2.2.2.2.1;let b32:=s.2.2.2.2.2.2.2.2.1;let b33:=s.2.2.2.2.2.2.2.2.2.1;let b34:=s.2.2.2.2.2.2.2.2.2.2.1;let l35:=s.2.2.2.2.2.2.2.2.2.2.2.1;let i36:=s.2.2.2.2.2.2.2.2.2.2.2.2.1;let i37:=s.2.2.2.2.2.2.2.2.2.2.2.2.2.1;let i38:=s.2.2.2.2.2.2.2.2.2.2.2.2.2.2.1;let i39:=s.2.2.2.2.2.2.2.2.2.2.2.2.2.2.2.1;let l40:=s.2.2.2.2.2.2.2.2.2.2.2.2.2.2.2.2.1;let b41:=s.2.2.2.2.2.2.2.2.2.2.2.2.2.2.2.2.2.1;let b42:=s.2.2.2.2.2.2.2.2.2.2.2.2.2.2.2.2.2.2.1;let b43:=s.2.2.2.2.2.2.2.2.2.2.2.2.2.2.2.2.2.2.2.1;let b44:=s.2.2.2.2.2.2.2.2.2.2.2.2.2.2.2.2.2.2.2.2.1;let b45:=s.2.2.2.2.2.2.2.2.2.2.2.2.2.2.2.2.2.2.2.2.2.1;let i46:=s.2.2.2.2.2.2.2.2.2.2.2.2.2.2.2.2.2.2.2.2.2.2
 cond (i1==0)
 (some (.inr (1,(l24,i25,l26,i27,i28,i29,i30,l31,b32,b33,b34,l35,i36,i37,i38,i39,l40,b41,b42,b43,b44,b45,i46))))
 (cond ((bits .and .i64 i2 32)==0)
 (some (.inr (1,(l24,i25,l26,i27,i28,i29,i30,l31,b32,b33,b34,l35,i36,i37,i38,i39,l40,b41,b42,b43,b44,b45,i46))))
 (cond (decide ((l24.length:Int) < 5))
 ((F_part_conn 6).bind fun x47=>
 some (.inl (x47.1,x47.2.1,x47.2.2.1,x47.2.2.2.1,x47.2.2.2.2.1,x47.2.2.2.2.2.1,x47.2.2.2.2.2.2.1,x47.2.2.2.2.2.2.2.1,x47.2.2.2.2.2.2.2.2.1,x47.2.2.2.2.2.2.2.2.2.1,x47.2.2.2.2.2.2.2.2.2.2.1,x47.2.2.2.2.2.2.2.2.2.2.2)))
 ((cutI l24 5 (l24.length:Int)).bind fun l48=>
 cond (decide (i25 > (l48.length:Int)))
 ((F_part_conn 1).bind fun x49=>
 some (.inl (x49.1,x49.2.1,x49.2.2.1,x49.2.2.2.1,x49.2.2.2.2.1,x49.2.2.2.2.2.1,x49.2.2.2.2.2.2.1,x49.2.2.2.2.2.2.2.1,x49.2.2.2.2.2.2.2.2.1,x49.2.2.2.2.2.2.2.2.2.1,x49.2.2.2.2.2.2.2.2.2.2.1,x49.2.2.2.2.2.2.2.2.2.2.2)))
 ((cutI l48 0 (IntKind.i64.wrap ((l48.length:Int) - i25))).bind fun l50=>
 (F_bytes_Clone l50).bind fun l51=>
 some (.inl (l51,i27,i28,i29,i30,l31,b32,b33,b34,false,false,0))))))
noncomputable def F_part_bodied_G1_1 (s:List Int×Int×List Int×Int×Int×Int×Int×List (Int×Int)×Bool×Bool×Bool×List Int×Int×Int×Int×Int×List (Int×Int)×Bool×Bool×Bool×Bool×Bool×Int):Option ((List Int×Int×Int×Int×Int×List (Int×Int)×Bool×Bool×Bool×Bool×Bool×Int)⊕(Nat×List Int×Int×List Int×Int×Int×Int×Int×List (Int×Int)×Bool×Bool×Bool×List Int×Int×Int×Int×Int×List (Int×Int)×Bool×Bool×Bool×Bool×Bool×Int)):=
 let l24:=s.1;let i25:=s.2.1;let l26:=s.2.2.1;let i27:=s.2.2.2.1;let i28:=s.2.2.2.2.1;let i29:=s.2.2.2.2.2.1;let i30:=s.2.2.2.2.2.2.1;let l31:=s.2.2.2.2.2.2.2.1;let b32:=s.2.2.2.2.2.2.2.2.1;let b33:=s.2.2.2.2.2.2.2.2.2.1;let b34:=s.2.2.2.2.2.2.2.2.2.2.1;let l35:=s.2.2.2.2.2.2.2.2.2.2.2.1;let i36:=s.2.2.2.2.2.2.2.2.2.2.2.2.1;let i37:=s.2.2.2.2.2.2.2.2.2.2.2.2.2.1;let i38:=s.2.2.2.2.2.2.2.2.2.2.2.2.2.2.1;let i39:=s.2.2.2.2.2.2.2.2.2.2.2.2.2.2.2.1;let l40:=s.2.2.2.2.2.2.2.2.2.2.2.2.2.2.2.2.1;let b41:=s.2.2.2.2.2.2.2.2.2.2.2.2.2.2.2.2.2.1;let b42:=s.2.2.2.2.2.2.2.2.2.2.2.2.2.2.2.2.2.2.1;let b43:=s.2.2.2.2.2.2.2.2.2.2.2.2.2.2.2.2.2.2.2.1;let b44:=s.2.2.2.2.2.2.2.2.2.2.2.2.2.2.2.2.2.2.2.2.1;let b45:=s.2.2.2.2.2.2.2.2.2.2.2.2.2.2.2.2.2.2.2.2.2.1;let i46:=s.2.2.2.2.2.2.2.2.2.2.2.2.2.2.2.2.2.2.2.2.2.2
 cond (decide (i25 > (l24.length:Int)))
 ((F_part_conn 1).bind fun x52=>
 some (.inl (x52.1,x52.2.1,x52.2.2.1,x52.2.2.2.1,x52.2.2.2.2.1,x52.2.2.2.2.2.1,x52.2.2.2.2.2.2.1,x52.2.2.2.2.2.2.2.1,x52.2.2.2.2.2.2.2.2.1,x52.2.2.2.2.2.2.2.2.2.1,x52.2.2.2.2.2.2.2.2.2.2.1,x52.2.2.2.2.2.2.2.2.2.2.2)))
 ((cutI l24 0 (IntKind.i64.wrap ((l24.length:Int) - i25))).bind fun l53=>
 (F_bytes_Clone l53).bind fun l54=>
 some (.inl (l54,i27,i28,i29,i30,l31,b32,b33,b34,false,false,0)))
noncomputable def F_part_bodied_G1 (i1:Int) (i2:Int) (p:Nat×List Int×Int×List Int×Int×Int×Int×Int×List (Int×Int)×Bool×Bool×Bool×List Int×Int×Int×Int×Int×List (Int×Int)×Bool×Bool×Bool×Bool×Bool×Int):Option ((List Int×Int×Int×Int×Int×List (Int×Int)×Bool×Bool×Bool×Bool×Bool×Int)⊕(Nat×List Int×Int×List Int×Int×Int×Int×Int×List (Int×Int)×Bool×Bool×Bool×List Int×Int×Int×Int×Int×List (Int×Int)×Bool×Bool×Bool×Bool×Bool×Int)):=
 cond (hasN [0] p.1) (F_part_bodied_G1_0 i1 i2 p.2) (cond (hasN [1] p.1) (F_part_bodied_G1_1 p.2) (none))
noncomputable def F_part_bodied (i1:Int) (i2:Int) (i3:Int) (l4:List Int):Option (List Int×Int×Int×Int×Int×List (Int×Int)×Bool×Bool×Bool×Bool×Bool×Int):=
 joinC (S:=Nat×List Int×Int×List Int×Int×Int×Int×Int×List (Int×Int)×Bool×Bool×Bool×List Int×Int×Int×Int×Int×List (Int×Int)×Bool×Bool×Bool×Bool×Bool×Int) (R:=List Int×Int×Int×Int×Int×List (Int×Int)×Bool×Bool×Bool×Bool×Bool×Int)
 (cond (i1==1)
 (cond (i3==0)
 ((F_part_conn 1).bind fun x5=>
 some (.inl (x5.1,x5.2.1,x5.2.2.1,x5.2.2.2.1,x5.2.2.2.2.1,x5.2.2.2.2.2.1,x5.2.2.2.2.2.2.1,x5.2.2.2.2.2.2.2.1,x5.2.2.2.2.2.2.2.2.1,x5.2.2.2.2.2.2.2.2.2.1,x5.2.2.2.2.2.2.2.2.2.2.1,x5.2.2.2.2.2.2.2.2.2.2.2)))
 (cond ((bits .and .i64 i2 8)==0)
 (some (.inr (0,(l4,0,([]:List Int),0,0,0,0,([]:List (Int×Int)),(decide ((bits .and .i64 i2 1) > 0)),false,(decide ((bits .and .i64 i2 4) > 0)),([]:List Int),0,0,0,0,([]:List (Int×Int)),false,false,false,false,false,0))))
 (cond ((l4.length:Int)==0)
 ((F_part_conn 6).bind fun x6=>
 some (.inl (x6.1,x6.2.1,x6.2.2.1,x6.2.2.2.1,x6.2.2.2.2.1,x6.2.2.2.2.2.1,x6.2.2.2.2.2.2.1,x6.2.2.2.2.2.2.2.1,x6.2.2.2.2.2.2.2.2.1,x6.2.2.2.2.2.2.2.2.2.1,x6.2.2.2.2.2.2.2.2.2.2.1,x6.2.2.2.2.2.2.2.2.2.2.2)))
 ((getI l4 0).bind fun i7=>
 (cutI l4 1 (l4.length:Int)).bind fun l8=>
 cond (i1==0)
 (some (.inr (1,(l8,(IntKind.i64.wrap i7),([]:List Int),(IntKind.i64.wrap ((IntKind.i64.wrap i7)+1)),0,0,0,([]:List (Int×Int)),(decide ((bits .and .i64 i2 1) > 0)),false,(decide ((bits .and .i64 i2 4) > 0)),([]:List Int),0,0,0,0,([]:List (Int×Int)),false,false,false,false,false,0))))
 (cond ((bits .and .i64 i2 32)==0)
 (some (.inr (1,(l8,(IntKind.i64.wrap i7),([]:List Int),(IntKind.i64.wrap ((IntKind.i64.wrap i7)+1)),0,0,0,([]:List (Int×Int)),(decide ((bits .and .i64 i2 1) > 0)),false,(decide ((bits .and .i64 i2 4) > 0)),([]:List Int),0,0,0,0,([]:List (Int×Int)),false,false,false,false,false,0))))
 (cond (decide ((l8.length:Int) < 5))
 ((F_part_conn 6).bind fun x9=>
 some (.inl (x9.1,x9.2.1,x9.2.2.1,x9.2.2.2.1,x9.2.2.2.2.1,x9.2.2.2.2.2.1,x9.2.2.2.2.2.2.1,x9.2.2.2.2.2.2.2.1,x9.2.2.2.2.2.2.2.2.1,x9.2.2.2.2.2.2.2.2.2.1,x9.2.2.2.2.2.2.2.2.2.2.1,x9.2.2.2.2.2.2.2.2.2.2.2)))
 ((cutI l8 5 (l8.length:Int)).bind fun l10=>
 cond (decide ((IntKind.i64.wrap i7) > (l10.length:Int)))
 ((F_part_conn 1).bind fun x11=>
 some (.inl (x11.1,x11.2.1,x11.2.2.1,x11.2.2.2.1,x11.2.2.2.2.1,x11.2.2.2.2.2.1,x11.2.2.2.2.2.2.1,x11.2.2.2.2.2.2.2.1,x11.2.2.2.2.2.2.2.2.1,x11.2.2.2.2.2.2.2.2.2.1,x11.2.2.2.2.2.2.2.2.2.2.1,x11.2.2.2.2.2.2.2.2.2.2.2)))
 ((cutI l10 0 (IntKind.i64.wrap ((l10.length:Int) - (IntKind.i64.wrap i7)))).bind fun l12=>
 (F_bytes_Clone l12).bind fun l13=>
 some (.inl (l13,(IntKind.i64.wrap ((IntKind.i64.wrap i7)+1)),0,0,0,([]:List (Int×Int)),(decide ((bits .and .i64 i2 1) > 0)),false,(decide ((bits .and .i64 i2 4) > 0)),false,false,0))))))))))
 (cond (i3==0)
 ((F_part_conn 1).bind fun x14=>
 some (.inl (x14.1,x14.2.1,x14.2.2.1,x14.2.2.2.1,x14.2.2.2.2.1,x14.2.2.2.2.2.1,x14.2.2.2.2.2.2.1,x14.2.2.2.2.2.2.2.1,x14.2.2.2.2.2.2.2.2.1,x14.2.2.2.2.2.2.2.2.2.1,x14.2.2.2.2.2.2.2.2.2.2.1,x14.2.2.2.2.2.2.2.2.2.2.2)))
 (cond ((bits .and .i64 i2 8)==0)
 (some (.inr (0,(l4,0,([]:List Int),0,0,0,0,([]:List (Int×Int)),(decide ((bits .and .i64 i2 1) > 0)),false,false,([]:List Int),0,0,0,0,([]:List (Int×Int)),false,false,false,false,false,0))))
 (cond ((l4.length:Int)==0)
 ((F_part_conn 6).bind fun x15=>
 some (.inl (x15.1,x15.2.1,x15.2.2.1,x15.2.2.2.1,x15.2.2.2.2.1,x15.2.2.2.2.2.1,x15.2.2.2.2.2.2.1,x15.2.2.2.2.2.2.2.1,x15.2.2.2.2.2.2.2.2.1,x15.2.2.2.2.2.2.2.2.2.1,x15.2.2.2.2.2.2.2.2.2.2.1,x15.2.2.2.2.2.2.2.2.2.2.2)))
 ((getI l4 0).bind fun i17=>
 (cutI l4 1 (l4.length:Int)).bind fun l18=>
 cond (i1==0)
 (some (.inr (1,(l18,(IntKind.i64.wrap i17),([]:List Int),(IntKind.i64.wrap ((IntKind.i64.wrap i17)+1)),0,0,0,([]:List (Int×Int)),(decide ((bits .and .i64 i2 1) > 0)),false,false,([]:List Int),0,0,0,0,([]:List (Int×Int)),false,false,false,false,false,0))))
 (cond ((bits .and .i64 i2 32)==0)
 (some (.inr (1,(l18,(IntKind.i64.wrap i17),([]:List Int),(IntKind.i64.wrap ((IntKind.i64.wrap i17)+1)),0,0,0,([]:List (Int×Int)),(decide ((bits .and .i64 i2 1) > 0)),false,false,([]:List Int),0,0,0,0,([]:List (Int×Int)),false,false,false,false,false,0))))
 (cond (decide ((l18.length:Int) < 5))
 ((F_part_conn 6).bind fun x19=>
 some (.inl (x19.1,x19.2.1,x19.2.2.1,x19.2.2.2.1,x19.2.2.2.2.1,x19.2.2.2.2.2.1,x19.2.2.2.2.2.2.1,x19.2.2.2.2.2.2.2.1,x19.2.2.2.2.2.2.2.2.1,x19.2.2.2.2.2.2.2.2.2.1,x19.2.2.2.2.2.2.2.2.2.2.1,x19.2.2.2.2.2.2.2.2.2.2.2)))
 ((cutI l18 5 (l18.length:Int)).bind fun l20=>
 cond (decide ((IntKind.i64.wrap i17) > (l20.length:Int)))
 ((F_part_conn 1).bind fun x21=>
 some (.inl (x21.1,x21.2.1,x21.2.2.1,x21.2.2.2.1,x21.2.2.2.2.1,x21.2.2.2.2.2.1,x21.2.2.2.2.2.2.1,x21.2.2.2.2.2.2.2.1,x21.2.2.2.2.2.2.2.2.1,x21.2.2.2.2.2.2.2.2.2.1,x21.2.2.2.2.2.2.2.2.2.2.1,x21.2.2.2.2.2.2.2.2.2.2.2)))
 ((cutI l20 0 (IntKind.i64.wrap ((l20.length:Int) - (IntKind.i64.wrap i17)))).bind fun l22=>
 (F_bytes_Clone l22).bind fun l23=>
 some (.inl (l23,(IntKind.i64.wrap ((IntKind.i64.wrap i17)+1)),0,0,0,([]:List (Int×Int)),(decide ((bits .and .i64 i2 1) > 0)),false,false,false,false,0)))))))))))
 (fun p=>loopC (S:=Nat×List Int×Int×List Int×Int×Int×Int×Int×List (Int×Int)×Bool×Bool×Bool×List Int×Int×Int×Int×Int×List (Int×Int)×Bool×Bool×Bool×Bool×Bool×Int) (R:=List Int×Int×Int×Int×Int×List (Int×Int)×Bool×Bool×Bool×Bool×Bool×Int) (F_part_bodied_G1 i1 i2) p)
def F_part_bodied_sig:Sig:=⟨[.v true [.d (.int .i64),.d (.int .i64),.d (.int .i64),.d (.sl (.int .u8))]],[(true,[.own 5 (.int .u8),.d (.int .i64),.d (.int .i64),.d (.int .i64),.d (.int .i64),.own 130 Zp10,.d .bool,.d .bool,.d .bool]),(true,[.d .bool,.d .bool,.d (.int .i64)])],[]⟩
def F_part_bodied_ann:List (Nat×Ann):=[(1,⟨2,[(5,false,[.d (.sl (.int .u8))]),(6,false,[.d (.int .i64)])],[(4,[.own 5 (.int .u8),.d (.int .i64),.d (.int .i64),.d (.int .i64),.d (.int .i64),.own 130 Zp10,.d .bool,.d .bool,.d .bool]),(2,[.own 5 (.int .u8),.d (.int .i64),.d (.int .i64),.d (.int .i64),.d (.int .i64),.own 130 Zp10,.d .bool,.d .bool,.d .bool]),(3,[.d .bool,.d .bool,.d (.int .i64)])],([4]++List.range' 7 75),[1],[],[4]⟩)]
noncomputable def F_part_bodied_env:Env:=⟨Tryz.prog,[(66,⟨F_bytes_Clone_sig,⟨F_bytes_Clone⟩⟩),(98,⟨F_part_conn_sig,⟨F_part_conn⟩⟩)],[]⟩
theorem F_part_bodied_text:pvFn F_part_bodied_env F_part_bodied_ann Tryz.f96 F_part_bodied_sig=F_part_bodied:=by kernel_rfl
noncomputable def F_part_number (l1:List Int):Option (Int):=
 (getI l1 0).bind fun i2=>
 (getI l1 1).bind fun i3=>
 (getI l1 2).bind fun i4=>
 (getI l1 3).bind fun i5=>
 some (bits .or .i64 (bits .or .i64 (bits .or .i64 (IntKind.i64.wrap ((IntKind.i64.wrap i2)*2 ^ 24)) (IntKind.i64.wrap ((IntKind.i64.wrap i3)*2 ^ 16))) (IntKind.i64.wrap ((IntKind.i64.wrap i4)*2 ^ 8))) (IntKind.i64.wrap i5))
def F_part_number_sig:Sig:=⟨[.v false [.d (.sl (.int .u8))]],[(false,[.d (.int .i64)])],[]⟩
def F_part_number_ann:List (Nat×Ann):=[]
noncomputable def F_part_number_env:Env:=⟨Tryz.prog,[],[]⟩
theorem F_part_number_text:pvFn F_part_number_env F_part_number_ann Tryz.f102 F_part_number_sig=F_part_number:=by kernel_rfl
noncomputable def F_part_settings_L9 (s:List Int×List Int×Int×Int×Int×Int×List (Int×Int)×Bool×Bool×Bool×Bool×Bool×Int×List Int×Int×Int×Int×Int×List (Int×Int)×Bool×Bool×Bool):Option (((List Int×Int×Int×Int×Int×List (Int×Int)×Bool×Bool×Bool×Bool×Bool×Int)⊕(List Int×Int×Int×Int×Int×List (Int×Int)×Bool×Bool×Bool×Bool×Bool×Int×List Int×Int×Int×Int×Int×List (Int×Int)×Bool×Bool×Bool))⊕(List Int×List Int×Int×Int×Int×Int×List (Int×Int)×Bool×Bool×Bool×Bool×Bool×Int×List Int×Int×Int×Int×Int×List (Int×Int)×Bool×Bool×Bool)):=
 let l8:=s.1;let l9:=s.2.1;let i10:=s.2.2.1;let i11:=s.2.2.2.1;let i12:=s.2.2.2.2.1;let i13:=s.2.2.2.2.2.1;let l14:=s.2.2.2.2.2.2.1;let b15:=s.2.2.2.2.2.2.2.1;let b16:=s.2.2.2.2.2.2.2.2.1;let b17:=s.2.2.2.2.2.2.2.2.2.1;let b18:=s.2.2.2.2.2.2.2.2.2.2.1;let b19:=s.2.2.2.2.2.2.2.2.2.2.2.1;let i20:=s.2.2.2.2.2.2.2.2.2.2.2.2.1;let l21:=s.2.2.2.2.2.2.2.2.2.2.2.2.2.1;let i22:=s.2.2.2.2.2.2.2.2.2.2.2.2.2.2.1;let i23:=s.2.2.2.2.2.2.2.2.2.2.2.2.2.2.2.1;let i24:=s.2.2.2.2.2.2.2.2.2.2.2.2.2.2.2.2.1;let i25:=s.2.2.2.2.2.2.2.2.2.2.2.2.2.2.2.2.2.1;let l26:=s.2.2.2.2.2.2.2.2.2.2.2.2.2.2.2.2.2.2.1;let b27:=s.2.2.2.2.2.2.2.2.2.2.2.2.2.2.2.2.2.2.2.1;let b28:=s.2.2.2.2.2.2.2.2.2.2.2.2.2.2.2.2.2.2.2.2.1;let b29:=s.2.2.2.2.2.2.2.2.2.2.2.2.2.2.2.2.2.2.2.2.2
 cond (decide ((l8.length:Int) > 0))
 ((getI l8 0).bind fun i30=>
 (getI l8 1).bind fun i31=>
 (cutI l8 2 (l8.length:Int)).bind fun l32=>
 (F_part_number l32).bind fun i33=>
 chk (decide ((l26.length+([((bits .or .i64 (IntKind.i64.wrap ((IntKind.i64.wrap i30)*2 ^ 8)) (IntKind.i64.wrap i31)),i33)]:List (Int×Int)).length)*16<=140737488355328)&&decide (l26.length+([((bits .or .i64 (IntKind.i64.wrap ((IntKind.i64.wrap i30)*2 ^ 8)) (IntKind.i64.wrap i31)),i33)]:List (Int×Int)).length<=maxLen))
 ((cutI l8 6 (l8.length:Int)).bind fun l34=>
 some (.inr (l34,l9,i10,i11,i12,i13,l14,b15,b16,b17,b18,b19,i20,l21,i22,i23,i24,i25,(l26++([((bits .or .i64 (IntKind.i64.wrap ((IntKind.i64.wrap i30)*2 ^ 8)) (IntKind.i64.wrap i31)),i33)]:List (Int×Int))),b27,b28,b29))))
 (some (.inl (.inr (l9,i10,i11,i12,i13,l14,b15,b16,b17,b18,b19,i20,l21,i22,i23,i24,i25,l26,b27,b28,b29))))
noncomputable def F_part_settings_J7 (s:List Int×Int×Int×Int×Int×List (Int×Int)×Bool×Bool×Bool×Bool×Bool×Int×List Int×Int×Int×Int×Int×List (Int×Int)×Bool×Bool×Bool):Option (List Int×Int×Int×Int×Int×List (Int×Int)×Bool×Bool×Bool×Bool×Bool×Int):=
 let l35:=s.1;let i36:=s.2.1;let i37:=s.2.2.1;let i38:=s.2.2.2.1;let i39:=s.2.2.2.2.1;let l40:=s.2.2.2.2.2.1;let b41:=s.2.2.2.2.2.2.1;let b42:=s.2.2.2.2.2.2.2.1;let b43:=s.2.2.2.2.2.2.2.2.1;let b44:=s.2.2.2.2.2.2.2.2.2.1;let b45:=s.2.2.2.2.2.2.2.2.2.2.1;let i46:=s.2.2.2.2.2.2.2.2.2.2.2.1;let l47:=s.2.2.2.2.2.2.2.2.2.2.2.2.1;let i48:=s.2.2.2.2.2.2.2.2.2.2.2.2.2.1;let i49:=s.2.2.2.2.2.2.2.2.2.2.2.2.2.2.1;let i50:=s.2.2.2.2.2.2.2.2.2.2.2.2.2.2.2.1;let i51:=s.2.2.2.2.2.2.2.2.2.2.2.2.2.2.2.2.1;let l52:=s.2.2.2.2.2.2.2.2.2.2.2.2.2.2.2.2.2.1;let b53:=s.2.2.2.2.2.2.2.2.2.2.2.2.2.2.2.2.2.2.1;let b54:=s.2.2.2.2.2.2.2.2.2.2.2.2.2.2.2.2.2.2.2.1;let b55:=s.2.2.2.2.2.2.2.2.2.2.2.2.2.2.2.2.2.2.2.2
 some (l47,i48,i49,i50,i51,l52,b53,b54,b55,false,false,0)
noncomputable def F_part_settings (i1:Int) (i2:Int) (i3:Int) (l4:List Int):Option (List Int×Int×Int×Int×Int×List (Int×Int)×Bool×Bool×Bool×Bool×Bool×Int):=
 cond (i3 != 0)
 ((F_part_conn 1).bind fun x5=>
 some (x5.1,x5.2.1,x5.2.2.1,x5.2.2.2.1,x5.2.2.2.2.1,x5.2.2.2.2.2.1,x5.2.2.2.2.2.2.1,x5.2.2.2.2.2.2.2.1,x5.2.2.2.2.2.2.2.2.1,x5.2.2.2.2.2.2.2.2.2.1,x5.2.2.2.2.2.2.2.2.2.2.1,x5.2.2.2.2.2.2.2.2.2.2.2))
 (cond (decide ((bits .and .i64 i2 1) > 0))
 (cond (decide ((l4.length:Int) > 0))
 ((F_part_conn 6).bind fun x6=>
 some (x6.1,x6.2.1,x6.2.2.1,x6.2.2.2.1,x6.2.2.2.2.1,x6.2.2.2.2.2.1,x6.2.2.2.2.2.2.1,x6.2.2.2.2.2.2.2.1,x6.2.2.2.2.2.2.2.2.1,x6.2.2.2.2.2.2.2.2.2.1,x6.2.2.2.2.2.2.2.2.2.2.1,x6.2.2.2.2.2.2.2.2.2.2.2))
 (cond (decide ((Int.tmod (l4.length:Int) 6) > 0))
 ((F_part_conn 6).bind fun x7=>
 some (x7.1,x7.2.1,x7.2.2.1,x7.2.2.2.1,x7.2.2.2.2.1,x7.2.2.2.2.2.1,x7.2.2.2.2.2.2.1,x7.2.2.2.2.2.2.2.1,x7.2.2.2.2.2.2.2.2.1,x7.2.2.2.2.2.2.2.2.2.1,x7.2.2.2.2.2.2.2.2.2.2.1,x7.2.2.2.2.2.2.2.2.2.2.2))
 (joinC (S:=List Int×Int×Int×Int×Int×List (Int×Int)×Bool×Bool×Bool×Bool×Bool×Int×List Int×Int×Int×Int×Int×List (Int×Int)×Bool×Bool×Bool) (R:=List Int×Int×Int×Int×Int×List (Int×Int)×Bool×Bool×Bool×Bool×Bool×Int)
 (loopC (S:=List Int×List Int×Int×Int×Int×Int×List (Int×Int)×Bool×Bool×Bool×Bool×Bool×Int×List Int×Int×Int×Int×Int×List (Int×Int)×Bool×Bool×Bool) (R:=(List Int×Int×Int×Int×Int×List (Int×Int)×Bool×Bool×Bool×Bool×Bool×Int)⊕(List Int×Int×Int×Int×Int×List (Int×Int)×Bool×Bool×Bool×Bool×Bool×Int×List Int×Int×Int×Int×Int×List (Int×Int)×Bool×Bool×Bool)) (F_part_settings_L9) (l4,([]:List Int),0,0,0,0,([]:List (Int×Int)),false,false,false,false,false,0,([]:List Int),0,0,0,0,([]:List (Int×Int)),false,(decide ((bits .and .i64 i2 1) > 0)),false))
 (F_part_settings_J7))))
 (cond (decide ((Int.tmod (l4.length:Int) 6) > 0))
 ((F_part_conn 6).bind fun x56=>
 some (x56.1,x56.2.1,x56.2.2.1,x56.2.2.2.1,x56.2.2.2.2.1,x56.2.2.2.2.2.1,x56.2.2.2.2.2.2.1,x56.2.2.2.2.2.2.2.1,x56.2.2.2.2.2.2.2.2.1,x56.2.2.2.2.2.2.2.2.2.1,x56.2.2.2.2.2.2.2.2.2.2.1,x56.2.2.2.2.2.2.2.2.2.2.2))
 (joinC (S:=List Int×Int×Int×Int×Int×List (Int×Int)×Bool×Bool×Bool×Bool×Bool×Int×List Int×Int×Int×Int×Int×List (Int×Int)×Bool×Bool×Bool) (R:=List Int×Int×Int×Int×Int×List (Int×Int)×Bool×Bool×Bool×Bool×Bool×Int)
 (loopC (S:=List Int×List Int×Int×Int×Int×Int×List (Int×Int)×Bool×Bool×Bool×Bool×Bool×Int×List Int×Int×Int×Int×Int×List (Int×Int)×Bool×Bool×Bool) (R:=(List Int×Int×Int×Int×Int×List (Int×Int)×Bool×Bool×Bool×Bool×Bool×Int)⊕(List Int×Int×Int×Int×Int×List (Int×Int)×Bool×Bool×Bool×Bool×Bool×Int×List Int×Int×Int×Int×Int×List (Int×Int)×Bool×Bool×Bool)) (F_part_settings_L9) (l4,([]:List Int),0,0,0,0,([]:List (Int×Int)),false,false,false,false,false,0,([]:List Int),0,0,0,0,([]:List (Int×Int)),false,(decide ((bits .and .i64 i2 1) > 0)),false))
 (F_part_settings_J7))))
def F_part_settings_sig:Sig:=⟨[.v true [.d (.int .i64),.d (.int .i64),.d (.int .i64),.d (.sl (.int .u8))]],[(true,[.own 5 (.int .u8),.d (.int .i64),.d (.int .i64),.d (.int .i64),.d (.int .i64),.own 130 Zp10,.d .bool,.d .bool,.d .bool]),(true,[.d .bool,.d .bool,.d (.int .i64)])],[]⟩
def F_part_settings_ann:List (Nat×Ann):=[(7,⟨8,[],[(2,[.own 5 (.int .u8),.d (.int .i64),.d (.int .i64),.d (.int .i64),.d (.int .i64),.own 130 Zp10,.d .bool,.d .bool,.d .bool]),(3,[.d .bool,.d .bool,.d (.int .i64)]),(4,[.own 5 (.int .u8),.d (.int .i64),.d (.int .i64),.d (.int .i64),.d (.int .i64),.own 130 Zp10,.d .bool,.d .bool,.d .bool])],([5]++List.range' 37 26),[],[],[]⟩),(9,⟨10,[(5,false,[.d (.sl (.int .u8))])],[(2,[.own 5 (.int .u8),.d (.int .i64),.d (.int .i64),.d (.int .i64),.d (.int .i64),.own 130 Zp10,.d .bool,.d .bool,.d .bool]),(3,[.d .bool,.d .bool,.d (.int .i64)]),(4,[.own 5 (.int .u8),.d (.int .i64),.d (.int .i64),.d (.int .i64),.d (.int .i64),.own 130 Zp10,.d .bool,.d .bool,.d .bool])],(List.range' 39 24),[],[],[]⟩)]
noncomputable def F_part_settings_env:Env:=⟨Tryz.prog,[(98,⟨F_part_conn_sig,⟨F_part_conn⟩⟩),(102,⟨F_part_number_sig,⟨F_part_number⟩⟩)],[45]⟩
theorem F_part_settings_text:pvFn F_part_settings_env F_part_settings_ann Tryz.f97 F_part_settings_sig=F_part_settings:=by kernel_rfl
noncomputable def F_part_whole (i1:Int) (i2:Int) (i3:Int) (l4:List Int):Option (List Int×Int×Int×Int×Int×List (Int×Int)×Bool×Bool×Bool×Bool×Bool×Int):=
 cond (i3 != 0)
 ((F_part_conn 1).bind fun x5=>
 some (x5.1,x5.2.1,x5.2.2.1,x5.2.2.2.1,x5.2.2.2.2.1,x5.2.2.2.2.2.1,x5.2.2.2.2.2.2.1,x5.2.2.2.2.2.2.2.1,x5.2.2.2.2.2.2.2.2.1,x5.2.2.2.2.2.2.2.2.2.1,x5.2.2.2.2.2.2.2.2.2.2.1,x5.2.2.2.2.2.2.2.2.2.2.2))
 (cond (decide ((l4.length:Int) < 8))
 ((F_part_conn 6).bind fun x6=>
 some (x6.1,x6.2.1,x6.2.2.1,x6.2.2.2.1,x6.2.2.2.2.1,x6.2.2.2.2.2.1,x6.2.2.2.2.2.2.1,x6.2.2.2.2.2.2.2.1,x6.2.2.2.2.2.2.2.2.1,x6.2.2.2.2.2.2.2.2.2.1,x6.2.2.2.2.2.2.2.2.2.2.1,x6.2.2.2.2.2.2.2.2.2.2.2))
 (cond (i1==6)
 (cond (decide ((l4.length:Int) > 8))
 ((F_part_conn 6).bind fun x7=>
 some (x7.1,x7.2.1,x7.2.2.1,x7.2.2.2.1,x7.2.2.2.2.1,x7.2.2.2.2.2.1,x7.2.2.2.2.2.2.1,x7.2.2.2.2.2.2.2.1,x7.2.2.2.2.2.2.2.2.1,x7.2.2.2.2.2.2.2.2.2.1,x7.2.2.2.2.2.2.2.2.2.2.1,x7.2.2.2.2.2.2.2.2.2.2.2))
 (cond (i1==6)
 ((F_bytes_Clone l4).bind fun l8=>
 some (l8,0,0,0,0,([]:List (Int×Int)),false,(decide ((bits .and .i64 i2 1) > 0)),false,false,false,0))
 ((F_part_number l4).bind fun i9=>
 (cutI l4 4 (l4.length:Int)).bind fun l10=>
 (F_part_number l10).bind fun i11=>
 some (([]:List Int),0,i11,(bits .and .i64 i9 2147483647),0,([]:List (Int×Int)),false,false,false,false,false,0))))
 (cond (i1==6)
 ((F_bytes_Clone l4).bind fun l12=>
 some (l12,0,0,0,0,([]:List (Int×Int)),false,(decide ((bits .and .i64 i2 1) > 0)),false,false,false,0))
 ((F_part_number l4).bind fun i13=>
 (cutI l4 4 (l4.length:Int)).bind fun l14=>
 (F_part_number l14).bind fun i15=>
 some (([]:List Int),0,i15,(bits .and .i64 i13 2147483647),0,([]:List (Int×Int)),false,false,false,false,false,0)))))
def F_part_whole_sig:Sig:=⟨[.v true [.d (.int .i64),.d (.int .i64),.d (.int .i64),.d (.sl (.int .u8))]],[(true,[.own 5 (.int .u8),.d (.int .i64),.d (.int .i64),.d (.int .i64),.d (.int .i64),.own 130 Zp10,.d .bool,.d .bool,.d .bool]),(true,[.d .bool,.d .bool,.d (.int .i64)])],[]⟩
def F_part_whole_ann:List (Nat×Ann):=[]
noncomputable def F_part_whole_env:Env:=⟨Tryz.prog,[(66,⟨F_bytes_Clone_sig,⟨F_bytes_Clone⟩⟩),(98,⟨F_part_conn_sig,⟨F_part_conn⟩⟩),(102,⟨F_part_number_sig,⟨F_part_number⟩⟩)],[]⟩
theorem F_part_whole_text:pvFn F_part_whole_env F_part_whole_ann Tryz.f99 F_part_whole_sig=F_part_whole:=by kernel_rfl
noncomputable def F_part_stream (i1:Int):Option (List Int×Int×Int×Int×Int×List (Int×Int)×Bool×Bool×Bool×Bool×Bool×Int):=
 some (([]:List Int),0,0,0,0,([]:List (Int×Int)),false,false,false,true,false,i1)
def F_part_stream_sig:Sig:=⟨[.v false [.d (.int .i64)]],[(true,[.own 5 (.int .u8),.d (.int .i64),.d (.int .i64),.d (.int .i64),.d (.int .i64),.own 130 Zp10,.d .bool,.d .bool,.d .bool]),(true,[.d .bool,.d .bool,.d (.int .i64)])],[]⟩
def F_part_stream_ann:List (Nat×Ann):=[]
noncomputable def F_part_stream_env:Env:=⟨Tryz.prog,[],[]⟩
theorem F_part_stream_text:pvFn F_part_stream_env F_part_stream_ann Tryz.f101 F_part_stream_sig=F_part_stream:=by kernel_rfl
noncomputable def F_part_update (i1:Int) (i2:Int) (i3:Int) (l4:List Int):Option (List Int×Int×Int×Int×Int×List (Int×Int)×Bool×Bool×Bool×Bool×Bool×Int):=
 cond ((l4.length:Int) != 4)
 ((F_part_conn 6).bind fun x5=>
 some (x5.1,x5.2.1,x5.2.2.1,x5.2.2.2.1,x5.2.2.2.2.1,x5.2.2.2.2.2.1,x5.2.2.2.2.2.2.1,x5.2.2.2.2.2.2.2.1,x5.2.2.2.2.2.2.2.2.1,x5.2.2.2.2.2.2.2.2.2.1,x5.2.2.2.2.2.2.2.2.2.2.1,x5.2.2.2.2.2.2.2.2.2.2.2))
 ((F_part_number l4).bind fun i6=>
 cond ((bits .and .i64 i6 2147483647)==0)
 (cond (i3==0)
 ((F_part_conn 1).bind fun x7=>
 some (x7.1,x7.2.1,x7.2.2.1,x7.2.2.2.1,x7.2.2.2.2.1,x7.2.2.2.2.2.1,x7.2.2.2.2.2.2.1,x7.2.2.2.2.2.2.2.1,x7.2.2.2.2.2.2.2.2.1,x7.2.2.2.2.2.2.2.2.2.1,x7.2.2.2.2.2.2.2.2.2.2.1,x7.2.2.2.2.2.2.2.2.2.2.2))
 (cond ((bits .and .i64 i6 2147483647)==0)
 ((F_part_stream 1).bind fun x8=>
 some (x8.1,x8.2.1,x8.2.2.1,x8.2.2.2.1,x8.2.2.2.2.1,x8.2.2.2.2.2.1,x8.2.2.2.2.2.2.1,x8.2.2.2.2.2.2.2.1,x8.2.2.2.2.2.2.2.2.1,x8.2.2.2.2.2.2.2.2.2.1,x8.2.2.2.2.2.2.2.2.2.2.1,x8.2.2.2.2.2.2.2.2.2.2.2))
 (some (([]:List Int),0,0,0,(bits .and .i64 i6 2147483647),([]:List (Int×Int)),false,false,false,false,false,0))))
 (cond ((bits .and .i64 i6 2147483647)==0)
 ((F_part_stream 1).bind fun x9=>
 some (x9.1,x9.2.1,x9.2.2.1,x9.2.2.2.1,x9.2.2.2.2.1,x9.2.2.2.2.2.1,x9.2.2.2.2.2.2.1,x9.2.2.2.2.2.2.2.1,x9.2.2.2.2.2.2.2.2.1,x9.2.2.2.2.2.2.2.2.2.1,x9.2.2.2.2.2.2.2.2.2.2.1,x9.2.2.2.2.2.2.2.2.2.2.2))
 (some (([]:List Int),0,0,0,(bits .and .i64 i6 2147483647),([]:List (Int×Int)),false,false,false,false,false,0))))
def F_part_update_sig:Sig:=⟨[.v true [.d (.int .i64),.d (.int .i64),.d (.int .i64),.d (.sl (.int .u8))]],[(true,[.own 5 (.int .u8),.d (.int .i64),.d (.int .i64),.d (.int .i64),.d (.int .i64),.own 130 Zp10,.d .bool,.d .bool,.d .bool]),(true,[.d .bool,.d .bool,.d (.int .i64)])],[]⟩
def F_part_update_ann:List (Nat×Ann):=[]
noncomputable def F_part_update_env:Env:=⟨Tryz.prog,[(98,⟨F_part_conn_sig,⟨F_part_conn⟩⟩),(101,⟨F_part_stream_sig,⟨F_part_stream⟩⟩),(102,⟨F_part_number_sig,⟨F_part_number⟩⟩)],[]⟩
theorem F_part_update_text:pvFn F_part_update_env F_part_update_ann Tryz.f100 F_part_update_sig=F_part_update:=by kernel_rfl
noncomputable def F_part_Read (i1:Int) (i2:Int) (i3:Int) (l4:List Int):Option (List Int×Int×Int×Int×Int×List (Int×Int)×Bool×Bool×Bool×Bool×Bool×Int):=
 cond (i1==0)
 (cond (i1==0)
 ((F_part_bodied i1 i2 i3 l4).bind fun x5=>
 some (x5.1,x5.2.1,x5.2.2.1,x5.2.2.2.1,x5.2.2.2.2.1,x5.2.2.2.2.2.1,x5.2.2.2.2.2.2.1,x5.2.2.2.2.2.2.2.1,x5.2.2.2.2.2.2.2.2.1,x5.2.2.2.2.2.2.2.2.2.1,x5.2.2.2.2.2.2.2.2.2.2.1,x5.2.2.2.2.2.2.2.2.2.2.2))
 (cond (i1==4)
 ((F_part_settings i1 i2 i3 l4).bind fun x6=>
 some (x6.1,x6.2.1,x6.2.2.1,x6.2.2.2.1,x6.2.2.2.2.1,x6.2.2.2.2.2.1,x6.2.2.2.2.2.2.1,x6.2.2.2.2.2.2.2.1,x6.2.2.2.2.2.2.2.2.1,x6.2.2.2.2.2.2.2.2.2.1,x6.2.2.2.2.2.2.2.2.2.2.1,x6.2.2.2.2.2.2.2.2.2.2.2))
 (cond (i1==5)
 ((F_part_conn 1).bind fun x7=>
 some (x7.1,x7.2.1,x7.2.2.1,x7.2.2.2.1,x7.2.2.2.2.1,x7.2.2.2.2.2.1,x7.2.2.2.2.2.2.1,x7.2.2.2.2.2.2.2.1,x7.2.2.2.2.2.2.2.2.1,x7.2.2.2.2.2.2.2.2.2.1,x7.2.2.2.2.2.2.2.2.2.2.1,x7.2.2.2.2.2.2.2.2.2.2.2))
 (cond (i1==6)
 (cond (i1==6)
 ((F_part_whole i1 i2 i3 l4).bind fun x8=>
 some (x8.1,x8.2.1,x8.2.2.1,x8.2.2.2.1,x8.2.2.2.2.1,x8.2.2.2.2.2.1,x8.2.2.2.2.2.2.1,x8.2.2.2.2.2.2.2.1,x8.2.2.2.2.2.2.2.2.1,x8.2.2.2.2.2.2.2.2.2.1,x8.2.2.2.2.2.2.2.2.2.2.1,x8.2.2.2.2.2.2.2.2.2.2.2))
 (cond (i1==8)
 ((F_part_update i1 i2 i3 l4).bind fun x9=>
 some (x9.1,x9.2.1,x9.2.2.1,x9.2.2.2.1,x9.2.2.2.2.1,x9.2.2.2.2.2.1,x9.2.2.2.2.2.2.1,x9.2.2.2.2.2.2.2.1,x9.2.2.2.2.2.2.2.2.1,x9.2.2.2.2.2.2.2.2.2.1,x9.2.2.2.2.2.2.2.2.2.2.1,x9.2.2.2.2.2.2.2.2.2.2.2))
 (cond (i1==2)
 (cond (i1==2)
 (cond (i3==0)
 ((F_part_conn 1).bind fun x10=>
 some (x10.1,x10.2.1,x10.2.2.1,x10.2.2.2.1,x10.2.2.2.2.1,x10.2.2.2.2.2.1,x10.2.2.2.2.2.2.1,x10.2.2.2.2.2.2.2.1,x10.2.2.2.2.2.2.2.2.1,x10.2.2.2.2.2.2.2.2.2.1,x10.2.2.2.2.2.2.2.2.2.2.1,x10.2.2.2.2.2.2.2.2.2.2.2))
 (cond (i1==9)
 ((F_bytes_Clone l4).bind fun l11=>
 some (l11,0,0,0,0,([]:List (Int×Int)),false,false,(decide ((bits .and .i64 i2 4) > 0)),false,false,0))
 (cond (i1==2)
 (cond ((l4.length:Int) != 5)
 ((F_part_stream 6).bind fun x12=>
 some (x12.1,x12.2.1,x12.2.2.1,x12.2.2.2.1,x12.2.2.2.2.1,x12.2.2.2.2.2.1,x12.2.2.2.2.2.2.1,x12.2.2.2.2.2.2.2.1,x12.2.2.2.2.2.2.2.2.1,x12.2.2.2.2.2.2.2.2.2.1,x12.2.2.2.2.2.2.2.2.2.2.1,x12.2.2.2.2.2.2.2.2.2.2.2))
 (cond (i1==2)
 (some (([]:List Int),0,0,0,0,([]:List (Int×Int)),false,false,false,false,false,0))
 (cond ((l4.length:Int) != 4)
 ((F_part_conn 6).bind fun x13=>
 some (x13.1,x13.2.1,x13.2.2.1,x13.2.2.2.1,x13.2.2.2.2.1,x13.2.2.2.2.2.1,x13.2.2.2.2.2.2.1,x13.2.2.2.2.2.2.2.1,x13.2.2.2.2.2.2.2.2.1,x13.2.2.2.2.2.2.2.2.2.1,x13.2.2.2.2.2.2.2.2.2.2.1,x13.2.2.2.2.2.2.2.2.2.2.2))
 ((F_part_number l4).bind fun i14=>
 some (([]:List Int),0,i14,0,0,([]:List (Int×Int)),false,false,false,false,false,0)))))
 (cond (i1==2)
 (some (([]:List Int),0,0,0,0,([]:List (Int×Int)),false,false,false,false,false,0))
 (cond ((l4.length:Int) != 4)
 ((F_part_conn 6).bind fun x15=>
 some (x15.1,x15.2.1,x15.2.2.1,x15.2.2.2.1,x15.2.2.2.2.1,x15.2.2.2.2.2.1,x15.2.2.2.2.2.2.1,x15.2.2.2.2.2.2.2.1,x15.2.2.2.2.2.2.2.2.1,x15.2.2.2.2.2.2.2.2.2.1,x15.2.2.2.2.2.2.2.2.2.2.1,x15.2.2.2.2.2.2.2.2.2.2.2))
 ((F_part_number l4).bind fun i17=>
 some (([]:List Int),0,i17,0,0,([]:List (Int×Int)),false,false,false,false,false,0)))))))
 (some (([]:List Int),0,0,0,0,([]:List (Int×Int)),false,false,false,false,false,0)))
 (cond (i1==3)
 (cond (i1==3)
 (cond (i3==0)
 ((F_part_conn 1).bind fun x18=>
 some (x18.1,x18.2.1,x18.2.2.1,x18.2.2.2.1,x18.2.2.2.2.1,x18.2.2.2.2.2.1,x18.2.2.2.2.2.2.1,x18.2.2.2.2.2.2.2.1,x18.2.2.2.2.2.2.2.2.1,x18.2.2.2.2.2.2.2.2.2.1,x18.2.2.2.2.2.2.2.2.2.2.1,x18.2.2.2.2.2.2.2.2.2.2.2))
 (cond (i1==9)
 ((F_bytes_Clone l4).bind fun l19=>
 some (l19,0,0,0,0,([]:List (Int×Int)),false,false,(decide ((bits .and .i64 i2 4) > 0)),false,false,0))
 (cond (i1==2)
 (cond ((l4.length:Int) != 5)
 ((F_part_stream 6).bind fun x20=>
 some (x20.1,x20.2.1,x20.2.2.1,x20.2.2.2.1,x20.2.2.2.2.1,x20.2.2.2.2.2.1,x20.2.2.2.2.2.2.1,x20.2.2.2.2.2.2.2.1,x20.2.2.2.2.2.2.2.2.1,x20.2.2.2.2.2.2.2.2.2.1,x20.2.2.2.2.2.2.2.2.2.2.1,x20.2.2.2.2.2.2.2.2.2.2.2))
 (cond (i1==2)
 (some (([]:List Int),0,0,0,0,([]:List (Int×Int)),false,false,false,false,false,0))
 (cond ((l4.length:Int) != 4)
 ((F_part_conn 6).bind fun x21=>
 some (x21.1,x21.2.1,x21.2.2.1,x21.2.2.2.1,x21.2.2.2.2.1,x21.2.2.2.2.2.1,x21.2.2.2.2.2.2.1,x21.2.2.2.2.2.2.2.1,x21.2.2.2.2.2.2.2.2.1,x21.2.2.2.2.2.2.2.2.2.1,x21.2.2.2.2.2.2.2.2.2.2.1,x21.2.2.2.2.2.2.2.2.2.2.2))
 ((F_part_number l4).bind fun i22=>
 some (([]:List Int),0,i22,0,0,([]:List (Int×Int)),false,false,false,false,false,0)))))
 (cond (i1==2)
 (some (([]:List Int),0,0,0,0,([]:List (Int×Int)),false,false,false,false,false,0))
 (cond ((l4.length:Int) != 4)
 ((F_part_conn 6).bind fun x23=>
 some (x23.1,x23.2.1,x23.2.2.1,x23.2.2.2.1,x23.2.2.2.2.1,x23.2.2.2.2.2.1,x23.2.2.2.2.2.2.1,x23.2.2.2.2.2.2.2.1,x23.2.2.2.2.2.2.2.2.1,x23.2.2.2.2.2.2.2.2.2.1,x23.2.2.2.2.2.2.2.2.2.2.1,x23.2.2.2.2.2.2.2.2.2.2.2))
 ((F_part_number l4).bind fun i24=>
 some (([]:List Int),0,i24,0,0,([]:List (Int×Int)),false,false,false,false,false,0)))))))
 (some (([]:List Int),0,0,0,0,([]:List (Int×Int)),false,false,false,false,false,0)))
 (cond (i1==9)
 (cond (i3==0)
 ((F_part_conn 1).bind fun x25=>
 some (x25.1,x25.2.1,x25.2.2.1,x25.2.2.2.1,x25.2.2.2.2.1,x25.2.2.2.2.2.1,x25.2.2.2.2.2.2.1,x25.2.2.2.2.2.2.2.1,x25.2.2.2.2.2.2.2.2.1,x25.2.2.2.2.2.2.2.2.2.1,x25.2.2.2.2.2.2.2.2.2.2.1,x25.2.2.2.2.2.2.2.2.2.2.2))
 (cond (i1==9)
 ((F_bytes_Clone l4).bind fun l26=>
 some (l26,0,0,0,0,([]:List (Int×Int)),false,false,(decide ((bits .and .i64 i2 4) > 0)),false,false,0))
 (cond (i1==2)
 (cond ((l4.length:Int) != 5)
 ((F_part_stream 6).bind fun x27=>
 some (x27.1,x27.2.1,x27.2.2.1,x27.2.2.2.1,x27.2.2.2.2.1,x27.2.2.2.2.2.1,x27.2.2.2.2.2.2.1,x27.2.2.2.2.2.2.2.1,x27.2.2.2.2.2.2.2.2.1,x27.2.2.2.2.2.2.2.2.2.1,x27.2.2.2.2.2.2.2.2.2.2.1,x27.2.2.2.2.2.2.2.2.2.2.2))
 (cond (i1==2)
 (some (([]:List Int),0,0,0,0,([]:List (Int×Int)),false,false,false,false,false,0))
 (cond ((l4.length:Int) != 4)
 ((F_part_conn 6).bind fun x28=>
 some (x28.1,x28.2.1,x28.2.2.1,x28.2.2.2.1,x28.2.2.2.2.1,x28.2.2.2.2.2.1,x28.2.2.2.2.2.2.1,x28.2.2.2.2.2.2.2.1,x28.2.2.2.2.2.2.2.2.1,x28.2.2.2.2.2.2.2.2.2.1,x28.2.2.2.2.2.2.2.2.2.2.1,x28.2.2.2.2.2.2.2.2.2.2.2))
 ((F_part_number l4).bind fun i29=>
 some (([]:List Int),0,i29,0,0,([]:List (Int×Int)),false,false,false,false,false,0)))))
 (cond (i1==2)
 (some (([]:List Int),0,0,0,0,([]:List (Int×Int)),false,false,false,false,false,0))
 (cond ((l4.length:Int) != 4)
 ((F_part_conn 6).bind fun x30=>
 some (x30.1,x30.2.1,x30.2.2.1,x30.2.2.2.1,x30.2.2.2.2.1,x30.2.2.2.2.2.1,x30.2.2.2.2.2.2.1,x30.2.2.2.2.2.2.2.1,x30.2.2.2.2.2.2.2.2.1,x30.2.2.2.2.2.2.2.2.2.1,x30.2.2.2.2.2.2.2.2.2.2.1,x30.2.2.2.2.2.2.2.2.2.2.2))
 ((F_part_number l4).bind fun i31=>
 some (([]:List Int),0,i31,0,0,([]:List (Int×Int)),false,false,false,false,false,0)))))))
 (some (([]:List Int),0,0,0,0,([]:List (Int×Int)),false,false,false,false,false,0)))))))
 (cond (i1==7)
 ((F_part_whole i1 i2 i3 l4).bind fun x32=>
 some (x32.1,x32.2.1,x32.2.2.1,x32.2.2.2.1,x32.2.2.2.2.1,x32.2.2.2.2.2.1,x32.2.2.2.2.2.2.1,x32.2.2.2.2.2.2.2.1,x32.2.2.2.2.2.2.2.2.1,x32.2.2.2.2.2.2.2.2.2.1,x32.2.2.2.2.2.2.2.2.2.2.1,x32.2.2.2.2.2.2.2.2.2.2.2))
 (cond (i1==8)
 ((F_part_update i1 i2 i3 l4).bind fun x33=>
 some (x33.1,x33.2.1,x33.2.2.1,x33.2.2.2.1,x33.2.2.2.2.1,x33.2.2.2.2.2.1,x33.2.2.2.2.2.2.1,x33.2.2.2.2.2.2.2.1,x33.2.2.2.2.2.2.2.2.1,x33.2.2.2.2.2.2.2.2.2.1,x33.2.2.2.2.2.2.2.2.2.2.1,x33.2.2.2.2.2.2.2.2.2.2.2))
 (cond (i1==2)
 (cond (i1==2)
 (cond (i3==0)
 ((F_part_conn 1).bind fun x34=>
 some (x34.1,x34.2.1,x34.2.2.1,x34.2.2.2.1,x34.2.2.2.2.1,x34.2.2.2.2.2.1,x34.2.2.2.2.2.2.1,x34.2.2.2.2.2.2.2.1,x34.2.2.2.2.2.2.2.2.1,x34.2.2.2.2.2.2.2.2.2.1,x34.2.2.2.2.2.2.2.2.2.2.1,x34.2.2.2.2.2.2.2.2.2.2.2))
 (cond (i1==9)
 ((F_bytes_Clone l4).bind fun l35=>
 some (l35,0,0,0,0,([]:List (Int×Int)),false,false,(decide ((bits .and .i64 i2 4) > 0)),false,false,0))
 (cond (i1==2)
 (cond ((l4.length:Int) != 5)
 ((F_part_stream 6).bind fun x36=>
 some (x36.1,x36.2.1,x36.2.2.1,x36.2.2.2.1,x36.2.2.2.2.1,x36.2.2.2.2.2.1,x36.2.2.2.2.2.2.1,x36.2.2.2.2.2.2.2.1,x36.2.2.2.2.2.2.2.2.1,x36.2.2.2.2.2.2.2.2.2.1,x36.2.2.2.2.2.2.2.2.2.2.1,x36.2.2.2.2.2.2.2.2.2.2.2))
 (cond (i1==2)
 (some (([]:List Int),0,0,0,0,([]:List (Int×Int)),false,false,false,false,false,0))
 (cond ((l4.length:Int) != 4)
 ((F_part_conn 6).bind fun x37=>
 some (x37.1,x37.2.1,x37.2.2.1,x37.2.2.2.1,x37.2.2.2.2.1,x37.2.2.2.2.2.1,x37.2.2.2.2.2.2.1,x37.2.2.2.2.2.2.2.1,x37.2.2.2.2.2.2.2.2.1,x37.2.2.2.2.2.2.2.2.2.1,x37.2.2.2.2.2.2.2.2.2.2.1,x37.2.2.2.2.2.2.2.2.2.2.2))
 ((F_part_number l4).bind fun i38=>
 some (([]:List Int),0,i38,0,0,([]:List (Int×Int)),false,false,false,false,false,0)))))
 (cond (i1==2)
 (some (([]:List Int),0,0,0,0,([]:List (Int×Int)),false,false,false,false,false,0))
 (cond ((l4.length:Int) != 4)
 ((F_part_conn 6).bind fun x39=>
 some (x39.1,x39.2.1,x39.2.2.1,x39.2.2.2.1,x39.2.2.2.2.1,x39.2.2.2.2.2.1,x39.2.2.2.2.2.2.1,x39.2.2.2.2.2.2.2.1,x39.2.2.2.2.2.2.2.2.1,x39.2.2.2.2.2.2.2.2.2.1,x39.2.2.2.2.2.2.2.2.2.2.1,x39.2.2.2.2.2.2.2.2.2.2.2))
 ((F_part_number l4).bind fun i40=>
 some (([]:List Int),0,i40,0,0,([]:List (Int×Int)),false,false,false,false,false,0)))))))
 (some (([]:List Int),0,0,0,0,([]:List (Int×Int)),false,false,false,false,false,0)))
 (cond (i1==3)
 (cond (i1==3)
 (cond (i3==0)
 ((F_part_conn 1).bind fun x41=>
 some (x41.1,x41.2.1,x41.2.2.1,x41.2.2.2.1,x41.2.2.2.2.1,x41.2.2.2.2.2.1,x41.2.2.2.2.2.2.1,x41.2.2.2.2.2.2.2.1,x41.2.2.2.2.2.2.2.2.1,x41.2.2.2.2.2.2.2.2.2.1,x41.2.2.2.2.2.2.2.2.2.2.1,x41.2.2.2.2.2.2.2.2.2.2.2))
 (cond (i1==9)
 ((F_bytes_Clone l4).bind fun l42=>
 some (l42,0,0,0,0,([]:List (Int×Int)),false,false,(decide ((bits .and .i64 i2 4) > 0)),false,false,0))
 (cond (i1==2)
 (cond ((l4.length:Int) != 5)
 ((F_part_stream 6).bind fun x43=>
 some (x43.1,x43.2.1,x43.2.2.1,x43.2.2.2.1,x43.2.2.2.2.1,x43.2.2.2.2.2.1,x43.2.2.2.2.2.2.1,x43.2.2.2.2.2.2.2.1,x43.2.2.2.2.2.2.2.2.1,x43.2.2.2.2.2.2.2.2.2.1,x43.2.2.2.2.2.2.2.2.2.2.1,x43.2.2.2.2.2.2.2.2.2.2.2))
 (cond (i1==2)
 (some (([]:List Int),0,0,0,0,([]:List (Int×Int)),false,false,false,false,false,0))
 (cond ((l4.length:Int) != 4)
 ((F_part_conn 6).bind fun x44=>
 some (x44.1,x44.2.1,x44.2.2.1,x44.2.2.2.1,x44.2.2.2.2.1,x44.2.2.2.2.2.1,x44.2.2.2.2.2.2.1,x44.2.2.2.2.2.2.2.1,x44.2.2.2.2.2.2.2.2.1,x44.2.2.2.2.2.2.2.2.2.1,x44.2.2.2.2.2.2.2.2.2.2.1,x44.2.2.2.2.2.2.2.2.2.2.2))
 ((F_part_number l4).bind fun i45=>
 some (([]:List Int),0,i45,0,0,([]:List (Int×Int)),false,false,false,false,false,0)))))
 (cond (i1==2)
 (some (([]:List Int),0,0,0,0,([]:List (Int×Int)),false,false,false,false,false,0))
 (cond ((l4.length:Int) != 4)
 ((F_part_conn 6).bind fun x46=>
 some (x46.1,x46.2.1,x46.2.2.1,x46.2.2.2.1,x46.2.2.2.2.1,x46.2.2.2.2.2.1,x46.2.2.2.2.2.2.1,x46.2.2.2.2.2.2.2.1,x46.2.2.2.2.2.2.2.2.1,x46.2.2.2.2.2.2.2.2.2.1,x46.2.2.2.2.2.2.2.2.2.2.1,x46.2.2.2.2.2.2.2.2.2.2.2))
 ((F_part_number l4).bind fun i47=>
 some (([]:List Int),0,i47,0,0,([]:List (Int×Int)),false,false,false,false,false,0)))))))
 (some (([]:List Int),0,0,0,0,([]:List (Int×Int)),false,false,false,false,false,0)))
 (cond (i1==9)
 (cond (i3==0)
 ((F_part_conn 1).bind fun x48=>
 some (x48.1,x48.2.1,x48.2.2.1,x48.2.2.2.1,x48.2.2.2.2.1,x48.2.2.2.2.2.1,x48.2.2.2.2.2.2.1,x48.2.2.2.2.2.2.2.1,x48.2.2.2.2.2.2.2.2.1,x48.2.2.2.2.2.2.2.2.2.1,x48.2.2.2.2.2.2.2.2.2.2.1,x48.2.2.2.2.2.2.2.2.2.2.2))
 (cond (i1==9)
 ((F_bytes_Clone l4).bind fun l49=>
 some (l49,0,0,0,0,([]:List (Int×Int)),false,false,(decide ((bits .and .i64 i2 4) > 0)),false,false,0))
 (cond (i1==2)
 (cond ((l4.length:Int) != 5)
 ((F_part_stream 6).bind fun x50=>
 some (x50.1,x50.2.1,x50.2.2.1,x50.2.2.2.1,x50.2.2.2.2.1,x50.2.2.2.2.2.1,x50.2.2.2.2.2.2.1,x50.2.2.2.2.2.2.2.1,x50.2.2.2.2.2.2.2.2.1,x50.2.2.2.2.2.2.2.2.2.1,x50.2.2.2.2.2.2.2.2.2.2.1,x50.2.2.2.2.2.2.2.2.2.2.2))
 (cond (i1==2)
 (some (([]:List Int),0,0,0,0,([]:List (Int×Int)),false,false,false,false,false,0))
 (cond ((l4.length:Int) != 4)
 ((F_part_conn 6).bind fun x51=>
 some (x51.1,x51.2.1,x51.2.2.1,x51.2.2.2.1,x51.2.2.2.2.1,x51.2.2.2.2.2.1,x51.2.2.2.2.2.2.1,x51.2.2.2.2.2.2.2.1,x51.2.2.2.2.2.2.2.2.1,x51.2.2.2.2.2.2.2.2.2.1,x51.2.2.2.2.2.2.2.2.2.2.1,x51.2.2.2.2.2.2.2.2.2.2.2))
 ((F_part_number l4).bind fun i52=>
 some (([]:List Int),0,i52,0,0,([]:List (Int×Int)),false,false,false,false,false,0)))))
 (cond (i1==2)
 (some (([]:List Int),0,0,0,0,([]:List (Int×Int)),false,false,false,false,false,0))
 (cond ((l4.length:Int) != 4)
 ((F_part_conn 6).bind fun x53=>
 some (x53.1,x53.2.1,x53.2.2.1,x53.2.2.2.1,x53.2.2.2.2.1,x53.2.2.2.2.2.1,x53.2.2.2.2.2.2.1,x53.2.2.2.2.2.2.2.1,x53.2.2.2.2.2.2.2.2.1,x53.2.2.2.2.2.2.2.2.2.1,x53.2.2.2.2.2.2.2.2.2.2.1,x53.2.2.2.2.2.2.2.2.2.2.2))
 ((F_part_number l4).bind fun i54=>
 some (([]:List Int),0,i54,0,0,([]:List (Int×Int)),false,false,false,false,false,0)))))))
 (some (([]:List Int),0,0,0,0,([]:List (Int×Int)),false,false,false,false,false,0)))))))))))
 (cond (i1==1)
 ((F_part_bodied i1 i2 i3 l4).bind fun x55=>
 some (x55.1,x55.2.1,x55.2.2.1,x55.2.2.2.1,x55.2.2.2.2.1,x55.2.2.2.2.2.1,x55.2.2.2.2.2.2.1,x55.2.2.2.2.2.2.2.1,x55.2.2.2.2.2.2.2.2.1,x55.2.2.2.2.2.2.2.2.2.1,x55.2.2.2.2.2.2.2.2.2.2.1,x55.2.2.2.2.2.2.2.2.2.2.2))
 (cond (i1==4)
 ((F_part_settings i1 i2 i3 l4).bind fun x56=>
 some (x56.1,x56.2.1,x56.2.2.1,x56.2.2.2.1,x56.2.2.2.2.1,x56.2.2.2.2.2.1,x56.2.2.2.2.2.2.1,x56.2.2.2.2.2.2.2.1,x56.2.2.2.2.2.2.2.2.1,x56.2.2.2.2.2.2.2.2.2.1,x56.2.2.2.2.2.2.2.2.2.2.1,x56.2.2.2.2.2.2.2.2.2.2.2))
 (cond (i1==5)
 ((F_part_conn 1).bind fun x57=>
 some (x57.1,x57.2.1,x57.2.2.1,x57.2.2.2.1,x57.2.2.2.2.1,x57.2.2.2.2.2.1,x57.2.2.2.2.2.2.1,x57.2.2.2.2.2.2.2.1,x57.2.2.2.2.2.2.2.2.1,x57.2.2.2.2.2.2.2.2.2.1,x57.2.2.2.2.2.2.2.2.2.2.1,x57.2.2.2.2.2.2.2.2.2.2.2))
 (cond (i1==6)
 (cond (i1==6)
 ((F_part_whole i1 i2 i3 l4).bind fun x58=>
 some (x58.1,x58.2.1,x58.2.2.1,x58.2.2.2.1,x58.2.2.2.2.1,x58.2.2.2.2.2.1,x58.2.2.2.2.2.2.1,x58.2.2.2.2.2.2.2.1,x58.2.2.2.2.2.2.2.2.1,x58.2.2.2.2.2.2.2.2.2.1,x58.2.2.2.2.2.2.2.2.2.2.1,x58.2.2.2.2.2.2.2.2.2.2.2))
 (cond (i1==8)
 ((F_part_update i1 i2 i3 l4).bind fun x59=>
 some (x59.1,x59.2.1,x59.2.2.1,x59.2.2.2.1,x59.2.2.2.2.1,x59.2.2.2.2.2.1,x59.2.2.2.2.2.2.1,x59.2.2.2.2.2.2.2.1,x59.2.2.2.2.2.2.2.2.1,x59.2.2.2.2.2.2.2.2.2.1,x59.2.2.2.2.2.2.2.2.2.2.1,x59.2.2.2.2.2.2.2.2.2.2.2))
 (cond (i1==2)
 (cond (i1==2)
 (cond (i3==0)
 ((F_part_conn 1).bind fun x60=>
 some (x60.1,x60.2.1,x60.2.2.1,x60.2.2.2.1,x60.2.2.2.2.1,x60.2.2.2.2.2.1,x60.2.2.2.2.2.2.1,x60.2.2.2.2.2.2.2.1,x60.2.2.2.2.2.2.2.2.1,x60.2.2.2.2.2.2.2.2.2.1,x60.2.2.2.2.2.2.2.2.2.2.1,x60.2.2.2.2.2.2.2.2.2.2.2))
 (cond (i1==9)
 ((F_bytes_Clone l4).bind fun l61=>
 some (l61,0,0,0,0,([]:List (Int×Int)),false,false,(decide ((bits .and .i64 i2 4) > 0)),false,false,0))
 (cond (i1==2)
 (cond ((l4.length:Int) != 5)
 ((F_part_stream 6).bind fun x62=>
 some (x62.1,x62.2.1,x62.2.2.1,x62.2.2.2.1,x62.2.2.2.2.1,x62.2.2.2.2.2.1,x62.2.2.2.2.2.2.1,x62.2.2.2.2.2.2.2.1,x62.2.2.2.2.2.2.2.2.1,x62.2.2.2.2.2.2.2.2.2.1,x62.2.2.2.2.2.2.2.2.2.2.1,x62.2.2.2.2.2.2.2.2.2.2.2))
 (cond (i1==2)
 (some (([]:List Int),0,0,0,0,([]:List (Int×Int)),false,false,false,false,false,0))
 (cond ((l4.length:Int) != 4)
 ((F_part_conn 6).bind fun x63=>
 some (x63.1,x63.2.1,x63.2.2.1,x63.2.2.2.1,x63.2.2.2.2.1,x63.2.2.2.2.2.1,x63.2.2.2.2.2.2.1,x63.2.2.2.2.2.2.2.1,x63.2.2.2.2.2.2.2.2.1,x63.2.2.2.2.2.2.2.2.2.1,x63.2.2.2.2.2.2.2.2.2.2.1,x63.2.2.2.2.2.2.2.2.2.2.2))
 ((F_part_number l4).bind fun i65=>
 some (([]:List Int),0,i65,0,0,([]:List (Int×Int)),false,false,false,false,false,0)))))
 (cond (i1==2)
 (some (([]:List Int),0,0,0,0,([]:List (Int×Int)),false,false,false,false,false,0))
 (cond ((l4.length:Int) != 4)
 ((F_part_conn 6).bind fun x66=>
 some (x66.1,x66.2.1,x66.2.2.1,x66.2.2.2.1,x66.2.2.2.2.1,x66.2.2.2.2.2.1,x66.2.2.2.2.2.2.1,x66.2.2.2.2.2.2.2.1,x66.2.2.2.2.2.2.2.2.1,x66.2.2.2.2.2.2.2.2.2.1,x66.2.2.2.2.2.2.2.2.2.2.1,x66.2.2.2.2.2.2.2.2.2.2.2))
 ((F_part_number l4).bind fun i67=>
 some (([]:List Int),0,i67,0,0,([]:List (Int×Int)),false,false,false,false,false,0)))))))
 (some (([]:List Int),0,0,0,0,([]:List (Int×Int)),false,false,false,false,false,0)))
 (cond (i1==3)
 (cond (i1==3)
 (cond (i3==0)
 ((F_part_conn 1).bind fun x68=>
 some (x68.1,x68.2.1,x68.2.2.1,x68.2.2.2.1,x68.2.2.2.2.1,x68.2.2.2.2.2.1,x68.2.2.2.2.2.2.1,x68.2.2.2.2.2.2.2.1,x68.2.2.2.2.2.2.2.2.1,x68.2.2.2.2.2.2.2.2.2.1,x68.2.2.2.2.2.2.2.2.2.2.1,x68.2.2.2.2.2.2.2.2.2.2.2))
 (cond (i1==9)
 ((F_bytes_Clone l4).bind fun l69=>
 some (l69,0,0,0,0,([]:List (Int×Int)),false,false,(decide ((bits .and .i64 i2 4) > 0)),false,false,0))
 (cond (i1==2)
 (cond ((l4.length:Int) != 5)
 ((F_part_stream 6).bind fun x70=>
 some (x70.1,x70.2.1,x70.2.2.1,x70.2.2.2.1,x70.2.2.2.2.1,x70.2.2.2.2.2.1,x70.2.2.2.2.2.2.1,x70.2.2.2.2.2.2.2.1,x70.2.2.2.2.2.2.2.2.1,x70.2.2.2.2.2.2.2.2.2.1,x70.2.2.2.2.2.2.2.2.2.2.1,x70.2.2.2.2.2.2.2.2.2.2.2))
 (cond (i1==2)
 (some (([]:List Int),0,0,0,0,([]:List (Int×Int)),false,false,false,false,false,0))
 (cond ((l4.length:Int) != 4)
 ((F_part_conn 6).bind fun x71=>
 some (x71.1,x71.2.1,x71.2.2.1,x71.2.2.2.1,x71.2.2.2.2.1,x71.2.2.2.2.2.1,x71.2.2.2.2.2.2.1,x71.2.2.2.2.2.2.2.1,x71.2.2.2.2.2.2.2.2.1,x71.2.2.2.2.2.2.2.2.2.1,x71.2.2.2.2.2.2.2.2.2.2.1,x71.2.2.2.2.2.2.2.2.2.2.2))
 ((F_part_number l4).bind fun i72=>
 some (([]:List Int),0,i72,0,0,([]:List (Int×Int)),false,false,false,false,false,0)))))
 (cond (i1==2)
 (some (([]:List Int),0,0,0,0,([]:List (Int×Int)),false,false,false,false,false,0))
 (cond ((l4.length:Int) != 4)
 ((F_part_conn 6).bind fun x73=>
 some (x73.1,x73.2.1,x73.2.2.1,x73.2.2.2.1,x73.2.2.2.2.1,x73.2.2.2.2.2.1,x73.2.2.2.2.2.2.1,x73.2.2.2.2.2.2.2.1,x73.2.2.2.2.2.2.2.2.1,x73.2.2.2.2.2.2.2.2.2.1,x73.2.2.2.2.2.2.2.2.2.2.1,x73.2.2.2.2.2.2.2.2.2.2.2))
 ((F_part_number l4).bind fun i74=>
 some (([]:List Int),0,i74,0,0,([]:List (Int×Int)),false,false,false,false,false,0)))))))
 (some (([]:List Int),0,0,0,0,([]:List (Int×Int)),false,false,false,false,false,0)))
 (cond (i1==9)
 (cond (i3==0)
 ((F_part_conn 1).bind fun x75=>
 some (x75.1,x75.2.1,x75.2.2.1,x75.2.2.2.1,x75.2.2.2.2.1,x75.2.2.2.2.2.1,x75.2.2.2.2.2.2.1,x75.2.2.2.2.2.2.2.1,x75.2.2.2.2.2.2.2.2.1,x75.2.2.2.2.2.2.2.2.2.1,x75.2.2.2.2.2.2.2.2.2.2.1,x75.2.2.2.2.2.2.2.2.2.2.2))
 (cond (i1==9)
 ((F_bytes_Clone l4).bind fun l76=>
 some (l76,0,0,0,0,([]:List (Int×Int)),false,false,(decide ((bits .and .i64 i2 4) > 0)),false,false,0))
 (cond (i1==2)
 (cond ((l4.length:Int) != 5)
 ((F_part_stream 6).bind fun x77=>
 some (x77.1,x77.2.1,x77.2.2.1,x77.2.2.2.1,x77.2.2.2.2.1,x77.2.2.2.2.2.1,x77.2.2.2.2.2.2.1,x77.2.2.2.2.2.2.2.1,x77.2.2.2.2.2.2.2.2.1,x77.2.2.2.2.2.2.2.2.2.1,x77.2.2.2.2.2.2.2.2.2.2.1,x77.2.2.2.2.2.2.2.2.2.2.2))
 (cond (i1==2)
 (some (([]:List Int),0,0,0,0,([]:List (Int×Int)),false,false,false,false,false,0))
 (cond ((l4.length:Int) != 4)
 ((F_part_conn 6).bind fun x78=>
 some (x78.1,x78.2.1,x78.2.2.1,x78.2.2.2.1,x78.2.2.2.2.1,x78.2.2.2.2.2.1,x78.2.2.2.2.2.2.1,x78.2.2.2.2.2.2.2.1,x78.2.2.2.2.2.2.2.2.1,x78.2.2.2.2.2.2.2.2.2.1,x78.2.2.2.2.2.2.2.2.2.2.1,x78.2.2.2.2.2.2.2.2.2.2.2))
 ((F_part_number l4).bind fun i79=>
 some (([]:List Int),0,i79,0,0,([]:List (Int×Int)),false,false,false,false,false,0)))))
 (cond (i1==2)
 (some (([]:List Int),0,0,0,0,([]:List (Int×Int)),false,false,false,false,false,0))
 (cond ((l4.length:Int) != 4)
 ((F_part_conn 6).bind fun x80=>
 some (x80.1,x80.2.1,x80.2.2.1,x80.2.2.2.1,x80.2.2.2.2.1,x80.2.2.2.2.2.1,x80.2.2.2.2.2.2.1,x80.2.2.2.2.2.2.2.1,x80.2.2.2.2.2.2.2.2.1,x80.2.2.2.2.2.2.2.2.2.1,x80.2.2.2.2.2.2.2.2.2.2.1,x80.2.2.2.2.2.2.2.2.2.2.2))
 ((F_part_number l4).bind fun i81=>
 some (([]:List Int),0,i81,0,0,([]:List (Int×Int)),false,false,false,false,false,0)))))))
 (some (([]:List Int),0,0,0,0,([]:List (Int×Int)),false,false,false,false,false,0)))))))
 (cond (i1==7)
 ((F_part_whole i1 i2 i3 l4).bind fun x82=>
 some (x82.1,x82.2.1,x82.2.2.1,x82.2.2.2.1,x82.2.2.2.2.1,x82.2.2.2.2.2.1,x82.2.2.2.2.2.2.1,x82.2.2.2.2.2.2.2.1,x82.2.2.2.2.2.2.2.2.1,x82.2.2.2.2.2.2.2.2.2.1,x82.2.2.2.2.2.2.2.2.2.2.1,x82.2.2.2.2.2.2.2.2.2.2.2))
 (cond (i1==8)
 ((F_part_update i1 i2 i3 l4).bind fun x83=>
 some (x83.1,x83.2.1,x83.2.2.1,x83.2.2.2.1,x83.2.2.2.2.1,x83.2.2.2.2.2.1,x83.2.2.2.2.2.2.1,x83.2.2.2.2.2.2.2.1,x83.2.2.2.2.2.2.2.2.1,x83.2.2.2.2.2.2.2.2.2.1,x83.2.2.2.2.2.2.2.2.2.2.1,x83.2.2.2.2.2.2.2.2.2.2.2))
 (cond (i1==2)
 (cond (i1==2)
 (cond (i3==0)
 ((F_part_conn 1).bind fun x84=>
 some (x84.1,x84.2.1,x84.2.2.1,x84.2.2.2.1,x84.2.2.2.2.1,x84.2.2.2.2.2.1,x84.2.2.2.2.2.2.1,x84.2.2.2.2.2.2.2.1,x84.2.2.2.2.2.2.2.2.1,x84.2.2.2.2.2.2.2.2.2.1,x84.2.2.2.2.2.2.2.2.2.2.1,x84.2.2.2.2.2.2.2.2.2.2.2))
 (cond (i1==9)
 ((F_bytes_Clone l4).bind fun l85=>
 some (l85,0,0,0,0,([]:List (Int×Int)),false,false,(decide ((bits .and .i64 i2 4) > 0)),false,false,0))
 (cond (i1==2)
 (cond ((l4.length:Int) != 5)
 ((F_part_stream 6).bind fun x86=>
 some (x86.1,x86.2.1,x86.2.2.1,x86.2.2.2.1,x86.2.2.2.2.1,x86.2.2.2.2.2.1,x86.2.2.2.2.2.2.1,x86.2.2.2.2.2.2.2.1,x86.2.2.2.2.2.2.2.2.1,x86.2.2.2.2.2.2.2.2.2.1,x86.2.2.2.2.2.2.2.2.2.2.1,x86.2.2.2.2.2.2.2.2.2.2.2))
 (cond (i1==2)
 (some (([]:List Int),0,0,0,0,([]:List (Int×Int)),false,false,false,false,false,0))
 (cond ((l4.length:Int) != 4)
 ((F_part_conn 6).bind fun x87=>
 some (x87.1,x87.2.1,x87.2.2.1,x87.2.2.2.1,x87.2.2.2.2.1,x87.2.2.2.2.2.1,x87.2.2.2.2.2.2.1,x87.2.2.2.2.2.2.2.1,x87.2.2.2.2.2.2.2.2.1,x87.2.2.2.2.2.2.2.2.2.1,x87.2.2.2.2.2.2.2.2.2.2.1,x87.2.2.2.2.2.2.2.2.2.2.2))
 ((F_part_number l4).bind fun i88=>
 some (([]:List Int),0,i88,0,0,([]:List (Int×Int)),false,false,false,false,false,0)))))
 (cond (i1==2)
 (some (([]:List Int),0,0,0,0,([]:List (Int×Int)),false,false,false,false,false,0))
 (cond ((l4.length:Int) != 4)
 ((F_part_conn 6).bind fun x89=>
 some (x89.1,x89.2.1,x89.2.2.1,x89.2.2.2.1,x89.2.2.2.2.1,x89.2.2.2.2.2.1,x89.2.2.2.2.2.2.1,x89.2.2.2.2.2.2.2.1,x89.2.2.2.2.2.2.2.2.1,x89.2.2.2.2.2.2.2.2.2.1,x89.2.2.2.2.2.2.2.2.2.2.1,x89.2.2.2.2.2.2.2.2.2.2.2))
 ((F_part_number l4).bind fun i90=>
 some (([]:List Int),0,i90,0,0,([]:List (Int×Int)),false,false,false,false,false,0)))))))
 (some (([]:List Int),0,0,0,0,([]:List (Int×Int)),false,false,false,false,false,0)))
 (cond (i1==3)
 (cond (i1==3)
 (cond (i3==0)
 ((F_part_conn 1).bind fun x91=>
 some (x91.1,x91.2.1,x91.2.2.1,x91.2.2.2.1,x91.2.2.2.2.1,x91.2.2.2.2.2.1,x91.2.2.2.2.2.2.1,x91.2.2.2.2.2.2.2.1,x91.2.2.2.2.2.2.2.2.1,x91.2.2.2.2.2.2.2.2.2.1,x91.2.2.2.2.2.2.2.2.2.2.1,x91.2.2.2.2.2.2.2.2.2.2.2))
 (cond (i1==9)
 ((F_bytes_Clone l4).bind fun l92=>
 some (l92,0,0,0,0,([]:List (Int×Int)),false,false,(decide ((bits .and .i64 i2 4) > 0)),false,false,0))
 (cond (i1==2)
 (cond ((l4.length:Int) != 5)
 ((F_part_stream 6).bind fun x93=>
 some (x93.1,x93.2.1,x93.2.2.1,x93.2.2.2.1,x93.2.2.2.2.1,x93.2.2.2.2.2.1,x93.2.2.2.2.2.2.1,x93.2.2.2.2.2.2.2.1,x93.2.2.2.2.2.2.2.2.1,x93.2.2.2.2.2.2.2.2.2.1,x93.2.2.2.2.2.2.2.2.2.2.1,x93.2.2.2.2.2.2.2.2.2.2.2))
 (cond (i1==2)
 (some (([]:List Int),0,0,0,0,([]:List (Int×Int)),false,false,false,false,false,0))
 (cond ((l4.length:Int) != 4)
 ((F_part_conn 6).bind fun x94=>
 some (x94.1,x94.2.1,x94.2.2.1,x94.2.2.2.1,x94.2.2.2.2.1,x94.2.2.2.2.2.1,x94.2.2.2.2.2.2.1,x94.2.2.2.2.2.2.2.1,x94.2.2.2.2.2.2.2.2.1,x94.2.2.2.2.2.2.2.2.2.1,x94.2.2.2.2.2.2.2.2.2.2.1,x94.2.2.2.2.2.2.2.2.2.2.2))
 ((F_part_number l4).bind fun i95=>
 some (([]:List Int),0,i95,0,0,([]:List (Int×Int)),false,false,false,false,false,0)))))
 (cond (i1==2)
 (some (([]:List Int),0,0,0,0,([]:List (Int×Int)),false,false,false,false,false,0))
 (cond ((l4.length:Int) != 4)
 ((F_part_conn 6).bind fun x96=>
 some (x96.1,x96.2.1,x96.2.2.1,x96.2.2.2.1,x96.2.2.2.2.1,x96.2.2.2.2.2.1,x96.2.2.2.2.2.2.1,x96.2.2.2.2.2.2.2.1,x96.2.2.2.2.2.2.2.2.1,x96.2.2.2.2.2.2.2.2.2.1,x96.2.2.2.2.2.2.2.2.2.2.1,x96.2.2.2.2.2.2.2.2.2.2.2))
 ((F_part_number l4).bind fun i97=>
 some (([]:List Int),0,i97,0,0,([]:List (Int×Int)),false,false,false,false,false,0)))))))
 (some (([]:List Int),0,0,0,0,([]:List (Int×Int)),false,false,false,false,false,0)))
 (cond (i1==9)
 (cond (i3==0)
 ((F_part_conn 1).bind fun x98=>
 some (x98.1,x98.2.1,x98.2.2.1,x98.2.2.2.1,x98.2.2.2.2.1,x98.2.2.2.2.2.1,x98.2.2.2.2.2.2.1,x98.2.2.2.2.2.2.2.1,x98.2.2.2.2.2.2.2.2.1,x98.2.2.2.2.2.2.2.2.2.1,x98.2.2.2.2.2.2.2.2.2.2.1,x98.2.2.2.2.2.2.2.2.2.2.2))
 (cond (i1==9)
 ((F_bytes_Clone l4).bind fun l99=>
 some (l99,0,0,0,0,([]:List (Int×Int)),false,false,(decide ((bits .and .i64 i2 4) > 0)),false,false,0))
 (cond (i1==2)
 (cond ((l4.length:Int) != 5)
 ((F_part_stream 6).bind fun x100=>
 some (x100.1,x100.2.1,x100.2.2.1,x100.2.2.2.1,x100.2.2.2.2.1,x100.2.2.2.2.2.1,x100.2.2.2.2.2.2.1,x100.2.2.2.2.2.2.2.1,x100.2.2.2.2.2.2.2.2.1,x100.2.2.2.2.2.2.2.2.2.1,x100.2.2.2.2.2.2.2.2.2.2.1,x100.2.2.2.2.2.2.2.2.2.2.2))
 (cond (i1==2)
 (some (([]:List Int),0,0,0,0,([]:List (Int×Int)),false,false,false,false,false,0))
 (cond ((l4.length:Int) != 4)
 ((F_part_conn 6).bind fun x101=>
 some (x101.1,x101.2.1,x101.2.2.1,x101.2.2.2.1,x101.2.2.2.2.1,x101.2.2.2.2.2.1,x101.2.2.2.2.2.2.1,x101.2.2.2.2.2.2.2.1,x101.2.2.2.2.2.2.2.2.1,x101.2.2.2.2.2.2.2.2.2.1,x101.2.2.2.2.2.2.2.2.2.2.1,x101.2.2.2.2.2.2.2.2.2.2.2))
 ((F_part_number l4).bind fun i102=>
 some (([]:List Int),0,i102,0,0,([]:List (Int×Int)),false,false,false,false,false,0)))))
 (cond (i1==2)
 (some (([]:List Int),0,0,0,0,([]:List (Int×Int)),false,false,false,false,false,0))
 (cond ((l4.length:Int) != 4)
 ((F_part_conn 6).bind fun x103=>
 some (x103.1,x103.2.1,x103.2.2.1,x103.2.2.2.1,x103.2.2.2.2.1,x103.2.2.2.2.2.1,x103.2.2.2.2.2.2.1,x103.2.2.2.2.2.2.2.1,x103.2.2.2.2.2.2.2.2.1,x103.2.2.2.2.2.2.2.2.2.1,x103.2.2.2.2.2.2.2.2.2.2.1,x103.2.2.2.2.2.2.2.2.2.2.2))
 ((F_part_number l4).bind fun i104=>
 some (([]:List Int),0,i104,0,0,([]:List (Int×Int)),false,false,false,false,false,0)))))))
 (some (([]:List Int),0,0,0,0,([]:List (Int×Int)),false,false,false,false,false,0)))))))))))
def F_part_Read_sig:Sig:=⟨[.v true [.d (.int .i64),.d (.int .i64),.d (.int .i64),.d (.sl (.int .u8))]],[(true,[.own 5 (.int .u8),.d (.int .i64),.d (.int .i64),.d (.int .i64),.d (.int .i64),.own 130 Zp10,.d .bool,.d .bool,.d .bool]),(true,[.d .bool,.d .bool,.d (.int .i64)])],[]⟩
def F_part_Read_ann:List (Nat×Ann):=[]
noncomputable def F_part_Read_env:Env:=⟨Tryz.prog,[(66,⟨F_bytes_Clone_sig,⟨F_bytes_Clone⟩⟩),(96,⟨F_part_bodied_sig,⟨F_part_bodied⟩⟩),(97,⟨F_part_settings_sig,⟨F_part_settings⟩⟩),(98,⟨F_part_conn_sig,⟨F_part_conn⟩⟩),(99,⟨F_part_whole_sig,⟨F_part_whole⟩⟩),(100,⟨F_part_update_sig,⟨F_part_update⟩⟩),(101,⟨F_part_stream_sig,⟨F_part_stream⟩⟩),(102,⟨F_part_number_sig,⟨F_part_number⟩⟩)],[]⟩
theorem F_part_Read_text:pvFn F_part_Read_env F_part_Read_ann Tryz.f48 F_part_Read_sig=F_part_Read:=by kernel_rfl
noncomputable def F_conn_Conn_misplaced (p1:Int) (i2:Int) (i3:Int) (i4:Int) (l5:List Int) (l6:Zt1) (l7:Zt6):Option (Bool×Zt1):=
 chk (nnI p1)
 ((getI l6 p1).bind fun x8=>
 chk (nnI p1)
 ((getI l6 p1).bind fun x9=>
 cond (!x8.1.2.1)
 (cond (i2 != 4)
 (some (true,(l6.set (Int.toNat p1) ((x9.1.1,(true,x9.1.2.2)),x9.2))))
 (some ((decide ((bits .and .i64 i3 1) > 0)),(l6.set (Int.toNat p1) ((x9.1.1,(true,x9.1.2.2)),x9.2)))))
 (chk (nnI p1)
 ((getI (l6.set (Int.toNat p1) ((x9.1.1,(true,x9.1.2.2)),x9.2)) p1).bind fun x10=>
 cond (!(eqI x10.1.2.2.2.2.2 (-1)))
 (cond (i2 != 9)
 (some (true,(l6.set (Int.toNat p1) ((x9.1.1,(true,x9.1.2.2)),x9.2))))
 (chk (nnI p1)
 ((getI (l6.set (Int.toNat p1) ((x9.1.1,(true,x9.1.2.2)),x9.2)) p1).bind fun x11=>
 chk (nnI x11.1.2.2.2.2.2)
 ((getI l7 x11.1.2.2.2.2.2).bind fun x12=>
 some ((i4 != x12.1),(l6.set (Int.toNat p1) ((x9.1.1,(true,x9.1.2.2)),x9.2)))))))
 (some ((i2==9),(l6.set (Int.toNat p1) ((x9.1.1,(true,x9.1.2.2)),x9.2))))))))
def F_conn_Conn_misplaced_sig:Sig:=⟨[.v false [.d (.ptr 126)],.v true [.d (.int .i64),.d (.int .i64),.d (.int .i64),.d (.sl (.int .u8))]],[(false,[.d .bool])],[(1000252,Zp9,true),(1000282,Zp12,false)]⟩
def F_conn_Conn_misplaced_ann:List (Nat×Ann):=[]
noncomputable def F_conn_Conn_misplaced_env:Env:=⟨Tryz.prog,[],[]⟩
theorem F_conn_Conn_misplaced_text:pvFn F_conn_Conn_misplaced_env F_conn_Conn_misplaced_ann Tryz.f123 F_conn_Conn_misplaced_sig=F_conn_Conn_misplaced:=by kernel_rfl
noncomputable def F_life_carries (i1:Int):Option (Bool):=
 some ((i1==0)||(i1==1))
def F_life_carries_sig:Sig:=⟨[.v false [.d (.int .i64)]],[(false,[.d .bool])],[]⟩
def F_life_carries_ann:List (Nat×Ann):=[]
noncomputable def F_life_carries_env:Env:=⟨Tryz.prog,[],[]⟩
theorem F_life_carries_text:pvFn F_life_carries_env F_life_carries_ann Tryz.f137 F_life_carries_sig=F_life_carries:=by kernel_rfl
noncomputable def F_life_ended (i1:Int) (i2:Int):Option (Int):=
 cond (i1==1)
 (some i2)
 (some 4)
def F_life_ended_sig:Sig:=⟨[.v false [.d (.int .i64)],.v false [.d (.int .i64)]],[(false,[.d (.int .i64)])],[]⟩
def F_life_ended_ann:List (Nat×Ann):=[]
noncomputable def F_life_ended_env:Env:=⟨Tryz.prog,[],[]⟩
theorem F_life_ended_text:pvFn F_life_ended_env F_life_ended_ann Tryz.f138 F_life_ended_sig=F_life_ended:=by kernel_rfl
noncomputable def F_life_Send (i1:Int) (i2:Int) (b3:Bool):Option (Int×Bool):=
 (F_life_carries i2).bind fun b4=>
 cond b4
 (cond (((i1==1)||(i1==2))&&b3)
 ((F_life_ended i1 3).bind fun i5=>
 some (i5,true))
 (some (i1,((i1==1)||(i1==2)))))
 (cond (i2==3)
 (cond (((i1==1)||(i1==2))||(i1==3))
 (some (5,true))
 (some (i1,false)))
 (cond (i2==8)
 (some (i1,((i1==1)||(i1==3))))
 (some (i1,true))))
def F_life_Send_sig:Sig:=⟨[.v false [.d (.int .i64)],.v false [.d (.int .i64)],.v false [.d .bool]],[(false,[.d (.int .i64)]),(false,[.d .bool])],[]⟩
def F_life_Send_ann:List (Nat×Ann):=[]
noncomputable def F_life_Send_env:Env:=⟨Tryz.prog,[(137,⟨F_life_carries_sig,⟨F_life_carries⟩⟩),(138,⟨F_life_ended_sig,⟨F_life_ended⟩⟩)],[]⟩
theorem F_life_Send_text:pvFn F_life_Send_env F_life_Send_ann Tryz.f84 F_life_Send_sig=F_life_Send:=by kernel_rfl
noncomputable def F_conn_stream_open (p1:Int) (l2:Zt3):Option (Bool):=
 chk (nnI p1)
 ((getI l2 p1).bind fun x3=>
 cond (x3.1==1)
 (some true)
 (chk (nnI p1)
 ((getI l2 p1).bind fun x4=>
 cond (x4.1==2)
 (some true)
 (chk (nnI p1)
 ((getI l2 p1).bind fun x5=>
 some (x5.1==3))))))
def F_conn_stream_open_sig:Sig:=⟨[.v false [.d (.ptr 139)]],[(false,[.d .bool])],[(1000278,Zp16,false)]⟩
def F_conn_stream_open_ann:List (Nat×Ann):=[]
noncomputable def F_conn_stream_open_env:Env:=⟨Tryz.prog,[],[]⟩
theorem F_conn_stream_open_text:pvFn F_conn_stream_open_env F_conn_stream_open_ann Tryz.f79 F_conn_stream_open_sig=F_conn_stream_open:=by kernel_rfl
noncomputable def F_conn_Conn_turns (p1:Int) (i2:Int) (i3:Int) (l4:Zt7) (l5:Zt1) (l6:Zt3):Option (Zt7×Zt1×Zt3):=
 chk (nnI p1)
 ((getI l5 p1).bind fun x7=>
 (getI l4 x7.2.2.2.2.2.2.2.2.2.1).bind fun m8=>
 cond (eqI (getZ (mapGet m8 i2) (-1:Int)) (-1))
 (some (l4,l5,l6))
 ((F_conn_stream_open (getZ (mapGet m8 i2) (-1:Int)) l6).bind fun b9=>
 chk (nnI (getZ (mapGet m8 i2) (-1:Int)))
 ((getI l6 (getZ (mapGet m8 i2) (-1:Int))).bind fun x10=>
 cond (!b9)
 (some (l4,l5,(l6.set (Int.toNat (getZ (mapGet m8 i2) (-1:Int))) (i3,x10.2))))
 ((F_conn_stream_open (getZ (mapGet m8 i2) (-1:Int)) (l6.set (Int.toNat (getZ (mapGet m8 i2) (-1:Int))) (i3,x10.2))).bind fun b11=>
 cond b11
 (some (l4,l5,(l6.set (Int.toNat (getZ (mapGet m8 i2) (-1:Int))) (i3,x10.2))))
 (chk (nnI p1)
 ((getI l5 p1).bind fun x12=>
 chk (decide ((x12.2.2.2.2.2.2.2.2.2.2.1.length+([i2]:List Int).length)*8<=140737488355328)&&decide (x12.2.2.2.2.2.2.2.2.2.2.1.length+([i2]:List Int).length<=maxLen))
 (chk (nnI p1)
 ((getI l5 p1).bind fun x13=>
 chk (eqI p1 p1)
 (chk (nnI p1)
 ((getI (l5.set (Int.toNat p1) (x13.1,(x13.2.1,(x13.2.2.1,(x13.2.2.2.1,(x13.2.2.2.2.1,(x13.2.2.2.2.2.1,(x13.2.2.2.2.2.2.1,(x13.2.2.2.2.2.2.2.1,(x13.2.2.2.2.2.2.2.2.1,(x13.2.2.2.2.2.2.2.2.2.1,((x12.2.2.2.2.2.2.2.2.2.2.1++([i2]:List Int)),x13.2.2.2.2.2.2.2.2.2.2.2)))))))))))) p1).bind fun x14=>
 cond (decide ((x14.2.2.2.2.2.2.2.2.2.2.1.length:Int) > 64))
 (chk (nnI p1)
 ((getI (l5.set (Int.toNat p1) (x13.1,(x13.2.1,(x13.2.2.1,(x13.2.2.2.1,(x13.2.2.2.2.1,(x13.2.2.2.2.2.1,(x13.2.2.2.2.2.2.1,(x13.2.2.2.2.2.2.2.1,(x13.2.2.2.2.2.2.2.2.1,(x13.2.2.2.2.2.2.2.2.2.1,((x12.2.2.2.2.2.2.2.2.2.2.1++([i2]:List Int)),x13.2.2.2.2.2.2.2.2.2.2.2)))))))))))) p1).bind fun x15=>
 chk (nnI p1)
 ((getI (l5.set (Int.toNat p1) (x13.1,(x13.2.1,(x13.2.2.1,(x13.2.2.2.1,(x13.2.2.2.2.1,(x13.2.2.2.2.2.1,(x13.2.2.2.2.2.2.1,(x13.2.2.2.2.2.2.2.1,(x13.2.2.2.2.2.2.2.2.1,(x13.2.2.2.2.2.2.2.2.2.1,((x12.2.2.2.2.2.2.2.2.2.2.1++([i2]:List Int)),x13.2.2.2.2.2.2.2.2.2.2.2)))))))))))) p1).bind fun x16=>
 (getI x16.2.2.2.2.2.2.2.2.2.2.1 0).bind fun i17=>
 none)))
 (some (l4,(l5.set (Int.toNat p1) (x13.1,(x13.2.1,(x13.2.2.1,(x13.2.2.2.1,(x13.2.2.2.2.1,(x13.2.2.2.2.2.1,(x13.2.2.2.2.2.2.1,(x13.2.2.2.2.2.2.2.1,(x13.2.2.2.2.2.2.2.2.1,(x13.2.2.2.2.2.2.2.2.2.1,((x12.2.2.2.2.2.2.2.2.2.2.1++([i2]:List Int)),x13.2.2.2.2.2.2.2.2.2.2.2)))))))))))),(l6.set (Int.toNat (getZ (mapGet m8 i2) (-1:Int))) (i3,x10.2))))))))))))))
def F_conn_Conn_turns_sig:Sig:=⟨[.v false [.d (.ptr 126)],.v false [.d (.int .i64)],.v false [.d (.int .i64)]],[],[(1000243,(.sl Zp15),true),(1000252,Zp9,true),(1000278,Zp16,true)]⟩
def F_conn_Conn_turns_ann:List (Nat×Ann):=[]
noncomputable def F_conn_Conn_turns_env:Env:=⟨Tryz.prog,[(79,⟨F_conn_stream_open_sig,⟨F_conn_stream_open⟩⟩)],[32,58]⟩
theorem F_conn_Conn_turns_text:pvFn F_conn_Conn_turns_env F_conn_Conn_turns_ann Tryz.f87 F_conn_Conn_turns_sig=F_conn_Conn_turns:=by kernel_rfl
noncomputable def F_part_Rst (i1:Int) (i2:Int):Option (Int×Int×Int×List Int):=
 (F_part_bits i2 4).bind fun l3=>
 some (3,0,i1,l3)
def F_part_Rst_sig:Sig:=⟨[.v false [.d (.int .i64)],.v false [.d (.int .i64)]],[(true,[.d (.int .i64),.d (.int .i64),.d (.int .i64),.own 5 (.int .u8)])],[]⟩
def F_part_Rst_ann:List (Nat×Ann):=[]
noncomputable def F_part_Rst_env:Env:=⟨Tryz.prog,[(121,⟨F_part_bits_sig,⟨F_part_bits⟩⟩)],[]⟩
theorem F_part_Rst_text:pvFn F_part_Rst_env F_part_Rst_ann Tryz.f135 F_part_Rst_sig=F_part_Rst:=by kernel_rfl
noncomputable def F_conn_Conn_resets (p1:Int) (i2:Int) (i3:Int) (l4:Zt5) (l5:Zt7) (l6:Zt1) (l7:Zt3):Option (Bool×Zt5×Zt7×Zt1×Zt3):=
 (F_conn_Conn_State p1 i2 l5 l6 l7).bind fun i9=>
 (F_life_Send i9 3 false).bind fun x10=>
 cond x10.2
 ((F_part_Rst i2 i3).bind fun x11=>
 (F_conn_Conn_lays p1 x11.1 x11.2.1 x11.2.2.1 x11.2.2.2 l4 l6).bind fun x12=>
 (F_conn_Conn_turns p1 i2 x10.1 l5 x12.2 l7).bind fun x13=>
 some (x10.2,x12.1,x13.1,x13.2.1,x13.2.2))
 (some (x10.2,l4,l5,l6,l7))
def F_conn_Conn_resets_sig:Sig:=⟨[.v false [.d (.ptr 126)],.v false [.d (.int .i64)],.v false [.d (.int .i64)]],[(false,[.d .bool])],[(1000222,Zp14,true),(1000243,(.sl Zp15),true),(1000252,Zp9,true),(1000278,Zp16,true)]⟩
def F_conn_Conn_resets_ann:List (Nat×Ann):=[]
noncomputable def F_conn_Conn_resets_env:Env:=⟨Tryz.prog,[(38,⟨F_conn_Conn_State_sig,⟨F_conn_Conn_State⟩⟩),(70,⟨F_conn_Conn_lays_sig,⟨F_conn_Conn_lays⟩⟩),(84,⟨F_life_Send_sig,⟨F_life_Send⟩⟩),(87,⟨F_conn_Conn_turns_sig,⟨F_conn_Conn_turns⟩⟩),(135,⟨F_part_Rst_sig,⟨F_part_Rst⟩⟩)],[]⟩
theorem F_conn_Conn_resets_text:pvFn F_conn_Conn_resets_env F_conn_Conn_resets_ann Tryz.f81 F_conn_Conn_resets_sig=F_conn_Conn_resets:=by kernel_rfl
noncomputable def F_conn_Conn_faults (p1:Int) (i2:Int) (i3:Int) (l4:Zt5) (l5:Zt7) (l6:Zt1) (l7:Zt3):Option (Zt5×Zt7×Zt1×Zt3):=
 (F_conn_Conn_resets p1 i2 i3 l4 l5 l6 l7).bind fun x8=>
 cond x8.1
 ((F_conn_Conn_tells p1 4 i2 i3 ([]:Zt2) ([]:List Int) false false true x8.2.2.2.1).bind fun l9=>
 some (x8.2.1,x8.2.2.1,l9,x8.2.2.2.2))
 (some (x8.2.1,x8.2.2.1,x8.2.2.2.1,x8.2.2.2.2))
def F_conn_Conn_faults_sig:Sig:=⟨[.v false [.d (.ptr 126)],.v false [.d (.int .i64)],.v false [.d (.int .i64)]],[],[(1000222,Zp14,true),(1000243,(.sl Zp15),true),(1000252,Zp9,true),(1000278,Zp16,true)]⟩
def F_conn_Conn_faults_ann:List (Nat×Ann):=[]
noncomputable def F_conn_Conn_faults_env:Env:=⟨Tryz.prog,[(81,⟨F_conn_Conn_resets_sig,⟨F_conn_Conn_resets⟩⟩),(122,⟨F_conn_Conn_tells_sig,⟨F_conn_Conn_tells⟩⟩)],[]⟩
theorem F_conn_Conn_faults_text:pvFn F_conn_Conn_faults_env F_conn_Conn_faults_ann Tryz.f124 F_conn_Conn_faults_sig=F_conn_Conn_faults:=by kernel_rfl
noncomputable def F_part_Update (i1:Int) (i2:Int):Option (Int×Int×Int×List Int):=
 (F_part_bits (bits .and .i64 i2 2147483647) 4).bind fun l3=>
 some (8,0,i1,l3)
def F_part_Update_sig:Sig:=⟨[.v false [.d (.int .i64)],.v false [.d (.int .i64)]],[(true,[.d (.int .i64),.d (.int .i64),.d (.int .i64),.own 5 (.int .u8)])],[]⟩
def F_part_Update_ann:List (Nat×Ann):=[]
noncomputable def F_part_Update_env:Env:=⟨Tryz.prog,[(121,⟨F_part_bits_sig,⟨F_part_bits⟩⟩)],[]⟩
theorem F_part_Update_text:pvFn F_part_Update_env F_part_Update_ann Tryz.f136 F_part_Update_sig=F_part_Update:=by kernel_rfl
noncomputable def F_conn_Conn_gives (p1:Int) (i2:Int) (l3:Zt5) (l4:Zt1):Option (Zt5×Zt1):=
 chk (nnI p1)
 ((getI l4 p1).bind fun x5=>
 cond (decide ((minI i2 (IntKind.i64.wrap (65535 - x5.2.2.2.2.2.2.2.2.2.2.2.2.1))) > 0))
 (chk (nnI p1)
 ((getI l4 p1).bind fun x6=>
 chk (nnI p1)
 ((getI l4 p1).bind fun x7=>
 (F_part_Update 0 (minI i2 (IntKind.i64.wrap (65535 - x5.2.2.2.2.2.2.2.2.2.2.2.2.1)))).bind fun x8=>
 (F_conn_Conn_lays p1 x8.1 x8.2.1 x8.2.2.1 x8.2.2.2 l3 (l4.set (Int.toNat p1) (x7.1,(x7.2.1,(x7.2.2.1,(x7.2.2.2.1,(x7.2.2.2.2.1,(x7.2.2.2.2.2.1,(x7.2.2.2.2.2.2.1,(x7.2.2.2.2.2.2.2.1,(x7.2.2.2.2.2.2.2.2.1,(x7.2.2.2.2.2.2.2.2.2.1,(x7.2.2.2.2.2.2.2.2.2.2.1,(x7.2.2.2.2.2.2.2.2.2.2.2.1,((IntKind.i64.wrap (x6.2.2.2.2.2.2.2.2.2.2.2.2.1+(minI i2 (IntKind.i64.wrap (65535 - x5.2.2.2.2.2.2.2.2.2.2.2.2.1))))),x7.2.2.2.2.2.2.2.2.2.2.2.2.2))))))))))))))).bind fun x9=>
 some (x9.1,x9.2))))
 (some (l3,l4)))
def F_conn_Conn_gives_sig:Sig:=⟨[.v false [.d (.ptr 126)],.v false [.d (.int .i64)]],[],[(1000222,Zp14,true),(1000252,Zp9,true)]⟩
def F_conn_Conn_gives_ann:List (Nat×Ann):=[]
noncomputable def F_conn_Conn_gives_env:Env:=⟨Tryz.prog,[(70,⟨F_conn_Conn_lays_sig,⟨F_conn_Conn_lays⟩⟩),(136,⟨F_part_Update_sig,⟨F_part_Update⟩⟩)],[]⟩
theorem F_conn_Conn_gives_text:pvFn F_conn_Conn_gives_env F_conn_Conn_gives_ann Tryz.f82 F_conn_Conn_gives_sig=F_conn_Conn_gives:=by kernel_rfl
noncomputable def F_conn_Conn_givesTo (p1:Int) (i2:Int) (i3:Int) (l4:Zt5) (l5:Zt7) (l6:Zt1) (l7:Zt3):Option (Zt5×Zt1×Zt3):=
 chk (nnI p1)
 ((getI l6 p1).bind fun x8=>
 (getI l5 x8.2.2.2.2.2.2.2.2.2.1).bind fun m9=>
 cond (eqI (getZ (mapGet m9 i2) (-1:Int)) (-1))
 (some (l4,l6,l7))
 (chk (nnI (getZ (mapGet m9 i2) (-1:Int)))
 ((getI l7 (getZ (mapGet m9 i2) (-1:Int))).bind fun x10=>
 cond (x10.1 != 1)
 (chk (nnI (getZ (mapGet m9 i2) (-1:Int)))
 ((getI l7 (getZ (mapGet m9 i2) (-1:Int))).bind fun x11=>
 cond (x11.1 != 3)
 (some (l4,l6,l7))
 (chk (nnI (getZ (mapGet m9 i2) (-1:Int)))
 ((getI l7 (getZ (mapGet m9 i2) (-1:Int))).bind fun x12=>
 cond (decide ((minI i3 (IntKind.i64.wrap (65535 - x12.2.2))) > 0))
 (chk (nnI (getZ (mapGet m9 i2) (-1:Int)))
 ((getI l7 (getZ (mapGet m9 i2) (-1:Int))).bind fun x13=>
 chk (nnI (getZ (mapGet m9 i2) (-1:Int)))
 ((getI l7 (getZ (mapGet m9 i2) (-1:Int))).bind fun x14=>
 (F_part_Update i2 (minI i3 (IntKind.i64.wrap (65535 - x12.2.2)))).bind fun x15=>
 (F_conn_Conn_lays p1 x15.1 x15.2.1 x15.2.2.1 x15.2.2.2 l4 l6).bind fun x16=>
 some (x16.1,x16.2,(l7.set (Int.toNat (getZ (mapGet m9 i2) (-1:Int))) (x14.1,(x14.2.1,(IntKind.i64.wrap (x13.2.2+(minI i3 (IntKind.i64.wrap (65535 - x12.2.2))))))))))))
 (some (l4,l6,l7))))))
 (chk (nnI (getZ (mapGet m9 i2) (-1:Int)))
 ((getI l7 (getZ (mapGet m9 i2) (-1:Int))).bind fun x17=>
 cond (decide ((minI i3 (IntKind.i64.wrap (65535 - x17.2.2))) > 0))
 (chk (nnI (getZ (mapGet m9 i2) (-1:Int)))
 ((getI l7 (getZ (mapGet m9 i2) (-1:Int))).bind fun x18=>
 chk (nnI (getZ (mapGet m9 i2) (-1:Int)))
 ((getI l7 (getZ (mapGet m9 i2) (-1:Int))).bind fun x19=>
 (F_part_Update i2 (minI i3 (IntKind.i64.wrap (65535 - x17.2.2)))).bind fun x20=>
 (F_conn_Conn_lays p1 x20.1 x20.2.1 x20.2.2.1 x20.2.2.2 l4 l6).bind fun x21=>
 some (x21.1,x21.2,(l7.set (Int.toNat (getZ (mapGet m9 i2) (-1:Int))) (x19.1,(x19.2.1,(IntKind.i64.wrap (x18.2.2+(minI i3 (IntKind.i64.wrap (65535 - x17.2.2))))))))))))
 (some (l4,l6,l7)))))))
def F_conn_Conn_givesTo_sig:Sig:=⟨[.v false [.d (.ptr 126)],.v false [.d (.int .i64)],.v false [.d (.int .i64)]],[],[(1000222,Zp14,true),(1000243,(.sl Zp15),false),(1000252,Zp9,true),(1000278,Zp16,true)]⟩
def F_conn_Conn_givesTo_ann:List (Nat×Ann):=[]
noncomputable def F_conn_Conn_givesTo_env:Env:=⟨Tryz.prog,[(70,⟨F_conn_Conn_lays_sig,⟨F_conn_Conn_lays⟩⟩),(136,⟨F_part_Update_sig,⟨F_part_Update⟩⟩)],[]⟩
theorem F_conn_Conn_givesTo_text:pvFn F_conn_Conn_givesTo_env F_conn_Conn_givesTo_ann Tryz.f83 F_conn_Conn_givesTo_sig=F_conn_Conn_givesTo:=by kernel_rfl
noncomputable def F_life_fault (i1:Int) (b2:Bool):Option (Bool×Bool×Int):=
 some (true,b2,i1)
def F_life_fault_sig:Sig:=⟨[.v false [.d (.int .i64)],.v false [.d .bool]],[(true,[.d .bool,.d .bool,.d (.int .i64)])],[]⟩
def F_life_fault_ann:List (Nat×Ann):=[]
noncomputable def F_life_fault_env:Env:=⟨Tryz.prog,[],[]⟩
theorem F_life_fault_text:pvFn F_life_fault_env F_life_fault_ann Tryz.f185 F_life_fault_sig=F_life_fault:=by kernel_rfl
noncomputable def F_life_Recv (i1:Int) (i2:Int) (b3:Bool):Option (Int×Bool×Bool×Int):=
 cond (((i2 != 2)&&(i2 != 3))&&(i2 != 8))
 ((F_life_carries i2).bind fun b4=>
 cond (!b4)
 (some (i1,false,false,0))
 (cond (i1==0)
 (cond (i2==2)
 (some (0,false,false,0))
 (cond (i2 != 1)
 ((F_life_fault 1 true).bind fun x5=>
 some (0,x5.1,x5.2.1,x5.2.2))
 (cond b3
 (some (2,false,false,0))
 (some (1,false,false,0)))))
 (cond (i1==1)
 (cond (i1==1)
 (cond (i2==3)
 (some (4,false,false,0))
 ((F_life_carries i2).bind fun b6=>
 cond (b6&&b3)
 ((F_life_ended i1 2).bind fun i7=>
 some (i7,false,false,0))
 (some (i1,false,false,0))))
 (cond (i1==2)
 (cond (i2==3)
 (some (4,false,false,0))
 ((F_life_carries i2).bind fun b8=>
 cond b8
 ((F_life_fault 5 false).bind fun x9=>
 some (2,x9.1,x9.2.1,x9.2.2))
 (some (2,false,false,0))))
 (cond (i1==4)
 ((F_life_carries i2).bind fun b10=>
 cond b10
 ((F_life_fault 5 true).bind fun x11=>
 some (4,x11.1,x11.2.1,x11.2.2))
 (some (4,false,false,0)))
 (cond (i1==5)
 (some (5,false,false,0))
 ((F_life_fault 1 true).bind fun x12=>
 some (i1,x12.1,x12.2.1,x12.2.2))))))
 (cond (i1==3)
 (cond (i2==3)
 (some (4,false,false,0))
 ((F_life_carries i2).bind fun b13=>
 cond (b13&&b3)
 ((F_life_ended i1 2).bind fun i14=>
 some (i14,false,false,0))
 (some (i1,false,false,0))))
 (cond (i1==2)
 (cond (i2==3)
 (some (4,false,false,0))
 ((F_life_carries i2).bind fun b15=>
 cond b15
 ((F_life_fault 5 false).bind fun x16=>
 some (2,x16.1,x16.2.1,x16.2.2))
 (some (2,false,false,0))))
 (cond (i1==4)
 ((F_life_carries i2).bind fun b17=>
 cond b17
 ((F_life_fault 5 true).bind fun x18=>
 some (4,x18.1,x18.2.1,x18.2.2))
 (some (4,false,false,0)))
 (cond (i1==5)
 (some (5,false,false,0))
 ((F_life_fault 1 true).bind fun x19=>
 some (i1,x19.1,x19.2.1,x19.2.2)))))))))
 (cond (i1==0)
 (cond (i2==2)
 (some (0,false,false,0))
 (cond (i2 != 1)
 ((F_life_fault 1 true).bind fun x20=>
 some (0,x20.1,x20.2.1,x20.2.2))
 (cond b3
 (some (2,false,false,0))
 (some (1,false,false,0)))))
 (cond (i1==1)
 (cond (i1==1)
 (cond (i2==3)
 (some (4,false,false,0))
 ((F_life_carries i2).bind fun b21=>
 cond (b21&&b3)
 ((F_life_ended i1 2).bind fun i22=>
 some (i22,false,false,0))
 (some (i1,false,false,0))))
 (cond (i1==2)
 (cond (i2==3)
 (some (4,false,false,0))
 ((F_life_carries i2).bind fun b23=>
 cond b23
 ((F_life_fault 5 false).bind fun x24=>
 some (2,x24.1,x24.2.1,x24.2.2))
 (some (2,false,false,0))))
 (cond (i1==4)
 ((F_life_carries i2).bind fun b25=>
 cond b25
 ((F_life_fault 5 true).bind fun x26=>
 some (4,x26.1,x26.2.1,x26.2.2))
 (some (4,false,false,0)))
 (cond (i1==5)
 (some (5,false,false,0))
 ((F_life_fault 1 true).bind fun x27=>
 some (i1,x27.1,x27.2.1,x27.2.2))))))
 (cond (i1==3)
 (cond (i2==3)
 (some (4,false,false,0))
 ((F_life_carries i2).bind fun b28=>
 cond (b28&&b3)
 ((F_life_ended i1 2).bind fun i29=>
 some (i29,false,false,0))
 (some (i1,false,false,0))))
 (cond (i1==2)
 (cond (i2==3)
 (some (4,false,false,0))
 ((F_life_carries i2).bind fun b30=>
 cond b30
 ((F_life_fault 5 false).bind fun x31=>
 some (2,x31.1,x31.2.1,x31.2.2))
 (some (2,false,false,0))))
 (cond (i1==4)
 ((F_life_carries i2).bind fun b32=>
 cond b32
 ((F_life_fault 5 true).bind fun x33=>
 some (4,x33.1,x33.2.1,x33.2.2))
 (some (4,false,false,0)))
 (cond (i1==5)
 (some (5,false,false,0))
 ((F_life_fault 1 true).bind fun x34=>
 some (i1,x34.1,x34.2.1,x34.2.2))))))))
def F_life_Recv_sig:Sig:=⟨[.v false [.d (.int .i64)],.v false [.d (.int .i64)],.v false [.d .bool]],[(false,[.d (.int .i64)]),(true,[.d .bool,.d .bool,.d (.int .i64)])],[]⟩
def F_life_Recv_ann:List (Nat×Ann):=[]
noncomputable def F_life_Recv_env:Env:=⟨Tryz.prog,[(137,⟨F_life_carries_sig,⟨F_life_carries⟩⟩),(138,⟨F_life_ended_sig,⟨F_life_ended⟩⟩),(185,⟨F_life_fault_sig,⟨F_life_fault⟩⟩)],[]⟩
theorem F_life_Recv_text:pvFn F_life_Recv_env F_life_Recv_ann Tryz.f161 F_life_Recv_sig=F_life_Recv:=by kernel_rfl
noncomputable def F_conn_Conn_data (p1:Int) (i2:Int) (i3:Int) (i4:Int) (l5:List Int) (l6:List Int) (i7:Int) (i9:Int) (i10:Int) (i11:Int) (l12:List (Int×Int)) (b13:Bool) (b14:Bool) (b15:Bool) (l16:Zt5) (l17:Zt7) (l18:Zt1) (l19:Zt3):Option (Zt5×Zt7×Zt1×Zt3):=
 chk (nnI p1)
 ((getI l18 p1).bind fun x20=>
 cond (decide ((l5.length:Int) > x20.2.2.2.2.2.2.2.2.2.2.2.2.1))
 ((F_conn_Conn_dies p1 3 l16 l18).bind fun x21=>
 some (x21.1,l17,x21.2,l19))
 (chk (nnI p1)
 ((getI l18 p1).bind fun x22=>
 chk (nnI p1)
 ((getI l18 p1).bind fun x23=>
 (F_conn_Conn_State p1 i4 l17 (l18.set (Int.toNat p1) (x23.1,(x23.2.1,(x23.2.2.1,(x23.2.2.2.1,(x23.2.2.2.2.1,(x23.2.2.2.2.2.1,(x23.2.2.2.2.2.2.1,(x23.2.2.2.2.2.2.2.1,(x23.2.2.2.2.2.2.2.2.1,(x23.2.2.2.2.2.2.2.2.2.1,(x23.2.2.2.2.2.2.2.2.2.2.1,(x23.2.2.2.2.2.2.2.2.2.2.2.1,((IntKind.i64.wrap (x22.2.2.2.2.2.2.2.2.2.2.2.2.1 - (l5.length:Int))),x23.2.2.2.2.2.2.2.2.2.2.2.2.2)))))))))))))) l19).bind fun i24=>
 (F_life_Recv i24 0 b13).bind fun x25=>
 cond ((!x25.2.1)&&(x25.1 != 5))
 (chk (nnI p1)
 ((getI (l18.set (Int.toNat p1) (x23.1,(x23.2.1,(x23.2.2.1,(x23.2.2.2.1,(x23.2.2.2.2.1,(x23.2.2.2.2.2.1,(x23.2.2.2.2.2.2.1,(x23.2.2.2.2.2.2.2.1,(x23.2.2.2.2.2.2.2.2.1,(x23.2.2.2.2.2.2.2.2.2.1,(x23.2.2.2.2.2.2.2.2.2.2.1,(x23.2.2.2.2.2.2.2.2.2.2.2.1,((IntKind.i64.wrap (x22.2.2.2.2.2.2.2.2.2.2.2.2.1 - (l5.length:Int))),x23.2.2.2.2.2.2.2.2.2.2.2.2.2)))))))))))))) p1).bind fun x26=>
 (getI l17 x26.2.2.2.2.2.2.2.2.2.1).bind fun m27=>
 chk (nnI (getZ (mapGet m27 i4) (-1:Int)))
 ((getI l19 (getZ (mapGet m27 i4) (-1:Int))).bind fun x28=>
 cond (decide ((l5.length:Int) > x28.2.2))
 ((F_conn_Conn_faults p1 i4 3 l16 l17 (l18.set (Int.toNat p1) (x23.1,(x23.2.1,(x23.2.2.1,(x23.2.2.2.1,(x23.2.2.2.2.1,(x23.2.2.2.2.2.1,(x23.2.2.2.2.2.2.1,(x23.2.2.2.2.2.2.2.1,(x23.2.2.2.2.2.2.2.2.1,(x23.2.2.2.2.2.2.2.2.2.1,(x23.2.2.2.2.2.2.2.2.2.2.1,(x23.2.2.2.2.2.2.2.2.2.2.2.1,((IntKind.i64.wrap (x22.2.2.2.2.2.2.2.2.2.2.2.2.1 - (l5.length:Int))),x23.2.2.2.2.2.2.2.2.2.2.2.2.2)))))))))))))) l19).bind fun x29=>
 (F_conn_Conn_gives p1 (l5.length:Int) x29.1 x29.2.2.1).bind fun x30=>
 some (x30.1,x29.2.1,x30.2,x29.2.2.2))
 (cond x25.2.2.1
 ((F_conn_Conn_dies p1 x25.2.2.2 l16 (l18.set (Int.toNat p1) (x23.1,(x23.2.1,(x23.2.2.1,(x23.2.2.2.1,(x23.2.2.2.2.1,(x23.2.2.2.2.2.1,(x23.2.2.2.2.2.2.1,(x23.2.2.2.2.2.2.2.1,(x23.2.2.2.2.2.2.2.2.1,(x23.2.2.2.2.2.2.2.2.2.1,(x23.2.2.2.2.2.2.2.2.2.2.1,(x23.2.2.2.2.2.2.2.2.2.2.2.1,((IntKind.i64.wrap (x22.2.2.2.2.2.2.2.2.2.2.2.2.1 - (l5.length:Int))),x23.2.2.2.2.2.2.2.2.2.2.2.2.2))))))))))))))).bind fun x31=>
 some (x31.1,l17,x31.2,l19))
 (cond x25.2.1
 ((F_conn_Conn_faults p1 i4 x25.2.2.2 l16 l17 (l18.set (Int.toNat p1) (x23.1,(x23.2.1,(x23.2.2.1,(x23.2.2.2.1,(x23.2.2.2.2.1,(x23.2.2.2.2.2.1,(x23.2.2.2.2.2.2.1,(x23.2.2.2.2.2.2.2.1,(x23.2.2.2.2.2.2.2.2.1,(x23.2.2.2.2.2.2.2.2.2.1,(x23.2.2.2.2.2.2.2.2.2.2.1,(x23.2.2.2.2.2.2.2.2.2.2.2.1,((IntKind.i64.wrap (x22.2.2.2.2.2.2.2.2.2.2.2.2.1 - (l5.length:Int))),x23.2.2.2.2.2.2.2.2.2.2.2.2.2)))))))))))))) l19).bind fun x32=>
 (F_conn_Conn_gives p1 (l5.length:Int) x32.1 x32.2.2.1).bind fun x33=>
 some (x33.1,x32.2.1,x33.2,x32.2.2.2))
 (cond (x25.1==5)
 ((F_conn_Conn_gives p1 (l5.length:Int) l16 (l18.set (Int.toNat p1) (x23.1,(x23.2.1,(x23.2.2.1,(x23.2.2.2.1,(x23.2.2.2.2.1,(x23.2.2.2.2.2.1,(x23.2.2.2.2.2.2.1,(x23.2.2.2.2.2.2.2.1,(x23.2.2.2.2.2.2.2.2.1,(x23.2.2.2.2.2.2.2.2.2.1,(x23.2.2.2.2.2.2.2.2.2.2.1,(x23.2.2.2.2.2.2.2.2.2.2.2.1,((IntKind.i64.wrap (x22.2.2.2.2.2.2.2.2.2.2.2.2.1 - (l5.length:Int))),x23.2.2.2.2.2.2.2.2.2.2.2.2.2))))))))))))))).bind fun x34=>
 some (x34.1,l17,x34.2,l19))
 (chk (nnI p1)
 ((getI (l18.set (Int.toNat p1) (x23.1,(x23.2.1,(x23.2.2.1,(x23.2.2.2.1,(x23.2.2.2.2.1,(x23.2.2.2.2.2.1,(x23.2.2.2.2.2.2.1,(x23.2.2.2.2.2.2.2.1,(x23.2.2.2.2.2.2.2.2.1,(x23.2.2.2.2.2.2.2.2.2.1,(x23.2.2.2.2.2.2.2.2.2.2.1,(x23.2.2.2.2.2.2.2.2.2.2.2.1,((IntKind.i64.wrap (x22.2.2.2.2.2.2.2.2.2.2.2.2.1 - (l5.length:Int))),x23.2.2.2.2.2.2.2.2.2.2.2.2.2)))))))))))))) p1).bind fun x35=>
 (getI l17 x35.2.2.2.2.2.2.2.2.2.1).bind fun m36=>
 chk (nnI (getZ (mapGet m36 i4) (-1:Int)))
 ((getI l19 (getZ (mapGet m36 i4) (-1:Int))).bind fun x37=>
 chk (nnI (getZ (mapGet m36 i4) (-1:Int)))
 ((getI l19 (getZ (mapGet m36 i4) (-1:Int))).bind fun x38=>
 (F_conn_Conn_gives p1 i7 l16 (l18.set (Int.toNat p1) (x23.1,(x23.2.1,(x23.2.2.1,(x23.2.2.2.1,(x23.2.2.2.2.1,(x23.2.2.2.2.2.1,(x23.2.2.2.2.2.2.1,(x23.2.2.2.2.2.2.2.1,(x23.2.2.2.2.2.2.2.2.1,(x23.2.2.2.2.2.2.2.2.2.1,(x23.2.2.2.2.2.2.2.2.2.2.1,(x23.2.2.2.2.2.2.2.2.2.2.2.1,((IntKind.i64.wrap (x22.2.2.2.2.2.2.2.2.2.2.2.2.1 - (l5.length:Int))),x23.2.2.2.2.2.2.2.2.2.2.2.2.2))))))))))))))).bind fun x39=>
 cond (!b13)
 ((F_conn_Conn_givesTo p1 i4 i7 x39.1 l17 x39.2 (l19.set (Int.toNat (getZ (mapGet m36 i4) (-1:Int))) (x38.1,(x38.2.1,(IntKind.i64.wrap (x37.2.2 - (l5.length:Int))))))).bind fun x40=>
 (F_conn_Conn_turns p1 i4 x25.1 l17 x40.2.1 x40.2.2).bind fun x41=>
 (F_conn_Conn_tells p1 2 i4 0 ([]:Zt2) l6 false b13 false x41.2.1).bind fun l42=>
 some (x40.1,x41.1,l42,x41.2.2))
 ((F_conn_Conn_turns p1 i4 x25.1 l17 x39.2 (l19.set (Int.toNat (getZ (mapGet m36 i4) (-1:Int))) (x38.1,(x38.2.1,(IntKind.i64.wrap (x37.2.2 - (l5.length:Int))))))).bind fun x43=>
 (F_conn_Conn_tells p1 2 i4 0 ([]:Zt2) l6 false b13 false x43.2.1).bind fun l44=>
 some (x39.1,x43.1,l44,x43.2.2))))))))))))
 (cond x25.2.2.1
 ((F_conn_Conn_dies p1 x25.2.2.2 l16 (l18.set (Int.toNat p1) (x23.1,(x23.2.1,(x23.2.2.1,(x23.2.2.2.1,(x23.2.2.2.2.1,(x23.2.2.2.2.2.1,(x23.2.2.2.2.2.2.1,(x23.2.2.2.2.2.2.2.1,(x23.2.2.2.2.2.2.2.2.1,(x23.2.2.2.2.2.2.2.2.2.1,(x23.2.2.2.2.2.2.2.2.2.2.1,(x23.2.2.2.2.2.2.2.2.2.2.2.1,((IntKind.i64.wrap (x22.2.2.2.2.2.2.2.2.2.2.2.2.1 - (l5.length:Int))),x23.2.2.2.2.2.2.2.2.2.2.2.2.2))))))))))))))).bind fun x45=>
 some (x45.1,l17,x45.2,l19))
 (cond x25.2.1
 ((F_conn_Conn_faults p1 i4 x25.2.2.2 l16 l17 (l18.set (Int.toNat p1) (x23.1,(x23.2.1,(x23.2.2.1,(x23.2.2.2.1,(x23.2.2.2.2.1,(x23.2.2.2.2.2.1,(x23.2.2.2.2.2.2.1,(x23.2.2.2.2.2.2.2.1,(x23.2.2.2.2.2.2.2.2.1,(x23.2.2.2.2.2.2.2.2.2.1,(x23.2.2.2.2.2.2.2.2.2.2.1,(x23.2.2.2.2.2.2.2.2.2.2.2.1,((IntKind.i64.wrap (x22.2.2.2.2.2.2.2.2.2.2.2.2.1 - (l5.length:Int))),x23.2.2.2.2.2.2.2.2.2.2.2.2.2)))))))))))))) l19).bind fun x46=>
 (F_conn_Conn_gives p1 (l5.length:Int) x46.1 x46.2.2.1).bind fun x47=>
 some (x47.1,x46.2.1,x47.2,x46.2.2.2))
 (cond (x25.1==5)
 ((F_conn_Conn_gives p1 (l5.length:Int) l16 (l18.set (Int.toNat p1) (x23.1,(x23.2.1,(x23.2.2.1,(x23.2.2.2.1,(x23.2.2.2.2.1,(x23.2.2.2.2.2.1,(x23.2.2.2.2.2.2.1,(x23.2.2.2.2.2.2.2.1,(x23.2.2.2.2.2.2.2.2.1,(x23.2.2.2.2.2.2.2.2.2.1,(x23.2.2.2.2.2.2.2.2.2.2.1,(x23.2.2.2.2.2.2.2.2.2.2.2.1,((IntKind.i64.wrap (x22.2.2.2.2.2.2.2.2.2.2.2.2.1 - (l5.length:Int))),x23.2.2.2.2.2.2.2.2.2.2.2.2.2))))))))))))))).bind fun x48=>
 some (x48.1,l17,x48.2,l19))
 (chk (nnI p1)
 ((getI (l18.set (Int.toNat p1) (x23.1,(x23.2.1,(x23.2.2.1,(x23.2.2.2.1,(x23.2.2.2.2.1,(x23.2.2.2.2.2.1,(x23.2.2.2.2.2.2.1,(x23.2.2.2.2.2.2.2.1,(x23.2.2.2.2.2.2.2.2.1,(x23.2.2.2.2.2.2.2.2.2.1,(x23.2.2.2.2.2.2.2.2.2.2.1,(x23.2.2.2.2.2.2.2.2.2.2.2.1,((IntKind.i64.wrap (x22.2.2.2.2.2.2.2.2.2.2.2.2.1 - (l5.length:Int))),x23.2.2.2.2.2.2.2.2.2.2.2.2.2)))))))))))))) p1).bind fun x49=>
 (getI l17 x49.2.2.2.2.2.2.2.2.2.1).bind fun m50=>
 chk (nnI (getZ (mapGet m50 i4) (-1:Int)))
 ((getI l19 (getZ (mapGet m50 i4) (-1:Int))).bind fun x51=>
 chk (nnI (getZ (mapGet m50 i4) (-1:Int)))
 ((getI l19 (getZ (mapGet m50 i4) (-1:Int))).bind fun x52=>
 (F_conn_Conn_gives p1 i7 l16 (l18.set (Int.toNat p1) (x23.1,(x23.2.1,(x23.2.2.1,(x23.2.2.2.1,(x23.2.2.2.2.1,(x23.2.2.2.2.2.1,(x23.2.2.2.2.2.2.1,(x23.2.2.2.2.2.2.2.1,(x23.2.2.2.2.2.2.2.2.1,(x23.2.2.2.2.2.2.2.2.2.1,(x23.2.2.2.2.2.2.2.2.2.2.1,(x23.2.2.2.2.2.2.2.2.2.2.2.1,((IntKind.i64.wrap (x22.2.2.2.2.2.2.2.2.2.2.2.2.1 - (l5.length:Int))),x23.2.2.2.2.2.2.2.2.2.2.2.2.2))))))))))))))).bind fun x53=>
 cond (!b13)
 ((F_conn_Conn_givesTo p1 i4 i7 x53.1 l17 x53.2 (l19.set (Int.toNat (getZ (mapGet m50 i4) (-1:Int))) (x52.1,(x52.2.1,(IntKind.i64.wrap (x51.2.2 - (l5.length:Int))))))).bind fun x54=>
 (F_conn_Conn_turns p1 i4 x25.1 l17 x54.2.1 x54.2.2).bind fun x55=>
 (F_conn_Conn_tells p1 2 i4 0 ([]:Zt2) l6 false b13 false x55.2.1).bind fun l56=>
 some (x54.1,x55.1,l56,x55.2.2))
 ((F_conn_Conn_turns p1 i4 x25.1 l17 x53.2 (l19.set (Int.toNat (getZ (mapGet m50 i4) (-1:Int))) (x52.1,(x52.2.1,(IntKind.i64.wrap (x51.2.2 - (l5.length:Int))))))).bind fun x57=>
 (F_conn_Conn_tells p1 2 i4 0 ([]:Zt2) l6 false b13 false x57.2.1).bind fun l58=>
 some (x53.1,x57.1,l58,x57.2.2)))))))))))))
def F_conn_Conn_data_sig:Sig:=⟨[.v false [.d (.ptr 126)],.v true [.d (.int .i64),.d (.int .i64),.d (.int .i64),.d (.sl (.int .u8))],.v true [.d (.sl (.int .u8)),.d (.int .i64),.d (.int .i64),.d (.int .i64),.d (.int .i64),.d (.sl Zp10),.d .bool,.d .bool,.d .bool]],[],[(1000222,Zp14,true),(1000243,(.sl Zp15),true),(1000252,Zp9,true),(1000278,Zp16,true)]⟩
def F_conn_Conn_data_ann:List (Nat×Ann):=[]
noncomputable def F_conn_Conn_data_env:Env:=⟨Tryz.prog,[(38,⟨F_conn_Conn_State_sig,⟨F_conn_Conn_State⟩⟩),(72,⟨F_conn_Conn_dies_sig,⟨F_conn_Conn_dies⟩⟩),(82,⟨F_conn_Conn_gives_sig,⟨F_conn_Conn_gives⟩⟩),(83,⟨F_conn_Conn_givesTo_sig,⟨F_conn_Conn_givesTo⟩⟩),(87,⟨F_conn_Conn_turns_sig,⟨F_conn_Conn_turns⟩⟩),(122,⟨F_conn_Conn_tells_sig,⟨F_conn_Conn_tells⟩⟩),(124,⟨F_conn_Conn_faults_sig,⟨F_conn_Conn_faults⟩⟩),(161,⟨F_life_Recv_sig,⟨F_life_Recv⟩⟩)],[]⟩
theorem F_conn_Conn_data_text:pvFn F_conn_Conn_data_env F_conn_Conn_data_ann Tryz.f125 F_conn_Conn_data_sig=F_conn_Conn_data:=by kernel_rfl
noncomputable def F_pint_ones (i1:Int):Option (Int):=
 cond ((decide (i1 < 1))||(decide (i1 > 8)))
 (some 0)
 (chk (decide (0<=i1))
 (some (IntKind.i64.wrap ((IntKind.i64.wrap (1*2 ^ (min (i1).toNat 64))) - 1))))
def F_pint_ones_sig:Sig:=⟨[.v false [.d (.int .i64)]],[(false,[.d (.int .i64)])],[]⟩
def F_pint_ones_ann:List (Nat×Ann):=[]
noncomputable def F_pint_ones_env:Env:=⟨Tryz.prog,[],[]⟩
theorem F_pint_ones_text:pvFn F_pint_ones_env F_pint_ones_ann Tryz.f159 F_pint_ones_sig=F_pint_ones:=by kernel_rfl
noncomputable def F_pint_Get_G1_0 (l1:List Int) (s:Int×Int):Option ((Int×Int×Int)⊕(Nat×Int×Int)):=
 let i10:=s.1;let i11:=s.2
 cond (i11==(l1.length:Int))
 (some (.inl (0,0,4)))
 ((getI l1 i11).bind fun i12=>
 chk (decide (0<=(IntKind.i64.wrap (7*(IntKind.i64.wrap (i11 - 1))))))
 (cond (decide ((IntKind.i64.wrap (i10+(IntKind.i64.wrap ((IntKind.i64.wrap (bits .and .u8 i12 127))*2 ^ (min ((IntKind.i64.wrap (7*(IntKind.i64.wrap (i11 - 1))))).toNat 64))))) > 2147483647))
 (some (.inl (0,0,1)))
 (cond ((IntKind.i64.wrap (i11+1))==6)
 ((getI l1 (IntKind.i64.wrap ((IntKind.i64.wrap (i11+1)) - 1))).bind fun i13=>
 cond (decide (i13 >= 128))
 (some (.inl (0,0,1)))
 ((getI l1 (IntKind.i64.wrap ((IntKind.i64.wrap (i11+1)) - 1))).bind fun i14=>
 cond (decide (i14 >= 128))
 (some (.inr (0,((IntKind.i64.wrap (i10+(IntKind.i64.wrap ((IntKind.i64.wrap (bits .and .u8 i12 127))*2 ^ (min ((IntKind.i64.wrap (7*(IntKind.i64.wrap (i11 - 1))))).toNat 64))))),(IntKind.i64.wrap (i11+1))))))
 (some (.inl ((IntKind.i64.wrap (i10+(IntKind.i64.wrap ((IntKind.i64.wrap (bits .and .u8 i12 127))*2 ^ (min ((IntKind.i64.wrap (7*(IntKind.i64.wrap (i11 - 1))))).toNat 64))))),(IntKind.i64.wrap (i11+1)),0)))))
 ((getI l1 (IntKind.i64.wrap ((IntKind.i64.wrap (i11+1)) - 1))).bind fun i15=>
 cond (decide (i15 >= 128))
 (some (.inr (0,((IntKind.i64.wrap (i10+(IntKind.i64.wrap ((IntKind.i64.wrap (bits .and .u8 i12 127))*2 ^ (min ((IntKind.i64.wrap (7*(IntKind.i64.wrap (i11 - 1))))).toNat 64))))),(IntKind.i64.wrap (i11+1))))))
 (some (.inl ((IntKind.i64.wrap (i10+(IntKind.i64.wrap ((IntKind.i64.wrap (bits .and .u8 i12 127))*2 ^ (min ((IntKind.i64.wrap (7*(IntKind.i64.wrap (i11 - 1))))).toNat 64))))),(IntKind.i64.wrap (i11+1)),0)))))))
noncomputable def F_pint_Get_G1 (l1:List Int) (p:Nat×Int×Int):Option ((Int×Int×Int)⊕(Nat×Int×Int)):=
 cond (hasN [0] p.1) (F_pint_Get_G1_0 l1 p.2) (none)
noncomputable def F_pint_Get (l1:List Int) (i2:Int):Option (Int×Int×Int):=
 joinC (S:=Nat×Int×Int) (R:=Int×Int×Int)
 ((F_pint_ones i2).bind fun i3=>
 cond (i3==0)
 (some (.inl (0,0,1)))
 (cond ((l1.length:Int)==0)
 (some (.inl (0,0,4)))
 ((getI l1 0).bind fun i4=>
 cond (decide ((bits .and .i64 (IntKind.i64.wrap i4) i3) < i3))
 (some (.inl ((bits .and .i64 (IntKind.i64.wrap i4) i3),1,0)))
 (cond (1==(l1.length:Int))
 (some (.inl (0,0,4)))
 ((getI l1 1).bind fun i5=>
 chk (decide (0<=(IntKind.i64.wrap (7*(IntKind.i64.wrap (1 - 1))))))
 (cond (decide ((IntKind.i64.wrap ((bits .and .i64 (IntKind.i64.wrap i4) i3)+(IntKind.i64.wrap ((IntKind.i64.wrap (bits .and .u8 i5 127))*2 ^ (min ((IntKind.i64.wrap (7*(IntKind.i64.wrap (1 - 1))))).toNat 64))))) > 2147483647))
 (some (.inl (0,0,1)))
 (cond ((IntKind.i64.wrap (1+1))==6)
 ((getI l1 (IntKind.i64.wrap ((IntKind.i64.wrap (1+1)) - 1))).bind fun i6=>
 cond (decide (i6 >= 128))
 (some (.inl (0,0,1)))
 ((getI l1 (IntKind.i64.wrap ((IntKind.i64.wrap (1+1)) - 1))).bind fun i7=>
 cond (decide (i7 >= 128))
 (some (.inr (0,((IntKind.i64.wrap ((bits .and .i64 (IntKind.i64.wrap i4) i3)+(IntKind.i64.wrap ((IntKind.i64.wrap (bits .and .u8 i5 127))*2 ^ (min ((IntKind.i64.wrap (7*(IntKind.i64.wrap (1 - 1))))).toNat 64))))),(IntKind.i64.wrap (1+1))))))
 (some (.inl ((IntKind.i64.wrap ((bits .and .i64 (IntKind.i64.wrap i4) i3)+(IntKind.i64.wrap ((IntKind.i64.wrap (bits .and .u8 i5 127))*2 ^ (min ((IntKind.i64.wrap (7*(IntKind.i64.wrap (1 - 1))))).toNat 64))))),(IntKind.i64.wrap (1+1)),0)))))
 ((getI l1 (IntKind.i64.wrap ((IntKind.i64.wrap (1+1)) - 1))).bind fun i9=>
 cond (decide (i9 >= 128))
 (some (.inr (0,((IntKind.i64.wrap ((bits .and .i64 (IntKind.i64.wrap i4) i3)+(IntKind.i64.wrap ((IntKind.i64.wrap (bits .and .u8 i5 127))*2 ^ (min ((IntKind.i64.wrap (7*(IntKind.i64.wrap (1 - 1))))).toNat 64))))),(IntKind.i64.wrap (1+1))))))
 (some (.inl ((IntKind.i64.wrap ((bits .and .i64 (IntKind.i64.wrap i4) i3)+(IntKind.i64.wrap ((IntKind.i64.wrap (bits .and .u8 i5 127))*2 ^ (min ((IntKind.i64.wrap (7*(IntKind.i64.wrap (1 - 1))))).toNat 64))))),(IntKind.i64.wrap (1+1)),0)))))))))))
 (fun p=>loopC (S:=Nat×Int×Int) (R:=Int×Int×Int) (F_pint_Get_G1 l1) p)
def F_pint_Get_sig:Sig:=⟨[.v false [.d (.sl (.int .u8))],.v false [.d (.int .i64)]],[(false,[.d (.int .i64)]),(false,[.d (.int .i64)]),(false,[.d (.int .i64)])],[]⟩
def F_pint_Get_ann:List (Nat×Ann):=[(1,⟨2,[(8,false,[.d (.int .i64)]),(9,false,[.d (.int .i64)])],[],([4,5,6,7]++List.range' 10 58),[],[],[]⟩)]
noncomputable def F_pint_Get_env:Env:=⟨Tryz.prog,[(159,⟨F_pint_ones_sig,⟨F_pint_ones⟩⟩)],[]⟩
theorem F_pint_Get_text:pvFn F_pint_Get_env F_pint_Get_ann Tryz.f155 F_pint_Get_sig=F_pint_Get:=by kernel_rfl
noncomputable def F_unpack_block_number (l1:List Int) (p2:Int) (i3:Int) (i4:Int) (l5:Zt2) (i6:Int):Option (Int×Bool×List Int×Int×Int×Int×Zt2):=
 (F_pint_Get l1 i6).bind fun x7=>
 cond (x7.2.2 != 0)
 (some (0,false,l1,p2,i3,i4,l5))
 ((cutI l1 x7.2.1 (l1.length:Int)).bind fun l8=>
 some (x7.1,true,l8,p2,i3,i4,l5))
def F_unpack_block_number_sig:Sig:=⟨[.m [.d (.sl (.int .u8)),.d (.ptr 109),.d (.int .i64),.d (.int .i64),.own 26 Zp17],.v false [.d (.int .i64)]],[(false,[.d (.int .i64)]),(false,[.d .bool])],[]⟩
def F_unpack_block_number_ann:List (Nat×Ann):=[]
noncomputable def F_unpack_block_number_env:Env:=⟨Tryz.prog,[(155,⟨F_pint_Get_sig,⟨F_pint_Get⟩⟩)],[25]⟩
theorem F_unpack_block_number_text:pvFn F_unpack_block_number_env F_unpack_block_number_ann Tryz.f110 F_unpack_block_number_sig=F_unpack_block_number:=by kernel_rfl
noncomputable def F_internal_stringslite_Cut (s1:List Int) (s2:List Int):Option (List Int×List Int×Bool):=
 (F_internal_stringslite_Index s1 s2).bind fun i3=>
 cond (decide (i3 >= 0))
 ((cutI s1 0 i3).bind fun s4=>
 (cutI s1 (IntKind.i64.wrap (i3+(s2.length:Int))) (s1.length:Int)).bind fun s5=>
 some (s4,s5,true))
 (some (s1,([]:List Int),false))
def F_internal_stringslite_Cut_sig:Sig:=⟨[.v false [.d .str],.v false [.d .str]],[(false,[.d .str]),(false,[.d .str]),(false,[.d .bool])],[]⟩
def F_internal_stringslite_Cut_ann:List (Nat×Ann):=[]
noncomputable def F_internal_stringslite_Cut_env:Env:=⟨Tryz.prog,[(224,⟨F_internal_stringslite_Index_sig,⟨F_internal_stringslite_Index⟩⟩)],[]⟩
theorem F_internal_stringslite_Cut_text:pvFn F_internal_stringslite_Cut_env F_internal_stringslite_Cut_ann Tryz.f218 F_internal_stringslite_Cut_sig=F_internal_stringslite_Cut:=by kernel_rfl
noncomputable def F_strings_Cut (s1:List Int) (s2:List Int):Option (List Int×List Int×Bool):=
 (F_internal_stringslite_Cut s1 s2).bind fun x3=>
 some (x3.1,x3.2.1,x3.2.2)
def F_strings_Cut_sig:Sig:=⟨[.v false [.d .str],.v false [.d .str]],[(false,[.d .str]),(false,[.d .str]),(false,[.d .bool])],[]⟩
def F_strings_Cut_ann:List (Nat×Ann):=[]
noncomputable def F_strings_Cut_env:Env:=⟨Tryz.prog,[(218,⟨F_internal_stringslite_Cut_sig,⟨F_internal_stringslite_Cut⟩⟩)],[]⟩
theorem F_strings_Cut_text:pvFn F_strings_Cut_env F_strings_Cut_ann Tryz.f205 F_strings_Cut_sig=F_strings_Cut:=by kernel_rfl
noncomputable def F_stat_split (s1:List Int):Option (List Int×List Int×Bool):=
 (F_strings_Cut s1 ([32]:List Int)).bind fun x2=>
 some (x2.1,x2.2.1,false)
def F_stat_split_sig:Sig:=⟨[.v false [.d .str]],[(true,[.d .str,.d .str,.d .bool])],[]⟩
def F_stat_split_ann:List (Nat×Ann):=[]
noncomputable def F_stat_split_env:Env:=⟨Tryz.prog,[(205,⟨F_strings_Cut_sig,⟨F_strings_Cut⟩⟩)],[]⟩
theorem F_stat_split_text:pvFn F_stat_split_env F_stat_split_ann Tryz.f182 F_stat_split_sig=F_stat_split:=by kernel_rfl
noncomputable def F_stat_Get (i1:Int):Option (List Int×List Int×Bool×Bool):=
 cond ((decide (i1 < 1))||(decide (i1 > 61)))
 (some (([]:List Int),([]:List Int),false,false))
 ((F_strings_Split ([58,97,117,116,104,111,114,105,116,121,124,58,109,101,116,104,111,100,32,71,69,84,124,58,109,101,116,104,111,100,32,80,79,83,84,124,58,112,97,116,104,32,47,124,58,112,97,116,104,32,47,105,110,100,101,120,46,104,116,109,108,124,58,115,99,104,101,109,101,32,104,116,116,112,124,58,115,99,104,101,109,101,32,104,116,116,112,115,124,58,115,116,97,116,117,115,32,50,48,48,124,58,115,116,97,116,117,115,32,50,48,52,124,58,115,116,97,116,117,115,32,50,48,54,124,58,115,116,97,116,117,115,32,51,48,52,124,58,115,116,97,116,117,115,32,52,48,48,124,58,115,116,97,116,117,115,32,52,48,52,124,58,115,116,97,116,117,115,32,53,48,48,124,97,99,99,101,112,116,45,99,104,97,114,115,101,116,124,97,99,99,101,112,116,45,101,110,99,111,100,105,110,103,32,103,122,105,112,44,32,100,101,102,108,97,116,101,124,97,99,99,101,112,116,45,108,97,110,103,117,97,103,101,124,97,99,99,101,112,116,45,114,97,110,103,101,115,124,97,99,99,101,112,116,124,97,99,99,101,115,115,45,99,111,110,116,114,111,108,45,97,108,108,111,119,45,111,114,105,103,105,110,124,97,103,101,124,97,108,108,111,119,124,97,117,116,104,111,114,105,122,97,116,105,111,110,124,99,97,99,104,101,45,99,111,110,116,114,111,108,124,99,111,110,116,101,110,116,45,100,105,115,112,111,115,105,116,105,111,110,124,99,111,110,116,101,110,116,45,101,110,99,111,100,105,110,103,124,99,111,110,116,101,110,116,45,108,97,110,103,117,97,103,101,124,99,111,110,116,101,110,116,45,108,101,110,103,116,104,124,99,111,110,116,101,110,116,45,108,111,99,97,116,105,111,110,124,99,111,110,116,101,110,116,45,114,97,110,103,101,124,99,111,110,116,101,110,116,45,116,121,112,101,124,99,111,111,107,105,101,124,100,97,116,101,124,101,116,97,103,124,101,120,112,101,99,116,124,101,120,112,105,114,101,115,124,102,114,111,109,124,104,111,115,116,124,105,102,45,109,97,116,99,104,124,105,102,45,109,111,100,105,102,105,101,100,45,115,105,110,99,101,124,105,102,45,110,111,110,101,45,109,97,116,99,104,124,105,102,45,114,97,110,103,101,124,105,102,45,117,110,109,111,100,105,102,105,101,100,45,115,105,110,99,101,124,108,97,115,116,45,109,111,100,105,102,105,101,100,124,108,105,110,107,124,108,111,99,97,116,105,111,110,124,109,97,120,45,102,111,114,119,97,114,100,115,124,112,114,111,120,121,45,97,117,116,104,101,110,116,105,99,97,116,101,124,112,114,111,120,121,45,97,117,116,104,111,114,105,122,97,116,105,111,110,124,114,97,110,103,101,124,114,101,102,101,114,101,114,124,114,101,102,114,101,115,104,124,114,101,116,114,121,45,97,102,116,101,114,124,115,101,114,118,101,114,124,115,101,116,45,99,111,111,107,105,101,124,115,116,114,105,99,116,45,116,114,97,110,115,112,111,114,116,45,115,101,99,117,114,105,116,121,124,116,114,97,110,115,102,101,114,45,101,110,99,111,100,105,110,103,124,117,115,101,114,45,97,103,101,110,116,124,118,97,114,121,124,118,105,97,124,119,119,119,45,97,117,116,104,101,110,116,105,99,97,116,101]:List Int) ([124]:List Int)).bind fun l2=>
 (getI l2 (IntKind.i64.wrap (i1 - 1))).bind fun s3=>
 (F_stat_split s3).bind fun x4=>
 some (x4.1,x4.2.1,x4.2.2,true))
def F_stat_Get_sig:Sig:=⟨[.v false [.d (.int .i64)]],[(true,[.d .str,.d .str,.d .bool]),(false,[.d .bool])],[]⟩
def F_stat_Get_ann:List (Nat×Ann):=[]
noncomputable def F_stat_Get_env:Env:=⟨Tryz.prog,[(182,⟨F_stat_split_sig,⟨F_stat_split⟩⟩),(183,⟨F_strings_Split_sig,⟨F_strings_Split⟩⟩)],[]⟩
theorem F_stat_Get_text:pvFn F_stat_Get_env F_stat_Get_ann Tryz.f156 F_stat_Get_sig=F_stat_Get:=by kernel_rfl
noncomputable def F_dyn_Table_Get (p1:Int) (i2:Int) (l3:List (Zt2×Int×Int)):Option (List Int×List Int×Bool×Bool):=
 cond (decide (i2 < 1))
 (some (([]:List Int),([]:List Int),false,false))
 (chk (nnI p1)
 ((getI l3 p1).bind fun x4=>
 cond (decide (i2 > (x4.1.length:Int)))
 (some (([]:List Int),([]:List Int),false,false))
 (chk (nnI p1)
 ((getI l3 p1).bind fun x5=>
 chk (nnI p1)
 ((getI l3 p1).bind fun x6=>
 (getI x5.1 (IntKind.i64.wrap ((x6.1.length:Int) - i2))).bind fun x7=>
 some (x7.1,x7.2.1,x7.2.2,true))))))
def F_dyn_Table_Get_sig:Sig:=⟨[.v false [.d (.ptr 109)],.v false [.d (.int .i64)]],[(true,[.d .str,.d .str,.d .bool]),(false,[.d .bool])],[(1000218,Zp11,false)]⟩
def F_dyn_Table_Get_ann:List (Nat×Ann):=[]
noncomputable def F_dyn_Table_Get_env:Env:=⟨Tryz.prog,[],[]⟩
theorem F_dyn_Table_Get_text:pvFn F_dyn_Table_Get_env F_dyn_Table_Get_ann Tryz.f157 F_dyn_Table_Get_sig=F_dyn_Table_Get:=by kernel_rfl
noncomputable def F_unpack_block_at (l1:List Int) (p2:Int) (i3:Int) (i4:Int) (l5:Zt2) (i6:Int) (l7:List (Zt2×Int×Int)):Option (List Int×List Int×Bool×Bool×List Int×Int×Int×Int×Zt2):=
 cond (decide (i6<=61))
 ((F_stat_Get i6).bind fun x8=>
 some (x8.1,x8.2.1,x8.2.2.1,x8.2.2.2,l1,p2,i3,i4,l5))
 ((F_dyn_Table_Get p2 (IntKind.i64.wrap (i6 - 61)) l7).bind fun x9=>
 some (x9.1,x9.2.1,x9.2.2.1,x9.2.2.2,l1,p2,i3,i4,l5))
def F_unpack_block_at_sig:Sig:=⟨[.m [.d (.sl (.int .u8)),.d (.ptr 109),.d (.int .i64),.d (.int .i64),.own 26 Zp17],.v false [.d (.int .i64)]],[(true,[.d .str,.d .str,.d .bool]),(false,[.d .bool])],[(1000218,Zp11,false)]⟩
def F_unpack_block_at_ann:List (Nat×Ann):=[]
noncomputable def F_unpack_block_at_env:Env:=⟨Tryz.prog,[(156,⟨F_stat_Get_sig,⟨F_stat_Get⟩⟩),(157,⟨F_dyn_Table_Get_sig,⟨F_dyn_Table_Get⟩⟩)],[]⟩
theorem F_unpack_block_at_text:pvFn F_unpack_block_at_env F_unpack_block_at_ann Tryz.f111 F_unpack_block_at_sig=F_unpack_block_at:=by kernel_rfl
noncomputable def F_unpack_block_text (l1:List Int) (p2:Int) (i3:Int) (i4:Int) (l5:Zt2):Option (List Int×Bool×List Int×Int×Int×Int×Zt2):=
 cond (decide ((l1.length:Int) > 0))
 ((getI l1 0).bind fun i6=>
 (F_unpack_block_number l1 p2 i3 i4 l5 7).bind fun x7=>
 cond ((!x7.2.1)||(decide (x7.1 > 16384)))
 (some (([]:List Int),false,x7.2.2.1,x7.2.2.2.1,x7.2.2.2.2.1,x7.2.2.2.2.2.1,x7.2.2.2.2.2.2))
 (cond (decide (x7.1 > (x7.2.2.1.length:Int)))
 (some (([]:List Int),false,x7.2.2.1,x7.2.2.2.1,x7.2.2.2.2.1,x7.2.2.2.2.2.1,x7.2.2.2.2.2.2))
 ((cutI x7.2.2.1 0 x7.1).bind fun l8=>
 (cutI x7.2.2.1 x7.1 (x7.2.2.1.length:Int)).bind fun l9=>
 cond (decide ((bits .and .u8 i6 128) > 0))
 (none)
 (some (l8,true,l9,x7.2.2.2.1,x7.2.2.2.2.1,x7.2.2.2.2.2.1,x7.2.2.2.2.2.2)))))
 ((F_unpack_block_number l1 p2 i3 i4 l5 7).bind fun x10=>
 cond ((!x10.2.1)||(decide (x10.1 > 16384)))
 (some (([]:List Int),false,x10.2.2.1,x10.2.2.2.1,x10.2.2.2.2.1,x10.2.2.2.2.2.1,x10.2.2.2.2.2.2))
 (cond (decide (x10.1 > (x10.2.2.1.length:Int)))
 (some (([]:List Int),false,x10.2.2.1,x10.2.2.2.1,x10.2.2.2.2.1,x10.2.2.2.2.2.1,x10.2.2.2.2.2.2))
 ((cutI x10.2.2.1 0 x10.1).bind fun l11=>
 (cutI x10.2.2.1 x10.1 (x10.2.2.1.length:Int)).bind fun l12=>
 some (l11,true,l12,x10.2.2.2.1,x10.2.2.2.2.1,x10.2.2.2.2.2.1,x10.2.2.2.2.2.2))))
def F_unpack_block_text_sig:Sig:=⟨[.m [.d (.sl (.int .u8)),.d (.ptr 109),.d (.int .i64),.d (.int .i64),.own 26 Zp17]],[(false,[.d .str]),(false,[.d .bool])],[]⟩
def F_unpack_block_text_ann:List (Nat×Ann):=[]
noncomputable def F_unpack_block_text_env:Env:=⟨Tryz.prog,[(110,⟨F_unpack_block_number_sig,⟨F_unpack_block_number⟩⟩)],[56]⟩
theorem F_unpack_block_text_text:pvFn F_unpack_block_text_env F_unpack_block_text_ann Tryz.f154 F_unpack_block_text_sig=F_unpack_block_text:=by kernel_rfl
noncomputable def F_unpack_block_literal (l1:List Int) (p2:Int) (i3:Int) (i4:Int) (l5:Zt2) (i6:Int) (l7:List (Zt2×Int×Int)):Option (List Int×List Int×Bool×Bool×List Int×Int×Int×Int×Zt2):=
 (F_unpack_block_number l1 p2 i3 i4 l5 i6).bind fun x8=>
 cond (!x8.2.1)
 (some (([]:List Int),([]:List Int),false,false,x8.2.2.1,x8.2.2.2.1,x8.2.2.2.2.1,x8.2.2.2.2.2.1,x8.2.2.2.2.2.2))
 (cond (decide (x8.1 > 0))
 ((F_unpack_block_at x8.2.2.1 x8.2.2.2.1 x8.2.2.2.2.1 x8.2.2.2.2.2.1 x8.2.2.2.2.2.2 x8.1 l7).bind fun x9=>
 cond (!x9.2.2.2.1)
 (some (([]:List Int),([]:List Int),false,false,x9.2.2.2.2.1,x9.2.2.2.2.2.1,x9.2.2.2.2.2.2.1,x9.2.2.2.2.2.2.2.1,x9.2.2.2.2.2.2.2.2))
 ((F_unpack_block_text x9.2.2.2.2.1 x9.2.2.2.2.2.1 x9.2.2.2.2.2.2.1 x9.2.2.2.2.2.2.2.1 x9.2.2.2.2.2.2.2.2).bind fun x10=>
 some (x9.1,x10.1,x9.2.2.1,x10.2.1,x10.2.2.1,x10.2.2.2.1,x10.2.2.2.2.1,x10.2.2.2.2.2.1,x10.2.2.2.2.2.2)))
 ((F_unpack_block_text x8.2.2.1 x8.2.2.2.1 x8.2.2.2.2.1 x8.2.2.2.2.2.1 x8.2.2.2.2.2.2).bind fun x11=>
 cond (!x11.2.1)
 (some (([]:List Int),([]:List Int),false,false,x11.2.2.1,x11.2.2.2.1,x11.2.2.2.2.1,x11.2.2.2.2.2.1,x11.2.2.2.2.2.2))
 ((F_unpack_block_text x11.2.2.1 x11.2.2.2.1 x11.2.2.2.2.1 x11.2.2.2.2.2.1 x11.2.2.2.2.2.2).bind fun x12=>
 some (x11.1,x12.1,false,x12.2.1,x12.2.2.1,x12.2.2.2.1,x12.2.2.2.2.1,x12.2.2.2.2.2.1,x12.2.2.2.2.2.2))))
def F_unpack_block_literal_sig:Sig:=⟨[.m [.d (.sl (.int .u8)),.d (.ptr 109),.d (.int .i64),.d (.int .i64),.own 26 Zp17],.v false [.d (.int .i64)]],[(true,[.d .str,.d .str,.d .bool]),(false,[.d .bool])],[(1000218,Zp11,false)]⟩
def F_unpack_block_literal_ann:List (Nat×Ann):=[]
noncomputable def F_unpack_block_literal_env:Env:=⟨Tryz.prog,[(110,⟨F_unpack_block_number_sig,⟨F_unpack_block_number⟩⟩),(111,⟨F_unpack_block_at_sig,⟨F_unpack_block_at⟩⟩),(154,⟨F_unpack_block_text_sig,⟨F_unpack_block_text⟩⟩)],[]⟩
theorem F_unpack_block_literal_text:pvFn F_unpack_block_literal_env F_unpack_block_literal_ann Tryz.f109 F_unpack_block_literal_sig=F_unpack_block_literal:=by kernel_rfl
noncomputable def F_dyn_Table_Add (p1:Int) (s2:List Int) (s3:List Int) (b4:Bool) (l5:List (Zt2×Int×Int)):Option (List (Zt2×Int×Int)):=
 (F_stat_Size s2 s3 b4).bind fun i6=>
 chk (nnI p1)
 ((getI l5 p1).bind fun x7=>
 (F_dyn_Table_shrinks p1 (IntKind.i64.wrap (x7.2.2 - i6)) l5).bind fun l8=>
 chk (nnI p1)
 ((getI l8 p1).bind fun x9=>
 cond (decide (i6<=x9.2.2))
 (chk (nnI p1)
 ((getI l8 p1).bind fun x10=>
 chk (decide ((x10.1.length+([(s2,s3,false)]:Zt2).length)*40<=140737488355328)&&decide (x10.1.length+([(s2,s3,false)]:Zt2).length<=maxLen))
 (chk (nnI p1)
 ((getI l8 p1).bind fun x11=>
 chk (nnI p1)
 ((getI l8 p1).bind fun x12=>
 chk (eqI p1 p1)
 (chk (nnI p1)
 ((getI (l8.set (Int.toNat p1) ((x10.1++([(s2,s3,false)]:Zt2)),x12.2)) p1).bind fun x13=>
 some ((l8.set (Int.toNat p1) ((x10.1++([(s2,s3,false)]:Zt2)),x12.2)).set (Int.toNat p1) (x13.1,((IntKind.i64.wrap (x11.2.1+i6)),x13.2.2))))))))))
 (some l8)))
def F_dyn_Table_Add_sig:Sig:=⟨[.v false [.d (.ptr 109)],.v true [.d .str,.d .str,.d .bool]],[],[(1000218,Zp11,true)]⟩
def F_dyn_Table_Add_ann:List (Nat×Ann):=[]
noncomputable def F_dyn_Table_Add_env:Env:=⟨Tryz.prog,[(152,⟨F_dyn_Table_shrinks_sig,⟨F_dyn_Table_shrinks⟩⟩),(158,⟨F_stat_Size_sig,⟨F_stat_Size⟩⟩)],[27]⟩
theorem F_dyn_Table_Add_text:pvFn F_dyn_Table_Add_env F_dyn_Table_Add_ann Tryz.f112 F_dyn_Table_Add_sig=F_dyn_Table_Add:=by kernel_rfl
noncomputable def F_unpack_block_keep (l1:List Int) (p2:Int) (i3:Int) (i4:Int) (l5:Zt2) (s6:List Int) (s7:List Int) (b8:Bool):Option (List Int×Int×Int×Int×Zt2):=
 (F_stat_Size s6 s7 b8).bind fun i9=>
 cond (decide ((IntKind.i64.wrap (i4+i9))<=i3))
 (chk (decide ((l5.length+([(s6,s7,b8)]:Zt2).length)*40<=140737488355328)&&decide (l5.length+([(s6,s7,b8)]:Zt2).length<=maxLen))
 (some (l1,p2,i3,(IntKind.i64.wrap (i4+i9)),(l5++([(s6,s7,b8)]:Zt2)))))
 (some (l1,p2,i3,(IntKind.i64.wrap (i4+i9)),l5))
def F_unpack_block_keep_sig:Sig:=⟨[.m [.d (.sl (.int .u8)),.d (.ptr 109),.d (.int .i64),.d (.int .i64),.own 26 Zp17],.v true [.d .str,.d .str,.d .bool]],[],[]⟩
def F_unpack_block_keep_ann:List (Nat×Ann):=[]
noncomputable def F_unpack_block_keep_env:Env:=⟨Tryz.prog,[(158,⟨F_stat_Size_sig,⟨F_stat_Size⟩⟩)],[26]⟩
theorem F_unpack_block_keep_text:pvFn F_unpack_block_keep_env F_unpack_block_keep_ann Tryz.f113 F_unpack_block_keep_sig=F_unpack_block_keep:=by kernel_rfl
noncomputable def F_unpack_block_read_G1_0 (s:Bool×Int×Bool×List Int×List Int×Bool×List Int×Int×Int×Int×Zt2×List (Zt2×Int×Int)):Option ((Bool×List Int×Int×Int×Int×Zt2×List (Zt2×Int×Int))⊕(Nat×Bool×Int×Bool×List Int×List Int×Bool×List Int×Int×Int×Int×Zt2×List (Zt2×Int×Int))):=
 let b9:=s.1;let i10:=s.2.1;let b11:=s.2.2.1;let s12:=s.2.2.2.1;let s13:=s.2.2.2.2.1;let b14:=s.2.2.2.2.2.1;let l15:=s.2.2.2.2.2.2.1;let p16:=s.2.2.2.2.2.2.2.1;let i17:=s.2.2.2.2.2.2.2.2.1;let i18:=s.2.2.2.2.2.2.2.2.2.1;let l19:=s.2.2.2.2.2.2.2.2.2.2.1;let l20:=s.2.2.2.2.2.2.2.2.2.2.2
 cond ((l15.length:Int)==0)
 (some (.inl (true,l15,p16,i17,i18,l19,l20)))
 ((getI l15 0).bind fun i21=>
 cond (decide (i21 >= 128))
 (some (.inr (1,(b9,i10,b11,s12,s13,b14,l15,p16,i17,i18,l19,l20))))
 (cond (decide (i21 >= 64))
 (some (.inr (2,(b9,i10,b11,s12,s13,b14,l15,p16,i17,i18,l19,l20))))
 (cond (decide (i21 >= 32))
 (some (.inr (3,(b9,i10,b11,s12,s13,b14,l15,p16,i17,i18,l19,l20))))
 ((F_unpack_block_literal l15 p16 i17 i18 l19 4 l20).bind fun x22=>
 some (.inr (4,(x22.2.2.2.1,i10,b11,x22.1,x22.2.1,(decide (i21 >= 16)),x22.2.2.2.2.1,x22.2.2.2.2.2.1,x22.2.2.2.2.2.2.1,x22.2.2.2.2.2.2.2.1,x22.2.2.2.2.2.2.2.2,l20)))))))
noncomputable def F_unpack_block_read_G1_1 (s:Bool×Int×Bool×List Int×List Int×Bool×List Int×Int×Int×Int×Zt2×List (Zt2×Int×Int)):Option ((Bool×List Int×Int×Int×Int×Zt2×List (Zt2×Int×Int))⊕(Nat×Bool×Int×Bool×List Int×List Int×Bool×List Int×Int×Int×Int×Zt2×List (Zt2×Int×Int))):=
 let b9:=s.1;let i10:=s.2.1;let b11:=s.2.2.1;let s12:=s.2.2.2.1;let s13:=s.2.2.2.2.1;let b14:=s.2.2.2.2.2.1;let l15:=s.2.2.2.2.2.2.1;let p16:=s.2.2.2.2.2.2.2.1;let i17:=s.2.2.2.2.2.2.2.2.1;let i18:=s.2.2.2.2.2.2.2.2.2.1;let l19:=s.2.2.2.2.2.2.2.2.2.2.1;let l20:=s.2.2.2.2.2.2.2.2.2.2.2
 (F_unpack_block_number l15 p16 i17 i18 l19 7).bind fun x23=>
 cond x23.2.1
 ((F_unpack_block_at x23.2.2.1 x23.2.2.2.1 x23.2.2.2.2.1 x23.2.2.2.2.2.1 x23.2.2.2.2.2.2 x23.1 l20).bind fun x24=>
 some (.inr (4,(x24.2.2.2.1,i10,b11,x24.1,x24.2.1,x24.2.2.1,x24.2.2.2.2.1,x24.2.2.2.2.2.1,x24.2.2.2.2.2.2.1,x24.2.2.2.2.2.2.2.1,x24.2.2.2.2.2.2.2.2,l20))))
 (some (.inr (4,(x23.2.1,i10,b11,s12,s13,b14,x23.2.2.1,x23.2.2.2.1,x23.2.2.2.2.1,x23.2.2.2.2.2.1,x23.2.2.2.2.2.2,l20))))
noncomputable def F_unpack_block_read_G1_2 (s:Bool×Int×Bool×List Int×List Int×Bool×List Int×Int×Int×Int×Zt2×List (Zt2×Int×Int)):Option ((Bool×List Int×Int×Int×Int×Zt2×List (Zt2×Int×Int))⊕(Nat×Bool×Int×Bool×List Int×List Int×Bool×List Int×Int×Int×Int×Zt2×List (Zt2×Int×Int))):=
 let b9:=s.1;let i10:=s.2.1;let b11:=s.2.2.1;let s12:=s.2.2.2.1;let s13:=s.2.2.2.2.1;let b14:=s.2.2.2.2.2.1;let l15:=s.2.2.2.2.2.2.1;let p16:=s.2.2.2.2.2.2.2.1;let i17:=s.2.2.2.2.2.2.2.2.1;let i18:=s.2.2.2.2.2.2.2.2.2.1;let l19:=s.2.2.2.2.2.2.2.2.2.2.1;let l20:=s.2.2.2.2.2.2.2.2.2.2.2
 (F_unpack_block_literal l15 p16 i17 i18 l19 6 l20).bind fun x25=>
 cond x25.2.2.2.1
 ((F_dyn_Table_Add x25.2.2.2.2.2.1 x25.1 x25.2.1 x25.2.2.1 l20).bind fun l26=>
 some (.inr (4,(x25.2.2.2.1,i10,b11,x25.1,x25.2.1,x25.2.2.1,x25.2.2.2.2.1,x25.2.2.2.2.2.1,x25.2.2.2.2.2.2.1,x25.2.2.2.2.2.2.2.1,x25.2.2.2.2.2.2.2.2,l26))))
 (some (.inr (4,(x25.2.2.2.1,i10,b11,x25.1,x25.2.1,x25.2.2.1,x25.2.2.2.2.1,x25.2.2.2.2.2.1,x25.2.2.2.2.2.2.1,x25.2.2.2.2.2.2.2.1,x25.2.2.2.2.2.2.2.2,l20))))
noncomputable def F_unpack_block_read_G1_3 (s:Bool×Int×Bool×List Int×List Int×Bool×List Int×Int×Int×Int×Zt2×List (Zt2×Int×Int)):Option ((Bool×List Int×Int×Int×Int×Zt2×List (Zt2×Int×Int))⊕(Nat×Bool×Int×Bool×List Int×List Int×Bool×List Int×Int×Int×Int×Zt2×List (Zt2×Int×Int))):=
 let b9:=s.1;let i10:=s.2.1;let b11:=s.2.2.1;let s12:=s.2.2.2.1;let s13:=s.2.2.2.2.1;let b14:=s.2.2.2.2.2.1;let l15:=s.2.2.2.2.2.2.1;let p16:=s.2.2.2.2.2.2.2.1;let i17:=s.2.2.2.2.2.2.2.2.1;let i18:=s.2.2.2.2.2.2.2.2.2.1;let l19:=s.2.2.2.2.2.2.2.2.2.2.1;let l20:=s.2.2.2.2.2.2.2.2.2.2.2
 (F_unpack_block_number l15 p16 i17 i18 l19 5).bind fun x27=>
 cond (((!x27.2.1)||b11)||(decide ((IntKind.i64.wrap (i10+1)) > 2)))
 (some (.inl (false,x27.2.2.1,x27.2.2.2.1,x27.2.2.2.2.1,x27.2.2.2.2.2.1,x27.2.2.2.2.2.2,l20)))
 ((F_dyn_Table_Limit x27.2.2.2.1 x27.1 l20).bind fun x28=>
 cond (x28.1 != 0)
 (some (.inl (false,x27.2.2.1,x27.2.2.2.1,x27.2.2.2.2.1,x27.2.2.2.2.2.1,x27.2.2.2.2.2.2,x28.2)))
 (some (.inr (0,(x27.2.1,(IntKind.i64.wrap (i10+1)),b11,s12,s13,b14,x27.2.2.1,x27.2.2.2.1,x27.2.2.2.2.1,x27.2.2.2.2.2.1,x27.2.2.2.2.2.2,x28.2)))))
noncomputable def F_unpack_block_read_G1_4 (s:Bool×Int×Bool×List Int×List Int×Bool×List Int×Int×Int×Int×Zt2×List (Zt2×Int×Int)):Option ((Bool×List Int×Int×Int×Int×Zt2×List (Zt2×Int×Int))⊕(Nat×Bool×Int×Bool×List Int×List Int×Bool×List Int×Int×Int×Int×Zt2×List (Zt2×Int×Int))):=
 let b9:=s.1;let i10:=s.2.1;let b11:=s.2.2.1;let s12:=s.2.2.2.1;let s13:=s.2.2.2.2.1;let b14:=s.2.2.2.2.2.1;let l15:=s.2.2.2.2.2.2.1;let p16:=s.2.2.2.2.2.2.2.1;let i17:=s.2.2.2.2.2.2.2.2.1;let i18:=s.2.2.2.2.2.2.2.2.2.1;let l19:=s.2.2.2.2.2.2.2.2.2.2.1;let l20:=s.2.2.2.2.2.2.2.2.2.2.2
 cond (!b9)
 (some (.inl (false,l15,p16,i17,i18,l19,l20)))
 ((F_unpack_block_keep l15 p16 i17 i18 l19 s12 s13 b14).bind fun x29=>
 some (.inr (0,(b9,i10,true,s12,s13,b14,x29.1,x29.2.1,x29.2.2.1,x29.2.2.2.1,x29.2.2.2.2,l20))))
noncomputable def F_unpack_block_read_G1 (p:Nat×Bool×Int×Bool×List Int×List Int×Bool×List Int×Int×Int×Int×Zt2×List (Zt2×Int×Int)):Option ((Bool×List Int×Int×Int×Int×Zt2×List (Zt2×Int×Int))⊕(Nat×Bool×Int×Bool×List Int×List Int×Bool×List Int×Int×Int×Int×Zt2×List (Zt2×Int×Int))):=
 cond (hasN [0] p.1) (F_unpack_block_read_G1_0 p.2) (cond (hasN [1] p.1) (F_unpack_block_read_G1_1 p.2) (cond (hasN [2] p.1) (F_unpack_block_read_G1_2 p.2) (cond (hasN [3] p.1) (F_unpack_block_read_G1_3 p.2) (cond (hasN [4] p.1) (F_unpack_block_read_G1_4 p.2) (none)))))
noncomputable def F_unpack_block_read (l1:List Int) (p2:Int) (i3:Int) (i4:Int) (l5:Zt2) (l6:List (Zt2×Int×Int)):Option (Bool×List Int×Int×Int×Int×Zt2×List (Zt2×Int×Int)):=
 joinC (S:=Nat×Bool×Int×Bool×List Int×List Int×Bool×List Int×Int×Int×Int×Zt2×List (Zt2×Int×Int)) (R:=Bool×List Int×Int×Int×Int×Zt2×List (Zt2×Int×Int))
 (cond ((l1.length:Int)==0)
 (some (.inl (true,l1,p2,i3,i4,l5,l6)))
 ((getI l1 0).bind fun i7=>
 cond (decide (i7 >= 128))
 (some (.inr (1,(false,0,false,([]:List Int),([]:List Int),false,l1,p2,i3,i4,l5,l6))))
 (cond (decide (i7 >= 64))
 (some (.inr (2,(false,0,false,([]:List Int),([]:List Int),false,l1,p2,i3,i4,l5,l6))))
 (cond (decide (i7 >= 32))
 (some (.inr (3,(false,0,false,([]:List Int),([]:List Int),false,l1,p2,i3,i4,l5,l6))))
 ((F_unpack_block_literal l1 p2 i3 i4 l5 4 l6).bind fun x8=>
 some (.inr (4,(x8.2.2.2.1,0,false,x8.1,x8.2.1,(decide (i7 >= 16)),x8.2.2.2.2.1,x8.2.2.2.2.2.1,x8.2.2.2.2.2.2.1,x8.2.2.2.2.2.2.2.1,x8.2.2.2.2.2.2.2.2,l6))))))))
 (fun p=>loopC (S:=Nat×Bool×Int×Bool×List Int×List Int×Bool×List Int×Int×Int×Int×Zt2×List (Zt2×Int×Int)) (R:=Bool×List Int×Int×Int×Int×Zt2×List (Zt2×Int×Int)) (F_unpack_block_read_G1) p)
def F_unpack_block_read_sig:Sig:=⟨[.m [.d (.sl (.int .u8)),.d (.ptr 109),.d (.int .i64),.d (.int .i64),.own 26 Zp17]],[(false,[.d .bool])],[(1000218,Zp11,true)]⟩
def F_unpack_block_read_ann:List (Nat×Ann):=[(1,⟨2,[(5,false,[.d .bool]),(7,false,[.d (.int .i64)]),(8,false,[.d .bool])],[(3,[.d .str,.d .str,.d .bool]),(0,[.d (.sl (.int .u8)),.d (.ptr 109),.d (.int .i64),.d (.int .i64),.own 26 Zp17])],([2,3,4,6]++List.range' 9 83),[],[(1000218,Zp11,true)],[3]⟩)]
noncomputable def F_unpack_block_read_env:Env:=⟨Tryz.prog,[(108,⟨F_dyn_Table_Limit_sig,⟨F_dyn_Table_Limit⟩⟩),(109,⟨F_unpack_block_literal_sig,⟨F_unpack_block_literal⟩⟩),(110,⟨F_unpack_block_number_sig,⟨F_unpack_block_number⟩⟩),(111,⟨F_unpack_block_at_sig,⟨F_unpack_block_at⟩⟩),(112,⟨F_dyn_Table_Add_sig,⟨F_dyn_Table_Add⟩⟩),(113,⟨F_unpack_block_keep_sig,⟨F_unpack_block_keep⟩⟩)],[]⟩
theorem F_unpack_block_read_text:pvFn F_unpack_block_read_env F_unpack_block_read_ann Tryz.f58 F_unpack_block_read_sig=F_unpack_block_read:=by kernel_rfl
noncomputable def F_unpack_Dec_Decode (p1:Int) (l2:List Int) (i3:Int) (l4:Zt8) (l5:List (Zt2×Int×Int)):Option (Zt2×Int×Zt8×List (Zt2×Int×Int)):=
 chk (nnI p1)
 ((getI l4 p1).bind fun x6=>
 cond x6.2
 (some (([]:Zt2),5,l4,l5))
 ((F_slices_Clone_byte_byte l2).bind fun l7=>
 chk (nnI p1)
 ((getI l4 p1).bind fun x8=>
 (F_unpack_block_read l7 x8.1 i3 0 ([]:Zt2) l5).bind fun x9=>
 cond (!x9.1)
 (chk (nnI p1)
 ((getI l4 p1).bind fun x10=>
 some (([]:Zt2),2,(l4.set (Int.toNat p1) (x10.1,true)),x9.2.2.2.2.2.2)))
 (cond (decide (x9.2.2.2.2.1 > i3))
 (some (([]:Zt2),3,l4,x9.2.2.2.2.2.2))
 (some (x9.2.2.2.2.2.1,0,l4,x9.2.2.2.2.2.2))))))
def F_unpack_Dec_Decode_sig:Sig:=⟨[.v false [.d (.ptr 99)],.v false [.d (.sl (.int .u8))],.v false [.d (.int .i64)]],[(false,[.own 26 Zp17]),(false,[.d (.int .i64)])],[(1000198,Zp18,true),(1000218,Zp11,true)]⟩
def F_unpack_Dec_Decode_ann:List (Nat×Ann):=[]
noncomputable def F_unpack_Dec_Decode_env:Env:=⟨Tryz.prog,[(57,⟨F_slices_Clone_byte_byte_sig,⟨F_slices_Clone_byte_byte⟩⟩),(58,⟨F_unpack_block_read_sig,⟨F_unpack_block_read⟩⟩)],[]⟩
theorem F_unpack_Dec_Decode_text:pvFn F_unpack_Dec_Decode_env F_unpack_Dec_Decode_ann Tryz.f14 F_unpack_Dec_Decode_sig=F_unpack_Dec_Decode:=by kernel_rfl
noncomputable def F_conn_Conn_begins (p1:Int) (i2:Int) (i3:Int) (l4:Zt7) (l5:Zt1) (l6:Zt3):Option (Zt7×Zt1×Zt3):=
 chk (nnI p1)
 ((getI l5 p1).bind fun x7=>
 chk (nnI p1)
 ((getI l5 p1).bind fun x8=>
 (getI l4 x7.2.2.2.2.2.2.2.2.2.1).bind fun m9=>
 (F_conn_Conn_turns p1 i2 i3 (l4.set (Int.toNat x7.2.2.2.2.2.2.2.2.2.1) (mapSet m9 i2 (l6.length:Int))) l5 (l6++[(1,(x8.2.2.1.2.2.2.1,65535))])).bind fun x10=>
 some (x10.1,x10.2.1,x10.2.2)))
def F_conn_Conn_begins_sig:Sig:=⟨[.v false [.d (.ptr 126)],.v false [.d (.int .i64)],.v false [.d (.int .i64)]],[],[(1000243,(.sl Zp15),true),(1000252,Zp9,true),(1000278,Zp16,true)]⟩
def F_conn_Conn_begins_ann:List (Nat×Ann):=[]
noncomputable def F_conn_Conn_begins_env:Env:=⟨Tryz.prog,[(87,⟨F_conn_Conn_turns_sig,⟨F_conn_Conn_turns⟩⟩)],[]⟩
theorem F_conn_Conn_begins_text:pvFn F_conn_Conn_begins_env F_conn_Conn_begins_ann Tryz.f186 F_conn_Conn_begins_sig=F_conn_Conn_begins:=by kernel_rfl
noncomputable def F_conn_Conn_ends (p1:Int) (p2:Int) (l3:Zt8) (l4:List (Zt2×Int×Int)) (l5:Zt5) (l6:Zt7) (l7:Zt1) (l8:Zt3) (l9:Zt6):Option (Zt8×List (Zt2×Int×Int)×Zt5×Zt7×Zt1×Zt3):=
 chk (nnI p1)
 ((getI l7 p1).bind fun x10=>
 chk (nnI p2)
 ((getI l9 p2).bind fun x11=>
 chk (nnI p1)
 ((getI l7 p1).bind fun x12=>
 (F_unpack_Dec_Decode x10.1.2.2.2.1 x11.2.2.2.2 x12.1.2.2.1 l3 l4).bind fun x13=>
 cond ((x13.2.1 != 0)&&(x13.2.1 != 3))
 ((F_conn_Conn_dies p1 9 l5 l7).bind fun x14=>
 some (x13.2.2.1,x13.2.2.2,x14.1,l6,x14.2,l8))
 (chk (nnI p2)
 ((getI l9 p2).bind fun x15=>
 cond (x15.2.1==0)
 (chk (nnI p2)
 ((getI l9 p2).bind fun x16=>
 (F_life_Recv 0 1 x16.2.2.2.1).bind fun x17=>
 chk (nnI p2)
 ((getI l9 p2).bind fun x18=>
 (F_conn_Conn_begins p1 x18.1 x17.1 l6 l7 l8).bind fun x19=>
 chk (nnI p2)
 ((getI l9 p2).bind fun x20=>
 chk (nnI p2)
 ((getI l9 p2).bind fun x21=>
 (F_conn_Conn_tells p1 1 x20.1 0 x13.1 ([]:List Int) (x13.2.1==3) x21.2.2.2.1 false x19.2.1).bind fun l22=>
 some (x13.2.2.1,x13.2.2.2,l5,x19.1,l22,x19.2.2))))))
 (cond (x15.2.1==1)
 (chk (nnI p2)
 ((getI l9 p2).bind fun x23=>
 (F_conn_Conn_begins p1 x23.1 5 l6 l7 l8).bind fun x24=>
 chk (nnI p2)
 ((getI l9 p2).bind fun x25=>
 (F_part_Rst x25.1 7).bind fun x26=>
 (F_conn_Conn_lays p1 x26.1 x26.2.1 x26.2.2.1 x26.2.2.2 l5 x24.2.1).bind fun x27=>
 some (x13.2.2.1,x13.2.2.2,x27.1,x24.1,x27.2,x24.2.2))))
 (cond (x15.2.1==2)
 (chk (nnI p2)
 ((getI l9 p2).bind fun x28=>
 chk (nnI p2)
 ((getI l9 p2).bind fun x29=>
 (F_conn_Conn_faults p1 x28.1 x29.2.2.1 l5 l6 l7 l8).bind fun x30=>
 some (x13.2.2.1,x13.2.2.2,x30.1,x30.2.1,x30.2.2.1,x30.2.2.2))))
 (cond (x15.2.1==4)
 (chk (nnI p2)
 ((getI l9 p2).bind fun x31=>
 (F_conn_Conn_State p1 x31.1 l6 l7 l8).bind fun i33=>
 chk (nnI p2)
 ((getI l9 p2).bind fun x34=>
 (F_life_Recv i33 1 x34.2.2.2.1).bind fun x35=>
 chk (nnI p2)
 ((getI l9 p2).bind fun x36=>
 (F_conn_Conn_turns p1 x36.1 x35.1 l6 l7 l8).bind fun x37=>
 chk (nnI p2)
 ((getI l9 p2).bind fun x38=>
 chk (nnI p2)
 ((getI l9 p2).bind fun x39=>
 (F_conn_Conn_tells p1 3 x38.1 0 ([]:Zt2) ([]:List Int) false x39.2.2.2.1 false x37.2.1).bind fun l40=>
 some (x13.2.2.1,x13.2.2.2,l5,x37.1,l40,x37.2.2)))))))
 (some (x13.2.2.1,x13.2.2.2,l5,l6,l7,l8))))))))))
def F_conn_Conn_ends_sig:Sig:=⟨[.v false [.d (.ptr 126)],.v false [.d (.ptr 141)]],[],[(1000198,Zp18,true),(1000218,Zp11,true),(1000222,Zp14,true),(1000243,(.sl Zp15),true),(1000252,Zp9,true),(1000278,Zp16,true),(1000282,Zp12,false)]⟩
def F_conn_Conn_ends_ann:List (Nat×Ann):=[]
noncomputable def F_conn_Conn_ends_env:Env:=⟨Tryz.prog,[(14,⟨F_unpack_Dec_Decode_sig,⟨F_unpack_Dec_Decode⟩⟩),(38,⟨F_conn_Conn_State_sig,⟨F_conn_Conn_State⟩⟩),(70,⟨F_conn_Conn_lays_sig,⟨F_conn_Conn_lays⟩⟩),(72,⟨F_conn_Conn_dies_sig,⟨F_conn_Conn_dies⟩⟩),(87,⟨F_conn_Conn_turns_sig,⟨F_conn_Conn_turns⟩⟩),(122,⟨F_conn_Conn_tells_sig,⟨F_conn_Conn_tells⟩⟩),(124,⟨F_conn_Conn_faults_sig,⟨F_conn_Conn_faults⟩⟩),(135,⟨F_part_Rst_sig,⟨F_part_Rst⟩⟩),(161,⟨F_life_Recv_sig,⟨F_life_Recv⟩⟩),(186,⟨F_conn_Conn_begins_sig,⟨F_conn_Conn_begins⟩⟩)],[]⟩
theorem F_conn_Conn_ends_text:pvFn F_conn_Conn_ends_env F_conn_Conn_ends_ann Tryz.f162 F_conn_Conn_ends_sig=F_conn_Conn_ends:=by kernel_rfl
noncomputable def F_conn_Conn_goesOn (p1:Int) (l2:List Int) (i3:Int) (i4:Int) (i5:Int) (i6:Int) (l7:List (Int×Int)) (b8:Bool) (b9:Bool) (b10:Bool) (l11:Zt8) (l12:List (Zt2×Int×Int)) (l13:Zt5) (l14:Zt7) (l15:Zt1) (l16:Zt3) (l17:Zt6):Option (Zt8×List (Zt2×Int×Int)×Zt5×Zt7×Zt1×Zt3×Zt6):=
 chk (nnI p1)
 ((getI l15 p1).bind fun x18=>
 chk (nnI x18.1.2.2.2.2.2)
 ((getI l17 x18.1.2.2.2.2.2).bind fun x19=>
 chk (decide ((x19.2.2.2.2.length+l2.length)*1<=140737488355328)&&decide (x19.2.2.2.2.length+l2.length<=maxLen))
 (chk (nnI x18.1.2.2.2.2.2)
 ((getI l17 x18.1.2.2.2.2.2).bind fun x20=>
 chk (eqI x18.1.2.2.2.2.2 x18.1.2.2.2.2.2)
 (chk (nnI x18.1.2.2.2.2.2)
 ((getI (l17.set (Int.toNat x18.1.2.2.2.2.2) (x20.1,(x20.2.1,(x20.2.2.1,(x20.2.2.2.1,(x19.2.2.2.2++l2)))))) x18.1.2.2.2.2.2).bind fun x21=>
 cond (decide ((x21.2.2.2.2.length:Int) > 32768))
 ((F_conn_Conn_dies p1 11 l13 l15).bind fun x22=>
 some (l11,l12,x22.1,l14,x22.2,l16,(l17.set (Int.toNat x18.1.2.2.2.2.2) (x20.1,(x20.2.1,(x20.2.2.1,(x20.2.2.2.1,(x19.2.2.2.2++l2))))))))
 (cond b10
 (chk (nnI p1)
 ((getI l15 p1).bind fun x23=>
 (F_conn_Conn_ends p1 x18.1.2.2.2.2.2 l11 l12 l13 l14 (l15.set (Int.toNat p1) ((x23.1.1,(x23.1.2.1,(x23.1.2.2.1,(x23.1.2.2.2.1,(x23.1.2.2.2.2.1,(-1:Int)))))),x23.2)) l16 (l17.set (Int.toNat x18.1.2.2.2.2.2) (x20.1,(x20.2.1,(x20.2.2.1,(x20.2.2.2.1,(x19.2.2.2.2++l2))))))).bind fun x24=>
 some (x24.1,x24.2.1,x24.2.2.1,x24.2.2.2.1,x24.2.2.2.2.1,x24.2.2.2.2.2,(l17.set (Int.toNat x18.1.2.2.2.2.2) (x20.1,(x20.2.1,(x20.2.2.1,(x20.2.2.2.1,(x19.2.2.2.2++l2)))))))))
 (some (l11,l12,l13,l14,l15,l16,(l17.set (Int.toNat x18.1.2.2.2.2.2) (x20.1,(x20.2.1,(x20.2.2.1,(x20.2.2.2.1,(x19.2.2.2.2++l2)))))))))))))))
def F_conn_Conn_goesOn_sig:Sig:=⟨[.v false [.d (.ptr 126)],.v true [.d (.sl (.int .u8)),.d (.int .i64),.d (.int .i64),.d (.int .i64),.d (.int .i64),.d (.sl Zp10),.d .bool,.d .bool,.d .bool]],[],[(1000198,Zp18,true),(1000218,Zp11,true),(1000222,Zp14,true),(1000243,(.sl Zp15),true),(1000252,Zp9,true),(1000278,Zp16,true),(1000282,Zp12,true)]⟩
def F_conn_Conn_goesOn_ann:List (Nat×Ann):=[]
noncomputable def F_conn_Conn_goesOn_env:Env:=⟨Tryz.prog,[(72,⟨F_conn_Conn_dies_sig,⟨F_conn_Conn_dies⟩⟩),(162,⟨F_conn_Conn_ends_sig,⟨F_conn_Conn_ends⟩⟩)],[14]⟩
theorem F_conn_Conn_goesOn_text:pvFn F_conn_Conn_goesOn_env F_conn_Conn_goesOn_ann Tryz.f127 F_conn_Conn_goesOn_sig=F_conn_Conn_goesOn:=by kernel_rfl
noncomputable def F_conn_Conn_headers (p1:Int) (i2:Int) (l3:List Int) (i4:Int) (i5:Int) (i6:Int) (i7:Int) (l8:List (Int×Int)) (b9:Bool) (b10:Bool) (b11:Bool) (l12:Zt8) (l13:List (Zt2×Int×Int)) (l14:Zt5) (l15:Zt7) (l16:Zt1) (l17:Zt3) (l18:Zt6):Option (Zt8×List (Zt2×Int×Int)×Zt5×Zt7×Zt1×Zt3×Zt6):=
 cond ((Int.tmod i2 2)==0)
 ((F_conn_Conn_dies p1 1 l14 l16).bind fun x19=>
 some (l12,l13,x19.1,l15,x19.2,l17,(l18++[(i2,(0,(0,(b9,([]:List Int)))))])))
 (chk (nnI p1)
 ((getI l16 p1).bind fun x20=>
 cond (decide (i2 > x20.2.2.2.2.2.2.2.2.1))
 (chk (nnI p1)
 ((getI l16 p1).bind fun x21=>
 (F_conn_Conn_Open p1 l15 (l16.set (Int.toNat p1) (x21.1,(x21.2.1,(x21.2.2.1,(x21.2.2.2.1,(x21.2.2.2.2.1,(x21.2.2.2.2.2.1,(x21.2.2.2.2.2.2.1,(x21.2.2.2.2.2.2.2.1,(i2,x21.2.2.2.2.2.2.2.2.2)))))))))) l17).bind fun l22=>
 chk (nnI p1)
 ((getI (l16.set (Int.toNat p1) (x21.1,(x21.2.1,(x21.2.2.1,(x21.2.2.2.1,(x21.2.2.2.2.1,(x21.2.2.2.2.2.1,(x21.2.2.2.2.2.2.1,(x21.2.2.2.2.2.2.2.1,(i2,x21.2.2.2.2.2.2.2.2.2)))))))))) p1).bind fun x23=>
 cond (decide ((l22.length:Int) >= x23.2.1))
 (chk (nnI (l18.length:Int))
 ((getI (l18++[(i2,(0,(0,(b9,([]:List Int)))))]) (l18.length:Int)).bind fun x24=>
 chk (nnI p1)
 ((getI (l16.set (Int.toNat p1) (x21.1,(x21.2.1,(x21.2.2.1,(x21.2.2.2.1,(x21.2.2.2.2.1,(x21.2.2.2.2.2.1,(x21.2.2.2.2.2.2.1,(x21.2.2.2.2.2.2.2.1,(i2,x21.2.2.2.2.2.2.2.2.2)))))))))) p1).bind fun x25=>
 (F_conn_Conn_goesOn p1 l3 i4 i5 i6 i7 l8 b9 b10 b11 l12 l13 l14 l15 ((l16.set (Int.toNat p1) (x21.1,(x21.2.1,(x21.2.2.1,(x21.2.2.2.1,(x21.2.2.2.2.1,(x21.2.2.2.2.2.1,(x21.2.2.2.2.2.2.1,(x21.2.2.2.2.2.2.2.1,(i2,x21.2.2.2.2.2.2.2.2.2)))))))))).set (Int.toNat p1) ((x25.1.1,(x25.1.2.1,(x25.1.2.2.1,(x25.1.2.2.2.1,(x25.1.2.2.2.2.1,(l18.length:Int)))))),x25.2)) l17 ((l18++[(i2,(0,(0,(b9,([]:List Int)))))]).set (Int.toNat (l18.length:Int)) (x24.1,(1,x24.2.2)))).bind fun x26=>
 some (x26.1,x26.2.1,x26.2.2.1,x26.2.2.2.1,x26.2.2.2.2.1,x26.2.2.2.2.2.1,x26.2.2.2.2.2.2))))
 (chk (nnI p1)
 ((getI (l16.set (Int.toNat p1) (x21.1,(x21.2.1,(x21.2.2.1,(x21.2.2.2.1,(x21.2.2.2.2.1,(x21.2.2.2.2.2.1,(x21.2.2.2.2.2.2.1,(x21.2.2.2.2.2.2.2.1,(i2,x21.2.2.2.2.2.2.2.2.2)))))))))) p1).bind fun x27=>
 cond x27.2.2.2.2.2.2.2.1
 (chk (nnI (l18.length:Int))
 ((getI (l18++[(i2,(0,(0,(b9,([]:List Int)))))]) (l18.length:Int)).bind fun x28=>
 chk (nnI p1)
 ((getI (l16.set (Int.toNat p1) (x21.1,(x21.2.1,(x21.2.2.1,(x21.2.2.2.1,(x21.2.2.2.2.1,(x21.2.2.2.2.2.1,(x21.2.2.2.2.2.2.1,(x21.2.2.2.2.2.2.2.1,(i2,x21.2.2.2.2.2.2.2.2.2)))))))))) p1).bind fun x29=>
 (F_conn_Conn_goesOn p1 l3 i4 i5 i6 i7 l8 b9 b10 b11 l12 l13 l14 l15 ((l16.set (Int.toNat p1) (x21.1,(x21.2.1,(x21.2.2.1,(x21.2.2.2.1,(x21.2.2.2.2.1,(x21.2.2.2.2.2.1,(x21.2.2.2.2.2.2.1,(x21.2.2.2.2.2.2.2.1,(i2,x21.2.2.2.2.2.2.2.2.2)))))))))).set (Int.toNat p1) ((x29.1.1,(x29.1.2.1,(x29.1.2.2.1,(x29.1.2.2.2.1,(x29.1.2.2.2.2.1,(l18.length:Int)))))),x29.2)) l17 ((l18++[(i2,(0,(0,(b9,([]:List Int)))))]).set (Int.toNat (l18.length:Int)) (x28.1,(1,x28.2.2)))).bind fun x30=>
 some (x30.1,x30.2.1,x30.2.2.1,x30.2.2.2.1,x30.2.2.2.2.1,x30.2.2.2.2.2.1,x30.2.2.2.2.2.2))))
 (chk (nnI p1)
 ((getI (l16.set (Int.toNat p1) (x21.1,(x21.2.1,(x21.2.2.1,(x21.2.2.2.1,(x21.2.2.2.2.1,(x21.2.2.2.2.2.1,(x21.2.2.2.2.2.2.1,(x21.2.2.2.2.2.2.2.1,(i2,x21.2.2.2.2.2.2.2.2.2)))))))))) p1).bind fun x31=>
 (F_conn_Conn_goesOn p1 l3 i4 i5 i6 i7 l8 b9 b10 b11 l12 l13 l14 l15 ((l16.set (Int.toNat p1) (x21.1,(x21.2.1,(x21.2.2.1,(x21.2.2.2.1,(x21.2.2.2.2.1,(x21.2.2.2.2.2.1,(x21.2.2.2.2.2.2.1,(x21.2.2.2.2.2.2.2.1,(i2,x21.2.2.2.2.2.2.2.2.2)))))))))).set (Int.toNat p1) ((x31.1.1,(x31.1.2.1,(x31.1.2.2.1,(x31.1.2.2.2.1,(x31.1.2.2.2.2.1,(l18.length:Int)))))),x31.2)) l17 (l18++[(i2,(0,(0,(b9,([]:List Int)))))])).bind fun x32=>
 some (x32.1,x32.2.1,x32.2.2.1,x32.2.2.2.1,x32.2.2.2.2.1,x32.2.2.2.2.2.1,x32.2.2.2.2.2.2))))))))
 ((F_conn_Conn_State p1 i2 l15 l16 l17).bind fun i33=>
 (F_life_Recv i33 1 b9).bind fun x34=>
 cond x34.2.2.1
 ((F_conn_Conn_dies p1 x34.2.2.2 l14 l16).bind fun x35=>
 some (l12,l13,x35.1,l15,x35.2,l17,(l18++[(i2,(0,(0,(b9,([]:List Int)))))])))
 (cond x34.2.1
 (chk (nnI (l18.length:Int))
 ((getI (l18++[(i2,(0,(0,(b9,([]:List Int)))))]) (l18.length:Int)).bind fun x36=>
 chk (nnI (l18.length:Int))
 ((getI ((l18++[(i2,(0,(0,(b9,([]:List Int)))))]).set (Int.toNat (l18.length:Int)) (x36.1,(2,x36.2.2))) (l18.length:Int)).bind fun x37=>
 chk (nnI p1)
 ((getI l16 p1).bind fun x38=>
 (F_conn_Conn_goesOn p1 l3 i4 i5 i6 i7 l8 b9 b10 b11 l12 l13 l14 l15 (l16.set (Int.toNat p1) ((x38.1.1,(x38.1.2.1,(x38.1.2.2.1,(x38.1.2.2.2.1,(x38.1.2.2.2.2.1,(l18.length:Int)))))),x38.2)) l17 (((l18++[(i2,(0,(0,(b9,([]:List Int)))))]).set (Int.toNat (l18.length:Int)) (x36.1,(2,x36.2.2))).set (Int.toNat (l18.length:Int)) (x37.1,(x37.2.1,(x34.2.2.2,x37.2.2.2))))).bind fun x39=>
 some (x39.1,x39.2.1,x39.2.2.1,x39.2.2.2.1,x39.2.2.2.2.1,x39.2.2.2.2.2.1,x39.2.2.2.2.2.2)))))
 (cond (x34.1==5)
 (chk (nnI (l18.length:Int))
 ((getI (l18++[(i2,(0,(0,(b9,([]:List Int)))))]) (l18.length:Int)).bind fun x40=>
 chk (nnI p1)
 ((getI l16 p1).bind fun x41=>
 (F_conn_Conn_goesOn p1 l3 i4 i5 i6 i7 l8 b9 b10 b11 l12 l13 l14 l15 (l16.set (Int.toNat p1) ((x41.1.1,(x41.1.2.1,(x41.1.2.2.1,(x41.1.2.2.2.1,(x41.1.2.2.2.2.1,(l18.length:Int)))))),x41.2)) l17 ((l18++[(i2,(0,(0,(b9,([]:List Int)))))]).set (Int.toNat (l18.length:Int)) (x40.1,(3,x40.2.2)))).bind fun x42=>
 some (x42.1,x42.2.1,x42.2.2.1,x42.2.2.2.1,x42.2.2.2.2.1,x42.2.2.2.2.2.1,x42.2.2.2.2.2.2))))
 (chk (nnI (l18.length:Int))
 ((getI (l18++[(i2,(0,(0,(b9,([]:List Int)))))]) (l18.length:Int)).bind fun x43=>
 chk (nnI p1)
 ((getI l16 p1).bind fun x44=>
 (F_conn_Conn_goesOn p1 l3 i4 i5 i6 i7 l8 b9 b10 b11 l12 l13 l14 l15 (l16.set (Int.toNat p1) ((x44.1.1,(x44.1.2.1,(x44.1.2.2.1,(x44.1.2.2.2.1,(x44.1.2.2.2.2.1,(l18.length:Int)))))),x44.2)) l17 ((l18++[(i2,(0,(0,(b9,([]:List Int)))))]).set (Int.toNat (l18.length:Int)) (x43.1,(4,x43.2.2)))).bind fun x45=>
 some (x45.1,x45.2.1,x45.2.2.1,x45.2.2.2.1,x45.2.2.2.2.1,x45.2.2.2.2.2.1,x45.2.2.2.2.2.2)))))))))
def F_conn_Conn_headers_sig:Sig:=⟨[.v false [.d (.ptr 126)],.v false [.d (.int .i64)],.v true [.d (.sl (.int .u8)),.d (.int .i64),.d (.int .i64),.d (.int .i64),.d (.int .i64),.d (.sl Zp10),.d .bool,.d .bool,.d .bool]],[],[(1000198,Zp18,true),(1000218,Zp11,true),(1000222,Zp14,true),(1000243,(.sl Zp15),true),(1000252,Zp9,true),(1000278,Zp16,true),(1000282,Zp12,true)]⟩
def F_conn_Conn_headers_ann:List (Nat×Ann):=[]
noncomputable def F_conn_Conn_headers_env:Env:=⟨Tryz.prog,[(30,⟨F_conn_Conn_Open_sig,⟨F_conn_Conn_Open⟩⟩),(38,⟨F_conn_Conn_State_sig,⟨F_conn_Conn_State⟩⟩),(72,⟨F_conn_Conn_dies_sig,⟨F_conn_Conn_dies⟩⟩),(127,⟨F_conn_Conn_goesOn_sig,⟨F_conn_Conn_goesOn⟩⟩),(161,⟨F_life_Recv_sig,⟨F_life_Recv⟩⟩)],[]⟩
theorem F_conn_Conn_headers_text:pvFn F_conn_Conn_headers_env F_conn_Conn_headers_ann Tryz.f126 F_conn_Conn_headers_sig=F_conn_Conn_headers:=by kernel_rfl
noncomputable def F_conn_Conn_rst (p1:Int) (i2:Int) (l3:List Int) (i4:Int) (i5:Int) (i6:Int) (i7:Int) (l8:List (Int×Int)) (b9:Bool) (b10:Bool) (b11:Bool) (l12:Zt5) (l13:Zt7) (l14:Zt1) (l15:Zt3):Option (Zt5×Zt7×Zt1×Zt3):=
 (F_conn_Conn_State p1 i2 l13 l14 l15).bind fun i17=>
 (F_life_Recv i17 3 false).bind fun x18=>
 cond x18.2.1
 ((F_conn_Conn_dies p1 x18.2.2.2 l12 l14).bind fun x19=>
 some (x19.1,l13,x19.2,l15))
 (cond (x18.1 != i17)
 ((F_conn_Conn_turns p1 i2 x18.1 l13 l14 l15).bind fun x20=>
 (F_conn_Conn_tells p1 4 i2 i5 ([]:Zt2) ([]:List Int) false false false x20.2.1).bind fun l21=>
 some (l12,x20.1,l21,x20.2.2))
 (some (l12,l13,l14,l15)))
def F_conn_Conn_rst_sig:Sig:=⟨[.v false [.d (.ptr 126)],.v false [.d (.int .i64)],.v true [.d (.sl (.int .u8)),.d (.int .i64),.d (.int .i64),.d (.int .i64),.d (.int .i64),.d (.sl Zp10),.d .bool,.d .bool,.d .bool]],[],[(1000222,Zp14,true),(1000243,(.sl Zp15),true),(1000252,Zp9,true),(1000278,Zp16,true)]⟩
def F_conn_Conn_rst_ann:List (Nat×Ann):=[]
noncomputable def F_conn_Conn_rst_env:Env:=⟨Tryz.prog,[(38,⟨F_conn_Conn_State_sig,⟨F_conn_Conn_State⟩⟩),(72,⟨F_conn_Conn_dies_sig,⟨F_conn_Conn_dies⟩⟩),(87,⟨F_conn_Conn_turns_sig,⟨F_conn_Conn_turns⟩⟩),(122,⟨F_conn_Conn_tells_sig,⟨F_conn_Conn_tells⟩⟩),(161,⟨F_life_Recv_sig,⟨F_life_Recv⟩⟩)],[]⟩
theorem F_conn_Conn_rst_text:pvFn F_conn_Conn_rst_env F_conn_Conn_rst_ann Tryz.f128 F_conn_Conn_rst_sig=F_conn_Conn_rst:=by kernel_rfl
noncomputable def F_conn_Conn_windows (p1:Int) (p2:Int) (l3:Zt1) (l4:Zt3):Option ((Nat×Nat)):=
 chk (nnI p2)
 ((getI l4 p2).bind fun x5=>
 chk (nnI p1)
 ((getI l3 p1).bind fun x6=>
 (F_flow_Windows x5.2.1 x6.2.2.2.2.2.2.2.2.2.2.2.1).bind fun z7=>
 some z7))
def F_conn_Conn_windows_sig:Sig:=⟨[.v false [.d (.ptr 126)],.v false [.d (.ptr 139)]],[(false,[.d (.cpx .f64)])],[(1000252,Zp9,false),(1000278,Zp16,false)]⟩
def F_conn_Conn_windows_ann:List (Nat×Ann):=[]
noncomputable def F_conn_Conn_windows_env:Env:=⟨Tryz.prog,[(144,⟨F_flow_Windows_sig,⟨F_flow_Windows⟩⟩)],[]⟩
theorem F_conn_Conn_windows_text:pvFn F_conn_Conn_windows_env F_conn_Conn_windows_ann Tryz.f90 F_conn_Conn_windows_sig=F_conn_Conn_windows:=by kernel_rfl
noncomputable def F_sets_wrong (i1:Int) (i2:Int):Option (Int):=
 cond (i1==2)
 (cond (i2 != 0)
 (cond (i2 != 1)
 (cond (i2 != 1)
 (some 1)
 (cond (i1==4)
 (cond (decide (i2 > 2147483647))
 (some 3)
 (some 0))
 (some 0)))
 (cond (i1==5)
 (cond (decide (i2 < 16384))
 (some 1)
 (cond (decide (i2 > 16777215))
 (some 1)
 (cond (i1==4)
 (cond (decide (i2 > 2147483647))
 (some 3)
 (some 0))
 (some 0))))
 (cond (i1==4)
 (cond (decide (i2 > 2147483647))
 (some 3)
 (some 0))
 (some 0))))
 (cond (i1==5)
 (cond (decide (i2 < 16384))
 (some 1)
 (cond (decide (i2 > 16777215))
 (some 1)
 (cond (i1==4)
 (cond (decide (i2 > 2147483647))
 (some 3)
 (some 0))
 (some 0))))
 (cond (i1==4)
 (cond (decide (i2 > 2147483647))
 (some 3)
 (some 0))
 (some 0))))
 (cond (i1==5)
 (cond (decide (i2 < 16384))
 (some 1)
 (cond (decide (i2 > 16777215))
 (some 1)
 (cond (i1==4)
 (cond (decide (i2 > 2147483647))
 (some 3)
 (some 0))
 (some 0))))
 (cond (i1==4)
 (cond (decide (i2 > 2147483647))
 (some 3)
 (some 0))
 (some 0)))
def F_sets_wrong_sig:Sig:=⟨[.v true [.d (.int .i64),.d (.int .i64)]],[(false,[.d (.int .i64)])],[]⟩
def F_sets_wrong_ann:List (Nat×Ann):=[]
noncomputable def F_sets_wrong_env:Env:=⟨Tryz.prog,[],[]⟩
theorem F_sets_wrong_text:pvFn F_sets_wrong_env F_sets_wrong_ann Tryz.f187 F_sets_wrong_sig=F_sets_wrong:=by kernel_rfl
noncomputable def F_sets_Apply_L3 (l7:List (Int×Int)) (s:Int×Int×Int×Int×Int×Int×Int×Int×Int×Int×Int×Int×Int×Bool×Bool×Int):Option (((Int×Int×Int×Int×Int×Int×Bool×Bool×Int)⊕(Int×Int×Int×Int×Int×Int×Int×Int×Int×Int×Int×Int×Bool×Bool×Int))⊕(Int×Int×Int×Int×Int×Int×Int×Int×Int×Int×Int×Int×Int×Bool×Bool×Int)):=
 let i9:=s.1;let i10:=s.2.1;let i11:=s.2.2.1;let i12:=s.2.2.2.1;let i13:=s.2.2.2.2.1;let i14:=s.2.2.2.2.2.1;let i15:=s.2.2.2.2.2.2.1;let i17:=s.2.2.2.2.2.2.2.1;let i18:=s.2.2.2.2.2.2.2.2.1;let i19:=s.2.2.2.2.2.2.2.2.2.1;let i20:=s.2.2.2.2.2.2.2.2.2.2.1;let i21:=s.2.2.2.2.2.2.2.2.2.2.2.1;let i22:=s.2.2.2.2.2.2.2.2.2.2.2.2.1;let b23:=s.2.2.2.2.2.2.2.2.2.2.2.2.2.1;let b24:=s.2.2.2.2.2.2.2.2.2.2.2.2.2.2.1;let i25:=s.2.2.2.2.2.2.2.2.2.2.2.2.2.2.2
 cond (decide (i9 < (l7.length:Int)))
 ((getI l7 i9).bind fun x26=>
 (F_sets_wrong x26.1 x26.2).bind fun i27=>
 cond (i27 != 0)
 (some (.inl (.inl (0,0,0,0,0,0,true,true,i27))))
 (cond (x26.1==1)
 (some (.inr ((IntKind.i64.wrap (i9+1)),(minI x26.2 2147483647),i11,i12,i13,i14,i15,i17,i18,i19,i20,i21,i22,b23,b24,i25)))
 (cond (x26.1==2)
 (some (.inr ((IntKind.i64.wrap (i9+1)),i10,x26.2,i12,i13,i14,i15,i17,i18,i19,i20,i21,i22,b23,b24,i25)))
 (cond (x26.1==3)
 (some (.inr ((IntKind.i64.wrap (i9+1)),i10,i11,(minI x26.2 2147483647),i13,i14,i15,i17,i18,i19,i20,i21,i22,b23,b24,i25)))
 (cond (x26.1==4)
 (some (.inr ((IntKind.i64.wrap (i9+1)),i10,i11,i12,x26.2,i14,i15,i17,i18,i19,i20,i21,i22,b23,b24,i25)))
 (cond (x26.1==5)
 (some (.inr ((IntKind.i64.wrap (i9+1)),i10,i11,i12,i13,x26.2,i15,i17,i18,i19,i20,i21,i22,b23,b24,i25)))
 (cond (x26.1==6)
 (some (.inr ((IntKind.i64.wrap (i9+1)),i10,i11,i12,i13,i14,(minI x26.2 2147483647),i17,i18,i19,i20,i21,i22,b23,b24,i25)))
 (some (.inr ((IntKind.i64.wrap (i9+1)),i10,i11,i12,i13,i14,i15,i17,i18,i19,i20,i21,i22,b23,b24,i25))))))))))
 (some (.inl (.inr (i10,i11,i12,i13,i14,i15,i17,i18,i19,i20,i21,i22,b23,b24,i25))))
noncomputable def F_sets_Apply_J1 (s:Int×Int×Int×Int×Int×Int×Int×Int×Int×Int×Int×Int×Bool×Bool×Int):Option (Int×Int×Int×Int×Int×Int×Bool×Bool×Int):=
 let i28:=s.1;let i29:=s.2.1;let i30:=s.2.2.1;let i31:=s.2.2.2.1;let i33:=s.2.2.2.2.1;let i34:=s.2.2.2.2.2.1;let i35:=s.2.2.2.2.2.2.1;let i36:=s.2.2.2.2.2.2.2.1;let i37:=s.2.2.2.2.2.2.2.2.1;let i38:=s.2.2.2.2.2.2.2.2.2.1;let i39:=s.2.2.2.2.2.2.2.2.2.2.1;let i40:=s.2.2.2.2.2.2.2.2.2.2.2.1;let b41:=s.2.2.2.2.2.2.2.2.2.2.2.2.1;let b42:=s.2.2.2.2.2.2.2.2.2.2.2.2.2.1;let i43:=s.2.2.2.2.2.2.2.2.2.2.2.2.2.2
 some (i28,i29,i30,i31,i33,i34,false,false,0)
noncomputable def F_sets_Apply (i1:Int) (i2:Int) (i3:Int) (i4:Int) (i5:Int) (i6:Int) (l7:List (Int×Int)):Option (Int×Int×Int×Int×Int×Int×Bool×Bool×Int):=
 joinC (S:=Int×Int×Int×Int×Int×Int×Int×Int×Int×Int×Int×Int×Bool×Bool×Int) (R:=Int×Int×Int×Int×Int×Int×Bool×Bool×Int)
 (loopC (S:=Int×Int×Int×Int×Int×Int×Int×Int×Int×Int×Int×Int×Int×Bool×Bool×Int) (R:=(Int×Int×Int×Int×Int×Int×Bool×Bool×Int)⊕(Int×Int×Int×Int×Int×Int×Int×Int×Int×Int×Int×Int×Bool×Bool×Int)) (F_sets_Apply_L3 l7) (0,i1,i2,i3,i4,i5,i6,0,0,0,0,0,0,false,false,0))
 (F_sets_Apply_J1)
def F_sets_Apply_sig:Sig:=⟨[.v true [.d (.int .i64),.d (.int .i64),.d (.int .i64),.d (.int .i64),.d (.int .i64),.d (.int .i64)],.v false [.d (.sl Zp10)]],[(true,[.d (.int .i64),.d (.int .i64),.d (.int .i64),.d (.int .i64),.d (.int .i64),.d (.int .i64)]),(true,[.d .bool,.d .bool,.d (.int .i64)])],[]⟩
def F_sets_Apply_ann:List (Nat×Ann):=[(1,⟨2,[],[(2,[.d (.int .i64),.d (.int .i64),.d (.int .i64),.d (.int .i64),.d (.int .i64),.d (.int .i64)]),(4,[.d (.int .i64),.d (.int .i64),.d (.int .i64),.d (.int .i64),.d (.int .i64),.d (.int .i64)]),(5,[.d .bool,.d .bool,.d (.int .i64)])],(List.range' 7 51),[],[],[]⟩),(3,⟨4,[(11,false,[.d (.int .i64)])],[(2,[.d (.int .i64),.d (.int .i64),.d (.int .i64),.d (.int .i64),.d (.int .i64),.d (.int .i64)]),(4,[.d (.int .i64),.d (.int .i64),.d (.int .i64),.d (.int .i64),.d (.int .i64),.d (.int .i64)]),(5,[.d .bool,.d .bool,.d (.int .i64)])],([7,8]++List.range' 12 46),[],[],[]⟩)]
noncomputable def F_sets_Apply_env:Env:=⟨Tryz.prog,[(187,⟨F_sets_wrong_sig,⟨F_sets_wrong⟩⟩)],[]⟩
theorem F_sets_Apply_text:pvFn F_sets_Apply_env F_sets_Apply_ann Tryz.f163 F_sets_Apply_sig=F_sets_Apply:=by kernel_rfl
noncomputable def F_pack_Enc_Peer (p1:Int) (i2:Int) (l3:List (Zt2×Int×Int)) (l4:Zt3):Option (List (Zt2×Int×Int)×Zt3):=
 chk (nnI p1)
 ((getI l4 p1).bind fun x5=>
 (F_dyn_Table_Limit x5.1 (minI (maxI i2 0) 4096) l3).bind fun x6=>
 chk (nnI p1)
 ((getI l4 p1).bind fun x7=>
 chk (nnI p1)
 ((getI l4 p1).bind fun x8=>
 some (x6.2,(l4.set (Int.toNat p1) (x8.1,(x8.2.1,(minI x7.2.2 (minI (maxI i2 0) 4096)))))))))
def F_pack_Enc_Peer_sig:Sig:=⟨[.v false [.d (.ptr 179)],.v false [.d (.int .i64)]],[],[(1000218,Zp11,true),(1000358,Zp19,true)]⟩
def F_pack_Enc_Peer_ann:List (Nat×Ann):=[]
noncomputable def F_pack_Enc_Peer_env:Env:=⟨Tryz.prog,[(108,⟨F_dyn_Table_Limit_sig,⟨F_dyn_Table_Limit⟩⟩)],[]⟩
theorem F_pack_Enc_Peer_text:pvFn F_pack_Enc_Peer_env F_pack_Enc_Peer_ann Tryz.f165 F_pack_Enc_Peer_sig=F_pack_Enc_Peer:=by kernel_rfl
noncomputable def F_conn_Conn_settings_L9 (p1:Int) (l20:List Int) (s:List Int×Int×Int×Int×Int×Int×Int×Int×List (Zt2×Int×Int)×Zt5×Zt7×Zt1×Zt3×Zt3):Option (((List (Zt2×Int×Int)×Zt5×Zt1×Zt3×Zt3)⊕(Int×Int×Int×Int×Int×Int×List (Zt2×Int×Int)×Zt5×Zt7×Zt1×Zt3×Zt3))⊕(List Int×Int×Int×Int×Int×Int×Int×Int×List (Zt2×Int×Int)×Zt5×Zt7×Zt1×Zt3×Zt3)):=
 let l21:=s.1;let i22:=s.2.1;let i23:=s.2.2.1;let i24:=s.2.2.2.1;let i25:=s.2.2.2.2.1;let i26:=s.2.2.2.2.2.1;let i27:=s.2.2.2.2.2.2.1;let i28:=s.2.2.2.2.2.2.2.1;let l29:=s.2.2.2.2.2.2.2.2.1;let l30:=s.2.2.2.2.2.2.2.2.2.1;let l31:=s.2.2.2.2.2.2.2.2.2.2.1;let l32:=s.2.2.2.2.2.2.2.2.2.2.2.1;let l33:=s.2.2.2.2.2.2.2.2.2.2.2.2.1;let l34:=s.2.2.2.2.2.2.2.2.2.2.2.2.2
 cond (decide (i22 < (l20.length:Int)))
 ((getI l21 i22).bind fun i35=>
 chk (nnI p1)
 ((getI l32 p1).bind fun x36=>
 (getI l31 x36.2.2.2.2.2.2.2.2.2.1).bind fun m37=>
 (F_conn_Conn_windows p1 (getZ (mapGet m37 i35) (-1:Int)) l32 l33).bind fun z38=>
 chk (nnI p1)
 ((getI l32 p1).bind fun x39=>
 (F_flow_Shift z38 (IntKind.i64.wrap (i26 - x39.2.2.1.2.2.2.1))).bind fun x40=>
 cond x40.2.1
 ((F_conn_Conn_dies p1 x40.2.2.2 l30 l32).bind fun x41=>
 some (.inl (.inl (l29,x41.1,x41.2,l33,l34))))
 ((F_flow_Stream x40.1).bind fun i42=>
 chk (nnI (getZ (mapGet m37 i35) (-1:Int)))
 ((getI l33 (getZ (mapGet m37 i35) (-1:Int))).bind fun x43=>
 some (.inr (l21,(IntKind.i64.wrap (i22+1)),i23,i24,i25,i26,i27,i28,l29,l30,l31,l32,(l33.set (Int.toNat (getZ (mapGet m37 i35) (-1:Int))) (x43.1,(i42,x43.2.2))),l34)))))))
 (some (.inl (.inr (i23,i24,i25,i26,i27,i28,l29,l30,l31,l32,l33,l34))))
noncomputable def F_conn_Conn_settings_J7 (p1:Int) (s:Int×Int×Int×Int×Int×Int×List (Zt2×Int×Int)×Zt5×Zt7×Zt1×Zt3×Zt3):Option (List (Zt2×Int×Int)×Zt5×Zt1×Zt3×Zt3):=
 let i44:=s.1;let i45:=s.2.1;let i46:=s.2.2.1;let i47:=s.2.2.2.1;let i48:=s.2.2.2.2.1;let i49:=s.2.2.2.2.2.1;let l50:=s.2.2.2.2.2.2.1;let l51:=s.2.2.2.2.2.2.2.1;let l52:=s.2.2.2.2.2.2.2.2.1;let l53:=s.2.2.2.2.2.2.2.2.2.1;let l54:=s.2.2.2.2.2.2.2.2.2.2.1;let l55:=s.2.2.2.2.2.2.2.2.2.2.2
 chk (nnI p1)
 ((getI l53 p1).bind fun x56=>
 chk (nnI p1)
 ((getI (l53.set (Int.toNat p1) (x56.1,(x56.2.1,((i44,i45,i46,i47,i48,i49),x56.2.2.2)))) p1).bind fun x57=>
 (F_pack_Enc_Peer x57.2.2.2.1 i44 l50 l55).bind fun x58=>
 (F_part_Settings ([]:List (Int×Int)) true).bind fun x59=>
 (F_conn_Conn_lays p1 x59.1 x59.2.1 x59.2.2.1 x59.2.2.2 l51 (l53.set (Int.toNat p1) (x56.1,(x56.2.1,((i44,i45,i46,i47,i48,i49),x56.2.2.2))))).bind fun x60=>
 some (x58.1,x60.1,x60.2,l54,x58.2)))
noncomputable def F_conn_Conn_settings (p1:Int) (l2:List Int) (i3:Int) (i4:Int) (i5:Int) (i6:Int) (l7:List (Int×Int)) (b8:Bool) (b9:Bool) (b10:Bool) (l11:List (Zt2×Int×Int)) (l12:Zt5) (l13:Zt7) (l14:Zt1) (l15:Zt3) (l16:Zt3):Option (List (Zt2×Int×Int)×Zt5×Zt1×Zt3×Zt3):=
 cond b9
 (some (l11,l12,l14,l15,l16))
 (chk (nnI p1)
 ((getI l14 p1).bind fun x17=>
 (F_sets_Apply x17.2.2.1.1 x17.2.2.1.2.1 x17.2.2.1.2.2.1 x17.2.2.1.2.2.2.1 x17.2.2.1.2.2.2.2.1 x17.2.2.1.2.2.2.2.2 l7).bind fun x18=>
 cond x18.2.2.2.2.2.2.1
 ((F_conn_Conn_dies p1 x18.2.2.2.2.2.2.2.2 l12 l14).bind fun x19=>
 some (l11,x19.1,x19.2,l15,l16))
 (joinC (S:=Int×Int×Int×Int×Int×Int×List (Zt2×Int×Int)×Zt5×Zt7×Zt1×Zt3×Zt3) (R:=List (Zt2×Int×Int)×Zt5×Zt1×Zt3×Zt3)
 ((F_conn_Conn_Open p1 l13 l14 l15).bind fun l20=>
 loopC (S:=List Int×Int×Int×Int×Int×Int×Int×Int×List (Zt2×Int×Int)×Zt5×Zt7×Zt1×Zt3×Zt3) (R:=(List (Zt2×Int×Int)×Zt5×Zt1×Zt3×Zt3)⊕(Int×Int×Int×Int×Int×Int×List (Zt2×Int×Int)×Zt5×Zt7×Zt1×Zt3×Zt3)) (F_conn_Conn_settings_L9 p1 l20) (l20,0,x18.1,x18.2.1,x18.2.2.1,x18.2.2.2.1,x18.2.2.2.2.1,x18.2.2.2.2.2.1,l11,l12,l13,l14,l15,l16))
 (F_conn_Conn_settings_J7 p1))))
def F_conn_Conn_settings_sig:Sig:=⟨[.v false [.d (.ptr 126)],.v true [.d (.sl (.int .u8)),.d (.int .i64),.d (.int .i64),.d (.int .i64),.d (.int .i64),.d (.sl Zp10),.d .bool,.d .bool,.d .bool]],[],[(1000218,Zp11,true),(1000222,Zp14,true),(1000243,(.sl Zp15),false),(1000252,Zp9,true),(1000278,Zp16,true),(1000358,Zp19,true)]⟩
def F_conn_Conn_settings_ann:List (Nat×Ann):=[(7,⟨8,[],[(4,[.d (.int .i64),.d (.int .i64),.d (.int .i64),.d (.int .i64),.d (.int .i64),.d (.int .i64)])],([7,8,9,10]++List.range' 29 40),[],[(1000218,Zp11,true),(1000222,Zp14,true),(1000243,(.sl Zp15),false),(1000252,Zp9,true),(1000278,Zp16,true),(1000358,Zp19,true)],[]⟩),(9,⟨10,[(30,false,[.own 3 (.int .i64)]),(32,false,[.d (.int .i64)])],[(4,[.d (.int .i64),.d (.int .i64),.d (.int .i64),.d (.int .i64),.d (.int .i64),.d (.int .i64)])],([7,8,9,10]++List.range' 33 36),[],[(1000218,Zp11,true),(1000222,Zp14,true),(1000243,(.sl Zp15),false),(1000252,Zp9,true),(1000278,Zp16,true),(1000358,Zp19,true)],[]⟩)]
noncomputable def F_conn_Conn_settings_env:Env:=⟨Tryz.prog,[(30,⟨F_conn_Conn_Open_sig,⟨F_conn_Conn_Open⟩⟩),(70,⟨F_conn_Conn_lays_sig,⟨F_conn_Conn_lays⟩⟩),(71,⟨F_part_Settings_sig,⟨F_part_Settings⟩⟩),(72,⟨F_conn_Conn_dies_sig,⟨F_conn_Conn_dies⟩⟩),(90,⟨F_conn_Conn_windows_sig,⟨F_conn_Conn_windows⟩⟩),(91,⟨F_flow_Stream_sig,⟨F_flow_Stream⟩⟩),(163,⟨F_sets_Apply_sig,⟨F_sets_Apply⟩⟩),(164,⟨F_flow_Shift_sig,⟨F_flow_Shift⟩⟩),(165,⟨F_pack_Enc_Peer_sig,⟨F_pack_Enc_Peer⟩⟩)],[]⟩
theorem F_conn_Conn_settings_text:pvFn F_conn_Conn_settings_env F_conn_Conn_settings_ann Tryz.f129 F_conn_Conn_settings_sig=F_conn_Conn_settings:=by kernel_rfl
noncomputable def F_conn_Conn_update (p1:Int) (i2:Int) (i3:Int) (l4:Zt5) (l5:Zt7) (l6:Zt1) (l7:Zt3):Option (Zt5×Zt7×Zt1×Zt3):=
 cond (i2==0)
 (chk (nnI p1)
 ((getI l6 p1).bind fun x8=>
 (F_flow_Windows 0 x8.2.2.2.2.2.2.2.2.2.2.2.1).bind fun z9=>
 (F_flow_Grant z9 0 i3).bind fun x10=>
 cond x10.2.1
 ((F_conn_Conn_dies p1 x10.2.2.2 l4 l6).bind fun x11=>
 some (x11.1,l5,x11.2,l7))
 ((F_flow_Conn x10.1).bind fun i12=>
 chk (nnI p1)
 ((getI l6 p1).bind fun x13=>
 some (l4,l5,(l6.set (Int.toNat p1) (x13.1,(x13.2.1,(x13.2.2.1,(x13.2.2.2.1,(x13.2.2.2.2.1,(x13.2.2.2.2.2.1,(x13.2.2.2.2.2.2.1,(x13.2.2.2.2.2.2.2.1,(x13.2.2.2.2.2.2.2.2.1,(x13.2.2.2.2.2.2.2.2.2.1,(x13.2.2.2.2.2.2.2.2.2.2.1,(i12,x13.2.2.2.2.2.2.2.2.2.2.2.2))))))))))))),l7)))))
 ((F_conn_Conn_State p1 i2 l5 l6 l7).bind fun i14=>
 (F_life_Recv i14 8 false).bind fun x15=>
 cond x15.2.1
 ((F_conn_Conn_dies p1 x15.2.2.2 l4 l6).bind fun x16=>
 some (x16.1,l5,x16.2,l7))
 (chk (nnI p1)
 ((getI l6 p1).bind fun x17=>
 (getI l5 x17.2.2.2.2.2.2.2.2.2.1).bind fun m18=>
 cond (eqI (getZ (mapGet m18 i2) (-1:Int)) (-1))
 (some (l4,l5,l6,l7))
 ((F_conn_stream_open (getZ (mapGet m18 i2) (-1:Int)) l7).bind fun b19=>
 cond (!b19)
 (some (l4,l5,l6,l7))
 ((F_conn_Conn_windows p1 (getZ (mapGet m18 i2) (-1:Int)) l6 l7).bind fun z20=>
 (F_flow_Grant z20 i3 0).bind fun x21=>
 cond x21.2.1
 ((F_conn_Conn_faults p1 i2 x21.2.2.2 l4 l5 l6 l7).bind fun x22=>
 some (x22.1,x22.2.1,x22.2.2.1,x22.2.2.2))
 ((F_flow_Stream x21.1).bind fun i23=>
 chk (nnI (getZ (mapGet m18 i2) (-1:Int)))
 ((getI l7 (getZ (mapGet m18 i2) (-1:Int))).bind fun x24=>
 some (l4,l5,l6,(l7.set (Int.toNat (getZ (mapGet m18 i2) (-1:Int))) (x24.1,(i23,x24.2.2)))))))))))
def F_conn_Conn_update_sig:Sig:=⟨[.v false [.d (.ptr 126)],.v false [.d (.int .i64)],.v false [.d (.int .i64)]],[],[(1000222,Zp14,true),(1000243,(.sl Zp15),true),(1000252,Zp9,true),(1000278,Zp16,true)]⟩
def F_conn_Conn_update_ann:List (Nat×Ann):=[]
noncomputable def F_conn_Conn_update_env:Env:=⟨Tryz.prog,[(38,⟨F_conn_Conn_State_sig,⟨F_conn_Conn_State⟩⟩),(72,⟨F_conn_Conn_dies_sig,⟨F_conn_Conn_dies⟩⟩),(79,⟨F_conn_stream_open_sig,⟨F_conn_stream_open⟩⟩),(90,⟨F_conn_Conn_windows_sig,⟨F_conn_Conn_windows⟩⟩),(91,⟨F_flow_Stream_sig,⟨F_flow_Stream⟩⟩),(92,⟨F_flow_Conn_sig,⟨F_flow_Conn⟩⟩),(124,⟨F_conn_Conn_faults_sig,⟨F_conn_Conn_faults⟩⟩),(144,⟨F_flow_Windows_sig,⟨F_flow_Windows⟩⟩),(161,⟨F_life_Recv_sig,⟨F_life_Recv⟩⟩),(166,⟨F_flow_Grant_sig,⟨F_flow_Grant⟩⟩)],[]⟩
theorem F_conn_Conn_update_text:pvFn F_conn_Conn_update_env F_conn_Conn_update_ann Tryz.f130 F_conn_Conn_update_sig=F_conn_Conn_update:=by kernel_rfl
noncomputable def F_conn_Conn_reads (p1:Int) (i2:Int) (i3:Int) (i4:Int) (l5:List Int) (l6:Zt8) (l7:List (Zt2×Int×Int)) (l8:Zt5) (l9:Zt7) (l10:Zt1) (l11:Zt3) (l12:Zt6) (l13:Zt3):Option (Zt8×List (Zt2×Int×Int)×Zt5×Zt7×Zt1×Zt3×Zt6×Zt3):=
 (F_conn_Conn_misplaced p1 i2 i3 i4 l5 l10 l12).bind fun x14=>
 cond x14.1
 ((F_conn_Conn_dies p1 1 l8 x14.2).bind fun x15=>
 some (l6,l7,x15.1,l9,x15.2,l11,l12,l13))
 ((F_part_Read i2 i3 i4 l5).bind fun x16=>
 cond x16.2.2.2.2.2.2.2.2.2.2.1
 ((F_conn_Conn_dies p1 x16.2.2.2.2.2.2.2.2.2.2.2 l8 x14.2).bind fun x17=>
 some (l6,l7,x17.1,l9,x17.2,l11,l12,l13))
 (cond x16.2.2.2.2.2.2.2.2.2.1
 ((F_conn_Conn_State p1 i4 l9 x14.2 l11).bind fun i18=>
 cond (i18==0)
 ((F_conn_Conn_dies p1 x16.2.2.2.2.2.2.2.2.2.2.2 l8 x14.2).bind fun x19=>
 some (l6,l7,x19.1,l9,x19.2,l11,l12,l13))
 (cond x16.2.2.2.2.2.2.2.2.2.1
 ((F_conn_Conn_faults p1 i4 x16.2.2.2.2.2.2.2.2.2.2.2 l8 l9 x14.2 l11).bind fun x20=>
 some (l6,l7,x20.1,x20.2.1,x20.2.2.1,x20.2.2.2,l12,l13))
 (cond (i2==0)
 ((F_conn_Conn_data p1 i2 i3 i4 l5 x16.1 x16.2.1 x16.2.2.1 x16.2.2.2.1 x16.2.2.2.2.1 x16.2.2.2.2.2.1 x16.2.2.2.2.2.2.1 x16.2.2.2.2.2.2.2.1 x16.2.2.2.2.2.2.2.2.1 l8 l9 x14.2 l11).bind fun x21=>
 some (l6,l7,x21.1,x21.2.1,x21.2.2.1,x21.2.2.2,l12,l13))
 (cond (i2==1)
 ((F_conn_Conn_headers p1 i4 x16.1 x16.2.1 x16.2.2.1 x16.2.2.2.1 x16.2.2.2.2.1 x16.2.2.2.2.2.1 x16.2.2.2.2.2.2.1 x16.2.2.2.2.2.2.2.1 x16.2.2.2.2.2.2.2.2.1 l6 l7 l8 l9 x14.2 l11 l12).bind fun x22=>
 some (x22.1,x22.2.1,x22.2.2.1,x22.2.2.2.1,x22.2.2.2.2.1,x22.2.2.2.2.2.1,x22.2.2.2.2.2.2,l13))
 (cond (i2==9)
 ((F_conn_Conn_goesOn p1 x16.1 x16.2.1 x16.2.2.1 x16.2.2.2.1 x16.2.2.2.2.1 x16.2.2.2.2.2.1 x16.2.2.2.2.2.2.1 x16.2.2.2.2.2.2.2.1 x16.2.2.2.2.2.2.2.2.1 l6 l7 l8 l9 x14.2 l11 l12).bind fun x23=>
 some (x23.1,x23.2.1,x23.2.2.1,x23.2.2.2.1,x23.2.2.2.2.1,x23.2.2.2.2.2.1,x23.2.2.2.2.2.2,l13))
 (cond (i2==3)
 ((F_conn_Conn_rst p1 i4 x16.1 x16.2.1 x16.2.2.1 x16.2.2.2.1 x16.2.2.2.2.1 x16.2.2.2.2.2.1 x16.2.2.2.2.2.2.1 x16.2.2.2.2.2.2.2.1 x16.2.2.2.2.2.2.2.2.1 l8 l9 x14.2 l11).bind fun x24=>
 some (l6,l7,x24.1,x24.2.1,x24.2.2.1,x24.2.2.2,l12,l13))
 (cond (i2==4)
 ((F_conn_Conn_settings p1 x16.1 x16.2.1 x16.2.2.1 x16.2.2.2.1 x16.2.2.2.2.1 x16.2.2.2.2.2.1 x16.2.2.2.2.2.2.1 x16.2.2.2.2.2.2.2.1 x16.2.2.2.2.2.2.2.2.1 l7 l8 l9 x14.2 l11 l13).bind fun x25=>
 some (l6,x25.1,x25.2.1,l9,x25.2.2.1,x25.2.2.2.1,l12,x25.2.2.2.2))
 (cond (i2==6)
 (cond (!x16.2.2.2.2.2.2.2.1)
 ((F_part_Ping x16.1 true).bind fun x26=>
 (F_conn_Conn_lays p1 x26.1 x26.2.1 x26.2.2.1 x26.2.2.2 l8 x14.2).bind fun x27=>
 some (l6,l7,x27.1,l9,x27.2,l11,l12,l13))
 (some (l6,l7,l8,l9,x14.2,l11,l12,l13)))
 (cond (i2==8)
 ((F_conn_Conn_update p1 i4 x16.2.2.2.2.1 l8 l9 x14.2 l11).bind fun x28=>
 some (l6,l7,x28.1,x28.2.1,x28.2.2.1,x28.2.2.2,l12,l13))
 (some (l6,l7,l8,l9,x14.2,l11,l12,l13)))))))))))
 (cond x16.2.2.2.2.2.2.2.2.2.1
 ((F_conn_Conn_faults p1 i4 x16.2.2.2.2.2.2.2.2.2.2.2 l8 l9 x14.2 l11).bind fun x29=>
 some (l6,l7,x29.1,x29.2.1,x29.2.2.1,x29.2.2.2,l12,l13))
 (cond (i2==0)
 ((F_conn_Conn_data p1 i2 i3 i4 l5 x16.1 x16.2.1 x16.2.2.1 x16.2.2.2.1 x16.2.2.2.2.1 x16.2.2.2.2.2.1 x16.2.2.2.2.2.2.1 x16.2.2.2.2.2.2.2.1 x16.2.2.2.2.2.2.2.2.1 l8 l9 x14.2 l11).bind fun x30=>
 some (l6,l7,x30.1,x30.2.1,x30.2.2.1,x30.2.2.2,l12,l13))
 (cond (i2==1)
 ((F_conn_Conn_headers p1 i4 x16.1 x16.2.1 x16.2.2.1 x16.2.2.2.1 x16.2.2.2.2.1 x16.2.2.2.2.2.1 x16.2.2.2.2.2.2.1 x16.2.2.2.2.2.2.2.1 x16.2.2.2.2.2.2.2.2.1 l6 l7 l8 l9 x14.2 l11 l12).bind fun x31=>
 some (x31.1,x31.2.1,x31.2.2.1,x31.2.2.2.1,x31.2.2.2.2.1,x31.2.2.2.2.2.1,x31.2.2.2.2.2.2,l13))
 (cond (i2==9)
 ((F_conn_Conn_goesOn p1 x16.1 x16.2.1 x16.2.2.1 x16.2.2.2.1 x16.2.2.2.2.1 x16.2.2.2.2.2.1 x16.2.2.2.2.2.2.1 x16.2.2.2.2.2.2.2.1 x16.2.2.2.2.2.2.2.2.1 l6 l7 l8 l9 x14.2 l11 l12).bind fun x32=>
 some (x32.1,x32.2.1,x32.2.2.1,x32.2.2.2.1,x32.2.2.2.2.1,x32.2.2.2.2.2.1,x32.2.2.2.2.2.2,l13))
 (cond (i2==3)
 ((F_conn_Conn_rst p1 i4 x16.1 x16.2.1 x16.2.2.1 x16.2.2.2.1 x16.2.2.2.2.1 x16.2.2.2.2.2.1 x16.2.2.2.2.2.2.1 x16.2.2.2.2.2.2.2.1 x16.2.2.2.2.2.2.2.2.1 l8 l9 x14.2 l11).bind fun x33=>
 some (l6,l7,x33.1,x33.2.1,x33.2.2.1,x33.2.2.2,l12,l13))
 (cond (i2==4)
 ((F_conn_Conn_settings p1 x16.1 x16.2.1 x16.2.2.1 x16.2.2.2.1 x16.2.2.2.2.1 x16.2.2.2.2.2.1 x16.2.2.2.2.2.2.1 x16.2.2.2.2.2.2.2.1 x16.2.2.2.2.2.2.2.2.1 l7 l8 l9 x14.2 l11 l13).bind fun x34=>
 some (l6,x34.1,x34.2.1,l9,x34.2.2.1,x34.2.2.2.1,l12,x34.2.2.2.2))
 (cond (i2==6)
 (cond (!x16.2.2.2.2.2.2.2.1)
 ((F_part_Ping x16.1 true).bind fun x35=>
 (F_conn_Conn_lays p1 x35.1 x35.2.1 x35.2.2.1 x35.2.2.2 l8 x14.2).bind fun x36=>
 some (l6,l7,x36.1,l9,x36.2,l11,l12,l13))
 (some (l6,l7,l8,l9,x14.2,l11,l12,l13)))
 (cond (i2==8)
 ((F_conn_Conn_update p1 i4 x16.2.2.2.2.1 l8 l9 x14.2 l11).bind fun x37=>
 some (l6,l7,x37.1,x37.2.1,x37.2.2.1,x37.2.2.2,l12,l13))
 (some (l6,l7,l8,l9,x14.2,l11,l12,l13))))))))))))
def F_conn_Conn_reads_sig:Sig:=⟨[.v false [.d (.ptr 126)],.v true [.d (.int .i64),.d (.int .i64),.d (.int .i64),.d (.sl (.int .u8))]],[],[(1000198,Zp18,true),(1000218,Zp11,true),(1000222,Zp14,true),(1000243,(.sl Zp15),true),(1000252,Zp9,true),(1000278,Zp16,true),(1000282,Zp12,true),(1000358,Zp19,true)]⟩
def F_conn_Conn_reads_ann:List (Nat×Ann):=[]
noncomputable def F_conn_Conn_reads_env:Env:=⟨Tryz.prog,[(38,⟨F_conn_Conn_State_sig,⟨F_conn_Conn_State⟩⟩),(48,⟨F_part_Read_sig,⟨F_part_Read⟩⟩),(53,⟨F_part_Ping_sig,⟨F_part_Ping⟩⟩),(70,⟨F_conn_Conn_lays_sig,⟨F_conn_Conn_lays⟩⟩),(72,⟨F_conn_Conn_dies_sig,⟨F_conn_Conn_dies⟩⟩),(123,⟨F_conn_Conn_misplaced_sig,⟨F_conn_Conn_misplaced⟩⟩),(124,⟨F_conn_Conn_faults_sig,⟨F_conn_Conn_faults⟩⟩),(125,⟨F_conn_Conn_data_sig,⟨F_conn_Conn_data⟩⟩),(126,⟨F_conn_Conn_headers_sig,⟨F_conn_Conn_headers⟩⟩),(127,⟨F_conn_Conn_goesOn_sig,⟨F_conn_Conn_goesOn⟩⟩),(128,⟨F_conn_Conn_rst_sig,⟨F_conn_Conn_rst⟩⟩),(129,⟨F_conn_Conn_settings_sig,⟨F_conn_Conn_settings⟩⟩),(130,⟨F_conn_Conn_update_sig,⟨F_conn_Conn_update⟩⟩)],[]⟩
theorem F_conn_Conn_reads_text:pvFn F_conn_Conn_reads_env F_conn_Conn_reads_ann Tryz.f73 F_conn_Conn_reads_sig=F_conn_Conn_reads:=by kernel_rfl
noncomputable def F_conn_Conn_Feed_G1_1 (p1:Int) (s:List Int×Int×Int×Int×List Int×Zt8×List (Zt2×Int×Int)×Zt5×Zt7×Zt1×Zt3×Zt6×Zt3):Option ((Zt4×Zt8×List (Zt2×Int×Int)×Zt5×Zt7×Zt1×Zt3×Zt6×Zt3)⊕(Nat×List Int×Int×Int×Int×List Int×Zt8×List (Zt2×Int×Int)×Zt5×Zt7×Zt1×Zt3×Zt6×Zt3)):=
 let l22:=s.1;let i23:=s.2.1;let i24:=s.2.2.1;let i25:=s.2.2.2.1;let l26:=s.2.2.2.2.1;let l27:=s.2.2.2.2.2.1;let l28:=s.2.2.2.2.2.2.1;let l29:=s.2.2.2.2.2.2.2.1;let l30:=s.2.2.2.2.2.2.2.2.1;let l31:=s.2.2.2.2.2.2.2.2.2.1;let l32:=s.2.2.2.2.2.2.2.2.2.2.1;let l33:=s.2.2.2.2.2.2.2.2.2.2.2.1;let l34:=s.2.2.2.2.2.2.2.2.2.2.2.2
 cond ((l22.length:Int)==0)
 (some (.inr (0,(l22,i23,i24,i25,l26,l27,l28,l29,l30,l31,l32,l33,l34))))
 (chk (nnI p1)
 ((getI l31 p1).bind fun x35=>
 cond (x35.1.1==24)
 (some (.inr (0,(l22,i23,i24,i25,l26,l27,l28,l29,l30,l31,l32,l33,l34))))
 ((getI l22 0).bind fun i36=>
 chk (nnI p1)
 ((getI l31 p1).bind fun x37=>
 (getI ([80,82,73,32,42,32,72,84,84,80,47,50,46,48,13,10,13,10,83,77,13,10,13,10]:List Int) x37.1.1).bind fun i38=>
 cond (i36 != i38)
 ((F_conn_Conn_dies p1 1 l29 l31).bind fun x39=>
 some (.inr (2,(l22,i23,i24,i25,l26,l27,l28,x39.1,l30,x39.2,l32,l33,l34))))
 ((cutI l22 1 (l22.length:Int)).bind fun l40=>
 chk (nnI p1)
 ((getI l31 p1).bind fun x41=>
 chk (nnI p1)
 ((getI l31 p1).bind fun x42=>
 some (.inr (1,(l40,i23,i24,i25,l26,l27,l28,l29,l30,(l31.set (Int.toNat p1) (((IntKind.i64.wrap (x41.1.1+1)),x42.1.2),x42.2)),l32,l33,l34))))))))))
noncomputable def F_conn_Conn_Feed_G1_0 (p1:Int) (s:List Int×Int×Int×Int×List Int×Zt8×List (Zt2×Int×Int)×Zt5×Zt7×Zt1×Zt3×Zt6×Zt3):Option ((Zt4×Zt8×List (Zt2×Int×Int)×Zt5×Zt7×Zt1×Zt3×Zt6×Zt3)⊕(Nat×List Int×Int×Int×Int×List Int×Zt8×List (Zt2×Int×Int)×Zt5×Zt7×Zt1×Zt3×Zt6×Zt3)):=
 let l22:=s.1;let i23:=s.2.1;let i24:=s.2.2.1;let i25:=s.2.2.2.1;let l26:=s.2.2.2.2.1;let l27:=s.2.2.2.2.2.1;let l28:=s.2.2.2.2.2.2.1;let l29:=s.2.2.2.2.2.2.2.1;let l30:=s.2.2.2.2.2.2.2.2.1;let l31:=s.2.2.2.2.2.2.2.2.2.1;let l32:=s.2.2.2.2.2.2.2.2.2.2.1;let l33:=s.2.2.2.2.2.2.2.2.2.2.2.1;let l34:=s.2.2.2.2.2.2.2.2.2.2.2.2
 chk (nnI p1)
 ((getI l31 p1).bind fun x43=>
 (F_frame_Parser_Feed x43.1.2.2.2.2.1 l22 l29).bind fun l44=>
 chk (nnI p1)
 ((getI l31 p1).bind fun x45=>
 (F_frame_Parser_Next x45.1.2.2.2.2.1 l44).bind fun x46=>
 cond (x46.2.2.2.2.1==0)
 ((F_conn_Conn_reads p1 x46.1 x46.2.1 x46.2.2.1 x46.2.2.2.1 l27 l28 x46.2.2.2.2.2 l30 l31 l32 l33 l34).bind fun x47=>
 chk (nnI p1)
 ((getI x47.2.2.2.2.1 p1).bind fun x48=>
 cond (!x48.2.2.2.2.2.1)
 (some (.inr (3,(l22,x46.1,x46.2.1,x46.2.2.1,x46.2.2.2.1,x47.1,x47.2.1,x47.2.2.1,x47.2.2.2.1,x47.2.2.2.2.1,x47.2.2.2.2.2.1,x47.2.2.2.2.2.2.1,x47.2.2.2.2.2.2.2))))
 (chk (nnI p1)
 ((getI x47.2.2.2.2.1 p1).bind fun x49=>
 chk (nnI p1)
 ((getI x47.2.2.2.2.1 p1).bind fun x50=>
 chk (nnI p1)
 ((getI (x47.2.2.2.2.1.set (Int.toNat p1) (x50.1,(x50.2.1,(x50.2.2.1,(x50.2.2.2.1,(x50.2.2.2.2.1,(x50.2.2.2.2.2.1,(x50.2.2.2.2.2.2.1,(x50.2.2.2.2.2.2.2.1,(x50.2.2.2.2.2.2.2.2.1,(x50.2.2.2.2.2.2.2.2.2.1,(x50.2.2.2.2.2.2.2.2.2.2.1,(x50.2.2.2.2.2.2.2.2.2.2.2.1,(x50.2.2.2.2.2.2.2.2.2.2.2.2.1,(x50.2.2.2.2.2.2.2.2.2.2.2.2.2.1,false))))))))))))))) p1).bind fun x51=>
 chk (true)
 (some (.inl (x49.2.2.2.2.2.2.2.2.2.2.2.2.2.1,x47.1,x47.2.1,x47.2.2.1,x47.2.2.2.1,((x47.2.2.2.2.1.set (Int.toNat p1) (x50.1,(x50.2.1,(x50.2.2.1,(x50.2.2.2.1,(x50.2.2.2.2.1,(x50.2.2.2.2.2.1,(x50.2.2.2.2.2.2.1,(x50.2.2.2.2.2.2.2.1,(x50.2.2.2.2.2.2.2.2.1,(x50.2.2.2.2.2.2.2.2.2.1,(x50.2.2.2.2.2.2.2.2.2.2.1,(x50.2.2.2.2.2.2.2.2.2.2.2.1,(x50.2.2.2.2.2.2.2.2.2.2.2.2.1,(x50.2.2.2.2.2.2.2.2.2.2.2.2.2.1,false))))))))))))))).set (Int.toNat p1) (x51.1,(x51.2.1,(x51.2.2.1,(x51.2.2.2.1,(x51.2.2.2.2.1,(x51.2.2.2.2.2.1,(x51.2.2.2.2.2.2.1,(x51.2.2.2.2.2.2.2.1,(x51.2.2.2.2.2.2.2.2.1,(x51.2.2.2.2.2.2.2.2.2.1,(x51.2.2.2.2.2.2.2.2.2.2.1,(x51.2.2.2.2.2.2.2.2.2.2.2.1,(x51.2.2.2.2.2.2.2.2.2.2.2.2.1,(([]:Zt4),x51.2.2.2.2.2.2.2.2.2.2.2.2.2.2))))))))))))))),x47.2.2.2.2.2.1,x47.2.2.2.2.2.2.1,x47.2.2.2.2.2.2.2)))))))))
 (cond (x46.2.2.2.2.1==3)
 ((F_conn_Conn_dies p1 6 x46.2.2.2.2.2 l31).bind fun x52=>
 chk (nnI p1)
 ((getI x52.2 p1).bind fun x53=>
 cond (!x53.2.2.2.2.2.1)
 (some (.inr (3,(l22,x46.1,x46.2.1,x46.2.2.1,x46.2.2.2.1,l27,l28,x52.1,l30,x52.2,l32,l33,l34))))
 (chk (nnI p1)
 ((getI x52.2 p1).bind fun x54=>
 chk (nnI p1)
 ((getI x52.2 p1).bind fun x55=>
 chk (nnI p1)
 ((getI (x52.2.set (Int.toNat p1) (x55.1,(x55.2.1,(x55.2.2.1,(x55.2.2.2.1,(x55.2.2.2.2.1,(x55.2.2.2.2.2.1,(x55.2.2.2.2.2.2.1,(x55.2.2.2.2.2.2.2.1,(x55.2.2.2.2.2.2.2.2.1,(x55.2.2.2.2.2.2.2.2.2.1,(x55.2.2.2.2.2.2.2.2.2.2.1,(x55.2.2.2.2.2.2.2.2.2.2.2.1,(x55.2.2.2.2.2.2.2.2.2.2.2.2.1,(x55.2.2.2.2.2.2.2.2.2.2.2.2.2.1,false))))))))))))))) p1).bind fun x56=>
 chk (true)
 (some (.inl (x54.2.2.2.2.2.2.2.2.2.2.2.2.2.1,l27,l28,x52.1,l30,((x52.2.set (Int.toNat p1) (x55.1,(x55.2.1,(x55.2.2.1,(x55.2.2.2.1,(x55.2.2.2.2.1,(x55.2.2.2.2.2.1,(x55.2.2.2.2.2.2.1,(x55.2.2.2.2.2.2.2.1,(x55.2.2.2.2.2.2.2.2.1,(x55.2.2.2.2.2.2.2.2.2.1,(x55.2.2.2.2.2.2.2.2.2.2.1,(x55.2.2.2.2.2.2.2.2.2.2.2.1,(x55.2.2.2.2.2.2.2.2.2.2.2.2.1,(x55.2.2.2.2.2.2.2.2.2.2.2.2.2.1,false))))))))))))))).set (Int.toNat p1) (x56.1,(x56.2.1,(x56.2.2.1,(x56.2.2.2.1,(x56.2.2.2.2.1,(x56.2.2.2.2.2.1,(x56.2.2.2.2.2.2.1,(x56.2.2.2.2.2.2.2.1,(x56.2.2.2.2.2.2.2.2.1,(x56.2.2.2.2.2.2.2.2.2.1,(x56.2.2.2.2.2.2.2.2.2.2.1,(x56.2.2.2.2.2.2.2.2.2.2.2.1,(x56.2.2.2.2.2.2.2.2.2.2.2.2.1,(([]:Zt4),x56.2.2.2.2.2.2.2.2.2.2.2.2.2.2))))))))))))))),l32,l33,l34)))))))))
 (some (.inr (2,(l22,x46.1,x46.2.1,x46.2.2.1,x46.2.2.2.1,l27,l28,x46.2.2.2.2.2,l30,l31,l32,l33,l34)))))))
noncomputable def F_conn_Conn_Feed_G1_3 (p1:Int) (s:List Int×Int×Int×Int×List Int×Zt8×List (Zt2×Int×Int)×Zt5×Zt7×Zt1×Zt3×Zt6×Zt3):Option ((Zt4×Zt8×List (Zt2×Int×Int)×Zt5×Zt7×Zt1×Zt3×Zt6×Zt3)⊕(Nat×List Int×Int×Int×Int×List Int×Zt8×List (Zt2×Int×Int)×Zt5×Zt7×Zt1×Zt3×Zt6×Zt3)):=
 let l22:=s.1;let i23:=s.2.1;let i24:=s.2.2.1;let i25:=s.2.2.2.1;let l26:=s.2.2.2.2.1;let l27:=s.2.2.2.2.2.1;let l28:=s.2.2.2.2.2.2.1;let l29:=s.2.2.2.2.2.2.2.1;let l30:=s.2.2.2.2.2.2.2.2.1;let l31:=s.2.2.2.2.2.2.2.2.2.1;let l32:=s.2.2.2.2.2.2.2.2.2.2.1;let l33:=s.2.2.2.2.2.2.2.2.2.2.2.1;let l34:=s.2.2.2.2.2.2.2.2.2.2.2.2
 chk (nnI p1)
 ((getI l31 p1).bind fun x57=>
 (F_frame_Parser_Next x57.1.2.2.2.2.1 l29).bind fun x58=>
 cond (x58.2.2.2.2.1==0)
 ((F_conn_Conn_reads p1 x58.1 x58.2.1 x58.2.2.1 x58.2.2.2.1 l27 l28 x58.2.2.2.2.2 l30 l31 l32 l33 l34).bind fun x59=>
 chk (nnI p1)
 ((getI x59.2.2.2.2.1 p1).bind fun x60=>
 cond (!x60.2.2.2.2.2.1)
 (some (.inr (3,(l22,x58.1,x58.2.1,x58.2.2.1,x58.2.2.2.1,x59.1,x59.2.1,x59.2.2.1,x59.2.2.2.1,x59.2.2.2.2.1,x59.2.2.2.2.2.1,x59.2.2.2.2.2.2.1,x59.2.2.2.2.2.2.2))))
 (chk (nnI p1)
 ((getI x59.2.2.2.2.1 p1).bind fun x61=>
 chk (nnI p1)
 ((getI x59.2.2.2.2.1 p1).bind fun x62=>
 chk (nnI p1)
 ((getI (x59.2.2.2.2.1.set (Int.toNat p1) (x62.1,(x62.2.1,(x62.2.2.1,(x62.2.2.2.1,(x62.2.2.2.2.1,(x62.2.2.2.2.2.1,(x62.2.2.2.2.2.2.1,(x62.2.2.2.2.2.2.2.1,(x62.2.2.2.2.2.2.2.2.1,(x62.2.2.2.2.2.2.2.2.2.1,(x62.2.2.2.2.2.2.2.2.2.2.1,(x62.2.2.2.2.2.2.2.2.2.2.2.1,(x62.2.2.2.2.2.2.2.2.2.2.2.2.1,(x62.2.2.2.2.2.2.2.2.2.2.2.2.2.1,false))))))))))))))) p1).bind fun x63=>
 chk (true)
 (some (.inl (x61.2.2.2.2.2.2.2.2.2.2.2.2.2.1,x59.1,x59.2.1,x59.2.2.1,x59.2.2.2.1,((x59.2.2.2.2.1.set (Int.toNat p1) (x62.1,(x62.2.1,(x62.2.2.1,(x62.2.2.2.1,(x62.2.2.2.2.1,(x62.2.2.2.2.2.1,(x62.2.2.2.2.2.2.1,(x62.2.2.2.2.2.2.2.1,(x62.2.2.2.2.2.2.2.2.1,(x62.2.2.2.2.2.2.2.2.2.1,(x62.2.2.2.2.2.2.2.2.2.2.1,(x62.2.2.2.2.2.2.2.2.2.2.2.1,(x62.2.2.2.2.2.2.2.2.2.2.2.2.1,(x62.2.2.2.2.2.2.2.2.2.2.2.2.2.1,false))))))))))))))).set (Int.toNat p1) (x63.1,(x63.2.1,(x63.2.2.1,(x63.2.2.2.1,(x63.2.2.2.2.1,(x63.2.2.2.2.2.1,(x63.2.2.2.2.2.2.1,(x63.2.2.2.2.2.2.2.1,(x63.2.2.2.2.2.2.2.2.1,(x63.2.2.2.2.2.2.2.2.2.1,(x63.2.2.2.2.2.2.2.2.2.2.1,(x63.2.2.2.2.2.2.2.2.2.2.2.1,(x63.2.2.2.2.2.2.2.2.2.2.2.2.1,(([]:Zt4),x63.2.2.2.2.2.2.2.2.2.2.2.2.2.2))))))))))))))),x59.2.2.2.2.2.1,x59.2.2.2.2.2.2.1,x59.2.2.2.2.2.2.2)))))))))
 (cond (x58.2.2.2.2.1==3)
 ((F_conn_Conn_dies p1 6 x58.2.2.2.2.2 l31).bind fun x64=>
 chk (nnI p1)
 ((getI x64.2 p1).bind fun x65=>
 cond (!x65.2.2.2.2.2.1)
 (some (.inr (3,(l22,x58.1,x58.2.1,x58.2.2.1,x58.2.2.2.1,l27,l28,x64.1,l30,x64.2,l32,l33,l34))))
 (chk (nnI p1)
 ((getI x64.2 p1).bind fun x66=>
 chk (nnI p1)
 ((getI x64.2 p1).bind fun x67=>
 chk (nnI p1)
 ((getI (x64.2.set (Int.toNat p1) (x67.1,(x67.2.1,(x67.2.2.1,(x67.2.2.2.1,(x67.2.2.2.2.1,(x67.2.2.2.2.2.1,(x67.2.2.2.2.2.2.1,(x67.2.2.2.2.2.2.2.1,(x67.2.2.2.2.2.2.2.2.1,(x67.2.2.2.2.2.2.2.2.2.1,(x67.2.2.2.2.2.2.2.2.2.2.1,(x67.2.2.2.2.2.2.2.2.2.2.2.1,(x67.2.2.2.2.2.2.2.2.2.2.2.2.1,(x67.2.2.2.2.2.2.2.2.2.2.2.2.2.1,false))))))))))))))) p1).bind fun x68=>
 chk (true)
 (some (.inl (x66.2.2.2.2.2.2.2.2.2.2.2.2.2.1,l27,l28,x64.1,l30,((x64.2.set (Int.toNat p1) (x67.1,(x67.2.1,(x67.2.2.1,(x67.2.2.2.1,(x67.2.2.2.2.1,(x67.2.2.2.2.2.1,(x67.2.2.2.2.2.2.1,(x67.2.2.2.2.2.2.2.1,(x67.2.2.2.2.2.2.2.2.1,(x67.2.2.2.2.2.2.2.2.2.1,(x67.2.2.2.2.2.2.2.2.2.2.1,(x67.2.2.2.2.2.2.2.2.2.2.2.1,(x67.2.2.2.2.2.2.2.2.2.2.2.2.1,(x67.2.2.2.2.2.2.2.2.2.2.2.2.2.1,false))))))))))))))).set (Int.toNat p1) (x68.1,(x68.2.1,(x68.2.2.1,(x68.2.2.2.1,(x68.2.2.2.2.1,(x68.2.2.2.2.2.1,(x68.2.2.2.2.2.2.1,(x68.2.2.2.2.2.2.2.1,(x68.2.2.2.2.2.2.2.2.1,(x68.2.2.2.2.2.2.2.2.2.1,(x68.2.2.2.2.2.2.2.2.2.2.1,(x68.2.2.2.2.2.2.2.2.2.2.2.1,(x68.2.2.2.2.2.2.2.2.2.2.2.2.1,(([]:Zt4),x68.2.2.2.2.2.2.2.2.2.2.2.2.2.2))))))))))))))),l32,l33,l34)))))))))
 (some (.inr (2,(l22,x58.1,x58.2.1,x58.2.2.1,x58.2.2.2.1,l27,l28,x58.2.2.2.2.2,l30,l31,l32,l33,l34))))))
noncomputable def F_conn_Conn_Feed_G1_2 (p1:Int) (s:List Int×Int×Int×Int×List Int×Zt8×List (Zt2×Int×Int)×Zt5×Zt7×Zt1×Zt3×Zt6×Zt3):Option ((Zt4×Zt8×List (Zt2×Int×Int)×Zt5×Zt7×Zt1×Zt3×Zt6×Zt3)⊕(Nat×List Int×Int×Int×Int×List Int×Zt8×List (Zt2×Int×Int)×Zt5×Zt7×Zt1×Zt3×Zt6×Zt3)):=
 let l22:=s.1;let i23:=s.2.1;let i24:=s.2.2.1;let i25:=s.2.2.2.1;let l26:=s.2.2.2.2.1;let l27:=s.2.2.2.2.2.1;let l28:=s.2.2.2.2.2.2.1;let l29:=s.2.2.2.2.2.2.2.1;let l30:=s.2.2.2.2.2.2.2.2.1;let l31:=s.2.2.2.2.2.2.2.2.2.1;let l32:=s.2.2.2.2.2.2.2.2.2.2.1;let l33:=s.2.2.2.2.2.2.2.2.2.2.2.1;let l34:=s.2.2.2.2.2.2.2.2.2.2.2.2
 chk (nnI p1)
 ((getI l31 p1).bind fun x69=>
 chk (nnI p1)
 ((getI l31 p1).bind fun x70=>
 chk (nnI p1)
 ((getI (l31.set (Int.toNat p1) (x70.1,(x70.2.1,(x70.2.2.1,(x70.2.2.2.1,(x70.2.2.2.2.1,(x70.2.2.2.2.2.1,(x70.2.2.2.2.2.2.1,(x70.2.2.2.2.2.2.2.1,(x70.2.2.2.2.2.2.2.2.1,(x70.2.2.2.2.2.2.2.2.2.1,(x70.2.2.2.2.2.2.2.2.2.2.1,(x70.2.2.2.2.2.2.2.2.2.2.2.1,(x70.2.2.2.2.2.2.2.2.2.2.2.2.1,(x70.2.2.2.2.2.2.2.2.2.2.2.2.2.1,false))))))))))))))) p1).bind fun x71=>
 chk (true)
 (some (.inl (x69.2.2.2.2.2.2.2.2.2.2.2.2.2.1,l27,l28,l29,l30,((l31.set (Int.toNat p1) (x70.1,(x70.2.1,(x70.2.2.1,(x70.2.2.2.1,(x70.2.2.2.2.1,(x70.2.2.2.2.2.1,(x70.2.2.2.2.2.2.1,(x70.2.2.2.2.2.2.2.1,(x70.2.2.2.2.2.2.2.2.1,(x70.2.2.2.2.2.2.2.2.2.1,(x70.2.2.2.2.2.2.2.2.2.2.1,(x70.2.2.2.2.2.2.2.2.2.2.2.1,(x70.2.2.2.2.2.2.2.2.2.2.2.2.1,(x70.2.2.2.2.2.2.2.2.2.2.2.2.2.1,false))))))))))))))).set (Int.toNat p1) (x71.1,(x71.2.1,(x71.2.2.1,(x71.2.2.2.1,(x71.2.2.2.2.1,(x71.2.2.2.2.2.1,(x71.2.2.2.2.2.2.1,(x71.2.2.2.2.2.2.2.1,(x71.2.2.2.2.2.2.2.2.1,(x71.2.2.2.2.2.2.2.2.2.1,(x71.2.2.2.2.2.2.2.2.2.2.1,(x71.2.2.2.2.2.2.2.2.2.2.2.1,(x71.2.2.2.2.2.2.2.2.2.2.2.2.1,(([]:Zt4),x71.2.2.2.2.2.2.2.2.2.2.2.2.2.2))))))))))))))),l32,l33,l34))))))
noncomputable def F_conn_Conn_Feed_G1 (p1:Int) (p:Nat×List Int×Int×Int×Int×List Int×Zt8×List (Zt2×Int×Int)×Zt5×Zt7×Zt1×Zt3×Zt6×Zt3):Option ((Zt4×Zt8×List (Zt2×Int×Int)×Zt5×Zt7×Zt1×Zt3×Zt6×Zt3)⊕(Nat×List Int×Int×Int×Int×List Int×Zt8×List (Zt2×Int×Int)×Zt5×Zt7×Zt1×Zt3×Zt6×Zt3)):=
 cond (hasN [1] p.1) (F_conn_Conn_Feed_G1_1 p1 p.2) (cond (hasN [0] p.1) (F_conn_Conn_Feed_G1_0 p1 p.2) (cond (hasN [3] p.1) (F_conn_Conn_Feed_G1_3 p1 p.2) (cond (hasN [2] p.1) (F_conn_Conn_Feed_G1_2 p1 p.2) (none))))
noncomputable def F_conn_Conn_Feed (p1:Int) (l2:List Int) (l3:Zt8) (l4:List (Zt2×Int×Int)) (l5:Zt5) (l6:Zt7) (l7:Zt1) (l8:Zt3) (l9:Zt6) (l10:Zt3):Option (Zt4×Zt8×List (Zt2×Int×Int)×Zt5×Zt7×Zt1×Zt3×Zt6×Zt3):=
 joinC (S:=Nat×List Int×Int×Int×Int×List Int×Zt8×List (Zt2×Int×Int)×Zt5×Zt7×Zt1×Zt3×Zt6×Zt3) (R:=Zt4×Zt8×List (Zt2×Int×Int)×Zt5×Zt7×Zt1×Zt3×Zt6×Zt3)
 (chk (nnI p1)
 ((getI l7 p1).bind fun x11=>
 cond x11.2.2.2.2.2.1
 (some (.inl (([]:Zt4),l3,l4,l5,l6,l7,l8,l9,l10)))
 (chk (nnI p1)
 ((getI l7 p1).bind fun x12=>
 chk (nnI p1)
 ((getI (l7.set (Int.toNat p1) (x12.1,(x12.2.1,(x12.2.2.1,(x12.2.2.2.1,(x12.2.2.2.2.1,(x12.2.2.2.2.2.1,(x12.2.2.2.2.2.2.1,(x12.2.2.2.2.2.2.2.1,(x12.2.2.2.2.2.2.2.2.1,(x12.2.2.2.2.2.2.2.2.2.1,(x12.2.2.2.2.2.2.2.2.2.2.1,(x12.2.2.2.2.2.2.2.2.2.2.2.1,(x12.2.2.2.2.2.2.2.2.2.2.2.2.1,(x12.2.2.2.2.2.2.2.2.2.2.2.2.2.1,true))))))))))))))) p1).bind fun x13=>
 chk (true)
 (cond ((l2.length:Int)==0)
 (some (.inr (0,(l2,0,0,0,([]:List Int),l3,l4,l5,l6,((l7.set (Int.toNat p1) (x12.1,(x12.2.1,(x12.2.2.1,(x12.2.2.2.1,(x12.2.2.2.2.1,(x12.2.2.2.2.2.1,(x12.2.2.2.2.2.2.1,(x12.2.2.2.2.2.2.2.1,(x12.2.2.2.2.2.2.2.2.1,(x12.2.2.2.2.2.2.2.2.2.1,(x12.2.2.2.2.2.2.2.2.2.2.1,(x12.2.2.2.2.2.2.2.2.2.2.2.1,(x12.2.2.2.2.2.2.2.2.2.2.2.2.1,(x12.2.2.2.2.2.2.2.2.2.2.2.2.2.1,true))))))))))))))).set (Int.toNat p1) (x13.1,(x13.2.1,(x13.2.2.1,(x13.2.2.2.1,(x13.2.2.2.2.1,(x13.2.2.2.2.2.1,(x13.2.2.2.2.2.2.1,(x13.2.2.2.2.2.2.2.1,(x13.2.2.2.2.2.2.2.2.1,(x13.2.2.2.2.2.2.2.2.2.1,(x13.2.2.2.2.2.2.2.2.2.2.1,(x13.2.2.2.2.2.2.2.2.2.2.2.1,(x13.2.2.2.2.2.2.2.2.2.2.2.2.1,(([]:Zt4),x13.2.2.2.2.2.2.2.2.2.2.2.2.2.2))))))))))))))),l8,l9,l10))))
 (chk (nnI p1)
 ((getI ((l7.set (Int.toNat p1) (x12.1,(x12.2.1,(x12.2.2.1,(x12.2.2.2.1,(x12.2.2.2.2.1,(x12.2.2.2.2.2.1,(x12.2.2.2.2.2.2.1,(x12.2.2.2.2.2.2.2.1,(x12.2.2.2.2.2.2.2.2.1,(x12.2.2.2.2.2.2.2.2.2.1,(x12.2.2.2.2.2.2.2.2.2.2.1,(x12.2.2.2.2.2.2.2.2.2.2.2.1,(x12.2.2.2.2.2.2.2.2.2.2.2.2.1,(x12.2.2.2.2.2.2.2.2.2.2.2.2.2.1,true))))))))))))))).set (Int.toNat p1) (x13.1,(x13.2.1,(x13.2.2.1,(x13.2.2.2.1,(x13.2.2.2.2.1,(x13.2.2.2.2.2.1,(x13.2.2.2.2.2.2.1,(x13.2.2.2.2.2.2.2.1,(x13.2.2.2.2.2.2.2.2.1,(x13.2.2.2.2.2.2.2.2.2.1,(x13.2.2.2.2.2.2.2.2.2.2.1,(x13.2.2.2.2.2.2.2.2.2.2.2.1,(x13.2.2.2.2.2.2.2.2.2.2.2.2.1,(([]:Zt4),x13.2.2.2.2.2.2.2.2.2.2.2.2.2.2))))))))))))))) p1).bind fun x14=>
 cond (x14.1.1==24)
 (some (.inr (0,(l2,0,0,0,([]:List Int),l3,l4,l5,l6,((l7.set (Int.toNat p1) (x12.1,(x12.2.1,(x12.2.2.1,(x12.2.2.2.1,(x12.2.2.2.2.1,(x12.2.2.2.2.2.1,(x12.2.2.2.2.2.2.1,(x12.2.2.2.2.2.2.2.1,(x12.2.2.2.2.2.2.2.2.1,(x12.2.2.2.2.2.2.2.2.2.1,(x12.2.2.2.2.2.2.2.2.2.2.1,(x12.2.2.2.2.2.2.2.2.2.2.2.1,(x12.2.2.2.2.2.2.2.2.2.2.2.2.1,(x12.2.2.2.2.2.2.2.2.2.2.2.2.2.1,true))))))))))))))).set (Int.toNat p1) (x13.1,(x13.2.1,(x13.2.2.1,(x13.2.2.2.1,(x13.2.2.2.2.1,(x13.2.2.2.2.2.1,(x13.2.2.2.2.2.2.1,(x13.2.2.2.2.2.2.2.1,(x13.2.2.2.2.2.2.2.2.1,(x13.2.2.2.2.2.2.2.2.2.1,(x13.2.2.2.2.2.2.2.2.2.2.1,(x13.2.2.2.2.2.2.2.2.2.2.2.1,(x13.2.2.2.2.2.2.2.2.2.2.2.2.1,(([]:Zt4),x13.2.2.2.2.2.2.2.2.2.2.2.2.2.2))))))))))))))),l8,l9,l10))))
 ((getI l2 0).bind fun i15=>
 chk (nnI p1)
 ((getI ((l7.set (Int.toNat p1) (x12.1,(x12.2.1,(x12.2.2.1,(x12.2.2.2.1,(x12.2.2.2.2.1,(x12.2.2.2.2.2.1,(x12.2.2.2.2.2.2.1,(x12.2.2.2.2.2.2.2.1,(x12.2.2.2.2.2.2.2.2.1,(x12.2.2.2.2.2.2.2.2.2.1,(x12.2.2.2.2.2.2.2.2.2.2.1,(x12.2.2.2.2.2.2.2.2.2.2.2.1,(x12.2.2.2.2.2.2.2.2.2.2.2.2.1,(x12.2.2.2.2.2.2.2.2.2.2.2.2.2.1,true))))))))))))))).set (Int.toNat p1) (x13.1,(x13.2.1,(x13.2.2.1,(x13.2.2.2.1,(x13.2.2.2.2.1,(x13.2.2.2.2.2.1,(x13.2.2.2.2.2.2.1,(x13.2.2.2.2.2.2.2.1,(x13.2.2.2.2.2.2.2.2.1,(x13.2.2.2.2.2.2.2.2.2.1,(x13.2.2.2.2.2.2.2.2.2.2.1,(x13.2.2.2.2.2.2.2.2.2.2.2.1,(x13.2.2.2.2.2.2.2.2.2.2.2.2.1,(([]:Zt4),x13.2.2.2.2.2.2.2.2.2.2.2.2.2.2))))))))))))))) p1).bind fun x16=>
 (getI ([80,82,73,32,42,32,72,84,84,80,47,50,46,48,13,10,13,10,83,77,13,10,13,10]:List Int) x16.1.1).bind fun i17=>
 cond (i15 != i17)
 ((F_conn_Conn_dies p1 1 l5 ((l7.set (Int.toNat p1) (x12.1,(x12.2.1,(x12.2.2.1,(x12.2.2.2.1,(x12.2.2.2.2.1,(x12.2.2.2.2.2.1,(x12.2.2.2.2.2.2.1,(x12.2.2.2.2.2.2.2.1,(x12.2.2.2.2.2.2.2.2.1,(x12.2.2.2.2.2.2.2.2.2.1,(x12.2.2.2.2.2.2.2.2.2.2.1,(x12.2.2.2.2.2.2.2.2.2.2.2.1,(x12.2.2.2.2.2.2.2.2.2.2.2.2.1,(x12.2.2.2.2.2.2.2.2.2.2.2.2.2.1,true))))))))))))))).set (Int.toNat p1) (x13.1,(x13.2.1,(x13.2.2.1,(x13.2.2.2.1,(x13.2.2.2.2.1,(x13.2.2.2.2.2.1,(x13.2.2.2.2.2.2.1,(x13.2.2.2.2.2.2.2.1,(x13.2.2.2.2.2.2.2.2.1,(x13.2.2.2.2.2.2.2.2.2.1,(x13.2.2.2.2.2.2.2.2.2.2.1,(x13.2.2.2.2.2.2.2.2.2.2.2.1,(x13.2.2.2.2.2.2.2.2.2.2.2.2.1,(([]:Zt4),x13.2.2.2.2.2.2.2.2.2.2.2.2.2.2)))))))))))))))).bind fun x18=>
 some (.inr (2,(l2,0,0,0,([]:List Int),l3,l4,x18.1,l6,x18.2,l8,l9,l10))))
 ((cutI l2 1 (l2.length:Int)).bind fun l19=>
 chk (nnI p1)
 ((getI ((l7.set (Int.toNat p1) (x12.1,(x12.2.1,(x12.2.2.1,(x12.2.2.2.1,(x12.2.2.2.2.1,(x12.2.2.2.2.2.1,(x12.2.2.2.2.2.2.1,(x12.2.2.2.2.2.2.2.1,(x12.2.2.2.2.2.2.2.2.1,(x12.2.2.2.2.2.2.2.2.2.1,(x12.2.2.2.2.2.2.2.2.2.2.1,(x12.2.2.2.2.2.2.2.2.2.2.2.1,(x12.2.2.2.2.2.2.2.2.2.2.2.2.1,(x12.2.2.2.2.2.2.2.2.2.2.2.2.2.1,true))))))))))))))).set (Int.toNat p1) (x13.1,(x13.2.1,(x13.2.2.1,(x13.2.2.2.1,(x13.2.2.2.2.1,(x13.2.2.2.2.2.1,(x13.2.2.2.2.2.2.1,(x13.2.2.2.2.2.2.2.1,(x13.2.2.2.2.2.2.2.2.1,(x13.2.2.2.2.2.2.2.2.2.1,(x13.2.2.2.2.2.2.2.2.2.2.1,(x13.2.2.2.2.2.2.2.2.2.2.2.1,(x13.2.2.2.2.2.2.2.2.2.2.2.2.1,(([]:Zt4),x13.2.2.2.2.2.2.2.2.2.2.2.2.2.2))))))))))))))) p1).bind fun x20=>
 chk (nnI p1)
 ((getI ((l7.set (Int.toNat p1) (x12.1,(x12.2.1,(x12.2.2.1,(x12.2.2.2.1,(x12.2.2.2.2.1,(x12.2.2.2.2.2.1,(x12.2.2.2.2.2.2.1,(x12.2.2.2.2.2.2.2.1,(x12.2.2.2.2.2.2.2.2.1,(x12.2.2.2.2.2.2.2.2.2.1,(x12.2.2.2.2.2.2.2.2.2.2.1,(x12.2.2.2.2.2.2.2.2.2.2.2.1,(x12.2.2.2.2.2.2.2.2.2.2.2.2.1,(x12.2.2.2.2.2.2.2.2.2.2.2.2.2.1,true))))))))))))))).set (Int.toNat p1) (x13.1,(x13.2.1,(x13.2.2.1,(x13.2.2.2.1,(x13.2.2.2.2.1,(x13.2.2.2.2.2.1,(x13.2.2.2.2.2.2.1,(x13.2.2.2.2.2.2.2.1,(x13.2.2.2.2.2.2.2.2.1,(x13.2.2.2.2.2.2.2.2.2.1,(x13.2.2.2.2.2.2.2.2.2.2.1,(x13.2.2.2.2.2.2.2.2.2.2.2.1,(x13.2.2.2.2.2.2.2.2.2.2.2.2.1,(([]:Zt4),x13.2.2.2.2.2.2.2.2.2.2.2.2.2.2))))))))))))))) p1).bind fun x21=>
 some (.inr (1,(l19,0,0,0,([]:List Int),l3,l4,l5,l6,(((l7.set (Int.toNat p1) (x12.1,(x12.2.1,(x12.2.2.1,(x12.2.2.2.1,(x12.2.2.2.2.1,(x12.2.2.2.2.2.1,(x12.2.2.2.2.2.2.1,(x12.2.2.2.2.2.2.2.1,(x12.2.2.2.2.2.2.2.2.1,(x12.2.2.2.2.2.2.2.2.2.1,(x12.2.2.2.2.2.2.2.2.2.2.1,(x12.2.2.2.2.2.2.2.2.2.2.2.1,(x12.2.2.2.2.2.2.2.2.2.2.2.2.1,(x12.2.2.2.2.2.2.2.2.2.2.2.2.2.1,true))))))))))))))).set (Int.toNat p1) (x13.1,(x13.2.1,(x13.2.2.1,(x13.2.2.2.1,(x13.2.2.2.2.1,(x13.2.2.2.2.2.1,(x13.2.2.2.2.2.2.1,(x13.2.2.2.2.2.2.2.1,(x13.2.2.2.2.2.2.2.2.1,(x13.2.2.2.2.2.2.2.2.2.1,(x13.2.2.2.2.2.2.2.2.2.2.1,(x13.2.2.2.2.2.2.2.2.2.2.2.1,(x13.2.2.2.2.2.2.2.2.2.2.2.2.1,(([]:Zt4),x13.2.2.2.2.2.2.2.2.2.2.2.2.2.2))))))))))))))).set (Int.toNat p1) (((IntKind.i64.wrap (x20.1.1+1)),x21.1.2),x21.2)),l8,l9,l10))))))))))))))))
 (fun p=>loopC (S:=Nat×List Int×Int×Int×Int×List Int×Zt8×List (Zt2×Int×Int)×Zt5×Zt7×Zt1×Zt3×Zt6×Zt3) (R:=Zt4×Zt8×List (Zt2×Int×Int)×Zt5×Zt7×Zt1×Zt3×Zt6×Zt3) (F_conn_Conn_Feed_G1 p1) p)
def F_conn_Conn_Feed_sig:Sig:=⟨[.v false [.d (.ptr 126)],.v false [.d (.sl (.int .u8))]],[(false,[.d (.sl Zp13)])],[(1000198,Zp18,true),(1000218,Zp11,true),(1000222,Zp14,true),(1000243,(.sl Zp15),true),(1000252,Zp9,true),(1000278,Zp16,true),(1000282,Zp12,true),(1000358,Zp19,true)]⟩
def F_conn_Conn_Feed_ann:List (Nat×Ann):=[(1,⟨2,[(1,false,[.d (.sl (.int .u8))])],[(5,[.d (.int .i64),.d (.int .i64),.d (.int .i64),.own 5 (.int .u8)])],(List.range' 4 90),[],[(1000198,Zp18,true),(1000218,Zp11,true),(1000222,Zp14,true),(1000243,(.sl Zp15),true),(1000252,Zp9,true),(1000278,Zp16,true),(1000282,Zp12,true),(1000358,Zp19,true)],[5]⟩)]
noncomputable def F_conn_Conn_Feed_env:Env:=⟨Tryz.prog,[(20,⟨F_frame_Parser_Feed_sig,⟨F_frame_Parser_Feed⟩⟩),(22,⟨F_frame_Parser_Next_sig,⟨F_frame_Parser_Next⟩⟩),(72,⟨F_conn_Conn_dies_sig,⟨F_conn_Conn_dies⟩⟩),(73,⟨F_conn_Conn_reads_sig,⟨F_conn_Conn_reads⟩⟩)],[]⟩
theorem F_conn_Conn_Feed_text:pvFn F_conn_Conn_Feed_env F_conn_Conn_Feed_ann Tryz.f26 F_conn_Conn_Feed_sig=F_conn_Conn_Feed:=by kernel_rfl
noncomputable def F_conn_Conn_Dead (p1:Int) (l2:Zt1):Option (Bool×Int):=
 chk (nnI p1)
 ((getI l2 p1).bind fun x3=>
 chk (nnI p1)
 ((getI l2 p1).bind fun x4=>
 some (x3.2.2.2.2.2.1,x4.2.2.2.2.2.2.1)))
def F_conn_Conn_Dead_sig:Sig:=⟨[.v false [.d (.ptr 126)]],[(false,[.d .bool]),(false,[.d (.int .i64)])],[(1000252,Zp9,false)]⟩
def F_conn_Conn_Dead_ann:List (Nat×Ann):=[]
noncomputable def F_conn_Conn_Dead_env:Env:=⟨Tryz.prog,[],[]⟩
theorem F_conn_Conn_Dead_text:pvFn F_conn_Conn_Dead_env F_conn_Conn_Dead_ann Tryz.f27 F_conn_Conn_Dead_sig=F_conn_Conn_Dead:=by kernel_rfl
noncomputable def F_conn_Conn_Take (p1:Int) (i2:Int) (l3:Zt1):Option (List Int×Zt1):=
 chk (nnI p1)
 ((getI l3 p1).bind fun x4=>
 chk (nnI p1)
 ((getI l3 p1).bind fun x5=>
 (cutI x5.2.2.2.2.1 0 (minI (maxI i2 0) (x4.2.2.2.2.1.length:Int))).bind fun l6=>
 (F_slices_Clone_byte_byte l6).bind fun l7=>
 chk (nnI p1)
 ((getI l3 p1).bind fun x8=>
 (cutI x8.2.2.2.2.1 (minI (maxI i2 0) (x4.2.2.2.2.1.length:Int)) (x8.2.2.2.2.1.length:Int)).bind fun l9=>
 (F_slices_Clone_byte_byte l9).bind fun l10=>
 chk (nnI p1)
 ((getI l3 p1).bind fun x11=>
 chk (true)
 (some (l7,(l3.set (Int.toNat p1) (x11.1,(x11.2.1,(x11.2.2.1,(x11.2.2.2.1,(l10,x11.2.2.2.2.2))))))))))))
def F_conn_Conn_Take_sig:Sig:=⟨[.v false [.d (.ptr 126)],.v false [.d (.int .i64)]],[(false,[.own 5 (.int .u8)])],[(1000252,Zp9,true)]⟩
def F_conn_Conn_Take_ann:List (Nat×Ann):=[]
noncomputable def F_conn_Conn_Take_env:Env:=⟨Tryz.prog,[(57,⟨F_slices_Clone_byte_byte_sig,⟨F_slices_Clone_byte_byte⟩⟩)],[]⟩
theorem F_conn_Conn_Take_text:pvFn F_conn_Conn_Take_env F_conn_Conn_Take_ann Tryz.f32 F_conn_Conn_Take_sig=F_conn_Conn_Take:=by kernel_rfl
noncomputable def F_wlvref10_num_L4 (i1:Int) (s:List Int×Int):Option (((List Int)⊕(List Int))⊕(List Int×Int)):=
 let l3:=s.1;let i4:=s.2
 cond (decide (i4 >= 0))
 (chk (decide (0<=(IntKind.u64.wrap (IntKind.i64.wrap (8*i4)))))
 (chk (decide ((l3.length+([(IntKind.u8.wrap (Int.fdiv i1 (2 ^ (min ((IntKind.u64.wrap (IntKind.i64.wrap (8*i4)))).toNat 64))))]:List Int).length)*1<=140737488355328)&&decide (l3.length+([(IntKind.u8.wrap (Int.fdiv i1 (2 ^ (min ((IntKind.u64.wrap (IntKind.i64.wrap (8*i4)))).toNat 64))))]:List Int).length<=maxLen))
 (some (.inr ((l3++([(IntKind.u8.wrap (Int.fdiv i1 (2 ^ (min ((IntKind.u64.wrap (IntKind.i64.wrap (8*i4)))).toNat 64))))]:List Int)),(IntKind.i64.wrap (i4 - 1)))))))
 (some (.inl (.inr l3)))
noncomputable def F_wlvref10_num_J2 (s:List Int):Option (List Int):=
 let l5:=s
 some l5
noncomputable def F_wlvref10_num (i1:Int) (i2:Int):Option (List Int):=
 joinC (S:=List Int) (R:=List Int)
 (loopC (S:=List Int×Int) (R:=(List Int)⊕(List Int)) (F_wlvref10_num_L4 i1) (([]:List Int),(IntKind.i64.wrap (i2 - 1))))
 (F_wlvref10_num_J2)
def F_wlvref10_num_sig:Sig:=⟨[.v false [.d (.int .i64)],.v false [.d (.int .i64)]],[(false,[.own 5 (.int .u8)])],[]⟩
def F_wlvref10_num_ann:List (Nat×Ann):=[(2,⟨3,[(5,false,[.own 5 (.int .u8)])],[],(List.range' 6 16),[],[],[]⟩),(4,⟨5,[(5,false,[.own 5 (.int .u8)]),(6,false,[.d (.int .i64)])],[],(List.range' 9 13),[],[],[]⟩)]
noncomputable def F_wlvref10_num_env:Env:=⟨Tryz.prog,[],[]⟩
theorem F_wlvref10_num_text:pvFn F_wlvref10_num_env F_wlvref10_num_ann Tryz.f119 F_wlvref10_num_sig=F_wlvref10_num:=by kernel_rfl
noncomputable def F_wlvref10_Put (i1:Int) (i2:Int) (i3:Int) (l4:List Int):Option (List Int×Int):=
 cond (decide (i1 < 0))
 (some (([]:List Int),1))
 (cond (decide (i1 > 255))
 (some (([]:List Int),1))
 (cond (decide (i2 < 0))
 (some (([]:List Int),1))
 (cond (decide (i2 > 255))
 (some (([]:List Int),1))
 (cond (decide (i3 < 0))
 (some (([]:List Int),1))
 (cond (decide (i3 > 2147483647))
 (some (([]:List Int),1))
 (cond (decide ((l4.length:Int) >= 16777216))
 (some (([]:List Int),3))
 ((F_wlvref10_num (l4.length:Int) 3).bind fun l5=>
 chk (decide ((l5.length+([(IntKind.u8.wrap i1),(IntKind.u8.wrap i2)]:List Int).length)*1<=140737488355328)&&decide (l5.length+([(IntKind.u8.wrap i1),(IntKind.u8.wrap i2)]:List Int).length<=maxLen))
 ((F_wlvref10_num i3 4).bind fun l6=>
 chk (decide (((l5++([(IntKind.u8.wrap i1),(IntKind.u8.wrap i2)]:List Int)).length+l6.length)*1<=140737488355328)&&decide ((l5++([(IntKind.u8.wrap i1),(IntKind.u8.wrap i2)]:List Int)).length+l6.length<=maxLen))
 (chk (decide ((((l5++([(IntKind.u8.wrap i1),(IntKind.u8.wrap i2)]:List Int))++l6).length+l4.length)*1<=140737488355328)&&decide (((l5++([(IntKind.u8.wrap i1),(IntKind.u8.wrap i2)]:List Int))++l6).length+l4.length<=maxLen))
 (some ((((l5++([(IntKind.u8.wrap i1),(IntKind.u8.wrap i2)]:List Int))++l6)++l4),0)))))))))))
def F_wlvref10_Put_sig:Sig:=⟨[.v true [.d (.int .i64),.d (.int .i64),.d (.int .i64),.d (.sl (.int .u8))]],[(false,[.own 5 (.int .u8)]),(false,[.d (.int .i64)])],[]⟩
def F_wlvref10_Put_ann:List (Nat×Ann):=[]
noncomputable def F_wlvref10_Put_env:Env:=⟨Tryz.prog,[(119,⟨F_wlvref10_num_sig,⟨F_wlvref10_num⟩⟩)],[]⟩
theorem F_wlvref10_Put_text:pvFn F_wlvref10_Put_env F_wlvref10_Put_ann Tryz.f67 F_wlvref10_Put_sig=F_wlvref10_Put:=by kernel_rfl
noncomputable def F_wlvref10_Settings_L6 (l1:List (Int×Int)) (s:Int×Int×Int×Int×List Int×Int×Int×Int×List Int):Option (((Int×Int×Int×List Int)⊕(Int×Int×Int×List Int×Int×Int×Int×List Int))⊕(Int×Int×Int×Int×List Int×Int×Int×Int×List Int)):=
 let i3:=s.1;let i4:=s.2.1;let i5:=s.2.2.1;let i6:=s.2.2.2.1;let l7:=s.2.2.2.2.1;let i9:=s.2.2.2.2.2.1;let i10:=s.2.2.2.2.2.2.1;let i11:=s.2.2.2.2.2.2.2.1;let l12:=s.2.2.2.2.2.2.2.2
 cond (decide (i3 < (l1.length:Int)))
 ((getI l1 i3).bind fun x13=>
 (F_wlvref10_num x13.1 2).bind fun l14=>
 chk (decide ((l12.length+l14.length)*1<=140737488355328)&&decide (l12.length+l14.length<=maxLen))
 ((getI l1 i3).bind fun x15=>
 (F_wlvref10_num x15.2 4).bind fun l16=>
 chk (decide (((l12++l14).length+l16.length)*1<=140737488355328)&&decide ((l12++l14).length+l16.length<=maxLen))
 (some (.inr ((IntKind.i64.wrap (i3+1)),i4,i5,i6,l7,i9,i10,i11,((l12++l14)++l16))))))
 (some (.inl (.inr (i4,i5,i6,l7,i9,i10,i11,l12))))
noncomputable def F_wlvref10_Settings_J4 (s:Int×Int×Int×List Int×Int×Int×Int×List Int):Option (Int×Int×Int×List Int):=
 let i17:=s.1;let i18:=s.2.1;let i19:=s.2.2.1;let l20:=s.2.2.2.1;let i21:=s.2.2.2.2.1;let i22:=s.2.2.2.2.2.1;let i23:=s.2.2.2.2.2.2.1;let l24:=s.2.2.2.2.2.2.2
 some (i21,i22,i23,l24)
noncomputable def F_wlvref10_Settings (l1:List (Int×Int)) (b2:Bool):Option (Int×Int×Int×List Int):=
 cond b2
 (joinC (S:=Int×Int×Int×List Int×Int×Int×Int×List Int) (R:=Int×Int×Int×List Int)
 (loopC (S:=Int×Int×Int×Int×List Int×Int×Int×Int×List Int) (R:=(Int×Int×Int×List Int)⊕(Int×Int×Int×List Int×Int×Int×Int×List Int)) (F_wlvref10_Settings_L6 l1) (0,0,0,0,([]:List Int),4,1,0,([]:List Int)))
 (F_wlvref10_Settings_J4))
 (joinC (S:=Int×Int×Int×List Int×Int×Int×Int×List Int) (R:=Int×Int×Int×List Int)
 (loopC (S:=Int×Int×Int×Int×List Int×Int×Int×Int×List Int) (R:=(Int×Int×Int×List Int)⊕(Int×Int×Int×List Int×Int×Int×Int×List Int)) (F_wlvref10_Settings_L6 l1) (0,0,0,0,([]:List Int),4,0,0,([]:List Int)))
 (F_wlvref10_Settings_J4))
def F_wlvref10_Settings_sig:Sig:=⟨[.v false [.d (.sl Zp10)],.v false [.d .bool]],[(true,[.d (.int .i64),.d (.int .i64),.d (.int .i64),.own 5 (.int .u8)])],[]⟩
def F_wlvref10_Settings_ann:List (Nat×Ann):=[(4,⟨5,[],[(4,[.d (.int .i64),.d (.int .i64),.d (.int .i64),.own 5 (.int .u8)]),(5,[.d (.int .i64),.d (.int .i64),.d (.int .i64),.own 5 (.int .u8)])],([6]++List.range' 10 23),[],[],[]⟩),(6,⟨7,[(6,false,[.d (.int .i64)])],[(4,[.d (.int .i64),.d (.int .i64),.d (.int .i64),.own 5 (.int .u8)]),(5,[.d (.int .i64),.d (.int .i64),.d (.int .i64),.own 5 (.int .u8)])],(List.range' 10 23),[],[],[]⟩)]
noncomputable def F_wlvref10_Settings_env:Env:=⟨Tryz.prog,[(119,⟨F_wlvref10_num_sig,⟨F_wlvref10_num⟩⟩)],[17]⟩
theorem F_wlvref10_Settings_text:pvFn F_wlvref10_Settings_env F_wlvref10_Settings_ann Tryz.f80 F_wlvref10_Settings_sig=F_wlvref10_Settings:=by kernel_rfl
noncomputable def F_wlvlaw23_hello:Option (List Int):=
 (F_wlvref10_Settings ([]:List (Int×Int)) false).bind fun x1=>
 (F_wlvref10_Put x1.1 x1.2.1 x1.2.2.1 x1.2.2.2).bind fun x2=>
 chk ((Nat.ble (List.length ([80,82,73,32,42,32,72,84,84,80,47,50,46,48,13,10,13,10,83,77,13,10,13,10]:List Int)) (List.length ([80,82,73,32,42,32,72,84,84,80,47,50,46,48,13,10,13,10,83,77,13,10,13,10]:List Int))&&true))
 (chk (Nat.blt 0 x2.1.length&&decide (((List.take (List.length ([80,82,73,32,42,32,72,84,84,80,47,50,46,48,13,10,13,10,83,77,13,10,13,10]:List Int)) ([80,82,73,32,42,32,72,84,84,80,47,50,46,48,13,10,13,10,83,77,13,10,13,10]:List Int)).length+x2.1.length)*1<=140737488355328)&&decide ((List.take (List.length ([80,82,73,32,42,32,72,84,84,80,47,50,46,48,13,10,13,10,83,77,13,10,13,10]:List Int)) ([80,82,73,32,42,32,72,84,84,80,47,50,46,48,13,10,13,10,83,77,13,10,13,10]:List Int)).length+x2.1.length<=maxLen))
 (some ((List.take (List.length ([80,82,73,32,42,32,72,84,84,80,47,50,46,48,13,10,13,10,83,77,13,10,13,10]:List Int)) ([80,82,73,32,42,32,72,84,84,80,47,50,46,48,13,10,13,10,83,77,13,10,13,10]:List Int))++x2.1)))
def F_wlvlaw23_hello_sig:Sig:=⟨[],[(false,[.own 5 (.int .u8)])],[]⟩
def F_wlvlaw23_hello_ann:List (Nat×Ann):=[]
noncomputable def F_wlvlaw23_hello_env:Env:=⟨Tryz.prog,[(67,⟨F_wlvref10_Put_sig,⟨F_wlvref10_Put⟩⟩),(80,⟨F_wlvref10_Settings_sig,⟨F_wlvref10_Settings⟩⟩)],[8]⟩
theorem F_wlvlaw23_hello_text:pvFn F_wlvlaw23_hello_env F_wlvlaw23_hello_ann Tryz.f33 F_wlvlaw23_hello_sig=F_wlvlaw23_hello:=by kernel_rfl
noncomputable def F_conn_Conn_Queue (p1:Int) (l2:Zt1):Option (Int):=
 chk (nnI p1)
 ((getI l2 p1).bind fun x3=>
 some (x3.2.2.2.2.1.length:Int))
def F_conn_Conn_Queue_sig:Sig:=⟨[.v false [.d (.ptr 126)]],[(false,[.d (.int .i64)])],[(1000252,Zp9,false)]⟩
def F_conn_Conn_Queue_ann:List (Nat×Ann):=[]
noncomputable def F_conn_Conn_Queue_env:Env:=⟨Tryz.prog,[],[]⟩
theorem F_conn_Conn_Queue_text:pvFn F_conn_Conn_Queue_env F_conn_Conn_Queue_ann Tryz.f34 F_conn_Conn_Queue_sig=F_conn_Conn_Queue:=by kernel_rfl
noncomputable def F_wlvlaw23_first (l1:Zt8) (l2:List (Zt2×Int×Int)) (l3:Zt5) (l4:Zt7) (l5:Zt1) (l6:Zt3) (l7:Zt6) (l8:Zt3):Option (Bool×Zt8×List (Zt2×Int×Int)×Zt5×Zt7×Zt1×Zt3×Zt6×Zt3):=
 (F_conn_New 3 1000 l1 l2 l3 l4 l5 l8).bind fun x9=>
 cond (eqI x9.1 (-1))
 (some (false,x9.2.1,x9.2.2.1,x9.2.2.2.1,x9.2.2.2.2.1,x9.2.2.2.2.2.1,l6,l7,x9.2.2.2.2.2.2))
 ((F_conn_Conn_Queue x9.1 x9.2.2.2.2.2.1).bind fun i10=>
 cond (i10 != 21)
 (some (false,x9.2.1,x9.2.2.1,x9.2.2.2.1,x9.2.2.2.2.1,x9.2.2.2.2.2.1,l6,l7,x9.2.2.2.2.2.2))
 ((F_conn_Conn_Take x9.1 100 x9.2.2.2.2.2.1).bind fun x11=>
 (F_wlvref10_Ping ([1,2]:List Int) false).bind fun x12=>
 (F_wlvref10_Put x12.1 x12.2.1 x12.2.2.1 x12.2.2.2).bind fun x13=>
 (F_wlvlaw23_hello).bind fun l14=>
 chk (decide ((l14.length+x13.1.length)*1<=140737488355328)&&decide (l14.length+x13.1.length<=maxLen))
 ((F_conn_Conn_Feed x9.1 (l14++x13.1) x9.2.1 x9.2.2.1 x9.2.2.2.1 x9.2.2.2.2.1 x11.2 l6 l7 x9.2.2.2.2.2.2).bind fun x15=>
 (F_conn_Conn_Take x9.1 100 x15.2.2.2.2.2.1).bind fun x16=>
 (F_conn_Conn_Dead x9.1 x16.2).bind fun x17=>
 cond ((((x15.1.length:Int)==0)&&(!x17.1))&&((x16.1.length:Int)==26))
 ((getI x16.1 3).bind fun i18=>
 cond (i18==4)
 ((getI x16.1 4).bind fun i19=>
 cond (i19==1)
 ((getI x16.1 12).bind fun i20=>
 cond (i20==6)
 ((getI x16.1 13).bind fun i21=>
 cond (i21==1)
 ((getI x16.1 18).bind fun i22=>
 cond (i22==1)
 ((getI x16.1 19).bind fun i23=>
 some ((i23==2),x15.2.1,x15.2.2.1,x15.2.2.2.1,x15.2.2.2.2.1,x16.2,x15.2.2.2.2.2.2.1,x15.2.2.2.2.2.2.2.1,x15.2.2.2.2.2.2.2.2))
 (some (false,x15.2.1,x15.2.2.1,x15.2.2.2.1,x15.2.2.2.2.1,x16.2,x15.2.2.2.2.2.2.1,x15.2.2.2.2.2.2.2.1,x15.2.2.2.2.2.2.2.2)))
 (some (false,x15.2.1,x15.2.2.1,x15.2.2.2.1,x15.2.2.2.2.1,x16.2,x15.2.2.2.2.2.2.1,x15.2.2.2.2.2.2.2.1,x15.2.2.2.2.2.2.2.2)))
 (some (false,x15.2.1,x15.2.2.1,x15.2.2.2.1,x15.2.2.2.2.1,x16.2,x15.2.2.2.2.2.2.1,x15.2.2.2.2.2.2.2.1,x15.2.2.2.2.2.2.2.2)))
 (some (false,x15.2.1,x15.2.2.1,x15.2.2.2.1,x15.2.2.2.2.1,x16.2,x15.2.2.2.2.2.2.1,x15.2.2.2.2.2.2.2.1,x15.2.2.2.2.2.2.2.2)))
 (some (false,x15.2.1,x15.2.2.1,x15.2.2.2.1,x15.2.2.2.2.1,x16.2,x15.2.2.2.2.2.2.1,x15.2.2.2.2.2.2.2.1,x15.2.2.2.2.2.2.2.2)))
 (some (false,x15.2.1,x15.2.2.1,x15.2.2.2.1,x15.2.2.2.2.1,x16.2,x15.2.2.2.2.2.2.1,x15.2.2.2.2.2.2.2.1,x15.2.2.2.2.2.2.2.2)))))
def F_wlvlaw23_first_sig:Sig:=⟨[],[(false,[.d .bool])],[(1000198,Zp18,true),(1000218,Zp11,true),(1000222,Zp14,true),(1000243,(.sl Zp15),true),(1000252,Zp9,true),(1000278,Zp16,true),(1000282,Zp12,true),(1000358,Zp19,true)]⟩
def F_wlvlaw23_first_ann:List (Nat×Ann):=[]
noncomputable def F_wlvlaw23_first_env:Env:=⟨Tryz.prog,[(25,⟨F_conn_New_sig,⟨F_conn_New⟩⟩),(26,⟨F_conn_Conn_Feed_sig,⟨F_conn_Conn_Feed⟩⟩),(27,⟨F_conn_Conn_Dead_sig,⟨F_conn_Conn_Dead⟩⟩),(32,⟨F_conn_Conn_Take_sig,⟨F_conn_Conn_Take⟩⟩),(33,⟨F_wlvlaw23_hello_sig,⟨F_wlvlaw23_hello⟩⟩),(34,⟨F_conn_Conn_Queue_sig,⟨F_conn_Conn_Queue⟩⟩),(36,⟨F_wlvref10_Ping_sig,⟨F_wlvref10_Ping⟩⟩),(67,⟨F_wlvref10_Put_sig,⟨F_wlvref10_Put⟩⟩)],[]⟩
theorem F_wlvlaw23_first_text:pvFn F_wlvlaw23_first_env F_wlvlaw23_first_ann Tryz.f24 F_wlvlaw23_first_sig=F_wlvlaw23_first:=by kernel_rfl
noncomputable def F_wlvlaw23_framed (i1:Int) (i2:Int) (i3:Int) (l4:List Int):Option (List Int):=
 (F_wlvref10_Put i1 i2 i3 l4).bind fun x5=>
 some x5.1
def F_wlvlaw23_framed_sig:Sig:=⟨[.v true [.d (.int .i64),.d (.int .i64),.d (.int .i64),.d (.sl (.int .u8))]],[(false,[.own 5 (.int .u8)])],[]⟩
def F_wlvlaw23_framed_ann:List (Nat×Ann):=[]
noncomputable def F_wlvlaw23_framed_env:Env:=⟨Tryz.prog,[(67,⟨F_wlvref10_Put_sig,⟨F_wlvref10_Put⟩⟩)],[]⟩
theorem F_wlvlaw23_framed_text:pvFn F_wlvlaw23_framed_env F_wlvlaw23_framed_ann Tryz.f35 F_wlvlaw23_framed_sig=F_wlvlaw23_framed:=by kernel_rfl
noncomputable def F_wlvref_Bytes (l1:List Int) (l2:List Int):Option (Bool):=
 some (l1==l2)
def F_wlvref_Bytes_sig:Sig:=⟨[.v false [.d (.sl (.int .u8))],.v false [.d (.sl (.int .u8))]],[(false,[.d .bool])],[]⟩
def F_wlvref_Bytes_ann:List (Nat×Ann):=[]
noncomputable def F_wlvref_Bytes_env:Env:=⟨Tryz.prog,[],[]⟩
theorem F_wlvref_Bytes_text:pvFn F_wlvref_Bytes_env F_wlvref_Bytes_ann Tryz.f31 F_wlvref_Bytes_sig=F_wlvref_Bytes:=by kernel_rfl
noncomputable def F_wlvref4_Same_L6 (l1:Zt2) (l2:Zt2) (s:Int):Option (((Bool)⊕(Unit))⊕(Int)):=
 let i3:=s
 cond (decide (i3 < (l1.length:Int)))
 ((getI l1 i3).bind fun x4=>
 (getI l2 i3).bind fun x5=>
 cond (!(x4.1==x5.1))
 (some (.inl (.inl false)))
 ((getI l1 i3).bind fun x6=>
 (getI l2 i3).bind fun x7=>
 cond (!(x6.2.1==x7.2.1))
 (some (.inl (.inl false)))
 (some (.inr (IntKind.i64.wrap (i3+1))))))
 (some (.inl (.inr ())))
noncomputable def F_wlvref4_Same_J4 (s:Unit):Option (Bool):=
 some true
noncomputable def F_wlvref4_Same (l1:Zt2) (l2:Zt2):Option (Bool):=
 cond ((l1.length:Int) != (l2.length:Int))
 (some false)
 (joinC (S:=Unit) (R:=Bool)
 (loopC (S:=Int) (R:=(Bool)⊕(Unit)) (F_wlvref4_Same_L6 l1 l2) 0)
 (F_wlvref4_Same_J4))
def F_wlvref4_Same_sig:Sig:=⟨[.v false [.d (.sl Zp17)],.v false [.d (.sl Zp17)]],[(false,[.d .bool])],[]⟩
def F_wlvref4_Same_ann:List (Nat×Ann):=[(4,⟨5,[],[],([4,5]++List.range' 11 30),[],[],[]⟩),(6,⟨7,[(5,false,[.d (.int .i64)])],[],([4]++List.range' 11 30),[],[],[]⟩)]
noncomputable def F_wlvref4_Same_env:Env:=⟨Tryz.prog,[],[]⟩
theorem F_wlvref4_Same_text:pvFn F_wlvref4_Same_env F_wlvref4_Same_ann Tryz.f74 F_wlvref4_Same_sig=F_wlvref4_Same:=by kernel_rfl
noncomputable def F_wlvref23_SameEvents_L6 (l1:Zt4) (l2:Zt4) (s:Int):Option (((Bool)⊕(Unit))⊕(Int)):=
 let i3:=s
 cond (decide (i3 < (l1.length:Int)))
 ((getI l1 i3).bind fun x4=>
 (getI l2 i3).bind fun x5=>
 cond (x4.1 != x5.1)
 (some (.inl (.inl false)))
 (cond (x4.2.1 != x5.2.1)
 (some (.inl (.inl false)))
 (cond (x4.2.2.1 != x5.2.2.1)
 (some (.inl (.inl false)))
 (cond (!(bEq x4.2.2.2.2.2.1 x5.2.2.2.2.2.1))
 (some (.inl (.inl false)))
 (cond (!(bEq x4.2.2.2.2.2.2.1 x5.2.2.2.2.2.2.1))
 (some (.inl (.inl false)))
 (cond (!(bEq x4.2.2.2.2.2.2.2 x5.2.2.2.2.2.2.2))
 (some (.inl (.inl false)))
 ((F_wlvref_Bytes x4.2.2.2.2.1 x5.2.2.2.2.1).bind fun b6=>
 cond (!b6)
 (some (.inl (.inl false)))
 ((F_wlvref4_Same x4.2.2.2.1 x5.2.2.2.1).bind fun b7=>
 cond (!b7)
 (some (.inl (.inl false)))
 (some (.inr (IntKind.i64.wrap (i3+1))))))))))))
 (some (.inl (.inr ())))
noncomputable def F_wlvref23_SameEvents_J4 (s:Unit):Option (Bool):=
 some true
noncomputable def F_wlvref23_SameEvents (l1:Zt4) (l2:Zt4):Option (Bool):=
 cond ((l1.length:Int) != (l2.length:Int))
 (some false)
 (joinC (S:=Unit) (R:=Bool)
 (loopC (S:=Int) (R:=(Bool)⊕(Unit)) (F_wlvref23_SameEvents_L6 l1 l2) 0)
 (F_wlvref23_SameEvents_J4))
def F_wlvref23_SameEvents_sig:Sig:=⟨[.v false [.d (.sl Zp13)],.v false [.d (.sl Zp13)]],[(false,[.d .bool])],[]⟩
def F_wlvref23_SameEvents_ann:List (Nat×Ann):=[(4,⟨5,[],[],([4,5,6,7]++List.range' 13 70),[],[],[]⟩),(6,⟨7,[(5,false,[.d (.int .i64)])],[],([4,6,7]++List.range' 13 70),[],[],[]⟩)]
noncomputable def F_wlvref23_SameEvents_env:Env:=⟨Tryz.prog,[(31,⟨F_wlvref_Bytes_sig,⟨F_wlvref_Bytes⟩⟩),(74,⟨F_wlvref4_Same_sig,⟨F_wlvref4_Same⟩⟩)],[]⟩
theorem F_wlvref23_SameEvents_text:pvFn F_wlvref23_SameEvents_env F_wlvref23_SameEvents_ann Tryz.f28 F_wlvref23_SameEvents_sig=F_wlvref23_SameEvents:=by kernel_rfl
noncomputable def F_wlvref4_Put_L12 (s:Int×List Int):Option (((List Int×Int)⊕(Int×List Int))⊕(Int×List Int)):=
 let i4:=s.1;let l5:=s.2
 cond (decide (i4 >= 128))
 (chk (decide ((l5.length+([(IntKind.u8.wrap (bits .or .i64 (bits .and .i64 i4 127) 128))]:List Int).length)*1<=140737488355328)&&decide (l5.length+([(IntKind.u8.wrap (bits .or .i64 (bits .and .i64 i4 127) 128))]:List Int).length<=maxLen))
 (some (.inr ((Int.fdiv i4 (2 ^ 7)),(l5++([(IntKind.u8.wrap (bits .or .i64 (bits .and .i64 i4 127) 128))]:List Int))))))
 (some (.inl (.inr (i4,l5))))
noncomputable def F_wlvref4_Put_J11 (s:Int×List Int):Option (List Int×Int):=
 let i6:=s.1;let l7:=s.2
 chk (decide ((l7.length+([(IntKind.u8.wrap i6)]:List Int).length)*1<=140737488355328)&&decide (l7.length+([(IntKind.u8.wrap i6)]:List Int).length<=maxLen))
 (some ((l7++([(IntKind.u8.wrap i6)]:List Int)),0))
noncomputable def F_wlvref4_Put (i1:Int) (i2:Int) (i3:Int):Option (List Int×Int):=
 cond ((((decide (i2 < 1))||(decide (i2 > 8)))||(decide (i3 < 0)))||(decide (i3 > 2147483647)))
 (some (([]:List Int),1))
 (chk (decide (0<=(IntKind.u64.wrap i2)))
 (cond (decide (i3 < (IntKind.i64.wrap ((IntKind.i64.wrap (1*2 ^ (min ((IntKind.u64.wrap i2)).toNat 64))) - 1))))
 (some (([(bits .or .u8 (bits .andNot .u8 i1 (IntKind.u8.wrap (IntKind.i64.wrap ((IntKind.i64.wrap (1*2 ^ (min ((IntKind.u64.wrap i2)).toNat 64))) - 1)))) (IntKind.u8.wrap i3))]:List Int),0))
 (joinC (S:=Int×List Int) (R:=List Int×Int)
 (loopC (S:=Int×List Int) (R:=(List Int×Int)⊕(Int×List Int)) (F_wlvref4_Put_L12) ((IntKind.i64.wrap (i3 - (IntKind.i64.wrap ((IntKind.i64.wrap (1*2 ^ (min ((IntKind.u64.wrap i2)).toNat 64))) - 1)))),([(bits .or .u8 (bits .andNot .u8 i1 (IntKind.u8.wrap (IntKind.i64.wrap ((IntKind.i64.wrap (1*2 ^ (min ((IntKind.u64.wrap i2)).toNat 64))) - 1)))) (IntKind.u8.wrap (IntKind.i64.wrap ((IntKind.i64.wrap (1*2 ^ (min ((IntKind.u64.wrap i2)).toNat 64))) - 1))))]:List Int)))
 (F_wlvref4_Put_J11))))
def F_wlvref4_Put_sig:Sig:=⟨[.v false [.d (.int .u8)],.v false [.d (.int .i64)],.v false [.d (.int .i64)]],[(false,[.own 5 (.int .u8)]),(false,[.d (.int .i64)])],[]⟩
def F_wlvref4_Put_ann:List (Nat×Ann):=[(11,⟨12,[(2,false,[.d (.int .i64)]),(10,false,[.own 5 (.int .u8)])],[],(List.range' 49 11),[],[],[]⟩),(12,⟨13,[(2,false,[.d (.int .i64)]),(10,false,[.own 5 (.int .u8)])],[],(List.range' 49 11),[],[],[]⟩)]
noncomputable def F_wlvref4_Put_env:Env:=⟨Tryz.prog,[],[]⟩
theorem F_wlvref4_Put_text:pvFn F_wlvref4_Put_env F_wlvref4_Put_ann Tryz.f37 F_wlvref4_Put_sig=F_wlvref4_Put:=by kernel_rfl
noncomputable def F_wlvlaw23_ConnBlocks_L15 (i1:Int) (x15:List Int×Int) (s:Int×List Int×Zt8×List (Zt2×Int×Int)×Zt5×Zt7×Zt1×Zt3×Zt6×Zt3):Option (((Bool×Zt8×List (Zt2×Int×Int)×Zt5×Zt7×Zt1×Zt3×Zt6×Zt3)⊕(List Int×Zt8×List (Zt2×Int×Int)×Zt5×Zt7×Zt1×Zt3×Zt6×Zt3))⊕(Int×List Int×Zt8×List (Zt2×Int×Int)×Zt5×Zt7×Zt1×Zt3×Zt6×Zt3)):=
 let i17:=s.1;let l18:=s.2.1;let l19:=s.2.2.1;let l20:=s.2.2.2.1;let l21:=s.2.2.2.2.1;let l22:=s.2.2.2.2.2.1;let l23:=s.2.2.2.2.2.2.1;let l24:=s.2.2.2.2.2.2.2.1;let l25:=s.2.2.2.2.2.2.2.2.1;let l26:=s.2.2.2.2.2.2.2.2.2
 cond (decide (i17 < ((List.length ((List.take (List.length ([130,0,1,120]:List Int)) ([130,0,1,120]:List Int))++x15.1)+(Int.toNat i1)):Int)))
 (chk (decide (0<=i17)&&decide (i17 < ((List.length ((List.take (List.length ([130,0,1,120]:List Int)) ([130,0,1,120]:List Int))++x15.1)+(Int.toNat i1)):Int)))
 (chk (decide (i17 < (l18.length:Int)))
 (some (.inr ((IntKind.i64.wrap (i17+1)),(l18.set (i17).toNat 118),l19,l20,l21,l22,l23,l24,l25,l26)))))
 (Option.map Sum.inl
 (chk ((Nat.ble (List.length ((List.take (List.length ([130,0,1,120]:List Int)) ([130,0,1,120]:List Int))++x15.1)+(Int.toNat i1)) (List.length l18)&&true))
 (some (.inr ((List.take (List.length ((List.take (List.length ([130,0,1,120]:List Int)) ([130,0,1,120]:List Int))++x15.1)+(Int.toNat i1)) l18),l19,l20,l21,l22,l23,l24,l25,l26)))))
noncomputable def F_wlvlaw23_ConnBlocks_L26 (l2:List Int) (x14:Int×Zt8×List (Zt2×Int×Int)×Zt5×Zt7×Zt1×Zt3) (l27:List Int) (s:Zt4×Int×Int×Int×Zt8×List (Zt2×Int×Int)×Zt5×Zt7×Zt1×Zt3×Zt6×Zt3):Option (((Bool×Zt8×List (Zt2×Int×Int)×Zt5×Zt7×Zt1×Zt3×Zt6×Zt3)⊕(Zt4×Int×Int×Zt8×List (Zt2×Int×Int)×Zt5×Zt7×Zt1×Zt3×Zt6×Zt3))⊕(Zt4×Int×Int×Int×Zt8×List (Zt2×Int×Int)×Zt5×Zt7×Zt1×Zt3×Zt6×Zt3)):=
 let l42:=s.1;let i43:=s.2.1;let i44:=s.2.2.1;let i45:=s.2.2.2.1;let l46:=s.2.2.2.2.1;let l47:=s.2.2.2.2.2.1;let l48:=s.2.2.2.2.2.2.1;let l49:=s.2.2.2.2.2.2.2.1;let l50:=s.2.2.2.2.2.2.2.2.1;let l51:=s.2.2.2.2.2.2.2.2.2.1;let l52:=s.2.2.2.2.2.2.2.2.2.2.1;let l53:=s.2.2.2.2.2.2.2.2.2.2.2
 cond (decide (i45 < (l2.length:Int)))
 ((getI l2 i45).bind fun i54=>
 cond (decide (i54 < 0))
 ((F_wlvlaw23_first l46 l47 l48 l49 l50 l51 l52 l53).bind fun x55=>
 some (.inl (.inl (x55.1,x55.2.1,x55.2.2.1,x55.2.2.2.1,x55.2.2.2.2.1,x55.2.2.2.2.2.1,x55.2.2.2.2.2.2.1,x55.2.2.2.2.2.2.2.1,x55.2.2.2.2.2.2.2.2))))
 ((getI l2 i45).bind fun i56=>
 cond (decide (i56 > 2000))
 ((F_wlvlaw23_first l46 l47 l48 l49 l50 l51 l52 l53).bind fun x57=>
 some (.inl (.inl (x57.1,x57.2.1,x57.2.2.1,x57.2.2.2.1,x57.2.2.2.2.1,x57.2.2.2.2.2.1,x57.2.2.2.2.2.2.1,x57.2.2.2.2.2.2.2.1,x57.2.2.2.2.2.2.2.2))))
 ((getI l2 i45).bind fun i58=>
 (cutI l27 i43 (IntKind.i64.wrap (i43+(minI i58 (IntKind.i64.wrap ((l27.length:Int) - i43)))))).bind fun l59=>
 (F_wlvlaw23_framed i44 0 1 l59).bind fun l60=>
 (F_conn_Conn_Feed x14.1 l60 l46 l47 l48 l49 l50 l51 l52 l53).bind fun x61=>
 chk (decide ((l42.length+x61.1.length)*80<=140737488355328)&&decide (l42.length+x61.1.length<=maxLen))
 (some (.inr ((l42++x61.1),(IntKind.i64.wrap (i43+(minI i58 (IntKind.i64.wrap ((l27.length:Int) - i43))))),9,(IntKind.i64.wrap (i45+1)),x61.2.1,x61.2.2.1,x61.2.2.2.1,x61.2.2.2.2.1,x61.2.2.2.2.2.1,x61.2.2.2.2.2.2.1,x61.2.2.2.2.2.2.2.1,x61.2.2.2.2.2.2.2.2))))))
 (some (.inl (.inr (l42,i43,i44,l46,l47,l48,l49,l50,l51,l52,l53))))
noncomputable def F_wlvlaw23_ConnBlocks_J24 (l2:List Int) (x13:Int×Zt8×List (Zt2×Int×Int)×Zt5×Zt7×Zt1×Zt3) (x14:Int×Zt8×List (Zt2×Int×Int)×Zt5×Zt7×Zt1×Zt3) (l27:List Int) (x41:Zt4×Zt8×List (Zt2×Int×Int)×Zt5×Zt7×Zt1×Zt3×Zt6×Zt3) (s:Zt4×Int×Int×Zt8×List (Zt2×Int×Int)×Zt5×Zt7×Zt1×Zt3×Zt6×Zt3):Option (Bool×Zt8×List (Zt2×Int×Int)×Zt5×Zt7×Zt1×Zt3×Zt6×Zt3):=
 let l62:=s.1;let i63:=s.2.1;let i65:=s.2.2.1;let l66:=s.2.2.2.1;let l67:=s.2.2.2.2.1;let l68:=s.2.2.2.2.2.1;let l69:=s.2.2.2.2.2.2.1;let l70:=s.2.2.2.2.2.2.2.1;let l71:=s.2.2.2.2.2.2.2.2.1;let l72:=s.2.2.2.2.2.2.2.2.2.1;let l73:=s.2.2.2.2.2.2.2.2.2.2
 cond ((l62.length:Int) != 0)
 (some (false,l66,l67,l68,l69,l70,l71,l72,l73))
 (cond (decide ((l2.length:Int) > 0))
 ((F_conn_Conn_State x14.1 1 l69 l70 l71).bind fun i74=>
 cond (i74==1)
 (some (false,l66,l67,l68,l69,l70,l71,l72,l73))
 ((cutI l27 i63 (l27.length:Int)).bind fun l75=>
 (F_wlvlaw23_framed i65 4 1 l75).bind fun l76=>
 (F_conn_Conn_Feed x14.1 l76 l66 l67 l68 l69 l70 l71 l72 l73).bind fun x77=>
 (F_wlvlaw23_first x77.2.1 x77.2.2.1 x77.2.2.2.1 x77.2.2.2.2.1 x77.2.2.2.2.2.1 x77.2.2.2.2.2.2.1 x77.2.2.2.2.2.2.2.1 x77.2.2.2.2.2.2.2.2).bind fun x78=>
 cond (x78.1&&((x41.1.length:Int)==1))
 ((F_wlvref23_SameEvents x41.1 x77.1).bind fun b79=>
 cond b79
 ((getI x41.1 0).bind fun x80=>
 (getI x41.1 0).bind fun x81=>
 cond (bEq ((x80.2.2.2.1.length:Int)==2) (!x81.2.2.2.2.2.1))
 ((F_conn_Conn_State x13.1 1 x78.2.2.2.2.1 x78.2.2.2.2.2.1 x78.2.2.2.2.2.2.1).bind fun i82=>
 cond (i82==1)
 ((F_conn_Conn_State x14.1 1 x78.2.2.2.2.1 x78.2.2.2.2.2.1 x78.2.2.2.2.2.2.1).bind fun i83=>
 some ((i83==1),x78.2.1,x78.2.2.1,x78.2.2.2.1,x78.2.2.2.2.1,x78.2.2.2.2.2.1,x78.2.2.2.2.2.2.1,x78.2.2.2.2.2.2.2.1,x78.2.2.2.2.2.2.2.2))
 (some (false,x78.2.1,x78.2.2.1,x78.2.2.2.1,x78.2.2.2.2.1,x78.2.2.2.2.2.1,x78.2.2.2.2.2.2.1,x78.2.2.2.2.2.2.2.1,x78.2.2.2.2.2.2.2.2)))
 (some (false,x78.2.1,x78.2.2.1,x78.2.2.2.1,x78.2.2.2.2.1,x78.2.2.2.2.2.1,x78.2.2.2.2.2.2.1,x78.2.2.2.2.2.2.2.1,x78.2.2.2.2.2.2.2.2)))
 (some (false,x78.2.1,x78.2.2.1,x78.2.2.2.1,x78.2.2.2.2.1,x78.2.2.2.2.2.1,x78.2.2.2.2.2.2.1,x78.2.2.2.2.2.2.2.1,x78.2.2.2.2.2.2.2.2)))
 (some (false,x78.2.1,x78.2.2.1,x78.2.2.2.1,x78.2.2.2.2.1,x78.2.2.2.2.2.1,x78.2.2.2.2.2.2.1,x78.2.2.2.2.2.2.2.1,x78.2.2.2.2.2.2.2.2))))
 ((cutI l27 i63 (l27.length:Int)).bind fun l84=>
 (F_wlvlaw23_framed i65 4 1 l84).bind fun l85=>
 (F_conn_Conn_Feed x14.1 l85 l66 l67 l68 l69 l70 l71 l72 l73).bind fun x86=>
 (F_wlvlaw23_first x86.2.1 x86.2.2.1 x86.2.2.2.1 x86.2.2.2.2.1 x86.2.2.2.2.2.1 x86.2.2.2.2.2.2.1 x86.2.2.2.2.2.2.2.1 x86.2.2.2.2.2.2.2.2).bind fun x87=>
 cond (x87.1&&((x41.1.length:Int)==1))
 ((F_wlvref23_SameEvents x41.1 x86.1).bind fun b88=>
 cond b88
 ((getI x41.1 0).bind fun x89=>
 (getI x41.1 0).bind fun x90=>
 cond (bEq ((x89.2.2.2.1.length:Int)==2) (!x90.2.2.2.2.2.1))
 ((F_conn_Conn_State x13.1 1 x87.2.2.2.2.1 x87.2.2.2.2.2.1 x87.2.2.2.2.2.2.1).bind fun i91=>
 cond (i91==1)
 ((F_conn_Conn_State x14.1 1 x87.2.2.2.2.1 x87.2.2.2.2.2.1 x87.2.2.2.2.2.2.1).bind fun i92=>
 some ((i92==1),x87.2.1,x87.2.2.1,x87.2.2.2.1,x87.2.2.2.2.1,x87.2.2.2.2.2.1,x87.2.2.2.2.2.2.1,x87.2.2.2.2.2.2.2.1,x87.2.2.2.2.2.2.2.2))
 (some (false,x87.2.1,x87.2.2.1,x87.2.2.2.1,x87.2.2.2.2.1,x87.2.2.2.2.2.1,x87.2.2.2.2.2.2.1,x87.2.2.2.2.2.2.2.1,x87.2.2.2.2.2.2.2.2)))
 (some (false,x87.2.1,x87.2.2.1,x87.2.2.2.1,x87.2.2.2.2.1,x87.2.2.2.2.2.1,x87.2.2.2.2.2.2.1,x87.2.2.2.2.2.2.2.1,x87.2.2.2.2.2.2.2.2)))
 (some (false,x87.2.1,x87.2.2.1,x87.2.2.2.1,x87.2.2.2.2.1,x87.2.2.2.2.2.1,x87.2.2.2.2.2.2.1,x87.2.2.2.2.2.2.2.1,x87.2.2.2.2.2.2.2.2)))
 (some (false,x87.2.1,x87.2.2.1,x87.2.2.2.1,x87.2.2.2.2.1,x87.2.2.2.2.2.1,x87.2.2.2.2.2.2.1,x87.2.2.2.2.2.2.2.1,x87.2.2.2.2.2.2.2.2))))
noncomputable def F_wlvlaw23_ConnBlocks_J13 (l2:List Int) (x13:Int×Zt8×List (Zt2×Int×Int)×Zt5×Zt7×Zt1×Zt3) (x14:Int×Zt8×List (Zt2×Int×Int)×Zt5×Zt7×Zt1×Zt3) (s:List Int×Zt8×List (Zt2×Int×Int)×Zt5×Zt7×Zt1×Zt3×Zt6×Zt3):Option (Bool×Zt8×List (Zt2×Int×Int)×Zt5×Zt7×Zt1×Zt3×Zt6×Zt3):=
 let l27:=s.1;let l28:=s.2.1;let l29:=s.2.2.1;let l30:=s.2.2.2.1;let l31:=s.2.2.2.2.1;let l32:=s.2.2.2.2.2.1;let l33:=s.2.2.2.2.2.2.1;let l34:=s.2.2.2.2.2.2.2.1;let l35:=s.2.2.2.2.2.2.2.2
 (F_wlvlaw23_hello).bind fun l36=>
 (F_conn_Conn_Feed x13.1 l36 l28 l29 l30 l31 l32 l33 l34 l35).bind fun x37=>
 (F_wlvlaw23_hello).bind fun l38=>
 (F_conn_Conn_Feed x14.1 l38 x37.2.1 x37.2.2.1 x37.2.2.2.1 x37.2.2.2.2.1 x37.2.2.2.2.2.1 x37.2.2.2.2.2.2.1 x37.2.2.2.2.2.2.2.1 x37.2.2.2.2.2.2.2.2).bind fun x39=>
 (F_wlvlaw23_framed 1 4 1 l27).bind fun l40=>
 (F_conn_Conn_Feed x13.1 l40 x39.2.1 x39.2.2.1 x39.2.2.2.1 x39.2.2.2.2.1 x39.2.2.2.2.2.1 x39.2.2.2.2.2.2.1 x39.2.2.2.2.2.2.2.1 x39.2.2.2.2.2.2.2.2).bind fun x41=>
 joinC (S:=Zt4×Int×Int×Zt8×List (Zt2×Int×Int)×Zt5×Zt7×Zt1×Zt3×Zt6×Zt3) (R:=Bool×Zt8×List (Zt2×Int×Int)×Zt5×Zt7×Zt1×Zt3×Zt6×Zt3)
 (loopC (S:=Zt4×Int×Int×Int×Zt8×List (Zt2×Int×Int)×Zt5×Zt7×Zt1×Zt3×Zt6×Zt3) (R:=(Bool×Zt8×List (Zt2×Int×Int)×Zt5×Zt7×Zt1×Zt3×Zt6×Zt3)⊕(Zt4×Int×Int×Zt8×List (Zt2×Int×Int)×Zt5×Zt7×Zt1×Zt3×Zt6×Zt3)) (F_wlvlaw23_ConnBlocks_L26 l2 x14 l27) (([]:Zt4),0,1,0,x41.2.1,x41.2.2.1,x41.2.2.2.1,x41.2.2.2.2.1,x41.2.2.2.2.2.1,x41.2.2.2.2.2.2.1,x41.2.2.2.2.2.2.2.1,x41.2.2.2.2.2.2.2.2))
 (F_wlvlaw23_ConnBlocks_J24 l2 x13 x14 l27 x41)
noncomputable def F_wlvlaw23_ConnBlocks (i1:Int) (l2:List Int) (l3:Zt8) (l4:List (Zt2×Int×Int)) (l5:Zt5) (l6:Zt7) (l7:Zt1) (l8:Zt3) (l9:Zt6) (l10:Zt3):Option (Bool×Zt8×List (Zt2×Int×Int)×Zt5×Zt7×Zt1×Zt3×Zt6×Zt3):=
 (F_wlvlaw23_first l3 l4 l5 l6 l7 l8 l9 l10).bind fun x11=>
 cond (!x11.1)
 (some (false,x11.2.1,x11.2.2.1,x11.2.2.2.1,x11.2.2.2.2.1,x11.2.2.2.2.2.1,x11.2.2.2.2.2.2.1,x11.2.2.2.2.2.2.2.1,x11.2.2.2.2.2.2.2.2))
 (cond (((decide (i1 < 0))||(decide (i1 > 16000)))||(decide ((l2.length:Int) > 40)))
 ((F_wlvlaw23_first x11.2.1 x11.2.2.1 x11.2.2.2.1 x11.2.2.2.2.1 x11.2.2.2.2.2.1 x11.2.2.2.2.2.2.1 x11.2.2.2.2.2.2.2.1 x11.2.2.2.2.2.2.2.2).bind fun x12=>
 some (x12.1,x12.2.1,x12.2.2.1,x12.2.2.2.1,x12.2.2.2.2.1,x12.2.2.2.2.2.1,x12.2.2.2.2.2.2.1,x12.2.2.2.2.2.2.2.1,x12.2.2.2.2.2.2.2.2))
 ((F_conn_New 10 16384 x11.2.1 x11.2.2.1 x11.2.2.2.1 x11.2.2.2.2.1 x11.2.2.2.2.2.1 x11.2.2.2.2.2.2.2.2).bind fun x13=>
 (F_conn_New 10 16384 x13.2.1 x13.2.2.1 x13.2.2.2.1 x13.2.2.2.2.1 x13.2.2.2.2.2.1 x13.2.2.2.2.2.2).bind fun x14=>
 cond ((eqI x13.1 (-1))||(eqI x14.1 (-1)))
 (some (false,x14.2.1,x14.2.2.1,x14.2.2.2.1,x14.2.2.2.2.1,x14.2.2.2.2.2.1,x11.2.2.2.2.2.2.1,x11.2.2.2.2.2.2.2.1,x14.2.2.2.2.2.2))
 ((F_wlvref4_Put 0 7 i1).bind fun x15=>
 chk ((Nat.ble (List.length ([130,0,1,120]:List Int)) (List.length ([130,0,1,120]:List Int))&&true))
 (chk (Nat.blt 0 x15.1.length&&decide (((List.take (List.length ([130,0,1,120]:List Int)) ([130,0,1,120]:List Int)).length+x15.1.length)*1<=140737488355328)&&decide ((List.take (List.length ([130,0,1,120]:List Int)) ([130,0,1,120]:List Int)).length+x15.1.length<=maxLen))
 (chk (Nat.blt 0 (List.length ((List.take (List.length ([130,0,1,120]:List Int)) ([130,0,1,120]:List Int))++x15.1)))
 (chk (decide (0<=i1)&&decide ((List.length ((List.take (List.length ([130,0,1,120]:List Int)) ([130,0,1,120]:List Int))++x15.1)+(Int.toNat i1))*1<=140737488355328)&&decide ((List.length ((List.take (List.length ([130,0,1,120]:List Int)) ([130,0,1,120]:List Int))++x15.1)+(Int.toNat i1))<=1000000000000))
 (joinC (S:=List Int×Zt8×List (Zt2×Int×Int)×Zt5×Zt7×Zt1×Zt3×Zt6×Zt3) (R:=Bool×Zt8×List (Zt2×Int×Int)×Zt5×Zt7×Zt1×Zt3×Zt6×Zt3)
 (loopC (S:=Int×List Int×Zt8×List (Zt2×Int×Int)×Zt5×Zt7×Zt1×Zt3×Zt6×Zt3) (R:=(Bool×Zt8×List (Zt2×Int×Int)×Zt5×Zt7×Zt1×Zt3×Zt6×Zt3)⊕(List Int×Zt8×List (Zt2×Int×Int)×Zt5×Zt7×Zt1×Zt3×Zt6×Zt3)) (F_wlvlaw23_ConnBlocks_L15 i1 x15) ((IntKind.i64.wrap (((List.length ((List.take (List.length ([130,0,1,120]:List Int)) ([130,0,1,120]:List Int))++x15.1)+(Int.toNat i1)):Int) - i1)),(((List.take (List.length ([130,0,1,120]:List Int)) ([130,0,1,120]:List Int))++x15.1)++(List.replicate (Int.toNat i1) (0:Int))),x14.2.1,x14.2.2.1,x14.2.2.2.1,x14.2.2.2.2.1,x14.2.2.2.2.2.1,x11.2.2.2.2.2.2.1,x11.2.2.2.2.2.2.2.1,x14.2.2.2.2.2.2))
 (F_wlvlaw23_ConnBlocks_J13 l2 x13 x14))))))))
def F_wlvlaw23_ConnBlocks_sig:Sig:=⟨[.v false [.d (.int .i64)],.v false [.d (.sl (.int .i64))]],[(false,[.d .bool])],[(1000198,Zp18,true),(1000218,Zp11,true),(1000222,Zp14,true),(1000243,(.sl Zp15),true),(1000252,Zp9,true),(1000278,Zp16,true),(1000282,Zp12,true),(1000358,Zp19,true)]⟩
def F_wlvlaw23_ConnBlocks_ann:List (Nat×Ann):=[(13,⟨14,[(9,false,[.d (.sl (.int .u8))])],[],([10]++List.range' 49 13),[],[(1000198,Zp18,true),(1000218,Zp11,true),(1000222,Zp14,true),(1000243,(.sl Zp15),true),(1000252,Zp9,true),(1000278,Zp16,true),(1000282,Zp12,true),(1000358,Zp19,true)],[]⟩),(15,⟨16,[(10,false,[.d (.int .i64)])],[(48,[.row (.int .u8)])],(List.range' 53 9),[],[(1000198,Zp18,true),(1000218,Zp11,true),(1000222,Zp14,true),(1000243,(.sl Zp15),true),(1000252,Zp9,true),(1000278,Zp16,true),(1000282,Zp12,true),(1000358,Zp19,true)],[]⟩),(24,⟨25,[(12,false,[.own 68 Zp13]),(13,false,[.d (.int .i64)]),(14,false,[.d (.int .i64)])],[],([4,15,16]++List.range' 73 44),[],[(1000198,Zp18,true),(1000218,Zp11,true),(1000222,Zp14,true),(1000243,(.sl Zp15),true),(1000252,Zp9,true),(1000278,Zp16,true),(1000282,Zp12,true),(1000358,Zp19,true)],[]⟩),(26,⟨27,[(12,false,[.own 68 Zp13]),(13,false,[.d (.int .i64)]),(14,false,[.d (.int .i64)]),(15,false,[.d (.int .i64)])],[],([4,16]++List.range' 73 44),[],[(1000198,Zp18,true),(1000218,Zp11,true),(1000222,Zp14,true),(1000243,(.sl Zp15),true),(1000252,Zp9,true),(1000278,Zp16,true),(1000282,Zp12,true),(1000358,Zp19,true)],[]⟩)]
noncomputable def F_wlvlaw23_ConnBlocks_env:Env:=⟨Tryz.prog,[(24,⟨F_wlvlaw23_first_sig,⟨F_wlvlaw23_first⟩⟩),(25,⟨F_conn_New_sig,⟨F_conn_New⟩⟩),(26,⟨F_conn_Conn_Feed_sig,⟨F_conn_Conn_Feed⟩⟩),(28,⟨F_wlvref23_SameEvents_sig,⟨F_wlvref23_SameEvents⟩⟩),(33,⟨F_wlvlaw23_hello_sig,⟨F_wlvlaw23_hello⟩⟩),(35,⟨F_wlvlaw23_framed_sig,⟨F_wlvlaw23_framed⟩⟩),(37,⟨F_wlvref4_Put_sig,⟨F_wlvref4_Put⟩⟩),(38,⟨F_conn_Conn_State_sig,⟨F_conn_Conn_State⟩⟩)],[44,46,48]⟩
theorem F_wlvlaw23_ConnBlocks_text:pvFn F_wlvlaw23_ConnBlocks_env F_wlvlaw23_ConnBlocks_ann Tryz.f6 F_wlvlaw23_ConnBlocks_sig=F_wlvlaw23_ConnBlocks:=by kernel_rfl
end Go.Proofs.YtifbhefbhlbofaaGreatDoor
namespace Go.Proofs.YtifbhefbhlbofaaGreatDoor
open Pv
theorem F_flow_part_sound {T:Tab}:SoundFn Tryz.prog T 175 F_flow_part_sig ⟨F_flow_part⟩:=by
 have h:=fn_sound (T:=T) (E:=F_flow_part_env) (by unfold Env.ok;exact fun p h=>by cases h) (A:=F_flow_part_ann) (f:=175) (fn:=Tryz.f175) (s:=F_flow_part_sig) Tryz.func175
 rw [F_flow_part_text] at h
 exact h
theorem F_flow_parts_sound {T:Tab}:SoundFn Tryz.prog T 143 F_flow_parts_sig ⟨F_flow_parts⟩:=by
 have h:=fn_sound (T:=T) (E:=F_flow_parts_env) (by unfold Env.ok;exact List.forall_mem_cons.2 ⟨F_flow_part_sound,fun p h=>by cases h⟩) (A:=F_flow_parts_ann) (f:=143) (fn:=Tryz.f143) (s:=F_flow_parts_sig) Tryz.func143
 rw [F_flow_parts_text] at h
 exact h
theorem F_flow_Stream_sound {T:Tab}:SoundFn Tryz.prog T 91 F_flow_Stream_sig ⟨F_flow_Stream⟩:=by
 have h:=fn_sound (T:=T) (E:=F_flow_Stream_env) (by unfold Env.ok;exact List.forall_mem_cons.2 ⟨F_flow_parts_sound,fun p h=>by cases h⟩) (A:=F_flow_Stream_ann) (f:=91) (fn:=Tryz.f91) (s:=F_flow_Stream_sig) Tryz.func91
 rw [F_flow_Stream_text] at h
 exact h
theorem F_flow_Conn_sound {T:Tab}:SoundFn Tryz.prog T 92 F_flow_Conn_sig ⟨F_flow_Conn⟩:=by
 have h:=fn_sound (T:=T) (E:=F_flow_Conn_env) (by unfold Env.ok;exact List.forall_mem_cons.2 ⟨F_flow_parts_sound,fun p h=>by cases h⟩) (A:=F_flow_Conn_ann) (f:=92) (fn:=Tryz.f92) (s:=F_flow_Conn_sig) Tryz.func92
 rw [F_flow_Conn_text] at h
 exact h
theorem F_flow_cut_sound {T:Tab}:SoundFn Tryz.prog T 176 F_flow_cut_sig ⟨F_flow_cut⟩:=by
 have h:=fn_sound (T:=T) (E:=F_flow_cut_env) (by unfold Env.ok;exact fun p h=>by cases h) (A:=F_flow_cut_ann) (f:=176) (fn:=Tryz.f176) (s:=F_flow_cut_sig) Tryz.func176
 rw [F_flow_cut_text] at h
 exact h
theorem F_flow_Windows_sound {T:Tab}:SoundFn Tryz.prog T 144 F_flow_Windows_sig ⟨F_flow_Windows⟩:=by
 have h:=fn_sound (T:=T) (E:=F_flow_Windows_env) (by unfold Env.ok;exact List.forall_mem_cons.2 ⟨F_flow_cut_sound,fun p h=>by cases h⟩) (A:=F_flow_Windows_ann) (f:=144) (fn:=Tryz.f144) (s:=F_flow_Windows_sig) Tryz.func144
 rw [F_flow_Windows_text] at h
 exact h
theorem F_flow_fault_sound {T:Tab}:SoundFn Tryz.prog T 188 F_flow_fault_sig ⟨F_flow_fault⟩:=by
 have h:=fn_sound (T:=T) (E:=F_flow_fault_env) (by unfold Env.ok;exact fun p h=>by cases h) (A:=F_flow_fault_ann) (f:=188) (fn:=Tryz.f188) (s:=F_flow_fault_sig) Tryz.func188
 rw [F_flow_fault_text] at h
 exact h
theorem F_flow_Shift_sound {T:Tab}:SoundFn Tryz.prog T 164 F_flow_Shift_sig ⟨F_flow_Shift⟩:=by
 have h:=fn_sound (T:=T) (E:=F_flow_Shift_env) (by unfold Env.ok;exact List.forall_mem_cons.2 ⟨F_flow_Stream_sound,List.forall_mem_cons.2 ⟨F_flow_Conn_sound,List.forall_mem_cons.2 ⟨F_flow_parts_sound,List.forall_mem_cons.2 ⟨F_flow_Windows_sound,List.forall_mem_cons.2 ⟨F_flow_cut_sound,List.forall_mem_cons.2 ⟨F_flow_fault_sound,fun p h=>by cases h⟩⟩⟩⟩⟩⟩) (A:=F_flow_Shift_ann) (f:=164) (fn:=Tryz.f164) (s:=F_flow_Shift_sig) Tryz.func164
 rw [F_flow_Shift_text] at h
 exact h
theorem F_flow_Grant_sound {T:Tab}:SoundFn Tryz.prog T 166 F_flow_Grant_sig ⟨F_flow_Grant⟩:=by
 have h:=fn_sound (T:=T) (E:=F_flow_Grant_env) (by unfold Env.ok;exact List.forall_mem_cons.2 ⟨F_flow_parts_sound,List.forall_mem_cons.2 ⟨F_flow_fault_sound,fun p h=>by cases h⟩⟩) (A:=F_flow_Grant_ann) (f:=166) (fn:=Tryz.f166) (s:=F_flow_Grant_sig) Tryz.func166
 rw [F_flow_Grant_text] at h
 exact h
end Go.Proofs.YtifbhefbhlbofaaGreatDoor
namespace Go.Proofs.YtifbhefbhlbofaaGreatDoor
open Go.RowKit Go.Lib Go.Shelf Pv
set_option linter.unusedVariables false
abbrev tFr:TypeId:=43
theorem sizeF:sizeT Tryz.prog tFr=some 4:=by kernel_rfl
theorem agF:isAg Tryz.prog tFr=true:=by kernel_rfl
theorem sizeU:(Tryz.prog.info? 5).map (·.size)=some 1:=by kernel_rfl
def zs8:List Value:=List.replicate 8 (.int .u8 0)
theorem frame_load {w:World} {R:Nat} {v0 v1 v2 v3:Value} (hR:w.heap[R]? = some (.cells #[v0,v1,v2,v3] tFr (0,0))):(loadVar tFr ⟨R,0,none⟩).run Tryz.prog w=.ok (.agg #[v0,v1,v2,v3]) w:=
 run_loadVar_cells (P:=Tryz.prog) (w:=w) (t:=tFr) (ad:=⟨R,0,none⟩) (us:=[v0,v1,v2,v3]) sizeF rfl agF (fun j x hj=>by
  show w.cell? ((⟨R,0,none⟩:Addr).add j)=_
  have e:(⟨R,0,none⟩:Addr).add j=⟨R,j,none⟩:=by unfold Addr.add;simp;omega
  rw [e,Lib.cell_of_heap hR]
  rw [<-hj];simp)
def set4 (w:World) (R:Nat) (u0 u1 u2 u3:Value):World:=(((w.setCell ⟨R,0,none⟩ u0).setCell ⟨R,1,none⟩ u1).setCell ⟨R,2,none⟩ u2).setCell ⟨R,3,none⟩ u3
theorem setCell_new {w:World} {R:Nat} {cs:Array Value} {T:TypeId} {f:Nat×Nat} (hR:w.heap[R]? = some (.cells cs T f)) (o:Nat) (u:Value):(w.setCell ⟨R,o,none⟩ u).heap[R]? = some (.cells (cs.setIfInBounds o u) T f):=by
 rw [setCell_heap,if_pos rfl,hR];simp
theorem setCell_old {w:World} {R j o:Nat} {u:Value} (h:j≠R):(w.setCell ⟨R,o,none⟩ u).heap[j]? = w.heap[j]?:=by
 rw [setCell_heap,if_neg h]
theorem set4_new {w:World} {R:Nat} {v0 v1 v2 v3 u0 u1 u2 u3:Value} (hR:w.heap[R]? = some (.cells #[v0,v1,v2,v3] tFr (0,0))):(set4 w R u0 u1 u2 u3).heap[R]? = some (.cells #[u0,u1,u2,u3] tFr (0,0)):=
 setCell_new (setCell_new (setCell_new (setCell_new hR 0 u0) 1 u1) 2 u2) 3 u3
theorem set4_old {w:World} {R j:Nat} {u0 u1 u2 u3:Value} (h:j≠R):(set4 w R u0 u1 u2 u3).heap[j]? = w.heap[j]?:=
 (setCell_old h).trans ((setCell_old h).trans ((setCell_old h).trans (setCell_old h)))
theorem set4_size {w:World} {R:Nat} {u0 u1 u2 u3:Value}:(set4 w R u0 u1 u2 u3).heap.size=w.heap.size:=by simp [set4,World.setCell]
theorem cell_new {w:World} {R:Nat} {cs:Array Value} {T:TypeId} (hR:w.heap[R]? = some (.cells cs T (0,0))) {o:Nat} {v:Value} (h:cs[o]? = some v):w.cell? ⟨R,o,none⟩=some v /\ w.frozen? ⟨R,o,none⟩=false:=by
 refine ⟨?_,?_⟩
 ·rw [cell_at hR];exact h
 ·exact frozen_at hR (.inr (Nat.zero_le _))
theorem results_cell1 {fn:Func} {p:Tmp} {ty:TypeId} (h:fn.results = #[.cell p ty]) (tmps:Array Value) (P:Program) (w:World) :
  (results fn tmps).run P w=((asAddr (tmps.getD p undef)).run P w).andThen fun a w₁=>(loadVar ty a).run P w₁:=by
 simp only [results,h]
 simp [Sem.run_bind,Result.andThen]
theorem flag_calls (a:Bool) (w:World):Calls Tryz.prog 106 #[.bool a,.int .i64 1] w fun e w'=>e=.returned (.int .i64 (cond a 1 0)) /\ w'=w:=by
 go_enter Tryz.func106,Tryz.ntmps106
 cases a
 ·go_wp2
  go_ret
  exact ⟨rfl,rfl⟩
 ·go_wp2
  go_ret
  exact ⟨rfl,rfl⟩
theorem pingB_splice (b:List Int):splice zs8 0 ((b.take 8).map (Value.int .u8))=(pingB b).map (Value.int .u8):=by
 unfold splice pingB zs8
 rw [List.map_append,List.take_zero,List.nil_append,List.length_map,List.length_take,List.drop_replicate,List.map_replicate]
 congr 2
 omega
theorem copy_zs {W:World} {B:Nat} (hB0:W.heap[B]? = some (.cells zs8.toArray 5 (0,0))) {a:Option Addr} {n c:Nat} {b:List Int} (hl:b.length=n) (hc:∀ ad,a=some ad -> ∀ (i:Nat) x,b[i]? = some x->W.cell? (ad.add i)=some (.int .u8 x)) (ha:a=none->b=[]) :
    ∃ w4,(Builtin.copy_ #[32,32] 3 #[.slice (some ⟨B,0,none⟩) 8 8,.slice a n c]).run Tryz.prog W=.ok (goInt ((b.take 8).map (Value.int .u8)).length) w4 /\
      w4.heap[B]? = some (.cells ((pingB b).map (Value.int .u8)).toArray 5 (0,0)) /\ (∀ j,j≠B->w4.heap[j]? = W.heap[j]?) /\ w4.heap.size=W.heap.size /\ w4.os=W.os /\ w4.tape=W.tape /\ w4.output=W.output:=by
  have hlz:zs8.toArray.size=8:=rfl
  have hcl:((b.take 8).map (Value.int .u8)).length=Nat.min n 8:=by
    rw [List.length_map,List.length_take,hl,Nat.min_comm]
  rw [<-pingB_splice]
  cases a with
  | none=>
    have hb0:=ha rfl
    subst hb0
    have hn0:n=0:=by rw [<-hl];rfl
    subst hn0
    exact ⟨W,run_copy_none (P:=Tryz.prog) _ 32 32 3 5 (some ⟨B,0,none⟩) none 8 8 0 c Tryz.underlying32 sizeU rfl,hB0,fun _ _=>rfl,rfl,rfl,rfl,rfl⟩
  | some ad=>
    have hle:Nat.min n 8<=8:=Nat.min_le_right _ _
    have hrun := run_copy_row (P := Tryz.prog) W 32 32 3 5 B 0 8 8 ad n c zs8.toArray 5 ((b.take 8).map (Value.int .u8)) Tryz.underlying32 sizeU hB0 hcl (fun j v hj => by
        rw [List.getElem?_map] at hj
        obtain ⟨x,hx,rfl⟩:=Option.map_eq_some_iff.1 hj
        rw [List.getElem?_take] at hx
        split at hx
        · exact hc ad rfl j x hx
        · cases hx) (by rw [hcl,hlz];omega) (fun v hv=>by obtain ⟨x,_,rfl⟩:=List.mem_map.1 hv;rfl)
    refine ⟨_,hrun,(setRow_heap _ _ _ _ _ _ hB0).trans ?_,fun j hj=>setRow_other _ _ _ _ hj,by simp [World.setRow],rfl,rfl,rfl⟩
    unfold splice
    rw [List.append_assoc,List.toList_toArray]
theorem make8 (w:World):(Instr.makeSlice 32 (.int .i64 8) (.int .i64 8)).run Tryz.prog w=.ok (.slice (some ⟨w.heap.size,0,none⟩) 8 8) (w.alloc (.cells zs8.toArray 5)):=by
 obtain ⟨i0,hi,hz0,hz1,hz2⟩:=info_parts infoU
 have hmade:madeCells (Value.int .u8 0).cells (8*i0.size)=zs8.toArray:=by
  rw [hz1,Nat.mul_one]
  apply Array.ext
  ·simp [madeCells,zs8]
  ·intro i h1 h2
   have h3:zs8.toArray[i]=.int .u8 0:=by
    have:=List.eq_of_mem_replicate (List.getElem_mem (l:=zs8) h2)
    exact this
   rw [h3]
   simp [madeCells,Value.cells,Nat.mod_one]
 have h:=run_make (P:=Tryz.prog) w 32 5 i0 _ Tryz.underlying32 hi hz0 .i64 .i64 (8:Int) (8:Int) (by omega) (Int.le_refl _) (by rw [hz2];decide) (by decide)
 rw [show (8:Int).toNat=8 from rfl,hmade] at h
 exact h
theorem ping_done {w4:World} {fn:Func} {a:Act} {R:Nat} {u0 u1 u2 u3:Value} {Z:Ending->World->Prop} (hf:fn.results = #[.cell 4 tFr]) (hd:a.defers=[]) (h4:a.tmps.getD 4 undef=.pointer (some ⟨R,0,none⟩)) (hR:w4.heap[R]? = some (.cells #[u0,u1,u2,u3] tFr (0,0))) (hZ:Z (.returned (.agg #[u0,u1,u2,u3])) w4):bodyPost Tryz.prog fn Z .ret a w4:=by
 refine bodyPost_ret ?_ hd hZ
 rw [results_cell1 hf,h4]
 simp [asAddr,frame_load hR]
set_option maxHeartbeats 4000000 in
set_option maxRecDepth 1000000 in
theorem ping_walk (a:Option Addr) (n c:Nat) (b:List Int) (ack:Bool) (w:World) (hl:b.length=n) (hc:Aside (∀ ad,a=some ad -> ∀ (i:Nat) x,b[i]? = some x->w.cell? (ad.add i)=some (.int .u8 x))) (ha:a=none->b=[]) :
  Calls Tryz.prog 53 #[.slice a n c,.bool ack] w fun e w'=>e=.returned (.agg #[.int .i64 6,.int .i64 (cond ack 1 0),.int .i64 0,.slice (some ⟨w.heap.size+1,0,none⟩) 8 8]) /\
   w'.heap[w.heap.size+1]? = some (.cells ((pingB b).map (Value.int .u8)).toArray 5 (0,0)) /\ Below w.heap.size w w':=by
 go_enter Tryz.func53,Tryz.ntmps53
 have hR0:(w.alloc (Obj.cells #[Value.int IntKind.i64 0,Value.int IntKind.i64 0,Value.int IntKind.i64 0,Value.slice none 0 0] tFr)).heap[w.heap.size]? = some (.cells #[Value.int IntKind.i64 0,Value.int IntKind.i64 0,Value.int IntKind.i64 0,Value.slice none 0 0] tFr (0,0)):=heap_alloc_new w _
 have hs0:(w.alloc (Obj.cells #[Value.int IntKind.i64 0,Value.int IntKind.i64 0,Value.int IntKind.i64 0,Value.slice none 0 0] tFr)).heap.size=w.heap.size+1:=by simp
 have hmk1:=make8 (w.alloc (Obj.cells #[Value.int IntKind.i64 0,Value.int IntKind.i64 0,Value.int IntKind.i64 0,Value.slice none 0 0] tFr))
 rw [hs0] at hmk1
 have hB0:=heap_alloc_new (w.alloc (Obj.cells #[Value.int IntKind.i64 0,Value.int IntKind.i64 0,Value.int IntKind.i64 0,Value.slice none 0 0] tFr)) (.cells zs8.toArray 5)
 rw [hs0] at hB0
 have hbel0:Below w.heap.size w ((w.alloc (Obj.cells #[Value.int IntKind.i64 0,Value.int IntKind.i64 0,Value.int IntKind.i64 0,Value.slice none 0 0] tFr)).alloc (.cells zs8.toArray 5)):=((Below.refl _ _).alloc (Nat.le_refl _) _).alloc (by rw [hs0];omega) _
 have hR1:((w.alloc (Obj.cells #[Value.int IntKind.i64 0,Value.int IntKind.i64 0,Value.int IntKind.i64 0,Value.slice none 0 0] tFr)).alloc (.cells zs8.toArray 5)).heap[w.heap.size]? = _:=(Lib.alloc_old _ _ _ (by rw [hs0];omega)).trans hR0
 obtain ⟨w4,hcp,hg4,ho4,hs4,hq1,hq2,hq3⟩:=copy_zs hB0 (c:=c) hl (fun ad hz i x hx=>Lib.cell?_alloc_some _ (Lib.cell?_alloc_some _ (hc.out ad hz i x hx))) ha
 have hR4:w4.heap[w.heap.size]? = some (.cells #[Value.int IntKind.i64 0,Value.int IntKind.i64 0,Value.int IntKind.i64 0,Value.slice none 0 0] tFr (0,0)):=(ho4 _ (by omega)).trans hR1
 clear hc
 obtain ⟨c0,f0⟩:=cell_new hR4 (o:=0) rfl
 have hR5:=setCell_new hR4 0 (.int .i64 6)
 obtain ⟨c1,f1⟩:=cell_new hR5 (o:=1) rfl
 have hR6:=setCell_new hR5 1 (.int .i64 (cond ack 1 0))
 obtain ⟨c2,f2⟩:=cell_new hR6 (o:=2) rfl
 have hR7:=setCell_new hR6 2 (.int .i64 0)
 obtain ⟨c3,f3⟩:=cell_new hR7 (o:=3) rfl
 go_wp2_with (first | (simp only [hmk1]) | (go_at_call 106;(with_reducible refine (flag_calls _ _).mono ?_);rintro e w1 ⟨rfl,hw1⟩;rw [hw1]) | (simp only [hcp]))
 refine ping_done rfl rfl rfl (set4_new hR4) ⟨rfl,(set4_old (by omega)).trans hg4,?_⟩
 refine hbel0.trans ⟨hq1,hq2,hq3,Nat.le_of_eq (set4_size.trans hs4).symm,fun k hk=>?_⟩
 exact (set4_old (by omega)).trans (ho4 k (by omega))
set_option maxHeartbeats 4000000 in
set_option maxRecDepth 1000000 in
theorem rping_walk (a:Option Addr) (n c:Nat) (b:List Int) (ack:Bool) (w:World) (hl:b.length=n) (hc:Aside (∀ ad,a=some ad -> ∀ (i:Nat) x,b[i]? = some x->w.cell? (ad.add i)=some (.int .u8 x))) (ha:a=none->b=[]) :
  Calls Tryz.prog 36 #[.slice a n c,.bool ack] w fun e w'=>e=.returned (.agg #[.int .i64 6,.int .i64 (cond ack 1 0),.int .i64 0,.slice (some ⟨w.heap.size+1,0,none⟩) 8 8]) /\
   w'.heap[w.heap.size+1]? = some (.cells ((pingB b).map (Value.int .u8)).toArray 5 (0,0)) /\ Below w.heap.size w w':=by
 go_enter Tryz.func36,Tryz.ntmps36
 have hs0:(w.alloc (Obj.cells #[Value.int IntKind.i64 0,Value.int IntKind.i64 0,Value.int IntKind.i64 0,Value.slice none 0 0] tFr)).heap.size=w.heap.size+1:=by simp
 have hmk1:=make8 (w.alloc (Obj.cells #[Value.int IntKind.i64 0,Value.int IntKind.i64 0,Value.int IntKind.i64 0,Value.slice none 0 0] tFr))
 rw [hs0] at hmk1
 have hR0:(w.alloc (Obj.cells #[Value.int IntKind.i64 0,Value.int IntKind.i64 0,Value.int IntKind.i64 0,Value.slice none 0 0] tFr)).heap[w.heap.size]? = some (Obj.cells #[Value.int IntKind.i64 0,Value.int IntKind.i64 0,Value.int IntKind.i64 0,Value.slice none 0 0] tFr):=heap_alloc_new w _
 have hs1:((w.alloc (Obj.cells #[Value.int IntKind.i64 0,Value.int IntKind.i64 0,Value.int IntKind.i64 0,Value.slice none 0 0] tFr)).alloc (Obj.cells zs8.toArray 5)).heap.size=w.heap.size+1+1:=by simp
 have hB0:((w.alloc (Obj.cells #[Value.int IntKind.i64 0,Value.int IntKind.i64 0,Value.int IntKind.i64 0,Value.slice none 0 0] tFr)).alloc (Obj.cells zs8.toArray 5)).heap[w.heap.size+1]? = some (.cells zs8.toArray 5 (0,0)):=by
  have:=heap_alloc_new (w.alloc (Obj.cells #[Value.int IntKind.i64 0,Value.int IntKind.i64 0,Value.int IntKind.i64 0,Value.slice none 0 0] tFr)) (.cells zs8.toArray 5)
  rw [hs0] at this
  exact this
 have hR1:((w.alloc (Obj.cells #[Value.int IntKind.i64 0,Value.int IntKind.i64 0,Value.int IntKind.i64 0,Value.slice none 0 0] tFr)).alloc (Obj.cells zs8.toArray 5)).heap[w.heap.size]? = some (Obj.cells #[Value.int IntKind.i64 0,Value.int IntKind.i64 0,Value.int IntKind.i64 0,Value.slice none 0 0] tFr):=(Lib.alloc_old _ _ _ (by rw [hs0];omega)).trans hR0
 have hR2:(((w.alloc (Obj.cells #[Value.int IntKind.i64 0,Value.int IntKind.i64 0,Value.int IntKind.i64 0,Value.slice none 0 0] tFr)).alloc (Obj.cells zs8.toArray 5)).alloc (Obj.cells #[Value.int IntKind.i64 6,Value.int IntKind.i64 0,Value.int IntKind.i64 0,Value.slice (some ⟨w.heap.size+1,0,none⟩) 8 8] tFr)).heap[w.heap.size]? = some (Obj.cells #[Value.int IntKind.i64 0,Value.int IntKind.i64 0,Value.int IntKind.i64 0,Value.slice none 0 0] tFr):=(Lib.alloc_old _ _ _ (by rw [hs1];omega)).trans hR1
 have hB2:(((w.alloc (Obj.cells #[Value.int IntKind.i64 0,Value.int IntKind.i64 0,Value.int IntKind.i64 0,Value.slice none 0 0] tFr)).alloc (Obj.cells zs8.toArray 5)).alloc (Obj.cells #[Value.int IntKind.i64 6,Value.int IntKind.i64 0,Value.int IntKind.i64 0,Value.slice (some ⟨w.heap.size+1,0,none⟩) 8 8] tFr)).heap[w.heap.size+1]? = some (.cells zs8.toArray 5 (0,0)):=(Lib.alloc_old _ _ _ (by rw [hs1];omega)).trans hB0
 have hQ2:(((w.alloc (Obj.cells #[Value.int IntKind.i64 0,Value.int IntKind.i64 0,Value.int IntKind.i64 0,Value.slice none 0 0] tFr)).alloc (Obj.cells zs8.toArray 5)).alloc (Obj.cells #[Value.int IntKind.i64 6,Value.int IntKind.i64 0,Value.int IntKind.i64 0,Value.slice (some ⟨w.heap.size+1,0,none⟩) 8 8] tFr)).heap[w.heap.size+1+1]? = some (Obj.cells #[Value.int IntKind.i64 6,Value.int IntKind.i64 0,Value.int IntKind.i64 0,Value.slice (some ⟨w.heap.size+1,0,none⟩) 8 8] tFr):=by
  have:=heap_alloc_new ((w.alloc (Obj.cells #[Value.int IntKind.i64 0,Value.int IntKind.i64 0,Value.int IntKind.i64 0,Value.slice none 0 0] tFr)).alloc (Obj.cells zs8.toArray 5)) (Obj.cells #[Value.int IntKind.i64 6,Value.int IntKind.i64 0,Value.int IntKind.i64 0,Value.slice (some ⟨w.heap.size+1,0,none⟩) 8 8] tFr)
  rw [hs1] at this
  exact this
 have hbel0:Below w.heap.size w (((w.alloc (Obj.cells #[Value.int IntKind.i64 0,Value.int IntKind.i64 0,Value.int IntKind.i64 0,Value.slice none 0 0] tFr)).alloc (Obj.cells zs8.toArray 5)).alloc (Obj.cells #[Value.int IntKind.i64 6,Value.int IntKind.i64 0,Value.int IntKind.i64 0,Value.slice (some ⟨w.heap.size+1,0,none⟩) 8 8] tFr)):=(((Below.refl _ _).alloc (Nat.le_refl _) _).alloc (by rw [hs0];omega) _).alloc (by rw [hs1];omega) _
 obtain ⟨w4,hcp,hg4,ho4,hs4,hq1,hq2,hq3⟩:=copy_zs hB2 (c:=c) hl (fun ad hz i x hx=>Lib.cell?_alloc_some _ (Lib.cell?_alloc_some _ (Lib.cell?_alloc_some _ (hc.out ad hz i x hx)))) ha
 have hR4:w4.heap[w.heap.size]? = some (Obj.cells #[Value.int IntKind.i64 0,Value.int IntKind.i64 0,Value.int IntKind.i64 0,Value.slice none 0 0] tFr):=(ho4 _ (by omega)).trans hR2
 have hQ4:w4.heap[w.heap.size+1+1]? = some (Obj.cells #[Value.int IntKind.i64 6,Value.int IntKind.i64 0,Value.int IntKind.i64 0,Value.slice (some ⟨w.heap.size+1,0,none⟩) 8 8] tFr):=(ho4 _ (by omega)).trans hQ2
 clear hc
 cases ack with
 | false=>
  obtain ⟨e0,_⟩:=cell_new hQ4 (o:=0) rfl
  obtain ⟨e1,_⟩:=cell_new hQ4 (o:=1) rfl
  obtain ⟨e2,_⟩:=cell_new hQ4 (o:=2) rfl
  obtain ⟨e3,_⟩:=cell_new hQ4 (o:=3) rfl
  obtain ⟨c0,f0⟩:=cell_new hR4 (o:=0) rfl
  have hR5:=setCell_new hR4 0 (.int .i64 6)
  obtain ⟨c1,f1⟩:=cell_new hR5 (o:=1) rfl
  have hR6:=setCell_new hR5 1 (.int .i64 0)
  obtain ⟨c2,f2⟩:=cell_new hR6 (o:=2) rfl
  have hR7:=setCell_new hR6 2 (.int .i64 0)
  obtain ⟨c3,f3⟩:=cell_new hR7 (o:=3) rfl
  go_wp2_with (first | (simp only [hmk1]) | (simp only [hcp]))
  refine ping_done rfl rfl rfl (set4_new hR4) ⟨rfl,(set4_old (by omega)).trans hg4,?_⟩
  refine hbel0.trans ⟨hq1,hq2,hq3,Nat.le_of_eq (set4_size.trans hs4).symm,fun k hk=>?_⟩
  exact (set4_old (by omega)).trans (ho4 k (by omega))
 | true=>
  obtain ⟨e1',g1⟩:=cell_new hQ4 (o:=1) rfl
  have hQ5:=setCell_new hQ4 1 (.int .i64 1)
  have hR4:=(setCell_old (o:=1) (u:=.int .i64 1) (show w.heap.size≠w.heap.size+1+1 by omega)).trans hR4
  obtain ⟨e0,_⟩:=cell_new hQ5 (o:=0) rfl
  obtain ⟨e1,_⟩:=cell_new hQ5 (o:=1) rfl
  obtain ⟨e2,_⟩:=cell_new hQ5 (o:=2) rfl
  obtain ⟨e3,_⟩:=cell_new hQ5 (o:=3) rfl
  obtain ⟨c0,f0⟩:=cell_new hR4 (o:=0) rfl
  have hR5:=setCell_new hR4 0 (.int .i64 6)
  obtain ⟨c1,f1⟩:=cell_new hR5 (o:=1) rfl
  have hR6:=setCell_new hR5 1 (.int .i64 1)
  obtain ⟨c2,f2⟩:=cell_new hR6 (o:=2) rfl
  have hR7:=setCell_new hR6 2 (.int .i64 0)
  obtain ⟨c3,f3⟩:=cell_new hR7 (o:=3) rfl
  go_wp2_with (first | (simp only [hmk1]) | (simp only [hcp]))
  refine ping_done rfl rfl rfl (set4_new hR4) ⟨rfl,(set4_old (by omega)).trans ((setCell_old (by omega)).trans hg4),?_⟩
  refine hbel0.trans ⟨hq1,hq2,hq3,Nat.le_of_eq (set4_size.trans (by simp [World.setCell,hs4])).symm,fun k hk=>?_⟩
  exact (set4_old (by omega)).trans ((setCell_old (by omega)).trans (ho4 k (by omega)))
theorem own_frame {F:Fr} {g:Gh} {w w':World} {s:Sig} {tmf:Nat->Value} {k fl sn:Int} {l:List Int} {b:Nat} {y:s.out.D} (hw:F.w0=w) (hlim:∀ b o,g.C b o->b < w.heap.size) (hbel:Below w.heap.size w w') (hb:w.heap.size<=b)
  (hcell:w'.heap[b]? = some (.cells (l.map (Value.int .u8)).toArray 5 (0,0))) (hl8:l.length=8) (hwf:∀ x∈l,(Lit.int .u8 x).wf=true) (hk:(Lit.int .i64 k).wf=true) (hfl:(Lit.int .i64 fl).wf=true) (hsn:(Lit.int .i64 sn).wf=true)
  (hrs:s.rs=[(true,[.d (.int .i64),.d (.int .i64),.d (.int .i64),.own 5 (.int .u8)])]) (hmk:mkLs (Tok.hd 0) s.outs 0 (unpackD s.outTs y)=some [.d (.int .i64) k,.d (.int .i64) fl,.d (.int .i64) sn,.own (.hd 0 3) 5 (.int .u8) l]) :
  ∃ us os,∃ C':Nat->Nat->Prop,∃ blk',Ending.returned (.agg #[.int .i64 k,.int .i64 fl,.int .i64 sn,.slice (some ⟨b,0,none⟩) 8 8])=.returned (retV us) /\ us.length=s.rs.length /\ mkLs (Tok.hd 0) s.outs 0 (unpackD s.outTs y)=some os /\ Below w.heap.size w w' /\
   (∀ b o,b < w.heap.size->(C' b o↔g.C b o)) /\ (∀ b o,C' b o->b < w'.heap.size) /\ blk' .zero=none /\ (∀ k b,blk' k=some b->w.heap.size<=b /\ b < w'.heap.size) /\ (∀ k k' b,blk' k=some b->blk' k'=some b->k=k') /\
   ∀ i,i < s.rs.length->RelP F ⟨⟨C',g.C.i⟩,blk',g.ρ,fun _ _=>[],g.ow,g.ver⟩ w' (exitO s) tmf (us.getD i undef) (resAt s.rs os i):=by
 have hblt:b < w'.heap.size:=(Array.getElem?_eq_some_iff.1 hcell).1
 have hk0:∀ k b',(match tokEq k (.hd 0 3) with | true=>some b | false=>none)=some b'->k=.hd 0 3 /\ b'=b:=fun k b' hk=>by
  cases hq:tokEq k (.hd 0 3) with
  | false=>rw [hq] at hk;cases hk
  | true=>
   rw [hq] at hk
   injection hk with hk
   refine ⟨?_,hk.symm⟩
   cases k with
   | hd d j=>
    have:(Nat.beq d 0&&Nat.beq j 3)=true:=hq
    simp only [Bool.and_eq_true] at this
    rw [Nat.eq_of_beq_eq_true this.1,Nat.eq_of_beq_eq_true this.2]
   | zero=>cases hq
   | op _ _=>cases hq
 have hel:∀ (i:Nat) (x:Int),l[i]? = some x->RepD w' ⟨fun b' o=>g.C b' o \/ (b'=b /\ o < 8),g.C.i⟩ (.int .u8) x (((l.map (Value.int .u8)).toArray.toList.drop (i*(Ty.int .u8).size)).take (Ty.int .u8).size):=fun i x hx=>by
  have hi:i < l.length:=(List.getElem?_eq_some_iff.1 hx).1
  refine ⟨?_,hwf x (List.mem_of_getElem? hx)⟩
  rw [show (Ty.int .u8).size=1 from rfl,Nat.mul_one,List.drop_eq_getElem_cons (by simpa using hi)]
  have:l[i]=x:=(List.getElem?_eq_some_iff.1 hx).2
  simp [this]
 refine ⟨[.agg #[.int .i64 k,.int .i64 fl,.int .i64 sn,.slice (some ⟨b,0,none⟩) 8 8]],[.d (.int .i64) k,.d (.int .i64) fl,.d (.int .i64) sn,.own (.hd 0 3) 5 (.int .u8) l],fun b' o=>g.C b' o \/ (b'=b /\ o < 8),fun k=>match tokEq k (.hd 0 3) with | true=>some b | false=>none,rfl,by rw [hrs];rfl,hmk,hbel,fun b' o hb'=>⟨fun h=>h.elim id fun h=>absurd h.1 (by omega),.inl⟩,fun b' o h=>?_,rfl,fun k b' hk=>?_,fun k k' b' hk hk'=>?_,fun i hi=>?_⟩
 ·rcases h with h | h
  ·exact Nat.lt_of_lt_of_le (hlim b' o h) hbel.size
  ·rw [h.1];exact hblt
 ·obtain ⟨_,rfl⟩:=hk0 k b' hk
  exact ⟨hb,hblt⟩
 ·rw [(hk0 k b' hk).1,(hk0 k' b' hk').1]
 ·rw [hrs] at hi ⊢
  match i,hi with
  | 0,_=>
   have hrepd:RepD w' ⟨fun b' o=>g.C b' o \/ (b'=b /\ o < 8),g.C.i⟩ (.sl (.int .u8)) l [.slice (some ⟨b,0,none⟩) 8 8]:=by
    refine ⟨_,_,_,rfl,hl8,Nat.le_refl _,by unfold maxLen;omega,fun i x hx=>?_⟩
    have hx:l[i]? = some x:=hx
    have hi:i < l.length:=(List.getElem?_eq_some_iff.1 hx).1
    have hr:=hel i x hx
    refine ⟨_,_,rfl,RepD.len hr,fun j u hj=>?_,hr⟩
    have hjl:j < (Ty.int .u8).size:=by
     have h1:=(List.getElem?_eq_some_iff.1 hj).1
     have h2:=RepD.len hr
     omega
    rw [List.getElem?_take,if_pos hjl,List.getElem?_drop] at hj
    rw [add_at]
    refine ⟨?_,.inr ⟨rfl,?_⟩⟩
    ·rw [cell_at hcell,<- Array.getElem?_toList,Nat.zero_add];exact hj
    ·show 0+(i*(Ty.int .u8).size+j) < _
     have:(Ty.int .u8).size=1:=rfl
     rw [this] at hjl ⊢
     omega
   have ti:∀ {x:Int},(Lit.int .i64 x).wf=true->RepL F ⟨⟨fun b' o=>g.C b' o \/ (b'=b /\ o < 8),g.C.i⟩,fun k=>match tokEq k (.hd 0 3) with | true=>some b | false=>none,g.ρ,fun _ _=>[],g.ow,g.ver⟩ w' (exitO s) (.d (.int .i64) x) [.int .i64 x]:=fun h=>⟨rfl,h⟩
   refine ⟨[.int .i64 k,.int .i64 fl,.int .i64 sn,.slice (some ⟨b,0,none⟩) 8 8],?_,rfl⟩
   refine ⟨[_],_,rfl,ti hk,[_],_,rfl,ti hfl,[_],_,rfl,ti hsn,[_],[],rfl,⟨hrepd,fun _=>⟨_,rfl,.inr ⟨b,8,_,congrArg (fun n=>Value.slice (some ⟨b,0,none⟩) n 8) hl8.symm,rfl,hcell,Nat.le_of_eq hl8,by unfold maxLen;omega,by simp [hl8];rfl,?_,?_,?_⟩⟩⟩,rfl⟩
   ·intro i x hx
    exact hel i x hx
   ·intro o
    show (g.C b o \/ (b=b /\ o < 8))↔o < l.length*1
    rw [hl8]
    constructor
    ·rintro (h | h)
     ·have:=hlim _ _ h;omega
     ·exact h.2
    ·intro h;exact .inr ⟨rfl,h⟩
   ·intro o _
    exact .inl (by rw [hw];exact hb)
theorem pingB_len (b:List Int):(pingB b).length=8:=by
 unfold pingB
 rw [List.length_append,List.length_take,List.length_replicate]
 omega
theorem pingB_wf {b:List Int} (h:∀ x∈b,(Lit.int .u8 x).wf=true):∀ x∈pingB b,(Lit.int .u8 x).wf=true:=fun x hx=>by
 rcases List.mem_append.1 hx with hx | hx
 ·exact h x (List.mem_of_mem_take hx)
 ·rw [List.eq_of_mem_replicate hx];rfl
theorem F_part_Ping_sound {T:Tab}:SoundFn Tryz.prog T 53 F_part_Ping_sig ⟨F_part_Ping⟩:=by
 refine sound_of rfl fun F g O xs ls y tmf w args hT hw hlim hls happ hsz hr=>?_
 obtain ⟨(l:List Int),xs',rfl,h2⟩:=appF_inv_c (ts:=[.bool]) happ
 obtain ⟨(ak:Bool),xs'',rfl,h2'⟩:=appF_inv_c (ts:=[]) h2
 obtain ⟨rfl,h3⟩:=appF_inv_n h2'
 have hls':some [Leaf.d (.sl (.int .u8)) l,Leaf.d .bool ak]=some ls:=hls
 injection hls' with hls'
 subst hls'
 obtain ⟨a,n,c,e0,e1,e2,e3,e4,e5,e6⟩:=rel_ints (hr 0)
 have e7:args.getD 1 undef=.bool ak:=by
  have:=rel_leaf.1 (hr 1)
  injection this
 rw [args_2 hsz,e0,e7]
 have h3:some (pingF l ak)=some y:=h3
 have hy:pingF l ak=y:=by injection h3
 subst hy
 refine (ping_walk a n c l ak w e1 e5 e6).mono ?_
 rintro e w' ⟨rfl,h1,h2⟩
 exact own_frame hw hlim h2 (Nat.le_succ _) h1 (pingB_len l) (pingB_wf e4) rfl (by cases ak <;> rfl) rfl rfl rfl
theorem F_wlvref10_Ping_sound {T:Tab}:SoundFn Tryz.prog T 36 F_wlvref10_Ping_sig ⟨F_wlvref10_Ping⟩:=by
 refine sound_of rfl fun F g O xs ls y tmf w args hT hw hlim hls happ hsz hr=>?_
 obtain ⟨(l:List Int),xs',rfl,h2⟩:=appF_inv_c (ts:=[.bool]) happ
 obtain ⟨(ak:Bool),xs'',rfl,h2'⟩:=appF_inv_c (ts:=[]) h2
 obtain ⟨rfl,h3⟩:=appF_inv_n h2'
 have hls':some [Leaf.d (.sl (.int .u8)) l,Leaf.d .bool ak]=some ls:=hls
 injection hls' with hls'
 subst hls'
 obtain ⟨a,n,c,e0,e1,e2,e3,e4,e5,e6⟩:=rel_ints (hr 0)
 have e7:args.getD 1 undef=.bool ak:=by
  have:=rel_leaf.1 (hr 1)
  injection this
 rw [args_2 hsz,e0,e7]
 have h3:some (pingF l ak)=some y:=h3
 have hy:pingF l ak=y:=by injection h3
 subst hy
 refine (rping_walk a n c l ak w e1 e5 e6).mono ?_
 rintro e w' ⟨rfl,h1,h2⟩
 exact own_frame hw hlim h2 (Nat.le_succ _) h1 (pingB_len l) (pingB_wf e4) rfl (by cases ak <;> rfl) rfl rfl rfl
end Go.Proofs.YtifbhefbhlbofaaGreatDoor
namespace Go.Proofs
open Go.Shelf
def Tryz.cnKeys_ren:Go.Shelf.Ren:=⟨fun | 7=>77 | 10=>134 | n=>n,fun | 23=>121 | 26=>3 | 3=>137 | 28=>135 | 0=>0 | 27=>134 | 33=>63 | 4=>4 | n=>n,fun | n=>n⟩
theorem Tryz.cnKeys:Go.Proofs.SlLaysZI.n7 Tryz.prog Tryz.cnKeys_ren:={
 mixed:=by kernel_rfl
 f7:=⟨Tryz.f77.name,by decide,Tryz.func77.trans (congrArg some (by kernel_rfl))⟩
 f10:=⟨Tryz.f134.name,by decide,Tryz.func134.trans (congrArg some (by kernel_rfl))⟩
 t0:=Tryz.underlying0
 a0:=Tryz.isAgg0
 z0:=Tryz.sizeOf0
 v0:=Tryz.zeroValue0
 t4:=Tryz.underlying4
 a4:=Tryz.isAgg4
 z4:=Tryz.sizeOf4
 v4:=Tryz.zeroValue4
 t23:=Tryz.underlying121
 a23:=Tryz.isAgg121
 z23:=Tryz.sizeOf121
 v23:=Tryz.zeroValue121
 t26:=Tryz.underlying3
 a26:=Tryz.isAgg3
 z26:=Tryz.sizeOf3
 v26:=Tryz.zeroValue3
 t27:=Tryz.underlying134
 a27:=Tryz.isAgg134
 z27:=Tryz.sizeOf134
 v27:=Tryz.zeroValue134
 t28:=Tryz.underlying135
 a28:=Tryz.isAgg135
 z28:=Tryz.sizeOf135
 v28:=Tryz.zeroValue135
 t33:=Tryz.underlying63
 a33:=Tryz.isAgg63
 z33:=Tryz.sizeOf63
 v33:=Tryz.zeroValue63 }
def Tryz.cnSorted_ren:Go.Shelf.Ren:=⟨fun | 6=>76 | 8=>132 | 9=>133 | 11=>167 | 13=>169 | 12=>168 | 23=>198 | 24=>199 | 14=>189 | 15=>190 | 16=>191 | 17=>192 | 18=>193 | 19=>194 | 20=>195 | 21=>196 | 22=>197 | 25=>207 | 26=>208 | 27=>209 | 28=>210 | 29=>211 | 30=>212 | 31=>222 | n=>n,fun | 26=>3 | 28=>135 | 24=>47 | 0=>0 | 3=>3 | 37=>114 | 48=>240 | 50=>242 | 4=>4 | 40=>234 | 39=>233 | 45=>77 | 5=>5 | 9=>9 | 51=>254 | 55=>258 | 57=>266 | 58=>217 | 33=>63 | n=>n,fun | n=>n⟩
theorem Tryz.cnSorted:Go.Proofs.SlLaysZI.n6 Tryz.prog Tryz.cnSorted_ren:={
 mixed:=by kernel_rfl
 f6:=⟨Tryz.f76.name,by decide,Tryz.func76.trans (congrArg some (by kernel_rfl))⟩
 f8:=⟨Tryz.f132.name,by decide,Tryz.func132.trans (congrArg some (by kernel_rfl))⟩
 f11:=⟨Tryz.f167.name,by decide,Tryz.func167.trans (congrArg some (by kernel_rfl))⟩
 t0:=Tryz.underlying0
 a0:=Tryz.isAgg0
 z0:=Tryz.sizeOf0
 v0:=Tryz.zeroValue0
 t24:=Tryz.underlying47
 a24:=Tryz.isAgg47
 z24:=Tryz.sizeOf47
 v24:=Tryz.zeroValue47
 t26:=Tryz.underlying3
 a26:=Tryz.isAgg3
 z26:=Tryz.sizeOf3
 v26:=Tryz.zeroValue3
 t28:=Tryz.underlying135
 a28:=Tryz.isAgg135
 z28:=Tryz.sizeOf135
 v28:=Tryz.zeroValue135
 i26:=by kernel_rfl }
def Tryz.cnSort_ren:Go.Shelf.Ren:=⟨fun | 5=>133 | 8=>169 | 7=>168 | 19=>198 | 20=>199 | 10=>189 | 11=>190 | 12=>191 | 13=>192 | 14=>193 | 15=>194 | 16=>195 | 17=>196 | 18=>197 | 30=>207 | 31=>208 | 32=>209 | 33=>210 | 34=>211 | 35=>212 | 40=>222 | n=>n,fun | 23=>47 | 25=>3 | 3=>3 | 32=>114 | 22=>47 | 0=>0 | 44=>240 | 46=>242 | 4=>4 | 36=>234 | 35=>233 | 41=>77 | 5=>5 | 9=>9 | 53=>254 | 57=>258 | 63=>266 | 64=>217 | n=>n,fun | n=>n⟩
theorem Tryz.cnSort:Go.Proofs.SlLaysM.n5 Tryz.prog Tryz.cnSort_ren:={
 mixed:=by kernel_rfl
 f5:=⟨Tryz.f133.name,by decide,Tryz.func133.trans (congrArg some (by kernel_rfl))⟩
 f7:=⟨Tryz.f168.name,by decide,Tryz.func168.trans (congrArg some (by kernel_rfl))⟩
 f8:=Tryz.func169.trans (congrArg some (by kernel_rfl))
 f10:=⟨Tryz.f189.name,by decide,Tryz.func189.trans (congrArg some (by kernel_rfl))⟩
 f11:=⟨Tryz.f190.name,by decide,Tryz.func190.trans (congrArg some (by kernel_rfl))⟩
 f12:=⟨Tryz.f191.name,by decide,Tryz.func191.trans (congrArg some (by kernel_rfl))⟩
 f13:=⟨Tryz.f192.name,by decide,Tryz.func192.trans (congrArg some (by kernel_rfl))⟩
 f14:=⟨Tryz.f193.name,by decide,Tryz.func193.trans (congrArg some (by kernel_rfl))⟩
 f15:=⟨Tryz.f194.name,by decide,Tryz.func194.trans (congrArg some (by kernel_rfl))⟩
 f16:=⟨Tryz.f195.name,by decide,Tryz.func195.trans (congrArg some (by kernel_rfl))⟩
 f17:=⟨Tryz.f196.name,by decide,Tryz.func196.trans (congrArg some (by kernel_rfl))⟩
 f18:=⟨Tryz.f197.name,by decide,Tryz.func197.trans (congrArg some (by kernel_rfl))⟩
 f19:=Tryz.func198.trans (congrArg some (by kernel_rfl))
 f20:=Tryz.func199.trans (congrArg some (by kernel_rfl))
 f30:=⟨Tryz.f207.name,by decide,Tryz.func207.trans (congrArg some (by kernel_rfl))⟩
 f31:=Tryz.func208.trans (congrArg some (by kernel_rfl))
 f32:=Tryz.func209.trans (congrArg some (by kernel_rfl))
 f33:=⟨Tryz.f210.name,by decide,Tryz.func210.trans (congrArg some (by kernel_rfl))⟩
 f34:=⟨Tryz.f211.name,by decide,Tryz.func211.trans (congrArg some (by kernel_rfl))⟩
 f35:=⟨Tryz.f212.name,by decide,Tryz.func212.trans (congrArg some (by kernel_rfl))⟩
 f40:=⟨Tryz.f222.name,by decide,Tryz.func222.trans (congrArg some (by kernel_rfl))⟩
 t0:=Tryz.underlying0
 a0:=Tryz.isAgg0
 z0:=Tryz.sizeOf0
 v0:=Tryz.zeroValue0
 t3:=Tryz.underlying3
 a3:=Tryz.isAgg3
 z3:=Tryz.sizeOf3
 v3:=Tryz.zeroValue3
 t4:=Tryz.underlying4
 a4:=Tryz.isAgg4
 z4:=Tryz.sizeOf4
 v4:=Tryz.zeroValue4
 t5:=Tryz.underlying5
 a5:=Tryz.isAgg5
 z5:=Tryz.sizeOf5
 v5:=Tryz.zeroValue5
 t9:=Tryz.underlying9
 a9:=Tryz.isAgg9
 z9:=Tryz.sizeOf9
 v9:=Tryz.zeroValue9
 t22:=Tryz.underlying47
 a22:=Tryz.isAgg47
 z22:=Tryz.sizeOf47
 v22:=Tryz.zeroValue47
 t23:=Tryz.underlying47
 a23:=Tryz.isAgg47
 z23:=Tryz.sizeOf47
 v23:=Tryz.zeroValue47
 t25:=Tryz.underlying3
 a25:=Tryz.isAgg3
 z25:=Tryz.sizeOf3
 v25:=Tryz.zeroValue3
 t32:=Tryz.underlying114
 a32:=Tryz.isAgg114
 z32:=Tryz.sizeOf114
 v32:=Tryz.zeroValue114
 t35:=Tryz.underlying233
 a35:=Tryz.isAgg233
 z35:=Tryz.sizeOf233
 v35:=Tryz.zeroValue233
 t36:=Tryz.underlying234
 a36:=Tryz.isAgg234
 z36:=Tryz.sizeOf234
 v36:=Tryz.zeroValue234
 t41:=Tryz.underlying77
 a41:=Tryz.isAgg77
 z41:=Tryz.sizeOf77
 v41:=Tryz.zeroValue77
 t44:=Tryz.underlying240
 a44:=Tryz.isAgg240
 z44:=Tryz.sizeOf240
 v44:=Tryz.zeroValue240
 t46:=Tryz.underlying242
 a46:=Tryz.isAgg242
 z46:=Tryz.sizeOf242
 v46:=Tryz.zeroValue242
 t53:=Tryz.underlying254
 a53:=Tryz.isAgg254
 z53:=Tryz.sizeOf254
 v53:=Tryz.zeroValue254
 t57:=Tryz.underlying258
 a57:=Tryz.isAgg258
 z57:=Tryz.sizeOf258
 v57:=Tryz.zeroValue258
 t63:=Tryz.underlying266
 a63:=Tryz.isAgg266
 z63:=Tryz.sizeOf266
 v63:=Tryz.zeroValue266
 t64:=Tryz.underlying217
 a64:=Tryz.isAgg217
 z64:=Tryz.sizeOf217
 v64:=Tryz.zeroValue217 }
end Go.Proofs
