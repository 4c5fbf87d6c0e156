/- Texts of this claim, one behind the other. -/
import Derived.Test.YtgfmfgombmpodaaGreatDoorConfPrintsM4
import Derived.Laws.BitsLemmas
import Derived.Lib.ItoaMem
set_option maxRecDepth 100000
namespace Go.Proofs.YtgfmfgombmpodaaGreatDoor
open Pv
set_option linter.unusedVariables false
noncomputable def F_tally_count (q1:Nat):Option (Int×Bool):=
 cond (!((fgt .f64 q1 0||feq .f64 q1 0)&&(flt .f64 q1 4832362400168542208||feq .f64 q1 4832362400168542208)))
 (some (0,false))
 ((ftoI .f64 .i64 q1).bind fun i2=>
 some (i2,(feq .f64 (foI .f64 i2) q1)))
def F_tally_count_sig:Sig:=⟨[.v false [.d (.flo .f64)]],[(false,[.d (.int .i64)]),(false,[.d .bool])]⟩
def F_tally_count_ann:List (Nat×Ann):=[]
noncomputable def F_tally_count_env:Env:=⟨Tryz.prog,[],[]⟩
theorem F_tally_count_text:pvFn F_tally_count_env F_tally_count_ann Tryz.f146 F_tally_count_sig=F_tally_count:=by kernel_rfl
noncomputable def F_tally_parts (z1:(Nat×Nat)):Option (Int×Int×Bool):=
 (F_tally_count z1.1).bind fun x2=>
 (F_tally_count z1.2).bind fun x3=>
 cond ((!x2.2)||(!x3.2))
 (some (0,0,false))
 (some (x2.1,x3.1,true))
def F_tally_parts_sig:Sig:=⟨[.v false [.d (.cpx .f64)]],[(false,[.d (.int .i64)]),(false,[.d (.int .i64)]),(false,[.d .bool])]⟩
def F_tally_parts_ann:List (Nat×Ann):=[]
noncomputable def F_tally_parts_env:Env:=⟨Tryz.prog,[(146,⟨F_tally_count_sig,⟨F_tally_count⟩⟩)],[]⟩
theorem F_tally_parts_text:pvFn F_tally_parts_env F_tally_parts_ann Tryz.f111 F_tally_parts_sig=F_tally_parts:=by kernel_rfl
noncomputable def F_tally_Up (z1:(Nat×Nat)):Option (Int):=
 (F_tally_parts z1).bind fun x2=>
 some x2.1
def F_tally_Up_sig:Sig:=⟨[.v false [.d (.cpx .f64)]],[(false,[.d (.int .i64)])]⟩
def F_tally_Up_ann:List (Nat×Ann):=[]
noncomputable def F_tally_Up_env:Env:=⟨Tryz.prog,[(111,⟨F_tally_parts_sig,⟨F_tally_parts⟩⟩)],[]⟩
theorem F_tally_Up_text:pvFn F_tally_Up_env F_tally_Up_ann Tryz.f70 F_tally_Up_sig=F_tally_Up:=by kernel_rfl
noncomputable def F_tally_Down (z1:(Nat×Nat)):Option (Int):=
 (F_tally_parts z1).bind fun x2=>
 some x2.2.1
def F_tally_Down_sig:Sig:=⟨[.v false [.d (.cpx .f64)]],[(false,[.d (.int .i64)])]⟩
def F_tally_Down_ann:List (Nat×Ann):=[]
noncomputable def F_tally_Down_env:Env:=⟨Tryz.prog,[(111,⟨F_tally_parts_sig,⟨F_tally_parts⟩⟩)],[]⟩
theorem F_tally_Down_text:pvFn F_tally_Down_env F_tally_Down_ann Tryz.f71 F_tally_Down_sig=F_tally_Down:=by kernel_rfl
noncomputable def F_addr_Print_L7 (s1:List Int) (s:List (List Int)×Int):Option ((((List Int)⊕(Unit))⊕(List (List Int)))⊕(List (List Int)×Int)):=
 let l2:=s.1;let i3:=s.2
 cond (decide (i3 < 4))
 ((getI s1 i3).bind fun i4=>
 (F_strconv_Itoa (IntKind.i64.wrap i4)).bind fun s5=>
 chk (decide ((l2.length+([s5]:List (List Int)).length)*16<=140737488355328)&&decide (l2.length+([s5]:List (List Int)).length<=maxLen))
 (some (.inr ((l2++([s5]:List (List Int))),(IntKind.i64.wrap (i3+1))))))
 (some (.inl (.inr l2)))
noncomputable def F_addr_Print_J5 (s:List (List Int)):Option ((List Int)⊕(Unit)):=
 let l6:=s
 (F_strings_Join l6 ([46]:List Int)).bind fun s7=>
 some (.inl s7)
noncomputable def F_addr_Print_L16 (s1:List Int) (s:List (List Int)×Int):Option ((((List Int)⊕(Unit))⊕(List (List Int)))⊕(List (List Int)×Int)):=
 let l8:=s.1;let i9:=s.2
 cond (decide (i9 < 8))
 ((getI s1 (IntKind.i64.wrap (2*i9))).bind fun i10=>
 (getI s1 (IntKind.i64.wrap ((IntKind.i64.wrap (2*i9))+1))).bind fun i11=>
 (F_strconv_FormatInt (bits .or .i64 (IntKind.i64.wrap ((IntKind.i64.wrap i10)*2 ^ 8)) (IntKind.i64.wrap i11)) 16).bind fun s12=>
 chk (decide ((l8.length+([s12]:List (List Int)).length)*16<=140737488355328)&&decide (l8.length+([s12]:List (List Int)).length<=maxLen))
 (some (.inr ((l8++([s12]:List (List Int))),(IntKind.i64.wrap (i9+1))))))
 (some (.inl (.inr l8)))
noncomputable def F_addr_Print_J14 (s:List (List Int)):Option ((List Int)⊕(Unit)):=
 let l13:=s
 (F_strings_Join l13 ([58]:List Int)).bind fun s14=>
 some (.inl s14)
noncomputable def F_addr_Print_J2 (s:Unit):Option (List Int):=
 some ([]:List Int)
noncomputable def F_addr_Print (s1:List Int):Option (List Int):=
 joinC (S:=Unit) (R:=List Int)
 (cond ((s1.length:Int)==4)
 (joinC (S:=List (List Int)) (R:=(List Int)⊕(Unit))
 (loopC (S:=List (List Int)×Int) (R:=((List Int)⊕(Unit))⊕(List (List Int))) (F_addr_Print_L7 s1) (([]:List (List Int)),0))
 (F_addr_Print_J5))
 (cond ((s1.length:Int)==16)
 (joinC (S:=List (List Int)) (R:=(List Int)⊕(Unit))
 (loopC (S:=List (List Int)×Int) (R:=((List Int)⊕(Unit))⊕(List (List Int))) (F_addr_Print_L16 s1) (([]:List (List Int)),0))
 (F_addr_Print_J14))
 (some (.inr ()))))
 (F_addr_Print_J2)
def F_addr_Print_sig:Sig:=⟨[.v false [.d .str]],[(false,[.d .str])]⟩
def F_addr_Print_ann:List (Nat×Ann):=[(2,⟨3,[],[],(List.range' 2 47),[]⟩),(5,⟨6,[(3,false,[.own 9 .str])],[],([4]++List.range' 10 12),[]⟩),(7,⟨8,[(3,false,[.own 9 .str]),(10,false,[.d (.int .i64)])],[],([4]++List.range' 11 11),[]⟩),(14,⟨15,[(3,false,[.own 9 .str])],[],([5]++List.range' 26 21),[]⟩),(16,⟨17,[(3,false,[.own 9 .str]),(26,false,[.d (.int .i64)])],[],([5]++List.range' 27 20),[]⟩)]
noncomputable def F_addr_Print_env:Env:=⟨Tryz.prog,[(67,⟨F_strconv_Itoa_sig,⟨F_strconv_Itoa⟩⟩),(68,⟨F_strings_Join_sig,⟨F_strings_Join⟩⟩),(184,⟨F_strconv_FormatInt_sig,⟨F_strconv_FormatInt⟩⟩)],[]⟩
theorem F_addr_Print_text:pvFn F_addr_Print_env F_addr_Print_ann Tryz.f147 F_addr_Print_sig=F_addr_Print:=by kernel_rfl
noncomputable def F_addr_PrintNet (s1:List Int) (i2:Int):Option (List Int):=
 (F_addr_Print s1).bind fun s3=>
 chk (Nat.ble (s3.length+([47]:List Int).length) maxLen)
 ((F_strconv_Itoa i2).bind fun s4=>
 chk (Nat.ble ((s3++([47]:List Int)).length+s4.length) maxLen)
 (some ((s3++([47]:List Int))++s4)))
def F_addr_PrintNet_sig:Sig:=⟨[.v true [.d .str,.d (.int .i64)]],[(false,[.d .str])]⟩
def F_addr_PrintNet_ann:List (Nat×Ann):=[]
noncomputable def F_addr_PrintNet_env:Env:=⟨Tryz.prog,[(67,⟨F_strconv_Itoa_sig,⟨F_strconv_Itoa⟩⟩),(147,⟨F_addr_Print_sig,⟨F_addr_Print⟩⟩)],[]⟩
theorem F_addr_PrintNet_text:pvFn F_addr_PrintNet_env F_addr_PrintNet_ann Tryz.f112 F_addr_PrintNet_sig=F_addr_PrintNet:=by kernel_rfl
noncomputable def F_conf_Rule_line (b1:Bool) (i2:Int) (s3:List Int) (s4:List Int) (i5:Int) (i6:Int) (i7:Int) (s8:List Int):Option (List Int):=
 (F_strconv_Itoa i6).bind fun s9=>
 cond b1
 (cond (i2==0)
 (cond (i6==1)
 (cond (i7==65535)
 ((F_strings_Join ([([97,108,108,111,119]:List Int),s8,([42]:List Int),([42]:List Int)]:List (List Int)) ([32]:List Int)).bind fun s10=>
 some s10)
 (cond (i6 != i7)
 ((F_strconv_Itoa i7).bind fun s11=>
 chk (Nat.ble (([45]:List Int).length+s11.length) maxLen)
 (chk (Nat.ble (s9.length+(([45]:List Int)++s11).length) maxLen)
 ((F_strings_Join ([([97,108,108,111,119]:List Int),s8,([42]:List Int),(s9++(([45]:List Int)++s11))]:List (List Int)) ([32]:List Int)).bind fun s12=>
 some s12)))
 ((F_strings_Join ([([97,108,108,111,119]:List Int),s8,([42]:List Int),s9]:List (List Int)) ([32]:List Int)).bind fun s13=>
 some s13)))
 (cond (i6 != i7)
 ((F_strconv_Itoa i7).bind fun s14=>
 chk (Nat.ble (([45]:List Int).length+s14.length) maxLen)
 (chk (Nat.ble (s9.length+(([45]:List Int)++s14).length) maxLen)
 ((F_strings_Join ([([97,108,108,111,119]:List Int),s8,([42]:List Int),(s9++(([45]:List Int)++s14))]:List (List Int)) ([32]:List Int)).bind fun s15=>
 some s15)))
 ((F_strings_Join ([([97,108,108,111,119]:List Int),s8,([42]:List Int),s9]:List (List Int)) ([32]:List Int)).bind fun s16=>
 some s16)))
 (cond (i2==3)
 ((F_addr_PrintNet s4 i5).bind fun s17=>
 cond (i6==1)
 (cond (i7==65535)
 ((F_strings_Join ([([97,108,108,111,119]:List Int),s8,s17,([42]:List Int)]:List (List Int)) ([32]:List Int)).bind fun s18=>
 some s18)
 (cond (i6 != i7)
 ((F_strconv_Itoa i7).bind fun s19=>
 chk (Nat.ble (([45]:List Int).length+s19.length) maxLen)
 (chk (Nat.ble (s9.length+(([45]:List Int)++s19).length) maxLen)
 ((F_strings_Join ([([97,108,108,111,119]:List Int),s8,s17,(s9++(([45]:List Int)++s19))]:List (List Int)) ([32]:List Int)).bind fun s20=>
 some s20)))
 ((F_strings_Join ([([97,108,108,111,119]:List Int),s8,s17,s9]:List (List Int)) ([32]:List Int)).bind fun s21=>
 some s21)))
 (cond (i6 != i7)
 ((F_strconv_Itoa i7).bind fun s22=>
 chk (Nat.ble (([45]:List Int).length+s22.length) maxLen)
 (chk (Nat.ble (s9.length+(([45]:List Int)++s22).length) maxLen)
 ((F_strings_Join ([([97,108,108,111,119]:List Int),s8,s17,(s9++(([45]:List Int)++s22))]:List (List Int)) ([32]:List Int)).bind fun s23=>
 some s23)))
 ((F_strings_Join ([([97,108,108,111,119]:List Int),s8,s17,s9]:List (List Int)) ([32]:List Int)).bind fun s24=>
 some s24)))
 (cond (i6==1)
 (cond (i7==65535)
 ((F_strings_Join ([([97,108,108,111,119]:List Int),s8,s3,([42]:List Int)]:List (List Int)) ([32]:List Int)).bind fun s25=>
 some s25)
 (cond (i6 != i7)
 ((F_strconv_Itoa i7).bind fun s26=>
 chk (Nat.ble (([45]:List Int).length+s26.length) maxLen)
 (chk (Nat.ble (s9.length+(([45]:List Int)++s26).length) maxLen)
 ((F_strings_Join ([([97,108,108,111,119]:List Int),s8,s3,(s9++(([45]:List Int)++s26))]:List (List Int)) ([32]:List Int)).bind fun s27=>
 some s27)))
 ((F_strings_Join ([([97,108,108,111,119]:List Int),s8,s3,s9]:List (List Int)) ([32]:List Int)).bind fun s28=>
 some s28)))
 (cond (i6 != i7)
 ((F_strconv_Itoa i7).bind fun s29=>
 chk (Nat.ble (([45]:List Int).length+s29.length) maxLen)
 (chk (Nat.ble (s9.length+(([45]:List Int)++s29).length) maxLen)
 ((F_strings_Join ([([97,108,108,111,119]:List Int),s8,s3,(s9++(([45]:List Int)++s29))]:List (List Int)) ([32]:List Int)).bind fun s30=>
 some s30)))
 ((F_strings_Join ([([97,108,108,111,119]:List Int),s8,s3,s9]:List (List Int)) ([32]:List Int)).bind fun s31=>
 some s31)))))
 (cond (i2==0)
 (cond (i6==1)
 (cond (i7==65535)
 ((F_strings_Join ([([100,101,110,121]:List Int),s8,([42]:List Int),([42]:List Int)]:List (List Int)) ([32]:List Int)).bind fun s32=>
 some s32)
 (cond (i6 != i7)
 ((F_strconv_Itoa i7).bind fun s33=>
 chk (Nat.ble (([45]:List Int).length+s33.length) maxLen)
 (chk (Nat.ble (s9.length+(([45]:List Int)++s33).length) maxLen)
 ((F_strings_Join ([([100,101,110,121]:List Int),s8,([42]:List Int),(s9++(([45]:List Int)++s33))]:List (List Int)) ([32]:List Int)).bind fun s34=>
 some s34)))
 ((F_strings_Join ([([100,101,110,121]:List Int),s8,([42]:List Int),s9]:List (List Int)) ([32]:List Int)).bind fun s35=>
 some s35)))
 (cond (i6 != i7)
 ((F_strconv_Itoa i7).bind fun s36=>
 chk (Nat.ble (([45]:List Int).length+s36.length) maxLen)
 (chk (Nat.ble (s9.length+(([45]:List Int)++s36).length) maxLen)
 ((F_strings_Join ([([100,101,110,121]:List Int),s8,([42]:List Int),(s9++(([45]:List Int)++s36))]:List (List Int)) ([32]:List Int)).bind fun s37=>
 some s37)))
 ((F_strings_Join ([([100,101,110,121]:List Int),s8,([42]:List Int),s9]:List (List Int)) ([32]:List Int)).bind fun s38=>
 some s38)))
 (cond (i2==3)
 ((F_addr_PrintNet s4 i5).bind fun s39=>
 cond (i6==1)
 (cond (i7==65535)
 ((F_strings_Join ([([100,101,110,121]:List Int),s8,s39,([42]:List Int)]:List (List Int)) ([32]:List Int)).bind fun s40=>
 some s40)
 (cond (i6 != i7)
 ((F_strconv_Itoa i7).bind fun s41=>
 chk (Nat.ble (([45]:List Int).length+s41.length) maxLen)
 (chk (Nat.ble (s9.length+(([45]:List Int)++s41).length) maxLen)
 ((F_strings_Join ([([100,101,110,121]:List Int),s8,s39,(s9++(([45]:List Int)++s41))]:List (List Int)) ([32]:List Int)).bind fun s42=>
 some s42)))
 ((F_strings_Join ([([100,101,110,121]:List Int),s8,s39,s9]:List (List Int)) ([32]:List Int)).bind fun s43=>
 some s43)))
 (cond (i6 != i7)
 ((F_strconv_Itoa i7).bind fun s44=>
 chk (Nat.ble (([45]:List Int).length+s44.length) maxLen)
 (chk (Nat.ble (s9.length+(([45]:List Int)++s44).length) maxLen)
 ((F_strings_Join ([([100,101,110,121]:List Int),s8,s39,(s9++(([45]:List Int)++s44))]:List (List Int)) ([32]:List Int)).bind fun s45=>
 some s45)))
 ((F_strings_Join ([([100,101,110,121]:List Int),s8,s39,s9]:List (List Int)) ([32]:List Int)).bind fun s46=>
 some s46)))
 (cond (i6==1)
 (cond (i7==65535)
 ((F_strings_Join ([([100,101,110,121]:List Int),s8,s3,([42]:List Int)]:List (List Int)) ([32]:List Int)).bind fun s47=>
 some s47)
 (cond (i6 != i7)
 ((F_strconv_Itoa i7).bind fun s48=>
 chk (Nat.ble (([45]:List Int).length+s48.length) maxLen)
 (chk (Nat.ble (s9.length+(([45]:List Int)++s48).length) maxLen)
 ((F_strings_Join ([([100,101,110,121]:List Int),s8,s3,(s9++(([45]:List Int)++s48))]:List (List Int)) ([32]:List Int)).bind fun s49=>
 some s49)))
 ((F_strings_Join ([([100,101,110,121]:List Int),s8,s3,s9]:List (List Int)) ([32]:List Int)).bind fun s50=>
 some s50)))
 (cond (i6 != i7)
 ((F_strconv_Itoa i7).bind fun s51=>
 chk (Nat.ble (([45]:List Int).length+s51.length) maxLen)
 (chk (Nat.ble (s9.length+(([45]:List Int)++s51).length) maxLen)
 ((F_strings_Join ([([100,101,110,121]:List Int),s8,s3,(s9++(([45]:List Int)++s51))]:List (List Int)) ([32]:List Int)).bind fun s52=>
 some s52)))
 ((F_strings_Join ([([100,101,110,121]:List Int),s8,s3,s9]:List (List Int)) ([32]:List Int)).bind fun s53=>
 some s53)))))
def F_conf_Rule_line_sig:Sig:=⟨[.v true [.d .bool,.d (.int .i64),.d .str,.d .str,.d (.int .i64),.d (.int .i64),.d (.int .i64)],.v false [.d .str]],[(false,[.d .str])]⟩
def F_conf_Rule_line_ann:List (Nat×Ann):=[]
noncomputable def F_conf_Rule_line_env:Env:=⟨Tryz.prog,[(67,⟨F_strconv_Itoa_sig,⟨F_strconv_Itoa⟩⟩),(68,⟨F_strings_Join_sig,⟨F_strings_Join⟩⟩),(112,⟨F_addr_PrintNet_sig,⟨F_addr_PrintNet⟩⟩)],[]⟩
theorem F_conf_Rule_line_text:pvFn F_conf_Rule_line_env F_conf_Rule_line_ann Tryz.f72 F_conf_Rule_line_sig=F_conf_Rule_line:=by kernel_rfl
noncomputable def F_conf_Print_L18 (x12:UserD) (s:List (List Int)×Int):Option (((((List (List Int))⊕(List (List Int)))⊕(List (List Int)×Int))⊕(List (List Int)))⊕(List (List Int)×Int)):=
 let l22:=s.1;let i23:=s.2
 cond (decide (i23 < (x12.2.2.2.2.length:Int)))
 ((getI x12.2.2.2.2 i23).bind fun x24=>
 (F_conf_Rule_line x24.1 x24.2.1 x24.2.2.1 x24.2.2.2.1.1 x24.2.2.2.1.2 x24.2.2.2.2.1 x24.2.2.2.2.2 x12.1).bind fun s25=>
 chk (decide ((l22.length+([s25]:List (List Int)).length)*16<=140737488355328)&&decide (l22.length+([s25]:List (List Int)).length<=maxLen))
 (some (.inr ((l22++([s25]:List (List Int))),(IntKind.i64.wrap (i23+1))))))
 (some (.inl (.inr l22)))
noncomputable def F_conf_Print_J14 (i11:Int) (s:List (List Int)):Option (((List (List Int))⊕(List (List Int)))⊕(List (List Int)×Int)):=
 let l26:=s
 some (.inr (l26,(IntKind.i64.wrap (i11+1))))
noncomputable def F_conf_Print_L11 (l8:List UserD) (s:List (List Int)×Int):Option (((List (List Int))⊕(List (List Int)))⊕(List (List Int)×Int)):=
 let l10:=s.1;let i11:=s.2
 cond (decide (i11 < (l8.length:Int)))
 (joinC (S:=List (List Int)) (R:=((List (List Int))⊕(List (List Int)))⊕(List (List Int)×Int))
 ((getI l8 i11).bind fun x12=>
 (F_conf_Hex x12.2.1.1).bind fun s13=>
 (F_conf_Hex x12.2.1.2).bind fun s14=>
 (F_strconv_Itoa x12.2.2.1).bind fun s15=>
 (F_tally_Up x12.2.2.2.1).bind fun i17=>
 (F_strconv_Itoa i17).bind fun s18=>
 (F_tally_Down x12.2.2.2.1).bind fun i19=>
 (F_strconv_Itoa i19).bind fun s20=>
 (F_strings_Join ([([117,115,101,114]:List Int),x12.1,s13,s14,s15,s18,s20]:List (List Int)) ([32]:List Int)).bind fun s21=>
 chk (decide ((l10.length+([s21]:List (List Int)).length)*16<=140737488355328)&&decide (l10.length+([s21]:List (List Int)).length<=maxLen))
 (loopC (S:=List (List Int)×Int) (R:=(((List (List Int))⊕(List (List Int)))⊕(List (List Int)×Int))⊕(List (List Int))) (F_conf_Print_L18 x12) ((l10++([s21]:List (List Int))),0)))
 (F_conf_Print_J14 i11))
 (some (.inl (.inr l10)))
noncomputable def F_conf_Print_J9 (s:List (List Int)):Option (List (List Int)):=
 let l27:=s
 some l27
noncomputable def F_conf_Print_mid (i1:Int) (i2:Int) (i3:Int) (i4:Int) (i5:Int) (i6:Int) (i7:Int) (l8:List UserD) (l9:List (List Int)):Option (List (List Int)):=
 joinC (S:=List (List Int)) (R:=List (List Int))
 (loopC (S:=List (List Int)×Int) (R:=(List (List Int))⊕(List (List Int))) (F_conf_Print_L11 l8) (l9,0))
 (F_conf_Print_J9)
def F_conf_Print_sig:Sig:=⟨[.v true [.d (.int .i64),.d (.int .i64),.d (.int .i64),.d (.int .i64),.d (.int .i64),.d (.int .i64),.d (.int .i64),.d (.sl (.pr .str (.pr (.pr (.sl (.int .u8)) (.sl (.int .u8))) (.pr (.int .i64) (.pr (.cpx .f64) (.sl (.pr .bool (.pr (.int .i64) (.pr .str (.pr (.pr .str (.int .i64)) (.pr (.int .i64) (.int .i64))))))))))))]],[(false,[.own 9 .str])]⟩
def F_conf_Print_ann:List (Nat×Ann):=[(9,⟨10,[(3,false,[.own 9 .str])],[],([7,9]++List.range' 30 49),[]⟩),(11,⟨12,[(3,false,[.own 9 .str]),(33,false,[.d (.int .i64)])],[],([7,9]++List.range' 34 45),[]⟩),(14,⟨15,[(3,false,[.own 9 .str])],[],([7,9]++List.range' 35 43),[]⟩),(18,⟨19,[(3,false,[.own 9 .str]),(66,false,[.d (.int .i64)])],[],([9]++List.range' 67 11),[7]⟩)]
noncomputable def F_conf_Print_env:Env:=⟨Tryz.prog,[(67,⟨F_strconv_Itoa_sig,⟨F_strconv_Itoa⟩⟩),(68,⟨F_strings_Join_sig,⟨F_strings_Join⟩⟩),(69,⟨F_conf_Hex_sig,⟨F_conf_Hex⟩⟩),(70,⟨F_tally_Up_sig,⟨F_tally_Up⟩⟩),(71,⟨F_tally_Down_sig,⟨F_tally_Down⟩⟩),(72,⟨F_conf_Rule_line_sig,⟨F_conf_Rule_line⟩⟩)],[]⟩
def F_conf_Print_st (i1:Int) (i2:Int) (i3:Int) (i4:Int) (i5:Int) (i6:Int) (i7:Int) (l8:List UserD) (l9:List (List Int)):PSt:=⟨fun i=>match i with | 1=>.loc 1 0 | 3=>.w false [.own (.hd 0 0) 9 .str l9] | _=>.dead,fun k=>match k with | 1=>some (0,[.d (.int .i64) i1,.d (.int .i64) i2,.d (.int .i64) i3,.d (.int .i64) i4,.d (.int .i64) i5,.d (.int .i64) i6,.d (.int .i64) i7,.d (.sl (.pr .str (.pr (.pr (.sl (.int .u8)) (.sl (.int .u8))) (.pr (.int .i64) (.pr (.cpx .f64) (.sl (.pr .bool (.pr (.int .i64) (.pr .str (.pr (.pr .str (.int .i64)) (.pr (.int .i64) (.int .i64)))))))))))) l8]) | _=>none,fun t=>hasT [.zero,.hd 0 0] t,[],[],[]⟩
theorem F_conf_Print_text:(fun (i1:Int) (i2:Int) (i3:Int) (i4:Int) (i5:Int) (i6:Int) (i7:Int) (l8:List UserD) (l9:List (List Int))=>pvMidF F_conf_Print_env F_conf_Print_ann 9 7 Tryz.f37 F_conf_Print_sig (F_conf_Print_st i1 i2 i3 i4 i5 i6 i7 l8 l9))=F_conf_Print_mid:=by kernel_rfl
noncomputable def F_conf_copied (s1:List Int) (l2:List Int) (l3:List Int) (i4:Int) (z5:(Nat×Nat)) (l6:List RuleD):Option (List Int×List Int×List Int×Int×(Nat×Nat)×List RuleD):=
 (F_bytes_Clone l2).bind fun l7=>
 (F_bytes_Clone l3).bind fun l8=>
 (F_slices_Clone_conf_Rule_conf_Rule l6).bind fun l9=>
 some (s1,l7,l8,i4,z5,l9)
def F_conf_copied_sig:Sig:=⟨[.v true [.d .str,.d (.sl (.int .u8)),.d (.sl (.int .u8)),.d (.int .i64),.d (.cpx .f64),.d (.sl (.pr .bool (.pr (.int .i64) (.pr .str (.pr (.pr .str (.int .i64)) (.pr (.int .i64) (.int .i64)))))))]],[(true,[.d .str,.own 5 (.int .u8),.own 5 (.int .u8),.d (.int .i64),.d (.cpx .f64),.own 68 (.pr .bool (.pr (.int .i64) (.pr .str (.pr (.pr .str (.int .i64)) (.pr (.int .i64) (.int .i64))))))])]⟩
def F_conf_copied_ann:List (Nat×Ann):=[]
noncomputable def F_conf_copied_env:Env:=⟨Tryz.prog,[(52,⟨F_bytes_Clone_sig,⟨F_bytes_Clone⟩⟩),(107,⟨F_slices_Clone_conf_Rule_conf_Rule_sig,⟨F_slices_Clone_conf_Rule_conf_Rule⟩⟩)],[]⟩
theorem F_conf_copied_text:pvFn F_conf_copied_env F_conf_copied_ann Tryz.f66 F_conf_copied_sig=F_conf_copied:=by kernel_rfl
noncomputable def F_conf_Find_L3 (l8:List UserD) (s9:List Int) (s:Int×List Int×List Int×List Int×Int×(Nat×Nat)×List RuleD):Option (((List Int×List Int×List Int×Int×(Nat×Nat)×List RuleD×Bool)⊕(List Int×List Int×List Int×Int×(Nat×Nat)×List RuleD))⊕(Int×List Int×List Int×List Int×Int×(Nat×Nat)×List RuleD)):=
 let i10:=s.1;let s11:=s.2.1;let l12:=s.2.2.1;let l13:=s.2.2.2.1;let i14:=s.2.2.2.2.1;let z15:=s.2.2.2.2.2.1;let l16:=s.2.2.2.2.2.2
 cond (decide (i10 < (l8.length:Int)))
 ((getI l8 i10).bind fun x17=>
 cond (x17.1==s9)
 ((F_conf_copied x17.1 x17.2.1.1 x17.2.1.2 x17.2.2.1 x17.2.2.2.1 x17.2.2.2.2).bind fun x18=>
 some (.inl (.inl (x18.1,x18.2.1,x18.2.2.1,x18.2.2.2.1,x18.2.2.2.2.1,x18.2.2.2.2.2,true))))
 (some (.inr ((IntKind.i64.wrap (i10+1)),s11,l12,l13,i14,z15,l16))))
 (some (.inl (.inr (s11,l12,l13,i14,z15,l16))))
noncomputable def F_conf_Find_J1 (s:List Int×List Int×List Int×Int×(Nat×Nat)×List RuleD):Option (List Int×List Int×List Int×Int×(Nat×Nat)×List RuleD×Bool):=
 let s19:=s.1;let l20:=s.2.1;let l21:=s.2.2.1;let i22:=s.2.2.2.1;let z23:=s.2.2.2.2.1;let l24:=s.2.2.2.2.2
 some (([]:List Int),([]:List Int),([]:List Int),0,(0,0),([]:List RuleD),false)
noncomputable def F_conf_Find (i1:Int) (i2:Int) (i3:Int) (i4:Int) (i5:Int) (i6:Int) (i7:Int) (l8:List UserD) (s9:List Int):Option (List Int×List Int×List Int×Int×(Nat×Nat)×List RuleD×Bool):=
 joinC (S:=List Int×List Int×List Int×Int×(Nat×Nat)×List RuleD) (R:=List Int×List Int×List Int×Int×(Nat×Nat)×List RuleD×Bool)
 (loopC (S:=Int×List Int×List Int×List Int×Int×(Nat×Nat)×List RuleD) (R:=(List Int×List Int×List Int×Int×(Nat×Nat)×List RuleD×Bool)⊕(List Int×List Int×List Int×Int×(Nat×Nat)×List RuleD)) (F_conf_Find_L3 l8 s9) (0,([]:List Int),([]:List Int),([]:List Int),0,(0,0),([]:List RuleD)))
 (F_conf_Find_J1)
def F_conf_Find_sig:Sig:=⟨[.v true [.d (.int .i64),.d (.int .i64),.d (.int .i64),.d (.int .i64),.d (.int .i64),.d (.int .i64),.d (.int .i64),.d (.sl (.pr .str (.pr (.pr (.sl (.int .u8)) (.sl (.int .u8))) (.pr (.int .i64) (.pr (.cpx .f64) (.sl (.pr .bool (.pr (.int .i64) (.pr .str (.pr (.pr .str (.int .i64)) (.pr (.int .i64) (.int .i64))))))))))))],.v false [.d .str]],[(true,[.d .str,.own 5 (.int .u8),.own 5 (.int .u8),.d (.int .i64),.d (.cpx .f64),.own 68 (.pr .bool (.pr (.int .i64) (.pr .str (.pr (.pr .str (.int .i64)) (.pr (.int .i64) (.int .i64))))))]),(false,[.d .bool])]⟩
def F_conf_Find_ann:List (Nat×Ann):=[(1,⟨2,[],[(4,[.d .str,.own 5 (.int .u8),.own 5 (.int .u8),.d (.int .i64),.d (.cpx .f64),.own 68 (.pr .bool (.pr (.int .i64) (.pr .str (.pr (.pr .str (.int .i64)) (.pr (.int .i64) (.int .i64))))))])],([5]++List.range' 7 15),[]⟩),(3,⟨4,[(11,false,[.d (.int .i64)])],[(4,[.d .str,.own 5 (.int .u8),.own 5 (.int .u8),.d (.int .i64),.d (.cpx .f64),.own 68 (.pr .bool (.pr (.int .i64) (.pr .str (.pr (.pr .str (.int .i64)) (.pr (.int .i64) (.int .i64))))))])],([5,7]++List.range' 12 10),[]⟩)]
noncomputable def F_conf_Find_env:Env:=⟨Tryz.prog,[(66,⟨F_conf_copied_sig,⟨F_conf_copied⟩⟩)],[]⟩
theorem F_conf_Find_text:pvFn F_conf_Find_env F_conf_Find_ann Tryz.f34 F_conf_Find_sig=F_conf_Find:=by kernel_rfl
noncomputable def F_wlvref_Words_L3 (l2:List Int) (s:List Int×Int):Option (((List Int)⊕(List Int))⊕(List Int×Int)):=
 let s3:=s.1;let i4:=s.2
 cond (decide (i4 < (l2.length:Int)))
 ((getI l2 i4).bind fun i5=>
 (F_wlvref_Dec i5).bind fun s6=>
 chk (Nat.ble (([32]:List Int).length+s6.length) maxLen)
 (chk (Nat.ble (s3.length+(([32]:List Int)++s6).length) maxLen)
 (some (.inr ((s3++(([32]:List Int)++s6)),(IntKind.i64.wrap (i4+1)))))))
 (some (.inl (.inr s3)))
noncomputable def F_wlvref_Words_J1 (s:List Int):Option (List Int):=
 let s7:=s
 some s7
noncomputable def F_wlvref_Words (s1:List Int) (l2:List Int):Option (List Int):=
 joinC (S:=List Int) (R:=List Int)
 (loopC (S:=List Int×Int) (R:=(List Int)⊕(List Int)) (F_wlvref_Words_L3 l2) (s1,0))
 (F_wlvref_Words_J1)
def F_wlvref_Words_sig:Sig:=⟨[.v false [.d .str],.v false [.d (.sl (.int .i64))]],[(false,[.d .str])]⟩
def F_wlvref_Words_ann:List (Nat×Ann):=[(1,⟨2,[(0,false,[.d .str])],[],(List.range' 5 15),[]⟩),(3,⟨4,[(0,false,[.d .str]),(5,false,[.d (.int .i64)])],[],(List.range' 6 14),[]⟩)]
noncomputable def F_wlvref_Words_env:Env:=⟨Tryz.prog,[(30,⟨F_wlvref_Dec_sig,⟨F_wlvref_Dec⟩⟩)],[]⟩
theorem F_wlvref_Words_text:pvFn F_wlvref_Words_env F_wlvref_Words_ann Tryz.f74 F_wlvref_Words_sig=F_wlvref_Words:=by kernel_rfl
noncomputable def F_wlvref18_Hex_L4 (l1:List Int) (s:List Int×Int):Option (((List Int)⊕(List Int))⊕(List Int×Int)):=
 let l2:=s.1;let i3:=s.2
 cond (decide (i3 < (l1.length:Int)))
 ((getI l1 i3).bind fun i4=>
 (getI ([48,49,50,51,52,53,54,55,56,57,97,98,99,100,101,102]:List Int) (Int.fdiv i4 (2 ^ 4))).bind fun i5=>
 (getI l1 i3).bind fun i6=>
 (getI ([48,49,50,51,52,53,54,55,56,57,97,98,99,100,101,102]:List Int) (bits .and .u8 i6 15)).bind fun i7=>
 chk (decide ((l2.length+([i5,i7]:List Int).length)*1<=140737488355328)&&decide (l2.length+([i5,i7]:List Int).length<=maxLen))
 (some (.inr ((l2++([i5,i7]:List Int)),(IntKind.i64.wrap (i3+1))))))
 (some (.inl (.inr l2)))
noncomputable def F_wlvref18_Hex_J2 (s:List Int):Option (List Int):=
 let l8:=s
 some l8
noncomputable def F_wlvref18_Hex (l1:List Int):Option (List Int):=
 joinC (S:=List Int) (R:=List Int)
 (loopC (S:=List Int×Int) (R:=(List Int)⊕(List Int)) (F_wlvref18_Hex_L4 l1) (([]:List Int),0))
 (F_wlvref18_Hex_J2)
def F_wlvref18_Hex_sig:Sig:=⟨[.v false [.d (.sl (.int .u8))]],[(false,[.d .str])]⟩
def F_wlvref18_Hex_ann:List (Nat×Ann):=[(2,⟨3,[(3,false,[.own 5 (.int .u8)])],[],(List.range' 4 22),[]⟩),(4,⟨5,[(3,false,[.own 5 (.int .u8)]),(4,false,[.d (.int .i64)])],[],(List.range' 5 21),[]⟩)]
noncomputable def F_wlvref18_Hex_env:Env:=⟨Tryz.prog,[],[]⟩
theorem F_wlvref18_Hex_text:pvFn F_wlvref18_Hex_env F_wlvref18_Hex_ann Tryz.f75 F_wlvref18_Hex_sig=F_wlvref18_Hex:=by kernel_rfl
noncomputable def F_wlvref1_part (q1:Nat):Option (Bool):=
 cond ((fgt .f64 q1 0||feq .f64 q1 0)&&(flt .f64 q1 4832362400168542208||feq .f64 q1 4832362400168542208))
 ((ftoI .f64 .i64 q1).bind fun i2=>
 some (feq .f64 q1 (foI .f64 i2)))
 (some false)
def F_wlvref1_part_sig:Sig:=⟨[.v false [.d (.flo .f64)]],[(false,[.d .bool])]⟩
def F_wlvref1_part_ann:List (Nat×Ann):=[]
noncomputable def F_wlvref1_part_env:Env:=⟨Tryz.prog,[],[]⟩
theorem F_wlvref1_part_text:pvFn F_wlvref1_part_env F_wlvref1_part_ann Tryz.f148 F_wlvref1_part_sig=F_wlvref1_part:=by kernel_rfl
noncomputable def F_wlvref1_Is (z1:(Nat×Nat)):Option (Bool):=
 (F_wlvref1_part z1.1).bind fun b2=>
 cond b2
 ((F_wlvref1_part z1.2).bind fun b3=>
 some b3)
 (some false)
def F_wlvref1_Is_sig:Sig:=⟨[.v false [.d (.cpx .f64)]],[(false,[.d .bool])]⟩
def F_wlvref1_Is_ann:List (Nat×Ann):=[]
noncomputable def F_wlvref1_Is_env:Env:=⟨Tryz.prog,[(148,⟨F_wlvref1_part_sig,⟨F_wlvref1_part⟩⟩)],[]⟩
theorem F_wlvref1_Is_text:pvFn F_wlvref1_Is_env F_wlvref1_Is_ann Tryz.f113 F_wlvref1_Is_sig=F_wlvref1_Is:=by kernel_rfl
noncomputable def F_wlvref1_Up (z1:(Nat×Nat)):Option (Int):=
 (F_wlvref1_Is z1).bind fun b2=>
 cond (!b2)
 (some 0)
 ((ftoI .f64 .i64 z1.1).bind fun i3=>
 some i3)
def F_wlvref1_Up_sig:Sig:=⟨[.v false [.d (.cpx .f64)]],[(false,[.d (.int .i64)])]⟩
def F_wlvref1_Up_ann:List (Nat×Ann):=[]
noncomputable def F_wlvref1_Up_env:Env:=⟨Tryz.prog,[(113,⟨F_wlvref1_Is_sig,⟨F_wlvref1_Is⟩⟩)],[]⟩
theorem F_wlvref1_Up_text:pvFn F_wlvref1_Up_env F_wlvref1_Up_ann Tryz.f76 F_wlvref1_Up_sig=F_wlvref1_Up:=by kernel_rfl
noncomputable def F_wlvref1_Down (z1:(Nat×Nat)):Option (Int):=
 (F_wlvref1_Is z1).bind fun b2=>
 cond (!b2)
 (some 0)
 ((ftoI .f64 .i64 z1.2).bind fun i3=>
 some i3)
def F_wlvref1_Down_sig:Sig:=⟨[.v false [.d (.cpx .f64)]],[(false,[.d (.int .i64)])]⟩
def F_wlvref1_Down_ann:List (Nat×Ann):=[]
noncomputable def F_wlvref1_Down_env:Env:=⟨Tryz.prog,[(113,⟨F_wlvref1_Is_sig,⟨F_wlvref1_Is⟩⟩)],[]⟩
theorem F_wlvref1_Down_text:pvFn F_wlvref1_Down_env F_wlvref1_Down_ann Tryz.f77 F_wlvref1_Down_sig=F_wlvref1_Down:=by kernel_rfl
noncomputable def F_wlvref15_hex_step (r0:Int->Option (List Int)) (i1:Int):Option (List Int):=
 (cutI ([48,49,50,51,52,53,54,55,56,57,97,98,99,100,101,102]:List Int) (bits .and .i64 i1 15) (IntKind.i64.wrap ((bits .and .i64 i1 15)+1))).bind fun s2=>
 cond (decide (i1 < 16))
 (some s2)
 ((r0 (Int.fdiv i1 (2 ^ 4))).bind fun s3=>
 chk (Nat.ble (s3.length+s2.length) maxLen)
 (some (s3++s2)))
def F_wlvref15_hex_sig:Sig:=⟨[.v false [.d (.int .i64)]],[(false,[.d .str])]⟩
def F_wlvref15_hex_ann:List (Nat×Ann):=[]
noncomputable def F_wlvref15_hex_env (r0:Int->Option (List Int)):Env:=⟨Tryz.prog,[(185,⟨F_wlvref15_hex_sig,⟨r0⟩⟩)],[]⟩
theorem F_wlvref15_hex_text (r0:Int->Option (List Int)):pvFn (F_wlvref15_hex_env r0) F_wlvref15_hex_ann Tryz.f185 F_wlvref15_hex_sig=F_wlvref15_hex_step r0:=by kernel_rfl
noncomputable def F_wlvref15_hex_fuel:Nat->Int->Option (List Int)
 | 0=>Pv.botF (α:=List Int) [(.int .i64)]
 | k+1=>F_wlvref15_hex_step (F_wlvref15_hex_fuel k)
noncomputable def F_wlvref15_hex:Int->Option (List Int):=F_wlvref15_hex_fuel 64
noncomputable def F_wlvref15_Print_L6 (s1:List Int) (s:List Int×Int):Option (((List Int)⊕(List Int))⊕(List Int×Int)):=
 let s2:=s.1;let i3:=s.2
 cond (decide (i3 < 4))
 (cond (decide (i3 > 0))
 (chk (Nat.ble (s2.length+([46]:List Int).length) maxLen)
 ((getI s1 i3).bind fun i4=>
 (F_wlvref_Dec (IntKind.i64.wrap i4)).bind fun s5=>
 chk (Nat.ble ((s2++([46]:List Int)).length+s5.length) maxLen)
 (some (.inr (((s2++([46]:List Int))++s5),(IntKind.i64.wrap (i3+1)))))))
 ((getI s1 i3).bind fun i6=>
 (F_wlvref_Dec (IntKind.i64.wrap i6)).bind fun s7=>
 chk (Nat.ble (s2.length+s7.length) maxLen)
 (some (.inr ((s2++s7),(IntKind.i64.wrap (i3+1)))))))
 (some (.inl (.inr s2)))
noncomputable def F_wlvref15_Print_L14 (s1:List Int) (s:List Int×Int):Option (((List Int)⊕(List Int))⊕(List Int×Int)):=
 let s8:=s.1;let i9:=s.2
 cond (decide (i9 < 16))
 (cond (decide (i9 > 0))
 (chk (Nat.ble (s8.length+([58]:List Int).length) maxLen)
 ((getI s1 i9).bind fun i10=>
 (getI s1 (IntKind.i64.wrap (i9+1))).bind fun i11=>
 (F_wlvref15_hex (bits .or .i64 (IntKind.i64.wrap ((IntKind.i64.wrap i10)*2 ^ 8)) (IntKind.i64.wrap i11))).bind fun s12=>
 chk (Nat.ble ((s8++([58]:List Int)).length+s12.length) maxLen)
 (some (.inr (((s8++([58]:List Int))++s12),(IntKind.i64.wrap (i9+2)))))))
 ((getI s1 i9).bind fun i13=>
 (getI s1 (IntKind.i64.wrap (i9+1))).bind fun i14=>
 (F_wlvref15_hex (bits .or .i64 (IntKind.i64.wrap ((IntKind.i64.wrap i13)*2 ^ 8)) (IntKind.i64.wrap i14))).bind fun s15=>
 chk (Nat.ble (s8.length+s15.length) maxLen)
 (some (.inr ((s8++s15),(IntKind.i64.wrap (i9+2)))))))
 (some (.inl (.inr s8)))
noncomputable def F_wlvref15_Print_J2 (s:List Int):Option (List Int):=
 let s16:=s
 some s16
noncomputable def F_wlvref15_Print (s1:List Int):Option (List Int):=
 joinC (S:=List Int) (R:=List Int)
 (cond ((s1.length:Int)==4)
 (loopC (S:=List Int×Int) (R:=(List Int)⊕(List Int)) (F_wlvref15_Print_L6 s1) (([]:List Int),0))
 (cond ((s1.length:Int)==16)
 (loopC (S:=List Int×Int) (R:=(List Int)⊕(List Int)) (F_wlvref15_Print_L14 s1) (([]:List Int),0))
 (some (.inr ([]:List Int)))))
 (F_wlvref15_Print_J2)
def F_wlvref15_Print_sig:Sig:=⟨[.v false [.d .str]],[(false,[.d .str])]⟩
def F_wlvref15_Print_ann:List (Nat×Ann):=[(2,⟨3,[(3,false,[.d .str])],[],(List.range' 4 45),[]⟩),(6,⟨7,[(3,false,[.d .str]),(4,false,[.d (.int .i64)])],[],(List.range' 10 15),[]⟩),(14,⟨15,[(3,false,[.d .str]),(5,false,[.d (.int .i64)])],[],(List.range' 27 22),[]⟩)]
noncomputable def F_wlvref15_Print_env:Env:=⟨Tryz.prog,[(30,⟨F_wlvref_Dec_sig,⟨F_wlvref_Dec⟩⟩),(185,⟨F_wlvref15_hex_sig,⟨F_wlvref15_hex⟩⟩)],[]⟩
theorem F_wlvref15_Print_text:pvFn F_wlvref15_Print_env F_wlvref15_Print_ann Tryz.f149 F_wlvref15_Print_sig=F_wlvref15_Print:=by kernel_rfl
noncomputable def F_wlvref15_PrintNet (s1:List Int) (i2:Int):Option (List Int):=
 (F_wlvref15_Print s1).bind fun s3=>
 chk (Nat.ble (s3.length+([47]:List Int).length) maxLen)
 ((F_wlvref_Dec i2).bind fun s4=>
 chk (Nat.ble ((s3++([47]:List Int)).length+s4.length) maxLen)
 (some ((s3++([47]:List Int))++s4)))
def F_wlvref15_PrintNet_sig:Sig:=⟨[.v true [.d .str,.d (.int .i64)]],[(false,[.d .str])]⟩
def F_wlvref15_PrintNet_ann:List (Nat×Ann):=[]
noncomputable def F_wlvref15_PrintNet_env:Env:=⟨Tryz.prog,[(30,⟨F_wlvref_Dec_sig,⟨F_wlvref_Dec⟩⟩),(149,⟨F_wlvref15_Print_sig,⟨F_wlvref15_Print⟩⟩)],[]⟩
theorem F_wlvref15_PrintNet_text:pvFn F_wlvref15_PrintNet_env F_wlvref15_PrintNet_ann Tryz.f114 F_wlvref15_PrintNet_sig=F_wlvref15_PrintNet:=by kernel_rfl
noncomputable def F_wlvref18_printRule (s1:List Int) (b2:Bool) (i3:Int) (s4:List Int) (s5:List Int) (i6:Int) (i7:Int) (i9:Int):Option (List Int):=
 cond b2
 (cond (i3==0)
 ((F_wlvref_Dec i7).bind fun s10=>
 cond (i7==1)
 (cond (i9==65535)
 (chk (Nat.ble (([97,108,108,111,119,32]:List Int).length+s1.length) maxLen)
 (chk (Nat.ble ((([97,108,108,111,119,32]:List Int)++s1).length+([32]:List Int).length) maxLen)
 (chk (Nat.ble (((([97,108,108,111,119,32]:List Int)++s1)++([32]:List Int)).length+([42]:List Int).length) maxLen)
 (chk (Nat.ble ((((([97,108,108,111,119,32]:List Int)++s1)++([32]:List Int))++([42]:List Int)).length+([32]:List Int).length) maxLen)
 (chk (Nat.ble (((((([97,108,108,111,119,32]:List Int)++s1)++([32]:List Int))++([42]:List Int))++([32]:List Int)).length+([42]:List Int).length) maxLen)
 (some (((((([97,108,108,111,119,32]:List Int)++s1)++([32]:List Int))++([42]:List Int))++([32]:List Int))++([42]:List Int))))))))
 (cond (i7 != i9)
 ((F_wlvref_Dec i9).bind fun s11=>
 chk (Nat.ble (([45]:List Int).length+s11.length) maxLen)
 (chk (Nat.ble (s10.length+(([45]:List Int)++s11).length) maxLen)
 (chk (Nat.ble (([97,108,108,111,119,32]:List Int).length+s1.length) maxLen)
 (chk (Nat.ble ((([97,108,108,111,119,32]:List Int)++s1).length+([32]:List Int).length) maxLen)
 (chk (Nat.ble (((([97,108,108,111,119,32]:List Int)++s1)++([32]:List Int)).length+([42]:List Int).length) maxLen)
 (chk (Nat.ble ((((([97,108,108,111,119,32]:List Int)++s1)++([32]:List Int))++([42]:List Int)).length+([32]:List Int).length) maxLen)
 (chk (Nat.ble (((((([97,108,108,111,119,32]:List Int)++s1)++([32]:List Int))++([42]:List Int))++([32]:List Int)).length+(s10++(([45]:List Int)++s11)).length) maxLen)
 (some (((((([97,108,108,111,119,32]:List Int)++s1)++([32]:List Int))++([42]:List Int))++([32]:List Int))++(s10++(([45]:List Int)++s11)))))))))))
 (chk (Nat.ble (([97,108,108,111,119,32]:List Int).length+s1.length) maxLen)
 (chk (Nat.ble ((([97,108,108,111,119,32]:List Int)++s1).length+([32]:List Int).length) maxLen)
 (chk (Nat.ble (((([97,108,108,111,119,32]:List Int)++s1)++([32]:List Int)).length+([42]:List Int).length) maxLen)
 (chk (Nat.ble ((((([97,108,108,111,119,32]:List Int)++s1)++([32]:List Int))++([42]:List Int)).length+([32]:List Int).length) maxLen)
 (chk (Nat.ble (((((([97,108,108,111,119,32]:List Int)++s1)++([32]:List Int))++([42]:List Int))++([32]:List Int)).length+s10.length) maxLen)
 (some (((((([97,108,108,111,119,32]:List Int)++s1)++([32]:List Int))++([42]:List Int))++([32]:List Int))++s10)))))))))
 (cond (i7 != i9)
 ((F_wlvref_Dec i9).bind fun s12=>
 chk (Nat.ble (([45]:List Int).length+s12.length) maxLen)
 (chk (Nat.ble (s10.length+(([45]:List Int)++s12).length) maxLen)
 (chk (Nat.ble (([97,108,108,111,119,32]:List Int).length+s1.length) maxLen)
 (chk (Nat.ble ((([97,108,108,111,119,32]:List Int)++s1).length+([32]:List Int).length) maxLen)
 (chk (Nat.ble (((([97,108,108,111,119,32]:List Int)++s1)++([32]:List Int)).length+([42]:List Int).length) maxLen)
 (chk (Nat.ble ((((([97,108,108,111,119,32]:List Int)++s1)++([32]:List Int))++([42]:List Int)).length+([32]:List Int).length) maxLen)
 (chk (Nat.ble (((((([97,108,108,111,119,32]:List Int)++s1)++([32]:List Int))++([42]:List Int))++([32]:List Int)).length+(s10++(([45]:List Int)++s12)).length) maxLen)
 (some (((((([97,108,108,111,119,32]:List Int)++s1)++([32]:List Int))++([42]:List Int))++([32]:List Int))++(s10++(([45]:List Int)++s12)))))))))))
 (chk (Nat.ble (([97,108,108,111,119,32]:List Int).length+s1.length) maxLen)
 (chk (Nat.ble ((([97,108,108,111,119,32]:List Int)++s1).length+([32]:List Int).length) maxLen)
 (chk (Nat.ble (((([97,108,108,111,119,32]:List Int)++s1)++([32]:List Int)).length+([42]:List Int).length) maxLen)
 (chk (Nat.ble ((((([97,108,108,111,119,32]:List Int)++s1)++([32]:List Int))++([42]:List Int)).length+([32]:List Int).length) maxLen)
 (chk (Nat.ble (((((([97,108,108,111,119,32]:List Int)++s1)++([32]:List Int))++([42]:List Int))++([32]:List Int)).length+s10.length) maxLen)
 (some (((((([97,108,108,111,119,32]:List Int)++s1)++([32]:List Int))++([42]:List Int))++([32]:List Int))++s10)))))))))
 (cond (i3==3)
 ((F_wlvref15_PrintNet s5 i6).bind fun s13=>
 (F_wlvref_Dec i7).bind fun s14=>
 cond (i7==1)
 (cond (i9==65535)
 (chk (Nat.ble (([97,108,108,111,119,32]:List Int).length+s1.length) maxLen)
 (chk (Nat.ble ((([97,108,108,111,119,32]:List Int)++s1).length+([32]:List Int).length) maxLen)
 (chk (Nat.ble (((([97,108,108,111,119,32]:List Int)++s1)++([32]:List Int)).length+s13.length) maxLen)
 (chk (Nat.ble ((((([97,108,108,111,119,32]:List Int)++s1)++([32]:List Int))++s13).length+([32]:List Int).length) maxLen)
 (chk (Nat.ble (((((([97,108,108,111,119,32]:List Int)++s1)++([32]:List Int))++s13)++([32]:List Int)).length+([42]:List Int).length) maxLen)
 (some (((((([97,108,108,111,119,32]:List Int)++s1)++([32]:List Int))++s13)++([32]:List Int))++([42]:List Int))))))))
 (cond (i7 != i9)
 ((F_wlvref_Dec i9).bind fun s15=>
 chk (Nat.ble (([45]:List Int).length+s15.length) maxLen)
 (chk (Nat.ble (s14.length+(([45]:List Int)++s15).length) maxLen)
 (chk (Nat.ble (([97,108,108,111,119,32]:List Int).length+s1.length) maxLen)
 (chk (Nat.ble ((([97,108,108,111,119,32]:List Int)++s1).length+([32]:List Int).length) maxLen)
 (chk (Nat.ble (((([97,108,108,111,119,32]:List Int)++s1)++([32]:List Int)).length+s13.length) maxLen)
 (chk (Nat.ble ((((([97,108,108,111,119,32]:List Int)++s1)++([32]:List Int))++s13).length+([32]:List Int).length) maxLen)
 (chk (Nat.ble (((((([97,108,108,111,119,32]:List Int)++s1)++([32]:List Int))++s13)++([32]:List Int)).length+(s14++(([45]:List Int)++s15)).length) maxLen)
 (some (((((([97,108,108,111,119,32]:List Int)++s1)++([32]:List Int))++s13)++([32]:List Int))++(s14++(([45]:List Int)++s15)))))))))))
 (chk (Nat.ble (([97,108,108,111,119,32]:List Int).length+s1.length) maxLen)
 (chk (Nat.ble ((([97,108,108,111,119,32]:List Int)++s1).length+([32]:List Int).length) maxLen)
 (chk (Nat.ble (((([97,108,108,111,119,32]:List Int)++s1)++([32]:List Int)).length+s13.length) maxLen)
 (chk (Nat.ble ((((([97,108,108,111,119,32]:List Int)++s1)++([32]:List Int))++s13).length+([32]:List Int).length) maxLen)
 (chk (Nat.ble (((((([97,108,108,111,119,32]:List Int)++s1)++([32]:List Int))++s13)++([32]:List Int)).length+s14.length) maxLen)
 (some (((((([97,108,108,111,119,32]:List Int)++s1)++([32]:List Int))++s13)++([32]:List Int))++s14)))))))))
 (cond (i7 != i9)
 ((F_wlvref_Dec i9).bind fun s16=>
 chk (Nat.ble (([45]:List Int).length+s16.length) maxLen)
 (chk (Nat.ble (s14.length+(([45]:List Int)++s16).length) maxLen)
 (chk (Nat.ble (([97,108,108,111,119,32]:List Int).length+s1.length) maxLen)
 (chk (Nat.ble ((([97,108,108,111,119,32]:List Int)++s1).length+([32]:List Int).length) maxLen)
 (chk (Nat.ble (((([97,108,108,111,119,32]:List Int)++s1)++([32]:List Int)).length+s13.length) maxLen)
 (chk (Nat.ble ((((([97,108,108,111,119,32]:List Int)++s1)++([32]:List Int))++s13).length+([32]:List Int).length) maxLen)
 (chk (Nat.ble (((((([97,108,108,111,119,32]:List Int)++s1)++([32]:List Int))++s13)++([32]:List Int)).length+(s14++(([45]:List Int)++s16)).length) maxLen)
 (some (((((([97,108,108,111,119,32]:List Int)++s1)++([32]:List Int))++s13)++([32]:List Int))++(s14++(([45]:List Int)++s16)))))))))))
 (chk (Nat.ble (([97,108,108,111,119,32]:List Int).length+s1.length) maxLen)
 (chk (Nat.ble ((([97,108,108,111,119,32]:List Int)++s1).length+([32]:List Int).length) maxLen)
 (chk (Nat.ble (((([97,108,108,111,119,32]:List Int)++s1)++([32]:List Int)).length+s13.length) maxLen)
 (chk (Nat.ble ((((([97,108,108,111,119,32]:List Int)++s1)++([32]:List Int))++s13).length+([32]:List Int).length) maxLen)
 (chk (Nat.ble (((((([97,108,108,111,119,32]:List Int)++s1)++([32]:List Int))++s13)++([32]:List Int)).length+s14.length) maxLen)
 (some (((((([97,108,108,111,119,32]:List Int)++s1)++([32]:List Int))++s13)++([32]:List Int))++s14)))))))))
 ((F_wlvref_Dec i7).bind fun s17=>
 cond (i7==1)
 (cond (i9==65535)
 (chk (Nat.ble (([97,108,108,111,119,32]:List Int).length+s1.length) maxLen)
 (chk (Nat.ble ((([97,108,108,111,119,32]:List Int)++s1).length+([32]:List Int).length) maxLen)
 (chk (Nat.ble (((([97,108,108,111,119,32]:List Int)++s1)++([32]:List Int)).length+s4.length) maxLen)
 (chk (Nat.ble ((((([97,108,108,111,119,32]:List Int)++s1)++([32]:List Int))++s4).length+([32]:List Int).length) maxLen)
 (chk (Nat.ble (((((([97,108,108,111,119,32]:List Int)++s1)++([32]:List Int))++s4)++([32]:List Int)).length+([42]:List Int).length) maxLen)
 (some (((((([97,108,108,111,119,32]:List Int)++s1)++([32]:List Int))++s4)++([32]:List Int))++([42]:List Int))))))))
 (cond (i7 != i9)
 ((F_wlvref_Dec i9).bind fun s18=>
 chk (Nat.ble (([45]:List Int).length+s18.length) maxLen)
 (chk (Nat.ble (s17.length+(([45]:List Int)++s18).length) maxLen)
 (chk (Nat.ble (([97,108,108,111,119,32]:List Int).length+s1.length) maxLen)
 (chk (Nat.ble ((([97,108,108,111,119,32]:List Int)++s1).length+([32]:List Int).length) maxLen)
 (chk (Nat.ble (((([97,108,108,111,119,32]:List Int)++s1)++([32]:List Int)).length+s4.length) maxLen)
 (chk (Nat.ble ((((([97,108,108,111,119,32]:List Int)++s1)++([32]:List Int))++s4).length+([32]:List Int).length) maxLen)
 (chk (Nat.ble (((((([97,108,108,111,119,32]:List Int)++s1)++([32]:List Int))++s4)++([32]:List Int)).length+(s17++(([45]:List Int)++s18)).length) maxLen)
 (some (((((([97,108,108,111,119,32]:List Int)++s1)++([32]:List Int))++s4)++([32]:List Int))++(s17++(([45]:List Int)++s18)))))))))))
 (chk (Nat.ble (([97,108,108,111,119,32]:List Int).length+s1.length) maxLen)
 (chk (Nat.ble ((([97,108,108,111,119,32]:List Int)++s1).length+([32]:List Int).length) maxLen)
 (chk (Nat.ble (((([97,108,108,111,119,32]:List Int)++s1)++([32]:List Int)).length+s4.length) maxLen)
 (chk (Nat.ble ((((([97,108,108,111,119,32]:List Int)++s1)++([32]:List Int))++s4).length+([32]:List Int).length) maxLen)
 (chk (Nat.ble (((((([97,108,108,111,119,32]:List Int)++s1)++([32]:List Int))++s4)++([32]:List Int)).length+s17.length) maxLen)
 (some (((((([97,108,108,111,119,32]:List Int)++s1)++([32]:List Int))++s4)++([32]:List Int))++s17)))))))))
 (cond (i7 != i9)
 ((F_wlvref_Dec i9).bind fun s19=>
 chk (Nat.ble (([45]:List Int).length+s19.length) maxLen)
 (chk (Nat.ble (s17.length+(([45]:List Int)++s19).length) maxLen)
 (chk (Nat.ble (([97,108,108,111,119,32]:List Int).length+s1.length) maxLen)
 (chk (Nat.ble ((([97,108,108,111,119,32]:List Int)++s1).length+([32]:List Int).length) maxLen)
 (chk (Nat.ble (((([97,108,108,111,119,32]:List Int)++s1)++([32]:List Int)).length+s4.length) maxLen)
 (chk (Nat.ble ((((([97,108,108,111,119,32]:List Int)++s1)++([32]:List Int))++s4).length+([32]:List Int).length) maxLen)
 (chk (Nat.ble (((((([97,108,108,111,119,32]:List Int)++s1)++([32]:List Int))++s4)++([32]:List Int)).length+(s17++(([45]:List Int)++s19)).length) maxLen)
 (some (((((([97,108,108,111,119,32]:List Int)++s1)++([32]:List Int))++s4)++([32]:List Int))++(s17++(([45]:List Int)++s19)))))))))))
 (chk (Nat.ble (([97,108,108,111,119,32]:List Int).length+s1.length) maxLen)
 (chk (Nat.ble ((([97,108,108,111,119,32]:List Int)++s1).length+([32]:List Int).length) maxLen)
 (chk (Nat.ble (((([97,108,108,111,119,32]:List Int)++s1)++([32]:List Int)).length+s4.length) maxLen)
 (chk (Nat.ble ((((([97,108,108,111,119,32]:List Int)++s1)++([32]:List Int))++s4).length+([32]:List Int).length) maxLen)
 (chk (Nat.ble (((((([97,108,108,111,119,32]:List Int)++s1)++([32]:List Int))++s4)++([32]:List Int)).length+s17.length) maxLen)
 (some (((((([97,108,108,111,119,32]:List Int)++s1)++([32]:List Int))++s4)++([32]:List Int))++s17)))))))))))
 (cond (i3==0)
 ((F_wlvref_Dec i7).bind fun s20=>
 cond (i7==1)
 (cond (i9==65535)
 (chk (Nat.ble (([100,101,110,121,32]:List Int).length+s1.length) maxLen)
 (chk (Nat.ble ((([100,101,110,121,32]:List Int)++s1).length+([32]:List Int).length) maxLen)
 (chk (Nat.ble (((([100,101,110,121,32]:List Int)++s1)++([32]:List Int)).length+([42]:List Int).length) maxLen)
 (chk (Nat.ble ((((([100,101,110,121,32]:List Int)++s1)++([32]:List Int))++([42]:List Int)).length+([32]:List Int).length) maxLen)
 (chk (Nat.ble (((((([100,101,110,121,32]:List Int)++s1)++([32]:List Int))++([42]:List Int))++([32]:List Int)).length+([42]:List Int).length) maxLen)
 (some (((((([100,101,110,121,32]:List Int)++s1)++([32]:List Int))++([42]:List Int))++([32]:List Int))++([42]:List Int))))))))
 (cond (i7 != i9)
 ((F_wlvref_Dec i9).bind fun s21=>
 chk (Nat.ble (([45]:List Int).length+s21.length) maxLen)
 (chk (Nat.ble (s20.length+(([45]:List Int)++s21).length) maxLen)
 (chk (Nat.ble (([100,101,110,121,32]:List Int).length+s1.length) maxLen)
 (chk (Nat.ble ((([100,101,110,121,32]:List Int)++s1).length+([32]:List Int).length) maxLen)
 (chk (Nat.ble (((([100,101,110,121,32]:List Int)++s1)++([32]:List Int)).length+([42]:List Int).length) maxLen)
 (chk (Nat.ble ((((([100,101,110,121,32]:List Int)++s1)++([32]:List Int))++([42]:List Int)).length+([32]:List Int).length) maxLen)
 (chk (Nat.ble (((((([100,101,110,121,32]:List Int)++s1)++([32]:List Int))++([42]:List Int))++([32]:List Int)).length+(s20++(([45]:List Int)++s21)).length) maxLen)
 (some (((((([100,101,110,121,32]:List Int)++s1)++([32]:List Int))++([42]:List Int))++([32]:List Int))++(s20++(([45]:List Int)++s21)))))))))))
 (chk (Nat.ble (([100,101,110,121,32]:List Int).length+s1.length) maxLen)
 (chk (Nat.ble ((([100,101,110,121,32]:List Int)++s1).length+([32]:List Int).length) maxLen)
 (chk (Nat.ble (((([100,101,110,121,32]:List Int)++s1)++([32]:List Int)).length+([42]:List Int).length) maxLen)
 (chk (Nat.ble ((((([100,101,110,121,32]:List Int)++s1)++([32]:List Int))++([42]:List Int)).length+([32]:List Int).length) maxLen)
 (chk (Nat.ble (((((([100,101,110,121,32]:List Int)++s1)++([32]:List Int))++([42]:List Int))++([32]:List Int)).length+s20.length) maxLen)
 (some (((((([100,101,110,121,32]:List Int)++s1)++([32]:List Int))++([42]:List Int))++([32]:List Int))++s20)))))))))
 (cond (i7 != i9)
 ((F_wlvref_Dec i9).bind fun s22=>
 chk (Nat.ble (([45]:List Int).length+s22.length) maxLen)
 (chk (Nat.ble (s20.length+(([45]:List Int)++s22).length) maxLen)
 (chk (Nat.ble (([100,101,110,121,32]:List Int).length+s1.length) maxLen)
 (chk (Nat.ble ((([100,101,110,121,32]:List Int)++s1).length+([32]:List Int).length) maxLen)
 (chk (Nat.ble (((([100,101,110,121,32]:List Int)++s1)++([32]:List Int)).length+([42]:List Int).length) maxLen)
 (chk (Nat.ble ((((([100,101,110,121,32]:List Int)++s1)++([32]:List Int))++([42]:List Int)).length+([32]:List Int).length) maxLen)
 (chk (Nat.ble (((((([100,101,110,121,32]:List Int)++s1)++([32]:List Int))++([42]:List Int))++([32]:List Int)).length+(s20++(([45]:List Int)++s22)).length) maxLen)
 (some (((((([100,101,110,121,32]:List Int)++s1)++([32]:List Int))++([42]:List Int))++([32]:List Int))++(s20++(([45]:List Int)++s22)))))))))))
 (chk (Nat.ble (([100,101,110,121,32]:List Int).length+s1.length) maxLen)
 (chk (Nat.ble ((([100,101,110,121,32]:List Int)++s1).length+([32]:List Int).length) maxLen)
 (chk (Nat.ble (((([100,101,110,121,32]:List Int)++s1)++([32]:List Int)).length+([42]:List Int).length) maxLen)
 (chk (Nat.ble ((((([100,101,110,121,32]:List Int)++s1)++([32]:List Int))++([42]:List Int)).length+([32]:List Int).length) maxLen)
 (chk (Nat.ble (((((([100,101,110,121,32]:List Int)++s1)++([32]:List Int))++([42]:List Int))++([32]:List Int)).length+s20.length) maxLen)
 (some (((((([100,101,110,121,32]:List Int)++s1)++([32]:List Int))++([42]:List Int))++([32]:List Int))++s20)))))))))
 (cond (i3==3)
 ((F_wlvref15_PrintNet s5 i6).bind fun s23=>
 (F_wlvref_Dec i7).bind fun s24=>
 cond (i7==1)
 (cond (i9==65535)
 (chk (Nat.ble (([100,101,110,121,32]:List Int).length+s1.length) maxLen)
 (chk (Nat.ble ((([100,101,110,121,32]:List Int)++s1).length+([32]:List Int).length) maxLen)
 (chk (Nat.ble (((([100,101,110,121,32]:List Int)++s1)++([32]:List Int)).length+s23.length) maxLen)
 (chk (Nat.ble ((((([100,101,110,121,32]:List Int)++s1)++([32]:List Int))++s23).length+([32]:List Int).length) maxLen)
 (chk (Nat.ble (((((([100,101,110,121,32]:List Int)++s1)++([32]:List Int))++s23)++([32]:List Int)).length+([42]:List Int).length) maxLen)
 (some (((((([100,101,110,121,32]:List Int)++s1)++([32]:List Int))++s23)++([32]:List Int))++([42]:List Int))))))))
 (cond (i7 != i9)
 ((F_wlvref_Dec i9).bind fun s25=>
 chk (Nat.ble (([45]:List Int).length+s25.length) maxLen)
 (chk (Nat.ble (s24.length+(([45]:List Int)++s25).length) maxLen)
 (chk (Nat.ble (([100,101,110,121,32]:List Int).length+s1.length) maxLen)
 (chk (Nat.ble ((([100,101,110,121,32]:List Int)++s1).length+([32]:List Int).length) maxLen)
 (chk (Nat.ble (((([100,101,110,121,32]:List Int)++s1)++([32]:List Int)).length+s23.length) maxLen)
 (chk (Nat.ble ((((([100,101,110,121,32]:List Int)++s1)++([32]:List Int))++s23).length+([32]:List Int).length) maxLen)
 (chk (Nat.ble (((((([100,101,110,121,32]:List Int)++s1)++([32]:List Int))++s23)++([32]:List Int)).length+(s24++(([45]:List Int)++s25)).length) maxLen)
 (some (((((([100,101,110,121,32]:List Int)++s1)++([32]:List Int))++s23)++([32]:List Int))++(s24++(([45]:List Int)++s25)))))))))))
 (chk (Nat.ble (([100,101,110,121,32]:List Int).length+s1.length) maxLen)
 (chk (Nat.ble ((([100,101,110,121,32]:List Int)++s1).length+([32]:List Int).length) maxLen)
 (chk (Nat.ble (((([100,101,110,121,32]:List Int)++s1)++([32]:List Int)).length+s23.length) maxLen)
 (chk (Nat.ble ((((([100,101,110,121,32]:List Int)++s1)++([32]:List Int))++s23).length+([32]:List Int).length) maxLen)
 (chk (Nat.ble (((((([100,101,110,121,32]:List Int)++s1)++([32]:List Int))++s23)++([32]:List Int)).length+s24.length) maxLen)
 (some (((((([100,101,110,121,32]:List Int)++s1)++([32]:List Int))++s23)++([32]:List Int))++s24)))))))))
 (cond (i7 != i9)
 ((F_wlvref_Dec i9).bind fun s26=>
 chk (Nat.ble (([45]:List Int).length+s26.length) maxLen)
 (chk (Nat.ble (s24.length+(([45]:List Int)++s26).length) maxLen)
 (chk (Nat.ble (([100,101,110,121,32]:List Int).length+s1.length) maxLen)
 (chk (Nat.ble ((([100,101,110,121,32]:List Int)++s1).length+([32]:List Int).length) maxLen)
 (chk (Nat.ble (((([100,101,110,121,32]:List Int)++s1)++([32]:List Int)).length+s23.length) maxLen)
 (chk (Nat.ble ((((([100,101,110,121,32]:List Int)++s1)++([32]:List Int))++s23).length+([32]:List Int).length) maxLen)
 (chk (Nat.ble (((((([100,101,110,121,32]:List Int)++s1)++([32]:List Int))++s23)++([32]:List Int)).length+(s24++(([45]:List Int)++s26)).length) maxLen)
 (some (((((([100,101,110,121,32]:List Int)++s1)++([32]:List Int))++s23)++([32]:List Int))++(s24++(([45]:List Int)++s26)))))))))))
 (chk (Nat.ble (([100,101,110,121,32]:List Int).length+s1.length) maxLen)
 (chk (Nat.ble ((([100,101,110,121,32]:List Int)++s1).length+([32]:List Int).length) maxLen)
 (chk (Nat.ble (((([100,101,110,121,32]:List Int)++s1)++([32]:List Int)).length+s23.length) maxLen)
 (chk (Nat.ble ((((([100,101,110,121,32]:List Int)++s1)++([32]:List Int))++s23).length+([32]:List Int).length) maxLen)
 (chk (Nat.ble (((((([100,101,110,121,32]:List Int)++s1)++([32]:List Int))++s23)++([32]:List Int)).length+s24.length) maxLen)
 (some (((((([100,101,110,121,32]:List Int)++s1)++([32]:List Int))++s23)++([32]:List Int))++s24)))))))))
 ((F_wlvref_Dec i7).bind fun s27=>
 cond (i7==1)
 (cond (i9==65535)
 (chk (Nat.ble (([100,101,110,121,32]:List Int).length+s1.length) maxLen)
 (chk (Nat.ble ((([100,101,110,121,32]:List Int)++s1).length+([32]:List Int).length) maxLen)
 (chk (Nat.ble (((([100,101,110,121,32]:List Int)++s1)++([32]:List Int)).length+s4.length) maxLen)
 (chk (Nat.ble ((((([100,101,110,121,32]:List Int)++s1)++([32]:List Int))++s4).length+([32]:List Int).length) maxLen)
 (chk (Nat.ble (((((([100,101,110,121,32]:List Int)++s1)++([32]:List Int))++s4)++([32]:List Int)).length+([42]:List Int).length) maxLen)
 (some (((((([100,101,110,121,32]:List Int)++s1)++([32]:List Int))++s4)++([32]:List Int))++([42]:List Int))))))))
 (cond (i7 != i9)
 ((F_wlvref_Dec i9).bind fun s28=>
 chk (Nat.ble (([45]:List Int).length+s28.length) maxLen)
 (chk (Nat.ble (s27.length+(([45]:List Int)++s28).length) maxLen)
 (chk (Nat.ble (([100,101,110,121,32]:List Int).length+s1.length) maxLen)
 (chk (Nat.ble ((([100,101,110,121,32]:List Int)++s1).length+([32]:List Int).length) maxLen)
 (chk (Nat.ble (((([100,101,110,121,32]:List Int)++s1)++([32]:List Int)).length+s4.length) maxLen)
 (chk (Nat.ble ((((([100,101,110,121,32]:List Int)++s1)++([32]:List Int))++s4).length+([32]:List Int).length) maxLen)
 (chk (Nat.ble (((((([100,101,110,121,32]:List Int)++s1)++([32]:List Int))++s4)++([32]:List Int)).length+(s27++(([45]:List Int)++s28)).length) maxLen)
 (some (((((([100,101,110,121,32]:List Int)++s1)++([32]:List Int))++s4)++([32]:List Int))++(s27++(([45]:List Int)++s28)))))))))))
 (chk (Nat.ble (([100,101,110,121,32]:List Int).length+s1.length) maxLen)
 (chk (Nat.ble ((([100,101,110,121,32]:List Int)++s1).length+([32]:List Int).length) maxLen)
 (chk (Nat.ble (((([100,101,110,121,32]:List Int)++s1)++([32]:List Int)).length+s4.length) maxLen)
 (chk (Nat.ble ((((([100,101,110,121,32]:List Int)++s1)++([32]:List Int))++s4).length+([32]:List Int).length) maxLen)
 (chk (Nat.ble (((((([100,101,110,121,32]:List Int)++s1)++([32]:List Int))++s4)++([32]:List Int)).length+s27.length) maxLen)
 (some (((((([100,101,110,121,32]:List Int)++s1)++([32]:List Int))++s4)++([32]:List Int))++s27)))))))))
 (cond (i7 != i9)
 ((F_wlvref_Dec i9).bind fun s29=>
 chk (Nat.ble (([45]:List Int).length+s29.length) maxLen)
 (chk (Nat.ble (s27.length+(([45]:List Int)++s29).length) maxLen)
 (chk (Nat.ble (([100,101,110,121,32]:List Int).length+s1.length) maxLen)
 (chk (Nat.ble ((([100,101,110,121,32]:List Int)++s1).length+([32]:List Int).length) maxLen)
 (chk (Nat.ble (((([100,101,110,121,32]:List Int)++s1)++([32]:List Int)).length+s4.length) maxLen)
 (chk (Nat.ble ((((([100,101,110,121,32]:List Int)++s1)++([32]:List Int))++s4).length+([32]:List Int).length) maxLen)
 (chk (Nat.ble (((((([100,101,110,121,32]:List Int)++s1)++([32]:List Int))++s4)++([32]:List Int)).length+(s27++(([45]:List Int)++s29)).length) maxLen)
 (some (((((([100,101,110,121,32]:List Int)++s1)++([32]:List Int))++s4)++([32]:List Int))++(s27++(([45]:List Int)++s29)))))))))))
 (chk (Nat.ble (([100,101,110,121,32]:List Int).length+s1.length) maxLen)
 (chk (Nat.ble ((([100,101,110,121,32]:List Int)++s1).length+([32]:List Int).length) maxLen)
 (chk (Nat.ble (((([100,101,110,121,32]:List Int)++s1)++([32]:List Int)).length+s4.length) maxLen)
 (chk (Nat.ble ((((([100,101,110,121,32]:List Int)++s1)++([32]:List Int))++s4).length+([32]:List Int).length) maxLen)
 (chk (Nat.ble (((((([100,101,110,121,32]:List Int)++s1)++([32]:List Int))++s4)++([32]:List Int)).length+s27.length) maxLen)
 (some (((((([100,101,110,121,32]:List Int)++s1)++([32]:List Int))++s4)++([32]:List Int))++s27)))))))))))
def F_wlvref18_printRule_sig:Sig:=⟨[.v false [.d .str],.v true [.d .bool,.d (.int .i64),.d .str,.d .str,.d (.int .i64),.d (.int .i64),.d (.int .i64)]],[(false,[.d .str])]⟩
def F_wlvref18_printRule_ann:List (Nat×Ann):=[]
noncomputable def F_wlvref18_printRule_env:Env:=⟨Tryz.prog,[(30,⟨F_wlvref_Dec_sig,⟨F_wlvref_Dec⟩⟩),(114,⟨F_wlvref15_PrintNet_sig,⟨F_wlvref15_PrintNet⟩⟩)],[]⟩
theorem F_wlvref18_printRule_text:pvFn F_wlvref18_printRule_env F_wlvref18_printRule_ann Tryz.f78 F_wlvref18_printRule_sig=F_wlvref18_printRule:=by kernel_rfl
noncomputable def F_wlvref18_Print_L6 (s:List (List Int)×List Int×List (List Int)×Int×Int×Int×Int×Int×Int×Int×Int×List UserD):Option (((List (List Int))⊕(List (List Int)×Int×Int×Int×Int×Int×Int×Int×List UserD))⊕(List (List Int)×List Int×List (List Int)×Int×Int×Int×Int×Int×Int×Int×Int×List UserD)):=
 let l10:=s.1;let l11:=s.2.1;let l12:=s.2.2.1;let i13:=s.2.2.2.1;let i14:=s.2.2.2.2.1;let i15:=s.2.2.2.2.2.1;let i17:=s.2.2.2.2.2.2.1;let i18:=s.2.2.2.2.2.2.2.1;let i19:=s.2.2.2.2.2.2.2.2.1;let i20:=s.2.2.2.2.2.2.2.2.2.1;let i21:=s.2.2.2.2.2.2.2.2.2.2.1;let l22:=s.2.2.2.2.2.2.2.2.2.2.2
 cond (decide (i13 < 7))
 ((getI l10 i13).bind fun s23=>
 chk (Nat.ble (([108,105,109,105,116,32]:List Int).length+s23.length) maxLen)
 (chk (Nat.ble ((([108,105,109,105,116,32]:List Int)++s23).length+([32]:List Int).length) maxLen)
 ((getI l11 i13).bind fun i24=>
 (F_wlvref_Dec i24).bind fun s25=>
 chk (Nat.ble (((([108,105,109,105,116,32]:List Int)++s23)++([32]:List Int)).length+s25.length) maxLen)
 (chk (decide ((l12.length+([(((([108,105,109,105,116,32]:List Int)++s23)++([32]:List Int))++s25)]:List (List Int)).length)*16<=140737488355328)&&decide (l12.length+([(((([108,105,109,105,116,32]:List Int)++s23)++([32]:List Int))++s25)]:List (List Int)).length<=maxLen))
 (some (.inr (l10,l11,(l12++([(((([108,105,109,105,116,32]:List Int)++s23)++([32]:List Int))++s25)]:List (List Int))),(IntKind.i64.wrap (i13+1)),i14,i15,i17,i18,i19,i20,i21,l22)))))))
 (some (.inl (.inr (l12,i14,i15,i17,i18,i19,i20,i21,l22))))
noncomputable def F_wlvref18_Print_L19 (s:List (List Int)×Int×Int×Int×Int×Int×Int×Int×Int×List UserD×List Int×List Int×List Int×Int×(Nat×Nat)×List RuleD):Option (((((List (List Int))⊕(List (List Int)))⊕(List (List Int)×Int×Int×Int×Int×Int×Int×Int×Int×List UserD))⊕(List (List Int)×Int×Int×Int×Int×Int×Int×Int×List UserD))⊕(List (List Int)×Int×Int×Int×Int×Int×Int×Int×Int×List UserD×List Int×List Int×List Int×Int×(Nat×Nat)×List RuleD)):=
 let l52:=s.1;let i53:=s.2.1;let i54:=s.2.2.1;let i55:=s.2.2.2.1;let i56:=s.2.2.2.2.1;let i57:=s.2.2.2.2.2.1;let i58:=s.2.2.2.2.2.2.1;let i59:=s.2.2.2.2.2.2.2.1;let i60:=s.2.2.2.2.2.2.2.2.1;let l61:=s.2.2.2.2.2.2.2.2.2.1;let s62:=s.2.2.2.2.2.2.2.2.2.2.1;let l63:=s.2.2.2.2.2.2.2.2.2.2.2.1;let l64:=s.2.2.2.2.2.2.2.2.2.2.2.2.1;let i65:=s.2.2.2.2.2.2.2.2.2.2.2.2.2.1;let z66:=s.2.2.2.2.2.2.2.2.2.2.2.2.2.2.1;let l67:=s.2.2.2.2.2.2.2.2.2.2.2.2.2.2.2
 cond (decide (i53 < (l67.length:Int)))
 ((getI l67 i53).bind fun x68=>
 (F_wlvref18_printRule s62 x68.1 x68.2.1 x68.2.2.1 x68.2.2.2.1.1 x68.2.2.2.1.2 x68.2.2.2.2.1 x68.2.2.2.2.2).bind fun s69=>
 chk (decide ((l52.length+([s69]:List (List Int)).length)*16<=140737488355328)&&decide (l52.length+([s69]:List (List Int)).length<=maxLen))
 (some (.inr ((l52++([s69]:List (List Int))),(IntKind.i64.wrap (i53+1)),i54,i55,i56,i57,i58,i59,i60,l61,s62,l63,l64,i65,z66,l67))))
 (some (.inl (.inr (l52,i54,i55,i56,i57,i58,i59,i60,l61))))
noncomputable def F_wlvref18_Print_J15 (i37:Int) (s:List (List Int)×Int×Int×Int×Int×Int×Int×Int×List UserD):Option (((List (List Int))⊕(List (List Int)))⊕(List (List Int)×Int×Int×Int×Int×Int×Int×Int×Int×List UserD)):=
 let l70:=s.1;let i71:=s.2.1;let i72:=s.2.2.1;let i73:=s.2.2.2.1;let i74:=s.2.2.2.2.1;let i75:=s.2.2.2.2.2.1;let i76:=s.2.2.2.2.2.2.1;let i77:=s.2.2.2.2.2.2.2.1;let l78:=s.2.2.2.2.2.2.2.2
 some (.inr (l70,(IntKind.i64.wrap (i37+1)),i71,i72,i73,i74,i75,i76,i77,l78))
noncomputable def F_wlvref18_Print_L12 (s:List (List Int)×Int×Int×Int×Int×Int×Int×Int×Int×List UserD):Option (((List (List Int))⊕(List (List Int)))⊕(List (List Int)×Int×Int×Int×Int×Int×Int×Int×Int×List UserD)):=
 let l36:=s.1;let i37:=s.2.1;let i38:=s.2.2.1;let i39:=s.2.2.2.1;let i40:=s.2.2.2.2.1;let i41:=s.2.2.2.2.2.1;let i42:=s.2.2.2.2.2.2.1;let i43:=s.2.2.2.2.2.2.2.1;let i44:=s.2.2.2.2.2.2.2.2.1;let l45:=s.2.2.2.2.2.2.2.2.2
 cond (decide (i37 < (l45.length:Int)))
 (joinC (S:=List (List Int)×Int×Int×Int×Int×Int×Int×Int×List UserD) (R:=((List (List Int))⊕(List (List Int)))⊕(List (List Int)×Int×Int×Int×Int×Int×Int×Int×Int×List UserD))
 ((getI l45 i37).bind fun x46=>
 chk (Nat.ble (([117,115,101,114,32]:List Int).length+x46.1.length) maxLen)
 (chk (Nat.ble ((([117,115,101,114,32]:List Int)++x46.1).length+([32]:List Int).length) maxLen)
 ((F_wlvref18_Hex x46.2.1.1).bind fun s47=>
 chk (Nat.ble (((([117,115,101,114,32]:List Int)++x46.1)++([32]:List Int)).length+s47.length) maxLen)
 (chk (Nat.ble ((((([117,115,101,114,32]:List Int)++x46.1)++([32]:List Int))++s47).length+([32]:List Int).length) maxLen)
 ((F_wlvref18_Hex x46.2.1.2).bind fun s48=>
 chk (Nat.ble (((((([117,115,101,114,32]:List Int)++x46.1)++([32]:List Int))++s47)++([32]:List Int)).length+s48.length) maxLen)
 ((F_wlvref1_Up x46.2.2.2.1).bind fun i49=>
 (F_wlvref1_Down x46.2.2.2.1).bind fun i50=>
 (F_wlvref_Words (((((([117,115,101,114,32]:List Int)++x46.1)++([32]:List Int))++s47)++([32]:List Int))++s48) ([x46.2.2.1,i49,i50]:List Int)).bind fun s51=>
 chk (decide ((l36.length+([s51]:List (List Int)).length)*16<=140737488355328)&&decide (l36.length+([s51]:List (List Int)).length<=maxLen))
 (loopC (S:=List (List Int)×Int×Int×Int×Int×Int×Int×Int×Int×List UserD×List Int×List Int×List Int×Int×(Nat×Nat)×List RuleD) (R:=(((List (List Int))⊕(List (List Int)))⊕(List (List Int)×Int×Int×Int×Int×Int×Int×Int×Int×List UserD))⊕(List (List Int)×Int×Int×Int×Int×Int×Int×Int×List UserD)) (F_wlvref18_Print_L19) ((l36++([s51]:List (List Int))),0,i38,i39,i40,i41,i42,i43,i44,l45,x46.1,x46.2.1.1,x46.2.1.2,x46.2.2.1,x46.2.2.2.1,x46.2.2.2.2))))))))
 (F_wlvref18_Print_J15 i37))
 (some (.inl (.inr l36)))
noncomputable def F_wlvref18_Print_J10 (s:List (List Int)):Option (List (List Int)):=
 let l79:=s
 some l79
noncomputable def F_wlvref18_Print_J4 (s:List (List Int)×Int×Int×Int×Int×Int×Int×Int×List UserD):Option (List (List Int)):=
 let l26:=s.1;let i27:=s.2.1;let i28:=s.2.2.1;let i29:=s.2.2.2.1;let i30:=s.2.2.2.2.1;let i31:=s.2.2.2.2.2.1;let i33:=s.2.2.2.2.2.2.1;let i34:=s.2.2.2.2.2.2.2.1;let l35:=s.2.2.2.2.2.2.2.2
 joinC (S:=List (List Int)) (R:=List (List Int))
 (loopC (S:=List (List Int)×Int×Int×Int×Int×Int×Int×Int×Int×List UserD) (R:=(List (List Int))⊕(List (List Int))) (F_wlvref18_Print_L12) (l26,0,i27,i28,i29,i30,i31,i33,i34,l35))
 (F_wlvref18_Print_J10)
noncomputable def F_wlvref18_Print (i1:Int) (i2:Int) (i3:Int) (i4:Int) (i5:Int) (i6:Int) (i7:Int) (l8:List UserD):Option (List (List Int)):=
 (F_wlvref18_limits).bind fun x9=>
 joinC (S:=List (List Int)×Int×Int×Int×Int×Int×Int×Int×List UserD) (R:=List (List Int))
 (loopC (S:=List (List Int)×List Int×List (List Int)×Int×Int×Int×Int×Int×Int×Int×Int×List UserD) (R:=(List (List Int))⊕(List (List Int)×Int×Int×Int×Int×Int×Int×Int×List UserD)) (F_wlvref18_Print_L6) (x9.1,([i1,i2,i3,i4,i5,i6,i7]:List Int),([]:List (List Int)),0,i1,i2,i3,i4,i5,i6,i7,l8))
 (F_wlvref18_Print_J4)
def F_wlvref18_Print_sig:Sig:=⟨[.v true [.d (.int .i64),.d (.int .i64),.d (.int .i64),.d (.int .i64),.d (.int .i64),.d (.int .i64),.d (.int .i64),.d (.sl (.pr .str (.pr (.pr (.sl (.int .u8)) (.sl (.int .u8))) (.pr (.int .i64) (.pr (.cpx .f64) (.sl (.pr .bool (.pr (.int .i64) (.pr .str (.pr (.pr .str (.int .i64)) (.pr (.int .i64) (.int .i64))))))))))))]],[(false,[.own 9 .str])]⟩
def F_wlvref18_Print_ann:List (Nat×Ann):=[(4,⟨5,[(6,false,[.own 9 .str])],[(1,[.d (.int .i64),.d (.int .i64),.d (.int .i64),.d (.int .i64),.d (.int .i64),.d (.int .i64),.d (.int .i64),.d (.sl (.pr .str (.pr (.pr (.sl (.int .u8)) (.sl (.int .u8))) (.pr (.int .i64) (.pr (.cpx .f64) (.sl (.pr .bool (.pr (.int .i64) (.pr .str (.pr (.pr .str (.int .i64)) (.pr (.int .i64) (.int .i64))))))))))))])],([7]++List.range' 30 19),[]⟩),(6,⟨7,[(3,false,[.own 9 .str]),(5,false,[.own 3 (.int .i64)]),(6,false,[.own 9 .str]),(7,false,[.d (.int .i64)])],[(1,[.d (.int .i64),.d (.int .i64),.d (.int .i64),.d (.int .i64),.d (.int .i64),.d (.int .i64),.d (.int .i64),.d (.sl (.pr .str (.pr (.pr (.sl (.int .u8)) (.sl (.int .u8))) (.pr (.int .i64) (.pr (.cpx .f64) (.sl (.pr .bool (.pr (.int .i64) (.pr .str (.pr (.pr .str (.int .i64)) (.pr (.int .i64) (.int .i64))))))))))))])],(List.range' 30 19),[]⟩),(10,⟨11,[(6,false,[.own 9 .str])],[],([8,9,10]++List.range' 49 58),[]⟩),(12,⟨13,[(6,false,[.own 9 .str]),(8,false,[.d (.int .i64)])],[(1,[.d (.int .i64),.d (.int .i64),.d (.int .i64),.d (.int .i64),.d (.int .i64),.d (.int .i64),.d (.int .i64),.d (.sl (.pr .str (.pr (.pr (.sl (.int .u8)) (.sl (.int .u8))) (.pr (.int .i64) (.pr (.cpx .f64) (.sl (.pr .bool (.pr (.int .i64) (.pr .str (.pr (.pr .str (.int .i64)) (.pr (.int .i64) (.int .i64))))))))))))])],([9,10]++List.range' 49 58),[]⟩),(15,⟨16,[(6,false,[.own 9 .str])],[(1,[.d (.int .i64),.d (.int .i64),.d (.int .i64),.d (.int .i64),.d (.int .i64),.d (.int .i64),.d (.int .i64),.d (.sl (.pr .str (.pr (.pr (.sl (.int .u8)) (.sl (.int .u8))) (.pr (.int .i64) (.pr (.cpx .f64) (.sl (.pr .bool (.pr (.int .i64) (.pr .str (.pr (.pr .str (.int .i64)) (.pr (.int .i64) (.int .i64))))))))))))])],([9,10]++List.range' 56 51),[]⟩),(19,⟨20,[(6,false,[.own 9 .str]),(10,false,[.d (.int .i64)])],[(1,[.d (.int .i64),.d (.int .i64),.d (.int .i64),.d (.int .i64),.d (.int .i64),.d (.int .i64),.d (.int .i64),.d (.sl (.pr .str (.pr (.pr (.sl (.int .u8)) (.sl (.int .u8))) (.pr (.int .i64) (.pr (.cpx .f64) (.sl (.pr .bool (.pr (.int .i64) (.pr .str (.pr (.pr .str (.int .i64)) (.pr (.int .i64) (.int .i64))))))))))))]),(9,[.d .str,.d (.sl (.int .u8)),.d (.sl (.int .u8)),.d (.int .i64),.d (.cpx .f64),.d (.sl (.pr .bool (.pr (.int .i64) (.pr .str (.pr (.pr .str (.int .i64)) (.pr (.int .i64) (.int .i64)))))))])],(List.range' 89 18),[]⟩)]
noncomputable def F_wlvref18_Print_env:Env:=⟨Tryz.prog,[(30,⟨F_wlvref_Dec_sig,⟨F_wlvref_Dec⟩⟩),(73,⟨F_wlvref18_limits_sig,⟨F_wlvref18_limits⟩⟩),(74,⟨F_wlvref_Words_sig,⟨F_wlvref_Words⟩⟩),(75,⟨F_wlvref18_Hex_sig,⟨F_wlvref18_Hex⟩⟩),(76,⟨F_wlvref1_Up_sig,⟨F_wlvref1_Up⟩⟩),(77,⟨F_wlvref1_Down_sig,⟨F_wlvref1_Down⟩⟩),(78,⟨F_wlvref18_printRule_sig,⟨F_wlvref18_printRule⟩⟩)],[]⟩
theorem F_wlvref18_Print_text:pvFn F_wlvref18_Print_env F_wlvref18_Print_ann Tryz.f38 F_wlvref18_Print_sig=F_wlvref18_Print:=by kernel_rfl
noncomputable def F_wlvref18_Find_L3 (l8:List UserD) (s9:List Int) (s:Int×List Int×List Int×List Int×Int×(Nat×Nat)×List RuleD):Option (((List Int×List Int×List Int×Int×(Nat×Nat)×List RuleD×Bool)⊕(List Int×List Int×List Int×Int×(Nat×Nat)×List RuleD))⊕(Int×List Int×List Int×List Int×Int×(Nat×Nat)×List RuleD)):=
 let i10:=s.1;let s11:=s.2.1;let l12:=s.2.2.1;let l13:=s.2.2.2.1;let i14:=s.2.2.2.2.1;let z15:=s.2.2.2.2.2.1;let l16:=s.2.2.2.2.2.2
 cond (decide (i10 < (l8.length:Int)))
 ((getI l8 i10).bind fun x17=>
 cond (x17.1==s9)
 ((getI l8 i10).bind fun x18=>
 some (.inl (.inl (x18.1,x18.2.1.1,x18.2.1.2,x18.2.2.1,x18.2.2.2.1,x18.2.2.2.2,true))))
 (some (.inr ((IntKind.i64.wrap (i10+1)),s11,l12,l13,i14,z15,l16))))
 (some (.inl (.inr (s11,l12,l13,i14,z15,l16))))
noncomputable def F_wlvref18_Find_J1 (s:List Int×List Int×List Int×Int×(Nat×Nat)×List RuleD):Option (List Int×List Int×List Int×Int×(Nat×Nat)×List RuleD×Bool):=
 let s19:=s.1;let l20:=s.2.1;let l21:=s.2.2.1;let i22:=s.2.2.2.1;let z23:=s.2.2.2.2.1;let l24:=s.2.2.2.2.2
 some (([]:List Int),([]:List Int),([]:List Int),0,(0,0),([]:List RuleD),false)
noncomputable def F_wlvref18_Find (i1:Int) (i2:Int) (i3:Int) (i4:Int) (i5:Int) (i6:Int) (i7:Int) (l8:List UserD) (s9:List Int):Option (List Int×List Int×List Int×Int×(Nat×Nat)×List RuleD×Bool):=
 joinC (S:=List Int×List Int×List Int×Int×(Nat×Nat)×List RuleD) (R:=List Int×List Int×List Int×Int×(Nat×Nat)×List RuleD×Bool)
 (loopC (S:=Int×List Int×List Int×List Int×Int×(Nat×Nat)×List RuleD) (R:=(List Int×List Int×List Int×Int×(Nat×Nat)×List RuleD×Bool)⊕(List Int×List Int×List Int×Int×(Nat×Nat)×List RuleD)) (F_wlvref18_Find_L3 l8 s9) (0,([]:List Int),([]:List Int),([]:List Int),0,(0,0),([]:List RuleD)))
 (F_wlvref18_Find_J1)
def F_wlvref18_Find_sig:Sig:=⟨[.v true [.d (.int .i64),.d (.int .i64),.d (.int .i64),.d (.int .i64),.d (.int .i64),.d (.int .i64),.d (.int .i64),.d (.sl (.pr .str (.pr (.pr (.sl (.int .u8)) (.sl (.int .u8))) (.pr (.int .i64) (.pr (.cpx .f64) (.sl (.pr .bool (.pr (.int .i64) (.pr .str (.pr (.pr .str (.int .i64)) (.pr (.int .i64) (.int .i64))))))))))))],.v false [.d .str]],[(true,[.d .str,.d (.sl (.int .u8)),.d (.sl (.int .u8)),.d (.int .i64),.d (.cpx .f64),.d (.sl (.pr .bool (.pr (.int .i64) (.pr .str (.pr (.pr .str (.int .i64)) (.pr (.int .i64) (.int .i64)))))))]),(false,[.d .bool])]⟩
def F_wlvref18_Find_ann:List (Nat×Ann):=[(1,⟨2,[],[(4,[.d .str,.own 5 (.int .u8),.own 5 (.int .u8),.d (.int .i64),.d (.cpx .f64),.own 68 (.pr .bool (.pr (.int .i64) (.pr .str (.pr (.pr .str (.int .i64)) (.pr (.int .i64) (.int .i64))))))])],(List.range' 5 22),[]⟩),(3,⟨4,[(6,false,[.d (.int .i64)])],[(4,[.d .str,.own 5 (.int .u8),.own 5 (.int .u8),.d (.int .i64),.d (.cpx .f64),.own 68 (.pr .bool (.pr (.int .i64) (.pr .str (.pr (.pr .str (.int .i64)) (.pr (.int .i64) (.int .i64))))))])],([5]++List.range' 7 20),[2]⟩)]
noncomputable def F_wlvref18_Find_env:Env:=⟨Tryz.prog,[],[]⟩
theorem F_wlvref18_Find_text:pvFn F_wlvref18_Find_env F_wlvref18_Find_ann Tryz.f35 F_wlvref18_Find_sig=F_wlvref18_Find:=by kernel_rfl
end Go.Proofs.YtgfmfgombmpodaaGreatDoor
namespace Go.Proofs.YtgfmfgombmpodaaGreatDoor
open Go.RowKit Pv
set_option linter.unusedVariables false
theorem step_calls {P:Program} {ops:Array Oper} {o:Oper} {a:Act} {w:World} {K:Act->World->Prop} {Q:Exit->Act->World->Prop} {E:Prop}
  (hg:o.guard=none) (f:FuncId) (args:Array Operand) (ts:Array TypeId) (hop:o.op=Op.call { callee:=Callee.value (.func f),args:=args,argTypes:=ts })
  (fd : Func) (hfd : P.funcs[f]? = some fd) (hbody : (fd.body.isSome && !(fd.name == "runtime.NumGoroutine")) = true) (vals : Array Value) (hv : args.map a.eval = vals) {R : Ending -> World -> Prop} (hc : Calls P f vals w R)
  (hK:∀ e w',R e w' -> ∃ v,e=.returned v /\ K (a.put o.dst v) w'):if Region.wanted o (yielded ops a.tmps)=true then Oper.wp P o a w K Q else E:=by
 have hw:Region.wanted o (yielded ops a.tmps)=true:=by simp [Region.wanted,hg]
 rw [if_pos hw]
 have hex:execOp a.eval o=callFunc f (args.map a.eval):=by
  have ef:a.eval (.func f)=.func (.func f) #[] #[]:=rfl
  unfold execOp
  simp [hop,resolve,Deferred.ofValue,invoke,ef]
 unfold Oper.wp
 rw [hex,run_callFunc hfd hbody,Oper.upon_enter,hv]
 refine hc.mono fun e w' he=>?_
 obtain ⟨v,rfl,h⟩:=hK e w' he
 exact h
def limB (k:Nat) (n:Int):ByteArray:=((⟨#[108,105,109,105,116,32]⟩++limW k)++⟨#[32]⟩)++⟨(Lib.itoa n).toArray⟩
def limLine (k:Nat) (n:Int):List Int:=(([108,105,109,105,116,32]++bytesL (limW k))++[32])++itoaI n
theorem limB_eq (k:Nat) (n:Int):bytesL (limB k n)=limLine k n:=by
 unfold limB limLine
 rw [bytes_append,bytes_append,bytes_append]
 rfl
theorem infoSt:(Tryz.prog.info? 9).map (fun i=>(i.zero,i.size,i.bytes))=some (some (.string ⟨#[]⟩),1,16):=by kernel_rfl
theorem itoa_calls {T:Tab} (hp:tab_pow10∈T) {W:World} (hT:TabAt T W) {n:Int} (hn:(Lit.int .i64 n).wf=true):Calls Tryz.prog 67 #[.int .i64 n] W fun e W'=>e=.returned (.string ⟨(Lib.itoa n).toArray⟩) /\ Below W.heap.size W W':=by
 have hn:=wf_i64 hn
 refine (Tryz.strconv_Itoa n hn.1 hn.2 W (tabIs_now hT hp (by kernel_rfl))).mono ?_
 rintro e w' ⟨he,k,os,rfl⟩
 exact ⟨he,below_grow _ _ _⟩
def limVs (C:Nat->Int) (n:Nat):List Value:=(List.range n).map fun j=>Value.string (limB j (C j))
set_option maxHeartbeats 8000000 in
set_option maxRecDepth 1000000 in
theorem print_front {T:Tab} (hp:tab_pow10∈T) {w:World} (hT:TabAt T w) {C:Nat->Int} {v:Value} (hwf:∀ k,k < 7->(Lit.int .i64 (C k)).wf=true) {R:Ending->World->Prop}
  (H:∀ (a:Act) (W:World) (vl:Value),a.tmps.size=Tryz.f37.ntmps->a.defers=[]->tm a 1=.pointer (some ⟨w.heap.size,0,none⟩)->tm a 3=vl->W.heap[w.heap.size]? = some (.cells (confV C v) 51 (0,0))->Below w.heap.size w W->W.ownsRow (w.heap.size+1) 9 1 vl 7 (limVs C 7) ->
   ∀ b c,Tryz.f37.body=some b->dropTo 7 b=some c->c.wp Tryz.prog (bodyPost Tryz.prog Tryz.f37 R) a W) :
  Calls Tryz.prog 37 #[.agg (confV C v)] w R:=by
 obtain ⟨i0,hi,hz0,hz1,hz2⟩:=info_parts infoSt
 have HH:Aside _:=H
 clear H
 go_enter Tryz.func37,Tryz.ntmps37
 go_wp2_with (go_at_call 60;refine (lims_walk w.heap.size _).mono ?_;rintro e W1 ⟨rfl,hB,hb1⟩)
 have hs1:w.heap.size+2<=W1.heap.size:=by have:=(Array.getElem?_eq_some_iff.1 hB).1;simp at this;omega
 have hC1:W1.heap[w.heap.size]? = some (.cells (confV C v) 51 (0,0)):=by
  rw [hb1.block _ (by simp),heap_alloc_new]
 have hb1:Below w.heap.size w W1:=⟨hb1.os,hb1.tape,hb1.output,by omega,fun b hb=>(hb1.block b (by simp;omega)).trans (by rw [heap_alloc_old _ _ hb])⟩
 have HB:Aside (W1.heap[w.heap.size+1]? = some (.cells (limCells w.heap.size) 124 (0,0)) /\ W1.heap[w.heap.size]? = some (.cells (confV C v) 51 (0,0))):=⟨by simpa using hB,hC1⟩
 clear hB hC1
 go_loopw [3,12] (fun vl vi wr=>∃ k:Nat,vi=.int .i64 k /\ k<=7 /\ Below W1.heap.size W1 wr /\ Aside (wr.ownsRow W1.heap.size 9 1 vl k (limVs C k))) (fun _ vi _=>7 - (intOf vi).toNat)
 case atStart=>exact ⟨0,rfl,by omega,Below.refl _ _,World.ownsRow_nil _ _ _ _⟩
 case round=>
  obtain ⟨k,rfl,hk,hbr,HO⟩:=hrel
  have hb2:Below w.heap.size w wr:=hb1.trans (hbr.mono hb1.size)
  have blk:∀ {B:Nat} {o:Obj},W1.heap[B]? = some o->wr.heap[B]? = some o:=fun h=>(hbr.block _ (Array.getElem?_eq_some_iff.1 h).1).trans h
  have hLr:=blk HB.out.1
  have hCr:=blk HB.out.2
  by_cases hk7:k < 7
  ·obtain ⟨k0,k1,k2,k3⟩:=lim_at hLr hk7
   have hCk:=conf_cell hCr hk7
   have hwk:=hwf k hk7
   have hl0:w.heap.size < wr.heap.size:=by have:=hbr.size;omega
   obtain ⟨lw,hlw⟩:∃ lw,limW k=lw:=⟨_,rfl⟩
   obtain ⟨llo,hllo⟩:∃ l,limLo k=l:=⟨_,rfl⟩
   obtain ⟨lhi,hlhi⟩:∃ l,limHi k=l:=⟨_,rfl⟩
   rw [hlw] at k0
   rw [hllo] at k1
   rw [hlhi] at k2
   obtain ⟨X,hX⟩:∃ X:Obj,X=.cells #[.string lw,.int .i64 llo,.int .i64 lhi,.pointer (some ⟨w.heap.size,k,none⟩)] 124:=⟨_,rfl⟩
   have hTd:TabAt T (wr.alloc X).drew:=fun p hp=>by
    obtain ⟨ty,fr,h1⟩:=hT.below hb2 p hp
    exact ⟨ty,fr,(heap_alloc_old wr X (Array.getElem?_eq_some_iff.1 h1).1).trans h1⟩
   have hkey:Aside (∀ W6:World,Below ((wr.alloc X).drew).heap.size (wr.alloc X).drew W6->W6.cell? ⟨wr.heap.size,0,none⟩=some (.string lw) /\ wr.heap.size < W6.heap.size /\ Below wr.heap.size wr W6):=fun W6 hb=>by
    have hz:((wr.alloc X).drew).heap.size=wr.heap.size+1:=by show (wr.alloc X).heap.size=_;simp
    refine ⟨?_,by have:=hb.size;omega,?_⟩
    ·rw [cell_at (show W6.heap[wr.heap.size]? = some (.cells #[.string lw,.int .i64 llo,.int .i64 lhi,.pointer (some ⟨w.heap.size,k,none⟩)] 124 (0,0)) from by rw [hb.block _ (by omega),<- hX];exact heap_alloc_new wr X)]
     rfl
    ·refine Below.trans (b:=(wr.alloc X).drew) ((Below.refl _ wr).alloc (Nat.le_refl _) _).drew (hb.mono (by omega))
   have hXa:Aside _:=hX
   have HR:Aside (_ /\ _):=⟨hLr,hCr⟩
   have HW:Aside (limW k=lw):=hlw
   clear hllo hlhi hLr hCr blk
   have hl1:¬ (9223372036854775807 < 6+lw.size):=by rw [<-hlw];match k,hk7 with | 0,_ | 1,_ | 2,_ | 3,_ | 4,_ | 5,_ | 6,_=>decide
   have hl2:¬ (9223372036854775807 < 6+lw.size+1):=by rw [<-hlw];match k,hk7 with | 0,_ | 1,_ | 2,_ | 3,_ | 4,_ | 5,_ | 6,_=>decide
   have hl3:¬ (9223372036854775807 < 6+lw.size+1+(Lib.itoa (C k)).length):=by
    have q1:=wf_i64 hwk
    have q2:=Lib.itoa_length_le (C k) q1.1 q1.2
    have q3:lw.size<=7:=by rw [<-hlw];match k,hk7 with | 0,_ | 1,_ | 2,_ | 3,_ | 4,_ | 5,_ | 6,_=>decide
    omega
   clear hlw
   go_wp2
   rw [hX] at hTd hkey
   go_region_law (first
    | (refine step_calls rfl 67 #[.tmp 24] #[3] rfl Tryz.f67 Tryz.func67 rfl #[.int .i64 (C k)] (by simp [Act.eval,Act.put]) (itoa_calls hp hTd hwk) ?_;rintro e W6 ⟨rfl,hb6⟩;refine ⟨_,rfl,?_⟩;obtain ⟨e60,e61,e62⟩:=hkey.out W6 hb6;have HB6:Aside (_ /\ _):=⟨e61,e62⟩;clear e61 e62 hb6)
    | (refine step_append_own_at rfl (.tmp 16) (.tmp 27) 47 rfl W1.heap.size 9 i0 (.string ⟨#[]⟩) 1 16 Tryz.underlying47 hi hz0 hz1 hz2 rfl (by decide) u3 k (limVs C k) (by simp [Act.eval]) (owns_keep HO.out fun b hb=>(heap_alloc_old _ _ (Nat.lt_of_lt_of_le (HO.out.lt b hb).2 HB6.out.2.size)).trans (HB6.out.2.block b (HO.out.lt b hb).2)) ⟨_,0,none⟩ 1 1 [_] (by simp [Act.eval]) rfl (cells_new _ _ _) (fun u hu=>by rw [List.mem_singleton] at hu;subst hu;rfl) (by unfold maxLen;omega) (by omega) (Nat.le_trans hbr.size (Nat.le_trans HB6.out.2.size (by simp))) ?_;intro v' wz hown' hgrow hat';have HN:Aside (_ /\ _ /\ _):=⟨hown',hgrow,hat'⟩;clear hown' hgrow hat'))
   all_goals
    go_wp2
    have hbz:Below W1.heap.size W1 wz:=((hbr.trans (HB6.out.2.mono hbr.size)).alloc (Nat.le_trans hbr.size HB6.out.2.size) _).grown HN.out.2.1 (Nat.le_trans (Nat.le_trans hbr.size HB6.out.2.size) (by simp)) (fun b hb=>(HO.out.lt b hb).1)
    refine ⟨⟨k+1,rfl,by omega,hbz,?_⟩,by simp [intOf];omega⟩
    have hown:=HN.out.1
    have e:limVs C (k+1)=limVs C k++[Value.string (limB k (C k))]:=by
     unfold limVs
     rw [List.range_succ,List.map_append];rfl
    rw [e]
    unfold limB
    rw [HW.out]
    exact hown
  ·have hk7:k=7:=by omega
   subst hk7
   iterate 16 (first | (go_step) | go_upon | (simp only [Int.not_lt,Int.not_le] at *;go_simp) | (go_values <;> (try go_simp)) | (go_ite <;> go_prune <;> (try go_simp)))
   refine HH.out _ _ _ rfl rfl rfl rfl ?h5 ?h6 ?h7 _ _ rfl (by kernel_rfl)
   ·exact hCr
   ·exact hb2
   ·exact ⟨HO.out.1,HO.out.2.imp id fun ⟨g,cap,cur,q1,q2,q3⟩=>⟨g,cap,cur,q1,by omega,q3⟩⟩
end Go.Proofs.YtgfmfgombmpodaaGreatDoor
namespace Go.Proofs.YtgfmfgombmpodaaGreatDoor
open Go.RowKit Go.Shelf Pv
set_option linter.unusedVariables false
def dbTab:List Int:=[0,1,56,2,57,49,28,3,61,58,42,50,38,29,17,4,62,47,59,36,45,43,51,22,53,39,33,30,24,18,12,5,63,55,48,27,60,41,37,16,46,35,44,21,52,32,23,11,54,26,40,15,34,20,31,10,25,14,19,9,13,8,7,6]
def tab_db:Nat×Array Value:=tabOf 7 .u8 dbTab
theorem db_at:tab_db.2[15]? = some (Value.int .u8 4):=by kernel_rfl
def dgA:ByteArray:=⟨#[48,49,50,51,52,53,54,55,56,57,97,98,99,100,101,102,103,104,105,106,107,108,109,110,111,112,113,114,115,116,117,118,119,120,121,122]⟩
theorem dgA_at {q:Nat} (h:q < 16):((dgA[q]'(show q < 36 by omega)).toNat:Int)=hexd q:=by
 have key:(List.range 16).all (fun q=>decide ((((dgA.data.toList.getD q 0).toNat:Nat):Int)=hexd q))=true:=by kernel_rfl
 have:=of_decide_eq_true (List.all_eq_true.1 key q (List.mem_range.2 h))
 rw [<-this,List.getD_eq_getElem?_getD,List.getElem?_eq_getElem (show q < dgA.data.toList.length from (show q < 36 by omega))]
 rfl
theorem and15f {n:Nat} (h:n < 65536):bits .and .u64 (n:Int) 15=((n % 16:Nat):Int):=by
  have:=bits_mask .u64 16 (by decide) (fun m h0 h1=>by
    show m % 18446744073709551616=m
    have e:(2:Int) ^ 16=65536:=rfl
    omega) 4 (by decide) (n : Int) (by omega) (by have e : (2 : Int) ^ 16 = 65536 := rfl
                                                  omega)
  have e:(2:Int) ^ 4 - 1=15:=rfl
  rw [e] at this
  rw [this]
  have e:(2:Int) ^ 4=16:=rfl
  rw [e];omega
theorem wf_bf {x:Int} (h0:0<=x) (h1:x < 256):(Lit.int .u8 x).wf=true:=by
 simp [Lit.wf,IntKind.min,IntKind.max,IntKind.signed,IntKind.bits]
 omega
def digC (D:List Int):Array Value:=(List.replicate (65 - D.length) (Value.int .u8 0)++bv D).toArray
set_option maxHeartbeats 4000000 in
set_option maxRecDepth 1000000 in
theorem tz_walk (w:World) (hdb:w.cell? ⟨7,15,none⟩=some (.int .u8 4)):Calls Tryz.prog 211 #[.int .u64 16] w fun e w'=>e=.returned (.int .i64 4) /\ w'=w:=by
 have h1:bits BinOp.and IntKind.u64 16 (IntKind.u64.wrap (-16))=16:=by kernel_rfl
 have h2:IntKind.u64.wrap 4573923408821661840=4573923408821661840:=by kernel_rfl
 go_enter Tryz.func211,Tryz.ntmps211
 go_wp2
 go_ret
 exact ⟨rfl,rfl⟩
set_option maxHeartbeats 4000000 in
set_option maxRecDepth 1000000 in
theorem p2_walk (w:World):Calls Tryz.prog 210 #[.int .i64 16] w fun e w'=>e=.returned (.bool true) /\ w'=w:=by
 have h1:bits BinOp.and IntKind.i64 16 15=0:=by kernel_rfl
 go_enter Tryz.func210,Tryz.ntmps210
 go_wp2
 go_ret
 exact ⟨rfl,rfl⟩
theorem digC_set {D:List Int} {d:Int} {W:World} {A:Nat} {T:TypeId} (h:W.heap[A]? = some (.cells (digC D) T (0,0))) (hD:D.length<=64) :
  (W.setCell ⟨A,65 - D.length - 1,none⟩ (.int .u8 d)).heap[A]? = some (.cells (digC (d::D)) T (0,0)):=by
 rw [setCell_heap,if_pos rfl,h]
 show some (Obj.cells ((digC D).setIfInBounds (65 - D.length - 1) (.int .u8 d)) T (0,0))=_
 congr 2
 unfold digC
 rw [List.length_cons]
 obtain ⟨m,hm⟩:∃ m,65 - D.length=m+1:=⟨64 - D.length,by omega⟩
 rw [hm,show m+1 - 1=m by omega,show 65 - (D.length+1)=m by omega]
 apply Array.ext'
 rw [Array.toList_setIfInBounds]
 show (List.replicate (m+1) (Value.int .u8 0)++bv D).set m (Value.int .u8 d)=List.replicate m (Value.int .u8 0)++bv (d::D)
 rw [List.replicate_succ',List.append_assoc,List.set_append_right _ _ (by simp),List.length_replicate,Nat.sub_self]
 rfl
theorem digC_size (D:List Int) (h:D.length<=65):(digC D).size=65:=by
 unfold digC
 simp [bv_len];omega
theorem digC_at {D:List Int} {j:Nat} {x:Int} (hD:D.length<=65) (h:D[j]? = some x):(digC D)[65 - D.length+j]? = some (.int .u8 x):=by
 unfold digC
 rw [List.getElem?_toArray,List.getElem?_append_right (by simp),List.length_replicate,Nat.add_sub_cancel_left]
 unfold bv
 rw [List.getElem?_map,h];rfl
theorem zero180:Tryz.zeroCells269=digC []:=by kernel_rfl
set_option maxHeartbeats 4000000 in
set_option maxRecDepth 1000000 in
theorem bits_walk (U:Nat) (hU:U < 65536) (w:World) (hdb:w.cell? ⟨7,15,none⟩=some (.int .u8 4)) :
    Calls Tryz.prog 182 #[.slice none 0 0,.int .u64 U,.int .i64 16,.bool false,.bool false] w fun e w'=>∃ s:ByteArray,e=.returned (.tuple #[.slice none 0 0,.string s]) /\ bytesL s=hexI U /\ s.size<=maxLen /\ Below w.heap.size w w':=by
  have hg:7 < w.heap.size:=cell_lt hdb
  have hdb':∀ o,(w.alloc o).cell? ⟨7,15,none⟩=some (.int .u8 4):=fun o=>by
    rw [World.cell?_alloc_lt _ _ _ hg];exact hdb
  have h1:bits BinOp.and IntKind.i64 16 15=0:=by kernel_rfl
  go_enter Tryz.func182,Tryz.ntmps182
  go_wp2_with (first | (go_at_call 211;refine (tz_walk _ (hdb' _)).mono ?_;rintro e w' ⟨rfl,rfl⟩) | (go_at_call 210;refine (p2_walk _).mono ?_;rintro e w' ⟨rfl,rfl⟩))
  go_loopw [1,13] (fun u i wr=>∃ (D:List Int) (uk j:Nat),u=.int .u64 uk /\ i=.int .i64 ((j:Int)+1) /\ j+1=65 - D.length /\ D.length<=3 /\ uk < 16 ^ (4 - D.length) /\ uk < 65536 /\ hexI U=hexI uk++D /\ wr.heap[w.heap.size]? = some (.cells (digC D) 269 (0,0)) /\ Below w.heap.size w wr) (fun u _ _=>(intOf u).toNat)
  case atStart=>
    refine ⟨[],U,64,rfl,rfl,rfl,by simp,hU,hU,by simp,?_,(Below.refl _ w).alloc (Nat.le_refl _) _⟩
    rw [<-zero180]
    exact heap_alloc_new w _
  case round=>
    obtain ⟨D,uk,j,rfl,rfl,hj,hD,hu,hu6,hhex,hcell,hb⟩:=hrel
    have hsz:(digC D).size=65:=digC_size D (by omega)
    have hc0:wr.cell? ⟨w.heap.size,j,none⟩=some (.int .u8 0):=by
      rw [cell_at hcell]
      unfold digC
      rw [List.getElem?_toArray,List.getElem?_append_left (by simp;omega),List.getElem?_replicate,if_pos (by omega)]
    have hfz:wr.frozen? ⟨w.heap.size,j,none⟩=false:=frozen_at hcell (.inr (Nat.zero_le _))
    have hj0:(0:Int)<=(j:Int):=by omega
    have hj1:(j:Int)<=65:=by omega
    have hj2:(j:Int) < 65:=by omega
    have hj3:¬ (65:Int) < (j:Int):=by omega
    by_cases hge:uk < 16
    · have hnge:¬ (16:Int)<=(uk:Int):=by omega
      go_wp2
      have hfull:hexI U=hexd uk::D:=by rw [hhex,hexI_one hge];rfl
      have hcell2:=digC_set (d:=hexd uk) hcell (by omega)
      rw [show 65 - D.length - 1=j by omega] at hcell2
      have hrep:RepD (wr.setCell ⟨w.heap.size,j,none⟩ (.int .u8 (hexd uk))) (fun _ _=>True) (.sl (.int .u8)) (hexd uk::D) [.slice (some ⟨w.heap.size,j,none⟩) (65 - j) (65 - j)]:=by
        refine ⟨_,_,_,rfl,(by show List.length (α:=Int) (hexd uk::D)=_;rw [List.length_cons];omega),Nat.le_refl _,by unfold maxLen;omega,fun i x hx=>⟨⟨w.heap.size,j,none⟩,[.int .u8 x],rfl,rfl,fun k u hk=>?_,rfl,?_⟩⟩
        · obtain ⟨hk0, rfl⟩ : k = 0 /\ u = .int .u8 x := by
            match k,hk with
            | 0,hk=>simp at hk;exact ⟨rfl,hk.symm⟩
          subst hk0
          refine ⟨?_,trivial⟩
          rw [add_at,show (Ty.int .u8).size=1 from rfl,Nat.mul_one,Nat.add_zero,cell_at hcell2]
          have:=digC_at (D:=hexd uk::D) (j:=i) (by rw [List.length_cons];omega) hx
          rwa [show 65 - (hexd uk::D).length=j by rw [List.length_cons];omega] at this
        · have hm:x∈hexI U:=by rw [hfull];exact List.mem_of_getElem? hx
          have:=hex_mem 3 U (by simpa using hU) hU x hm
          exact wf_bf (by omega) (by omega)
      obtain ⟨s,hrun,hs,hss⟩:=bytes_run (P:=Tryz.prog) Tryz.underlying32 Tryz.underlying5 Tryz.underlying9 hrep
      have hd:=dgA_at hge
      unfold dgA at hd
      rw [hd,hrun]
      have hb2:Below w.heap.size w (wr.setCell ⟨w.heap.size,j,none⟩ (.int .u8 (hexd uk))):=hb.trans ⟨rfl,rfl,rfl,by simp [World.setCell],fun k hk=>by rw [setCell_heap,if_neg (by show k≠w.heap.size;omega)]⟩
      generalize wr.setCell ⟨w.heap.size,j,none⟩ (.int .u8 (hexd uk))=W at *
      go_wp2
      go_ret2
      exact ⟨s,rfl,hs.trans (by rw [hexI_one hge];rfl),hss,hb2⟩
    · have hyes:(16:Int)<=(uk:Int):=by omega
      have h15:=and15f hu6
      go_wp2
      have hd:=dgA_at (show uk % 16 < 16 by omega)
      unfold dgA at hd
      rw [hd]
      have hcell2:=digC_set (d:=hexd (uk % 16)) hcell (by omega)
      rw [show 65 - D.length - 1=j by omega] at hcell2
      have hb2:Below w.heap.size w (wr.setCell ⟨w.heap.size,j,none⟩ (.int .u8 (hexd (uk % 16)))):=hb.trans ⟨rfl,rfl,rfl,by simp [World.setCell],fun k hk=>by rw [setCell_heap,if_neg (by show k≠w.heap.size;omega)]⟩
      have hD3:D.length<=2:=by
        rcases Nat.lt_or_ge D.length 3 with h | h
        · omega
        · have:D.length=3:=by omega
          rw [this] at hu
          simp at hu;omega
      obtain ⟨k,hk⟩:∃ k,j=k+1:=⟨j - 1,by omega⟩
      refine ⟨⟨hexd (uk % 16)::D,uk / 16,k,by congr 1,by rw [hk];congr 1,by rw [List.length_cons];omega,by rw [List.length_cons];omega,?_,by omega,?_,hcell2,hb2⟩,?_⟩
      · rw [List.length_cons,Nat.div_lt_iff_lt_mul (by decide),<- Nat.pow_succ,show (4 - (D.length+1)).succ=4 - D.length by omega]
        exact hu
      · rw [hhex,hexI_step hge hu6,List.append_assoc];rfl
      · simp [intOf];omega
set_option maxHeartbeats 4000000 in
set_option maxRecDepth 1000000 in
theorem fmt_walk (n:Nat) (hn:n < 65536) (w:World) (hdb:w.cell? ⟨7,15,none⟩=some (.int .u8 4)) :
  Calls Tryz.prog 144 #[.int .i64 n,.int .i64 16] w fun e w'=>∃ s:ByteArray,e=.returned (.string s) /\ bytesL s=hexI n /\ s.size<=maxLen /\ Below w.heap.size w w':=by
 have h0:¬ (n:Int) < 0:=by omega
 have h1:IntKind.u64.wrap (n:Int)=(n:Int):=by
  show (n:Int) % 18446744073709551616=_
  omega
 go_enter Tryz.func144,Tryz.ntmps144
 go_wp2_with (go_at_call 182;refine (bits_walk n hn _ hdb).mono ?_;rintro e w' ⟨s,rfl,h2,h3,h4⟩)
 go_wp2
 go_ret
 exact ⟨s,rfl,h2,h3,h4⟩
set_option maxHeartbeats 4000000 in
set_option maxRecDepth 1000000 in
theorem fmt_call (n:Nat) (hn:n < 65536) (w:World) (hdb:w.cell? ⟨7,15,none⟩=some (.int .u8 4)) :
  Calls Tryz.prog 184 #[.int .i64 n,.int .i64 16] w fun e w'=>∃ s:ByteArray,e=.returned (.string s) /\ bytesL s=hexI n /\ s.size<=maxLen /\ Below w.heap.size w w':=by
 go_enter Tryz.func184,Tryz.ntmps184
 go_wp2_with (go_at_call 144;refine (fmt_walk n hn _ hdb).mono ?_;rintro e w' ⟨s,rfl,h2,h3,h4⟩)
 go_wp2
 go_ret
 exact ⟨s,rfl,h2,h3,h4⟩
theorem F_strconv_FormatInt_sound {T:Tab} (h_db:tab_db∈T):SoundFn Tryz.prog T 184 F_strconv_FormatInt_sig ⟨F_strconv_FormatInt⟩:=by
 refine sound_d rfl fun F g O xs ls y tmf w args hT hls happ hsz hr=>?_
 obtain ⟨(n:Int),xs',rfl,h2⟩:=appF_inv_c (ts:=[.int .i64]) happ
 obtain ⟨(b:Int),xs'',rfl,h2'⟩:=appF_inv_c (ts:=[]) h2
 obtain ⟨rfl,h3⟩:=appF_inv_n h2'
 have hls':some [Leaf.d (.int .i64) n,Leaf.d (.int .i64) b]=some ls:=hls
 injection hls' with hls'
 subst hls'
 obtain ⟨e0,e1⟩:=rel_int (hr 0)
 obtain ⟨f0,f1⟩:=rel_int (hr 1)
 rw [args_2 hsz,e0,f0]
 have h3:cond (b==16&&decide (0<=n)&&decide (n < 65536)) (some (hexI n.toNat)) none=some y:=h3
 cases hb:(b==16&&decide (0<=n)&&decide (n < 65536)) with
 | false=>rw [hb] at h3;cases h3
 | true=>
  rw [hb] at h3
  have hy:hexI n.toNat=y:=by injection h3
  simp only [Bool.and_eq_true,beq_iff_eq,decide_eq_true_eq] at hb
  obtain ⟨⟨rfl,h0⟩,h1⟩:=hb
  obtain ⟨m,rfl⟩:=Int.eq_ofNat_of_zero_le h0
  rw [Int.toNat_natCast] at hy
  have hdb:w.cell? ⟨7,15,none⟩=some (.int .u8 4):=by
   obtain ⟨ty,fr,hh⟩:=hT _ h_db
   have hh:w.heap[(7:Nat)]? = some (.cells tab_db.2 ty fr):=hh
   exact (cell_at hh 15).trans db_at
  refine (fmt_call m (by omega) w hdb).mono ?_
  rintro e w' ⟨s,rfl,h2,h3,h4⟩
  refine ⟨[.string s],[.d .str y],rfl,rfl,rfl,h4,fun i hi=>?_⟩
  match i,hi with
  | 0,_=>exact ⟨[.string s],⟨_,[],rfl,⟨s,rfl,h2.trans hy,h3⟩,rfl⟩,rfl⟩
end Go.Proofs.YtgfmfgombmpodaaGreatDoor
namespace Go.Proofs.YtgfmfgombmpodaaGreatDoor
open Pv
theorem F_tally_count_sound {T:Tab}:SoundFn Tryz.prog T 146 F_tally_count_sig ⟨F_tally_count⟩:=by
 have h:=fn_sound (T:=T) (E:=F_tally_count_env) (by unfold Env.ok;exact fun p h=>by cases h) (A:=F_tally_count_ann) (f:=146) (fn:=Tryz.f146) (s:=F_tally_count_sig) Tryz.func146
 rw [F_tally_count_text] at h
 exact h
theorem F_tally_parts_sound {T:Tab}:SoundFn Tryz.prog T 111 F_tally_parts_sig ⟨F_tally_parts⟩:=by
 have h:=fn_sound (T:=T) (E:=F_tally_parts_env) (by unfold Env.ok;exact List.forall_mem_cons.2 ⟨F_tally_count_sound,fun p h=>by cases h⟩) (A:=F_tally_parts_ann) (f:=111) (fn:=Tryz.f111) (s:=F_tally_parts_sig) Tryz.func111
 rw [F_tally_parts_text] at h
 exact h
theorem F_tally_Up_sound {T:Tab}:SoundFn Tryz.prog T 70 F_tally_Up_sig ⟨F_tally_Up⟩:=by
 have h:=fn_sound (T:=T) (E:=F_tally_Up_env) (by unfold Env.ok;exact List.forall_mem_cons.2 ⟨F_tally_parts_sound,fun p h=>by cases h⟩) (A:=F_tally_Up_ann) (f:=70) (fn:=Tryz.f70) (s:=F_tally_Up_sig) Tryz.func70
 rw [F_tally_Up_text] at h
 exact h
theorem F_tally_Down_sound {T:Tab}:SoundFn Tryz.prog T 71 F_tally_Down_sig ⟨F_tally_Down⟩:=by
 have h:=fn_sound (T:=T) (E:=F_tally_Down_env) (by unfold Env.ok;exact List.forall_mem_cons.2 ⟨F_tally_parts_sound,fun p h=>by cases h⟩) (A:=F_tally_Down_ann) (f:=71) (fn:=Tryz.f71) (s:=F_tally_Down_sig) Tryz.func71
 rw [F_tally_Down_text] at h
 exact h
theorem F_addr_Print_sound {T:Tab} (h_pow10:tab_pow10∈T) (h_db:tab_db∈T):SoundFn Tryz.prog T 147 F_addr_Print_sig ⟨F_addr_Print⟩:=by
 have h:=fn_sound (T:=T) (E:=F_addr_Print_env) (by unfold Env.ok;exact List.forall_mem_cons.2 ⟨F_strconv_Itoa_sound h_pow10,List.forall_mem_cons.2 ⟨F_strings_Join_sound,List.forall_mem_cons.2 ⟨F_strconv_FormatInt_sound h_db,fun p h=>by cases h⟩⟩⟩) (A:=F_addr_Print_ann) (f:=147) (fn:=Tryz.f147) (s:=F_addr_Print_sig) Tryz.func147
 rw [F_addr_Print_text] at h
 exact h
theorem F_addr_PrintNet_sound {T:Tab} (h_pow10:tab_pow10∈T) (h_db:tab_db∈T):SoundFn Tryz.prog T 112 F_addr_PrintNet_sig ⟨F_addr_PrintNet⟩:=by
 have h:=fn_sound (T:=T) (E:=F_addr_PrintNet_env) (by unfold Env.ok;exact List.forall_mem_cons.2 ⟨F_strconv_Itoa_sound h_pow10,List.forall_mem_cons.2 ⟨F_addr_Print_sound h_pow10 h_db,fun p h=>by cases h⟩⟩) (A:=F_addr_PrintNet_ann) (f:=112) (fn:=Tryz.f112) (s:=F_addr_PrintNet_sig) Tryz.func112
 rw [F_addr_PrintNet_text] at h
 exact h
theorem F_conf_Rule_line_sound {T:Tab} (h_pow10:tab_pow10∈T) (h_db:tab_db∈T):SoundFn Tryz.prog T 72 F_conf_Rule_line_sig ⟨F_conf_Rule_line⟩:=by
 have h:=fn_sound (T:=T) (E:=F_conf_Rule_line_env) (by unfold Env.ok;exact List.forall_mem_cons.2 ⟨F_strconv_Itoa_sound h_pow10,List.forall_mem_cons.2 ⟨F_strings_Join_sound,List.forall_mem_cons.2 ⟨F_addr_PrintNet_sound h_pow10 h_db,fun p h=>by cases h⟩⟩⟩) (A:=F_conf_Rule_line_ann) (f:=72) (fn:=Tryz.f72) (s:=F_conf_Rule_line_sig) Tryz.func72
 rw [F_conf_Rule_line_text] at h
 exact h
theorem F_conf_copied_sound {T:Tab}:SoundFn Tryz.prog T 66 F_conf_copied_sig ⟨F_conf_copied⟩:=by
 have h:=fn_sound (T:=T) (E:=F_conf_copied_env) (by unfold Env.ok;exact List.forall_mem_cons.2 ⟨F_bytes_Clone_sound,List.forall_mem_cons.2 ⟨F_slices_Clone_conf_Rule_conf_Rule_sound,fun p h=>by cases h⟩⟩) (A:=F_conf_copied_ann) (f:=66) (fn:=Tryz.f66) (s:=F_conf_copied_sig) Tryz.func66
 rw [F_conf_copied_text] at h
 exact h
theorem F_conf_Find_sound {T:Tab}:SoundFn Tryz.prog T 34 F_conf_Find_sig ⟨F_conf_Find⟩:=by
 have h:=fn_sound (T:=T) (E:=F_conf_Find_env) (by unfold Env.ok;exact List.forall_mem_cons.2 ⟨F_conf_copied_sound,fun p h=>by cases h⟩) (A:=F_conf_Find_ann) (f:=34) (fn:=Tryz.f34) (s:=F_conf_Find_sig) Tryz.func34
 rw [F_conf_Find_text] at h
 exact h
theorem F_wlvref_Words_sound {T:Tab}:SoundFn Tryz.prog T 74 F_wlvref_Words_sig ⟨F_wlvref_Words⟩:=by
 have h:=fn_sound (T:=T) (E:=F_wlvref_Words_env) (by unfold Env.ok;exact List.forall_mem_cons.2 ⟨F_wlvref_Dec_sound,fun p h=>by cases h⟩) (A:=F_wlvref_Words_ann) (f:=74) (fn:=Tryz.f74) (s:=F_wlvref_Words_sig) Tryz.func74
 rw [F_wlvref_Words_text] at h
 exact h
theorem F_wlvref18_Hex_sound {T:Tab}:SoundFn Tryz.prog T 75 F_wlvref18_Hex_sig ⟨F_wlvref18_Hex⟩:=by
 have h:=fn_sound (T:=T) (E:=F_wlvref18_Hex_env) (by unfold Env.ok;exact fun p h=>by cases h) (A:=F_wlvref18_Hex_ann) (f:=75) (fn:=Tryz.f75) (s:=F_wlvref18_Hex_sig) Tryz.func75
 rw [F_wlvref18_Hex_text] at h
 exact h
theorem F_wlvref1_part_sound {T:Tab}:SoundFn Tryz.prog T 148 F_wlvref1_part_sig ⟨F_wlvref1_part⟩:=by
 have h:=fn_sound (T:=T) (E:=F_wlvref1_part_env) (by unfold Env.ok;exact fun p h=>by cases h) (A:=F_wlvref1_part_ann) (f:=148) (fn:=Tryz.f148) (s:=F_wlvref1_part_sig) Tryz.func148
 rw [F_wlvref1_part_text] at h
 exact h
theorem F_wlvref1_Is_sound {T:Tab}:SoundFn Tryz.prog T 113 F_wlvref1_Is_sig ⟨F_wlvref1_Is⟩:=by
 have h:=fn_sound (T:=T) (E:=F_wlvref1_Is_env) (by unfold Env.ok;exact List.forall_mem_cons.2 ⟨F_wlvref1_part_sound,fun p h=>by cases h⟩) (A:=F_wlvref1_Is_ann) (f:=113) (fn:=Tryz.f113) (s:=F_wlvref1_Is_sig) Tryz.func113
 rw [F_wlvref1_Is_text] at h
 exact h
theorem F_wlvref1_Up_sound {T:Tab}:SoundFn Tryz.prog T 76 F_wlvref1_Up_sig ⟨F_wlvref1_Up⟩:=by
 have h:=fn_sound (T:=T) (E:=F_wlvref1_Up_env) (by unfold Env.ok;exact List.forall_mem_cons.2 ⟨F_wlvref1_Is_sound,fun p h=>by cases h⟩) (A:=F_wlvref1_Up_ann) (f:=76) (fn:=Tryz.f76) (s:=F_wlvref1_Up_sig) Tryz.func76
 rw [F_wlvref1_Up_text] at h
 exact h
theorem F_wlvref1_Down_sound {T:Tab}:SoundFn Tryz.prog T 77 F_wlvref1_Down_sig ⟨F_wlvref1_Down⟩:=by
 have h:=fn_sound (T:=T) (E:=F_wlvref1_Down_env) (by unfold Env.ok;exact List.forall_mem_cons.2 ⟨F_wlvref1_Is_sound,fun p h=>by cases h⟩) (A:=F_wlvref1_Down_ann) (f:=77) (fn:=Tryz.f77) (s:=F_wlvref1_Down_sig) Tryz.func77
 rw [F_wlvref1_Down_text] at h
 exact h
theorem F_wlvref15_hex_fuel_sound {T:Tab}:∀ k:Nat,SoundFn Tryz.prog T 185 F_wlvref15_hex_sig ⟨F_wlvref15_hex_fuel k⟩
 | 0=>by
  intro F g st xs y tmf w args _ _ happ
  have e:none=some y:=(appF_bot (α:=(F_wlvref15_hex_sig).out.D) ((parsT (F_wlvref15_hex_sig).ps).map LT.ty) xs).symm.trans happ
  cases e
 | k+1=>by
  have ih:=F_wlvref15_hex_fuel_sound (T:=T) k
  have h:=fn_sound (T:=T) (E:=F_wlvref15_hex_env (F_wlvref15_hex_fuel k)) (by unfold Env.ok;exact List.forall_mem_cons.2 ⟨ih,fun p h=>by cases h⟩) (A:=F_wlvref15_hex_ann) (f:=185) (fn:=Tryz.f185) (s:=F_wlvref15_hex_sig) Tryz.func185
  rw [F_wlvref15_hex_text] at h
  exact h
theorem F_wlvref15_hex_sound {T:Tab}:SoundFn Tryz.prog T 185 F_wlvref15_hex_sig ⟨F_wlvref15_hex⟩:=F_wlvref15_hex_fuel_sound 64
theorem F_wlvref15_Print_sound {T:Tab}:SoundFn Tryz.prog T 149 F_wlvref15_Print_sig ⟨F_wlvref15_Print⟩:=by
 have h:=fn_sound (T:=T) (E:=F_wlvref15_Print_env) (by unfold Env.ok;exact List.forall_mem_cons.2 ⟨F_wlvref_Dec_sound,List.forall_mem_cons.2 ⟨F_wlvref15_hex_sound,fun p h=>by cases h⟩⟩) (A:=F_wlvref15_Print_ann) (f:=149) (fn:=Tryz.f149) (s:=F_wlvref15_Print_sig) Tryz.func149
 rw [F_wlvref15_Print_text] at h
 exact h
theorem F_wlvref15_PrintNet_sound {T:Tab}:SoundFn Tryz.prog T 114 F_wlvref15_PrintNet_sig ⟨F_wlvref15_PrintNet⟩:=by
 have h:=fn_sound (T:=T) (E:=F_wlvref15_PrintNet_env) (by unfold Env.ok;exact List.forall_mem_cons.2 ⟨F_wlvref_Dec_sound,List.forall_mem_cons.2 ⟨F_wlvref15_Print_sound,fun p h=>by cases h⟩⟩) (A:=F_wlvref15_PrintNet_ann) (f:=114) (fn:=Tryz.f114) (s:=F_wlvref15_PrintNet_sig) Tryz.func114
 rw [F_wlvref15_PrintNet_text] at h
 exact h
theorem F_wlvref18_printRule_sound {T:Tab}:SoundFn Tryz.prog T 78 F_wlvref18_printRule_sig ⟨F_wlvref18_printRule⟩:=by
 have h:=fn_sound (T:=T) (E:=F_wlvref18_printRule_env) (by unfold Env.ok;exact List.forall_mem_cons.2 ⟨F_wlvref_Dec_sound,List.forall_mem_cons.2 ⟨F_wlvref15_PrintNet_sound,fun p h=>by cases h⟩⟩) (A:=F_wlvref18_printRule_ann) (f:=78) (fn:=Tryz.f78) (s:=F_wlvref18_printRule_sig) Tryz.func78
 rw [F_wlvref18_printRule_text] at h
 exact h
theorem F_wlvref18_Print_sound {T:Tab}:SoundFn Tryz.prog T 38 F_wlvref18_Print_sig ⟨F_wlvref18_Print⟩:=by
 have h:=fn_sound (T:=T) (E:=F_wlvref18_Print_env) (by unfold Env.ok;exact List.forall_mem_cons.2 ⟨F_wlvref_Dec_sound,List.forall_mem_cons.2 ⟨F_wlvref18_limits_sound,List.forall_mem_cons.2 ⟨F_wlvref_Words_sound,List.forall_mem_cons.2 ⟨F_wlvref18_Hex_sound,List.forall_mem_cons.2 ⟨F_wlvref1_Up_sound,List.forall_mem_cons.2 ⟨F_wlvref1_Down_sound,List.forall_mem_cons.2 ⟨F_wlvref18_printRule_sound,fun p h=>by cases h⟩⟩⟩⟩⟩⟩⟩) (A:=F_wlvref18_Print_ann) (f:=38) (fn:=Tryz.f38) (s:=F_wlvref18_Print_sig) Tryz.func38
 rw [F_wlvref18_Print_text] at h
 exact h
theorem F_wlvref18_Find_sound {T:Tab}:SoundFn Tryz.prog T 35 F_wlvref18_Find_sig ⟨F_wlvref18_Find⟩:=by
 have h:=fn_sound (T:=T) (E:=F_wlvref18_Find_env) (by unfold Env.ok;exact fun p h=>by cases h) (A:=F_wlvref18_Find_ann) (f:=35) (fn:=Tryz.f35) (s:=F_wlvref18_Find_sig) Tryz.func35
 rw [F_wlvref18_Find_text] at h
 exact h
end Go.Proofs.YtgfmfgombmpodaaGreatDoor
namespace Go.Proofs.YtgfmfgombmpodaaGreatDoor
open Go.RowKit Pv
set_option linter.unusedVariables false
def limLines (C:Nat->Int):List (List Int):=(List.range 7).map fun k=>limLine k (C k)
noncomputable def F_conf_Print (c0 c1 c2 c3 c4 c5 c6:Int) (us:List UserD):Option (List (List Int)):=F_conf_Print_mid c0 c1 c2 c3 c4 c5 c6 us (limLines (seven c0 c1 c2 c3 c4 c5 c6))
theorem lim_row {w:World} {C:Com} {cap:Nat} {cur:Array Value} {D:Nat->Int} (hD:∀ k,k < 7->(Lit.int .i64 (D k)).wf=true) (hcs:cur.size=cap*1) (h7:7<=cap) (ht:cur.toList.take (7*1)=limVs D 7) :
  ∀ (i:Nat) (x:List Int),(limLines D)[i]? = some x->RepD w C .str x ((cur.toList.drop (i*1)).take 1):=fun i x hx=>by
 have hi:i < 7:=by
  have:=(List.getElem?_eq_some_iff.1 hx).1
  simpa [limLines] using this
 have hx:x=limLine i (D i):=by
  unfold limLines at hx
  rw [List.getElem?_map,List.getElem?_range hi] at hx
  injection hx with hx
  exact hx.symm
 have hv:(limVs D 7)[i]? = some (.string (limB i (D i))):=by
  unfold limVs
  rw [List.getElem?_map,List.getElem?_range hi];rfl
 have hc:cur.toList[i]? = some (.string (limB i (D i))):=by
  rw [<-ht,List.getElem?_take,if_pos (by omega)] at hv
  exact hv
 have e:(cur.toList.drop (i*1)).take 1=[.string (limB i (D i))]:=by
  rw [Nat.mul_one]
  obtain ⟨hl,he⟩:=List.getElem?_eq_some_iff.1 hc
  rw [List.drop_eq_getElem_cons hl,he]
  rfl
 rw [e,hx]
 refine ⟨_,rfl,limB_eq i (D i),?_⟩
 have q0:=wf_i64 (hD i hi)
 have q1:=Lib.itoa_length_le (D i) q0.1 q0.2
 have q2:(limB i (D i)).size=(bytesL (limB i (D i))).length:=by unfold bytesL;rw [List.length_map,Array.length_toList];rfl
 rw [q2,limB_eq]
 unfold limLine itoaI
 have q3:(bytesL (limW i)).length<=7:=by
  match i,hi with
  | 0,_ | 1,_ | 2,_ | 3,_ | 4,_ | 5,_ | 6,_=>decide
 simp only [List.length_append,List.length_map,List.length_cons,List.length_nil]
 have hm:maxLen=9223372036854775807:=rfl
 omega
set_option maxHeartbeats 4000000 in
set_option maxRecDepth 1000000 in
theorem F_conf_Print_sound {T:Tab} (h_pow10:tab_pow10∈T) (h_db:tab_db∈T):SoundFn Tryz.prog T 37 F_conf_Print_sig ⟨F_conf_Print⟩:=by
  intro F g st xs y tmf w args hT hent happ hrel hw hn hsz htm
  obtain ⟨(c0:Int),_,rfl,h1⟩:=appF_inv_c happ
  obtain ⟨(c1:Int),_,rfl,h2⟩:=appF_inv_c h1
  obtain ⟨(c2:Int),_,rfl,h3⟩:=appF_inv_c h2
  obtain ⟨(c3:Int),_,rfl,h4⟩:=appF_inv_c h3
  obtain ⟨(c4:Int),_,rfl,h5⟩:=appF_inv_c h4
  obtain ⟨(c5:Int),_,rfl,h6⟩:=appF_inv_c h5
  obtain ⟨(c6:Int),_,rfl,h7⟩:=appF_inv_c h6
  obtain ⟨(us:List UserD),_,rfl,h8⟩:=appF_inv_c (ts:=[]) h7
  obtain ⟨rfl,h9⟩:=appF_inv_n h8
  have h9:F_conf_Print c0 c1 c2 c3 c4 c5 c6 us=some y:=h9
  have hst:st.φ 0=.w true [Leaf.d (.int .i64) c0,.d (.int .i64) c1,.d (.int .i64) c2,.d (.int .i64) c3,.d (.int .i64) c4,.d (.int .i64) c5,.d (.int .i64) c6,.d (.sl userT) us]:=by
    have e:(entrySt F_conf_Print_sig [⟨.int .i64,c0⟩,⟨.int .i64,c1⟩,⟨.int .i64,c2⟩,⟨.int .i64,c3⟩,⟨.int .i64,c4⟩,⟨.int .i64,c5⟩,⟨.int .i64,c6⟩,⟨.sl userT,us⟩]).map (fun s=>s.φ 0)=some (.w true [Leaf.d (.int .i64) c0,.d (.int .i64) c1,.d (.int .i64) c2,.d (.int .i64) c3,.d (.int .i64) c4,.d (.int .i64) c5,.d (.int .i64) c6,.d (.sl userT) us]):=rfl
    have hent:entrySt F_conf_Print_sig [⟨.int .i64,c0⟩,⟨.int .i64,c1⟩,⟨.int .i64,c2⟩,⟨.int .i64,c3⟩,⟨.int .i64,c4⟩,⟨.int .i64,c5⟩,⟨.int .i64,c6⟩,⟨.sl userT,us⟩]=some st:=hent
    rw [hent] at e
    injection e
  have r0:=hrel.slots 0
  rw [hst,htm] at r0
  have r0:RelV F g w st.O (args.getD 0 undef) true [Leaf.d (.int .i64) c0,.d (.int .i64) c1,.d (.int .i64) c2,.d (.int .i64) c3,.d (.int .i64) c4,.d (.int .i64) c5,.d (.int .i64) c6,.d (.sl userT) us]:=r0
  obtain ⟨_,⟨_,_,rfl,⟨rfl,w0⟩,_,_,rfl,⟨rfl,w1⟩,_,_,rfl,⟨rfl,w2⟩,_,_,rfl,⟨rfl,w3⟩,_,_,rfl,⟨rfl,w4⟩,_,_,rfl,⟨rfl,w5⟩,_,_,rfl,⟨rfl,w6⟩,_,_,rfl,r8,rfl⟩,e0⟩:=r0
  have r8:RepD w g.C (.sl userT) us _:=r8
  obtain ⟨a0,n0,cp0,rfl,r8'⟩:=r8
  have r8:RepD w g.C (.sl userT) us [.slice a0 n0 cp0]:=⟨a0,n0,cp0,rfl,r8'⟩
  have hsz:args.size=1:=hsz
  rw [args_1 hsz,show args.getD 0 undef=.agg (confV (seven c0 c1 c2 c3 c4 c5 c6) (.slice a0 n0 cp0)) from e0]
  have hwf:∀ k,k < 7->(Lit.int .i64 (seven c0 c1 c2 c3 c4 c5 c6 k)).wf=true:=fun k hk=>by
    match k,hk with
    | 0,_=>exact w0
    | 1,_=>exact w1
    | 2,_=>exact w2
    | 3,_=>exact w3
    | 4,_=>exact w4
    | 5,_=>exact w5
    | 6,_=>exact w6
  refine print_front h_pow10 (fun p hp=>(tab_now hT hrel.fr p hp).1) hwf ?_
  intro a W vl ha hdf ht1 ht3 hcell hbel hown b c hb hc
  have hE:F_conf_Print_env.ok T:=by
    unfold Env.ok
    exact List.forall_mem_cons.2 ⟨F_strconv_Itoa_sound h_pow10,List.forall_mem_cons.2 ⟨F_strings_Join_sound,List.forall_mem_cons.2 ⟨F_conf_Hex_sound,List.forall_mem_cons.2 ⟨F_tally_Up_sound,List.forall_mem_cons.2 ⟨F_tally_Down_sound,List.forall_mem_cons.2 ⟨F_conf_Rule_line_sound h_pow10 h_db,fun p h=>by cases h⟩⟩⟩⟩⟩⟩
  rcases hown.2 with ⟨_,h70⟩ | ⟨U,cap,cur,hvl,hUlo,hUc,hlc,hcm,hcs,htake⟩
  · cases h70
  have hUs:U < W.heap.size:=(Array.getElem?_eq_some_iff.1 hUc).1
  have hBs:w.heap.size < W.heap.size:=by omega
  have h00:F.w0.heap.size=w.heap.size:=by rw [hw]
  have hlim:=hrel.fr.lim
  let Cm:Com:=fun b o=>g.C b o \/ (b=U /\ o < 7)
  have hCB:∀ o,¬ Cm w.heap.size o:=fun o h=>by
    rcases h with h | h
    · have:=hlim _ _ h;omega
    · omega
  have hCU:∀ o,Cm U o↔o < 7*1:=fun o=>by
    constructor
    · rintro (h | h)
      · have:=hlim _ _ h;omega
      · omega
    · intro h;exact .inr ⟨rfl,by omega⟩
  have hgw:Gw w g.C W Cm:=fun ad u hc hC=>⟨(hbel.cell (cell_lt hc)).trans hc,.inl hC⟩
  let gm:Gh:=⟨Cm,fun k=>match tokEq k (.hd 0 0) with | true=>some U | false=>none,fun _=>(w.heap.size,0),fun _ _=>[]⟩
  have hk0:∀ k b',gm.blk k=some b'->k=.hd 0 0 /\ b'=U:=fun k b' hk=>by
    have hk:(match tokEq k (.hd 0 0) with | true=>some U | false=>none)=some b':=hk
    cases hq:tokEq k (.hd 0 0) with
    | false=>rw [hq] at hk;cases hk
    | true=>
      rw [hq] at hk
      injection hk with hk
      exact ⟨tokEq_iff.1 hq,hk.symm⟩
  have hrows:=lim_row (w:=W) (C:=Cm) hwf hcs hlc htake
  have hA:AR F gm (F_conf_Print_st c0 c1 c2 c3 c4 c5 c6 us (limLines (seven c0 c1 c2 c3 c4 c5 c6))) a W:=by
    have hnF:F.n=Tryz.f37.ntmps:=hn _ Tryz.func37
    refine ⟨ha.trans hnF.symm,hdf,?_⟩
    have L1:∀ k x,(F_conf_Print_st c0 c1 c2 c3 c4 c5 c6 us (limLines (seven c0 c1 c2 c3 c4 c5 c6))).L k=some x->k=1 /\ x=(0,[Leaf.d (.int .i64) c0,.d (.int .i64) c1,.d (.int .i64) c2,.d (.int .i64) c3,.d (.int .i64) c4,.d (.int .i64) c5,.d (.int .i64) c6,.d (.sl userT) us]):=fun k x hx=>by
      match k,hx with
      | 0,hx=>cases hx
      | 1,hx=>injection hx with hx;exact ⟨rfl,hx.symm⟩
      | k+2,hx=>cases hx
    have hf2:=hrel.fr.below hbel
    refine ⟨⟨hf2.size,hf2.os,hf2.tape,hf2.output,hf2.old,hf2.shape,fun b o hb hx=>?_,fun b o h=>.inl (hrel.fr.mono b o h),fun b o h=>?_⟩,fun i=>?_,fun k σ ls hL=>?_,fun k σ ls hL hσ=>?_,fun t b hk=>(by cases hk),fun i t want ag ls hs=>?_,fun d hd=>(by cases hd),fun i k hk=>?_,rfl,fun k k' b _ _ h1 h2=>(hk0 k b h1).1.trans (hk0 k' b h2).1.symm,fun k b j x _ hb hL=>?_,fun k b _ hb=>?_,fun k b _ hb=>?_,fun j j' x x' hj hj' _=>(L1 j x hj).1.trans (L1 j' x' hj').1.symm⟩
    · have:=hrel.fr.com b o hb hx
      refine ⟨fun h=>h.elim this.1 fun h=>absurd h.1 (by omega),fun h=>.inl (this.2 h)⟩
    · rcases h with h | h
      · exact Nat.lt_trans (hlim b o h) hBs
      · rw [h.1];exact hUs
    · match i with
      | 0=>trivial
      | 1=>exact ht1
      | 2=>trivial
      | 3=>
        rw [ht3,hvl]
        refine ⟨[_],⟨_,[],rfl,⟨⟨_,_,_,rfl,by rfl,hlc,hcm,fun i x hx=>?_⟩,fun _=>⟨_,rfl,.inr ⟨U,cap,cur,by rfl,rfl,hUc,hlc,hcm,hcs,hrows,fun o=>hCU o,fun o _=>.inl (by omega)⟩⟩⟩,rfl⟩,rfl⟩
        have hx:(limLines (seven c0 c1 c2 c3 c4 c5 c6))[i]? = some x:=hx
        have hi:i < 7:=by
          have:=(List.getElem?_eq_some_iff.1 hx).1
          simpa [limLines] using this
        have hr:=hrows i x hx
        refine ⟨_,_,rfl,RepD.len hr,fun j u hj=>?_,hr⟩
        have hjl:j < 1:=by
          have h4:=(List.getElem?_eq_some_iff.1 hj).1
          have h5:_=1:=RepD.len hr
          omega
        rw [List.getElem?_take,if_pos hjl,List.getElem?_drop] at hj
        rw [add_at]
        refine ⟨?_,.inr ⟨rfl,?_⟩⟩
        · rw [cell_at hUc,<- Array.getElem?_toList,Nat.zero_add];exact hj
        · show 0+(i*1+j) < 7
          omega
      | i+4=>trivial
    · obtain ⟨rfl,hx⟩:=L1 k _ hL
      injection hx with hx1 hx2
      subst hx1
      subst hx2
      refine ⟨_,(_,(0,0)),hcell,?_,?_,fun o _ _=>⟨hCB o,.inl (by show F.w0.heap.size<=w.heap.size;omega)⟩,fun o _=>.inr (Nat.zero_le _)⟩
      · exact Nat.le_refl _
      · exact ⟨[_],_,rfl,⟨rfl,w0⟩,[_],_,rfl,⟨rfl,w1⟩,[_],_,rfl,⟨rfl,w2⟩,[_],_,rfl,⟨rfl,w3⟩,[_],_,rfl,⟨rfl,w4⟩,[_],_,rfl,⟨rfl,w5⟩,[_],_,rfl,⟨rfl,w6⟩,[_],[],rfl,RepD.gw hgw r8,rfl⟩
    · exact absurd (congrArg Prod.fst (L1 k _ hL).2) hσ
    · match i,hs with
      | 0,hs=>cases hs
      | 1,hs=>cases hs
      | 2,hs=>cases hs
      | 3,hs=>cases hs
      | i+4,hs=>cases hs
    · match i,hk with
      | 0,hk=>cases hk
      | 1,hk=>
        have:k∈[1]:=hk
        rw [List.mem_singleton] at this
        rw [this];rfl
      | 2,hk=>cases hk
      | 3,hk=>cases hk
      | i+4,hk=>cases hk
    · rw [(hk0 k b hb).2]
      show w.heap.size≠U
      omega
    · rw [(hk0 k b hb).2];exact hUs
    · rw [(hk0 k b hb).2]
      exact .inl (by omega)
  have hv:=(congrFun (congrFun (congrFun (congrFun (congrFun (congrFun (congrFun (congrFun (congrFun F_conf_Print_text c0) c1) c2) c3) c4) c5) c6) us) (limLines (seven c0 c1 c2 c3 c4 c5 c6))).trans h9
  refine Code.wp_mono (fun e a' w' hp=>?_) (mid_sound (E:=F_conf_Print_env) hE hb hc hT (hn _ Tryz.func37) hA hv)
  obtain ⟨he,hd,us',g',st',k1,k2,k3,k4,k5⟩:=hp
  rcases he with rfl | rfl
  · exact ⟨hd, _, k1, us', g', st', rfl, k2, k3, k4, fun k hk => absurd hk (by
      match k with
      | 0=>decide
      | k+1=>exact fun h=>by cases h)⟩
  · exact ⟨hd, _, k1, us', g', st', rfl, k2, k3, k4, fun k hk => absurd hk (by
      match k with
      | 0=>decide
      | k+1=>exact fun h=>by cases h)⟩
end Go.Proofs.YtgfmfgombmpodaaGreatDoor
namespace Go.Proofs.YtgfmfgombmpodaaGreatDoor
open Pv
set_option linter.unusedVariables false
noncomputable def F_wlvlaw18_Few_L4 (l1:List (List Int)) (s:Int×Int):Option (((Bool)⊕(Int))⊕(Int×Int)):=
 let i2:=s.1;let i3:=s.2
 cond ((decide (i3 < (l1.length:Int)))&&(decide (i3 < 300)))
 ((getI l1 i3).bind fun s4=>
 some (.inr ((IntKind.i64.wrap (i2+(minI (s4.length:Int) 20001))),(IntKind.i64.wrap (i3+1)))))
 (some (.inl (.inr i2)))
noncomputable def F_wlvlaw18_Few_J2 (l1:List (List Int)) (s:Int):Option (Bool):=
 let i5:=s
 some ((decide ((l1.length:Int)<=300))&&(decide (i5<=20000)))
noncomputable def F_wlvlaw18_Few (l1:List (List Int)):Option (Bool):=
 joinC (S:=Int) (R:=Bool)
 (loopC (S:=Int×Int) (R:=(Bool)⊕(Int)) (F_wlvlaw18_Few_L4 l1) (0,0))
 (F_wlvlaw18_Few_J2 l1)
def F_wlvlaw18_Few_sig:Sig:=⟨[.v false [.d (.sl .str)]],[(false,[.d .bool])]⟩
def F_wlvlaw18_Few_ann:List (Nat×Ann):=[(2,⟨3,[(3,false,[.d (.int .i64)])],[],(List.range' 4 19),[]⟩),(4,⟨5,[(3,false,[.d (.int .i64)]),(4,false,[.d (.int .i64)])],[],(List.range' 5 18),[]⟩)]
noncomputable def F_wlvlaw18_Few_env:Env:=⟨Tryz.prog,[],[]⟩
theorem F_wlvlaw18_Few_text:pvFn F_wlvlaw18_Few_env F_wlvlaw18_Few_ann Tryz.f26 F_wlvlaw18_Few_sig=F_wlvlaw18_Few:=by kernel_rfl
noncomputable def F_wlvref_Texts_L6 (l1:List (List Int)) (l2:List (List Int)) (s:Int):Option (((Bool)⊕(Unit))⊕(Int)):=
 let i3:=s
 cond (decide (i3 < (l1.length:Int)))
 ((getI l1 i3).bind fun s4=>
 (getI l2 i3).bind fun s5=>
 cond (!(s4==s5))
 (some (.inl (.inl false)))
 (some (.inr (IntKind.i64.wrap (i3+1)))))
 (some (.inl (.inr ())))
noncomputable def F_wlvref_Texts_J4 (s:Unit):Option (Bool):=
 some true
noncomputable def F_wlvref_Texts (l1:List (List Int)) (l2:List (List Int)):Option (Bool):=
 cond ((l1.length:Int) != (l2.length:Int))
 (some false)
 (joinC (S:=Unit) (R:=Bool)
 (loopC (S:=Int) (R:=(Bool)⊕(Unit)) (F_wlvref_Texts_L6 l1 l2) 0)
 (F_wlvref_Texts_J4))
def F_wlvref_Texts_sig:Sig:=⟨[.v false [.d (.sl .str)],.v false [.d (.sl .str)]],[(false,[.d .bool])]⟩
def F_wlvref_Texts_ann:List (Nat×Ann):=[(4,⟨5,[],[],([4,5]++List.range' 11 15),[]⟩),(6,⟨7,[(5,false,[.d (.int .i64)])],[],([4]++List.range' 11 15),[]⟩)]
noncomputable def F_wlvref_Texts_env:Env:=⟨Tryz.prog,[],[]⟩
theorem F_wlvref_Texts_text:pvFn F_wlvref_Texts_env F_wlvref_Texts_ann Tryz.f36 F_wlvref_Texts_sig=F_wlvref_Texts:=by kernel_rfl
noncomputable def F_wlvref_Bytes (l1:List Int) (l2:List Int):Option (Bool):=
 some (l1==l2)
def F_wlvref_Bytes_sig:Sig:=⟨[.v false [.d (.sl (.int .u8))],.v false [.d (.sl (.int .u8))]],[(false,[.d .bool])]⟩
def F_wlvref_Bytes_ann:List (Nat×Ann):=[]
noncomputable def F_wlvref_Bytes_env:Env:=⟨Tryz.prog,[],[]⟩
theorem F_wlvref_Bytes_text:pvFn F_wlvref_Bytes_env F_wlvref_Bytes_ann Tryz.f104 F_wlvref_Bytes_sig=F_wlvref_Bytes:=by kernel_rfl
noncomputable def F_wlvref18_sameUser_L6 (l6:List RuleD) (l12:List RuleD) (s:Int):Option (((Bool)⊕(Unit))⊕(Int)):=
 let i15:=s
 cond (decide (i15 < (l6.length:Int)))
 ((getI l6 i15).bind fun x16=>
 (getI l12 i15).bind fun x17=>
 cond (!((bEq x16.1 x17.1)&&((eqI x16.2.1 x17.2.1)&&((eqL x16.2.2.1 x17.2.2.1)&&(((eqL x16.2.2.2.1.1 x17.2.2.2.1.1)&&((eqI x16.2.2.2.1.2 x17.2.2.2.1.2)&&true))&&((eqI x16.2.2.2.2.1 x17.2.2.2.2.1)&&((eqI x16.2.2.2.2.2 x17.2.2.2.2.2)&&true)))))))
 (some (.inl (.inl false)))
 (some (.inr (IntKind.i64.wrap (i15+1)))))
 (some (.inl (.inr ())))
noncomputable def F_wlvref18_sameUser_J4 (s:Unit):Option (Bool):=
 some true
noncomputable def F_wlvref18_sameUser (s1:List Int) (l2:List Int) (l3:List Int) (i4:Int) (z5:(Nat×Nat)) (l6:List RuleD) (s7:List Int) (l8:List Int) (l9:List Int) (i10:Int) (z11:(Nat×Nat)) (l12:List RuleD):Option (Bool):=
 cond (!(s1==s7))
 (some false)
 ((F_wlvref_Bytes l2 l8).bind fun b13=>
 cond (!b13)
 (some false)
 ((F_wlvref_Bytes l3 l9).bind fun b14=>
 cond (!b14)
 (some false)
 (cond (i4 != i10)
 (some false)
 (cond (!(feq .f64 z5.1 z11.1&&feq .f64 z5.2 z11.2))
 (some false)
 (cond ((l6.length:Int) != (l12.length:Int))
 (some false)
 (joinC (S:=Unit) (R:=Bool)
 (loopC (S:=Int) (R:=(Bool)⊕(Unit)) (F_wlvref18_sameUser_L6 l6 l12) 0)
 (F_wlvref18_sameUser_J4)))))))
def F_wlvref18_sameUser_sig:Sig:=⟨[.v true [.d .str,.d (.sl (.int .u8)),.d (.sl (.int .u8)),.d (.int .i64),.d (.cpx .f64),.d (.sl (.pr .bool (.pr (.int .i64) (.pr .str (.pr (.pr .str (.int .i64)) (.pr (.int .i64) (.int .i64)))))))],.v true [.d .str,.d (.sl (.int .u8)),.d (.sl (.int .u8)),.d (.int .i64),.d (.cpx .f64),.d (.sl (.pr .bool (.pr (.int .i64) (.pr .str (.pr (.pr .str (.int .i64)) (.pr (.int .i64) (.int .i64)))))))]],[(false,[.d .bool])]⟩
def F_wlvref18_sameUser_ann:List (Nat×Ann):=[(4,⟨5,[],[],([4,5]++List.range' 54 18),[]⟩),(6,⟨7,[(5,false,[.d (.int .i64)])],[],([4]++List.range' 54 18),[2,3]⟩)]
noncomputable def F_wlvref18_sameUser_env:Env:=⟨Tryz.prog,[(104,⟨F_wlvref_Bytes_sig,⟨F_wlvref_Bytes⟩⟩)],[]⟩
theorem F_wlvref18_sameUser_text:pvFn F_wlvref18_sameUser_env F_wlvref18_sameUser_ann Tryz.f59 F_wlvref18_sameUser_sig=F_wlvref18_sameUser:=by kernel_rfl
noncomputable def F_wlvref18_Same_L6 (l8:List UserD) (l16:List UserD) (s:Int):Option (((Bool)⊕(Unit))⊕(Int)):=
 let i17:=s
 cond (decide (i17 < (l8.length:Int)))
 ((getI l8 i17).bind fun x18=>
 (getI l16 i17).bind fun x19=>
 (F_wlvref18_sameUser x18.1 x18.2.1.1 x18.2.1.2 x18.2.2.1 x18.2.2.2.1 x18.2.2.2.2 x19.1 x19.2.1.1 x19.2.1.2 x19.2.2.1 x19.2.2.2.1 x19.2.2.2.2).bind fun b20=>
 cond (!b20)
 (some (.inl (.inl false)))
 (some (.inr (IntKind.i64.wrap (i17+1)))))
 (some (.inl (.inr ())))
noncomputable def F_wlvref18_Same_J4 (s:Unit):Option (Bool):=
 some true
noncomputable def F_wlvref18_Same (i1:Int) (i2:Int) (i3:Int) (i4:Int) (i5:Int) (i6:Int) (i7:Int) (l8:List UserD) (i9:Int) (i10:Int) (i11:Int) (i12:Int) (i13:Int) (i14:Int) (i15:Int) (l16:List UserD):Option (Bool):=
 cond (i1 != i9)
 (some false)
 (cond (i2 != i10)
 (some false)
 (cond (i3 != i11)
 (some false)
 (cond (i4 != i12)
 (some false)
 (cond (i5 != i13)
 (some false)
 (cond (i6 != i14)
 (some false)
 (cond (i7 != i15)
 (some false)
 (cond ((l8.length:Int) != (l16.length:Int))
 (some false)
 (joinC (S:=Unit) (R:=Bool)
 (loopC (S:=Int) (R:=(Bool)⊕(Unit)) (F_wlvref18_Same_L6 l8 l16) 0)
 (F_wlvref18_Same_J4)))))))))
def F_wlvref18_Same_sig:Sig:=⟨[.v true [.d (.int .i64),.d (.int .i64),.d (.int .i64),.d (.int .i64),.d (.int .i64),.d (.int .i64),.d (.int .i64),.d (.sl (.pr .str (.pr (.pr (.sl (.int .u8)) (.sl (.int .u8))) (.pr (.int .i64) (.pr (.cpx .f64) (.sl (.pr .bool (.pr (.int .i64) (.pr .str (.pr (.pr .str (.int .i64)) (.pr (.int .i64) (.int .i64))))))))))))],.v true [.d (.int .i64),.d (.int .i64),.d (.int .i64),.d (.int .i64),.d (.int .i64),.d (.int .i64),.d (.int .i64),.d (.sl (.pr .str (.pr (.pr (.sl (.int .u8)) (.sl (.int .u8))) (.pr (.int .i64) (.pr (.cpx .f64) (.sl (.pr .bool (.pr (.int .i64) (.pr .str (.pr (.pr .str (.int .i64)) (.pr (.int .i64) (.int .i64))))))))))))]],[(false,[.d .bool])]⟩
def F_wlvref18_Same_ann:List (Nat×Ann):=[(4,⟨5,[],[],([4,5]++List.range' 62 19),[]⟩),(6,⟨7,[(5,false,[.d (.int .i64)])],[],([4]++List.range' 62 19),[2,3]⟩)]
noncomputable def F_wlvref18_Same_env:Env:=⟨Tryz.prog,[(59,⟨F_wlvref18_sameUser_sig,⟨F_wlvref18_sameUser⟩⟩)],[]⟩
theorem F_wlvref18_Same_text:pvFn F_wlvref18_Same_env F_wlvref18_Same_ann Tryz.f29 F_wlvref18_Same_sig=F_wlvref18_Same:=by kernel_rfl
end Go.Proofs.YtgfmfgombmpodaaGreatDoor
namespace Go.Proofs.YtgfmfgombmpodaaGreatDoor
open Go.RowKit Go.Lib Pv
set_option linter.unusedVariables false
set_option maxHeartbeats 4000000 in
set_option maxRecDepth 1000000 in
theorem cpa_walk (a:Option Addr) (c:Nat) (w:World) :
  Calls Tryz.prog 27 #[.slice a 0 c] w fun e w'=>e=.returned (.tuple #[confZ,.int .i64 0]) /\ Below w.heap.size w w':=by
 go_enter Tryz.func27,Tryz.ntmps27
 have hmm:=@run_makeMap Tryz.prog
 go_wp2
 go_loopw [3,14] (fun u v wr=>u=.int .i64 0 /\ v=.int .i64 0 /\ wr=confW w) (fun _ _ _=>1)
 case atStart=>exact ⟨rfl,rfl,rfl⟩
 case round=>
  obtain ⟨rfl,rfl,rfl⟩:=hrel
  unfold confW
  go_wp2
  generalize hW:World.alloc _ _=W'
  have hq:=four w _ _ _ _ hW
  refine conf_ret rfl rfl rfl hq.2 ⟨rfl,hq.1⟩
def F_conf_Parse0_sig:Sig:=⟨[.v false [.d (.sl .str)]],[(true,[.d (.int .i64),.d (.int .i64),.d (.int .i64),.d (.int .i64),.d (.int .i64),.d (.int .i64),.d (.int .i64),.own 63 (.pr .str (.pr (.pr (.sl (.int .u8)) (.sl (.int .u8))) (.pr (.int .i64) (.pr (.cpx .f64) (.sl (.pr .bool (.pr (.int .i64) (.pr .str (.pr (.pr .str (.int .i64)) (.pr (.int .i64) (.int .i64)))))))))))]),(false,[.d (.int .i64)])]⟩
def confD:Int×Int×Int×Int×Int×Int×Int×List (List Int×(List Int×List Int)×Int×(Nat×Nat)×List (Bool×Int×List Int×(List Int×Int)×Int×Int))×Int:=(16,100,65535,1000,1000000,1000,16384,[],0)
def F_conf_Parse0 (l:List (List Int)):Option (Int×Int×Int×Int×Int×Int×Int×List (List Int×(List Int×List Int)×Int×(Nat×Nat)×List (Bool×Int×List Int×(List Int×Int)×Int×Int))×Int):=cond (Nat.beq l.length 0) (some confD) none
theorem F_conf_Parse0_sound {T:Tab}:SoundFn Tryz.prog T 27 F_conf_Parse0_sig ⟨F_conf_Parse0⟩:=by
 refine sound_of rfl fun F g O xs ls y tmf w args hT hw hlim hls happ hsz hr=>?_
 obtain ⟨(l:List (List Int)),xs',rfl,h2⟩:=appF_inv_c (ts:=[]) happ
 obtain ⟨rfl,h3⟩:=appF_inv_n h2
 have hls':some [Leaf.d (.sl .str) l]=some ls:=hls
 injection hls' with hls'
 subst hls'
 obtain ⟨a,n,c,e0,e1,e2,e3,e4⟩:=rel_leaf.1 (hr 0)
 have e0:args.getD 0 undef=.slice a n c:=by injection e0
 rw [args_1 hsz,e0]
 have h3:F_conf_Parse0 l=some y:=h3
 unfold F_conf_Parse0 at h3
 cases hb:Nat.beq l.length 0 with
 | false=>rw [hb] at h3;cases h3
 | true=>
  rw [hb] at h3
  have hy:confD=y:=by injection h3
  have hl:=Nat.eq_of_beq_eq_true hb
  have e1:l.length=n:=e1
  obtain rfl:n=0:=by omega
  subst hy
  refine (cpa_walk a c w).mono ?_
  rintro e w' ⟨rfl,hbel⟩
  refine ⟨[confZ,.int .i64 0],_,g.C,fun _=>none,rfl,rfl,rfl,hbel,fun _ _ _=>Iff.rfl,fun b o h=>Nat.lt_of_lt_of_le (hlim b o h) hbel.size,rfl,fun k b h=>(by cases h),fun k k' b h=>(by cases h),fun i hi=>?_⟩
  match i,hi with
  | 0,_=>
   have ti:∀ {x:Int},(Lit.int .i64 x).wf=true->RepL F ⟨g.C,fun _=>none,g.ρ,fun _ _=>[]⟩ w' (exitO F_conf_Parse0_sig) (.d (.int .i64) x) [.int .i64 x]:=fun h=>⟨rfl,h⟩
   refine ⟨[.int .i64 16,.int .i64 100,.int .i64 65535,.int .i64 1000,.int .i64 1000000,.int .i64 1000,.int .i64 16384,.slice none 0 0],?_,rfl⟩
   refine ⟨[_],_,rfl,ti rfl,[_],_,rfl,ti rfl,[_],_,rfl,ti rfl,[_],_,rfl,ti rfl,[_],_,rfl,ti rfl,[_],_,rfl,ti rfl,[_],_,rfl,ti rfl,[_],[],rfl,?_,rfl⟩
   exact ⟨⟨none,0,0,rfl,rfl,Nat.le_refl _,by unfold maxLen;omega,fun i x hx=>by
    have hx:List.nil[i]? = some x:=hx
    simp at hx⟩,fun _=>⟨_,rfl,.inl ⟨none,rfl,rfl,rfl⟩⟩⟩
  | 1,_=>exact rel_leaf.2 ⟨rfl,rfl⟩
  | i+2,hi=>exact absurd hi (by show ¬ i+2 < 2;omega)
end Go.Proofs.YtgfmfgombmpodaaGreatDoor
namespace Go.Proofs.YtgfmfgombmpodaaGreatDoor
open Pv
set_option linter.unusedVariables false
noncomputable def F_wlvlaw18_first0:Option (Bool):=
 (F_conf_Parse0 ([]:List (List Int))).bind fun x1=>
 cond (x1.2.2.2.2.2.2.2.2==0)
 (cond (x1.1==16)
 (cond (x1.2.1==100)
 (cond (x1.2.2.1==65535)
 (cond (x1.2.2.2.1==1000)
 (cond (x1.2.2.2.2.1==1000000)
 (cond (x1.2.2.2.2.2.1==1000)
 (cond (x1.2.2.2.2.2.2.1==16384)
 (some ((x1.2.2.2.2.2.2.2.1.length:Int)==0))
 (some false))
 (some false))
 (some false))
 (some false))
 (some false))
 (some false))
 (some false))
 (some false)
def F_wlvlaw18_first0_sig:Sig:=⟨[],[(false,[.d .bool])]⟩
def F_wlvlaw18_first0_ann:List (Nat×Ann):=[]
noncomputable def F_wlvlaw18_first0_env:Env:=⟨Tryz.prog,[(27,⟨F_conf_Parse0_sig,⟨F_conf_Parse0⟩⟩)],[]⟩
theorem F_wlvlaw18_first0_text:pvFn F_wlvlaw18_first0_env F_wlvlaw18_first0_ann Tryz.f25 F_wlvlaw18_first0_sig=F_wlvlaw18_first0:=by kernel_rfl
noncomputable def F_wlvlaw18_ConfPrints (l1:List (List Int)) (l2:List (List Int)) (s3:List Int):Option (Bool):=
 (F_wlvlaw18_first0).bind fun b4=>
 cond (!b4)
 (some false)
 ((F_wlvlaw18_Few l1).bind fun b5=>
 cond (!b5)
 ((F_wlvlaw18_first0).bind fun b6=>
 some b6)
 ((F_wlvlaw18_Few l2).bind fun b7=>
 cond ((!b7)||(decide ((s3.length:Int) > 1000)))
 ((F_wlvlaw18_first0).bind fun b8=>
 some b8)
 ((F_wlvref18_Parse l1).bind fun x9=>
 (F_wlvref18_Parse l2).bind fun x10=>
 cond ((x9.2.2.2.2.2.2.2.2 != 0)||(x10.2.2.2.2.2.2.2.2 != 0))
 ((F_wlvlaw18_first0).bind fun b11=>
 some b11)
 ((F_conf_Find x9.1 x9.2.1 x9.2.2.1 x9.2.2.2.1 x9.2.2.2.2.1 x9.2.2.2.2.2.1 x9.2.2.2.2.2.2.1 x9.2.2.2.2.2.2.2.1 s3).bind fun x12=>
 (F_wlvref18_Find x9.1 x9.2.1 x9.2.2.1 x9.2.2.2.1 x9.2.2.2.2.1 x9.2.2.2.2.2.1 x9.2.2.2.2.2.2.1 x9.2.2.2.2.2.2.2.1 s3).bind fun x13=>
 (F_wlvlaw18_first0).bind fun b14=>
 cond b14
 ((F_conf_Print x9.1 x9.2.1 x9.2.2.1 x9.2.2.2.1 x9.2.2.2.2.1 x9.2.2.2.2.2.1 x9.2.2.2.2.2.2.1 x9.2.2.2.2.2.2.2.1).bind fun l15=>
 (F_wlvref18_Print x9.1 x9.2.1 x9.2.2.1 x9.2.2.2.1 x9.2.2.2.2.1 x9.2.2.2.2.2.1 x9.2.2.2.2.2.2.1 x9.2.2.2.2.2.2.2.1).bind fun l16=>
 (F_wlvref_Texts l15 l16).bind fun b17=>
 cond b17
 ((F_conf_Same x9.1 x9.2.1 x9.2.2.1 x9.2.2.2.1 x9.2.2.2.2.1 x9.2.2.2.2.2.1 x9.2.2.2.2.2.2.1 x9.2.2.2.2.2.2.2.1 x10.1 x10.2.1 x10.2.2.1 x10.2.2.2.1 x10.2.2.2.2.1 x10.2.2.2.2.2.1 x10.2.2.2.2.2.2.1 x10.2.2.2.2.2.2.2.1).bind fun b18=>
 (F_wlvref18_Same x9.1 x9.2.1 x9.2.2.1 x9.2.2.2.1 x9.2.2.2.2.1 x9.2.2.2.2.2.1 x9.2.2.2.2.2.2.1 x9.2.2.2.2.2.2.2.1 x10.1 x10.2.1 x10.2.2.1 x10.2.2.2.1 x10.2.2.2.2.1 x10.2.2.2.2.2.1 x10.2.2.2.2.2.2.1 x10.2.2.2.2.2.2.2.1).bind fun b19=>
 cond ((bEq b18 b19)&&(bEq x12.2.2.2.2.2.2 x13.2.2.2.2.2.2))
 (cond (x12.1==x13.1)
 (cond ((x12.2.2.2.2.2.1.length:Int)==(x13.2.2.2.2.2.1.length:Int))
 (some (x12.2.2.2.1==x13.2.2.2.1))
 (some false))
 (some false))
 (some false))
 (some false))
 (some false)))))
def F_wlvlaw18_ConfPrints_sig:Sig:=⟨[.v false [.d (.sl .str)],.v false [.d (.sl .str)],.v false [.d .str]],[(false,[.d .bool])]⟩
def F_wlvlaw18_ConfPrints_ann:List (Nat×Ann):=[]
noncomputable def F_wlvlaw18_ConfPrints_env:Env:=⟨Tryz.prog,[(25,⟨F_wlvlaw18_first0_sig,⟨F_wlvlaw18_first0⟩⟩),(26,⟨F_wlvlaw18_Few_sig,⟨F_wlvlaw18_Few⟩⟩),(28,⟨F_wlvref18_Parse_sig,⟨F_wlvref18_Parse⟩⟩),(29,⟨F_wlvref18_Same_sig,⟨F_wlvref18_Same⟩⟩),(31,⟨F_conf_Same_sig,⟨F_conf_Same⟩⟩),(34,⟨F_conf_Find_sig,⟨F_conf_Find⟩⟩),(35,⟨F_wlvref18_Find_sig,⟨F_wlvref18_Find⟩⟩),(36,⟨F_wlvref_Texts_sig,⟨F_wlvref_Texts⟩⟩),(37,⟨F_conf_Print_sig,⟨F_conf_Print⟩⟩),(38,⟨F_wlvref18_Print_sig,⟨F_wlvref18_Print⟩⟩)],[]⟩
theorem F_wlvlaw18_ConfPrints_text:pvFn F_wlvlaw18_ConfPrints_env F_wlvlaw18_ConfPrints_ann Tryz.f9 F_wlvlaw18_ConfPrints_sig=F_wlvlaw18_ConfPrints:=by kernel_rfl
end Go.Proofs.YtgfmfgombmpodaaGreatDoor
namespace Go.Proofs.YtgfmfgombmpodaaGreatDoor
open Pv
theorem F_wlvlaw18_first0_sound {T:Tab}:SoundFn Tryz.prog T 25 F_wlvlaw18_first0_sig ⟨F_wlvlaw18_first0⟩:=by
 have h:=fn_sound (T:=T) (E:=F_wlvlaw18_first0_env) (by unfold Env.ok;exact List.forall_mem_cons.2 ⟨F_conf_Parse0_sound,fun p h=>by cases h⟩) (A:=F_wlvlaw18_first0_ann) (f:=25) (fn:=Tryz.f25) (s:=F_wlvlaw18_first0_sig) Tryz.func25
 rw [F_wlvlaw18_first0_text] at h
 exact h
theorem F_wlvlaw18_Few_sound {T:Tab}:SoundFn Tryz.prog T 26 F_wlvlaw18_Few_sig ⟨F_wlvlaw18_Few⟩:=by
 have h:=fn_sound (T:=T) (E:=F_wlvlaw18_Few_env) (by unfold Env.ok;exact fun p h=>by cases h) (A:=F_wlvlaw18_Few_ann) (f:=26) (fn:=Tryz.f26) (s:=F_wlvlaw18_Few_sig) Tryz.func26
 rw [F_wlvlaw18_Few_text] at h
 exact h
theorem F_wlvref_Texts_sound {T:Tab}:SoundFn Tryz.prog T 36 F_wlvref_Texts_sig ⟨F_wlvref_Texts⟩:=by
 have h:=fn_sound (T:=T) (E:=F_wlvref_Texts_env) (by unfold Env.ok;exact fun p h=>by cases h) (A:=F_wlvref_Texts_ann) (f:=36) (fn:=Tryz.f36) (s:=F_wlvref_Texts_sig) Tryz.func36
 rw [F_wlvref_Texts_text] at h
 exact h
theorem F_wlvref_Bytes_sound {T:Tab}:SoundFn Tryz.prog T 104 F_wlvref_Bytes_sig ⟨F_wlvref_Bytes⟩:=by
 have h:=fn_sound (T:=T) (E:=F_wlvref_Bytes_env) (by unfold Env.ok;exact fun p h=>by cases h) (A:=F_wlvref_Bytes_ann) (f:=104) (fn:=Tryz.f104) (s:=F_wlvref_Bytes_sig) Tryz.func104
 rw [F_wlvref_Bytes_text] at h
 exact h
theorem F_wlvref18_sameUser_sound {T:Tab}:SoundFn Tryz.prog T 59 F_wlvref18_sameUser_sig ⟨F_wlvref18_sameUser⟩:=by
 have h:=fn_sound (T:=T) (E:=F_wlvref18_sameUser_env) (by unfold Env.ok;exact List.forall_mem_cons.2 ⟨F_wlvref_Bytes_sound,fun p h=>by cases h⟩) (A:=F_wlvref18_sameUser_ann) (f:=59) (fn:=Tryz.f59) (s:=F_wlvref18_sameUser_sig) Tryz.func59
 rw [F_wlvref18_sameUser_text] at h
 exact h
theorem F_wlvref18_Same_sound {T:Tab}:SoundFn Tryz.prog T 29 F_wlvref18_Same_sig ⟨F_wlvref18_Same⟩:=by
 have h:=fn_sound (T:=T) (E:=F_wlvref18_Same_env) (by unfold Env.ok;exact List.forall_mem_cons.2 ⟨F_wlvref18_sameUser_sound,fun p h=>by cases h⟩) (A:=F_wlvref18_Same_ann) (f:=29) (fn:=Tryz.f29) (s:=F_wlvref18_Same_sig) Tryz.func29
 rw [F_wlvref18_Same_text] at h
 exact h
theorem F_wlvlaw18_ConfPrints_sound {T:Tab} (h_pow10:tab_pow10∈T) (h_db:tab_db∈T):SoundFn Tryz.prog T 9 F_wlvlaw18_ConfPrints_sig ⟨F_wlvlaw18_ConfPrints⟩:=by
 have h:=fn_sound (T:=T) (E:=F_wlvlaw18_ConfPrints_env) (by unfold Env.ok;exact List.forall_mem_cons.2 ⟨F_wlvlaw18_first0_sound,List.forall_mem_cons.2 ⟨F_wlvlaw18_Few_sound,List.forall_mem_cons.2 ⟨F_wlvref18_Parse_sound,List.forall_mem_cons.2 ⟨F_wlvref18_Same_sound,List.forall_mem_cons.2 ⟨F_conf_Same_sound,List.forall_mem_cons.2 ⟨F_conf_Find_sound,List.forall_mem_cons.2 ⟨F_wlvref18_Find_sound,List.forall_mem_cons.2 ⟨F_wlvref_Texts_sound,List.forall_mem_cons.2 ⟨F_conf_Print_sound h_pow10 h_db,List.forall_mem_cons.2 ⟨F_wlvref18_Print_sound,fun p h=>by cases h⟩⟩⟩⟩⟩⟩⟩⟩⟩⟩) (A:=F_wlvlaw18_ConfPrints_ann) (f:=9) (fn:=Tryz.f9) (s:=F_wlvlaw18_ConfPrints_sig) Tryz.func9
 rw [F_wlvlaw18_ConfPrints_text] at h
 exact h
end Go.Proofs.YtgfmfgombmpodaaGreatDoor

namespace Go.Proofs.YtgfmfgombmpodaaGreatDoor
open Pv
set_option linter.unusedVariables false
def isDig (c:Int):Bool:=decide (48<=c)&&decide (c<=57)
def valI (s:List Int):Int:=s.foldl (fun a c=>a*10+(c - 48)) 0
def canonB (s:List Int):Bool:=s.all isDig&&match s with
 | []=>false
 | [_]=>true
 | c::_=>c != 48
theorem valI_snoc (s:List Int) (c:Int):valI (s++[c])=valI s*10+(c - 48):=by
 unfold valI
 rw [List.foldl_append];rfl
theorem dig_of {c:Int} (h:isDig c=true):48<=c /\ c<=57:=by
 simpa [isDig] using h
theorem valI_nn:∀ (k:Nat) (s:List Int),s.length=k->s.all isDig=true->0<=valI s:=fun k=>by
 induction k with
 | zero=>intro s h _;rw [List.length_eq_zero_iff.1 h];decide
 | succ k ih=>
  intro s h hd
  rcases List.eq_nil_or_concat s with rfl | ⟨s',c,rfl⟩
  ·decide
  ·rw [List.concat_eq_append] at h hd ⊢
   rw [List.all_append,Bool.and_eq_true] at hd
   have hc:=dig_of (c:=c) (by simpa using hd.2)
   have:=ih s' (by simp at h;omega) hd.1
   rw [valI_snoc]
   omega
def dgs (n:Nat):List Int:=(Lib.decDigits n).map byteI
theorem dgs_one {n:Nat} (h:n < 10):dgs n=[48+(n:Int)]:=by
 unfold dgs
 rw [Lib.decDigits_one h]
 show [byteI (UInt8.ofNat (48+n))]=_
 unfold byteI
 rw [UInt8.toNat_ofNat',Nat.mod_eq_of_lt (by omega)]
 congr 1
theorem dgs_more {n:Nat} (h:¬ n < 10):dgs n=dgs (n / 10)++[48+((n % 10:Nat):Int)]:=by
 unfold dgs
 rw [Lib.decDigits,dif_neg h,List.map_append]
 congr 1
 show [byteI (UInt8.ofNat (48+n % 10))]=_
 unfold byteI
 rw [UInt8.toNat_ofNat',Nat.mod_eq_of_lt (by omega)]
 congr 1
theorem itoa_dgs (n:Nat):itoaI (n:Int)=dgs n:=by
 unfold itoaI dgs
 rw [Lib.itoa_nonneg]
theorem dgs_spec:∀ (k n:Nat),n < k->(dgs n).all isDig=true /\ valI (dgs n)=n /\ dgs n≠[] /\ (1<=n->(dgs n).head? ≠ some 48):=fun k=>by
 induction k with
 | zero=>intro n h;omega
 | succ k ih=>
  intro n h
  by_cases h10:n < 10
  ·rw [dgs_one h10]
   refine ⟨by simp [isDig];omega,by simp [valI];omega,by simp,fun h1=>?_⟩
   show some (48+(n:Int))≠some 48
   intro e
   injection e with e
   omega
  ·obtain ⟨a,b,c,d⟩:=ih (n / 10) (by omega)
   rw [dgs_more h10]
   refine ⟨?_,?_,by simp,fun _=>?_⟩
   ·rw [List.all_append,a]
    simp [isDig]
    omega
   ·rw [valI_snoc,b]
    omega
   ·cases hq:dgs (n / 10) with
    | nil=>exact absurd hq c
    | cons x r=>
     rw [hq] at d
     exact d (by omega)
theorem canon_dgs (n:Nat):canonB (dgs n)=true:=by
 obtain ⟨a,b,c,d⟩:=dgs_spec (n+1) n (by omega)
 unfold canonB
 rw [a,Bool.true_and]
 by_cases h10:n < 10
 ·rw [dgs_one h10]
 ·have hd:=d (by omega)
  have hl:2<=(dgs n).length:=by
   rw [dgs_more h10,List.length_append]
   have:0 < (dgs (n / 10)).length:=List.length_pos_iff.2 (dgs_spec (n / 10+1) (n / 10) (by omega)).2.2.1
   simp
   omega
  match hs:dgs n,hd,hl with
  | x::y::r,hd,_=>
   show (x != 48)=true
   exact bne_iff_ne.2 fun e=>hd (by rw [e];rfl)
theorem val_pos:∀ (k:Nat) (s:List Int),s.length=k->s.all isDig=true->(∃ c r,s=c::r /\ c≠48)->1<=valI s:=fun k=>by
 induction k with
 | zero=>intro s h _ ⟨c,r,e,_⟩;subst e;simp at h
 | succ k ih=>
  intro s h hd ⟨c,r,e,hc⟩
  rcases List.eq_nil_or_concat s with rfl | ⟨s',x,e'⟩
  ·cases e
  ·rw [List.concat_eq_append] at e'
   subst e'
   rw [List.all_append,Bool.and_eq_true] at hd
   have hx:=dig_of (c:=x) (by simpa using hd.2)
   rw [valI_snoc]
   cases s' with
   | nil=>
    have:x=c:=by simpa using congrArg List.head? e
    subst this
    show 1<=(0:Int)*10+(x - 48)
    omega
   | cons c' r'=>
    have:c'=c:=by simpa using congrArg List.head? e
    subst this
    have:=ih (c'::r') (by simp at h ⊢;omega) hd.1 ⟨c',r',rfl,hc⟩
    omega
theorem canon_eq:∀ (k:Nat) (s:List Int),s.length=k->canonB s=true -> ∃ n:Nat,s=dgs n /\ valI s=n:=fun k=>by
 induction k with
 | zero=>intro s h hc;rw [List.length_eq_zero_iff.1 h] at hc;cases hc
 | succ k ih=>
  intro s h hc
  have hd:s.all isDig=true:=by unfold canonB at hc;exact (Bool.and_eq_true _ _ ▸ hc).1
  rcases List.eq_nil_or_concat s with rfl | ⟨s',x,e'⟩
  ·cases hc
  ·rw [List.concat_eq_append] at e'
   subst e'
   have hd':=hd
   rw [List.all_append,Bool.and_eq_true] at hd'
   have hx:=dig_of (c:=x) (by simpa using hd'.2)
   cases s' with
   | nil=>
    refine ⟨(x - 48).toNat,?_,?_⟩
    ·rw [dgs_one (by omega)]
     show [x]=_
     congr 1
     omega
    ·show (0:Int)*10+(x - 48)=_
     omega
   | cons c' r'=>
    have hne:c'≠48:=by
     unfold canonB at hc
     rw [hd,Bool.true_and] at hc
     cases r' with
     | nil=>exact bne_iff_ne.1 hc
     | cons=>exact bne_iff_ne.1 hc
    have hcan:canonB (c'::r')=true:=by
     unfold canonB
     rw [hd'.1,Bool.true_and]
     cases r' with
     | nil=>rfl
     | cons=>exact bne_iff_ne.2 hne
    obtain ⟨n,h1,h2⟩:=ih (c'::r') (by simp at h ⊢;omega) hcan
    have hp:=val_pos _ (c'::r') rfl hd'.1 ⟨c',r',rfl,hne⟩
    refine ⟨n*10+(x - 48).toNat,?_,?_⟩
    ·rw [dgs_more (by omega),show (n*10+(x - 48).toNat) / 10=n by omega,show (n*10+(x - 48).toNat) % 10=(x - 48).toNat by omega,<- h1]
     congr 2
     omega
    ·rw [valI_snoc,h2]
     omega
theorem parse_snoc (c:UInt8):∀ (l:List UInt8) (acc m:Nat),Lib.parseUint10 acc l=.ok m->Lib.parseUint10 acc (l++[c])=Lib.parseUint10 m [c]
 | [],acc,m,h=>by
  have:acc=m:=by
   have h:Lib.NumEnd.ok acc=.ok m:=h
   injection h
  subst this;rfl
 | x::l,acc,m,h=>by
  rw [List.cons_append]
  unfold Lib.parseUint10 at h ⊢
  split at h
  ·rename_i h1
   rw [if_pos h1]
   split at h
   ·cases h
   ·rename_i h2
    rw [if_neg h2]
    split at h
    ·cases h
    ·rename_i h3
     rw [if_neg h3]
     rw [parse_snoc c l _ m h]
     rfl
  ·cases h
theorem parse_dec:∀ (k n:Nat),n < k->n < 18446744073709551616->Lib.parseUint10 0 (Lib.decDigits n)=.ok n:=fun k=>by
 induction k with
 | zero=>intro n h;omega
 | succ k ih=>
  intro n h hn
  have hc:(UInt8.ofNat (48+n % 10)).toNat=48+n % 10:=by rw [UInt8.toNat_ofNat',Nat.mod_eq_of_lt (by omega)]
  have step:∀ acc,acc=n / 10->Lib.parseUint10 acc [UInt8.ofNat (48+n % 10)]=.ok n:=fun acc e=>by
   unfold Lib.parseUint10
   rw [hc,if_pos (by omega),if_neg (by omega),if_neg (by omega)]
   show Lib.NumEnd.ok _=_
   congr 1
   omega
  rw [Lib.decDigits]
  by_cases h10:n < 10
  ·rw [dif_pos h10]
   have:=step 0 (by omega)
   rwa [Nat.mod_eq_of_lt h10] at this
  ·rw [dif_neg h10,parse_snoc _ _ _ _ (ih (n / 10) (by omega) (by omega))]
   exact step _ rfl
theorem dec_cons (n:Nat):∃ c r,Lib.decDigits n=c::r /\ c.toNat≠43 /\ c.toNat≠45:=by
 obtain ⟨a,b,c,d⟩:=dgs_spec (n+1) n (by omega)
 cases h:Lib.decDigits n with
 | nil=>exact absurd (by unfold dgs;rw [h];rfl) c
 | cons x r=>
  refine ⟨x,r,rfl,?_⟩
  unfold dgs at a
  rw [h,List.map_cons,List.all_cons,Bool.and_eq_true] at a
  have:=dig_of a.1
  unfold byteI at this
  omega
theorem toB_dgs (n:Nat):toB (dgs n)=Lib.decDigits n:=by
 unfold toB dgs
 rw [List.map_map]
 conv=>rhs;rw [<-List.map_id (Lib.decDigits n)]
 apply List.map_congr_left
 intro b _
 show (((b.toNat:Nat):Int).toNat).toUInt8=b
 rw [Int.toNat_natCast,Nat.toUInt8_eq,UInt8.ofNat_toNat]
theorem atoi_dgs (n:Nat) (h:n < 9223372036854775808):atoiP (dgs n)=((n:Int),false):=by
 unfold atoiP
 rw [toB_dgs]
 obtain ⟨c,r,h1,h2,h3⟩:=dec_cons n
 have hp:=parse_dec (n+1) n (by omega) (by omega)
 have:Lib.atoiAll (Lib.decDigits n)=.ok (n:Int):=by
  rw [h1,Lib.atoiAll_plain c r h2 h3,<- h1]
  unfold Lib.parseMag
  rw [if_neg (by rw [h1];simp),hp]
  unfold Lib.signless
  simp
  omega
 rw [this]
theorem decimal_law (s:List Int) (most:Int) (hm:most<=9223372036854775807) :
  (canonB s=true /\ valI s<=most->(atoiP s).2=false /\ (atoiP s).1=valI s /\ itoaI (valI s)=s) /\
  ((atoiP s).2=false->0<=(atoiP s).1->(atoiP s).1<=most->itoaI (atoiP s).1=s->canonB s=true /\ valI s=(atoiP s).1):=by
 refine ⟨fun ⟨hc,hv⟩=>?_,fun h1 h2 h3 h4=>?_⟩
 ·obtain ⟨n,e1,e2⟩:=canon_eq _ s rfl hc
  rw [e2] at hv ⊢
  rw [itoa_dgs,e1,atoi_dgs n (by omega)]
  exact ⟨rfl,rfl,rfl⟩
 ·obtain ⟨n,hn⟩:∃ n:Nat,(atoiP s).1=n:=⟨(atoiP s).1.toNat,by omega⟩
  rw [hn,itoa_dgs] at h4
  rw [hn,<- h4]
  exact ⟨canon_dgs n,(dgs_spec (n+1) n (by omega)).2.1⟩
theorem dgs_len:∀ (k n:Nat),n < 10 ^ (k+1)->(dgs n).length<=k+1:=fun k=>by
 induction k with
 | zero=>intro n h;rw [dgs_one (by omega)];simp
 | succ k ih=>
  intro n h
  by_cases h10:n < 10
  ·rw [dgs_one h10];simp
  ·rw [dgs_more h10,List.length_append]
   have:=ih (n / 10) (by
    rw [Nat.pow_succ] at h
    omega)
   simp
   omega
end Go.Proofs.YtgfmfgombmpodaaGreatDoor
namespace Go.Proofs.YtgfmfgombmpodaaGreatDoor
namespace Pv
set_option linter.unusedVariables false
section
variable {S R T : Type} {body : S -> Option (R ⊕ S)} {s s' : S} {r r' : R}
theorem iter_uniq:∀ {n m:Nat} {s:S},iterC body n s=some r->iterC body m s=some r'->r=r'
 | 0,_,_,h,_=>by cases h
 | _+1,0,_,_,h=>by cases h
 | n+1,m+1,s,h,k=>by
  unfold iterC at h k
  split at h
  ·cases h
  ·rename_i x hx
   rw [hx] at k
   injection h with h;injection k with k
   exact h.symm.trans k
  ·rename_i x hx
   rw [hx] at k
   exact iter_uniq h k
theorem loop_of_iter {n:Nat} (h:iterC body n s=some r):loopC body s=some r:=by
 unfold loopC
 have hex:∃ r n,iterC body n s=some r:=⟨r,n,h⟩
 rw [dif_pos hex]
 obtain ⟨m,hm⟩:=hex.choose_spec
 rw [iter_uniq hm h]
theorem iter_of_loop' (h:loopC body s=some r):∃ n,iterC body n s=some r:=by
 unfold loopC at h
 split at h
 ·rename_i hex
  injection h with h
  obtain ⟨n,hn⟩:=hex.choose_spec
  exact ⟨n,by rw [hn,h]⟩
 ·cases h
theorem loop_inl (h:body s=some (.inl r)):loopC body s=some r:=loop_of_iter (n:=1) (by unfold iterC;rw [h])
theorem loop_inr (h:body s=some (.inr s')) (k:loopC body s'=some r):loopC body s=some r:=by
 obtain ⟨n,hn⟩:=iter_of_loop' k
 exact loop_of_iter (n:=n+1) (by unfold iterC;rw [h];exact hn)
theorem loop_inv {I:S->Prop} {m:S->Nat} {Q:R->Prop} (h:∀ s,I s->(∃ r,body s=some (.inl r) /\ Q r) \/ ∃ s',body s=some (.inr s') /\ I s' /\ m s' < m s) (s:S) (hs:I s):∃ r,loopC body s=some r /\ Q r:=by
 have key:∀ n s,m s < n->I s -> ∃ r,loopC body s=some r /\ Q r:=fun n=>by
  induction n with
  | zero=>intro s hn;omega
  | succ n ih=>
   intro s hn hs
   rcases h s hs with ⟨r,h1,h2⟩ | ⟨s',h1,h2,h3⟩
   ·exact ⟨r,loop_inl h1,h2⟩
   ·obtain ⟨r,k1,k2⟩:=ih s' (by omega) h2
    exact ⟨r,loop_inr h1 k1,k2⟩
 exact key _ s (Nat.lt_succ_self _) hs
theorem join_inl {A:Option (R⊕S)} {B:S->Option R} (h:A=some (.inl r)):joinC A B=some r:=by rw [h];rfl
theorem join_inr {A:Option (R⊕S)} {B:S->Option R} (h:A=some (.inr s)):joinC A B=B s:=by rw [h];rfl
theorem getI_of {α:Type} {l:List α} {j:Int} (h0:0<=j) (h1:j < l.length):∃ x,getI l j=some x /\ l[j.toNat]? = some x:=by
 have hlt:j.toNat < l.length:=by omega
 exact ⟨l[j.toNat],by unfold getI;rw [decide_eq_true h0];simp [hlt],by simp [hlt]⟩
theorem wrap_in {x:Int} (h0 : -9223372036854775808<=x) (h1:x<=9223372036854775807):IntKind.i64.wrap x=x:=by
 show (if (true&&decide (x % 18446744073709551616 >= 9223372036854775808))=true then x % 18446744073709551616 - 18446744073709551616 else x % 18446744073709551616)=x
 simp only [Bool.true_and,decide_eq_true_eq]
 split <;> omega
end
end Pv
end Go.Proofs.YtgfmfgombmpodaaGreatDoor
namespace Go.Proofs.YtgfmfgombmpodaaGreatDoor
open Pv
set_option linter.unusedVariables false
theorem cutI_nat {α:Type} {s:List α} {a b:Nat} (h1:a<=b) (h2:b<=s.length):cutI s (a:Int) (b:Int)=some ((s.take b).drop a):=by
 unfold cutI
 rw [decide_eq_true (show (0:Int)<=(a:Int) by omega),decide_eq_true (show (a:Int)<=(b:Int) by omega),decide_eq_true (show (b:Int)<=(s.length:Int) by omega)]
 rfl
theorem getI_nat {α:Type} {s:List α} {i:Nat} {x:α} (h:s[i]? = some x):getI s (i:Int)=some x:=by
 unfold getI
 rw [decide_eq_true (by omega),cond_true,Int.toNat_natCast,h]
theorem chk16 {a b:Nat} (h:a+b<=10000000):(decide ((a+b)*16<=140737488355328)&&decide (a+b<=maxLen))=true:=by
 rw [decide_eq_true (by omega),decide_eq_true (by have:maxLen=9223372036854775807:=rfl;omega)];rfl
theorem chk1 {a b:Nat} (h:a+b<=10000000):(decide ((a+b)*1<=140737488355328)&&decide (a+b<=maxLen))=true:=by
 rw [decide_eq_true (by omega),decide_eq_true (by have:maxLen=9223372036854775807:=rfl;omega)];rfl
theorem Split_eq (s:List Int) (c:Int) (hs:s.length<=1000000):F_wlvref_Split s c=some (splitI s c):=by
 obtain ⟨r,h1,h2⟩:=loop_inv (body:=F_wlvref_Split_L5 s c)
  (I:=fun st=>∃ (l:List (List Int)) (f i:Nat),st=(l,(f:Int),(i:Int)) /\ ((i<=s.length /\ f<=i /\ l.length<=i /\ (∀ x∈(s.take i).drop f,x≠c) /\ splitI s c=l++splitI (s.drop f) c) \/ (i=s.length+1 /\ l=splitI s c)))
  (m:=fun st=>s.length+1 - st.2.2.toNat) (Q:=fun q=>q=.inr (splitI s c)) (fun st ⟨l,f,i,e,h⟩=>by
  subst e
  unfold F_wlvref_Split_L5
  dsimp only
  rcases h with ⟨h1,h2,h3,h4,h5⟩ | ⟨h1,h2⟩
  ·rw [decide_eq_true (show (i:Int)<=(s.length:Int) by omega),cond_true]
   have hw:IntKind.i64.wrap ((i:Int)+1)=((i+1:Nat):Int):=by rw [wrap_in (by omega) (by omega)];omega
   have hcut:=cutI_nat (s:=s) h2 h1
   unfold chk
   rw [hw]
   by_cases hl:i=s.length
   ·rw [show ((i:Int)==(s.length:Int))=true from beq_iff_eq.2 (by omega),cond_true,hcut,Option.bind_some,chk16 (by show l.length+1<=_;omega),cond_true]
    refine .inr ⟨_,rfl,⟨_,i+1,i+1,rfl,.inr ⟨by omega,?_⟩⟩,?_⟩
    ·rw [List.take_of_length_le (by omega)] at h4 ⊢
     rw [h5,splitI_miss h4]
    ·show s.length+1 - ((i+1:Nat):Int).toNat < s.length+1 - (i:Int).toNat
     omega
   ·have hlt:i < s.length:=by omega
    rw [show ((i:Int)==(s.length:Int))=false from beq_eq_false_iff_ne.2 (by omega),cond_false,getI_nat (List.getElem?_eq_getElem hlt),Option.bind_some]
    have hm:s.length+1 - ((i+1:Nat):Int).toNat < s.length+1 - (i:Int).toNat:=by omega
    have hsp:s.drop f=(s.take i).drop f++s[i]::s.drop (i+1):=by
     have e1:s=s.take i++s[i]::s.drop (i+1):=by rw [List.getElem_cons_drop,List.take_append_drop]
     conv=>lhs;rw [e1]
     rw [List.drop_append_of_le_length (by rw [List.length_take];omega)]
    by_cases hc:s[i]=c
    ·rw [show (s[i]==c)=true from beq_iff_eq.2 hc,cond_true,hcut,Option.bind_some,chk16 (by show l.length+1<=_;omega),cond_true]
     refine .inr ⟨_,rfl,⟨_,i+1,i+1,rfl,.inl ⟨by omega,by omega,by simp;omega,?_,?_⟩⟩,hm⟩
     ·rw [List.drop_of_length_le (by rw [List.length_take];omega)]
      intro x hx;cases hx
     ·rw [h5,hsp,hc,splitI_hit h4,List.append_assoc];rfl
    ·rw [show (s[i]==c)=false from beq_eq_false_iff_ne.2 hc,cond_false]
     refine .inr ⟨_,rfl,⟨l,f,i+1,rfl,.inl ⟨by omega,by omega,by omega,?_,h5⟩⟩,hm⟩
     intro x hx
     rw [List.take_add_one,List.getElem?_eq_getElem hlt,List.drop_append_of_le_length (by rw [List.length_take];omega)] at hx
     rcases List.mem_append.1 hx with hx | hx
     ·exact h4 x hx
     ·have:x=s[i]:=by simpa using hx
      rw [this];exact hc
  ·rw [decide_eq_false (by omega),cond_false]
   exact .inl ⟨_,rfl,by rw [h2]⟩) (([]:List (List Int)),0,0) ⟨[],0,0,rfl,.inl ⟨by omega,by omega,by simp,by simp,rfl⟩⟩
 subst h2
 unfold F_wlvref_Split
 rw [h1]
 rfl
theorem SplitL_eq (s:List Int) (c:Int) (hs:s.length<=1000000):F_strings_Split s [c]=some (splitI s c):=by
 show cond (Nat.ble s.length 4000000000) (some (splitI s c)) none=_
 rw [Nat.ble_eq_true_of_le (by omega)];rfl
theorem decimal_eq (s:List Int) (most:Int) (hs:s.length<=1000000) (hm:most<=9223372036854775807) :
  ∃ x,F_addr_decimal s most=some (x,canonB s&&decide (valI s<=most)) /\ (canonB s=true->valI s<=most->x=valI s):=by
 obtain ⟨k1,k2⟩:=decimal_law s most hm
 unfold F_addr_decimal
 have ha:F_strconv_Atoi s=some (atoiP s):=by
  unfold F_strconv_Atoi
  rw [Nat.ble_eq_true_of_le (by omega)];rfl
 rw [ha,Option.bind_some]
 refine ⟨(atoiP s).1,?_,fun h1 h2=>(k1 ⟨h1,h2⟩).2.1⟩
 cases hc:(canonB s&&decide (valI s<=most)) with
 | true=>
  rw [Bool.and_eq_true,decide_eq_true_iff] at hc
  obtain ⟨q1,q2,q3⟩:=k1 hc
  have hp:=valI_nn _ s rfl (by have:=hc.1;unfold canonB at this;exact (Bool.and_eq_true _ _ ▸ this).1)
  rw [q1,q2,decide_eq_true (show valI s >= 0 from hp),decide_eq_true hc.2]
  rw [show (notB false&&true&&true)=true from rfl,cond_true]
  unfold F_strconv_Itoa
  rw [Option.bind_some,q3,beq_self_eq_true]
 | false=>
  cases hq:(notB (atoiP s).2&&decide ((atoiP s).1 >= 0))&&decide ((atoiP s).1<=most) with
  | false=>rfl
  | true=>
   rw [cond_true]
   unfold F_strconv_Itoa
   rw [Option.bind_some]
   have hq':=hq
   rw [Bool.and_eq_true,Bool.and_eq_true,decide_eq_true_iff,decide_eq_true_iff] at hq'
   cases he:itoaI (atoiP s).1==s with
   | false=>rfl
   | true=>
    exfalso
    obtain ⟨r1,r2⟩:=k2 (by
     have:=hq'.1.1
     cases hb:(atoiP s).2 with
     | false=>rfl
     | true=>rw [hb] at this;cases this) hq'.1.2 hq'.2 (beq_iff_eq.1 he)
    rw [r1,r2,decide_eq_true hq'.2] at hc
    cases hc
theorem val_lt:∀ (k:Nat) (s:List Int),s.length=k->s.all isDig=true->valI s < 10 ^ k:=fun k=>by
 induction k with
 | zero=>intro s h _;rw [List.length_eq_zero_iff.1 h];decide
 | succ k ih=>
  intro s h hd
  rcases List.eq_nil_or_concat s with rfl | ⟨s',c,rfl⟩
  ·simp at h
  ·rw [List.concat_eq_append] at h hd ⊢
   rw [List.all_append,Bool.and_eq_true] at hd
   have hc:=dig_of (c:=c) (by simpa using hd.2)
   have:=ih s' (by simp at h;omega) hd.1
   rw [valI_snoc,Int.pow_succ]
   omega
theorem u8_in {x:Int} (h0:0<=x) (h1:x<=255):IntKind.u8.wrap x=x:=by
 show (if (false&&decide (x % 256 >= 128))=true then x % 256 - 256 else x % 256)=x
 simp
 omega
theorem Num_loop (s:List Int) (h17:s.length<=17):loopC (F_wlvref_Num_L7 s) (0,0)=some (cond (s.all isDig) (.inr (valI s)) (.inl (0,false))):=by
 obtain ⟨r,h1,h2⟩:=loop_inv (body:=F_wlvref_Num_L7 s) (I:=fun st=>∃ i:Nat,i<=s.length /\ (s.take i).all isDig=true /\ st=(valI (s.take i),(i:Int))) (m:=fun st=>s.length - st.2.toNat) (Q:=fun q=>q=cond (s.all isDig) (.inr (valI s)) (.inl (0,false))) (fun st ⟨i,hi,hd,e⟩=>by
  subst e
  unfold F_wlvref_Num_L7
  dsimp only
  by_cases hl:i < s.length
  ·have hg:=getI_nat (List.getElem?_eq_getElem hl)
   rw [decide_eq_true (by omega),cond_true,hg,Option.bind_some]
   have hall:isDig s[i]=false->s.all isDig=false:=fun h=>by
    rw [List.all_eq_false]
    exact ⟨s[i],List.getElem_mem hl,by rw [h];decide⟩
   by_cases h48:s[i] < 48
   ·rw [decide_eq_true h48,cond_true,hall (by unfold isDig;rw [decide_eq_false (by omega)];rfl)]
    exact .inl ⟨_,rfl,rfl⟩
   ·rw [decide_eq_false h48,cond_false,Option.bind_some]
    by_cases h57:s[i] > 57
    ·rw [decide_eq_true h57,cond_true,hall (by unfold isDig;rw [decide_eq_false (show ¬ s[i]<=57 by omega),Bool.and_false])]
     exact .inl ⟨_,rfl,rfl⟩
    ·rw [decide_eq_false h57,cond_false,Option.bind_some]
     have hv0:=valI_nn _ (s.take i) rfl hd
     have hv1:=val_lt _ (s.take i) rfl hd
     have hv2:(10:Int) ^ (s.take i).length<=10 ^ 17:=by
      rw [List.length_take]
      have:(10:Nat) ^ (min i s.length)<=10 ^ 17:=Nat.pow_le_pow_right (by omega) (by omega)
      exact_mod_cast this
     have hv3:(10:Int) ^ 17=100000000000000000:=by decide
     have ht:s.take (i+1)=s.take i++[s[i]]:=by rw [List.take_add_one,List.getElem?_eq_getElem hl];rfl
     refine .inr ⟨_,rfl,⟨i+1,by omega,?_,?_⟩,?_⟩
     ·rw [ht,List.all_append,hd]
      simp [isDig]
      omega
     ·rw [ht,valI_snoc,u8_in (by omega) (by omega),wrap_in (x:=valI (s.take i)*10) (by omega) (by omega),wrap_in (x:=s[i] - 48) (by omega) (by omega),wrap_in (by omega) (by omega),wrap_in (by omega) (by omega)]
      rfl
     ·show s.length - (IntKind.i64.wrap ((i:Int)+1)).toNat < s.length - (i:Int).toNat
      rw [wrap_in (by omega) (by omega)]
      omega
  ·rw [decide_eq_false (by omega),cond_false]
   rw [List.take_of_length_le (by omega)] at hd
   refine .inl ⟨_,rfl,?_⟩
   rw [hd,cond_true,List.take_of_length_le (by omega)]) (0,0) ⟨0,by omega,by simp,by simp [valI]⟩
 rw [h1,h2]
theorem Num_eq (s:List Int) (lo hi:Int) :
  ∃ x,F_wlvref_Num s lo hi=some (x,canonB s&&decide (s.length<=17)&&(decide (lo<=valI s)&&decide (valI s<=hi))) /\ (canonB s=true->s.length<=17->x=valI s):=by
 unfold F_wlvref_Num
 match s with
 | []=>exact ⟨0,rfl,fun h=>by cases h⟩
 | c::r=>
  by_cases h17:(c::r).length<=17
  ·have:(decide (((c::r).length:Int) < 1)||decide (((c::r).length:Int) > 17))=false:=by simp at h17 ⊢;omega
   rw [this,cond_false,decide_eq_true h17,Bool.and_true]
   have key:joinC (S:=Int) (R:=Int×Bool) (loopC (S:=Int×Int) (R:=(Int×Bool)⊕(Int)) (F_wlvref_Num_L7 (c::r)) (0,0)) (F_wlvref_Num_J5 lo hi)=some (cond ((c::r).all isDig) (valI (c::r),decide (lo<=valI (c::r))&&decide (valI (c::r)<=hi)) (0,false)):=by
    rw [Num_loop _ h17]
    cases (c::r).all isDig <;> rfl
   cases r with
   | nil=>
    rw [decide_eq_false (by simp),cond_false,key]
    have hcan:canonB [c]=[c].all isDig:=by unfold canonB;rw [Bool.and_true]
    rw [hcan]
    cases hd:[c].all isDig with
    | true=>exact ⟨_,rfl,fun _ _=>rfl⟩
    | false=>exact ⟨_,rfl,fun h=>by cases h⟩
   | cons d r=>
    have hcan:canonB (c::d::r)=((c::d::r).all isDig&&(c != 48)):=rfl
    rw [decide_eq_true (by simp;omega),cond_true,show getI (c::d::r) 0=some c from rfl,Option.bind_some,key,hcan]
    by_cases h48:c=48
    ·rw [beq_iff_eq.2 h48,cond_true,show (c != 48)=false by rw [h48];rfl,Bool.and_false]
     exact ⟨_,rfl,fun h=>by cases h⟩
    ·rw [beq_eq_false_iff_ne.2 h48,cond_false,bne_iff_ne.2 h48,Bool.and_true]
     cases hd:(c::d::r).all isDig with
     | true=>exact ⟨_,rfl,fun _ _=>rfl⟩
     | false=>exact ⟨_,rfl,fun h=>by cases h⟩
  ·have:(decide (((c::r).length:Int) < 1)||decide (((c::r).length:Int) > 17))=true:=by simp at h17 ⊢;omega
   rw [this,cond_true,decide_eq_false h17,Bool.and_false]
   exact ⟨_,rfl,fun _ h=>absurd h h17⟩
def byteB (w:List Int):Bool:=canonB w&&decide (valI w<=255)
def fourR (s:List Int):List Int×Bool:=cond (decide ((splitI s 46).length=4)&&(splitI s 46).all byteB) ((splitI s 46).map valI,true) ([],false)
theorem byte_val {w:List Int} (h:byteB w=true):0<=valI w /\ valI w<=255:=by
 unfold byteB at h
 rw [Bool.and_eq_true,decide_eq_true_iff] at h
 have:=h.1
 unfold canonB at this
 exact ⟨valI_nn _ w rfl (Bool.and_eq_true _ _ ▸ this).1,h.2⟩
theorem split_mem_len {s w:List Int} {c:Int} (h:w∈splitI s c):w.length<=s.length:=by
 have h1:=splitI_sum s c
 have h2:w.length<=((splitI s c).map List.length).sum:=mem_sum (List.mem_map.2 ⟨w,h,rfl⟩)
 have h3:0 < (splitI s c).length:=List.length_pos_iff.2 (splitI_ne s c)
 omega
theorem all_snoc {l:List (List Int)} {i:Nat} {w:List Int} (h:l[i]? = some w) (ha:(l.take i).all byteB=true) (hw:byteB w=true):(l.take (i+1)).all byteB=true:=by
 rw [List.take_add_one,h,List.all_append,ha]
 simp [hw]
theorem all_bad {l:List (List Int)} {i:Nat} {w:List Int} (h:l[i]? = some w) (hw:byteB w=false):l.all byteB=false:=by
 rw [List.all_eq_false]
 exact ⟨w,List.mem_of_getElem? h,by rw [hw];decide⟩
theorem map_snoc {l:List (List Int)} {i:Nat} {w:List Int} (h:l[i]? = some w):(l.take (i+1)).map valI=(l.take i).map valI++[valI w]:=by
 rw [List.take_add_one,h,List.map_append];rfl
theorem dotted_loop (l:List (List Int)) (hl:l.length=4) (hw:∀ w∈l,w.length<=1000000):loopC (F_addr_dotted_L8 l) (([]:List Int),l,0)=some (cond (l.all byteB) (.inr (l.map valI)) (.inl ([],false))):=by
 obtain ⟨r,h1,h2⟩:=loop_inv (body:=F_addr_dotted_L8 l) (I:=fun st=>∃ i:Nat,i<=4 /\ (l.take i).all byteB=true /\ st=((l.take i).map valI,l,(i:Int))) (m:=fun st=>4 - st.2.2.toNat) (Q:=fun q=>q=cond (l.all byteB) (.inr (l.map valI)) (.inl ([],false))) (fun st ⟨i,hi,hd,e⟩=>by
  subst e
  unfold F_addr_dotted_L8
  dsimp only
  by_cases hlt:i < 4
  ·have hg:=List.getElem?_eq_getElem (l:=l) (i:=i) (by omega)
   obtain ⟨x,hx1,hx2⟩:=decimal_eq l[i] 255 (hw _ (List.getElem_mem _)) (by omega)
   rw [show (canonB l[i]&&decide (valI l[i]<=255))=byteB l[i] from rfl] at hx1
   rw [decide_eq_true (by omega),cond_true,getI_nat hg,Option.bind_some,hx1,Option.bind_some]
   cases hb:byteB l[i] with
   | false=>
    rw [all_bad hg hb]
    exact .inl ⟨_,rfl,rfl⟩
   | true=>
    have hv:=byte_val hb
    have hxv:x=valI l[i]:=by
     unfold byteB at hb
     rw [Bool.and_eq_true,decide_eq_true_iff] at hb
     exact hx2 hb.1 hb.2
    subst hxv
    unfold chk
    rw [Bool.not_true,cond_false,chk1 (by rw [List.length_map,List.length_take];show _+1<=_;omega),cond_true,u8_in hv.1 hv.2,wrap_in (by omega) (by omega)]
    refine .inr ⟨_,rfl,⟨i+1,by omega,all_snoc hg hd hb,by rw [map_snoc hg];rfl⟩,?_⟩
    show 4 - ((i:Int)+1).toNat < 4 - (i:Int).toNat
    omega
  ·rw [decide_eq_false (by omega),cond_false]
   rw [List.take_of_length_le (by omega)] at hd
   refine .inl ⟨_,rfl,?_⟩
   rw [hd,cond_true,List.take_of_length_le (by omega)]) (([]:List Int),l,0) ⟨0,by omega,by simp,by simp⟩
 rw [h1,h2]
theorem dotted_eq (s:List Int) (hs:s.length<=1000000):F_addr_dotted s=some (fourR s):=by
 unfold F_addr_dotted fourR
 rw [SplitL_eq s 46 hs,Option.bind_some]
 by_cases h4:(splitI s 46).length=4
 ·rw [show (((splitI s 46).length:Int) != 4)=false by rw [h4];rfl,cond_false,decide_eq_true h4,Bool.true_and,dotted_loop _ h4 fun w hw=>by have:=split_mem_len hw;omega]
  cases (splitI s 46).all byteB <;> rfl
 ·rw [show (((splitI s 46).length:Int) != 4)=true from bne_iff_ne.2 (by omega),cond_true,decide_eq_false h4]
  rfl
theorem byte_num (w:List Int):(canonB w&&decide (w.length<=17)&&(decide (0<=valI w)&&decide (valI w<=255)))=byteB w:=by
 unfold byteB
 cases hc:canonB w with
 | false=>rfl
 | true=>
  by_cases hv:valI w<=255
  ·obtain ⟨n,h1,h2⟩:=canon_eq _ w rfl hc
   have:=dgs_len 2 n (by omega)
   rw [<-h1] at this
   rw [decide_eq_true (show w.length<=17 by omega),decide_eq_true hv,decide_eq_true (by omega)];rfl
  ·rw [decide_eq_false hv]
   simp
theorem four_loop (l:List (List Int)) (hl:l.length=4):loopC F_wlvref15_four_L8 (l,([]:List Int),0)=some (cond (l.all byteB) (.inr (l.map valI)) (.inl ([],false))):=by
 obtain ⟨r,h1,h2⟩:=loop_inv (body:=F_wlvref15_four_L8) (I:=fun st=>∃ i:Nat,i<=4 /\ (l.take i).all byteB=true /\ st=(l,(l.take i).map valI,(i:Int))) (m:=fun st=>4 - st.2.2.toNat) (Q:=fun q=>q=cond (l.all byteB) (.inr (l.map valI)) (.inl ([],false))) (fun st ⟨i,hi,hd,e⟩=>by
  subst e
  unfold F_wlvref15_four_L8
  dsimp only
  by_cases hlt:i < 4
  ·have hg:=List.getElem?_eq_getElem (l:=l) (i:=i) (by omega)
   obtain ⟨x,hx1,hx2⟩:=Num_eq l[i] 0 255
   rw [byte_num] at hx1
   rw [decide_eq_true (by omega),cond_true,getI_nat hg,Option.bind_some,hx1,Option.bind_some]
   cases hb:byteB l[i] with
   | false=>
    rw [all_bad hg hb]
    exact .inl ⟨_,rfl,rfl⟩
   | true=>
    have hv:=byte_val hb
    have hxv:x=valI l[i]:=by
     have hq:=byte_num l[i]
     rw [hb,Bool.and_eq_true,Bool.and_eq_true,decide_eq_true_iff] at hq
     exact hx2 hq.1.1 hq.1.2
    subst hxv
    unfold chk
    rw [Bool.not_true,cond_false,chk1 (by rw [List.length_map,List.length_take];show _+1<=_;omega),cond_true,u8_in hv.1 hv.2,wrap_in (by omega) (by omega)]
    refine .inr ⟨_,rfl,⟨i+1,by omega,all_snoc hg hd hb,by rw [map_snoc hg];rfl⟩,?_⟩
    show 4 - ((i:Int)+1).toNat < 4 - (i:Int).toNat
    omega
  ·rw [decide_eq_false (by omega),cond_false]
   rw [List.take_of_length_le (by omega)] at hd
   refine .inl ⟨_,rfl,?_⟩
   rw [hd,cond_true,List.take_of_length_le (by omega)]) (l,([]:List Int),0) ⟨0,by omega,by simp,by simp⟩
 rw [h1,h2]
theorem four_eq (s:List Int) (hs:s.length<=1000000):F_wlvref15_four s=some (fourR s):=by
 unfold F_wlvref15_four fourR
 rw [Split_eq s 46 hs,Option.bind_some]
 by_cases h4:(splitI s 46).length=4
 ·rw [show (((splitI s 46).length:Int) != 4)=false by rw [h4];rfl,cond_false,decide_eq_true h4,Bool.true_and,four_loop _ h4]
  cases (splitI s 46).all byteB <;> rfl
 ·rw [show (((splitI s 46).length:Int) != 4)=true from bne_iff_ne.2 (by omega),cond_true,decide_eq_false h4]
  rfl
theorem cond_ex {b:Bool} {x y:Option Int} (hx:∃ d,x=some d) (hy:∃ d,y=some d):∃ d,cond b x y=some d:=by
 cases b
 ·exact hy
 ·exact hx
theorem some_ex (x:Int):∃ d,some x=some d:=⟨x,rfl⟩
noncomputable def sg (c:Int):Int:=(F_host_sign c).getD 0
theorem sign_eq (c:Int):F_host_sign c=some (sg c):=by
 have:∃ d,F_host_sign c=some d:=by
  unfold F_host_sign
  repeat' (first | with_reducible exact some_ex _ | with_reducible apply cond_ex)
 obtain ⟨d,hd⟩:=this
 unfold sg
 rw [hd];rfl
def endsB (out:List Int) (n:Nat):Bool:=n==0||out.getLast? == some 45
noncomputable def nameP:List Int->Nat->List Int->Option (List Int)
 | out,n,[]=>cond (endsB out n) none (some out)
 | out,n,c::r=>cond (c==46) (cond (endsB out n) none (nameP (out++[46]) 0 r)) (cond (sg c==0||n==63||(sg c==45&&n==0)) none (nameP (out++[sg c]) (n+1) r))
def resN:Option (List Int)->List Int×Int
 | none=>([],2)
 | some b=>(b,0)
noncomputable def nameR (s:List Int):List Int×Int:=resN (cond (decide (253 < s.length)) none (nameP [] 0 s))
theorem name_wrong (s:List Int) (x:List Int×Int×Int):loopC (F_host_Name_G1 s) (0,x)=some ([],2):=loop_inl rfl
theorem last_of {out:List Int} (h:out≠[]) (hl:out.length<=1000):∃ x,getI out (IntKind.i64.wrap ((out.length:Int) - 1))=some x /\ out.getLast? = some x:=by
 have:0 < out.length:=List.length_pos_iff.2 h
 rw [wrap_in (by omega) (by omega)]
 obtain ⟨x,h1,h2⟩:=getI_of (l:=out) (j:=(out.length:Int) - 1) (by omega) (by omega)
 refine ⟨x,h1,?_⟩
 rw [List.getLast?_eq_getElem?,<- h2]
 congr 1
 omega
theorem chk_out {a b:Nat} (h:a+b<=1000000):(decide ((a+b)*1<=140737488355328)&&decide (a+b<=maxLen))=true:=by
 rw [decide_eq_true (by omega),decide_eq_true (by have:maxLen=9223372036854775807:=rfl;omega)];rfl
theorem beq_nat (a b:Nat):((a:Int)==(b:Int))=(a==b):=by
 by_cases h:a=b
 ·subst h;simp
 ·rw [beq_eq_false_iff_ne.2 h,beq_eq_false_iff_ne.2 (by omega)]
theorem name_end {s out:List Int} {i n:Nat} (hn:n=0 \/ out≠[]) (ho:out.length<=253) :
  (endsB out n=true->loopC (F_host_Name_G1 s) (1,(out,(i:Int),(n:Int)))=some ([],2)) /\
  (endsB out n=false->(i=s.length->loopC (F_host_Name_G1 s) (1,(out,(i:Int),(n:Int)))=some (out,0)) /\ (i < s.length->i<=253 -> ∀ r,loopC (F_host_Name_G1 s) (2,(out++[46],((i+1:Nat):Int),((0:Nat):Int)))=some r->loopC (F_host_Name_G1 s) (1,(out,(i:Int),(n:Int)))=some r)):=by
 have hG:F_host_Name_G1 s (1,(out,(i:Int),(n:Int)))=F_host_Name_G1_1 s (out,(i:Int),(n:Int)):=rfl
 by_cases h0:n=0
 ·subst h0
  refine ⟨fun _=>loop_inr (s':=(0,(out,(i:Int),0))) ?_ (name_wrong s _),fun h=>by simp [endsB] at h⟩
  rw [hG];rfl
 ·obtain ⟨x,h1,h2⟩:=last_of (hn.resolve_left h0) (by omega)
  have hz:((n:Int)==0)=false:=beq_eq_false_iff_ne.2 (by omega)
  have hz':(n==0)=false:=beq_eq_false_iff_ne.2 h0
  by_cases hx:x=45
  ·subst hx
   refine ⟨fun _=>loop_inr (s':=(0,(out,(i:Int),(n:Int)))) ?_ (name_wrong s _),fun h=>by simp [endsB,h2] at h⟩
   rw [hG]
   unfold F_host_Name_G1_1
   dsimp only
   rw [hz,cond_false,h1];rfl
  ·have hx':(x==45)=false:=beq_eq_false_iff_ne.2 hx
   refine ⟨fun h=>?_,fun _=>⟨fun hi=>loop_inl ?_,fun hi hi2 r hr=>loop_inr ?_ hr⟩⟩
   ·unfold endsB at h
    rw [hz',h2] at h
    simp [hx] at h
   ·rw [hG]
    unfold F_host_Name_G1_1
    dsimp only
    rw [hz,cond_false,h1,Option.bind_some,hx',cond_false,beq_nat,hi,beq_self_eq_true,cond_true]
   ·rw [hG]
    unfold F_host_Name_G1_1
    dsimp only
    rw [hz,cond_false,h1,Option.bind_some,hx',cond_false,beq_nat,beq_eq_false_iff_ne.2 (by omega),cond_false]
    unfold chk
    rw [chk_out (by show out.length+1<=_;omega),cond_true,wrap_in (by omega) (by omega)]
    rfl
theorem name_loop (s:List Int) (hs:s.length<=253):∀ (r out:List Int) (n i:Nat),s.drop i=r->i<=s.length->(n=0 \/ out≠[])->out.length<=i->n<=63->loopC (F_host_Name_G1 s) (2,(out,(i:Int),(n:Int)))=some (resN (nameP out n r))
 | [],out,n,i,hd,hi,hn,ho,hn2=>by
  have hl:i=s.length:=by
   have:=congrArg List.length hd
   simp at this
   omega
  have hG:F_host_Name_G1 s (2,(out,(i:Int),(n:Int)))=some (.inr (1,(out,(i:Int),(n:Int)))):=by
   show F_host_Name_G1_2 s (out,(i:Int),(n:Int))=_
   unfold F_host_Name_G1_2
   dsimp only
   rw [beq_nat,hl,beq_self_eq_true,cond_true]
  have he:=name_end (s:=s) (i:=i) hn (by omega)
  refine loop_inr hG ?_
  unfold nameP
  cases hb:endsB out n with
  | true=>exact he.1 hb
  | false=>exact (he.2 hb).1 hl
 | c::r,out,n,i,hd,hi,hn,ho,hn2=>by
  have hlt:i < s.length:=by
   have:=congrArg List.length hd
   simp at this
   omega
  have hr:s.drop (i+1)=r:=by rw [<-List.tail_drop,hd];rfl
  have hc:s[i]? = some c:=by rw [<-List.head?_drop,hd];rfl
  have hg:getI s (i:Int)=some c:=by
   unfold getI
   rw [decide_eq_true (by omega),cond_true,Int.toNat_natCast,hc]
  have hG:F_host_Name_G1 s (2,(out,(i:Int),(n:Int)))=cond (c==46) (some (.inr (1,(out,(i:Int),(n:Int))))) (cond ((sg c==0)||((n:Int)==63)) (some (.inr (0,(out,(i:Int),(n:Int))))) (cond ((sg c==45)&&((n:Int)==0)) (some (.inr (0,(out,(i:Int),(n:Int))))) (some (.inr (2,(out++[sg c],((i+1:Nat):Int),((n+1:Nat):Int))))))):=by
   show F_host_Name_G1_2 s (out,(i:Int),(n:Int))=_
   unfold F_host_Name_G1_2
   dsimp only
   rw [beq_nat,beq_eq_false_iff_ne.2 (show i≠s.length by omega),cond_false,hg,Option.bind_some,Option.bind_some,sign_eq,Option.bind_some]
   unfold chk
   rw [chk_out (by show out.length+1<=_;omega),cond_true,wrap_in (by omega) (by omega),wrap_in (by omega) (by omega)]
   rfl
  have he:=name_end (s:=s) (i:=i) hn (by omega)
  unfold nameP
  cases h46:c==46 with
  | true=>
   rw [h46,cond_true] at hG
   rw [cond_true]
   refine loop_inr hG ?_
   cases hb:endsB out n with
   | true=>exact he.1 hb
   | false=>
    refine (he.2 hb).2 hlt (by omega) _ ?_
    exact name_loop s hs r (out++[46]) 0 (i+1) hr (by omega) (.inl rfl) (by simp;omega) (by omega)
  | false=>
   have e63:((n:Int)==63)=(n==63):=beq_nat n 63
   have e0:((n:Int)==0)=(n==0):=beq_nat n 0
   rw [h46,cond_false,e63,e0] at hG
   rw [cond_false]
   cases h1:(sg c==0)||(n==63) with
   | true=>
    rw [h1,cond_true] at hG
    rw [Bool.true_or,cond_true]
    exact loop_inr hG (name_wrong s _)
   | false=>
    rw [h1,cond_false] at hG
    rw [Bool.false_or]
    cases h2:(sg c==45)&&(n==0) with
    | true=>
     rw [h2,cond_true] at hG
     rw [cond_true]
     exact loop_inr hG (name_wrong s _)
    | false=>
     rw [h2,cond_false] at hG
     rw [cond_false]
     have hne:n≠63:=by
      rcases Bool.or_eq_false_iff.1 h1 with ⟨_,h⟩
      exact beq_eq_false_iff_ne.1 h
     refine loop_inr hG ?_
     exact name_loop s hs r (out++[sg c]) (n+1) (i+1) hr (by omega) (.inr (by simp)) (by simp;omega) (by omega)
theorem name_form (s:List Int):F_host_Name s=joinC (S:=Nat×List Int×Int×Int) (R:=List Int×Int) (cond (decide ((s.length:Int) > 253)) (some (.inr (0,(([]:List Int),0,0)))) (F_host_Name_G1_2 s ([],0,0))) (fun p=>loopC (S:=Nat×List Int×Int×Int) (R:=List Int×Int) (F_host_Name_G1 s) p):=rfl
theorem name_eq (s:List Int):F_host_Name s=some (nameR s):=by
 rw [name_form]
 unfold nameR
 by_cases h:253 < s.length
 ·rw [decide_eq_true (show (s.length:Int) > 253 by omega),decide_eq_true h,cond_true,cond_true]
  exact name_wrong s _
 ·rw [decide_eq_false (show ¬ (s.length:Int) > 253 by omega),decide_eq_false h,cond_false,cond_false]
  have hl:=name_loop s (by omega) s [] 0 0 rfl (by omega) (.inl rfl) (by simp) (by omega)
  obtain ⟨k,hk⟩:=iter_of_loop' hl
  cases k with
  | zero=>cases hk
  | succ k=>
   unfold iterC at hk
   have hG:F_host_Name_G1 s (2,(([]:List Int),((0:Nat):Int),((0:Nat):Int)))=F_host_Name_G1_2 s ([],0,0):=rfl
   rw [hG] at hk
   split at hk
   ·cases hk
   ·rename_i r hr
    rw [hr]
    exact hk
   ·rename_i x hx
    rw [hx]
    exact loop_of_iter hk
theorem prefix_lit (s p:List Int) (hs:s.length<=1000000):F_strings_HasPrefix s p=some (decide (p.length<=s.length)&&(s.take p.length==p)):=by
 unfold F_strings_HasPrefix F_internal_stringslite_HasPrefix
 by_cases h:p.length<=s.length
 ·rw [decide_eq_true (show (s.length:Int) >= (p.length:Int) by omega),cond_true,decide_eq_true h,Bool.true_and]
  have:=cutI_nat (s:=s) (a:=0) (b:=p.length) (by omega) h
  rw [show cutI s 0 (p.length:Int)=some (s.take p.length) from this]
  rfl
 ·rw [decide_eq_false (show ¬ (s.length:Int) >= (p.length:Int) by omega),cond_false,decide_eq_false h]
  rfl
theorem byte_len {w:List Int} (h:byteB w=true):w.length<=3:=by
 unfold byteB at h
 rw [Bool.and_eq_true,decide_eq_true_iff] at h
 obtain ⟨n,h1,h2⟩:=canon_eq _ w rfl h.1
 have:=dgs_len 2 n (by omega)
 rwa [<-h1] at this
theorem four_len {s:List Int} (h:(fourR s).2=true):s.length<=15 /\ (fourR s).1.length=4:=by
 unfold fourR at h ⊢
 cases hc:(decide ((splitI s 46).length=4)&&(splitI s 46).all byteB) with
 | false=>rw [hc] at h;cases h
 | true=>
  rw [Bool.and_eq_true,decide_eq_true_iff] at hc
  have h1:=splitI_sum s 46
  have:∀ l:List (List Int),l.all byteB=true->(l.map List.length).sum<=3*l.length:=fun l=>by
   induction l with
   | nil=>intro _;simp
   | cons w l ih=>
    intro h
    rw [List.all_cons,Bool.and_eq_true] at h
    have:=byte_len h.1
    have:=ih h.2
    simp
    omega
  have:=this _ hc.2
  refine ⟨by omega,?_⟩
  rw [cond_true,List.length_map]
  exact hc.1
def dg (c:Int):Int:=if 48<=c /\ c<=57 then c - 48 else if 97<=c /\ c<=102 then c - 87 else if 65<=c /\ c<=70 then c - 55 else -1
theorem dg_in (c:Int) : -1<=dg c /\ dg c < 16:=by unfold dg;split;omega;split;omega;split;omega;omega
theorem u8_sm {x:Int} (h0:0<=x) (h1:x < 256):IntKind.u8.wrap x=x:=by rw [IntKind.wrap_u8];omega
theorem digit_eq (c:Int):F_addr_digit c=some (dg c):=by
 unfold F_addr_digit dg
 by_cases h1:48<=c /\ c<=57
 ·rw [show (decide (c >= 48)&&decide (c<=57))=true by simpa using h1,cond_true,if_pos h1,u8_sm (by omega) (by omega),wrap_in (by omega) (by omega)]
 ·rw [show (decide (c >= 48)&&decide (c<=57))=false by simp;omega,cond_false,if_neg h1]
  by_cases h2:97<=c /\ c<=102
  ·rw [show (decide (c >= 97)&&decide (c<=102))=true by simpa using h2,cond_true,if_pos h2,u8_sm (by omega) (by omega),wrap_in (x:=c - 97) (by omega) (by omega),wrap_in (by omega) (by omega)]
   congr 1;omega
  ·rw [show (decide (c >= 97)&&decide (c<=102))=false by simp;omega,cond_false,if_neg h2]
   by_cases h3:65<=c /\ c<=70
   ·rw [show (decide (c >= 65)&&decide (c<=70))=true by simpa using h3,cond_true,if_pos h3,u8_sm (by omega) (by omega),wrap_in (x:=c - 65) (by omega) (by omega),wrap_in (by omega) (by omega)]
    congr 1;omega
   ·rw [show (decide (c >= 65)&&decide (c<=70))=false by simp;omega,cond_false,if_neg h3]
theorem or16 {n d:Int} (h0:0<=n) (h1:n < 65536) (h2:0<=d) (h3:d < 16):bits .or .i64 (IntKind.i64.wrap (n*2 ^ 4)) d=n*16+d:=by
  have e:n*2 ^ 4=n*16:=rfl
  rw [e,wrap_in (by omega) (by omega)]
  exact bits_join .i64 40 (by decide) (fun n h0 h1 => wrap_in (by omega) (by have e : (2 : Int) ^ 40 = 1099511627776 := by decide
                                                                             omega)) 4 (n * 16) d (by omega) (by omega) (by have e : (2 : Int) ^ 40 = 1099511627776 := by decide
                                                                                                                            omega) h2 h3 (by have e : (2 : Int) ^ 40 = 1099511627776 := by decide
                                                                                                                                             omega)
def digs:List Int->Int->Nat->Int×List Int
 | [],n,_=>(n,[])
 | c::r,n,z=>cond (decide (0<=dg c)&&decide (z < 4)) (digs r (n*16+dg c) (z+1)) (n,c::r)
def by2 (n:Int):List Int:=[n / 256 % 256,n % 256]
theorem by2_eq {n:Int} (h0:0<=n):([(IntKind.u8.wrap (Int.fdiv n (2 ^ 8))),(IntKind.u8.wrap n)]:List Int)=by2 n:=by
 rw [IntKind.wrap_u8,IntKind.wrap_u8,Int.fdiv_eq_ediv_of_nonneg _ (by decide)];rfl
def overM (b:List Int) (g:Int):Option (List Int):=cond (decide (g < 0)) (cond (b.length==16) (some b) none) (cond (decide (16<=b.length)) none (some (insZ b g.toNat)))
def tail3 (f:List Int->Int->List Int->Option (List Int)) (b:List Int):List Int->Option (List Int)
 | []=>overM b b.length
 | e::r3=>f b b.length (e::r3)
def tail2 (f:List Int->Int->List Int->Option (List Int)) (b:List Int) (g:Int):List Int->Option (List Int)
 | []=>none
 | d::r2=>cond (d != 58) (f b g (d::r2)) (cond (decide (0<=g)) none (tail3 f b r2))
def tailM (f:List Int->Int->List Int->Option (List Int)) (b:List Int) (g:Int):List Int->Option (List Int)
 | []=>overM b g
 | c::r=>cond (c != 58||b.length==16) none (tail2 f b g r)
def colM:Nat->List Int->Int->List Int->Option (List Int)
 | 0,_,_,_=>none
 | _+1,_,_,[]=>none
 | k+1,b,g,c::r=>cond (decide (0<=dg c)) (tailM (colM k) (b++by2 (digs r (dg c) 1).1) g (digs r (dg c) 1).2) none
def RelC (o:Option (List Int×Bool)) (m:Option (List Int)):Prop:=match m with
 | some x=>o=some (x,true)
 | none=>∃ v:List Int,o=some (v,false) /\ v.length<=16
theorem relC_fail:RelC (some (([]:List Int),false)) none:=⟨[],rfl,by simp⟩
theorem over_rel (s b:List Int) (g i n z:Int) (hb:b.length<=16) (h1 : -1<=g) (h2:g<=b.length):RelC (loopC (F_addr_coloned_G1 s) (0,(b,g,i,n,z))) (overM b g):=by
  have hbody:F_addr_coloned_G1 s (0,(b,g,i,n,z))=F_addr_coloned_G1_0 (b,g,i,n,z):=rfl
  unfold overM
  unfold F_addr_coloned_G1_0 at hbody
  dsimp only at hbody
  by_cases hg:g < 0
  · rw [decide_eq_true hg,cond_true] at hbody ⊢
    rw [loop_inl hbody]
    cases h16:b.length==16 with
    | true=>rw [beq_iff_eq.2 (show (b.length:Int)=16 by have:=beq_iff_eq.1 h16;omega)];rfl
    | false=>rw [beq_eq_false_iff_ne.2 (show (b.length:Int)≠16 by have:=beq_eq_false_iff_ne.1 h16;omega)];exact ⟨b,rfl,hb⟩
  · rw [decide_eq_false hg,cond_false] at hbody ⊢
    by_cases h16:16<=b.length
    · rw [decide_eq_true (show (b.length:Int) >= 16 by omega),cond_true] at hbody
      rw [loop_inl hbody,decide_eq_true h16]
      exact relC_fail
    · have hok : insOk b g = true := by
        unfold insOk
        simp only [Bool.and_eq_true,decide_eq_true_eq]
        exact ⟨⟨by omega,h2⟩,by rw [Nat.blt_eq];omega⟩
      rw [decide_eq_false (show ¬ (b.length:Int) >= 16 by omega),cond_false,hok] at hbody
      rw [loop_inl hbody,decide_eq_false h16]
      rfl
structure AtG (b:List Int) (g:Int):Prop where
 len:b.length<=14
 even:b.length % 2=0
 lo : -1<=g
 hi:g<=b.length
theorem len2 (b:List Int) (n:Int):(b++by2 n).length=b.length+2:=by rw [List.length_append];rfl
theorem drop_cons {s r:List Int} {c:Int} {i:Nat} (h:s.drop i=c::r):i < s.length /\ s[i]? = some c /\ s.drop (i+1)=r:=by
 have hl:i < s.length:=by
  rcases Nat.lt_or_ge i s.length with h1 | h1
  ·exact h1
  ·rw [List.drop_of_length_le h1] at h;cases h
 rw [List.drop_eq_getElem_cons hl] at h
 injection h with h1 h2
 exact ⟨hl,by rw [List.getElem?_eq_getElem hl,h1],h2⟩
theorem drop_nil' {s:List Int} {i:Nat} (h:s.drop i=[]) (hi:i<=s.length):i=s.length:=by
 have:=List.drop_eq_nil_iff.1 h
 omega
theorem tail_rel (s:List Int) (hs:s.length<=1000000) (f:List Int->Int->List Int->Option (List Int)) (b:List Int) (g:Int) (hA:AtG b g) (i:Nat) (n:Int) (z:Nat) (r:List Int) (hr:s.drop i=r) (hi:i<=s.length) (h0:0<=n) (h1:n < 65536) (hz:1<=z) (hz4:z<=4)
  (hstop:r=[] \/ ∃ c r',r=c::r' /\ (decide (0<=dg c)&&decide (z < 4))=false)
  (ih:∀ (b':List Int) (g':Int) (j:Nat) (r':List Int) (n' z':Int),AtG b' g'->s.drop j=r'->j<=s.length->i < j->RelC (loopC (F_addr_coloned_G1 s) (1,(b',g',(j:Int),n',z'))) (f b' g' r')) (hf:∀ b g,f b g []=none) :
  RelC (loopC (F_addr_coloned_G1 s) (2,(b,g,(i:Int),n,(z:Int)))) (tailM f (b++by2 n) g r):=by
 have hbody:F_addr_coloned_G1 s (2,(b,g,(i:Int),n,(z:Int)))=F_addr_coloned_G1_2 s (b,g,(i:Int),n,(z:Int)):=rfl
 unfold F_addr_coloned_G1_2 chk at hbody
 dsimp only at hbody
 have hb14:=hA.len
 have hck:(decide ((b.length+(by2 n).length)*1<=140737488355328)&&decide (b.length+(by2 n).length<=maxLen))=true:=chk1 (by show b.length+2<=_;omega)
 have hz0:((z:Int)==0)=false:=beq_eq_false_iff_ne.2 (by omega)
 have hl2:=len2 b n
 rw [by2_eq h0,hck,hz0] at hbody
 simp only [cond_true,cond_false] at hbody
 rcases hstop with rfl | ⟨c,r',rfl,hc⟩
 ·have hie:=drop_nil' hr hi
  rw [decide_eq_false (show ¬ (i:Int) < (s.length:Int) by omega),cond_false,beq_iff_eq.2 (show (i:Int)=(s.length:Int) by omega),cond_true] at hbody
  have ho:=over_rel s (b++by2 n) g i n z (by omega) hA.lo (by have:=hA.hi;omega)
  show RelC _ (overM (b++by2 n) g)
  cases hm:loopC (F_addr_coloned_G1 s) (0,(b++by2 n,g,(i:Int),n,(z:Int))) with
  | none=>
   rw [hm] at ho
   unfold RelC at ho
   split at ho
   ·cases ho
   ·obtain ⟨v,hv,_⟩:=ho;cases hv
  | some x=>
   rw [loop_inr hbody hm]
   rw [hm] at ho
   exact ho
 ·obtain ⟨hlt,hget,hdrop⟩:=drop_cons hr
  have hg1:=getI_nat hget
  have hdz:(decide (dg c >= 0)&&decide ((z:Int) < 4))=false:=by
   rw [<-hc]
   congr 1
   exact decide_eq_decide.2 (by omega)
  rw [decide_eq_true (show (i:Int) < (s.length:Int) by omega),cond_true,hg1] at hbody
  simp only [Option.bind_some,digit_eq,hdz,cond_false] at hbody
  rw [beq_eq_false_iff_ne.2 (show (i:Int)≠(s.length:Int) by omega),cond_false,show ((((b++by2 n).length:Nat):Int)==16)=((b++by2 n).length==16) by rw [Bool.eq_iff_iff,beq_iff_eq,beq_iff_eq];omega] at hbody
  have pass:∀ {x:Nat×List Int×Int×Int×Int×Int} {m:Option (List Int)},F_addr_coloned_G1 s (2,(b,g,(i:Int),n,(z:Int)))=some (.inr x)->RelC (loopC (F_addr_coloned_G1 s) x) m->RelC (loopC (F_addr_coloned_G1 s) (2,(b,g,(i:Int),n,(z:Int)))) m:=fun {x m} he hm=>by
   cases hl:loopC (F_addr_coloned_G1 s) x with
   | none=>
    rw [hl] at hm
    unfold RelC at hm
    split at hm
    ·cases hm
    ·obtain ⟨v,hv,_⟩:=hm;cases hv
   | some y=>
    rw [loop_inr he hl]
    rw [hl] at hm
    exact hm
  show RelC _ (cond (c != 58||(b++by2 n).length==16) none (tail2 f (b++by2 n) g r'))
  cases hx:(c != 58||(b++by2 n).length==16) with
  | true=>
   rw [hx,cond_true] at hbody
   rw [loop_inl hbody]
   exact relC_fail
  | false=>
   rw [hx,cond_false,wrap_in (x:=(i:Int)+1) (by omega) (by omega)] at hbody
   rw [cond_false]
   have hne:¬ (b++by2 n).length=16:=beq_eq_false_iff_ne.1 (Bool.or_eq_false_iff.1 hx).2
   have hA':AtG (b++by2 n) g:=⟨by have:=hA.even;omega,by rw [hl2];have:=hA.even;omega,hA.lo,by have:=hA.hi;omega⟩
   cases r' with
   | nil=>
    have hie:=drop_nil' hdrop (by omega)
    rw [beq_iff_eq.2 (show (i:Int)+1=(s.length:Int) by omega),cond_true] at hbody
    have:=ih (b++by2 n) g (i+1) [] n z hA' hdrop (by omega) (by omega)
    rw [hf] at this
    exact pass hbody (by exact_mod_cast this)
   | cons d r2=>
    obtain ⟨hlt2,hget2,hdrop2⟩:=drop_cons hdrop
    have hg2:getI s ((i:Int)+1)=some d:=getI_nat (i:=i+1) hget2
    rw [beq_eq_false_iff_ne.2 (show (i:Int)+1≠(s.length:Int) by omega),cond_false,hg2,Option.bind_some] at hbody
    show RelC _ (cond (d != 58) (f (b++by2 n) g (d::r2)) (cond (decide (0<=g)) none (tail3 f (b++by2 n) r2)))
    cases hd:d != 58 with
    | true=>
     rw [hd,cond_true] at hbody
     rw [cond_true]
     have:=ih (b++by2 n) g (i+1) (d::r2) n z hA' hdrop (by omega) (by omega)
     exact pass hbody (by exact_mod_cast this)
    | false=>
     rw [hd,cond_false] at hbody
     by_cases hg0:0<=g
     ·rw [decide_eq_true (show g >= 0 from hg0),cond_true] at hbody
      rw [loop_inl hbody,cond_false,decide_eq_true hg0]
      exact relC_fail
     ·rw [decide_eq_false (show ¬ g >= 0 from hg0),cond_false,wrap_in (x:=(i:Int)+1+1) (by omega) (by omega)] at hbody
      rw [cond_false,decide_eq_false hg0,cond_false]
      have hA2:AtG (b++by2 n) ((b++by2 n).length:Int):=⟨hA'.len,hA'.even,by omega,Int.le_refl _⟩
      cases r2 with
      | nil=>
       have hie:=drop_nil' hdrop2 (by omega)
       rw [decide_eq_false (show ¬ (i:Int)+1+1 < (s.length:Int) by omega),cond_false,decide_eq_false (show ¬ ((b++by2 n).length:Int) < 0 by omega),cond_false] at hbody
       show RelC _ (overM (b++by2 n) ((b++by2 n).length:Int))
       unfold overM
       rw [decide_eq_false (show ¬ ((b++by2 n).length:Int) < 0 by omega),cond_false]
       have h14:=hA'.len
       rw [decide_eq_false (show ¬ ((b++by2 n).length:Int) >= 16 by omega),cond_false] at hbody
       have hok:insOk (b++by2 n) ((b++by2 n).length:Int)=true:=by
        unfold insOk
        simp only [Bool.and_eq_true,decide_eq_true_eq]
        exact ⟨⟨by omega,Int.le_refl _⟩,by rw [Nat.blt_eq];omega⟩
       rw [hok,cond_true] at hbody
       rw [loop_inl hbody,decide_eq_false (show ¬ 16<=(b++by2 n).length by omega)]
       rfl
      | cons e r3=>
       obtain ⟨hlt3,_,_⟩:=drop_cons hdrop2
       rw [decide_eq_true (show (i:Int)+1+1 < (s.length:Int) by omega),cond_true] at hbody
       have:=ih (b++by2 n) ((b++by2 n).length:Int) (i+1+1) (e::r3) n z hA2 hdrop2 (by omega) (by omega)
       exact pass hbody (by exact_mod_cast this)
theorem rel_some {o:Option (List Int×Bool)} {m:Option (List Int)} (h:RelC o m):∃ x,o=some x:=by
 unfold RelC at h
 split at h
 ·exact ⟨_,h⟩
 ·obtain ⟨v,hv,_⟩:=h;exact ⟨_,hv⟩
theorem rel_inr {s:List Int} {y x:Nat×List Int×Int×Int×Int×Int} {m:Option (List Int)} (he:F_addr_coloned_G1 s y=some (.inr x)) (hm:RelC (loopC (F_addr_coloned_G1 s) x) m):RelC (loopC (F_addr_coloned_G1 s) y) m:=by
 obtain ⟨v,hv⟩:=rel_some hm
 rw [loop_inr he hv]
 rw [hv] at hm
 exact hm
theorem pow16:∀ z:Nat,1<=z->z<=4->(16:Int) ^ z<=65536
 | 1,_,_=>by decide
 | 2,_,_=>by decide
 | 3,_,_=>by decide
 | 4,_,_=>by decide
 | 0,h,_=>absurd h (by decide)
 | n+5,_,h=>absurd h (by omega)
theorem digs_rel (s:List Int) (hs:s.length<=1000000) (f:List Int->Int->List Int->Option (List Int)) (b:List Int) (g:Int) (hA:AtG b g) (hf:∀ b g,f b g []=none):∀ (r:List Int) (i:Nat) (n:Int) (z:Nat),s.drop i=r->i<=s.length->0<=n->n < 16 ^ z->1<=z->z<=4 ->
  (∀ (b':List Int) (g':Int) (j:Nat) (r':List Int) (n' z':Int),AtG b' g'->s.drop j=r'->j<=s.length->i<=j->RelC (loopC (F_addr_coloned_G1 s) (1,(b',g',(j:Int),n',z'))) (f b' g' r')) ->
  RelC (loopC (F_addr_coloned_G1 s) (2,(b,g,(i:Int),n,(z:Int)))) (tailM f (b++by2 (digs r n z).1) g (digs r n z).2)
 | [],i,n,z,hr,hi,h0,h1,hz,hz4,ih=>by
  have hp:=pow16 z hz hz4
  exact tail_rel s hs f b g hA i n z [] hr hi h0 (by omega) hz hz4 (.inl rfl) (fun b' g' j r' n' z' a1 a2 a3 a4=>ih b' g' j r' n' z' a1 a2 a3 (by omega)) hf
 | c::r,i,n,z,hr,hi,h0,h1,hz,hz4,ih=>by
  have hp:=pow16 z hz hz4
  have h65:n < 65536:=by omega
  unfold digs
  cases hc:decide (0<=dg c)&&decide (z < 4) with
  | false=>
   rw [cond_false]
   exact tail_rel s hs f b g hA i n z (c::r) hr hi h0 h65 hz hz4 (.inr ⟨c,r,rfl,hc⟩) (fun b' g' j r' n' z' a1 a2 a3 a4=>ih b' g' j r' n' z' a1 a2 a3 (by omega)) hf
  | true=>
   rw [cond_true]
   obtain ⟨hlt,hget,hdrop⟩:=drop_cons hr
   simp only [Bool.and_eq_true,decide_eq_true_eq] at hc
   obtain ⟨hd0,hz3⟩:=hc
   obtain ⟨_,hd1⟩:=dg_in c
   have hp2:(16:Int) ^ (z+1)=16 ^ z*16:=Int.pow_succ ..
   have hrec:=digs_rel s hs f b g hA hf r (i+1) (n*16+dg c) (z+1) hdrop (by omega) (by omega) (by rw [hp2];omega) (by omega) (by omega) (fun b' g' j r' n' z' a1 a2 a3 a4=>ih b' g' j r' n' z' a1 a2 a3 (by omega))
   refine rel_inr (x:=(2,(b,g,((i+1:Nat):Int),n*16+dg c,((z+1:Nat):Int)))) ?_ hrec
   show F_addr_coloned_G1_2 s (b,g,(i:Int),n,(z:Int))=_
   unfold F_addr_coloned_G1_2
   dsimp only
   rw [decide_eq_true (show (i:Int) < (s.length:Int) by omega),cond_true,getI_nat hget]
   simp only [Option.bind_some,digit_eq]
   rw [decide_eq_true (show dg c >= 0 from hd0),decide_eq_true (show (z:Int) < 4 by omega),Bool.true_and,cond_true,or16 h0 h65 hd0 hd1,wrap_in (x:=(i:Int)+1) (by omega) (by omega),wrap_in (x:=(z:Int)+1) (by omega) (by omega)]
   rfl
theorem colM_nil:∀ (k:Nat) (b:List Int) (g:Int),colM k b g []=none
 | 0,_,_=>rfl
 | _+1,_,_=>rfl
theorem colM_rel (s:List Int) (hs:s.length<=1000000):∀ (k:Nat) (b:List Int) (g:Int) (i:Nat) (r:List Int) (n z:Int),r.length < k->AtG b g->s.drop i=r->i<=s.length->RelC (loopC (F_addr_coloned_G1 s) (1,(b,g,(i:Int),n,z))) (colM k b g r)
 | 0,_,_,_,_,_,_,hk,_,_,_=>absurd hk (Nat.not_lt_zero _)
 | k+1,b,g,i,r,n,z,hk,hA,hr,hi=>by
  have hbody:F_addr_coloned_G1 s (1,(b,g,(i:Int),n,z))=F_addr_coloned_G1_1 s (b,g,(i:Int),n,z):=rfl
  unfold F_addr_coloned_G1_1 at hbody
  dsimp only at hbody
  cases r with
  | nil=>
   have hie:=drop_nil' hr hi
   rw [decide_eq_false (show ¬ (i:Int) < (s.length:Int) by omega),cond_false] at hbody
   rw [loop_inl hbody]
   exact relC_fail
  | cons c r=>
   obtain ⟨hlt,hget,hdrop⟩:=drop_cons hr
   obtain ⟨_,hd1⟩:=dg_in c
   rw [decide_eq_true (show (i:Int) < (s.length:Int) by omega),cond_true,getI_nat hget] at hbody
   simp only [Option.bind_some,digit_eq] at hbody
   unfold colM
   by_cases hd0:0<=dg c
   ·rw [decide_eq_true (show dg c >= 0 from hd0),show (true&&decide ((0:Int) < 4))=true from rfl,cond_true,or16 (by decide) (by decide) hd0 hd1,wrap_in (x:=(i:Int)+1) (by omega) (by omega)] at hbody
    rw [decide_eq_true hd0,cond_true]
    have hlen:(s.drop i).length=s.length - i:=List.length_drop ..
    rw [hr,List.length_cons] at hlen
    have hrec:=digs_rel s hs (colM k) b g hA (colM_nil k) r (i+1) (dg c) 1 hdrop (by omega) hd0 (by simpa using hd1) (by omega) (by omega) (fun b' g' j r' n' z' a1 a2 a3 a4=>by
     refine colM_rel s hs k b' g' j r' n' z' ?_ a1 a2 a3
     have h2:(s.drop j).length=s.length - j:=List.length_drop ..
     rw [a2] at h2
     have hk':r.length+1 < k+1:=hk
     omega)
    refine rel_inr (x:=(2,(b,g,((i+1:Nat):Int),dg c,((1:Nat):Int)))) ?_ hrec
    rw [hbody]
    have e:(0:Int)*16+dg c=dg c:=by omega
    rw [e]
    rfl
   ·rw [decide_eq_false (show ¬ dg c >= 0 from hd0),show (false&&decide ((0:Int) < 4))=false from rfl,cond_false] at hbody
    rw [loop_inl hbody,decide_eq_false hd0]
    exact relC_fail
theorem join_loop {S R:Type} {body:S->Option (R⊕S)} {s0:S} {r:R} (h:loopC body s0=some r):joinC (body s0) (fun p=>loopC body p)=some r:=by
 obtain ⟨n,hn⟩:=iter_of_loop' h
 cases n with
 | zero=>cases hn
 | succ n=>
  unfold iterC at hn
  split at hn
  ·cases hn
  ·rename_i x hx
   injection hn with hn
   rw [hx,hn];rfl
  ·rename_i x hx
   rw [hx]
   exact loop_of_iter hn
def colR (s:List Int):Option (List Int):=
 cond (s.take 2==[58,58]) (cond (s.drop 2==[]) (some (insZ [] 0)) (colM s.length [] 0 (s.drop 2))) (colM (s.length+1) [] (-1) s)
theorem coloned_rel (s:List Int) (hs:s.length<=1000000):RelC (F_addr_coloned s) (colR s):=by
 have hA1:AtG [] (-1):=⟨by simp,rfl,by omega,by simp⟩
 have hA0:AtG [] 0:=⟨by simp,rfl,by omega,by simp⟩
 have go:∀ (g:Int) (i:Nat) (A:Option ((List Int×Bool)⊕(Nat×List Int×Int×Int×Int×Int))) (k:Nat),(s.drop i).length < k->AtG [] g->i<=s.length->A=F_addr_coloned_G1_1 s (([]:List Int),g,(i:Int),0,0)->RelC (joinC A (fun p=>loopC (F_addr_coloned_G1 s) p)) (colM k [] g (s.drop i)):=fun g i A k hk hA hi he=>by
  have:=colM_rel s hs k [] g i (s.drop i) 0 0 hk hA rfl hi
  obtain ⟨v,hv⟩:=rel_some this
  have he':A=F_addr_coloned_G1 s (1,(([]:List Int),g,(i:Int),0,0)):=he
  rw [he',join_loop hv]
  rw [hv] at this
  exact this
 have hpre:(decide (([58,58]:List Int).length<=s.length)&&(s.take ([58,58]:List Int).length==[58,58]))=(s.take 2==[58,58]):=by
  show (decide (2<=s.length)&&(s.take 2==[58,58]))=_
  by_cases h:2<=s.length
  ·rw [decide_eq_true h,Bool.true_and]
  ·rw [decide_eq_false h,Bool.false_and]
   refine (beq_eq_false_iff_ne.2 fun e=>?_).symm
   have:=congrArg List.length e
   rw [List.length_take] at this
   simp at this
   omega
 unfold F_addr_coloned colR
 rw [prefix_lit s _ hs,Option.bind_some,hpre]
 cases h2:s.take 2==[58,58] with
 | false=>
  rw [cond_false,cond_false]
  have:=go (-1) 0 _ (s.length+1) (by rw [List.drop_zero];omega) hA1 (by omega) rfl
  rw [List.drop_zero] at this
  exact this
 | true=>
  rw [cond_true,cond_true]
  have hlen:2<=s.length:=by
   have:=congrArg List.length (beq_iff_eq.1 h2)
   rw [List.length_take] at this
   simp at this
   omega
  have hdl:(s.drop 2).length=s.length - 2:=List.length_drop ..
  cases hd:s.drop 2 with
  | nil=>
   rw [hd] at hdl
   have hl2:s.length=2:=by simp at hdl;omega
   rw [beq_iff_eq.2 (show (2:Int)=(s.length:Int) by omega),cond_true,show (([]:List Int)==[])=true from rfl,cond_true]
   rw [join_inr (s:=(0,(([]:List Int),0,2,0,0))) rfl]
   exact loop_inl rfl
  | cons c r=>
   rw [hd,List.length_cons] at hdl
   rw [beq_eq_false_iff_ne.2 (show (2:Int)≠(s.length:Int) by omega),cond_false,show ((c::r)==([]:List Int))=false from rfl,cond_false]
   have:=go 0 2 _ s.length (by rw [hd,List.length_cons];omega) hA0 hlen rfl
   rw [hd] at this
   exact this
def hexGB (p:List Int):Bool:=decide (1<=p.length)&&decide (p.length<=4)&&p.all fun c=>decide (0<=dg c)
def hexV (p:List Int):Int:=p.foldl (fun n c=>n*16+dg c) 0
def bytesP (ps:List (List Int)):List Int:=ps.flatMap fun p=>by2 (hexV p)
theorem bytesP_len (ps:List (List Int)):(bytesP ps).length=2*ps.length:=by
 induction ps with
 | nil=>rfl
 | cons p ps ih=>
  show (by2 (hexV p)++bytesP ps).length=_
  rw [List.length_append,ih,List.length_cons]
  show 2+_=_
  omega
theorem bytesP_cons (p:List Int) (ps:List (List Int)):bytesP (p::ps)=by2 (hexV p)++bytesP ps:=rfl
theorem hexB_nil:hexGB []=false:=rfl
def Stop (rest:List Int):Prop:=rest=[] \/ ∃ r,rest=58::r
theorem part_ex:∀ r:List Int,∃ p rest,r=p++rest /\ (∀ c∈p,c≠58) /\ Stop rest
 | []=>⟨[],[],rfl,fun _ h=>(by cases h),.inl rfl⟩
 | c::r=>by
  by_cases h:c=58
  ·exact ⟨[],c::r,rfl,fun _ h=>(by cases h),.inr ⟨r,by rw [h]⟩⟩
  ·obtain ⟨p,rest,e,h1,h2⟩:=part_ex r
   refine ⟨c::p,rest,by rw [e];rfl,fun x hx=>?_,h2⟩
   rcases List.mem_cons.1 hx with rfl | hx
   ·exact h
   ·exact h1 x hx
theorem split_p:∀ (p:List Int),(∀ c∈p,c≠58)->splitI p 58=[p]
 | [],_=>rfl
 | c::p,h=>by
  unfold splitI
  rw [beq_eq_false_iff_ne.2 (h c List.mem_cons_self),cond_false,split_p p fun x hx=>h x (List.mem_cons_of_mem _ hx)]
theorem split_pc:∀ (p r:List Int),(∀ c∈p,c≠58)->splitI (p++58::r) 58=p::splitI r 58
 | [],r,_=>by
  show cond ((58:Int)==58) ([]::splitI r 58) (match splitI r 58 with | []=>[[58]] | w::q=>(58::w)::q)=[]::splitI r 58
  rfl
 | c::p,r,h=>by
  show splitI (c::(p++58::r)) 58=_
  rw [show splitI (c::(p++58::r)) 58=cond (c==58) ([]::splitI (p++58::r) 58) (match splitI (p++58::r) 58 with | []=>[[c]] | w::q=>(c::w)::q) from rfl]
  rw [beq_eq_false_iff_ne.2 (h c List.mem_cons_self),cond_false,split_pc p r fun x hx=>h x (List.mem_cons_of_mem _ hx)]
theorem digs_part:∀ (p rest:List Int) (n:Int) (z:Nat),(∀ c∈p,c≠58)->Stop rest->z<=4 ->
  ((p.all fun c=>decide (0<=dg c))&&decide (z+p.length<=4))=true /\ digs (p++rest) n z=(p.foldl (fun n c=>n*16+dg c) n,rest) \/
  ((p.all fun c=>decide (0<=dg c))&&decide (z+p.length<=4))=false /\ ∃ m c q,digs (p++rest) n z=(m,c::q) /\ c≠58
 | [],rest,n,z,_,hr,hz=>by
  refine .inl ⟨by simpa using hz,?_⟩
  rcases hr with rfl | ⟨r,rfl⟩
  ·rfl
  ·show digs (58::r) n z=_
   unfold digs
   rfl
 | c::p,rest,n,z,h,hr,hz=>by
  have hc:=h c List.mem_cons_self
  have hp:∀ x∈p,x≠58:=fun x hx=>h x (List.mem_cons_of_mem _ hx)
  have hu:digs ((c::p)++rest) n z=cond (decide (0<=dg c)&&decide (z < 4)) (digs (p++rest) (n*16+dg c) (z+1)) (n,c::(p++rest)):=rfl
  rw [hu,List.all_cons,List.length_cons]
  cases hd:decide (0<=dg c) with
  | false=>exact .inr ⟨rfl,n,c,p++rest,rfl,hc⟩
  | true=>
   by_cases hz4:z < 4
   ·rw [decide_eq_true hz4]
    have ih:=digs_part p rest (n*16+dg c) (z+1) hp hr (by omega)
    rw [show z+(p.length+1)=z+1+p.length by omega]
    exact ih
   ·rw [decide_eq_false hz4,decide_eq_false (show ¬ z+(p.length+1)<=4 by omega),Bool.and_false]
    exact .inr ⟨rfl,n,c,p++rest,rfl,hc⟩
theorem col_part (k:Nat) (b:List Int) (g:Int) (p rest:List Int) (hp:∀ c∈p,c≠58) (hr:Stop rest):colM (k+1) b g (p++rest)=cond (hexGB p) (tailM (colM k) (b++by2 (hexV p)) g rest) none:=by
 cases p with
 | nil=>
  rw [hexB_nil,cond_false]
  rcases hr with rfl | ⟨r,rfl⟩
  ·rfl
  ·rfl
 | cons c p=>
  have hu:colM (k+1) b g ((c::p)++rest)=cond (decide (0<=dg c)) (tailM (colM k) (b++by2 (digs (p++rest) (dg c) 1).1) g (digs (p++rest) (dg c) 1).2) none:=rfl
  have hb:hexGB (c::p)=(decide (0<=dg c)&&((p.all fun c=>decide (0<=dg c))&&decide (1+p.length<=4))):=by
   unfold hexGB
   rw [List.length_cons,List.all_cons,decide_eq_true (show 1<=p.length+1 by omega),Bool.true_and,show p.length+1=1+p.length by omega,Bool.and_comm,Bool.and_assoc]
  have hv:hexV (c::p)=p.foldl (fun n c=>n*16+dg c) (dg c):=by
   unfold hexV
   rw [List.foldl_cons,show (0:Int)*16+dg c=dg c by omega]
  rw [hu,hb,hv]
  cases decide (0<=dg c) with
  | false=>rfl
  | true=>
   rw [cond_true,Bool.true_and]
   rcases digs_part p rest (dg c) 1 (fun x hx=>hp x (List.mem_cons_of_mem _ hx)) hr (by decide) with ⟨h1,h2⟩ | ⟨h1,m,d,q,h2,h3⟩
   ·rw [h1,h2,cond_true]
   ·rw [h1,h2,cond_false]
    show cond (d != 58||_) none _=none
    rw [bne_iff_ne.2 h3,Bool.true_or,cond_true]
theorem stop_split {p rest:List Int} (hp:∀ c∈p,c≠58) (hr:Stop rest):(rest=[] /\ splitI (p++rest) 58=[p]) \/ ∃ r,rest=58::r /\ splitI (p++rest) 58=p::splitI r 58:=by
 rcases hr with rfl | ⟨r,rfl⟩
 ·exact .inl ⟨rfl,by rw [List.append_nil];exact split_p p hp⟩
 ·exact .inr ⟨r,rfl,split_pc p r hp⟩
theorem split_nn (r:List Int):1<=(splitI r 58).length:=by
 have:=splitI_ne r 58
 cases h:splitI r 58 with
 | nil=>exact absurd h this
 | cons _ _=>rw [List.length_cons];omega
theorem col_gap:∀ (k:Nat) (b:List Int) (g:Int) (r:List Int),r.length < k->0<=g->b.length<=14->b.length % 2=0 ->
  colM k b g r=cond ((splitI r 58).all hexGB&&decide (b.length+2*(splitI r 58).length<=14)) (some (insZ (b++bytesP (splitI r 58)) g.toNat)) none
 | 0,_,_,_,h,_,_,_=>absurd h (Nat.not_lt_zero _)
 | k+1,b,g,r,hk,hg,hb,he=>by
  obtain ⟨p,rest,rfl,hp,hr⟩:=part_ex r
  rw [col_part k b g p rest hp hr]
  have hl:=len2 b (hexV p)
  rcases stop_split hp hr with ⟨rfl,hs⟩ | ⟨r',rfl,hs⟩
  ·rw [hs]
   show cond (hexGB p) (overM (b++by2 (hexV p)) g) none=_
   rw [show [p].all hexGB=hexGB p by simp]
   cases hexGB p with
   | false=>rfl
   | true=>
    rw [cond_true,Bool.true_and]
    unfold overM
    rw [decide_eq_false (show ¬ g < 0 by omega),cond_false,hl]
    by_cases h16:b.length=14
    ·rw [decide_eq_true (show 16<=b.length+2 by omega),decide_eq_false (show ¬ b.length+2*[p].length<=14 by simp;omega)];rfl
    ·rw [decide_eq_false (show ¬ 16<=b.length+2 by omega),decide_eq_true (show b.length+2*[p].length<=14 by simp;omega)]
     show some _=some (insZ (b++(by2 (hexV p)++[])) g.toNat)
     rw [List.append_nil]
  ·rw [hs,List.all_cons,List.length_cons]
   have hnn:=split_nn r'
   cases hx:hexGB p with
   | false=>rfl
   | true=>
    rw [cond_true,Bool.true_and]
    show cond ((58:Int) != 58||(b++by2 (hexV p)).length==16) none (tail2 (colM k) (b++by2 (hexV p)) g r')=_
    rw [show ((58:Int) != 58)=false from rfl,Bool.false_or,hl]
    by_cases h16:b.length=14
    ·rw [beq_iff_eq.2 (show b.length+2=16 by omega),cond_true,decide_eq_false (show ¬ b.length+2*((splitI r' 58).length+1)<=14 by omega),Bool.and_false];rfl
    ·rw [beq_eq_false_iff_ne.2 (show b.length+2≠16 by omega),cond_false]
     cases r' with
     | nil=>rfl
     | cons d r2=>
      show cond (d != 58) (colM k (b++by2 (hexV p)) g (d::r2)) (cond (decide (0<=g)) none _)=_
      by_cases hd:d=58
      ·subst hd
       rw [show ((58:Int) != 58)=false from rfl,cond_false,decide_eq_true hg,cond_true]
       have:splitI (58::r2) 58=[]::splitI r2 58:=split_pc [] r2 (fun _ h=>by cases h)
       rw [this,List.all_cons,hexB_nil];rfl
      ·rw [bne_iff_ne.2 hd,cond_true]
       have hlen:(p++58::d::r2).length=p.length+(r2.length+2):=by rw [List.length_append];rfl
       rw [col_gap k (b++by2 (hexV p)) g (d::r2) (by simp at hlen hk ⊢;omega) hg (by omega) (by omega),hl,bytesP_cons,List.append_assoc]
       rw [show b.length+2*((splitI (d::r2) 58).length+1)=b.length+2+2*(splitI (d::r2) 58).length by omega]
def dcI:List Int->Option Nat
 | []=>none
 | c::r=>cond (c==58&&r.head? == some 58) (some 0) ((dcI r).map (· + 1))
theorem dc_p:∀ (p rest:List Int),(∀ c∈p,c≠58)->dcI (p++rest)=(dcI rest).map (· + p.length)
 | [],rest,_=>by simp
 | c::p,rest,h=>by
  show cond (c==58&&_) _ ((dcI (p++rest)).map (· + 1))=_
  rw [beq_eq_false_iff_ne.2 (h c List.mem_cons_self),Bool.false_and,cond_false,dc_p p rest fun x hx=>h x (List.mem_cons_of_mem _ hx),Option.map_map]
  congr 1
def partsO (r:List Int):List (List Int):=cond (r==[]) [] (splitI r 58)
def grpR (b:List Int) (r:List Int):Option (List Int):=match dcI r with
  | none=>cond ((splitI r 58).all hexGB&&(b.length+2*(splitI r 58).length==16)) (some (b++bytesP (splitI r 58))) none
  | some i => cond ((partsO (r.take i)).all hexGB && (partsO (r.drop (i + 2))).all hexGB && decide (b.length + 2 * (partsO (r.take i)).length + 2 * (partsO (r.drop (i + 2))).length <= 14))
      (some (insZ (b++bytesP (partsO (r.take i))++bytesP (partsO (r.drop (i+2)))) (b.length+2*(partsO (r.take i)).length))) none
theorem partsO_ne {r:List Int} (h:r≠[]):partsO r=splitI r 58:=by
 unfold partsO
 rw [beq_eq_false_iff_ne.2 h,cond_false]
theorem col_nogap:∀ (k:Nat) (b:List Int) (r:List Int),r.length < k->b.length<=14->b.length % 2=0->dcI r≠some 0->colM k b (-1) r=grpR b r
 | 0,_,_,h,_,_,_=>absurd h (Nat.not_lt_zero _)
 | k+1,b,r,hk,hb,he,hd0=>by
  obtain ⟨p,rest,rfl,hp,hr⟩:=part_ex r
  rw [col_part k b (-1) p rest hp hr]
  have hl:=len2 b (hexV p)
  have hdc:=dc_p p rest hp
  rcases stop_split hp hr with ⟨rfl,hs⟩ | ⟨r',rfl,hs⟩
  ·unfold grpR
   rw [hdc]
   show _=cond ((splitI (p++[]) 58).all hexGB&&(b.length+2*(splitI (p++[]) 58).length==16)) (some (b++bytesP (splitI (p++[]) 58))) none
   rw [hs,show [p].all hexGB=hexGB p by simp]
   cases hexGB p with
   | false=>rfl
   | true=>
    show overM (b++by2 (hexV p)) (-1)=cond (b.length+2*1==16) (some (b++(by2 (hexV p)++[]))) none
    unfold overM
    rw [hl,List.append_nil];rfl
  ·-- a colon
   have hlen:(p++58::r').length=p.length+(r'.length+1):=by rw [List.length_append];rfl
   have hne:∀ i,p.length<=i->(p++58::r').take i=p++(58::r').take (i - p.length):=fun i hi=>by
    rw [List.take_append,List.take_of_length_le hi]
   have hnd:∀ i,p.length<=i->(p++58::r').drop i=(58::r').drop (i - p.length):=fun i hi=>by
    rw [List.drop_append,List.drop_of_length_le hi];rfl
   by_cases hdd:r'.head? = some 58
   ·-- two colons
    obtain ⟨r2,rfl⟩:∃ r2,r'=58::r2:=by
     cases r' with
     | nil=>cases hdd
     | cons x r2=>injection hdd with hdd;exact ⟨r2,by rw [hdd]⟩
    have hdc0:dcI (58::58::r2)=some 0:=rfl
    rw [hdc0] at hdc
    have hdc:dcI (p++58::58::r2)=some p.length:=by rw [hdc];simp
    have hpne:p≠[]:=fun e=>hd0 (by rw [hdc,e];rfl)
    unfold grpR
    rw [hdc]
    show _=cond ((partsO ((p++58::58::r2).take p.length)).all hexGB&&(partsO ((p++58::58::r2).drop (p.length+2))).all hexGB&&decide (b.length+2*(partsO ((p++58::58::r2).take p.length)).length+2*(partsO ((p++58::58::r2).drop (p.length+2))).length<=14))
     (some (insZ (b++bytesP (partsO ((p++58::58::r2).take p.length))++bytesP (partsO ((p++58::58::r2).drop (p.length+2)))) (b.length+2*(partsO ((p++58::58::r2).take p.length)).length))) none
    rw [List.take_left,hnd (p.length+2) (by omega),show p.length+2 - p.length=2 by omega,show (58::58::r2:List Int).drop 2=r2 from rfl,partsO_ne hpne,split_p p hp]
    rw [show [p].all hexGB=hexGB p by simp]
    cases hexGB p with
    | false=>rfl
    | true=>
     rw [cond_true,Bool.true_and]
     show cond ((58:Int) != 58||(b++by2 (hexV p)).length==16) none (cond ((58:Int) != 58) (colM k (b++by2 (hexV p)) (-1) (58::r2)) (cond (decide ((0:Int) <= -1)) none (tail3 (colM k) (b++by2 (hexV p)) r2)))=_
     rw [show ((58:Int) != 58)=false from rfl,Bool.false_or,cond_false,show decide ((0:Int) <= -1)=false from rfl,cond_false,hl]
     show cond (b.length+2==16) none _=cond ((partsO r2).all hexGB&&decide (b.length+2*1+2*(partsO r2).length<=14)) (some (insZ (b++(by2 (hexV p)++[])++bytesP (partsO r2)) (b.length+2*1))) none
     rw [List.append_nil]
     by_cases h16:b.length=14
     ·rw [beq_iff_eq.2 (show b.length+2=16 by omega),cond_true,decide_eq_false (show ¬ b.length+2*1+2*(partsO r2).length<=14 by omega),Bool.and_false];rfl
     ·rw [beq_eq_false_iff_ne.2 (show b.length+2≠16 by omega),cond_false]
      cases r2 with
      | nil=>
       show overM (b++by2 (hexV p)) ((b++by2 (hexV p)).length:Int)=cond (true&&decide (b.length+2*1+2*0<=14)) (some (insZ (b++by2 (hexV p)++[]) (b.length+2*1))) none
       unfold overM
       rw [hl,List.append_nil,decide_eq_false (show ¬ ((b.length+2:Nat):Int) < 0 by omega),cond_false,decide_eq_false (show ¬ 16<=b.length+2 by omega),cond_false,decide_eq_true (show b.length+2*1+2*0<=14 by omega),Int.toNat_natCast];rfl
      | cons e r3=>
       show colM k (b++by2 (hexV p)) ((b++by2 (hexV p)).length:Int) (e::r3)=_
       have hkk:(e::r3).length < k:=by rw [hlen] at hk;simp at hk ⊢;omega
       rw [col_gap k _ _ _ hkk (by omega) (by omega) (by omega),partsO_ne (by simp),hl,Int.toNat_natCast,show b.length+2*1=b.length+2 by omega]
   ·-- one colon
    have hdc1:dcI (58::r')=(dcI r').map (· + 1):=by
     show cond ((58:Int)==58&&r'.head? == some 58) _ _=_
     rw [beq_eq_false_iff_ne.2 hdd,Bool.and_false,cond_false]
    rw [hdc1] at hdc
    have hr'0:dcI r'≠some 0:=fun e=>by
     cases r' with
     | nil=>cases e
     | cons x r2=>
      have e':cond (x==58&&r2.head? == some 58) (some 0) ((dcI r2).map (· + 1))=some 0:=e
      cases hx:x==58 with
      | true=>exact hdd (by rw [beq_iff_eq.1 hx];rfl)
      | false=>
       rw [hx,Bool.false_and,cond_false] at e'
       obtain ⟨q,_,hq⟩:=Option.map_eq_some_iff.1 e'
       omega
    have hnn:=split_nn r'
    unfold grpR
    rw [hdc]
    cases hdr:dcI r' with
    | none=>
     show _=cond ((splitI (p++58::r') 58).all hexGB&&(b.length+2*(splitI (p++58::r') 58).length==16)) (some (b++bytesP (splitI (p++58::r') 58))) none
     rw [hs,List.all_cons,List.length_cons]
     cases hexGB p with
     | false=>rfl
     | true=>
      rw [cond_true,Bool.true_and]
      show cond ((58:Int) != 58||(b++by2 (hexV p)).length==16) none (tail2 (colM k) (b++by2 (hexV p)) (-1) r')=_
      rw [show ((58:Int) != 58)=false from rfl,Bool.false_or,hl]
      by_cases h16:b.length=14
      ·rw [beq_iff_eq.2 (show b.length+2=16 by omega),cond_true,beq_eq_false_iff_ne.2 (show b.length+2*((splitI r' 58).length+1)≠16 by omega),Bool.and_false];rfl
      ·rw [beq_eq_false_iff_ne.2 (show b.length+2≠16 by omega),cond_false]
       cases r' with
       | nil=>rfl
       | cons d r2=>
        have hd:d≠58:=fun e=>hdd (by rw [e];rfl)
        show cond (d != 58) (colM k (b++by2 (hexV p)) (-1) (d::r2)) _=_
        rw [bne_iff_ne.2 hd,cond_true]
        have hkk:(d::r2).length < k:=by rw [hlen] at hk;omega
        rw [col_nogap k (b++by2 (hexV p)) (d::r2) hkk (by omega) (by omega) hr'0]
        unfold grpR
        rw [hdr]
        show cond (_&&((b++by2 (hexV p)).length+_==16)) _ _=_
        rw [hl,bytesP_cons,List.append_assoc,show b.length+2*((splitI (d::r2) 58).length+1)=b.length+2+2*(splitI (d::r2) 58).length by omega]
    | some i=>
     have ei:((some i).map (· + 1)).map (· + p.length)=some (i+1+p.length):=rfl
     rw [ei]
     show _=cond ((partsO ((p++58::r').take (i+1+p.length))).all hexGB&&(partsO ((p++58::r').drop (i+1+p.length+2))).all hexGB&&decide (b.length+2*(partsO ((p++58::r').take (i+1+p.length))).length+2*(partsO ((p++58::r').drop (i+1+p.length+2))).length<=14))
      (some (insZ (b++bytesP (partsO ((p++58::r').take (i+1+p.length)))++bytesP (partsO ((p++58::r').drop (i+1+p.length+2)))) (b.length+2*(partsO ((p++58::r').take (i+1+p.length))).length))) none
     rw [hne (i+1+p.length) (by omega),hnd (i+1+p.length+2) (by omega),show i+1+p.length - p.length=i+1 by omega,show i+1+p.length+2 - p.length=(i+2)+1 by omega]
     rw [show (58::r':List Int).take (i+1)=58::r'.take i from rfl,show (58::r':List Int).drop (i+2+1)=r'.drop (i+2) from rfl]
     rw [partsO_ne (r:=p++58::r'.take i) (by simp),split_pc p _ hp,List.all_cons,List.length_cons]
     have hi0:i≠0:=fun e=>hr'0 (by rw [hdr,e])
     cases r' with
     | nil=>cases hdr
     | cons d r2=>
      have htk:(d::r2).take i≠[]:=by
       obtain ⟨j,rfl⟩:∃ j,i=j+1:=⟨i - 1,by omega⟩
       simp
      have hnn2:=split_nn ((d::r2).take i)
      cases hexGB p with
      | false=>rfl
      | true=>
       rw [cond_true,Bool.true_and]
       show cond ((58:Int) != 58||(b++by2 (hexV p)).length==16) none (tail2 (colM k) (b++by2 (hexV p)) (-1) (d::r2))=_
       rw [show ((58:Int) != 58)=false from rfl,Bool.false_or,hl]
       by_cases h16:b.length=14
       ·rw [beq_iff_eq.2 (show b.length+2=16 by omega),cond_true,decide_eq_false (by omega),Bool.and_false];rfl
       ·rw [beq_eq_false_iff_ne.2 (show b.length+2≠16 by omega),cond_false]
        have hd:d≠58:=fun e=>hdd (by rw [e];rfl)
        show cond (d != 58) (colM k (b++by2 (hexV p)) (-1) (d::r2)) _=_
        rw [bne_iff_ne.2 hd,cond_true]
        have hkk:(d::r2).length < k:=by rw [hlen] at hk;omega
        rw [col_nogap k (b++by2 (hexV p)) (d::r2) hkk (by omega) (by omega) hr'0]
        unfold grpR
        rw [hdr]
        show cond ((partsO ((d::r2).take i)).all hexGB&&(partsO ((d::r2).drop (i+2))).all hexGB&&decide ((b++by2 (hexV p)).length+2*(partsO ((d::r2).take i)).length+2*(partsO ((d::r2).drop (i+2))).length<=14))
         (some (insZ (b++by2 (hexV p)++bytesP (partsO ((d::r2).take i))++bytesP (partsO ((d::r2).drop (i+2)))) ((b++by2 (hexV p)).length+2*(partsO ((d::r2).take i)).length))) none=_
        rw [partsO_ne htk,hl,bytesP_cons,<- List.append_assoc b,show b.length+2*((splitI ((d::r2).take i) 58).length+1)=b.length+2+2*(splitI ((d::r2).take i) 58).length by omega]
theorem colR_eq (s:List Int):colR s=grpR [] s:=by
 unfold colR
 match s with
 | []=>rfl
 | [x]=>
  rw [show (([x]:List Int).take 2==[58,58])=false from beq_eq_false_iff_ne.2 fun e=>by simp at e,cond_false]
  have h0:dcI [x]≠some 0:=fun e=>by
   have e':cond (x==58&&false) (some 0) ((dcI []).map (· + 1))=some 0:=e
   rw [Bool.and_false] at e'
   cases e'
  exact col_nogap 2 [] [x] (by simp) (by simp) rfl h0
 | x::y::r=>
  have htk:(x::y::r).take 2=[x,y]:=rfl
  have hdp:(x::y::r).drop 2=r:=rfl
  rw [htk,hdp]
  by_cases hxy:x=58 /\ y=58
  ·obtain ⟨rfl,rfl⟩:=hxy
   rw [show (([58,58]:List Int)==[58,58])=true from rfl,cond_true]
   have hg:grpR [] (58::58::r)=cond (true&&(partsO r).all hexGB&&decide (0+2*0+2*(partsO r).length<=14)) (some (insZ ([]++[]++bytesP (partsO r)) (0+2*0))) none:=rfl
   rw [hg]
   cases r with
   | nil=>rfl
   | cons e r3=>
    rw [show ((e::r3)==([]:List Int))=false from rfl,cond_false,col_gap _ [] 0 (e::r3) (by simp) (by omega) (by simp) rfl,partsO_ne (by simp)]
    rw [Bool.true_and,List.nil_append,List.nil_append]
    rfl
  ·have hne:(([x,y]:List Int)==[58,58])=false:=beq_eq_false_iff_ne.2 fun e=>hxy (by injection e with e1 e2;injection e2 with e2;exact ⟨e1,e2⟩)
   rw [hne,cond_false]
   refine col_nogap _ [] _ (Nat.lt_succ_self _) (by simp) rfl fun e=>?_
   have e':cond (x==58&&(some y==some 58)) (some 0) ((dcI (y::r)).map (· + 1))=some 0:=e
   cases hb:(x==58&&(some y==some 58)) with
   | true=>
    rw [Bool.and_eq_true,beq_iff_eq,beq_iff_eq] at hb
    exact hxy ⟨hb.1,by injection hb.2⟩
   | false=>
    rw [hb,cond_false] at e'
    obtain ⟨q,_,hq⟩:=Option.map_eq_some_iff.1 e'
    omega
theorem group_loop (s:List Int) (hs:s.length<=4):∀ (r:List Int) (i:Nat) (n:Int),s.drop i=r->i<=s.length->0<=n->n < 16 ^ i ->
  loopC (F_wlvref15_group_L7 s) (n,(i:Int))=some (cond (r.all fun c=>decide (0<=dg c)) (.inr (r.foldl (fun n c=>n*16+dg c) n)) (.inl (0,false)))
 | [],i,n,hr,hi,h0,h1=>by
  have hie:=drop_nil' hr hi
  refine loop_inl ?_
  unfold F_wlvref15_group_L7
  dsimp only
  rw [decide_eq_false (show ¬ (i:Int) < (s.length:Int) by omega),cond_false]
  rfl
 | c::r,i,n,hr,hi,h0,h1=>by
  obtain ⟨hlt,hget,hdrop⟩:=drop_cons hr
  have hp2:(16:Int) ^ (i+1)=16 ^ i*16:=Int.pow_succ ..
  have hp:(16:Int) ^ (i+1)<=65536:=pow16 (i+1) (by omega) (by omega)
  have ih:=group_loop s hs r (i+1) (n*16+dg c) hdrop (by omega)
  have hbody:F_wlvref15_group_L7 s (n,(i:Int))=cond (decide (0<=dg c)) (some (.inr (n*16+dg c,(i:Int)+1))) (some (.inl (.inl (0,false)))):=by
   unfold F_wlvref15_group_L7
   dsimp only
   rw [decide_eq_true (show (i:Int) < (s.length:Int) by omega),cond_true,getI_nat hget,Option.bind_some,wrap_in (x:=n*16) (by omega) (by omega),wrap_in (x:=(i:Int)+1) (by omega) (by omega)]
   unfold dg
   by_cases c1:48<=c /\ c<=57
   ·rw [show (decide (c >= 48)&&decide (c<=57))=true by simpa using c1,cond_true,if_pos c1,u8_sm (by omega) (by omega),wrap_in (x:=c - 48) (by omega) (by omega),wrap_in (by omega) (by omega),decide_eq_true (show (0:Int)<=c - 48 by omega),cond_true]
   ·rw [show (decide (c >= 48)&&decide (c<=57))=false by simp;omega,cond_false,if_neg c1]
    by_cases c2:97<=c /\ c<=102
    ·rw [show (decide (c >= 97)&&decide (c<=102))=true by simpa using c2,cond_true,if_pos c2,u8_sm (by omega) (by omega),wrap_in (x:=c - 97) (by omega) (by omega),wrap_in (x:=n*16+(c - 97)) (by omega) (by omega),wrap_in (by omega) (by omega),decide_eq_true (show (0:Int)<=c - 87 by omega),cond_true,show n*16+(c - 97)+10=n*16+(c - 87) by omega]
    ·rw [show (decide (c >= 97)&&decide (c<=102))=false by simp;omega,cond_false,if_neg c2]
     by_cases c3:65<=c /\ c<=70
     ·rw [show (decide (c >= 65)&&decide (c<=70))=true by simpa using c3,cond_true,if_pos c3,u8_sm (by omega) (by omega),wrap_in (x:=c - 65) (by omega) (by omega),wrap_in (x:=n*16+(c - 65)) (by omega) (by omega),wrap_in (by omega) (by omega),decide_eq_true (show (0:Int)<=c - 55 by omega),cond_true,show n*16+(c - 65)+10=n*16+(c - 55) by omega]
     ·rw [show (decide (c >= 65)&&decide (c<=70))=false by simp;omega,cond_false,if_neg c3];rfl
  rw [List.all_cons,List.foldl_cons]
  obtain ⟨_,hd1⟩:=dg_in c
  by_cases hd:0<=dg c
  ·rw [decide_eq_true hd,cond_true] at hbody
   have h2:=ih (by omega) (by rw [hp2];omega)
   rw [decide_eq_true hd,Bool.true_and]
   exact loop_inr hbody (by exact_mod_cast h2)
  ·rw [decide_eq_false hd,cond_false] at hbody
   rw [decide_eq_false hd,Bool.false_and]
   exact loop_inl hbody
theorem group_eq (s:List Int):F_wlvref15_group s=some (cond (hexGB s) (hexV s,true) (0,false)):=by
  unfold F_wlvref15_group hexGB
  by_cases h:1<=s.length /\ s.length<=4
  · rw [decide_eq_false (show ¬ (s.length:Int) < 1 by omega),decide_eq_false (show ¬ (s.length:Int) > 4 by omega),Bool.or_self,cond_false,decide_eq_true h.1,decide_eq_true h.2,Bool.true_and,Bool.true_and]
    have:=group_loop s h.2 s 0 0 rfl (by omega) (by omega) (by decide)
    have this:loopC (F_wlvref15_group_L7 s) (0,0)=_:=this
    rw [this]
    cases s.all fun c=>decide (0<=dg c) <;> rfl
  · have : (decide ((s.length : Int) < 1) || decide ((s.length : Int) > 4)) = true := by
      rw [Bool.or_eq_true,decide_eq_true_iff,decide_eq_true_iff];omega
    rw [this,cond_true]
    have h2:(decide (1<=s.length)&&decide (s.length<=4))=false:=by
      rw [Bool.and_eq_false_iff,decide_eq_false_iff_not,decide_eq_false_iff_not];omega
    rw [h2];rfl
theorem hexV_nn (p:List Int) (h:hexGB p=true):0<=hexV p:=by
 unfold hexGB at h
 simp only [Bool.and_eq_true] at h
 have key:∀ (q:List Int) (n:Int),0<=n->(q.all fun c=>decide (0<=dg c))=true->0<=q.foldl (fun n c=>n*16+dg c) n:=fun q=>by
  induction q with
  | nil=>intro n h _;exact h
  | cons c q ih=>
   intro n hn hq
   rw [List.all_cons,Bool.and_eq_true,decide_eq_true_iff] at hq
   exact ih _ (show 0<=n*16+dg c by omega) hq.2
 exact key p 0 (by omega) h.2
theorem split_len:∀ (t:List Int) (c:Int),t.length<=1000000->(splitI t c).length<=t.length+1
 | [],_,_=>by simp [splitI]
 | x::t,c,h=>by
  have ih:=split_len t c (by simp at h;omega)
  unfold splitI
  rw [List.length_cons]
  cases x==c with
  | true=>
   show (splitI t c).length+1<=_
   omega
  | false=>
   rw [cond_false]
   cases hq:splitI t c with
   | nil=>simp
   | cons w q=>
    rw [hq] at ih
    simp at ih ⊢
    omega
def okG (t:List Int):Bool:=(partsO t).all hexGB&&decide ((partsO t).length<=8)
theorem groups_eq (t:List Int) (ht:t.length<=1000000):∃ v:List Int,F_wlvref15_groups t=some (v,okG t) /\ v.length<=18 /\ (okG t=true->v=bytesP (partsO t)):=by
  unfold F_wlvref15_groups
  by_cases h0:t=[]
  · subst h0
    exact ⟨[],rfl,by simp,fun _=>rfl⟩
  · rw [beq_eq_false_iff_ne.2 h0,cond_false,Split_eq t 58 ht,Option.bind_some]
    unfold okG
    rw [partsO_ne h0]
    obtain ⟨l,hl⟩:∃ l,splitI t 58=l:=⟨_,rfl⟩
    have hlen:l.length<=1000001:=by rw [<-hl];have:=split_len t 58 ht;omega
    rw [hl]
    obtain ⟨r,h1,h2⟩:=loop_inv (body:=F_wlvref15_groups_L8) (I:=fun st=>∃ i:Nat,st=(l,bytesP (l.take i),(i:Int)) /\ i<=l.length /\ i<=9 /\ (l.take i).all hexGB=true) (m:=fun st=>9 - st.2.2.toNat)
      (Q:=fun r=>(r=.inl ([],false) /\ l.all hexGB=false) \/ ∃ i:Nat,r=.inr (l,bytesP (l.take i)) /\ i<=9 /\ (l.take i).all hexGB=true /\ (i=l.length \/ 9<=i /\ 9<=l.length)) (fun st ⟨i,e,hi,hi9,ha⟩=>by
        subst e
        unfold F_wlvref15_groups_L8 chk
        dsimp only
        by_cases hlt:i < l.length /\ i < 9
        · have hg:=getI_nat (List.getElem?_eq_getElem hlt.1)
          rw [decide_eq_true (show (i:Int) < (l.length:Int) by omega),decide_eq_true (show (i:Int) < 9 by omega),Bool.true_and,cond_true,hg,Option.bind_some,group_eq,Option.bind_some]
          cases hx:hexGB l[i] with
          | false=>
            refine .inl ⟨_,rfl,.inl ⟨rfl,?_⟩⟩
            rw [List.all_eq_false]
            exact ⟨l[i],List.getElem_mem _,by rw [hx];simp⟩
          | true=>
            rw [cond_true]
            show (∃ r,(cond (!true) _ _)=_ /\ _) \/ ∃ s',(cond (!true) _ _)=_ /\ _
            rw [Bool.not_true,cond_false,by2_eq (hexV_nn _ hx)]
            have hck:(decide (((bytesP (l.take i)).length+(by2 (hexV l[i])).length)*1<=140737488355328)&&decide ((bytesP (l.take i)).length+(by2 (hexV l[i])).length<=maxLen))=true:=chk1 (by
              rw [bytesP_len,List.length_take]
              show _+2<=_
              omega)
            rw [hck,cond_true,wrap_in (x:=(i:Int)+1) (by omega) (by omega)]
            have htk:l.take (i+1)=l.take i++[l[i]]:=by rw [List.take_add_one,List.getElem?_eq_getElem hlt.1];rfl
            refine .inr ⟨_,rfl,⟨i+1,?_,by omega,by omega,?_⟩,?_⟩
            · rw [htk]
              have:bytesP (l.take i++[l[i]])=bytesP (l.take i)++by2 (hexV l[i]):=by
                unfold bytesP
                rw [List.flatMap_append]
                show _++(by2 (hexV l[i])++[])=_
                rw [List.append_nil]
              rw [this];rfl
            · rw [htk,List.all_append,ha,Bool.true_and]
              simpa using hx
            · show 9 - ((i:Int)+1).toNat < 9 - (i:Int).toNat
              omega
        · have : (decide ((i : Int) < (l.length : Int)) && decide ((i : Int) < 9)) = false := by
            rw [Bool.and_eq_false_iff,decide_eq_false_iff_not,decide_eq_false_iff_not];omega
          rw [this,cond_false]
          exact .inl ⟨_,rfl,.inr ⟨i,rfl,hi9,ha,by omega⟩⟩) (l,([]:List Int),0) ⟨0,rfl,by omega,by omega,rfl⟩
    rcases h2 with ⟨rfl,hf⟩ | ⟨i,rfl,hi9,ha,hc⟩
    · rw [join_inl h1,hf]
      exact ⟨[],rfl,by simp,fun h=>by cases h⟩
    · rw [join_inr h1]
      unfold F_wlvref15_groups_J6
      dsimp only
      have hbl:(bytesP (l.take i)).length<=18:=by rw [bytesP_len,List.length_take];omega
      rcases hc with rfl | ⟨h9,h9'⟩
      · rw [List.take_length] at ha hbl ⊢
        rw [ha,Bool.true_and]
        refine ⟨bytesP l,?_,hbl,fun _=>rfl⟩
        congr 2
        exact decide_eq_decide.2 (by omega)
      · rw [decide_eq_false (show ¬ (l.length:Int)<=8 by omega),decide_eq_false (show ¬ l.length<=8 by omega),Bool.and_false]
        exact ⟨bytesP (l.take i),rfl,hbl,fun h=>by cases h⟩
theorem find_done (s:List Int) (hs:s.length<=1000000) (a:Nat):∀ (r:List Int) (i:Nat),s.drop i=r->i<=s.length->loopC (F_wlvref15_eight_L4 s) ((a:Int),(i:Int))=some (.inr (a:Int))
 | [],i,hr,hi=>by
  have hie:=drop_nil' hr hi
  refine loop_inl ?_
  unfold F_wlvref15_eight_L4
  dsimp only
  rw [wrap_in (x:=(i:Int)+1) (by omega) (by omega),decide_eq_false (show ¬ (i:Int)+1 < (s.length:Int) by omega),cond_false]
 | c::r,i,hr,hi=>by
  obtain ⟨hlt,hget,hdrop⟩:=drop_cons hr
  have ih:=find_done s hs a r (i+1) hdrop (by omega)
  have ih:loopC (F_wlvref15_eight_L4 s) ((a:Int),(i:Int)+1)=some (.inr (a:Int)):=ih
  by_cases hl:i+1 < s.length
  ·refine loop_inr ?_ ih
   have hg2:getI s ((i:Int)+1)=some s[i+1]:=getI_nat (i:=i+1) (List.getElem?_eq_getElem hl)
   unfold F_wlvref15_eight_L4
   dsimp only
   rw [wrap_in (x:=(i:Int)+1) (by omega) (by omega),decide_eq_true (show (i:Int)+1 < (s.length:Int) by omega),cond_true,getI_nat hget,Option.bind_some]
   cases c==58 with
   | false=>rfl
   | true=>
    rw [cond_true,hg2,Option.bind_some,decide_eq_false (show ¬ (a:Int) < 0 by omega),Bool.and_false]
    rfl
  ·refine loop_inl ?_
   unfold F_wlvref15_eight_L4
   dsimp only
   rw [wrap_in (x:=(i:Int)+1) (by omega) (by omega),decide_eq_false (show ¬ (i:Int)+1 < (s.length:Int) by omega),cond_false]
def atI (i:Nat):Option Nat->Int
 | none=>-1
 | some j=>((i+j:Nat):Int)
theorem find_loop (s:List Int) (hs:s.length<=1000000):∀ (r:List Int) (i:Nat),s.drop i=r->i<=s.length->loopC (F_wlvref15_eight_L4 s) (-1,(i:Int))=some (.inr (atI i (dcI r)))
 | [],i,hr,hi=>by
  have hie:=drop_nil' hr hi
  refine loop_inl ?_
  unfold F_wlvref15_eight_L4
  dsimp only
  rw [wrap_in (x:=(i:Int)+1) (by omega) (by omega),decide_eq_false (show ¬ (i:Int)+1 < (s.length:Int) by omega),cond_false]
  rfl
 | c::r,i,hr,hi=>by
  obtain ⟨hlt,hget,hdrop⟩:=drop_cons hr
  have ih:loopC (F_wlvref15_eight_L4 s) (-1,(i:Int)+1)=some (.inr (atI (i+1) (dcI r))):=find_loop s hs r (i+1) hdrop (by omega)
  have hu:dcI (c::r)=cond (c==58&&r.head? == some 58) (some 0) ((dcI r).map (· + 1)):=rfl
  have hat:atI i ((dcI r).map (· + 1))=atI (i+1) (dcI r):=by
   cases dcI r with
   | none=>rfl
   | some j=>show ((i+(j+1):Nat):Int)=((i+1+j:Nat):Int);omega
  by_cases hl:i+1 < s.length
  ·have hg2:getI s ((i:Int)+1)=some s[i+1]:=getI_nat (i:=i+1) (List.getElem?_eq_getElem hl)
   have hh:r.head? = some s[i+1]:=by rw [<-hdrop,List.head?_drop,List.getElem?_eq_getElem hl]
   have hbody:F_wlvref15_eight_L4 s (-1,(i:Int))=some (.inr (cond (c==58&&s[i+1]==58) (i:Int) (-1),(i:Int)+1)):=by
    unfold F_wlvref15_eight_L4
    dsimp only
    rw [wrap_in (x:=(i:Int)+1) (by omega) (by omega),decide_eq_true (show (i:Int)+1 < (s.length:Int) by omega),cond_true,getI_nat hget,Option.bind_some]
    cases c==58 with
    | false=>rfl
    | true=>
     rw [cond_true,hg2,Option.bind_some,show decide ((-1:Int) < 0)=true from rfl,Bool.and_true,Bool.true_and]
     cases s[i+1]==58 <;> rfl
   rw [hu,hh,show ((some s[i+1]==some 58):Bool)=(s[i+1]==58) from rfl]
   cases hb:(c==58&&s[i+1]==58) with
   | true=>
    rw [hb,cond_true] at hbody
    rw [cond_true]
    refine loop_inr hbody ?_
    exact find_done s hs i r (i+1) hdrop (by omega)
   | false=>
    rw [hb,cond_false] at hbody
    rw [cond_false,hat]
    exact loop_inr hbody ih
  ·have hrn:r=[]:=by rw [<-hdrop];exact List.drop_of_length_le (by omega)
   subst hrn
   rw [hu,show (([]:List Int).head? == some 58)=false from rfl,Bool.and_false,cond_false]
   refine loop_inl ?_
   unfold F_wlvref15_eight_L4
   dsimp only
   rw [wrap_in (x:=(i:Int)+1) (by omega) (by omega),decide_eq_false (show ¬ (i:Int)+1 < (s.length:Int) by omega),cond_false]
   rfl
theorem dc_lt:∀ {s:List Int} {i:Nat},dcI s=some i->i+2<=s.length
 | [],_,h=>by cases h
 | c::r,i,h=>by
  have hu:cond (c==58&&r.head? == some 58) (some 0) ((dcI r).map (· + 1))=some i:=h
  cases hb:(c==58&&r.head? == some 58) with
  | true=>
   rw [hb,cond_true] at hu
   injection hu with hu
   rw [Bool.and_eq_true,beq_iff_eq,beq_iff_eq] at hb
   cases r with
   | nil=>cases hb.2
   | cons d r=>rw [<-hu];simp
  | false=>
   rw [hb,cond_false] at hu
   obtain ⟨j,hj,rfl⟩:=Option.map_eq_some_iff.1 hu
   have:=dc_lt hj
   simp
   omega
theorem fill_loop (a b:List Int) (h:a.length+b.length<=14):loopC F_wlvref15_eight_L20 (b,a)=some (.inr (b,a++List.replicate (16 - b.length - a.length) 0)):=by
 obtain ⟨r,h1,rfl⟩:=loop_inv (body:=F_wlvref15_eight_L20) (I:=fun st=>∃ k:Nat,st=(b,a++List.replicate k 0) /\ k<=16 - b.length - a.length) (m:=fun st=>16 - st.2.length)
  (Q:=fun r=>r=.inr (b,a++List.replicate (16 - b.length - a.length) 0)) (fun st ⟨k,e,hk⟩=>by
   subst e
   unfold F_wlvref15_eight_L20 chk
   dsimp only
   have hl:(a++List.replicate k (0:Int)).length=a.length+k:=by simp
   rw [hl,wrap_in (by omega) (by omega)]
   by_cases hlt:k < 16 - b.length - a.length
   ·rw [decide_eq_true (show ((a.length+k:Nat):Int) < 16 - (b.length:Int) by omega),cond_true,show (decide ((a.length+k+([0]:List Int).length)*1<=140737488355328)&&decide (a.length+k+([0]:List Int).length<=maxLen))=true from chk1 (by show a.length+k+1<=_;omega),cond_true]
    refine .inr ⟨_,rfl,⟨k+1,by rw [List.replicate_succ',List.append_assoc],by omega⟩,?_⟩
    rw [List.length_append]
    simp
    omega
   ·rw [decide_eq_false (show ¬ ((a.length+k:Nat):Int) < 16 - (b.length:Int) by omega),cond_false]
    refine .inl ⟨_,rfl,?_⟩
    rw [show k=16 - b.length - a.length by omega]) (b,a) ⟨0,by simp,by omega⟩
 exact h1
theorem eight_eq (s:List Int) (hs:s.length<=1000000):∃ v:List Int,F_wlvref15_eight s=some (v,(grpR [] s).isSome) /\ ∀ x,grpR [] s=some x->v=x:=by
 have hf:loopC (F_wlvref15_eight_L4 s) (-1,0)=some (.inr (atI 0 (dcI s))):=find_loop s hs s 0 rfl (by omega)
 unfold F_wlvref15_eight
 rw [join_inr hf]
 unfold F_wlvref15_eight_J2 grpR
 dsimp only
 cases hd:dcI s with
 | none=>
  show ∃ v,cond (decide ((-1:Int) < 0)) _ _=some (v,(cond ((splitI s 58).all hexGB&&(0+2*(splitI s 58).length==16)) (some ([]++bytesP (splitI s 58))) none).isSome) /\ ∀ x,cond ((splitI s 58).all hexGB&&(0+2*(splitI s 58).length==16)) (some ([]++bytesP (splitI s 58))) none=some x->v=x
  rw [show decide ((-1:Int) < 0)=true from rfl,cond_true]
  obtain ⟨v,h1,h2,h3⟩:=groups_eq s hs
  rw [h1,Option.bind_some]
  refine ⟨v,?_,?_⟩
  ·congr 2
   by_cases h0:s=[]
   ·subst h0
    have:v=[]:=h3 rfl
    subst this;rfl
   ·unfold okG at h3 ⊢
    rw [partsO_ne h0] at h3 ⊢
    cases ha:(splitI s 58).all hexGB with
    | false=>rfl
    | true=>
     rw [ha,Bool.true_and] at h3
     rw [Bool.true_and,Bool.true_and]
     by_cases h8:(splitI s 58).length<=8
     ·have:=h3 (decide_eq_true h8)
      rw [decide_eq_true h8,Bool.true_and,this,bytesP_len]
      by_cases h16:(splitI s 58).length=8
      ·rw [h16];rfl
      ·rw [beq_eq_false_iff_ne.2 (show ((2*(splitI s 58).length:Nat):Int)≠16 by omega),beq_eq_false_iff_ne.2 (show 0+2*(splitI s 58).length≠16 by omega)];rfl
     ·rw [decide_eq_false h8,Bool.false_and,beq_eq_false_iff_ne.2 (show 0+2*(splitI s 58).length≠16 by omega)];rfl
  ·intro x hx
   cases hc:((splitI s 58).all hexGB&&(0+2*(splitI s 58).length==16)) with
   | false=>rw [hc] at hx;cases hx
   | true=>
    rw [hc,cond_true,List.nil_append] at hx
    injection hx with hx
    rw [Bool.and_eq_true,beq_iff_eq] at hc
    have h0:s≠[]:=fun e=>by subst e;cases hc.1
    rw [<-hx]
    have:okG s=true:=by unfold okG;rw [partsO_ne h0,hc.1,decide_eq_true (by omega)];rfl
    rw [h3 this,partsO_ne h0]
 | some i=>
  have hi:=dc_lt hd
  have htl:(s.take i).length<=1000000:=by rw [List.length_take];omega
  have hdl:(s.drop (i+2)).length<=1000000:=by rw [List.length_drop];omega
  obtain ⟨a,a1,a2,a3⟩:=groups_eq (s.take i) htl
  obtain ⟨b,b1,b2,b3⟩:=groups_eq (s.drop (i+2)) hdl
  have e0:atI 0 (some i)=(i:Int):=by show ((0+i:Nat):Int)=_;omega
  rw [e0,decide_eq_false (show ¬ (i:Int) < 0 by omega),cond_false]
  have c1:cutI s 0 (i:Int)=some (s.take i):=by
   have:=cutI_nat (s:=s) (a:=0) (b:=i) (by omega) (by omega)
   exact this
  have c2:cutI s (IntKind.i64.wrap ((i:Int)+2)) (s.length:Int)=some (s.drop (i+2)):=by
   rw [wrap_in (by omega) (by omega)]
   have:=cutI_nat (s:=s) (a:=i+2) (b:=s.length) hi (by omega)
   rw [List.take_length] at this
   exact this
  rw [c1,Option.bind_some,a1,Option.bind_some,c2,Option.bind_some,b1,Option.bind_some]
  show ∃ v,_=some (v,(cond ((partsO (s.take i)).all hexGB&&(partsO (s.drop (i+2))).all hexGB&&decide (0+2*(partsO (s.take i)).length+2*(partsO (s.drop (i+2))).length<=14)) (some (insZ ([]++bytesP (partsO (s.take i))++bytesP (partsO (s.drop (i+2)))) (0+2*(partsO (s.take i)).length))) none).isSome) /\ ∀ x,cond ((partsO (s.take i)).all hexGB&&(partsO (s.drop (i+2))).all hexGB&&decide (0+2*(partsO (s.take i)).length+2*(partsO (s.drop (i+2))).length<=14)) (some (insZ ([]++bytesP (partsO (s.take i))++bytesP (partsO (s.drop (i+2)))) (0+2*(partsO (s.take i)).length))) none=some x->v=x
  have fail:(okG (s.take i)&&okG (s.drop (i+2))&&decide (a.length+b.length<=14))=false->((partsO (s.take i)).all hexGB&&(partsO (s.drop (i+2))).all hexGB&&decide (0+2*(partsO (s.take i)).length+2*(partsO (s.drop (i+2))).length<=14))=false:=fun h=>by
   cases hc:((partsO (s.take i)).all hexGB&&(partsO (s.drop (i+2))).all hexGB&&decide (0+2*(partsO (s.take i)).length+2*(partsO (s.drop (i+2))).length<=14)) with
   | false=>rfl
   | true=>
    simp only [Bool.and_eq_true,decide_eq_true_eq] at hc
    have ha:okG (s.take i)=true:=by unfold okG;rw [hc.1.1,decide_eq_true (by omega)];rfl
    have hb:okG (s.drop (i+2))=true:=by unfold okG;rw [hc.1.2,decide_eq_true (by omega)];rfl
    have ea:=a3 ha
    have eb:=b3 hb
    rw [ha,hb,decide_eq_true (by rw [ea,eb,bytesP_len,bytesP_len];omega)] at h
    cases h
  dsimp only
  rw [wrap_in (x:=(a.length:Int)+(b.length:Int)) (by omega) (by omega)]
  cases hA:okG (s.take i) with
  | false=>rw [fail (by rw [hA];rfl)];exact ⟨[],rfl,fun x h=>by cases h⟩
  | true=>
   cases hB:okG (s.drop (i+2)) with
   | false=>rw [fail (by rw [hB,Bool.and_false];rfl)];exact ⟨[],rfl,fun x h=>by cases h⟩
   | true=>
    by_cases h14:a.length+b.length<=14
    ·have ea:=a3 hA
     have eb:=b3 hB
     have ha14:(partsO (s.take i)).length*2+(partsO (s.drop (i+2))).length*2<=14:=by
      rw [ea,eb,bytesP_len,bytesP_len] at h14;omega
     have hca:(partsO (s.take i)).all hexGB=true:=by unfold okG at hA;exact (Bool.and_eq_true _ _ ▸ hA).1
     have hcb:(partsO (s.drop (i+2))).all hexGB=true:=by unfold okG at hB;exact (Bool.and_eq_true _ _ ▸ hB).1
     rw [hca,hcb,decide_eq_true (show 0+2*(partsO (s.take i)).length+2*(partsO (s.drop (i+2))).length<=14 by omega)]
     rw [decide_eq_false (show ¬ (a.length:Int)+(b.length:Int) > 14 by omega)]
     show ∃ v,chk (decide ((0+a.length)*1<=140737488355328)&&decide (0+a.length<=maxLen)) (joinC (loopC F_wlvref15_eight_L20 (b,[]++a)) F_wlvref15_eight_J19)=some (v,true) /\ ∀ x,some (insZ ([]++bytesP (partsO (s.take i))++bytesP (partsO (s.drop (i+2)))) (0+2*(partsO (s.take i)).length))=some x->v=x
     rw [List.nil_append,List.nil_append,join_inr (fill_loop a b h14),chk1 (by omega)]
     unfold chk F_wlvref15_eight_J19
     dsimp only
     have hl:(a++List.replicate (16 - b.length - a.length) (0:Int)).length=16 - b.length:=by simp;omega
     rw [cond_true,hl]
     unfold chk
     rw [chk1 (by omega),cond_true]
     refine ⟨_,rfl,fun x hx=>?_⟩
     injection hx with hx
     rw [<-hx,<- ea,<- eb]
     unfold insZ
     have e2:0+2*(partsO (s.take i)).length=a.length:=by rw [ea,bytesP_len];omega
     rw [e2,List.take_left,List.drop_left,List.length_append,show 16 - (a.length+b.length)=16 - b.length - a.length by omega]
    ·rw [fail (by rw [decide_eq_false h14,Bool.and_false]),decide_eq_true (show (a.length:Int)+(b.length:Int) > 14 by omega),Bool.or_true]
     exact ⟨[],rfl,fun x h=>by cases h⟩
def preM:List Int:=[0,0,0,0,0,0,0,0,0,0,255,255]
def plainR (x:List Int):List Int:=cond (decide (12<=x.length)&&(x.take 12==preM)) (x.drop 12) x
theorem Plain_eq (s:List Int) (hs:s.length<=1000000):F_addr_Plain s=some (plainR s):=by
 have hp:=prefix_lit s preM hs
 unfold F_strings_HasPrefix at hp
 have hp2:F_internal_stringslite_HasPrefix s preM=some (decide (preM.length<=s.length)&&(s.take preM.length==preM)):=by
  cases hq:F_internal_stringslite_HasPrefix s preM with
  | none=>rw [hq] at hp;cases hp
  | some b=>rw [hq] at hp;exact hp
 unfold F_addr_Plain F_strings_TrimPrefix F_internal_stringslite_TrimPrefix
 show (((F_internal_stringslite_HasPrefix s preM).bind _).bind _).bind _=_
 rw [hp2,Option.bind_some]
 unfold plainR
 have e12:preM.length=12:=rfl
 rw [e12]
 cases hb:(decide (12<=s.length)&&(s.take 12==preM)) with
 | false=>rfl
 | true=>
  rw [Bool.and_eq_true,decide_eq_true_iff] at hb
  rw [cond_true,cond_true]
  have h:=cutI_nat (s:=s) (a:=12) (b:=s.length) hb.1 (by omega)
  rw [List.take_length] at h
  have h:cutI s (([0,0,0,0,0,0,0,0,0,0,255,255]:List Int).length:Int) (s.length:Int)=some (s.drop 12):=h
  rw [h];rfl
theorem Mapped_eq (s:List Int) (hl:s.length=16):F_wlvref15_Mapped s=some (s.take 12==preM):=by
 unfold F_wlvref15_Mapped
 have h:=cutI_nat (s:=s) (a:=0) (b:=12) (by omega) (by omega)
 have h:cutI s 0 12=some (s.take 12):=h
 rw [beq_iff_eq.2 (show (s.length:Int)=16 by omega),cond_true,h,Option.bind_some]
 rfl
def sumPa (l:List (List Int)):Nat:=l.foldr (fun p n=>p.length+1+n) 0
theorem split_sum:∀ (t:List Int) (c:Int),sumPa (splitI t c)=t.length+1
 | [],_=>rfl
 | x::t,c=>by
  have ih:=split_sum t c
  unfold splitI
  cases x==c with
  | true=>
   show 0+1+sumPa (splitI t c)=_
   rw [ih,List.length_cons];omega
  | false=>
   rw [cond_false]
   have hne:=splitI_ne t c
   cases hq:splitI t c with
   | nil=>exact absurd hq hne
   | cons w q=>
    rw [hq] at ih
    have ih:w.length+1+sumPa q=t.length+1:=ih
    show (x::w).length+1+sumPa q=_
    rw [List.length_cons,List.length_cons];omega
theorem sum_hex:∀ l:List (List Int),l.all hexGB=true->sumPa l<=5*l.length
 | [],_=>by simp [sumPa]
 | p::l,h=>by
  rw [List.all_cons,Bool.and_eq_true] at h
  have ih:=sum_hex l h.2
  have h4:p.length<=4:=by
   have:=h.1
   unfold hexGB at this
   simp only [Bool.and_eq_true,decide_eq_true_eq] at this
   exact this.1.2
  show p.length+1+sumPa l<=5*(l.length+1)
  omega
theorem parts_hex (t:List Int) (h:(partsO t).all hexGB=true):t.length<=5*(partsO t).length:=by
 by_cases h0:t=[]
 ·subst h0;simp
 ·rw [partsO_ne h0] at h ⊢
  have h1:=sum_hex _ h
  rw [split_sum] at h1
  omega
theorem grp_16 {s x:List Int} (h:grpR [] s=some x):x.length=16 /\ s.length<=50:=by
 unfold grpR at h
 split at h
 ·cases hc:((splitI s 58).all hexGB&&(([]:List Int).length+2*(splitI s 58).length==16)) with
  | false=>rw [hc] at h;cases h
  | true=>
   rw [hc,cond_true] at h
   injection h with h
   rw [Bool.and_eq_true,beq_iff_eq] at hc
   have h2:0+2*(splitI s 58).length=16:=hc.2
   have h1:=sum_hex _ hc.1
   rw [split_sum] at h1
   refine ⟨?_,by omega⟩
   rw [<-h,List.nil_append,bytesP_len]
   omega
 ·rename_i i hd
  have hi:=dc_lt hd
  cases hc:((partsO (s.take i)).all hexGB&&(partsO (s.drop (i+2))).all hexGB&&decide (([]:List Int).length+2*(partsO (s.take i)).length+2*(partsO (s.drop (i+2))).length<=14)) with
  | false=>rw [hc] at h;cases h
  | true=>
   rw [hc,cond_true] at h
   injection h with h
   simp only [Bool.and_eq_true,decide_eq_true_eq] at hc
   have h2:0+2*(partsO (s.take i)).length+2*(partsO (s.drop (i+2))).length<=14:=hc.2
   have h3:=parts_hex _ hc.1.1
   have h4:=parts_hex _ hc.1.2
   rw [List.length_take] at h3
   rw [List.length_drop] at h4
   have e1:([]++bytesP (partsO (s.take i))++bytesP (partsO (s.drop (i+2)))).length=2*(partsO (s.take i)).length+2*(partsO (s.drop (i+2))).length:=by
    rw [List.nil_append,List.length_append,bytesP_len,bytesP_len]
   refine ⟨?_,by omega⟩
   rw [<-h]
   exact insZ_len (by rw [e1];show 0+_<=_;omega) (by rw [e1];omega)
noncomputable def parseR (s:List Int):List Int×Int:=cond (fourR s).2 ((fourR s).1,0) (match grpR [] s with | some x=>(plainR x,0) | none=>([],2))
theorem Parse_eq (s:List Int) (hs:s.length<=1000000):F_addr_Parse s=some (parseR s):=by
 unfold F_addr_Parse parseR
 rw [dotted_eq s hs,Option.bind_some]
 cases h4:(fourR s).2 with
 | true=>rfl
 | false=>
  rw [Bool.not_false,cond_true,cond_false]
  have hr:=coloned_rel s hs
  rw [colR_eq] at hr
  cases hg:grpR [] s with
  | some x=>
   rw [hg] at hr
   have hr:F_addr_coloned s=some (x,true):=hr
   rw [hr,Option.bind_some,Plain_eq x (by have:=(grp_16 hg).1;omega)]
   rfl
  | none=>
   rw [hg] at hr
   obtain ⟨v,hv,hl⟩:=hr
   rw [hv,Option.bind_some,Plain_eq v (by omega)]
   rfl
theorem refParse_eq (s:List Int) (hs:s.length<=1000000):F_wlvref15_Parse s=some (parseR s):=by
 unfold F_wlvref15_Parse parseR
 by_cases h50:(s.length:Int) > 50
 ·rw [decide_eq_true h50,cond_true]
  cases h4:(fourR s).2 with
  | true=>have:=(four_len h4).1;omega
  | false=>
   rw [cond_false]
   cases hg:grpR [] s with
   | some x=>have:=(grp_16 hg).2;omega
   | none=>rfl
 ·rw [decide_eq_false h50,cond_false,four_eq s hs,Option.bind_some]
  cases h4:(fourR s).2 with
  | true=>rfl
  | false=>
   rw [cond_false,cond_false]
   obtain ⟨v,h1,h2⟩:=eight_eq s hs
   rw [h1,Option.bind_some]
   cases hg:grpR [] s with
   | none=>rfl
   | some x=>
    have hv:=h2 x hg
    subst hv
    have h16:=(grp_16 hg).1
    show cond (!true) _ ((F_wlvref15_Mapped v).bind _)=_
    rw [Bool.not_true,cond_false,Mapped_eq v h16,Option.bind_some]
    show (cond (v.take 12==preM) ((cutI v 12 (v.length:Int)).bind fun s5=>some (s5,(0:Int))) (some (v,0)))=some (cond (decide (12<=v.length)&&(v.take 12==preM)) (v.drop 12) v,(0:Int))
    rw [decide_eq_true (show 12<=v.length by omega),Bool.true_and]
    cases v.take 12==preM with
    | false=>rfl
    | true=>
     have h:=cutI_nat (s:=v) (a:=12) (b:=v.length) (by omega) (by omega)
     rw [List.take_length] at h
     have h:cutI v 12 (v.length:Int)=some (v.drop 12):=h
     show (cutI v 12 (v.length:Int)).bind _=_
     rw [h];rfl
theorem maxI0 (n:Int):maxI n 0=(n.toNat:Int):=by
 unfold maxI
 by_cases h:(0:Int) > n
 ·rw [decide_eq_true h,cond_true];omega
 ·rw [decide_eq_false h,cond_false];omega
theorem Dec_fuel_eq:∀ (k:Nat) (n:Int),n < 10 ^ (k+1)->n<=9223372036854775807->F_wlvref_Dec_fuel (k+1) n=some (dgs n.toNat):=fun k=>by
 induction k with
 | zero=>
  intro n h h2
  show F_wlvref_Dec_step (F_wlvref_Dec_fuel 0) n=_
  unfold F_wlvref_Dec_step
  have h:n < 10:=h
  rw [decide_eq_true h,cond_true,dgs_one (by omega)]
  rw [maxI0,wrap_in (by omega) (by omega),u8_in (by omega) (by omega)]
 | succ k ih=>
  intro n h h2
  show F_wlvref_Dec_step (F_wlvref_Dec_fuel (k+1)) n=_
  unfold F_wlvref_Dec_step
  by_cases h10:n < 10
  ·rw [decide_eq_true h10,cond_true,dgs_one (by omega)]
   rw [maxI0,wrap_in (by omega) (by omega),u8_in (by omega) (by omega)]
  ·have e1:Int.tdiv n 10=n / 10:=Int.tdiv_eq_ediv_of_nonneg (by omega)
   have e2:Int.tmod n 10=n % 10:=Int.tmod_eq_emod_of_nonneg (by omega)
   rw [decide_eq_false h10,cond_false,e1,e2,wrap_in (x:=n / 10) (by omega) (by omega)]
   rw [ih (n / 10) (by rw [Int.pow_succ] at h;omega) (by omega),Option.bind_some]
   have hl:=dgs_len 18 (n / 10).toNat (by
    have:(10:Nat) ^ (18+1)=10000000000000000000:=by decide
    omega)
   have hb:∀ a:Int,Nat.ble ((dgs (n / 10).toNat).length+([a]:List Int).length) maxLen=true:=fun a=>Nat.ble_eq_true_of_le (by
    have:maxLen=9223372036854775807:=rfl
    simp
    omega)
   unfold chk
   rw [hb,cond_true,wrap_in (by omega) (by omega),u8_in (by omega) (by omega),dgs_more (n:=n.toNat) (by omega)]
   rw [show (n / 10).toNat=n.toNat / 10 by omega,show n % 10=((n.toNat % 10:Nat):Int) by omega]
theorem Dec_eq (n:Int) (h2:n<=9223372036854775807):F_wlvref_Dec n=some (dgs n.toNat):=
  Dec_fuel_eq 63 n (by have : (10 : Int) ^ (63 + 1) = 10000000000000000000000000000000000000000000000000000000000000000 := by decide
                       omega) h2
theorem sg_spec (c:Int):sg c=if 65<=c /\ c<=90 then c+32 else if (97<=c /\ c<=122) \/ (48<=c /\ c<=57) \/ c=45 \/ c=95 then c else 0:=by
 have h:=sign_eq c
 unfold F_host_sign at h
 by_cases h1:65<=c /\ c<=90
 ·rw [decide_eq_true h1.1,decide_eq_true h1.2,u8_in (x:=c+97) (by omega) (by omega),u8_in (by omega) (by omega)] at h
  have h:some (c+97 - 65)=some (sg c):=h
  injection h with h
  rw [if_pos h1]
  omega
 ·have e1:(decide (c >= 65)&&decide (c<=90))=false:=by simp;omega
  rw [e1,cond_false] at h
  rw [if_neg h1]
  by_cases h2:97<=c /\ c<=122
  ·rw [decide_eq_true h2.1,decide_eq_true h2.2] at h
   have h:some c=some (sg c):=h
   injection h with h
   rw [if_pos (.inl h2)]
   exact h.symm
  ·have e2:(decide (c >= 97)&&decide (c<=122))=false:=by simp;omega
   rw [e2,cond_false] at h
   by_cases h3:48<=c /\ c<=57
   ·rw [decide_eq_true h3.1,decide_eq_true h3.2] at h
    have h:some c=some (sg c):=h
    injection h with h
    rw [if_pos (.inr (.inl h3))]
    exact h.symm
   ·have e3:(decide (c >= 48)&&decide (c<=57))=false:=by simp;omega
    rw [e3,cond_false] at h
    by_cases h4:c=45
    ·subst h4
     exact (by kernel_rfl:sg 45=45)
    ·rw [beq_eq_false_iff_ne.2 h4,cond_false] at h
     by_cases h5:c=95
     ·subst h5
      exact (by kernel_rfl:sg 95=95)
     ·rw [beq_eq_false_iff_ne.2 h5,cond_false] at h
      have h:some (0:Int)=some (sg c):=h
      injection h with h
      rw [if_neg (by omega)]
      exact h.symm
noncomputable def lowI (c:Int):Int:=cond (c==46) 46 (sg c)
theorem name_some:∀ (s out:List Int) (n:Nat) (b:List Int),nameP out n s=some b->b=out++s.map lowI /\ (∀ c∈s,c=46 \/ sg c≠0) /\ (n=0->s≠[])
 | [],out,n,b,h=>by
  rw [nameP] at h
  cases he:endsB out n with
  | true=>rw [he] at h;cases h
  | false=>
   rw [he] at h
   have h:some out=some b:=h
   injection h with h
   refine ⟨by simp [h],by simp,fun h0=>?_⟩
   subst h0
   cases he
 | c::s,out,n,b,h=>by
  rw [nameP] at h
  cases h46:c==46 with
  | true=>
   rw [h46,cond_true] at h
   have hc:=beq_iff_eq.1 h46
   cases he:endsB out n with
   | true=>rw [he] at h;cases h
   | false=>
    rw [he,cond_false] at h
    obtain ⟨h1,h2,_⟩:=name_some s _ _ _ h
    refine ⟨by rw [h1,List.append_assoc,List.map_cons];congr 1;show 46::_=lowI c::_;unfold lowI;rw [h46];rfl,fun x hx=>?_,fun _=>by simp⟩
    rcases List.mem_cons.1 hx with rfl | hx
    ·exact .inl hc
    ·exact h2 x hx
  | false=>
   rw [h46,cond_false] at h
   cases hb:(sg c==0||n==63||(sg c==45&&n==0)) with
   | true=>rw [hb] at h;cases h
   | false=>
    rw [hb,cond_false] at h
    obtain ⟨h1,h2,_⟩:=name_some s _ _ _ h
    refine ⟨by rw [h1,List.append_assoc,List.map_cons];congr 1;show sg c::_=lowI c::_;unfold lowI;rw [h46];rfl,fun x hx=>?_,fun _=>by simp⟩
    rcases List.mem_cons.1 hx with rfl | hx
    ·right
     rw [Bool.or_assoc,Bool.or_eq_false_iff] at hb
     exact beq_eq_false_iff_ne.1 hb.1
    ·exact h2 x hx
def isB (x:Int):Prop:=0<=x /\ x < 256
def bitI (x:Int) (j:Nat):Int:=x / 2 ^ (7 - j) % 2
def bitAt (s:List Int) (i:Nat):Int:=bitI (s.getD (i / 8) 0) (i % 8)
def keepB (x:Int) (k:Nat):Int:=x / 2 ^ (8 - k)*2 ^ (8 - k)
def nbits (b:Int) (i:Nat):Nat:=min (b - 8*i).toNat 8
def keptL (b:Int):Nat->List Int->List Int
 | _,[]=>[]
 | i,x::r=>keepB x (nbits b i)::keptL b (i+1) r
theorem mask_all:(List.range 256).all (fun x=>(List.range 9).all fun k=>bits .and .u8 (x:Int) (IntKind.u8.wrap (Int.fdiv 65280 (2 ^ (min k 64))))==keepB x k)=true:=by kernel_rfl
theorem mask_eq {x:Int} (hx:isB x) {k:Nat} (hk:k<=8):bits .and .u8 x (IntKind.u8.wrap (Int.fdiv 65280 (2 ^ (min k 64))))=keepB x k:=by
 have h:=List.all_eq_true.1 (List.all_eq_true.1 mask_all x.toNat (List.mem_range.2 (by obtain ⟨_,_⟩:=hx;omega))) k (List.mem_range.2 (by omega))
 have e:((x.toNat:Nat):Int)=x:=Int.toNat_of_nonneg hx.1
 rw [e] at h
 exact beq_iff_eq.1 h
theorem nb_eq (b:Int) (i:Nat) (hb : -1000000<=b /\ b<=1000000) (hi:i<=1000000):(minI (maxI (IntKind.i64.wrap (b - (IntKind.i64.wrap (8*(i:Int))))) 0) 8)=(nbits b i:Int):=by
 rw [wrap_in (x:=8*(i:Int)) (by omega) (by omega),wrap_in (by omega) (by omega)]
 unfold minI maxI nbits
 by_cases h:(0:Int) > b - 8*i
 ·rw [decide_eq_true h,cond_true,decide_eq_false (by omega),cond_false];omega
 ·rw [decide_eq_false h,cond_false]
  by_cases h8:(8:Int) < b - 8*i
  ·rw [decide_eq_true h8,cond_true];omega
  ·rw [decide_eq_false h8,cond_false];omega
theorem set_mid (pre:List Int) (x v:Int) (r:List Int):(pre++x::r).set pre.length v=pre++v::r:=by
 rw [List.set_append_right _ _ (Nat.le_refl _),Nat.sub_self];rfl
theorem kept_loop (s:List Int) (b:Int) (hb : -1000000<=b /\ b<=1000000) (hs:s.length<=1000000):∀ (r pre:List Int),s.length=pre.length+r.length->(∀ x∈r,isB x)->loopC (F_addr_kept_L4 s b) ((pre.length:Int),pre++r)=some (.inr (pre++keptL b pre.length r))
 | [],pre,hl,_=>by
  refine loop_inl ?_
  unfold F_addr_kept_L4
  dsimp only
  rw [decide_eq_false (by rw [hl];simp),cond_false]
  rfl
 | x::r,pre,hl,hr=>by
  have hl':s.length=pre.length+(r.length+1):=hl
  have ih:=kept_loop s b hb hs r (pre++[keepB x (nbits b pre.length)]) (by rw [List.length_append];simp;omega) (fun y hy=>hr y (List.mem_cons_of_mem _ hy))
  refine loop_inr (s':=(((pre++[keepB x (nbits b pre.length)]).length:Int),(pre++[keepB x (nbits b pre.length)])++r)) ?_ (ih.trans ?_)
  ·unfold F_addr_kept_L4 chk
   dsimp only
   have h1:(decide ((0:Int)<=(pre.length:Int))&&decide ((pre.length:Int) < (s.length:Int)))=true:=by simp;omega
   have h2:decide ((pre.length:Int) < (s.length:Int))=true:=decide_eq_true (by omega)
   have hg:getI (pre++x::r) (pre.length:Int)=some x:=getI_nat (by simp)
   have h3:decide ((pre.length:Int) < ((pre++x::r).length:Int))=true:=decide_eq_true (by rw [List.length_append,List.length_cons];omega)
   rw [h1,h2,cond_true,cond_true,hg,Option.bind_some,nb_eq b pre.length hb (by omega),decide_eq_true (show (0:Int)<=(nbits b pre.length:Int) by omega),cond_true,cond_true,h3,cond_true]
   rw [Int.toNat_natCast,Int.toNat_natCast,mask_eq (hr x List.mem_cons_self) (show nbits b pre.length<=8 by unfold nbits;omega),set_mid,wrap_in (by omega) (by omega)]
   have e:((pre++[keepB x (nbits b pre.length)]).length:Int)=(pre.length:Int)+1:=by rw [List.length_append];simp
   rw [e,List.append_assoc];rfl
  ·rw [show (pre++[keepB x (nbits b pre.length)]).length=pre.length+1 by simp,List.append_assoc]
   rfl
theorem keptL_len (b:Int):∀ (r:List Int) (i:Nat),(keptL b i r).length=r.length
 | [],_=>rfl
 | _::r,i=>by show (keptL b (i+1) r).length+1=_;rw [keptL_len b r];rfl
theorem kept_eq (s:List Int) (b:Int) (hb : -1000000<=b /\ b<=1000000) (hs:s.length<=1000000) (hB:∀ x∈s,isB x):F_addr_kept s b=some (keptL b 0 s):=by
 have h:loopC (F_addr_kept_L4 s b) (0,s)=some (.inr (keptL b 0 s)):=kept_loop s b hb hs s [] (by simp) hB
 unfold F_addr_kept
 rw [join_inr (s:=keptL b 0 s) h]
 unfold F_addr_kept_J2
 dsimp only
 have hl:=keptL_len b s 0
 rw [show Nat.ble s.length (List.length (keptL b 0 s))=true from Nat.ble_eq_true_of_le (Nat.le_of_eq hl.symm)]
 unfold chk
 rw [cond_true,List.take_of_length_le (Nat.le_of_eq hl)]
theorem pow_half (k:Nat) (hk:k<=7) (x:Int):x / 2 ^ (8 - k)=x / 2 ^ (7 - k) / 2:=by
 have hp:(0:Int) < 2 ^ (7 - k):=Int.pow_pos (by decide)
 rw [show 8 - k=(7 - k)+1 by omega,Int.pow_succ]
 exact (Int.ediv_ediv_of_nonneg (by omega)).symm
theorem div_iff {x y:Int} (hx:isB x) (hy:isB y):∀ k:Nat,k<=8->(x / 2 ^ (8 - k)=y / 2 ^ (8 - k) ↔ ∀ j,j < k->bitI x j=bitI y j)
 | 0,_=>by
  obtain ⟨a,b⟩:=hx
  obtain ⟨c,d⟩:=hy
  refine ⟨fun _ j hj=>absurd hj (Nat.not_lt_zero j),fun _=>?_⟩
  show x / 256=y / 256
  omega
 | k+1,hk=>by
  have ih:=div_iff hx hy k (by omega)
  have px:=pow_half k (by omega) x
  have py:=pow_half k (by omega) y
  have hsub:8 - (k+1)=7 - k:=by omega
  rw [hsub]
  constructor
  ·intro h j hj
   rcases Nat.lt_or_eq_of_le (Nat.le_of_lt_succ hj) with hlt | rfl
   ·exact ih.1 (by rw [px,py,h]) j hlt
   ·unfold bitI;rw [h]
  ·intro h
   have h1:=ih.2 fun j hj=>h j (by omega)
   have h2:=h k (by omega)
   unfold bitI at h2
   rw [px,py] at h1
   omega
theorem keepB_iff {x y:Int} (hx:isB x) (hy:isB y) (k:Nat) (hk:k<=8):keepB x k=keepB y k ↔ ∀ j,j < k->bitI x j=bitI y j:=by
 rw [<-div_iff hx hy k hk]
 unfold keepB
 have hp:(0:Int) < 2 ^ (8 - k):=Int.pow_pos (by decide)
 exact ⟨fun h=>Int.eq_of_mul_eq_mul_right (by omega) h,fun h=>by rw [h]⟩
theorem kept_iff (b:Int):∀ (s t:List Int) (i:Nat),s.length=t.length->(∀ x∈s,isB x)->(∀ x∈t,isB x)->(keptL b i s=keptL b i t ↔ ∀ j:Nat,j < 8*s.length->((8*i+j:Nat):Int) < b->bitAt s j=bitAt t j)
 | [],[],i,_,_,_=>⟨fun _ j hj=>by simp at hj,fun _=>rfl⟩
 | [],_::_,_,h,_,_=>by cases h
 | _::_,[],_,h,_,_=>by cases h
 | x::s,y::t,i,hl,hs,ht=>by
  have ih:=kept_iff b s t (i+1) (by simpa using hl) (fun x hx=>hs x (List.mem_cons_of_mem _ hx)) (fun x hx=>ht x (List.mem_cons_of_mem _ hx))
  have hk:=keepB_iff (hs x List.mem_cons_self) (ht y List.mem_cons_self) (nbits b i) (by unfold nbits;omega)
  have hat:∀ (z:Int) (u:List Int) (j:Nat),bitAt (z::u) (j+8)=bitAt u j:=fun z u j=>by
   unfold bitAt
   rw [show (j+8) / 8=j / 8+1 by omega,show (j+8) % 8=j % 8 by omega]
   rfl
  have ha0:∀ (z:Int) (u:List Int) (j:Nat),j < 8->bitAt (z::u) j=bitI z j:=fun z u j hj=>by
   unfold bitAt
   rw [show j / 8=0 by omega,show j % 8=j by omega]
   rfl
  show keepB x (nbits b i)::keptL b (i+1) s=keepB y (nbits b i)::keptL b (i+1) t↔_
  rw [List.cons.injEq,hk,ih,List.length_cons]
  constructor
  ·rintro ⟨h1,h2⟩ j hj hb
   rcases Nat.lt_or_ge j 8 with h8 | h8
   ·rw [ha0 x s j h8,ha0 y t j h8]
    exact h1 j (by unfold nbits;omega)
   ·obtain ⟨j',rfl⟩:∃ j',j=j'+8:=⟨j - 8,by omega⟩
    rw [hat,hat]
    exact h2 j' (by omega) (by omega)
  ·intro h
   refine ⟨fun j hj=>?_,fun j hj hb=>?_⟩
   ·have hj8:j < 8:=by unfold nbits at hj;omega
    have:=h j (by omega) (by unfold nbits at hj;omega)
    rwa [ha0 x s j hj8,ha0 y t j hj8] at this
   ·have:=h (j+8) (by omega) (by omega)
    rwa [hat,hat] at this
def lw (c:Int):Int:=if 65<=c /\ c<=90 then c+32 else c
def okHc (c:Int):Bool:=(decide (97<=c)&&decide (c<=122))||(decide (48<=c)&&decide (c<=57))||c==45||c==95
def labB (w:List Int):Bool:=decide (1<=w.length)&&decide (w.length<=63) && !(w.head? == some 45) && !(w.getLast? == some 45)&&w.all okHc
theorem okHc_iff (c:Int):okHc c=true↔(97<=c /\ c<=122) \/ (48<=c /\ c<=57) \/ c=45 \/ c=95:=by
 unfold okHc
 simp only [Bool.or_eq_true,Bool.and_eq_true,decide_eq_true_eq,beq_iff_eq]
 omega
theorem sg_lw (c:Int) (h46:c≠46):(sg c≠0->sg c=lw c /\ okHc (lw c)=true) /\ (sg c=0->okHc (lw c)=false):=by
 rw [sg_spec]
 unfold lw
 by_cases h1:65<=c /\ c<=90
 ·rw [if_pos h1,if_pos h1]
  exact ⟨fun _=>⟨rfl,(okHc_iff _).2 (by omega)⟩,fun h=>by omega⟩
 ·rw [if_neg h1,if_neg h1]
  by_cases h2:(97<=c /\ c<=122) \/ (48<=c /\ c<=57) \/ c=45 \/ c=95
  ·rw [if_pos h2]
   exact ⟨fun _=>⟨rfl,(okHc_iff _).2 h2⟩,fun h=>by omega⟩
  ·rw [if_neg h2]
   refine ⟨fun h=>absurd rfl h,fun _=>?_⟩
   cases hk:okHc c with
   | false=>rfl
   | true=>exact absurd ((okHc_iff _).1 hk) h2
theorem lw_46 {c:Int} (h:c≠46):lw c≠46:=by unfold lw;split <;> omega
theorem split_c (x:Int) (r:List Int) (h:x≠46):∃ p ps,splitI r 46=p::ps /\ splitI (x::r) 46=(x::p)::ps:=by
 have hne:=splitI_ne r 46
 cases hq:splitI r 46 with
 | nil=>exact absurd hq hne
 | cons p ps=>
  refine ⟨p,ps,rfl,?_⟩
  have:splitI (x::r) 46=cond (x==46) ([]::splitI r 46) (match splitI r 46 with | []=>[[x]] | w::q=>(x::w)::q):=rfl
  rw [this,beq_eq_false_iff_ne.2 h,cond_false,hq]
structure Pre (w:List Int) (out:List Int):Prop where
 len:w.length<=63
 head:w.head? ≠ some 45
 ok:w.all okHc=true
 last:w≠[]->out.getLast? = w.getLast?
theorem lab_ext {w p:List Int} {c:Int} (h:(w.all okHc&&okHc c)=false):labB (w++c::p)=false:=by
 have h2:(w++c::p).all okHc=false:=by rw [List.all_append,List.all_cons,<- Bool.and_assoc,h,Bool.false_and]
 unfold labB
 rw [h2,Bool.and_false]
theorem nameP_eq:∀ (r out w:List Int),Pre w out -> ∀ p ps,splitI (r.map lw) 46=p::ps->nameP out w.length r=cond (labB (w++p)&&ps.all labB) (some (out++r.map lw)) none
  | [],out,w,hP,p,ps,hs=>by
    have hs:([[]]:List (List Int))=p::ps:=hs
    injection hs with h1 h2
    subst h1;subst h2
    rw [nameP,List.append_nil]
    show cond (endsB out w.length) none (some out)=cond (labB w&&true) (some (out++[])) none
    rw [Bool.and_true,List.append_nil]
    unfold endsB labB
    cases w with
    | nil=>rfl
    | cons x w=>
      have hh:=hP.head
      have hl:=hP.last (by simp)
      rw [hl,hP.ok,decide_eq_true hP.len,beq_eq_false_iff_ne.2 hh,decide_eq_true (show 1<=(x::w).length by simp),beq_eq_false_iff_ne.2 (show (x::w).length≠0 by simp)]
      cases ((x::w).getLast? == some 45) <;> rfl
  | c::r,out,w,hP,p,ps,hs=>by
    rw [nameP]
    by_cases h46:c=46
    · subst h46
      have e:splitI ((46::r).map lw) 46=[]::splitI (r.map lw) 46:=rfl
      rw [e] at hs
      injection hs with h1 h2
      subst h1;subst h2
      rw [show ((46:Int)==46)=true from rfl,cond_true,List.append_nil]
      have hne:=splitI_ne (r.map lw) 46
      cases hq:splitI (r.map lw) 46 with
      | nil=>exact absurd hq hne
      | cons p' ps'=>
        have ih:=nameP_eq r (out++[46]) [] ⟨by simp,by simp,rfl,fun h=>absurd rfl h⟩ p' ps' hq
        have ih:nameP (out++[46]) 0 r=cond (labB p'&&ps'.all labB) (some ((out++[46])++r.map lw)) none:=ih
        rw [ih,List.all_cons]
        have hb:labB w = !(endsB out w.length):=by
          unfold endsB labB
          cases w with
          | nil=>rfl
          | cons x w=>
            have hh:=hP.head
            have hl:=hP.last (by simp)
            rw [hl,hP.ok,decide_eq_true hP.len,beq_eq_false_iff_ne.2 hh,decide_eq_true (show 1<=(x::w).length by simp),beq_eq_false_iff_ne.2 (show (x::w).length≠0 by simp)]
            cases ((x::w).getLast? == some 45) <;> rfl
        rw [hb]
        cases endsB out w.length with
        | true=>rfl
        | false=>
          rw [cond_false,Bool.not_false,Bool.true_and,List.append_assoc]
          rfl
    · have hx:=lw_46 h46
      obtain ⟨p',ps',hq,hs'⟩:=split_c (lw c) (r.map lw) hx
      have hs:splitI (lw c::r.map lw) 46=p::ps:=hs
      rw [hs'] at hs
      injection hs with h1 h2
      subst h1;subst h2
      obtain ⟨g1,g2⟩:=sg_lw c h46
      rw [beq_eq_false_iff_ne.2 h46,cond_false]
      by_cases hz:sg c=0
      · rw [beq_iff_eq.2 hz,Bool.true_or,Bool.true_or,cond_true,lab_ext (by rw [g2 hz,Bool.and_false]),Bool.false_and,cond_false]
      · obtain ⟨e1,e2⟩:=g1 hz
        rw [beq_eq_false_iff_ne.2 hz,Bool.false_or]
        by_cases h63:w.length=63
        · rw [beq_iff_eq.2 h63,Bool.true_or,cond_true]
          have:labB (w++lw c::p')=false:=by
            unfold labB
            rw [decide_eq_false (show ¬ (w++lw c::p').length<=63 by rw [List.length_append,List.length_cons];omega),Bool.and_false];rfl
          rw [this];rfl
        · rw [beq_eq_false_iff_ne.2 h63,Bool.false_or]
          by_cases hd:sg c=45 /\ w.length=0
          · rw [beq_iff_eq.2 hd.1,beq_iff_eq.2 hd.2,Bool.and_self,cond_true]
            have hw:w=[]:=List.eq_nil_of_length_eq_zero hd.2
            have:labB (w++lw c::p')=false:=by
              subst hw
              unfold labB
              rw [<-e1,hd.1]
              simp
            rw [this];rfl
          · have : (sg c == 45 && w.length == 0) = false := by
              rw [Bool.and_eq_false_iff,beq_eq_false_iff_ne,beq_eq_false_iff_ne]
              by_cases h:sg c=45
              · exact .inr fun h2=>hd ⟨h,h2⟩
              · exact .inl h
            rw [this,cond_false,e1]
            have hP':Pre (w++[lw c]) (out++[lw c]):=by
              refine ⟨by have:=hP.len;rw [List.length_append];simp;omega,?_,by rw [List.all_append,hP.ok];simpa using e2,fun _=>by simp⟩
              cases w with
              | nil=>
                intro h
                have:lw c=45:=by simpa using h
                exact hd ⟨by rw [e1,this],rfl⟩
              | cons x w=>exact hP.head
            have ih:=nameP_eq r (out++[lw c]) (w++[lw c]) hP' p' ps' hq
            rw [List.length_append] at ih
            rw [show w.length+1=w.length+[lw c].length from rfl,ih,List.append_assoc,List.append_assoc]
            rfl
noncomputable def nameQ (s:List Int):List Int×Int:=cond (decide (1<=s.length)&&decide (s.length<=253)&&(splitI (s.map lw) 46).all labB) (s.map lw,0) ([],2)
theorem nameR_eq (s:List Int):nameR s=nameQ s:=by
 unfold nameR nameQ
 have hne:=splitI_ne (s.map lw) 46
 cases hq:splitI (s.map lw) 46 with
 | nil=>exact absurd hq hne
 | cons p ps=>
  have h:=nameP_eq s [] [] ⟨by simp,by simp,rfl,fun h=>absurd rfl h⟩ p ps hq
  have h:nameP [] 0 s=cond (labB p&&ps.all labB) (some (s.map lw)) none:=h
  rw [h,List.all_cons]
  by_cases h253:253 < s.length
  ·rw [decide_eq_true h253,decide_eq_false (show ¬ s.length<=253 by omega),Bool.and_false];rfl
  ·rw [decide_eq_false h253,cond_false,decide_eq_true (show s.length<=253 by omega)]
   by_cases h1:1<=s.length
   ·rw [decide_eq_true h1,Bool.true_and,Bool.true_and]
    cases (labB p&&ps.all labB) <;> rfl
   ·have:s=[]:=List.eq_nil_of_length_eq_zero (by omega)
    subst this
    have hq:([[]]:List (List Int))=p::ps:=hq
    injection hq with q1 q2
    subst q1;subst q2
    rfl
theorem lower_loop (s:List Int) (hs:s.length<=1000000):∀ (r pre:List Int),s.length=pre.length+r.length->loopC (F_wlvref_Lower_L4 s) ((pre.length:Int),pre++r)=some (.inr (pre++r.map lw))
 | [],pre,hl=>by
  refine loop_inl ?_
  unfold F_wlvref_Lower_L4
  dsimp only
  rw [decide_eq_false (by rw [hl];simp),cond_false]
  rfl
 | x::r,pre,hl=>by
  have hl':s.length=pre.length+(r.length+1):=hl
  have ih:=lower_loop s hs r (pre++[lw x]) (by rw [List.length_append];simp;omega)
  have e:((pre++[lw x]).length:Int)=(pre.length:Int)+1:=by rw [List.length_append];simp
  refine loop_inr (s':=(((pre++[lw x]).length:Int),(pre++[lw x])++r)) ?_ (ih.trans ?_)
  ·unfold F_wlvref_Lower_L4 chk
   dsimp only
   have h1:(decide ((0:Int)<=(pre.length:Int))&&decide ((pre.length:Int) < (s.length:Int)))=true:=by simp;omega
   have h2:decide ((pre.length:Int) < (s.length:Int))=true:=decide_eq_true (by omega)
   have hg:getI (pre++x::r) (pre.length:Int)=some x:=getI_nat (by simp)
   have h3:decide ((pre.length:Int) < ((pre++x::r).length:Int))=true:=decide_eq_true (by rw [List.length_append,List.length_cons];omega)
   rw [h1,h2,cond_true,hg,h3]
   simp only [cond_true,Option.bind_some]
   rw [Int.toNat_natCast,set_mid,wrap_in (by omega) (by omega),e,List.append_assoc]
   unfold lw
   by_cases hx:65<=x /\ x<=90
   ·rw [decide_eq_true (show x >= 65 from hx.1),decide_eq_true hx.2,cond_true,cond_true,if_pos hx,u8_sm (by omega) (by omega)];rfl
   ·rw [if_neg hx]
    by_cases h65:x >= 65
    ·rw [decide_eq_true h65,decide_eq_false (show ¬ x<=90 by omega)];rfl
    ·rw [decide_eq_false h65];rfl
  ·rw [List.append_assoc];rfl
theorem Lower_eq (s:List Int) (hs:s.length<=1000000):F_wlvref_Lower s=some (s.map lw):=by
 have h:loopC (F_wlvref_Lower_L4 s) (0,s)=some (.inr (s.map lw)):=lower_loop s hs s [] (by simp)
 unfold F_wlvref_Lower
 rw [join_inr (s:=s.map lw) h]
 unfold F_wlvref_Lower_J2 chk
 dsimp only
 rw [Nat.ble_eq_true_of_le (by simp),cond_true,List.take_of_length_le (by simp)]
theorem lab_loop (w:List Int) (l:List (List Int)) (hw:w.length<=1000):loopC (F_wlvref15_Name_L17 w) (l,0)=some (cond (w.all okHc) (.inr l) (.inl (.inl (.inl ([],2))))):=by
  obtain ⟨r,h1,rfl⟩:=loop_inv (body:=F_wlvref15_Name_L17 w) (I:=fun st=>∃ i:Nat,st=(l,(i:Int)) /\ i<=w.length /\ (w.take i).all okHc=true) (m:=fun st=>w.length - st.2.toNat)
    (Q:=fun r=>r=cond (w.all okHc) (.inr l) (.inl (.inl (.inl ([],2))))) (fun st ⟨i,e,hi,ha⟩=>by
      subst e
      unfold F_wlvref15_Name_L17
      dsimp only
      by_cases hlt:i < w.length
      · have hg:=getI_nat (List.getElem?_eq_getElem hlt)
        rw [decide_eq_true (show (i:Int) < (w.length:Int) by omega),cond_true,hg,Option.bind_some,wrap_in (x:=(i:Int)+1) (by omega) (by omega)]
        have next:okHc w[i]=true -> ∃ s':List (List Int)×Int,some (Sum.inr (l,(i:Int)+1))=(some (.inr s'):Option ((((((List Int×Int)⊕Unit)⊕(List (List Int)×Int))⊕List (List Int)))⊕(List (List Int)×Int))) /\ (∃ i:Nat,s'=(l,(i:Int)) /\ i<=w.length /\ (w.take i).all okHc=true) /\ w.length - s'.2.toNat < w.length - (i:Int).toNat:=fun hk=>by
          refine ⟨_,rfl,⟨i+1,rfl,by omega,?_⟩,?_⟩
          · rw [List.take_add_one,List.getElem?_eq_getElem hlt,List.all_append,ha]
            simpa using hk
          · show w.length - ((i:Int)+1).toNat < _
            omega
        by_cases h1:97<=w[i] /\ w[i]<=122
        · rw [show (decide (w[i] < 97)||decide (w[i] > 122))=false by simp;omega,cond_false]
          exact .inr (next ((okHc_iff _).2 (by omega)))
        · rw [show (decide (w[i] < 97)||decide (w[i] > 122))=true by rw [Bool.or_eq_true,decide_eq_true_iff,decide_eq_true_iff];omega,cond_true]
          by_cases h2:(48<=w[i] /\ w[i]<=57) \/ w[i]=45 \/ w[i]=95
          · have : (((decide (w[i] < 48) || decide (w[i] > 57)) && (w[i] != 45)) && (w[i] != 95)) = false := by
              rw [Bool.and_eq_false_iff,Bool.and_eq_false_iff,Bool.or_eq_false_iff,decide_eq_false_iff_not,decide_eq_false_iff_not,bne_eq_false_iff_eq,bne_eq_false_iff_eq]
              omega
            rw [this,cond_false]
            exact .inr (next ((okHc_iff _).2 (by omega)))
          · have : (((decide (w[i] < 48) || decide (w[i] > 57)) && (w[i] != 45)) && (w[i] != 95)) = true := by
              simp only [Bool.and_eq_true,Bool.or_eq_true,decide_eq_true_eq,bne_iff_ne]
              omega
            rw [this,cond_true]
            refine .inl ⟨_,rfl,?_⟩
            have hk:okHc w[i]=false:=by
              cases hk:okHc w[i] with
              | false=>rfl
              | true=>exact absurd ((okHc_iff _).1 hk) (by omega)
            have:w.all okHc=false:=by
              rw [List.all_eq_false]
              exact ⟨w[i],List.getElem_mem _,by rw [hk];simp⟩
            rw [this];rfl
      · rw [decide_eq_false (show ¬ (i:Int) < (w.length:Int) by omega),cond_false]
        refine .inl ⟨_,rfl,?_⟩
        rw [List.take_of_length_le (by omega)] at ha
        rw [ha];rfl) (l,0) ⟨0,rfl,by omega,rfl⟩
  exact h1
theorem labs_loop (l:List (List Int)) (hl:l.length<=1000000):loopC F_wlvref15_Name_L8 (l,0)=some (cond (l.all labB) (.inr ()) (.inl ([],2))):=by
  obtain ⟨r,h1,rfl⟩:=loop_inv (body:=F_wlvref15_Name_L8) (I:=fun st=>∃ i:Nat,st=(l,(i:Int)) /\ i<=l.length /\ (l.take i).all labB=true) (m:=fun st=>l.length - st.2.toNat)
    (Q:=fun r=>r=cond (l.all labB) (.inr ()) (.inl ([],2))) (fun st ⟨i,e,hi,ha⟩=>by
      subst e
      unfold F_wlvref15_Name_L8
      dsimp only
      by_cases hlt:i < l.length
      · have hg:=getI_nat (List.getElem?_eq_getElem hlt)
        rw [decide_eq_true (show (i:Int) < (l.length:Int) by omega),cond_true,hg,Option.bind_some]
        obtain ⟨w,hw⟩:∃ w,l[i]=w:=⟨_,rfl⟩
        rw [hw]
        have bad:labB w=false->cond (l.all labB) (Sum.inr ()) (Sum.inl (([]:List Int),(2:Int)))=(Sum.inl ([],2):(List Int×Int)⊕Unit):=fun hb=>by
          have:l.all labB=false:=by
            rw [List.all_eq_false]
            exact ⟨l[i],List.getElem_mem _,by rw [hw,hb];simp⟩
          rw [this];rfl
        by_cases hlen:1<=w.length /\ w.length<=63
        · rw [decide_eq_false (show ¬ (w.length:Int) < 1 by omega),decide_eq_false (show ¬ (w.length:Int) > 63 by omega),Bool.or_self,cond_false]
          cases w with
          | nil=>simp at hlen
          | cons x w'=>
            have g0:getI (x::w') 0=some x:=getI_nat (i:=0) rfl
            have hgl:∃ y,(x::w').getLast? = some y /\ getI (x::w') (IntKind.i64.wrap (((x::w').length:Int) - 1))=some y:=by
              rw [wrap_in (by omega) (by omega)]
              obtain ⟨y,q1,q2⟩:=getI_of (l:=x::w') (j:=((x::w').length:Int) - 1) (by omega) (by omega)
              refine ⟨y,?_,q1⟩
              rw [List.getLast?_eq_getElem?,<- q2]
              congr 1;omega
            obtain ⟨y,y1,y2⟩:=hgl
            rw [g0,Option.bind_some,y2]
            have hb:labB (x::w')=(!(x==45) && !(y==45)&&(x::w').all okHc):=by
              unfold labB
              rw [decide_eq_true hlen.1,decide_eq_true hlen.2,y1,show (x::w').head? = some x from rfl]
              rfl
            cases hx:x==45 with
            | true=>
              refine .inl ⟨_,rfl,(bad (by rw [hb,hx];rfl)).symm⟩
            | false=>
              rw [cond_false,Option.bind_some]
              cases hy:y==45 with
              | true=>exact .inl ⟨_,rfl,(bad (by rw [hb,hy,Bool.not_true,Bool.and_false];rfl)).symm⟩
              | false=>
                rw [cond_false,lab_loop (x::w') l (by omega)]
                cases hk:(x::w').all okHc with
                | false=>exact .inl ⟨_,rfl,(bad (by rw [hb,hk,Bool.and_false])).symm⟩
                | true=>
                  refine .inr ⟨_,rfl,⟨i+1,?_,by omega,?_⟩,?_⟩
                  · rw [wrap_in (x:=(i:Int)+1) (by omega) (by omega)];rfl
                  · rw [List.take_add_one,List.getElem?_eq_getElem hlt,List.all_append,ha,hw]
                    show (true&&(labB (x::w')&&true))=true
                    rw [hb,hx,hy,hk];rfl
                  · show l.length - (IntKind.i64.wrap ((i:Int)+1)).toNat < l.length - (i:Int).toNat
                    rw [wrap_in (x:=(i:Int)+1) (by omega) (by omega)]
                    omega
        · have : (decide ((w.length : Int) < 1) || decide ((w.length : Int) > 63)) = true := by
            rw [Bool.or_eq_true,decide_eq_true_iff,decide_eq_true_iff];omega
          rw [this,cond_true]
          refine .inl ⟨_,rfl,(bad ?_).symm⟩
          unfold labB
          have:(decide (1<=w.length)&&decide (w.length<=63))=false:=by
            rw [Bool.and_eq_false_iff,decide_eq_false_iff_not,decide_eq_false_iff_not];omega
          rw [this];rfl
      · rw [decide_eq_false (show ¬ (i:Int) < (l.length:Int) by omega),cond_false]
        refine .inl ⟨_,rfl,?_⟩
        rw [List.take_of_length_le (by omega)] at ha
        rw [ha];rfl) (l,0) ⟨0,rfl,by omega,rfl⟩
  exact h1
theorem refName_eq (s:List Int) (hs:s.length<=1000000):F_wlvref15_Name s=some (nameQ s):=by
  unfold F_wlvref15_Name nameQ
  by_cases hlen:1<=s.length /\ s.length<=253
  · rw [decide_eq_false (show ¬ (s.length:Int) < 1 by omega),decide_eq_false (show ¬ (s.length:Int) > 253 by omega),Bool.or_self,cond_false,Lower_eq s hs,Option.bind_some,Split_eq _ 46 (by simp;omega),Option.bind_some]
    have hsl:=split_len (s.map lw) 46 (by simp;omega)
    rw [List.length_map] at hsl
    have hl:=labs_loop (splitI (s.map lw) 46) (by omega)
    rw [decide_eq_true hlen.1,decide_eq_true hlen.2,Bool.true_and,Bool.true_and,hl]
    cases (splitI (s.map lw) 46).all labB <;> rfl
  · have : (decide ((s.length : Int) < 1) || decide ((s.length : Int) > 253)) = true := by
      rw [Bool.or_eq_true,decide_eq_true_iff,decide_eq_true_iff];omega
    rw [this,cond_true]
    have h2:(decide (1<=s.length)&&decide (s.length<=253))=false:=by
      rw [Bool.and_eq_false_iff,decide_eq_false_iff_not,decide_eq_false_iff_not];omega
    rw [h2];rfl
theorem dig_ge {n:Nat} {c:Int} (h:c∈dgs n):48<=c /\ c<=57:=dig_of (List.all_eq_true.1 (dgs_spec (n+1) n (by omega)).1 c h)
end Go.Proofs.YtgfmfgombmpodaaGreatDoor
