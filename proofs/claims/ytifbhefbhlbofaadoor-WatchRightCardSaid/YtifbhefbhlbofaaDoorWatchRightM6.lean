/- Texts of this claim, one behind the other. -/
import Derived.Test.YtifbhefbhlbofaaDoorWatchRightM5
set_option maxRecDepth 100000
namespace Go.Proofs.YtifbhefbhlbofaaDoor
open Pv
set_option linter.unusedVariables false
theorem ckB {n m:Nat} (h:n+m<=1000000000):(decide ((n+m)*1<=140737488355328)&&decide (n+m<=maxLen))=true:=by
 have hm:maxLen=9223372036854775807:=rfl
 rw [Bool.and_eq_true,decide_eq_true_iff,decide_eq_true_iff]
 omega
def beL (n:Int):Nat->List Int
 | 0=>[]
 | k+1=>IntKind.u8.wrap (Int.fdiv n (2 ^ (8*k)))::beL n k
theorem beL_len (n:Int):∀ k,(beL n k).length=k
 | 0=>rfl
 | k+1=>by show (beL n k).length+1=_;rw [beL_len n k]
theorem u8w (x:Int):IntKind.u8.wrap x=x % 256:=by
 rw [IntKind.wrap_u8]
theorem u8_id {x:Int} (h0:0<=x) (h1:x<=255):IntKind.u8.wrap x=x:=by rw [u8w];omega
theorem num_loop (n:Int):∀ (k:Nat) (l:List Int),k<=8->l.length+k<=100->loopC (F_wlvref10_num_L4 n) (l,(k:Int) - 1)=some (.inr (l++beL n k))
 | 0,l,_,_=>by
  refine loop_inl ?_
  unfold F_wlvref10_num_L4
  dsimp only
  rw [decide_eq_false (by omega),cond_false]
  unfold beL
  rw [List.append_nil]
 | k+1,l,hk,hl=>by
  refine loop_inr (s':=(l++[IntKind.u8.wrap (Int.fdiv n (2 ^ (8*k)))],(k:Int) - 1)) ?_ ((num_loop n k _ (by omega) (by rw [List.length_append];show l.length+1+k<=_;omega)).trans (by rw [List.append_assoc];rfl))
  unfold F_wlvref10_num_L4 chk
  dsimp only
  have e:((k+1:Nat):Int) - 1=(k:Int):=by omega
  have e8:IntKind.i64.wrap (8*(k:Int))=8*(k:Int):=wB64 (by omega) (by omega)
  have eu:IntKind.u64.wrap (8*(k:Int))=8*(k:Int):=by
   show (8*(k:Int)) % 18446744073709551616=_
   omega
  have e9:(min (8*(k:Int)).toNat 64)=8*k:=by omega
  rw [e,decide_eq_true (show (k:Int) >= 0 by omega),cond_true,e8,eu,e9,decide_eq_true (show 0<=8*(k:Int) by omega),cond_true,ckB (by simp;omega),cond_true,wB64 (x:=(k:Int) - 1) (by omega) (by omega)]
theorem num_eq (n:Int) (k:Nat) (hk:k<=8):F_wlvref10_num n (k:Int)=some (beL n k):=by
 unfold F_wlvref10_num
 have h:=num_loop n k [] hk (by simp;omega)
 rw [wB64 (by omega) (by omega),join_inr h]
 rfl
theorem be4_eq {n:Int} (h0:0<=n) (h1:n < 4294967296):beL n 4=[n / 16777216,n / 65536 % 256,n / 256 % 256,n % 256]:=by
 unfold beL beL beL beL beL
 rw [u8w,u8w,u8w,u8w,Int.fdiv_eq_ediv_of_nonneg _ (by decide),Int.fdiv_eq_ediv_of_nonneg _ (by decide),Int.fdiv_eq_ediv_of_nonneg _ (by decide),Int.fdiv_eq_ediv_of_nonneg _ (by decide)]
 have e3:(2:Int) ^ (8*3)=16777216:=by decide
 have e2:(2:Int) ^ (8*2)=65536:=by decide
 have e1:(2:Int) ^ (8*1)=256:=by decide
 have e0:(2:Int) ^ (8*0)=1:=by decide
 rw [e3,e2,e1,e0,show n / 16777216 % 256=n / 16777216 by omega,Int.ediv_one]
theorem be3_eq {n:Int} (h0:0<=n) (h1:n < 16777216):beL n 3=[n / 65536,n / 256 % 256,n % 256]:=by
 unfold beL beL beL beL
 rw [u8w,u8w,u8w,Int.fdiv_eq_ediv_of_nonneg _ (by decide),Int.fdiv_eq_ediv_of_nonneg _ (by decide),Int.fdiv_eq_ediv_of_nonneg _ (by decide)]
 have e2:(2:Int) ^ (8*2)=65536:=by decide
 have e1:(2:Int) ^ (8*1)=256:=by decide
 have e0:(2:Int) ^ (8*0)=1:=by decide
 rw [e2,e1,e0,show n / 65536 % 256=n / 65536 by omega,Int.ediv_one]
theorem put_eq {k fl s:Int} {body:List Int} (h:okFb k fl s body):F_wlvref10_Put k fl s body=some (fb k fl s body,0):=by
 obtain ⟨hk,hf,hs,hb⟩:=h
 unfold F_wlvref10_Put
 rw [decide_eq_false (show ¬ k < 0 by omega),cond_false,decide_eq_false (show ¬ k > 255 by omega),cond_false,decide_eq_false (show ¬ fl < 0 by omega),cond_false,decide_eq_false (show ¬ fl > 255 by omega),cond_false,decide_eq_false (show ¬ s < 0 by omega),cond_false,
  decide_eq_false (show ¬ s > 2147483647 by omega),cond_false,decide_eq_false (show ¬ (body.length:Int) >= 16777216 by omega),cond_false]
 have h3:=num_eq (body.length:Int) 3 (by omega)
 have h4:=num_eq s 4 (by omega)
 have h3':F_wlvref10_num (body.length:Int) 3=some (beL (body.length:Int) 3):=h3
 have h4':F_wlvref10_num s 4=some (beL s 4):=h4
 rw [h3',Option.bind_some]
 unfold chk
 rw [ckB (by rw [beL_len];simp),cond_true,h4',Option.bind_some,ckB (by simp only [List.length_append,beL_len,List.length_cons,List.length_nil];omega),cond_true,ckB (by simp only [List.length_append,beL_len,List.length_cons,List.length_nil];omega),cond_true,u8_id (x:=k) (by omega) (by omega),u8_id (x:=fl) (by omega) (by omega)]
 rw [be3_eq (by omega) (by omega),be4_eq (by omega) (by omega)]
 rfl
abbrev Fr4:=Int×Int×Int×List Int
def fbs:List Fr4->List Int
 | []=>[]
 | f::r=>fb f.1 f.2.1 f.2.2.1 f.2.2.2++fbs r
def okFbs (l:List Fr4):Prop:=∀ f∈l,okFb f.1 f.2.1 f.2.2.1 f.2.2.2
theorem fbs_len:∀ {l:List Fr4},okFbs l->(fbs l).length<=16393*l.length
 | [],_=>Nat.le_refl _
 | f::r,h=>by
  have:=fbs_len (l:=r) fun x hx=>h x (List.mem_cons_of_mem _ hx)
  have h2:=(h f List.mem_cons_self).2.2.2
  unfold fbs
  rw [List.length_append,fb_len,List.length_cons]
  omega
theorem frames_loop (l:List Fr4) (hl:l.length<=100) (h:okFbs l):∀ (k i:Nat) (acc:List Int),i+k=l.length->acc.length<=16393*i->loopC (F_wlvlaw27_frames_L4 l) (acc,(i:Int))=some (.inr (acc++fbs (l.drop i)))
 | 0,i,acc,hi,ha=>by
  refine loop_inl ?_
  unfold F_wlvlaw27_frames_L4
  dsimp only
  rw [decide_eq_false (by omega),cond_false,List.drop_of_length_le (by omega)]
  unfold fbs
  rw [List.append_nil]
 | k+1,i,acc,hi,ha=>by
  have hlt:i < l.length:=by omega
  have hg:getI l (i:Int)=some l[i]:=by
   unfold getI
   rw [decide_eq_true (by omega),cond_true,Int.toNat_natCast,List.getElem?_eq_getElem hlt]
  have hok:=h l[i] (List.getElem_mem hlt)
  have hfl:=fb_len l[i].1 l[i].2.1 l[i].2.2.1 l[i].2.2.2
  have hb:=hok.2.2.2
  refine loop_inr (s':=(acc++fb l[i].1 l[i].2.1 l[i].2.2.1 l[i].2.2.2,((i+1:Nat):Int))) ?_ ((frames_loop l hl h k (i+1) _ (by omega) (by rw [List.length_append,hfl];omega)).trans ?_)
  ·unfold F_wlvlaw27_frames_L4 chk
   dsimp only
   rw [decide_eq_true (by omega),cond_true,hg,Option.bind_some,put_eq hok,Option.bind_some,ckB (by rw [hfl];omega),cond_true,wB64 (x:=(i:Int)+1) (by omega) (by omega)]
   rfl
  ·rw [List.drop_eq_getElem_cons hlt,List.append_assoc]
   rfl
theorem frames_eq {l:List Fr4} (hl:l.length<=100) (h:okFbs l):F_wlvlaw27_frames l=some (fbs l):=by
 unfold F_wlvlaw27_frames
 have:=frames_loop l hl h l.length 0 [] (by omega) (by simp)
 rw [List.drop_zero,List.nil_append] at this
 exact (join_inr this).trans rfl
theorem settings_eq (a:Bool):F_wlvref10_Settings [] a=some (4,cond a 1 0,0,[]):=by
 unfold F_wlvref10_Settings
 cases a
 ·exact (join_inr (s:=(0,0,0,[],4,0,0,[])) (loop_inl rfl)).trans rfl
 ·exact (join_inr (s:=(0,0,0,[],4,1,0,[])) (loop_inl rfl)).trans rfl
theorem update_eq {s n:Int} (h0:0<=n) (h1:n<=2147483647):F_wlvref10_Update s n=some (8,0,s,[n / 16777216,n / 65536 % 256,n / 256 % 256,n % 256]):=by
 unfold F_wlvref10_Update
 rw [and31 h0 (by omega),show n % 2147483648=n by omega]
 have:=num_eq n 4 (by omega)
 have h4:F_wlvref10_num n 4=some (beL n 4):=this
 rw [h4,Option.bind_some,be4_eq h0 (by omega)]
theorem rst_eq {s c:Int} (h0:0<=c) (h1:c<=2147483647):F_wlvref10_Rst s c=some (3,0,s,[c / 16777216,c / 65536 % 256,c / 256 % 256,c % 256]):=by
 unfold F_wlvref10_Rst
 have:=num_eq c 4 (by omega)
 have h4:F_wlvref10_num c 4=some (beL c 4):=this
 rw [h4,Option.bind_some,be4_eq h0 (by omega)]
abbrev PrtD:=List Int×Int×Int×Int×Int×List (Int×Int)×Bool×Bool×Bool×Bool×Bool×Int
theorem eta12 (x:Option PrtD):(x.bind fun x5=>some (x5.1,x5.2.1,x5.2.2.1,x5.2.2.2.1,x5.2.2.2.2.1,x5.2.2.2.2.2.1,x5.2.2.2.2.2.2.1,x5.2.2.2.2.2.2.2.1,x5.2.2.2.2.2.2.2.2.1,x5.2.2.2.2.2.2.2.2.2.1,x5.2.2.2.2.2.2.2.2.2.2.1,x5.2.2.2.2.2.2.2.2.2.2.2))=x:=by cases x <;> rfl
theorem read0 (fl s:Int) (l:List Int):F_part_Read 0 fl s l=F_part_bodied 0 fl s l:=eta12 _
theorem read1 (fl s:Int) (l:List Int):F_part_Read 1 fl s l=F_part_bodied 1 fl s l:=eta12 _
theorem read4 (fl s:Int) (l:List Int):F_part_Read 4 fl s l=F_part_settings 4 fl s l:=eta12 _
theorem read5 (fl s:Int) (l:List Int):F_part_Read 5 fl s l=F_part_conn 1:=rfl
theorem read8 (fl s:Int) (l:List Int):F_part_Read 8 fl s l=F_part_update 8 fl s l:=eta12 _
theorem clone_eq {l:List Int} (h:l.length<=100000000):F_bytes_Clone l=some l:=by
 unfold F_bytes_Clone
 rw [Nat.ble_eq_true_of_le h,cond_true]
theorem cut_all (l:List Int) (h:l.length<=1000000000):cutI l 0 (IntKind.i64.wrap ((l.length:Int) - 0))=some l:=by
 rw [wB64 (by omega) (by omega)]
 exact cutI_end [] l rfl (by simp)
theorem bodied_data {fl s:Int} {body:List Int} (hs:(s==0)=false) (hf:(bits .and .i64 fl 8==0)=true) (hb:body.length<=16384):F_part_bodied 0 fl s body=some (body,0,0,0,0,[],decide (bits .and .i64 fl 1 > 0),false,false,false,false,0):=by
 unfold F_part_bodied
 refine (join_inr (s:=(0,(body,0,[],0,0,0,0,[],decide (bits .and .i64 fl 1 > 0),false,false,[],0,0,0,0,[],false,false,false,false,false,0))) ?_).trans (loop_inr (s':=(1,(body,0,[],0,0,0,0,[],decide (bits .and .i64 fl 1 > 0),false,false,[],0,0,0,0,[],false,false,false,false,false,0))) rfl (loop_inl ?_))
 ·rw [show ((0:Int)==1)=false from rfl,cond_false,hs,cond_false,hf,cond_true]
 ·unfold F_part_bodied_G1
  rw [show hasN [0] 1=false from rfl,cond_false,show hasN [1] 1=true from rfl,cond_true]
  unfold F_part_bodied_G1_1
  dsimp only
  rw [decide_eq_false (show ¬ (0:Int) > (body.length:Int) by omega),cond_false,cut_all body (by omega),Option.bind_some,clone_eq (by omega),Option.bind_some]
theorem bodied_head {fl s:Int} {body:List Int} (hs:(s==0)=false) (hf:(bits .and .i64 fl 8==0)=true) (hf2:(bits .and .i64 fl 32==0)=true) (hb:body.length<=16384) :
  F_part_bodied 1 fl s body=some (body,0,0,0,0,[],decide (bits .and .i64 fl 1 > 0),false,decide (bits .and .i64 fl 4 > 0),false,false,0):=by
 unfold F_part_bodied
 refine (join_inr (s:=(0,(body,0,[],0,0,0,0,[],decide (bits .and .i64 fl 1 > 0),false,decide (bits .and .i64 fl 4 > 0),[],0,0,0,0,[],false,false,false,false,false,0))) ?_).trans (loop_inr (s':=(1,(body,0,[],0,0,0,0,[],decide (bits .and .i64 fl 1 > 0),false,decide (bits .and .i64 fl 4 > 0),[],0,0,0,0,[],false,false,false,false,false,0))) ?_ (loop_inl ?_))
 ·rw [show ((1:Int)==1)=true from rfl,cond_true,hs,cond_false,hf,cond_true]
 ·unfold F_part_bodied_G1
  rw [show hasN [0] 0=true from rfl,cond_true]
  unfold F_part_bodied_G1_0
  dsimp only
  rw [show ((1:Int)==0)=false from rfl,cond_false,hf2,cond_true]
 ·unfold F_part_bodied_G1
  rw [show hasN [0] 1=false from rfl,cond_false,show hasN [1] 1=true from rfl,cond_true]
  unfold F_part_bodied_G1_1
  dsimp only
  rw [decide_eq_false (show ¬ (0:Int) > (body.length:Int) by omega),cond_false,cut_all body (by omega),Option.bind_some,clone_eq (by omega),Option.bind_some]
theorem read_settings (a:Bool):F_part_Read 4 (cond a 1 0) 0 []=some ([],0,0,0,0,[],false,a,false,false,false,0):=by
 rw [read4]
 cases a
 ·exact (join_inr (s:=(([]:List Int),0,0,0,0,([]:List (Int×Int)),false,false,false,false,false,0,([]:List Int),0,0,0,0,([]:List (Int×Int)),false,false,false)) (loop_inl rfl)).trans rfl
 ·exact (join_inr (s:=(([]:List Int),0,0,0,0,([]:List (Int×Int)),false,false,false,false,false,0,([]:List Int),0,0,0,0,([]:List (Int×Int)),false,true,false)) (loop_inl rfl)).trans rfl
theorem read_update {s n:Int} (h0:1<=n) (h1:n<=2147483647):F_part_Read 8 0 s [n / 16777216,n / 65536 % 256,n / 256 % 256,n % 256]=some ([],0,0,0,n,[],false,false,false,false,false,0):=by
 have hn:F_part_number [n / 16777216,n / 65536 % 256,n / 256 % 256,n % 256]=some n:=by
  unfold F_part_number
  show some _=some _
  rw [num4 (by omega) (by omega) (by omega) (by omega)]
  congr 1
  omega
 have hm:bits .and .i64 n 2147483647=n:=by rw [and31 (by omega) (by omega)];omega
 rw [read8]
 unfold F_part_update
 rw [show ((([n / 16777216,n / 65536 % 256,n / 256 % 256,n % 256]:List Int).length:Int) != 4)=false from rfl,cond_false,hn,Option.bind_some,hm,show (n==0)=false from beq_eq_false_iff_ne.2 (by omega),cond_false]
 rfl
theorem read_rst {s c:Int} (hs:(s==0)=false) (h0:0<=c) (h1:c<=2147483647):F_part_Read 3 0 s [c / 16777216,c / 65536 % 256,c / 256 % 256,c % 256]=some ([],0,c,0,0,[],false,false,false,false,false,0):=by
  have hn:F_part_number [c / 16777216,c / 65536 % 256,c / 256 % 256,c % 256]=some c:=by
    unfold F_part_number
    show some _=some _
    rw [num4 (by omega) (by omega) (by omega) (by omega)]
    congr 1
    omega
  have e : F_part_Read 3 0 s [c / 16777216, c / 65536 % 256, c / 256 % 256, c % 256] = cond (s == 0) ((F_part_conn 1).bind fun x10 => some (x10.1, x10.2.1, x10.2.2.1, x10.2.2.2.1, x10.2.2.2.2.1, x10.2.2.2.2.2.1, x10.2.2.2.2.2.2.1, x10.2.2.2.2.2.2.2.1, x10.2.2.2.2.2.2.2.2.1, x10.2.2.2.2.2.2.2.2.2.1, x10.2.2.2.2.2.2.2.2.2.2.1, x10.2.2.2.2.2.2.2.2.2.2.2))
      ((F_part_number [c / 16777216,c / 65536 % 256,c / 256 % 256,c % 256]).bind fun i14=>some (([]:List Int),0,i14,0,0,([]:List (Int×Int)),false,false,false,false,false,0)):=rfl
  rw [e,hs,cond_false,hn]
  rfl
theorem ckW {n m k:Nat} (h:n+m<=1000000000) (hk:k<=1000):(decide ((n+m)*k<=140737488355328)&&decide (n+m<=maxLen))=true:=by
 have hm:maxLen=9223372036854775807:=rfl
 rw [Bool.and_eq_true,decide_eq_true_iff,decide_eq_true_iff]
 have:(n+m)*k<=1000000000*1000:=Nat.mul_le_mul h hk
 omega
section
variable {p : Int} {M : List MD} {W : List WD} {S : List SD} {P : List PD} {D : List DD} {T : List TD}
variable {head inn out highest m window dec frames : Int} {deaf blind bad gone : Bool} {waits : List (List (Int × Int))} {sets : Int × Int × Int × Int × Int × Int}
theorem hears_settings (hW:getI W p=some (head,inn,out,deaf,blind,bad,highest,m,window,waits,sets,dec,frames,gone)) (hl:waits.length<=1000) :
  F_watch_Watch_hears p 4 0 0 [] M W S=some (M,W.set p.toNat (head,inn,out,deaf,blind,bad,highest,m,window,waits++[[]],sets,dec,frames,gone),S):=by
 have hp:=getI_nn hW
 have hr:F_part_Read 4 0 0 []=some ([],0,0,0,0,[],false,false,false,false,false,0):=read_settings false
 have he:eqI p p=true:=beq_self_eq_true p
 unfold F_watch_Watch_hears chk
 rw [hr,Option.bind_some,show ((4:Int)==1)=false from rfl,cond_false,show ((4:Int)==4)=true from rfl,cond_true]
 simp only [Bool.not_false,cond_true,hp,hW,Option.bind_some,he]
 rw [ckW (by simp;omega) (by omega),cond_true]
theorem hears_headers {s:Int} {b:List Int} {mm:MD} (hW:getI W p=some (head,inn,out,deaf,blind,bad,highest,m,window,waits,sets,dec,frames,gone)) (hM:getI M m=some mm) (hb:b.length<=16384) (hs:(s==0)=false) (ho:(Int.tmod s 2==1)=true) (hh:s > highest) :
  F_watch_Watch_hears p 1 4 s b M W S=some (M.set m.toNat (mapSet mm s (S.length:Int)),W.set p.toNat (head,inn,out,deaf,blind,bad,s,m,window,waits,sets,dec,frames,gone),S++[(some sets.2.2.2.1,(false,(false,(false,[])))) ]):=by
 have hp:=getI_nn hW
 have hr:F_part_Read 1 4 s b=some (b,0,0,0,0,[],false,false,true,false,false,0):=by
  rw [read1,bodied_head hs (by decide +kernel) (by decide +kernel) hb]
  rfl
 unfold F_watch_Watch_hears chk
 rw [hr,Option.bind_some,show ((1:Int)==1)=true from rfl,cond_true,ho,cond_true]
 simp only [hp,cond_true,hW,Option.bind_some,decide_eq_true hh,getI_set hW,hM]
theorem hears_update {s n:Int} {x:List WD×List SD} (h0:1<=n) (h1:n<=2147483647) (hg:F_watch_Watch_granted p s n M W S=some x):F_watch_Watch_hears p 8 0 s [n / 16777216,n / 65536 % 256,n / 256 % 256,n % 256] M W S=some (M,x.1,x.2):=by
 unfold F_watch_Watch_hears
 rw [read_update h0 h1,Option.bind_some,show ((8:Int)==1)=false from rfl,cond_false,show ((8:Int)==4)=false from rfl,cond_false,show ((8:Int)==8)=true from rfl,cond_true]
 dsimp only
 rw [Bool.not_false,cond_true,hg,Option.bind_some]
theorem inW0:InW 0:=⟨by decide,by decide⟩
theorem granted0 {n:Int} (hW:getI W p=some (head,inn,out,deaf,blind,bad,highest,m,window,waits,sets,dec,frames,gone)) (hw:InW window) (h0:0<=n) (h1:n<=2147483647) :
  F_watch_Watch_granted p 0 n M W S=some (W.set p.toNat (head,inn,out,deaf,decide (window+n > 2147483647),bad,highest,m,cond (decide (window+n > 2147483647)) 0 (window+n),waits,sets,dec,frames,gone),S):=by
 have hp:=getI_nn hW
 unfold F_watch_Watch_granted chk
 rw [show ((0:Int)==0)=true from rfl,cond_true]
 simp only [hp,cond_true,hW,Option.bind_some,windows_in inW0 hw,grant_in inW0 hw (Int.le_refl 0) (by decide) h0 h1]
 have w1:=hw.1
 by_cases h:window+n > 2147483647
 ·rw [decide_eq_true h]
  have:F_flow_Conn ((0,0):Nat×Nat)=some 0:=by
   have:=conn_in inW0 inW0
   unfold fz at this
   rwa [fl_zero] at this
  simp only [cond_true,this,Option.bind_some,getI_set hW,set_two]
 ·rw [decide_eq_false h,decide_eq_false (show ¬ (0:Int)+0 > 2147483647 by decide)]
  simp only [cond_false,conn_in inW0 (show InW (window+n) from ⟨by omega,by omega⟩),show (0:Int)+0=0 from rfl,Option.bind_some,getI_set hW,set_two]
theorem granted1 {s n j c:Int} {mm:MD} {x:Bool×Bool×Bool×List Int} (hW:getI W p=some (head,inn,out,deaf,blind,bad,highest,m,window,waits,sets,dec,frames,gone)) (hM:getI M m=some mm) (hs:(s==0)=false) (hj:getZ (mapGet mm s) (-1:Int)=j) (hS:getI S j=some (some c,x)) (hc:InW c) (h0:0<=n) (h1:n<=2147483647) (hcn:c+n<=2147483647) :
  F_watch_Watch_granted p s n M W S=some (W.set p.toNat (head,inn,out,deaf,false,bad,highest,m,window,waits,sets,dec,frames,gone),S.set j.toNat (some (c+n),x)):=by
 have hp:=getI_nn hW
 have hjn:=getI_nn hS
 have hj1:eqI j (-1)=false:=by
  have:0<=j:=of_decide_eq_true hjn
  exact beq_eq_false_iff_ne.2 (by omega)
 have c1:=hc.1
 have c2:=hc.2
 have hin:InW (c+n):=⟨by omega,by omega⟩
 have hg:=grant_in hc inW0 h0 h1 (Int.le_refl 0) (by decide)
 rw [decide_eq_false (show ¬ (0:Int)+0 > 2147483647 by decide),cond_false,decide_eq_false (show ¬ c+n > 2147483647 by omega),cond_false,show (0:Int)+0=0 from rfl] at hg
 unfold F_watch_Watch_granted chk
 rw [hs,cond_false]
 simp only [hp,cond_true,hW,hM,Option.bind_some,hj,hj1,Bool.not_false,hjn,hS,windows_in hc inW0,hg,stream_in hin inW0]
theorem right_settings (hW:getI W p=some (head,inn,out,deaf,blind,bad,highest,m,window,waits,sets,dec,frames,gone)) (hg:gone=false):F_watch_Watch_right p 4 0 0 [] M W S D T=some (true,W,S,D,T):=by
 have hp:=getI_nn hW
 subst hg
 have hr:F_part_Read 4 0 0 []=some ([],0,0,0,0,[],false,false,false,false,false,0):=read_settings false
 unfold F_watch_Watch_right chk
 rw [hr,Option.bind_some,hp,cond_true,hW,Option.bind_some]
 dsimp only
 cases hf:(frames==0) <;> rfl
theorem right_bad {k fl s:Int} {b:List Int} {y:PrtD} (hW:getI W p=some (head,inn,out,deaf,blind,bad,highest,m,window,waits,sets,dec,frames,gone)) (hf:(frames==0)=false) (hr:F_part_Read k fl s b=some y) (hy:y.2.2.2.2.2.2.2.2.2.1=true):F_watch_Watch_right p k fl s b M W S D T=some (false,W,S,D,T):=by
 have hp:=getI_nn hW
 unfold F_watch_Watch_right chk
 rw [hr,Option.bind_some,hp,cond_true,hW,Option.bind_some]
 dsimp only
 rw [hf,cond_false,hy,cond_true,cond_true]
theorem right_head {s:Int} {b:List Int} (hW:getI W p=some (head,inn,out,deaf,blind,bad,highest,m,window,waits,sets,dec,frames,false)) (hf:(frames==0)=false) (hb:b.length<=16384) (hs:(s==0)=false)
  {x:Bool×List SD×List DD×List TD} (ha:F_watch_Watch_answers p 1 4 s b b 0 0 0 0 [] false false true M W S D T=some x):F_watch_Watch_right p 1 4 s b M W S D T=some (x.1,W,x.2.1,x.2.2.1,x.2.2.2):=by
 have hp:=getI_nn hW
 have hr:F_part_Read 1 4 s b=some (b,0,0,0,0,[],false,false,true,false,false,0):=by
  rw [read1,bodied_head hs (by decide +kernel) (by decide +kernel) hb]
  rfl
 unfold F_watch_Watch_right chk
 rw [hr,Option.bind_some,hp,cond_true,hW,Option.bind_some]
 dsimp only
 rw [hf,cond_false]
 have e:((F_watch_Watch_answers p 1 4 s b b 0 0 0 0 [] false false true M W S D T).bind fun x13=>some (x13.1,W,x13.2.1,x13.2.2.1,x13.2.2.2))=some (x.1,W,x.2.1,x.2.2.1,x.2.2.2):=by rw [ha,Option.bind_some]
 exact e
theorem right_data {fl s:Int} {b:List Int} (hW:getI W p=some (head,inn,out,deaf,blind,bad,highest,m,window,waits,sets,dec,frames,false)) (hf:(frames==0)=false) (hb:b.length<=16384) (hs:(s==0)=false) (h8:(bits .and .i64 fl 8==0)=true)
  {x:Bool×List WD×List SD} (ha:F_watch_Watch_sends p 0 fl s b b 0 0 0 0 [] (decide (bits .and .i64 fl 1 > 0)) false false M W S=some x):F_watch_Watch_right p 0 fl s b M W S D T=some (x.1,x.2.1,x.2.2,D,T):=by
 have hp:=getI_nn hW
 have hr:F_part_Read 0 fl s b=some (b,0,0,0,0,[],decide (bits .and .i64 fl 1 > 0),false,false,false,false,0):=by
  rw [read0,bodied_data hs h8 hb]
 unfold F_watch_Watch_right chk
 rw [hr,Option.bind_some,hp,cond_true,hW,Option.bind_some]
 dsimp only
 rw [hf,cond_false]
 have e:((F_watch_Watch_sends p 0 fl s b b 0 0 0 0 [] (decide (bits .and .i64 fl 1 > 0)) false false M W S).bind fun x13=>some (x13.1,x13.2.1,x13.2.2,D,T))=some (x.1,x.2.1,x.2.2,D,T):=by rw [ha,Option.bind_some]
 exact e
theorem right_rst {s c j:Int} {mm:MD} {w:Option Int} {b1 b2:Bool} {d:List Int} (hW:getI W p=some (head,inn,out,deaf,blind,bad,highest,m,window,waits,sets,dec,frames,false)) (hf:(frames==0)=false) (hs:(s==0)=false) (h0:0<=c) (h1:c<=2147483647)
  (hM:getI M m=some mm) (hj:getZ (mapGet mm s) (-1:Int)=j) (hS:getI S j=some (w,b1,b2,false,d)):F_watch_Watch_right p 3 0 s [c / 16777216,c / 65536 % 256,c / 256 % 256,c % 256] M W S D T=some (true,W,S.set j.toNat (w,b1,b2,true,d),D,T):=by
 have hp:=getI_nn hW
 have hjn:=getI_nn hS
 have hj1:eqI j (-1)=false:=by
  have:0<=j:=of_decide_eq_true hjn
  exact beq_eq_false_iff_ne.2 (by omega)
 unfold F_watch_Watch_right chk
 rw [read_rst hs h0 h1,Option.bind_some,hp,cond_true,hW,Option.bind_some]
 dsimp only
 rw [hf,cond_false,cond_false]
 simp only [show ((3:Int)==4)=false from rfl,show ((3:Int)==1)=false from rfl,show ((3:Int)==0)=false from rfl,show ((3:Int)==3)=true from rfl,cond_true,cond_false,hM,Option.bind_some,hj,hj1,hjn,hS,hp,hW]
theorem live_one {s j:Int} {mm:MD} {w:Option Int} {b1:Bool} {d:List Int} (hW:getI W p=some (head,inn,out,deaf,blind,bad,highest,m,window,waits,sets,dec,frames,gone)) (hM:getI M m=some mm) (hj:getZ (mapGet mm s) (-1:Int)=j) (hS:getI S j=some (w,b1,false,false,d)):F_watch_Watch_live p s M W S=some j:=by
 have hp:=getI_nn hW
 have hjn:=getI_nn hS
 have hj1:eqI j (-1)=false:=by
  have:0<=j:=of_decide_eq_true hjn
  exact beq_eq_false_iff_ne.2 (by omega)
 unfold F_watch_Watch_live chk
 simp only [hp,cond_true,hW,Option.bind_some,hM,hj,hj1,Bool.not_false,hjn,hS]
theorem sends_ok {fl s j c:Int} {b:List Int} {mm:MD} {e:Bool} {d:List Int} (hW:getI W p=some (head,inn,out,deaf,blind,bad,highest,m,window,waits,sets,dec,frames,gone)) (hM:getI M m=some mm) (hj:getZ (mapGet mm s) (-1:Int)=j) (hS:getI S j=some (some c,true,false,false,d))
  (hb:(b.length:Int)<=sets.2.2.2.2.1) (hc:InW c) (hw:InW window) (h1:(b.length:Int)<=c) (h2:(b.length:Int)<=window) (hd:d.length+b.length<=1000000000) :
  F_watch_Watch_sends p 0 fl s b b 0 0 0 0 [] e false false M W S=some (true,W.set p.toNat (head,inn,out,deaf,blind,bad,highest,m,window - (b.length:Int),waits,sets,dec,frames,gone),S.set j.toNat (some (c - (b.length:Int)),true,e,false,d++b)):=by
 have hp:=getI_nn hW
 have hjn:=getI_nn hS
 have hj1:eqI j (-1)=false:=by
  have:0<=j:=of_decide_eq_true hjn
  exact beq_eq_false_iff_ne.2 (by omega)
 have he:eqI j j=true:=beq_self_eq_true j
 have c1:=hc.1
 have c2:=hc.2
 have w1:=hw.1
 have w2:=hw.2
 obtain ⟨n,hn⟩:∃ n:Int,(b.length:Int)=n:=⟨_,rfl⟩
 have hn0:0<=n:=by omega
 rw [hn] at hb h1 h2
 unfold F_watch_Watch_sends chk
 rw [live_one hW hM hj hS,Option.bind_some,hj1,cond_false,hn]
 have hS1:=getI_set (x:=(some (c - n),true,false,false,d)) hS
 have hS2:=getI_set (x:=(some (c - n),true,false,false,d++b)) hS
 simp only [hjn,cond_true,hS,Option.bind_some,Bool.not_true,cond_false,hp,hW,decide_eq_false (show ¬ n > sets.2.2.2.2.1 by omega),windows_in hc hw]
 by_cases h:n > 0
 ·rw [decide_eq_true h,cond_true,spend_in hc hw hn0 h1 h2,Option.bind_some]
  dsimp only
  rw [show ((0:Int) != 0)=false from rfl,cond_false,stream_in (show InW (c - n) from ⟨by omega,by omega⟩) (show InW (window - n) from ⟨by omega,by omega⟩),Option.bind_some,conn_in (show InW (c - n) from ⟨by omega,by omega⟩) (show InW (window - n) from ⟨by omega,by omega⟩),Option.bind_some]
  simp only [hS1,Option.bind_some,he,cond_true,set_two,hS2]
  rw [ckW (by omega) (by omega),cond_true]
 ·have e0:n=0:=by omega
  subst e0
  rw [decide_eq_false (by omega),cond_false,stream_in hc hw,Option.bind_some,conn_in hc hw,Option.bind_some]
  rw [Int.sub_zero] at hS1 hS2 ⊢
  rw [Int.sub_zero]
  simp only [hS1,Option.bind_some,he,cond_true,set_two,hS2]
  rw [ckW (by omega) (by omega),cond_true]
end
theorem chk_t {R:Type} {b:Bool} {r:Option R} (h:b=true):chk b r=r:=by subst h;rfl
theorem set_new {α:Type} {l:List α} {x y:α}:(l++[y]).set (l.length:Int).toNat x=l++[x]:=by
 rw [Int.toNat_natCast,List.set_append_right _ _ (Nat.le_refl _),Nat.sub_self];rfl
theorem set_new0 {α:Type} {l r:List α} {x y:α}:(l++y::r).set (l.length:Int).toNat x=l++x::r:=by
 rw [Int.toNat_natCast,List.set_append_right _ _ (Nat.le_refl _),Nat.sub_self];rfl
theorem set_new1 {α:Type} {l:List α} {x y z:α}:(l++[y,z]).set ((l.length:Int)+1).toNat x=l++[y,x]:=by
 rw [show ((l.length:Int)+1).toNat=l.length+1 by omega,List.set_append_right _ _ (Nat.le_add_right _ _),Nat.add_sub_cancel_left];rfl
theorem getI_new1 {α:Type} {l:List α} {y z:α}:getI (l++[y,z]) ((l.length:Int)+1)=some z:=by
 unfold getI
 rw [decide_eq_true (by omega),cond_true,show ((l.length:Int)+1).toNat=l.length+1 by omega,List.getElem?_append_right (Nat.le_add_right _ _),Nat.add_sub_cancel_left];rfl
theorem ok4 (a:Bool):okFb 4 (cond a 1 0) 0 []:=⟨by omega,by cases a <;> exact ⟨by decide,by decide⟩,by omega,by simp⟩
theorem ok5:okFb 5 0 1 []:=⟨by omega,by omega,by omega,by simp⟩
theorem nx_fb {p:Int} {Ps:List PD} {k fl s:Int} {body rest:List Int} (hok:okFb k fl s body) (hg:getI Ps p=some (16384,fb k fl s body++rest)) (hr:rest.length<=1000000000):F_frame_Parser_Next p Ps=some (k,fl,s,body,0,Ps.set p.toNat (16384,rest)):=next_fb (getI_nn hg) hok hg hr
theorem nx_short {p:Int} {Ps:List PD} {X:List Int} (hg:getI Ps p=some (16384,X)) (hX:X.length < 9):F_frame_Parser_Next p Ps=some (0,0,0,[],4,Ps):=next_short (getI_nn hg) hg hX
abbrev st5:Int×Int×Int×Int×Int×Int:=(4096,1,2147483647,65535,16384,2147483647)
section
variable (M : List MD) (W : List WD) (S : List SD) (P : List PD) (D : List DD) (T : List TD)
abbrev wAt (head:Int) (deaf blind bad:Bool) (highest window:Int) (waits:List (List (Int×Int))) (frames:Int) (gone:Bool):WD:=(head,(P.length:Int),(P.length:Int)+1,deaf,blind,bad,highest,(M.length:Int),window,waits,st5,(D.length:Int),frames,gone)
theorem fr_one {w:WD} {h i o:Int} {a b c:Bool} {hi m win:Int} {wa:List (List (Int×Int))} {se:Int×Int×Int×Int×Int×Int} {de f:Int} {g:Bool} (hw:w=(h,i,o,a,b,c,hi,m,win,wa,se,de,f,g)):F_watch_Watch_Frames (W.length:Int) (W++[w])=some f:=by
 subst hw
 unfold F_watch_Watch_Frames
 have hg:=getI_new (l:=W) (y:=((h,i,o,a,b,c,hi,m,win,wa,se,de,f,g):WD))
 rw [chk_t (getI_nn hg),hg,Option.bind_some]
theorem first_any:∃ w x y,F_wlvlaw27_first M W S P D T=some (true,M++[[]],W++[w],S,P++[x,y],D++[((T.length:Int),false)],T++[([],(0,4096))]):=by
  have hM:getI (M++[([]:MD)]) (M.length:Int)=some []:=getI_new
  have o1 : F_watch_Watch_Out (W.length : Int) [] (M ++ [[]]) (W ++ [w0 M P D]) S (P ++ [(16384, []), (16384, [])]) (D ++ [((T.length : Int), false)]) (T ++ [([], (0, 4096))]) =
      some (0,W++[w0 M P D],S,P++[(16384,[]),(16384,[])],D++[((T.length:Int),false)],T++[([],(0,4096))]):=by
    rw [out_at (getI_new (l:=W)) (getI_new1 (l:=P)) (by simp),set_new1]
    exact loop_inl (out_short (getI_new (l:=W)) (nx_short (getI_new1 (l:=P)) (by simp)))
  have o2 : F_watch_Watch_Out (W.length : Int) (fb 4 0 0 []) (M ++ [[]]) (W ++ [w0 M P D]) S (P ++ [(16384, []), (16384, [])]) (D ++ [((T.length : Int), false)]) (T ++ [([], (0, 4096))]) =
      some (0,W++[wAt M P D 0 false false false 0 65535 [] 1 false],S,P++[(16384,[]),(16384,[])],D++[((T.length:Int),false)],T++[([],(0,4096))]):=by
    rw [out_at (getI_new (l:=W)) (getI_new1 (l:=P)) (by rw [fb_len];simp),set_new1]
    refine loop_inr (out_step (P':=P++[(16384,[]),(16384,[])]) (getI_new (l:=W)) ?_ (right_settings (getI_new (l:=W)) rfl) (getI_new (l:=W)) (by omega)) ?_
    · have:=nx_fb (Ps:=P++[(16384,[]),(16384,fb 4 0 0 []++[])]) (rest:=[]) (ok4 false) (getI_new1 (l:=P)) (by simp)
      rw [set_new1] at this
      rw [List.append_nil] at this
      exact this
    · rw [set_new]
      exact loop_inl (out_short (getI_new (l:=W)) (nx_short (getI_new1 (l:=P)) (by simp)))
  have o3 : F_watch_Watch_Out (W.length : Int) (fb 5 0 1 []) (M ++ [[]]) (W ++ [wAt M P D 0 false false false 0 65535 [] 1 false]) S (P ++ [(16384, []), (16384, [])]) (D ++ [((T.length : Int), false)]) (T ++ [([], (0, 4096))]) =
      some (2,W++[wAt M P D 0 false false true 0 65535 [] 1 false],S,P++[(16384,[]),(16384,[])],D++[((T.length:Int),false)],T++[([],(0,4096))]):=by
    rw [out_at (getI_new (l:=W)) (getI_new1 (l:=P)) (by rw [fb_len];simp),set_new1]
    refine loop_inr (out_wrong (P':=P++[(16384,[]),(16384,[])]) (getI_new (l:=W)) ?_ (right_bad (getI_new (l:=W)) rfl (read5 0 1 []) rfl) (getI_new (l:=W))) ?_
    · have:=nx_fb (Ps:=P++[(16384,[]),(16384,fb 5 0 1 []++[])]) (rest:=[]) ok5 (getI_new1 (l:=P)) (by simp)
      rw [set_new1] at this
      rw [List.append_nil] at this
      exact this
    · rw [set_new]
      exact loop_inl (out_bad (getI_new (l:=W)))
  have o4 : F_watch_Watch_Out (W.length : Int) (fb 4 0 0 []) (M ++ [[]]) (W ++ [wAt M P D 0 false false true 0 65535 [] 1 false]) S (P ++ [(16384, []), (16384, [])]) (D ++ [((T.length : Int), false)]) (T ++ [([], (0, 4096))]) =
      some (2,W++[wAt M P D 0 false false true 0 65535 [] 1 false],S,P++[(16384,[]),(16384,fb 4 0 0 [])],D++[((T.length:Int),false)],T++[([],(0,4096))]):=by
    rw [out_at (getI_new (l:=W)) (getI_new1 (l:=P)) (by rw [fb_len];simp),set_new1]
    exact loop_inl (out_bad (getI_new (l:=W)))
  refine ⟨wAt M P D 0 false false true 0 65535 [] 1 false,(16384,[]),(16384,fb 4 0 0 []),?_⟩
  unfold F_wlvlaw27_first
  rw [new_at,Option.bind_some]
  dsimp only
  rw [show eqI (W.length:Int) (-1)=false from beq_eq_false_iff_ne.2 (by omega),cond_false,o1,Option.bind_some]
  dsimp only
  rw [show ((0:Int) != 0)=false from rfl,cond_false,fr_one W rfl,Option.bind_some,show ((0:Int) != 0)=false from rfl,cond_false,settings_eq false,Option.bind_some]
  dsimp only
  have p4:F_wlvref10_Put 4 (cond false 1 0) 0 []=some (fb 4 0 0 [],0):=put_eq (ok4 false)
  rw [p4,Option.bind_some,put_eq ok5,Option.bind_some]
  dsimp only
  rw [o2,Option.bind_some]
  dsimp only
  rw [show ((0:Int)==0)=true from rfl,cond_true,fr_one W rfl,Option.bind_some,show ((1:Int)==1)=true from rfl,cond_true,o3,Option.bind_some]
  dsimp only
  rw [show ((2:Int)==2)=true from rfl,cond_true,o4,Option.bind_some]
  rfl
end
def preL:List Int:=[80,82,73,32,42,32,72,84,84,80,47,50,46,48,13,10,13,10,83,77,13,10,13,10]
def be4 (n:Int):List Int:=[n / 16777216,n / 65536 % 256,n / 256 % 256,n % 256]
theorem ok_up {s n:Int} (hs:0<=s /\ s<=2147483647):okFb 8 0 s (be4 n):=⟨by omega,by omega,hs,by simp [be4]⟩
theorem ok_one {k fl s:Int} {b:List Int} (h:okFb k fl s b):okFbs [(k,fl,s,b)]:=fun f hfm=>by rw [List.mem_singleton.1 hfm];exact h
theorem ok_head {s:Int} {b:List Int} (hs:0<=s /\ s<=2147483647) (hb:b.length<=16384):okFb 1 4 s b:=⟨by omega,by omega,hs,hb⟩
section
variable {M : List MD} {W : List WD} {S : List SD} {P : List PD} {D : List DD} {T : List TD}
variable {head highest window frames : Int} {deaf blind bad gone : Bool} {waits : List (List (Int × Int))}
theorem get_in {X Y:List Int}:getI (P++[(16384,X),(16384,Y)]) (P.length:Int)=some (16384,X):=getI_new0
theorem get_out {X Y:List Int}:getI (P++[(16384,X),(16384,Y)]) ((P.length:Int)+1)=some (16384,Y):=getI_new1
end
def statusF:Fld:=([58,115,116,97,116,117,115],[50,48,48],false)
theorem get8:F_pint_Get [136] 7=some (8,1,0):=by decide +kernel
theorem stat8:F_stat_Get 8=some ([58,115,116,97,116,117,115],[50,48,48],false,true):=by decide +kernel
theorem size8:F_stat_Size [58,115,116,97,116,117,115] [50,48,48] false=some 42:=by decide +kernel
theorem at8 {l:List Int} {t i3 i4:Int} {l5:List Fld} {T:List TD}:F_unpack_block_at l t i3 i4 l5 8 T=some ([58,115,116,97,116,117,115],[50,48,48],false,true,l,t,i3,i4,l5):=by
 unfold F_unpack_block_at
 rw [show decide ((8:Int)<=61)=true from rfl,cond_true,stat8]
 rfl
theorem keep8 {l:List Int} {t:Int}:F_unpack_block_keep l t 2147483647 0 [] [58,115,116,97,116,117,115] [50,48,48] false=some (l,t,2147483647,42,[statusF]):=by
 unfold F_unpack_block_keep
 rw [size8,Option.bind_some,show decide (IntKind.i64.wrap (0+42)<=2147483647)=true from by decide +kernel,cond_true,chk_t (by decide +kernel)]
 rfl
set_option maxRecDepth 20000 in
theorem read88 {t:Int} {T:List TD}:F_unpack_block_read [136] t 2147483647 0 [] T=some (true,[],t,2147483647,42,[statusF],T):=by
 unfold F_unpack_block_read
 refine (join_inr (s:=(1,(false,0,false,[],[],false,[136],t,2147483647,0,[],T))) rfl).trans
  (loop_inr (s':=(4,(true,0,false,[58,115,116,97,116,117,115],[50,48,48],false,[],t,2147483647,0,[],T))) ?_
   (loop_inr (s':=(0,(true,0,true,[58,115,116,97,116,117,115],[50,48,48],false,[],t,2147483647,42,[statusF],T))) ?_ (loop_inl rfl)))
 ·show F_unpack_block_read_G1_1 (false,0,false,[],[],false,[136],t,2147483647,0,[],T)=_
  unfold F_unpack_block_read_G1_1 F_unpack_block_number
  dsimp only
  rw [get8,Option.bind_some]
  dsimp only
  rw [show ((0:Int) != 0)=false from rfl,cond_false,show cutI ([136]:List Int) 1 ((([136]:List Int).length:Nat):Int)=some [] from rfl,Option.bind_some,Option.bind_some]
  dsimp only
  rw [cond_true]
  rw [at8,Option.bind_some]
 ·unfold F_unpack_block_read_G1
  rw [show hasN [0] 4=false from rfl,cond_false,show hasN [1] 4=false from rfl,cond_false,show hasN [2] 4=false from rfl,cond_false,show hasN [3] 4=false from rfl,cond_false,show hasN [4] 4=true from rfl,cond_true]
  unfold F_unpack_block_read_G1_4
  dsimp only
  rw [Bool.not_true,cond_false,keep8,Option.bind_some]
section
variable {p : Int} {M : List MD} {W : List WD} {S : List SD} {P : List PD} {D : List DD} {T : List TD}
variable {head inn out highest m window dec frames : Int} {deaf blind bad gone : Bool} {waits : List (List (Int × Int))} {sets : Int × Int × Int × Int × Int × Int}
theorem decode88 {d t:Int} (hD:getI D d=some (t,false)):F_unpack_Dec_Decode d [136] 2147483647 D T=some ([statusF],0,D,T):=by
 have hd:=getI_nn hD
 unfold F_unpack_Dec_Decode
 rw [chk_t hd,hD,Option.bind_some]
 dsimp only
 rw [cond_false,show F_slices_Clone_byte_byte [136]=some [136] from rfl,Option.bind_some,chk_t hd,Option.bind_some,read88,Option.bind_some]
 rfl
theorem answers_ok {s j t z most:Int} {mm:MD} {w:Option Int} {d0:List Int} {l:List Fld} (hW:getI W p=some (head,inn,out,deaf,blind,bad,highest,m,window,waits,sets,dec,frames,gone)) (hM:getI M m=some mm) (hj:getZ (mapGet mm s) (-1:Int)=j) (hS:getI S j=some (w,false,false,false,d0))
  (hD:getI D dec=some (t,false)) (hT:getI T t=some (l,z,most)) (h1:1<=sets.2.2.2.2.1) (h2:most<=sets.1) :
  F_watch_Watch_answers p 1 4 s [136] [136] 0 0 0 0 [] false false true M W S D T=some (true,S.set j.toNat (w,true,false,false,d0),D,T):=by
 have hp:=getI_nn hW
 have hjn:=getI_nn hS
 have hj1:eqI j (-1)=false:=by
  have:0<=j:=of_decide_eq_true hjn
  exact beq_eq_false_iff_ne.2 (by omega)
 have hS1:=getI_set (x:=(w,true,false,false,d0)) hS
 have hdt:F_unpack_Dec_Table dec D=some t:=by
  unfold F_unpack_Dec_Table
  rw [chk_t (getI_nn hD),hD];rfl
 have hmo:F_dyn_Table_Most t T=some most:=by
  unfold F_dyn_Table_Most
  rw [chk_t (getI_nn hT),hT];rfl
 unfold F_watch_Watch_answers
 rw [live_one hW hM hj hS,Option.bind_some,hj1,cond_false,chk_t hp,hW,Option.bind_some]
 dsimp only
 rw [decide_eq_false (show ¬ ((([136]:List Int).length:Nat):Int) > sets.2.2.2.2.1 by show ¬ (1:Int) > _;omega),cond_false,chk_t hp,Option.bind_some,decode88 hD,Option.bind_some]
 dsimp only
 rw [show (((0:Int) != 0)||((([statusF].length:Nat):Int)==0))=false from rfl,cond_false,show getI [statusF] 0=some statusF from rfl,Option.bind_some,show (!(statusF.1==([58,115,116,97,116,117,115]:List Int)))=false from rfl,cond_false,chk_t hp,Option.bind_some,hdt,Option.bind_some,hmo,Option.bind_some,chk_t hp,Option.bind_some,
  decide_eq_false (show ¬ most > sets.1 by omega),cond_false,chk_t hjn,hS,Option.bind_some,chk_t hjn]
 dsimp only
 rw [hS1,Option.bind_some]
 dsimp only
 rw [set_two]
theorem nx_in {f:Fr4} {r:List Fr4} {Y:List Int} (h:okFbs (f::r)) (hr:r.length<=100):F_frame_Parser_Next (P.length:Int) (P++[(16384,fbs (f::r)),(16384,Y)])=some (f.1,f.2.1,f.2.2.1,f.2.2.2,0,P++[(16384,fbs r),(16384,Y)]):=by
 have hl:=fbs_len (l:=r) fun x hx=>h x (List.mem_cons_of_mem _ hx)
 have:=nx_fb (Ps:=P++[(16384,fb f.1 f.2.1 f.2.2.1 f.2.2.2++fbs r),(16384,Y)]) (rest:=fbs r) (h f List.mem_cons_self) (get_in (P:=P)) (by omega)
 rw [set_new0] at this
 exact this
theorem nx_out {f:Fr4} {r:List Fr4} {X:List Int} (h:okFbs (f::r)) (hr:r.length<=100):F_frame_Parser_Next ((P.length:Int)+1) (P++[(16384,X),(16384,fbs (f::r))])=some (f.1,f.2.1,f.2.2.1,f.2.2.2,0,P++[(16384,X),(16384,fbs r)]):=by
 have hl:=fbs_len (l:=r) fun x hx=>h x (List.mem_cons_of_mem _ hx)
 have:=nx_fb (Ps:=P++[(16384,X),(16384,fb f.1 f.2.1 f.2.2.1 f.2.2.2++fbs r)]) (rest:=fbs r) (h f List.mem_cons_self) (get_out (P:=P)) (by omega)
 rw [set_new1] at this
 exact this
theorem sent_at {n j:Int} {mm:MD} {x1:Option Int} {b1 b2 b3:Bool} {dd:List Int} (hW:getI W p=some (head,inn,out,deaf,blind,bad,highest,m,window,waits,sets,dec,frames,gone)) (hM:getI M m=some mm) (hj:getZ (mapGet mm n) (-1:Int)=j) (hS:getI S j=some (x1,b1,b2,b3,dd)) (hd:dd.length<=100000000) :
  F_watch_Watch_Sent p n M W S=some dd:=by
 have hp:=getI_nn hW
 have hjn:=getI_nn hS
 have hj1:eqI j (-1)=false:=by
  have:0<=j:=of_decide_eq_true hjn
  exact beq_eq_false_iff_ne.2 (by omega)
 unfold F_watch_Watch_Sent
 rw [chk_t hp,hW,Option.bind_some]
 dsimp only
 rw [hM,Option.bind_some,hj,hj1,Bool.not_false,cond_true,chk_t hjn,hS,Option.bind_some]
 dsimp only
 rw [clone_eq hd]
 rfl
theorem frames_at (hW:getI W p=some (head,inn,out,deaf,blind,bad,highest,m,window,waits,sets,dec,frames,gone)):F_watch_Watch_Frames p W=some frames:=by
 unfold F_watch_Watch_Frames
 rw [chk_t (getI_nn hW),hW]
 rfl
end
theorem ok_data {fl s:Int} {b:List Int} (hf:0<=fl /\ fl < 256) (hs:0<=s /\ s<=2147483647) (hb:b.length<=16384):okFb 0 fl s b:=⟨by omega,hf,hs,hb⟩
theorem ok_rst {s c:Int} (hs:0<=s /\ s<=2147483647):okFb 3 0 s (be4 c):=⟨by omega,by omega,hs,by simp [be4]⟩
theorem ok_cons {f:Fr4} {r:List Fr4} (h:okFb f.1 f.2.1 f.2.2.1 f.2.2.2) (k:okFbs r):okFbs (f::r):=fun x hx=>by
 rcases List.mem_cons.1 hx with e | hx
 ·rw [e];exact h
 ·exact k x hx
section
variable (M : List MD) (W : List WD) (S : List SD) (P : List PD) (D : List DD) (T : List TD)
abbrev mm2:MD:=[(1,(S.length:Int)),(3,(S.length:Int)+1)]
abbrev sd (w:Int) (b e r:Bool) (d:List Int):SD:=(some w,b,e,r,d)
abbrev fS:Fr4:=(4,0,0,[])
abbrev fH (s x:Int):Fr4:=(1,4,s,[x])
abbrev fD (fl:Int) (b:List Int):Fr4:=(0,fl,1,b)
abbrev fR:Fr4:=(3,0,3,be4 8)
abbrev fU (s n:Int):Fr4:=(8,0,s,be4 n)
theorem j1:getZ (mapGet (mm2 S) 1) (-1:Int)=(S.length:Int):=rfl
theorem j3:getZ (mapGet (mm2 S) 3) (-1:Int)=(S.length:Int)+1:=rfl
theorem okH {s x:Int} (hs:0<=s /\ s<=2147483647):okFb 1 4 s [x]:=ok_head hs (by simp)
theorem okU {s n:Int} (hs:0<=s /\ s<=2147483647):okFb (fU s n).1 (fU s n).2.1 (fU s n).2.2.1 (fU s n).2.2.2:=ok_up hs
theorem okS:okFb 4 0 0 []:=ok4 false
theorem getS0 {x y:SD}:getI (S++[x,y]) (S.length:Int)=some x:=getI_new0
theorem getS1 {x y:SD}:getI (S++[x,y]) ((S.length:Int)+1)=some y:=getI_new1
theorem ri_in:F_watch_Watch_In (W.length:Int) (preL++fbs [fS,fH 1 130,fH 3 130]) (M++[[]]) (W++[w0 M P D]) S (P++[(16384,[]),(16384,[])]) =
  some (M++[mm2 S],W++[wAt M P D 24 false false false 3 65535 [[]] 0 false],S++[sd 65535 false false false [],sd 65535 false false false []],P++[(16384,[]),(16384,[])]):=by
 have ok3:okFbs [fH 3 130]:=ok_one (okH (s:=3) (by decide))
 have ok2:okFbs [fH 1 130,fH 3 130]:=ok_cons (okH (s:=1) (by decide)) ok3
 have ok1:okFbs [fS,fH 1 130,fH 3 130]:=ok_cons okS ok2
 have hM0:getI (M++[([]:MD)]) (M.length:Int)=some []:=getI_new
 have hM1:getI (M++[[(1,(S.length:Int))]]) (M.length:Int)=some [(1,(S.length:Int))]:=getI_new
 rw [in_first (getI_new (l:=W)) (get_in (P:=P)) rfl (by have:=fbs_len ok1;simp at this ⊢;omega),set_new,set_new0,List.nil_append]
 refine loop_inr (in_step (getI_new (l:=W)) (nx_in ok1 (by simp)) (hears_settings (getI_new (l:=W)) (by simp))) ?_
 dsimp only
 rw [set_new]
 refine loop_inr (in_step (getI_new (l:=W)) (nx_in ok2 (by simp)) (hears_headers (getI_new (l:=W)) hM0 (by simp) rfl rfl (by decide))) ?_
 dsimp only
 rw [set_new,set_new]
 refine loop_inr (in_step (getI_new (l:=W)) (nx_in ok3 (by simp)) (hears_headers (getI_new (l:=W)) hM1 (by simp) rfl rfl (by decide))) ?_
 dsimp only
 rw [set_new,set_new]
 have e:((S++[sd 65535 false false false []]).length:Int)=(S.length:Int)+1:=by rw [List.length_append];simp
 rw [e,List.append_assoc]
 exact loop_inl (in_short (getI_new (l:=W)) (nx_short (get_in (P:=P)) (by simp [fbs])))
variable {M W S P D T}
theorem ri_data {fl c win frames:Int} {s3:SD} {b d:List Int} {r:List Fr4} {X:List Int} {hi:Int} {wa:List (List (Int×Int))} {e:Bool} (hok:okFbs (fD fl b::r)) (hr:r.length<=100) (h8:(bits .and .i64 fl 8==0)=true) (he:decide (bits .and .i64 fl 1 > 0)=e) (hc:InW c) (hw:InW win) (h1:(b.length:Int)<=c) (h2:(b.length:Int)<=win) (hd:d.length+b.length<=1000000000) (hf:1<=frames /\ frames<=1000000) :
  F_watch_Watch_Out_L3 (W.length:Int) (M++[mm2 S]) (W++[wAt M P D 24 false false false hi win wa frames false],S++[sd c true false false d,s3],P++[(16384,X),(16384,fbs (fD fl b::r))],D++[((T.length:Int),false)],T++[([],(0,4096))]) =
   some (.inr (W++[wAt M P D 24 false false false hi (win - (b.length:Int)) wa (frames+1) false],S++[sd (c - (b.length:Int)) true e false (d++b),s3],P++[(16384,X),(16384,fbs r)],D++[((T.length:Int),false)],T++[([],(0,4096))])):=by
 have hb:b.length<=16384:=(hok _ List.mem_cons_self).2.2.2
 have hf0:(frames==0)=false:=beq_eq_false_iff_ne.2 (by omega)
 have hs:=sends_ok (p:=(W.length:Int)) (fl:=fl) (s:=1) (e:=e) (getI_new (l:=W) (y:=wAt M P D 24 false false false hi win wa frames false)) (getI_new (l:=M) (y:=mm2 S)) (j1 S) (getS0 S (x:=sd c true false false d) (y:=s3)) (by show (b.length:Int)<=16384;omega) hc hw h1 h2 hd
 rw [set_new,set_new0] at hs
 have:=out_step (M:=M++[mm2 S]) (getI_new (l:=W)) (nx_out (P:=P) (X:=X) hok hr) (right_data (T:=T++[([],(0,4096))]) (D:=D++[((T.length:Int),false)]) (getI_new (l:=W)) hf0 hb rfl h8 (by rw [he];exact hs)) (getI_new (l:=W) (y:=wAt M P D 24 false false false hi (win - (b.length:Int)) wa frames false)) (by omega)
 rw [set_new] at this
 exact this
theorem ri_out {b:List Int} (hb:b.length<=16000):F_watch_Watch_Out (W.length:Int) (fbs [fS,fH 1 136,fD 0 b,fD 0 b,fD 0 b,fD 0 b,fR]) (M++[mm2 S]) (W++[wAt M P D 24 false false false 3 65535 [[]] 0 false]) (S++[sd 65535 false false false [],sd 65535 false false false []]) (P++[(16384,[]),(16384,[])]) (D++[((T.length:Int),false)]) (T++[([],(0,4096))]) =
  some (0,W++[wAt M P D 24 false false false 3 (65535 - (b.length:Int) - (b.length:Int) - (b.length:Int) - (b.length:Int)) [[]] 7 false],S++[sd (65535 - (b.length:Int) - (b.length:Int) - (b.length:Int) - (b.length:Int)) true false false ((([]++b)++b)++b++b),sd 65535 false false true []],P++[(16384,[]),(16384,[])],D++[((T.length:Int),false)],T++[([],(0,4096))]):=by
 have ok7:okFbs [fR]:=ok_one (ok_rst (by omega))
 have okD:okFb 0 0 1 b:=ok_data (by omega) (by omega) (by omega)
 have ok6:okFbs [fD 0 b,fR]:=ok_cons okD ok7
 have ok5:okFbs [fD 0 b,fD 0 b,fR]:=ok_cons okD ok6
 have ok4':okFbs [fD 0 b,fD 0 b,fD 0 b,fR]:=ok_cons okD ok5
 have ok3:okFbs [fD 0 b,fD 0 b,fD 0 b,fD 0 b,fR]:=ok_cons okD ok4'
 have ok2:okFbs [fH 1 136,fD 0 b,fD 0 b,fD 0 b,fD 0 b,fR]:=ok_cons (okH (s:=1) (by decide)) ok3
 have ok1:okFbs [fS,fH 1 136,fD 0 b,fD 0 b,fD 0 b,fD 0 b,fR]:=ok_cons okS ok2
 have hl:=fbs_len ok1
 rw [out_at (getI_new (l:=W)) (get_out (P:=P)) (by simp at hl ⊢;omega),set_new1,List.nil_append]
 have gM:getI (M++[mm2 S]) (M.length:Int)=some (mm2 S):=getI_new
 refine loop_inr (out_step (getI_new (l:=W)) (nx_out ok1 (by simp)) (right_settings (getI_new (l:=W)) rfl) (getI_new (l:=W)) (by omega)) ?_
 rw [set_new]
 have ha:=answers_ok (s:=1) (T:=T++[([],(0,4096))]) (D:=D++[((T.length:Int),false)]) (getI_new (l:=W) (y:=wAt M P D 24 false false false 3 65535 [[]] 1 false)) gM (j1 S) (getS0 S (x:=sd 65535 false false false []) (y:=sd 65535 false false false [])) getI_new getI_new (by show (1:Int)<=16384;decide) (by show (4096:Int)<=4096;decide)
 rw [set_new0] at ha
 refine loop_inr (out_step (getI_new (l:=W)) (nx_out ok2 (by simp)) (right_head (getI_new (l:=W)) rfl (by simp) rfl ha) (getI_new (l:=W)) (by omega)) ?_
 rw [set_new]
 refine loop_inr (ri_data (e:=false) ok3 (by simp) (by decide +kernel) (by decide +kernel) ⟨by omega,by omega⟩ ⟨by omega,by omega⟩ (by omega) (by omega) (by simp;omega) (by omega)) ?_
 refine loop_inr (ri_data (e:=false) ok4' (by simp) (by decide +kernel) (by decide +kernel) ⟨by omega,by omega⟩ ⟨by omega,by omega⟩ (by omega) (by omega) (by simp;omega) (by omega)) ?_
 refine loop_inr (ri_data (e:=false) ok5 (by simp) (by decide +kernel) (by decide +kernel) ⟨by omega,by omega⟩ ⟨by omega,by omega⟩ (by omega) (by omega) (by simp;omega) (by omega)) ?_
 refine loop_inr (ri_data (e:=false) ok6 (by simp) (by decide +kernel) (by decide +kernel) ⟨by omega,by omega⟩ ⟨by omega,by omega⟩ (by omega) (by omega) (by simp;omega) (by omega)) ?_
 have hr:=right_rst (s:=3) (c:=8) (T:=T++[([],(0,4096))]) (D:=D++[((T.length:Int),false)]) (getI_new (l:=W) (y:=wAt M P D 24 false false false 3 (65535 - (b.length:Int) - (b.length:Int) - (b.length:Int) - (b.length:Int)) [[]] 6 false)) rfl rfl (by decide) (by decide) gM (j3 S) (getS1 S (x:=sd (65535 - (b.length:Int) - (b.length:Int) - (b.length:Int) - (b.length:Int)) true false false ((([]++b)++b)++b++b)) (y:=sd 65535 false false false []))
 rw [set_new1] at hr
 refine loop_inr (out_step (getI_new (l:=W)) (nx_out ok7 (by simp)) hr (getI_new (l:=W)) (by omega)) ?_
 rw [set_new]
 exact loop_inl (out_short (getI_new (l:=W)) (nx_short (get_out (P:=P)) (by simp [fbs])))
theorem ri_more {c win more frames:Int} {d:List Int} {s3:SD} (hc:InW c) (hw:InW win) (h0:1<=more) (h1:more<=30000) (h2:c<=65535) (h3:win<=65535) :
  F_watch_Watch_In (W.length:Int) (fbs [fU 1 more,fU 0 more]) (M++[mm2 S]) (W++[wAt M P D 24 false false false 3 win [[]] frames false]) (S++[sd c true false false d,s3]) (P++[(16384,[]),(16384,[])]) =
   some (M++[mm2 S],W++[wAt M P D 24 false false false 3 (win+more) [[]] frames false],S++[sd (c+more) true false false d,s3],P++[(16384,[]),(16384,[])]):=by
 have ok2:okFbs [fU 0 more]:=ok_one (okU (s:=0) (by decide))
 have ok1:okFbs [fU 1 more,fU 0 more]:=ok_cons (okU (s:=1) (by decide)) ok2
 have gM:getI (M++[mm2 S]) (M.length:Int)=some (mm2 S):=getI_new
 have hl:=fbs_len ok1
 rw [in_at (getI_new (l:=W)) (get_in (P:=P)) (by simp at hl ⊢;omega),set_new0,List.nil_append]
 have g1:=granted1 (p:=(W.length:Int)) (s:=1) (n:=more) (getI_new (l:=W) (y:=wAt M P D 24 false false false 3 win [[]] frames false)) gM rfl (j1 S) (getS0 S (x:=sd c true false false d) (y:=s3)) hc (by omega) (by omega) (by omega)
 rw [set_new,set_new0] at g1
 have g2:=granted0 (p:=(W.length:Int)) (n:=more) (M:=M++[mm2 S]) (S:=S++[sd (c+more) true false false d,s3]) (getI_new (l:=W) (y:=wAt M P D 24 false false false 3 win [[]] frames false)) hw (by omega) (by omega)
 rw [set_new,decide_eq_false (show ¬ win+more > 2147483647 by omega),cond_false] at g2
 refine loop_inr (in_step (getI_new (l:=W)) (nx_in ok1 (by simp)) (hears_update h0 (by omega) g1)) ?_
 refine loop_inr (in_step (getI_new (l:=W)) (nx_in ok2 (by simp)) (hears_update h0 (by omega) g2)) ?_
 exact loop_inl (in_short (getI_new (l:=W)) (nx_short (get_in (P:=P)) (by simp [fbs])))
theorem ri_end {c win:Int} {b d:List Int} {s3:SD} (hb:b.length<=16384) (hc:InW c) (hw:InW win) (h1:(b.length:Int)<=c) (h2:(b.length:Int)<=win) (hd:d.length<=100000) :
  F_watch_Watch_Out (W.length:Int) (fbs [fD 1 b]) (M++[mm2 S]) (W++[wAt M P D 24 false false false 3 win [[]] 7 false]) (S++[sd c true false false d,s3]) (P++[(16384,[]),(16384,[])]) (D++[((T.length:Int),false)]) (T++[([],(0,4096))]) =
   some (0,W++[wAt M P D 24 false false false 3 (win - (b.length:Int)) [[]] 8 false],S++[sd (c - (b.length:Int)) true true false (d++b),s3],P++[(16384,[]),(16384,[])],D++[((T.length:Int),false)],T++[([],(0,4096))]):=by
 have ok1:okFbs [fD 1 b]:=ok_one (ok_data (by omega) (by omega) hb)
 have hl:=fbs_len ok1
 rw [out_at (getI_new (l:=W)) (get_out (P:=P)) (by simp at hl ⊢;omega),set_new1,List.nil_append]
 refine loop_inr (ri_data (e:=true) ok1 (by simp) (by decide +kernel) (by decide +kernel) hc hw h1 h2 (by omega) (by omega)) ?_
 exact loop_inl (out_short (getI_new (l:=W)) (nx_short (get_out (P:=P)) (by simp [fbs])))
end
theorem ri_true (M:List MD) (W:List WD) (S:List SD) (P:List PD) (D:List DD) (T:List TD) (n more:Int):∃ z,F_wlvlaw27_WatchRight n more M W S P D T=some (true,z):=by
  obtain ⟨w,x,y,h1⟩:=first_any M W S P D T
  unfold F_wlvlaw27_WatchRight
  rw [h1,Option.bind_some]
  dsimp only
  rw [Bool.not_true,cond_false]
  generalize M++[[]]=M
  generalize W++[w]=W
  generalize P++[x,y]=P
  generalize D++[((T.length:Int),false)]=D
  generalize T++[([],((0:Int),(4096:Int)))]=T
  rw [new_at,Option.bind_some]
  dsimp only
  rw [show eqI (W.length:Int) (-1)=false from beq_eq_false_iff_ne.2 (by omega)]
  by_cases hr:n < 0 \/ n > 16000 \/ more < 1 \/ more > 30000
  · have e : ((((false || (decide (n < 0))) || (decide (n > 16000))) || (decide (more < 1))) || (decide (more > 30000))) = true := by
      rcases hr with h | h | h | h <;> simp [h]
    rw [e,cond_true,Bool.not_false,cond_true]
    obtain ⟨w2,x2,y2,h2⟩:=first_any (M++[[]]) (W++[w0 M P D]) S (P++[(16384,[]),(16384,[])]) (D++[((T.length:Int),false)]) (T++[([],(0,4096))])
    rw [h2,Option.bind_some]
    exact ⟨_,rfl⟩
  have e:((((false||(decide (n < 0)))||(decide (n > 16000)))||(decide (more < 1)))||(decide (more > 30000)))=false:=by
    rw [decide_eq_false (show ¬ n < 0 by omega),decide_eq_false (show ¬ n > 16000 by omega),decide_eq_false (show ¬ more < 1 by omega),decide_eq_false (show ¬ more > 30000 by omega)]
    rfl
  rw [e,cond_false,settings_eq false,Option.bind_some]
  dsimp only
  have ok3:okFbs [fH 3 130]:=ok_one (okH (s:=3) (by decide))
  have ok2:okFbs [fH 1 130,fH 3 130]:=ok_cons (okH (s:=1) (by decide)) ok3
  have ok1:okFbs [fS,fH 1 130,fH 3 130]:=ok_cons okS ok2
  have fe1:F_wlvlaw27_frames [(4,cond false 1 0,0,[]),(1,4,1,[130]),(1,4,3,[130])]=some (fbs [fS,fH 1 130,fH 3 130]):=frames_eq (by simp) ok1
  have hl1:=fbs_len ok1
  rw [fe1,Option.bind_some,chk_t (by decide +kernel),chk_t (by decide +kernel),List.take_length]
  have a1:F_watch_Watch_In (W.length:Int) ([80,82,73,32,42,32,72,84,84,80,47,50,46,48,13,10,13,10,83,77,13,10,13,10]++fbs [fS,fH 1 130,fH 3 130]) (M++[[]]) (W++[w0 M P D]) S (P++[(16384,[]),(16384,[])])=_:=ri_in M W S P D
  rw [a1,Option.bind_some]
  dsimp only
  obtain ⟨b,hb⟩:∃ b,List.replicate n.toNat (0:Int)=b:=⟨_,rfl⟩
  have hbl:(b.length:Int)=n:=by rw [<-hb,List.length_replicate];omega
  have hm:maxLen=9223372036854775807:=rfl
  rw [chk_t (by simp only [Bool.and_eq_true,decide_eq_true_eq];omega),Option.bind_some]
  dsimp only
  rw [rst_eq (by decide) (by decide),Option.bind_some]
  dsimp only
  rw [hb]
  have okD:okFb 0 0 1 b:=ok_data (by omega) (by omega) (by omega)
  have okl:okFbs [fS,fH 1 136,fD 0 b,fD 0 b,fD 0 b,fD 0 b,fR]:=ok_cons okS (ok_cons (okH (s:=1) (by decide)) (ok_cons okD (ok_cons okD (ok_cons okD (ok_cons okD (ok_one (ok_rst (by omega))))))))
  have fe2:F_wlvlaw27_frames [(4,cond false 1 0,0,[]),(1,4,1,[136]),(0,0,1,b),(0,0,1,b),(0,0,1,b),(0,0,1,b),(3,0,3,[8 / 16777216,8 / 65536 % 256,8 / 256 % 256,8 % 256])]=some (fbs [fS,fH 1 136,fD 0 b,fD 0 b,fD 0 b,fD 0 b,fR]):=frames_eq (by simp) okl
  rw [fe2,Option.bind_some,ri_out (T:=T) (by omega),Option.bind_some,update_eq (by omega) (by omega),Option.bind_some,update_eq (by omega) (by omega),Option.bind_some]
  dsimp only
  have fe3:F_wlvlaw27_frames [(8,0,1,[more / 16777216,more / 65536 % 256,more / 256 % 256,more % 256]),(8,0,0,[more / 16777216,more / 65536 % 256,more / 256 % 256,more % 256])]=some (fbs [fU 1 more,fU 0 more]):=frames_eq (by simp) (ok_cons (okU (s:=1) (by decide)) (ok_one (okU (s:=0) (by decide))))
  obtain ⟨c,hc⟩:∃ c:Int,65535 - (b.length:Int) - (b.length:Int) - (b.length:Int) - (b.length:Int)=c:=⟨_,rfl⟩
  have hc0:c=65535 - 4*n:=by omega
  obtain ⟨d,hd⟩:∃ d:List Int,(([]++b)++b)++b++b=d:=⟨_,rfl⟩
  have hdl:(d.length:Int)=4*n:=by rw [<-hd];simp only [List.length_append,List.length_nil];omega
  rw [hc,hd,fe3,Option.bind_some,ri_more (more:=more) (show InW c from ⟨by omega,by omega⟩) (show InW c from ⟨by omega,by omega⟩) (by omega) (by omega) (by omega) (by omega),Option.bind_some]
  dsimp only
  obtain ⟨k,hk⟩:∃ k:Int,minI (IntKind.i64.wrap ((IntKind.i64.wrap (65535 - (IntKind.i64.wrap (4*n))))+more)) 16384=k:=⟨_,rfl⟩
  have hk0:0<=k /\ k<=16384 /\ k<=c+more:=by
    rw [wB64 (x:=4*n) (by omega) (by omega),wB64 (x:=65535 - 4*n) (by omega) (by omega),wB64 (x:=65535 - 4*n+more) (by omega) (by omega)] at hk
    unfold minI at hk
    by_cases h:16384 < 65535 - 4*n+more
    · rw [decide_eq_true h,cond_true] at hk;omega
    · rw [decide_eq_false h,cond_false] at hk;omega
  rw [hk]
  obtain ⟨b2,hb2⟩:∃ b2,List.replicate k.toNat (0:Int)=b2:=⟨_,rfl⟩
  have hb2l:(b2.length:Int)=k:=by rw [<-hb2,List.length_replicate];omega
  rw [chk_t (by simp only [Bool.and_eq_true,decide_eq_true_eq];omega),hb2]
  have fe4:F_wlvlaw27_frames [(0,1,1,b2)]=some (fbs [fD 1 b2]):=frames_eq (by simp) (ok_one (ok_data (by omega) (by omega) (by omega)))
  rw [fe4,Option.bind_some,ri_end (T:=T) (by omega) (show InW (c+more) from ⟨by omega,by omega⟩) (show InW (c+more) from ⟨by omega,by omega⟩) (by omega) (by omega) (by omega),Option.bind_some]
  dsimp only
  obtain ⟨w2,x2,y2,h2⟩:=first_any (M++[mm2 S]) (W++[wAt M P D 24 false false false 3 (c+more - (b2.length:Int)) [[]] 8 false]) (S++[sd (c+more - (b2.length:Int)) true true false (d++b2),sd 65535 false false true []]) (P++[(16384,[]),(16384,[])]) (D++[((T.length:Int),false)]) (T++[([],(0,4096))])
  rw [h2,Option.bind_some]
  dsimp only
  have gW:getI (W++[wAt M P D 24 false false false 3 (c+more - (b2.length:Int)) [[]] 8 false]++[w2]) (W.length:Int)=some (wAt M P D 24 false false false 3 (c+more - (b2.length:Int)) [[]] 8 false):=getI_app getI_new
  have gM:getI (M++[mm2 S]++[[]]) (M.length:Int)=some (mm2 S):=getI_app getI_new
  rw [show ((true&&((0:Int)==0))&&((0:Int)==0))=true from rfl,cond_true,sent_at (n:=1) gW gM (j1 S) (getS0 S) (by simp only [List.length_append];omega),Option.bind_some]
  rw [show (((d++b2).length:Int)==IntKind.i64.wrap (IntKind.i64.wrap (4*n)+k))=true from by
    rw [wB64 (x:=4*n) (by omega) (by omega),wB64 (x:=4*n+k) (by omega) (by omega),List.length_append]
    exact beq_iff_eq.2 (by omega),cond_true,sent_at (n:=3) gW gM (j3 S) (getS1 S) (by simp),Option.bind_some,show ((([]:List Int).length:Int)==0)=true from rfl,cond_true,frames_at gW,Option.bind_some]
  exact ⟨_,rfl⟩
theorem WatchRight_true (n more:Int):∃ z,F_wlvlaw27_WatchRight n more [] [] [] [] [] []=some (true,z):=ri_true [] [] [] [] [] [] n more
end Go.Proofs.YtifbhefbhlbofaaDoor
