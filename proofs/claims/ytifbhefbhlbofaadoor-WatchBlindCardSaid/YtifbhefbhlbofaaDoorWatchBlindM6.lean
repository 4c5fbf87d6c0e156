/- Texts of this claim, one behind the other. -/
import Derived.Test.YtifbhefbhlbofaaDoorWatchBlindM5
set_option maxRecDepth 100000
namespace Go.Proofs.YtifbhefbhlbofaaDoor
open Pv
set_option linter.unusedVariables false
theorem ckW {n m k:Nat} (h:n+m<=1000000000) (hk:k<=1000):(decide ((n+m)*k<=140737488355328)&&decide (n+m<=maxLen))=true:=by
 have hm:maxLen=9223372036854775807:=rfl
 rw [Bool.and_eq_true,decide_eq_true_iff,decide_eq_true_iff]
 have:(n+m)*k<=1000000000*1000:=Nat.mul_le_mul h hk
 omega
section
variable {p : Int} {M : List MD} {W : List WD} {S : List SD} {P : List PD} {D : List DD} {T : List TD}
variable {head inn out highest m window dec frames : Int} {deaf blind bad gone : Bool} {waits : List (List (Int × Int))} {sets : Int × Int × Int × Int × Int × Int}
theorem hears_settings (hW:getI W p=some (head,inn,out,deaf,blind,bad,highest,m,window,waits,sets,dec,frames,gone)) (hl:waits.length<=1000) :
  F_watch_Watch_hears p 4 0 0 [] M W S=some (M,W.set p.toNat (head,inn,out,deaf,blind,bad,highest,m,window,waits++[[]],sets,dec,frames,gone),S):=by
 have hp:=getI_nn hW
 have hr:F_part_Read 4 0 0 []=some ([],0,0,0,0,[],false,false,false,false,false,0):=read_settings false
 have he:eqI p p=true:=beq_self_eq_true p
 unfold F_watch_Watch_hears chk
 rw [hr,Option.bind_some,show ((4:Int)==1)=false from rfl,cond_false,show ((4:Int)==4)=true from rfl,cond_true]
 simp only [Bool.not_false,cond_true,hp,hW,Option.bind_some,he]
 rw [ckW (by simp;omega) (by omega),cond_true]
theorem hears_update {s n:Int} {x:List WD×List SD} (h0:1<=n) (h1:n<=2147483647) (hg:F_watch_Watch_granted p s n M W S=some x):F_watch_Watch_hears p 8 0 s [n / 16777216,n / 65536 % 256,n / 256 % 256,n % 256] M W S=some (M,x.1,x.2):=by
 unfold F_watch_Watch_hears
 rw [read_update h0 h1,Option.bind_some,show ((8:Int)==1)=false from rfl,cond_false,show ((8:Int)==4)=false from rfl,cond_false,show ((8:Int)==8)=true from rfl,cond_true]
 dsimp only
 rw [Bool.not_false,cond_true,hg,Option.bind_some]
theorem inW0:InW 0:=⟨by decide,by decide⟩
theorem granted0 {n:Int} (hW:getI W p=some (head,inn,out,deaf,blind,bad,highest,m,window,waits,sets,dec,frames,gone)) (hw:InW window) (h0:0<=n) (h1:n<=2147483647) :
  F_watch_Watch_granted p 0 n M W S=some (W.set p.toNat (head,inn,out,deaf,decide (window+n > 2147483647),bad,highest,m,cond (decide (window+n > 2147483647)) 0 (window+n),waits,sets,dec,frames,gone),S):=by
 have hp:=getI_nn hW
 unfold F_watch_Watch_granted chk
 rw [show ((0:Int)==0)=true from rfl,cond_true]
 simp only [hp,cond_true,hW,Option.bind_some,windows_in inW0 hw,grant_in inW0 hw (Int.le_refl 0) (by decide) h0 h1]
 have w1:=hw.1
 by_cases h:window+n > 2147483647
 ·rw [decide_eq_true h]
  have:F_flow_Conn ((0,0):Nat×Nat)=some 0:=by
   have:=conn_in inW0 inW0
   unfold fz at this
   rwa [fl_zero] at this
  simp only [cond_true,this,Option.bind_some,getI_set hW,set_two]
 ·rw [decide_eq_false h,decide_eq_false (show ¬ (0:Int)+0 > 2147483647 by decide)]
  simp only [cond_false,conn_in inW0 (show InW (window+n) from ⟨by omega,by omega⟩),show (0:Int)+0=0 from rfl,Option.bind_some,getI_set hW,set_two]
theorem right_settings (hW:getI W p=some (head,inn,out,deaf,blind,bad,highest,m,window,waits,sets,dec,frames,gone)) (hg:gone=false):F_watch_Watch_right p 4 0 0 [] M W S D T=some (true,W,S,D,T):=by
 have hp:=getI_nn hW
 subst hg
 have hr:F_part_Read 4 0 0 []=some ([],0,0,0,0,[],false,false,false,false,false,0):=read_settings false
 unfold F_watch_Watch_right chk
 rw [hr,Option.bind_some,hp,cond_true,hW,Option.bind_some]
 dsimp only
 cases hf:(frames==0) <;> rfl
theorem right_bad {k fl s:Int} {b:List Int} {y:PrtD} (hW:getI W p=some (head,inn,out,deaf,blind,bad,highest,m,window,waits,sets,dec,frames,gone)) (hf:(frames==0)=false) (hr:F_part_Read k fl s b=some y) (hy:y.2.2.2.2.2.2.2.2.2.1=true):F_watch_Watch_right p k fl s b M W S D T=some (false,W,S,D,T):=by
 have hp:=getI_nn hW
 unfold F_watch_Watch_right chk
 rw [hr,Option.bind_some,hp,cond_true,hW,Option.bind_some]
 dsimp only
 rw [hf,cond_false,hy,cond_true,cond_true]
theorem right_head {s:Int} {b:List Int} (hW:getI W p=some (head,inn,out,deaf,blind,bad,highest,m,window,waits,sets,dec,frames,false)) (hf:(frames==0)=false) (hb:b.length<=16384) (hs:(s==0)=false)
  {x:Bool×List SD×List DD×List TD} (ha:F_watch_Watch_answers p 1 4 s b b 0 0 0 0 [] false false true M W S D T=some x):F_watch_Watch_right p 1 4 s b M W S D T=some (x.1,W,x.2.1,x.2.2.1,x.2.2.2):=by
 have hp:=getI_nn hW
 have hr:F_part_Read 1 4 s b=some (b,0,0,0,0,[],false,false,true,false,false,0):=by
  rw [read1,bodied_head hs (by decide +kernel) (by decide +kernel) hb]
  rfl
 unfold F_watch_Watch_right chk
 rw [hr,Option.bind_some,hp,cond_true,hW,Option.bind_some]
 dsimp only
 rw [hf,cond_false]
 have e:((F_watch_Watch_answers p 1 4 s b b 0 0 0 0 [] false false true M W S D T).bind fun x13=>some (x13.1,W,x13.2.1,x13.2.2.1,x13.2.2.2))=some (x.1,W,x.2.1,x.2.2.1,x.2.2.2):=by rw [ha,Option.bind_some]
 exact e
theorem live_none {s:Int} {mm:MD} (hW:getI W p=some (head,inn,out,deaf,blind,bad,highest,m,window,waits,sets,dec,frames,gone)) (hM:getI M m=some mm) (hj:getZ (mapGet mm s) (-1:Int) = -1):F_watch_Watch_live p s M W S=some (-1):=by
 have hp:=getI_nn hW
 unfold F_watch_Watch_live chk
 simp only [hp,cond_true,hW,Option.bind_some,hM,hj]
 rfl
theorem answers_none {s:Int} {b:List Int} {mm:MD} (hW:getI W p=some (head,inn,out,deaf,blind,bad,highest,m,window,waits,sets,dec,frames,gone)) (hM:getI M m=some mm) (hj:getZ (mapGet mm s) (-1:Int) = -1) :
  F_watch_Watch_answers p 1 4 s b b 0 0 0 0 [] false false true M W S D T=some (false,S,D,T):=by
 unfold F_watch_Watch_answers
 rw [live_none hW hM hj,Option.bind_some]
 rfl
end
theorem chk_t {R:Type} {b:Bool} {r:Option R} (h:b=true):chk b r=r:=by subst h;rfl
theorem set_new {α:Type} {l:List α} {x y:α}:(l++[y]).set (l.length:Int).toNat x=l++[x]:=by
 rw [Int.toNat_natCast,List.set_append_right _ _ (Nat.le_refl _),Nat.sub_self];rfl
theorem set_new0 {α:Type} {l r:List α} {x y:α}:(l++y::r).set (l.length:Int).toNat x=l++x::r:=by
 rw [Int.toNat_natCast,List.set_append_right _ _ (Nat.le_refl _),Nat.sub_self];rfl
theorem set_new1 {α:Type} {l:List α} {x y z:α}:(l++[y,z]).set ((l.length:Int)+1).toNat x=l++[y,x]:=by
 rw [show ((l.length:Int)+1).toNat=l.length+1 by omega,List.set_append_right _ _ (Nat.le_add_right _ _),Nat.add_sub_cancel_left];rfl
theorem getI_new1 {α:Type} {l:List α} {y z:α}:getI (l++[y,z]) ((l.length:Int)+1)=some z:=by
 unfold getI
 rw [decide_eq_true (by omega),cond_true,show ((l.length:Int)+1).toNat=l.length+1 by omega,List.getElem?_append_right (Nat.le_add_right _ _),Nat.add_sub_cancel_left];rfl
theorem ok4 (a:Bool):okFb 4 (cond a 1 0) 0 []:=⟨by omega,by cases a <;> exact ⟨by decide,by decide⟩,by omega,by simp⟩
theorem ok5:okFb 5 0 1 []:=⟨by omega,by omega,by omega,by simp⟩
theorem nx_fb {p:Int} {Ps:List PD} {k fl s:Int} {body rest:List Int} (hok:okFb k fl s body) (hg:getI Ps p=some (16384,fb k fl s body++rest)) (hr:rest.length<=1000000000):F_frame_Parser_Next p Ps=some (k,fl,s,body,0,Ps.set p.toNat (16384,rest)):=next_fb (getI_nn hg) hok hg hr
theorem nx_short {p:Int} {Ps:List PD} {X:List Int} (hg:getI Ps p=some (16384,X)) (hX:X.length < 9):F_frame_Parser_Next p Ps=some (0,0,0,[],4,Ps):=next_short (getI_nn hg) hg hX
abbrev st5:Int×Int×Int×Int×Int×Int:=(4096,1,2147483647,65535,16384,2147483647)
section
variable (M : List MD) (W : List WD) (S : List SD) (P : List PD) (D : List DD) (T : List TD)
abbrev wAt (head:Int) (deaf blind bad:Bool) (highest window:Int) (waits:List (List (Int×Int))) (frames:Int) (gone:Bool):WD:=(head,(P.length:Int),(P.length:Int)+1,deaf,blind,bad,highest,(M.length:Int),window,waits,st5,(D.length:Int),frames,gone)
theorem fr_one {w:WD} {h i o:Int} {a b c:Bool} {hi m win:Int} {wa:List (List (Int×Int))} {se:Int×Int×Int×Int×Int×Int} {de f:Int} {g:Bool} (hw:w=(h,i,o,a,b,c,hi,m,win,wa,se,de,f,g)):F_watch_Watch_Frames (W.length:Int) (W++[w])=some f:=by
 subst hw
 unfold F_watch_Watch_Frames
 have hg:=getI_new (l:=W) (y:=((h,i,o,a,b,c,hi,m,win,wa,se,de,f,g):WD))
 rw [chk_t (getI_nn hg),hg,Option.bind_some]
theorem first_any:∃ w x y,F_wlvlaw27_first M W S P D T=some (true,M++[[]],W++[w],S,P++[x,y],D++[((T.length:Int),false)],T++[([],(0,4096))]):=by
  have hM:getI (M++[([]:MD)]) (M.length:Int)=some []:=getI_new
  have o1 : F_watch_Watch_Out (W.length : Int) [] (M ++ [[]]) (W ++ [w0 M P D]) S (P ++ [(16384, []), (16384, [])]) (D ++ [((T.length : Int), false)]) (T ++ [([], (0, 4096))]) =
      some (0,W++[w0 M P D],S,P++[(16384,[]),(16384,[])],D++[((T.length:Int),false)],T++[([],(0,4096))]):=by
    rw [out_at (getI_new (l:=W)) (getI_new1 (l:=P)) (by simp),set_new1]
    exact loop_inl (out_short (getI_new (l:=W)) (nx_short (getI_new1 (l:=P)) (by simp)))
  have o2 : F_watch_Watch_Out (W.length : Int) (fb 4 0 0 []) (M ++ [[]]) (W ++ [w0 M P D]) S (P ++ [(16384, []), (16384, [])]) (D ++ [((T.length : Int), false)]) (T ++ [([], (0, 4096))]) =
      some (0,W++[wAt M P D 0 false false false 0 65535 [] 1 false],S,P++[(16384,[]),(16384,[])],D++[((T.length:Int),false)],T++[([],(0,4096))]):=by
    rw [out_at (getI_new (l:=W)) (getI_new1 (l:=P)) (by rw [fb_len];simp),set_new1]
    refine loop_inr (out_step (P':=P++[(16384,[]),(16384,[])]) (getI_new (l:=W)) ?_ (right_settings (getI_new (l:=W)) rfl) (getI_new (l:=W)) (by omega)) ?_
    · have:=nx_fb (Ps:=P++[(16384,[]),(16384,fb 4 0 0 []++[])]) (rest:=[]) (ok4 false) (getI_new1 (l:=P)) (by simp)
      rw [set_new1] at this
      rw [List.append_nil] at this
      exact this
    · rw [set_new]
      exact loop_inl (out_short (getI_new (l:=W)) (nx_short (getI_new1 (l:=P)) (by simp)))
  have o3 : F_watch_Watch_Out (W.length : Int) (fb 5 0 1 []) (M ++ [[]]) (W ++ [wAt M P D 0 false false false 0 65535 [] 1 false]) S (P ++ [(16384, []), (16384, [])]) (D ++ [((T.length : Int), false)]) (T ++ [([], (0, 4096))]) =
      some (2,W++[wAt M P D 0 false false true 0 65535 [] 1 false],S,P++[(16384,[]),(16384,[])],D++[((T.length:Int),false)],T++[([],(0,4096))]):=by
    rw [out_at (getI_new (l:=W)) (getI_new1 (l:=P)) (by rw [fb_len];simp),set_new1]
    refine loop_inr (out_wrong (P':=P++[(16384,[]),(16384,[])]) (getI_new (l:=W)) ?_ (right_bad (getI_new (l:=W)) rfl (read5 0 1 []) rfl) (getI_new (l:=W))) ?_
    · have:=nx_fb (Ps:=P++[(16384,[]),(16384,fb 5 0 1 []++[])]) (rest:=[]) ok5 (getI_new1 (l:=P)) (by simp)
      rw [set_new1] at this
      rw [List.append_nil] at this
      exact this
    · rw [set_new]
      exact loop_inl (out_bad (getI_new (l:=W)))
  have o4 : F_watch_Watch_Out (W.length : Int) (fb 4 0 0 []) (M ++ [[]]) (W ++ [wAt M P D 0 false false true 0 65535 [] 1 false]) S (P ++ [(16384, []), (16384, [])]) (D ++ [((T.length : Int), false)]) (T ++ [([], (0, 4096))]) =
      some (2,W++[wAt M P D 0 false false true 0 65535 [] 1 false],S,P++[(16384,[]),(16384,fb 4 0 0 [])],D++[((T.length:Int),false)],T++[([],(0,4096))]):=by
    rw [out_at (getI_new (l:=W)) (getI_new1 (l:=P)) (by rw [fb_len];simp),set_new1]
    exact loop_inl (out_bad (getI_new (l:=W)))
  refine ⟨wAt M P D 0 false false true 0 65535 [] 1 false,(16384,[]),(16384,fb 4 0 0 []),?_⟩
  unfold F_wlvlaw27_first
  rw [new_at,Option.bind_some]
  dsimp only
  rw [show eqI (W.length:Int) (-1)=false from beq_eq_false_iff_ne.2 (by omega),cond_false,o1,Option.bind_some]
  dsimp only
  rw [show ((0:Int) != 0)=false from rfl,cond_false,fr_one W rfl,Option.bind_some,show ((0:Int) != 0)=false from rfl,cond_false,settings_eq false,Option.bind_some]
  dsimp only
  have p4:F_wlvref10_Put 4 (cond false 1 0) 0 []=some (fb 4 0 0 [],0):=put_eq (ok4 false)
  rw [p4,Option.bind_some,put_eq ok5,Option.bind_some]
  dsimp only
  rw [o2,Option.bind_some]
  dsimp only
  rw [show ((0:Int)==0)=true from rfl,cond_true,fr_one W rfl,Option.bind_some,show ((1:Int)==1)=true from rfl,cond_true,o3,Option.bind_some]
  dsimp only
  rw [show ((2:Int)==2)=true from rfl,cond_true,o4,Option.bind_some]
  rfl
end
def preL:List Int:=[80,82,73,32,42,32,72,84,84,80,47,50,46,48,13,10,13,10,83,77,13,10,13,10]
def be4 (n:Int):List Int:=[n / 16777216,n / 65536 % 256,n / 256 % 256,n % 256]
theorem ok_up {s n:Int} (hs:0<=s /\ s<=2147483647):okFb 8 0 s (be4 n):=⟨by omega,by omega,hs,by simp [be4]⟩
theorem ok_one {k fl s:Int} {b:List Int} (h:okFb k fl s b):okFbs [(k,fl,s,b)]:=fun f hfm=>by rw [List.mem_singleton.1 hfm];exact h
theorem ok_head {s:Int} {b:List Int} (hs:0<=s /\ s<=2147483647) (hb:b.length<=16384):okFb 1 4 s b:=⟨by omega,by omega,hs,hb⟩
section
variable {M : List MD} {W : List WD} {S : List SD} {P : List PD} {D : List DD} {T : List TD}
variable {head highest window frames : Int} {deaf blind bad gone : Bool} {waits : List (List (Int × Int))}
theorem get_in {X Y:List Int}:getI (P++[(16384,X),(16384,Y)]) (P.length:Int)=some (16384,X):=getI_new0
theorem get_out {X Y:List Int}:getI (P++[(16384,X),(16384,Y)]) ((P.length:Int)+1)=some (16384,Y):=getI_new1
theorem bl_true (hf:∀ (M:List MD) (W:List WD) (S:List SD) (P:List PD) (D:List DD) (T:List TD),∃ w x y,F_wlvlaw27_first M W S P D T=some (true,M++[[]],W++[w],S,P++[x,y],D++[((T.length:Int),false)],T++[([],(0,4096))])) (b1:Bool) (i2:Int):∃ z,F_wlvlaw27_WatchBlind b1 i2 M W S P D T=some (true,z):=by
  obtain ⟨w,x,y,h1⟩:=hf M W S P D T
  unfold F_wlvlaw27_WatchBlind
  rw [h1,Option.bind_some]
  dsimp only
  rw [Bool.not_true,cond_false]
  generalize M++[[]]=M
  generalize W++[w]=W
  generalize P++[x,y]=P
  generalize D++[((T.length:Int),false)]=D
  generalize T++[([],((0:Int),(4096:Int)))]=T
  rw [new_at,Option.bind_some]
  dsimp only
  rw [show eqI (W.length:Int) (-1)=false from beq_eq_false_iff_ne.2 (by omega)]
  by_cases hr:i2 < 1 \/ i2 > 2147483647
  · have e : (((false || (decide (i2 < 1))) || (decide (i2 > 2147483647)))) = true := by
      rcases hr with h | h
      · rw [decide_eq_true h];rfl
      · rw [decide_eq_true h,Bool.or_true]
    rw [e,cond_true,Bool.not_false,cond_true]
    obtain ⟨w2,x2,y2,h2⟩:=hf (M++[[]]) (W++[w0 M P D]) S (P++[(16384,[]),(16384,[])]) (D++[((T.length:Int),false)]) (T++[([],(0,4096))])
    rw [h2,Option.bind_some]
    exact ⟨_,rfl⟩
  have hr1:1<=i2 /\ i2<=2147483647:=by omega
  rw [decide_eq_false (show ¬ i2 < 1 by omega),decide_eq_false (show ¬ i2 > 2147483647 by omega),Bool.or_self,Bool.or_self,cond_false,settings_eq false,Option.bind_some]
  dsimp only
  have hok4:okFbs [(4,cond false 1 0,0,[])]:=ok_one (ok4 false)
  have e4:fbs [(4,cond false 1 0,0,[])]=fb 4 0 0 []:=List.append_nil _
  rw [frames_eq (by simp) hok4,Option.bind_some,e4,chk_t (by decide +kernel),chk_t (by decide +kernel),List.take_length]
  -- In: the preface and settings
  have a1 : F_watch_Watch_In (W.length : Int) (preL ++ fb 4 0 0 []) (M ++ [[]]) (W ++ [w0 M P D]) S (P ++ [(16384, []), (16384, [])]) =
      some (M++[[]],W++[wAt M P D 24 false false false 0 65535 [[]] 0 false],S,P++[(16384,[]),(16384,[])]):=by
    rw [in_first (getI_new (l:=W)) (get_in (P:=P)) rfl (by rw [fb_len];simp),set_new,set_new0]
    refine loop_inr (in_step (P':=P++[(16384,[]),(16384,[])]) (getI_new (l:=W)) ?_ (hears_settings (getI_new (l:=W)) (by simp))) ?_
    · have:=nx_fb (Ps:=P++[(16384,fb 4 0 0 []++[]),(16384,[])]) (rest:=[]) (ok4 false) (get_in (P:=P)) (by simp)
      rw [set_new0] at this
      rw [List.append_nil] at this
      exact this
    · dsimp only
      rw [set_new]
      exact loop_inl (in_short (getI_new (l:=W)) (nx_short (get_in (P:=P)) (by simp)))
  have a1':F_watch_Watch_In (W.length:Int) ([80,82,73,32,42,32,72,84,84,80,47,50,46,48,13,10,13,10,83,77,13,10,13,10]++fb 4 0 0 []) (M++[[]]) (W++[w0 M P D]) S (P++[(16384,[]),(16384,[])])=_:=a1
  rw [a1',Option.bind_some,Option.bind_some]
  dsimp only
  rw [frames_eq (by simp) hok4,Option.bind_some,e4]
  -- Out: settings
  have a2 : F_watch_Watch_Out (W.length : Int) (fb 4 0 0 []) (M ++ [[]]) (W ++ [wAt M P D 24 false false false 0 65535 [[]] 0 false]) S (P ++ [(16384, []), (16384, [])]) (D ++ [((T.length : Int), false)]) (T ++ [([], (0, 4096))]) =
      some (0,W++[wAt M P D 24 false false false 0 65535 [[]] 1 false],S,P++[(16384,[]),(16384,[])],D++[((T.length:Int),false)],T++[([],(0,4096))]):=by
    rw [out_at (getI_new (l:=W)) (get_out (P:=P)) (by rw [fb_len];simp),set_new1]
    refine loop_inr (out_step (P':=P++[(16384,[]),(16384,[])]) (getI_new (l:=W)) ?_ (right_settings (getI_new (l:=W)) rfl) (getI_new (l:=W)) (by omega)) ?_
    · have:=nx_fb (Ps:=P++[(16384,[]),(16384,fb 4 0 0 []++[])]) (rest:=[]) (ok4 false) (get_out (P:=P)) (by simp)
      rw [set_new1] at this
      rw [List.append_nil] at this
      exact this
    · rw [set_new]
      exact loop_inl (out_short (getI_new (l:=W)) (nx_short (get_out (P:=P)) (by simp)))
  rw [a2,Option.bind_some]
  dsimp only
  cases b1 with
  | true=>
    rw [cond_true]
    have a3 : F_watch_Watch_In (W.length : Int) [255, 255, 255, 0, 0, 0, 0, 0, 0] (M ++ [[]]) (W ++ [wAt M P D 24 false false false 0 65535 [[]] 1 false]) S (P ++ [(16384, []), (16384, [])]) =
        some (M++[[]],W++[wAt M P D 24 true false false 0 65535 [[]] 1 false],S,P++[(16384,[255,255,255,0,0,0,0,0,0]),(16384,[])]):=by
      rw [in_at (getI_new (l:=W)) (get_in (P:=P)) (by simp),set_new0]
      refine loop_inr (in_deaf (P':=P++[(16384,[255,255,255,0,0,0,0,0,0]),(16384,[])]) (getI_new (l:=W)) (next_long (getI_nn (get_in (P:=P) (X:=[255,255,255,0,0,0,0,0,0]) (Y:=[]))) (by omega) (by omega) (by omega) (by omega) (by simp) get_in) rfl rfl) ?_
      rw [set_new]
      exact loop_inl (in_over (getI_new (l:=W)) (.inl rfl))
    have okh:okFbs [(1,4,1,[130])]:=ok_one (ok_head (s:=1) (b:=[130]) (by omega) (by simp))
    have okh2:okFbs [(1,4,1,[136])]:=ok_one (ok_head (s:=1) (b:=[136]) (by omega) (by simp))
    have eh:∀ b:List Int,fbs [(1,4,1,b)]=fb 1 4 1 b:=fun b=>List.append_nil _
    rw [a3,Option.bind_some,frames_eq (by simp) okh,Option.bind_some,eh]
    dsimp only
    have a4 : F_watch_Watch_In (W.length : Int) (fb 1 4 1 [130]) (M ++ [[]]) (W ++ [wAt M P D 24 true false false 0 65535 [[]] 1 false]) S (P ++ [(16384, [255, 255, 255, 0, 0, 0, 0, 0, 0]), (16384, [])]) =
        some (M++[[]],W++[wAt M P D 24 true false false 0 65535 [[]] 1 false],S,P++[(16384,[255,255,255,0,0,0,0,0,0]++fb 1 4 1 [130]),(16384,[])]):=by
      rw [in_at (getI_new (l:=W)) (get_in (P:=P)) (by rw [fb_len];simp),set_new0]
      exact loop_inl (in_over (getI_new (l:=W)) (.inl rfl))
    rw [a4,Option.bind_some]
    dsimp only
    obtain ⟨w2,x2,y2,h2⟩:=hf (M++[[]]) (W++[wAt M P D 24 true false false 0 65535 [[]] 1 false]) S (P++[(16384,[255,255,255,0,0,0,0,0,0]++fb 1 4 1 [130]),(16384,[])]) (D++[((T.length:Int),false)]) (T++[([],(0,4096))])
    rw [h2,Option.bind_some]
    dsimp only
    rw [show (true&&((0:Int)==0))=true from rfl,cond_true,frames_eq (by simp) okh2,Option.bind_some,eh]
    have gW:getI (W++[wAt M P D 24 true false false 0 65535 [[]] 1 false]++[w2]) (W.length:Int)=some (wAt M P D 24 true false false 0 65535 [[]] 1 false):=getI_app getI_new
    have gM:getI (M++[[]]++[[]]) (M.length:Int)=some []:=getI_app getI_new
    have gP:getI (P++[(16384,[255,255,255,0,0,0,0,0,0]++fb 1 4 1 [130]),(16384,[])]++[x2,y2]) ((P.length:Int)+1)=some (16384,[]):=getI_app get_out
    have a5:∃ z,F_watch_Watch_Out (W.length:Int) (fb 1 4 1 [136]) (M++[[]]++[[]]) (W++[wAt M P D 24 true false false 0 65535 [[]] 1 false]++[w2]) S (P++[(16384,[255,255,255,0,0,0,0,0,0]++fb 1 4 1 [130]),(16384,[])]++[x2,y2]) (D++[((T.length:Int),false)]++[(((T++[([],((0:Int),(4096:Int)))]).length:Int),false)]) (T++[([],(0,4096))]++[([],(0,4096))])=some (2,z):=by
      rw [out_at gW gP (by rw [fb_len];simp)]
      have gP2:=getI_set (x:=((16384:Int),[]++fb 1 4 1 [136])) gP
      have hN:=nx_fb (rest:=[]) (ok_head (s:=1) (b:=[136]) (by omega) (by simp)) (by rw [List.append_nil];exact gP2) (by simp)
      refine ⟨_,loop_inr (out_wrong gW hN (right_head (x:=(false,_,_,_)) gW rfl (by simp) rfl (answers_none gW gM rfl)) gW) (loop_inl (out_bad (getI_set gW)))⟩
    obtain ⟨z,a5⟩:=a5
    rw [a5,Option.bind_some]
    exact ⟨_,rfl⟩
  | false=>
    rw [cond_false,update_eq (by omega) (by omega),Option.bind_some]
    dsimp only
    have oku:okFbs [(8,0,0,[i2 / 16777216,i2 / 65536 % 256,i2 / 256 % 256,i2 % 256])]:=ok_one (ok_up (s:=0) (n:=i2) (by omega))
    have eu:fbs [(8,0,0,[i2 / 16777216,i2 / 65536 % 256,i2 / 256 % 256,i2 % 256])]=fb 8 0 0 (be4 i2):=List.append_nil _
    rw [frames_eq (by simp) oku,Option.bind_some,eu]
    have hw:InW 65535:=⟨by decide,by decide⟩
    have a3 : F_watch_Watch_In (W.length : Int) (fb 8 0 0 (be4 i2)) (M ++ [[]]) (W ++ [wAt M P D 24 false false false 0 65535 [[]] 1 false]) S (P ++ [(16384, []), (16384, [])]) =
        some (M++[[]],W++[wAt M P D 24 false (decide (65535+i2 > 2147483647)) false 0 (cond (decide (65535+i2 > 2147483647)) 0 (65535+i2)) [[]] 1 false],S,P++[(16384,[]),(16384,[])]):=by
      rw [in_at (getI_new (l:=W)) (get_in (P:=P)) (by rw [fb_len];simp [be4]),set_new0]
      refine loop_inr (in_step (P':=P++[(16384,[]),(16384,[])]) (getI_new (l:=W)) ?_ (hears_update (n:=i2) (by omega) (by omega) (granted0 (getI_new (l:=W)) hw (by omega) (by omega)))) ?_
      · have:=nx_fb (Ps:=P++[(16384,fb 8 0 0 (be4 i2)++[]),(16384,[])]) (rest:=[]) (ok_up (s:=0) (n:=i2) (by omega)) (get_in (P:=P)) (by simp)
        rw [set_new0] at this
        rw [List.append_nil] at this
        exact this
      · dsimp only
        rw [set_new]
        cases hd:decide (65535+i2 > 2147483647) with
        | true=>exact loop_inl (in_over (getI_new (l:=W)) (.inr rfl))
        | false=>exact loop_inl (in_short (getI_new (l:=W)) (nx_short (get_in (P:=P)) (by simp)))
    rw [a3,Option.bind_some]
    dsimp only
    have okp:okFbs [(5,0,1,[])]:=ok_one (ok5)
    have ep:fbs [(5,0,1,[])]=fb 5 0 1 []:=List.append_nil _
    rw [frames_eq (by simp) okp,Option.bind_some,ep]
    by_cases ho:i2 > 2147418112
    · rw [decide_eq_true (show 65535+i2 > 2147483647 by omega),cond_true]
      have a4 : F_watch_Watch_Out (W.length : Int) (fb 5 0 1 []) (M ++ [[]]) (W ++ [wAt M P D 24 false true false 0 0 [[]] 1 false]) S (P ++ [(16384, []), (16384, [])]) (D ++ [((T.length : Int), false)]) (T ++ [([], (0, 4096))]) =
          some (0,W++[wAt M P D 24 false true false 0 0 [[]] 1 false],S,P++[(16384,[]),(16384,fb 5 0 1 [])],D++[((T.length:Int),false)],T++[([],(0,4096))]):=by
        rw [out_at (getI_new (l:=W)) (get_out (P:=P)) (by rw [fb_len];simp),set_new1]
        exact loop_inl (out_blind (getI_new (l:=W)))
      rw [a4,Option.bind_some,decide_eq_true ho,cond_true]
      dsimp only
      obtain ⟨w2,x2,y2,h2⟩:=hf (M++[[]]) (W++[wAt M P D 24 false true false 0 0 [[]] 1 false]) S (P++[(16384,[]),(16384,fb 5 0 1 [])]) (D++[((T.length:Int),false)]) (T++[([],(0,4096))])
      rw [h2,Option.bind_some]
      dsimp only
      rw [show ((true&&((0:Int)==0))&&((0:Int)==0))=true from rfl,cond_true]
      have gW:getI (W++[wAt M P D 24 false true false 0 0 [[]] 1 false]++[w2]) (W.length:Int)=some (wAt M P D 24 false true false 0 0 [[]] 1 false):=getI_app getI_new
      have hfr:F_watch_Watch_Frames (W.length:Int) (W++[wAt M P D 24 false true false 0 0 [[]] 1 false]++[w2])=some 1:=by
        unfold F_watch_Watch_Frames
        rw [chk_t (getI_nn gW),gW,Option.bind_some]
      rw [hfr,Option.bind_some]
      exact ⟨_,rfl⟩
    · rw [decide_eq_false (show ¬ 65535+i2 > 2147483647 by omega),cond_false]
      have a4 : F_watch_Watch_Out (W.length : Int) (fb 5 0 1 []) (M ++ [[]]) (W ++ [wAt M P D 24 false false false 0 (65535 + i2) [[]] 1 false]) S (P ++ [(16384, []), (16384, [])]) (D ++ [((T.length : Int), false)]) (T ++ [([], (0, 4096))]) =
          some (2,W++[wAt M P D 24 false false true 0 (65535+i2) [[]] 1 false],S,P++[(16384,[]),(16384,[])],D++[((T.length:Int),false)],T++[([],(0,4096))]):=by
        rw [out_at (getI_new (l:=W)) (get_out (P:=P)) (by rw [fb_len];simp),set_new1]
        refine loop_inr (out_wrong (P':=P++[(16384,[]),(16384,[])]) (getI_new (l:=W)) ?_ (right_bad (getI_new (l:=W)) rfl (read5 0 1 []) rfl) (getI_new (l:=W))) ?_
        · have:=nx_fb (Ps:=P++[(16384,[]),(16384,fb 5 0 1 []++[])]) (rest:=[]) ok5 (get_out (P:=P)) (by simp)
          rw [set_new1] at this
          rw [List.append_nil] at this
          exact this
        · rw [set_new]
          exact loop_inl (out_bad (getI_new (l:=W)))
      rw [a4,Option.bind_some,decide_eq_false ho,cond_false]
      dsimp only
      obtain ⟨w2,x2,y2,h2⟩:=hf (M++[[]]) (W++[wAt M P D 24 false false true 0 (65535+i2) [[]] 1 false]) S (P++[(16384,[]),(16384,[])]) (D++[((T.length:Int),false)]) (T++[([],(0,4096))])
      rw [h2,Option.bind_some]
      exact ⟨_,rfl⟩
end
theorem WatchBlind_true (b1:Bool) (i2:Int):∃ z,F_wlvlaw27_WatchBlind b1 i2 [] [] [] [] [] []=some (true,z):=bl_true first_any b1 i2
end Go.Proofs.YtifbhefbhlbofaaDoor
