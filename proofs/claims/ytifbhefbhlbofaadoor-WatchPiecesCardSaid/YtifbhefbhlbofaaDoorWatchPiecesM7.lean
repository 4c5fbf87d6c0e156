/- Texts of this claim, one behind the other. -/
import Derived.Test.YtifbhefbhlbofaaDoorWatchPiecesM6
set_option maxRecDepth 100000
set_option maxRecDepth 100000
namespace Go.Proofs.YtifbhefbhlbofaaDoor
open Pv
set_option linter.unusedVariables false
namespace Vp
structure Hd (f:Fp) (es:MW) (M:List MW) (W:List Wz) (S:List Sz) (P:List Pz) (D:List Dz) (T:List Tb) (V:Vw) (h:Int) (X Y:List Int):Prop where
 hw:Hw f es M W S D T V h
 hi:getI P f.i=some (16384,X)
 ho:getI P f.o=some (16384,Y)
 ne:f.i≠f.o
def KpP (f:Fp) (P P':List Pz):Prop:=∀ j y,j≠f.i->j≠f.o->getI P j=some y->getI P' j=some y
theorem kpp_i {f:Fp} {P:List Pz} {y:Pz} (h:0<=f.i):KpP f P (P.set f.i.toNat y):=fun j z h1 h2 hj=>gi_ne h (Ne.symm h1) hj
theorem kpp_o {f:Fp} {P:List Pz} {y:Pz} (h:0<=f.o):KpP f P (P.set f.o.toNat y):=fun j z h1 h2 hj=>gi_ne h (Ne.symm h2) hj
theorem KpP.comp {f:Fp} {P P' P2:List Pz} (h1:KpP f P P') (h2:KpP f P' P2):KpP f P P2:=fun j y a b hj=>h2 j y a b (h1 j y a b hj)
def StopI (V:Vw) (X:List Int):Prop:=V.deaf=true \/ V.blind=true \/ NxShort X
def StepI (V:Vw) (X:List Int) (V':Vw) (X':List Int):Prop:=X'.length<=X.length /\ ∀ (Z:List Int),X.length+Z.length<=10000000 -> ∀ (f:Fp) (es:MW) (M:List MW) (W:List Wz) (S:List Sz) (P:List Pz) (D:List Dz) (T:List Tb) (h:Int) (Y:List Int),Hd f es M W S P D T V h (X++Z) Y ->
 ∃ es' M' W' S' P',F_watch_Watch_In_L3 f.p (M,W,S,P)=some (.inr (M',W',S',P')) /\ Hd f es' M' W' S' P' D T V' h (X'++Z) Y /\ Kp f es es' M W S D T M' W' S' D T /\ KpP f P P'
inductive RunI:Vw->List Int->Vw->List Int->Prop
 | stop {V X}:StopI V X->RunI V X V X
 | step {V X V1 X1 V2 X2}:StepI V X V1 X1->RunI V1 X1 V2 X2->RunI V X V2 X2
theorem stepI_app {V V1:Vw} {X X1:List Int} (h:StepI V X V1 X1) (Z:List Int):StepI V (X++Z) V1 (X1++Z):=by
 refine ⟨by rw [List.length_append,List.length_append];exact Nat.add_le_add_right h.1 _,fun Z' hl f es M W S P D T hd Y hh=>?_⟩
 rw [List.append_assoc] at hh
 obtain ⟨es',M',W',S',P',e,r1,r2,r3⟩:=h.2 (Z++Z') (by rw [List.length_append] at hl ⊢;omega) f es M W S P D T hd Y hh
 exact ⟨es',M',W',S',P',e,by rw [List.append_assoc];exact r1,r2,r3⟩
theorem runI_app {V V1 V2:Vw} {X X1 X2 Z:List Int} (h:RunI V X V1 X1):RunI V1 (X1++Z) V2 X2->RunI V (X++Z) V2 X2:=by
 induction h with
 | stop _=>exact id
 | step h1 _ ih=>exact fun k=>.step (stepI_app h1 Z) (ih k)
theorem runI_sem {V V':Vw} {X X':List Int} (h:RunI V X V' X'):X.length<=10000000 -> ∀ (f:Fp) (es:MW) (M:List MW) (W:List Wz) (S:List Sz) (P:List Pz) (D:List Dz) (T:List Tb) (h:Int) (Y:List Int),Hd f es M W S P D T V h X Y ->
  ∃ es' M' W' S' P',loopC (F_watch_Watch_In_L3 f.p) (M,W,S,P)=some (M',W',S',P') /\ Hd f es' M' W' S' P' D T V' h X' Y /\ Kp f es es' M W S D T M' W' S' D T /\ KpP f P P':=by
 induction h with
 | @stop V X hs=>
  intro hl f es M W S P D T h Y hh
  refine ⟨es,M,W,S,P,loop_inl ?_,hh,kp_refl,fun j y _ _ hj=>hj⟩
  have hW':getI W f.p=some (h,f.i,f.o,V.deaf,V.blind,V.bad,V.highest,f.m,V.window,V.waits,V.sets,f.d,V.frames,V.gone):=hh.hw.hW
  have hp:=gi_nn hW'
  unfold F_watch_Watch_In_L3 chk
  simp only [hp,cond_true,hW',Option.bind_some]
  cases hd:V.deaf with
  | true=>rfl
  | false=>
   cases hb:V.blind with
   | true=>rfl
   | false=>
    rcases hs with h1 | h1 | h1
    ·rw [hd] at h1;cases h1
    ·rw [hb] at h1;cases h1
    ·simp only [Bool.not_false,cond_true,h1 P f.i hh.hi,Option.bind_some]
     rfl
 | @step V X V1 X1 V2 X2 h1 h2 ih=>
  intro hl f es M W S P D T h Y hh
  have hh0:Hd f es M W S P D T V h (X++[]) Y:=by rw [List.append_nil];exact hh
  obtain ⟨es',M',W',S',P',e,r1,r2,r3⟩:=h1.2 [] (by simpa using hl) f es M W S P D T h Y hh0
  rw [List.append_nil] at r1
  obtain ⟨es2,M2,W2,S2,P2,e2,s1,s2,s3⟩:=ih (Nat.le_trans h1.1 hl) f es' M' W' S' P' D T h Y r1
  exact ⟨es2,M2,W2,S2,P2,loop_inr e e2,s1,kp_comp r2 s2,r3.comp s3⟩
theorem vok_deaf {c:Nat} {V:Vw} (hV:VOk c V):VOk c {V with deaf:=true}:=⟨hV.tab,hV.win,hV.set4,hV.wts,hV.nw,hV.str,hV.dat⟩
theorem vok_bad {c:Nat} {V:Vw} (hV:VOk c V) (b:Bool) (n:Int):VOk c {V with bad:=b,frames:=n}:=⟨hV.tab,hV.win,hV.set4,hV.wts,hV.nw,hV.str,hV.dat⟩
theorem stepI_any {c:Nat} {V:Vw} {X:List Int} (hV:VOk c V) (hb:Byt X) (hl:c+X.length<=10000000):StopI V X \/ ∃ V' X' c',StepI V X V' X' /\ VOk c' V' /\ Byt X' /\ c'+X'.length<=c+X.length /\ V'.bad=V.bad /\ (V'.deaf=true \/ X'.length < X.length) /\ V.blind=false:=by
 cases hd:V.deaf with
 | true=>exact .inl (.inl hd)
 | false=>
  cases hbl:V.blind with
  | true=>exact .inl (.inr (.inl hbl))
  | false=>
   rcases next_any hb (by omega) with hn | hn | ⟨k,fl,s,body,rest,hf,hr,hlr,hn⟩
   ·exact .inl (.inr (.inr hn))
   ·refine .inr ⟨{V with deaf:=true},X,c,⟨Nat.le_refl _,fun Z hZ f es M W S P D T h Y hh=>?_⟩,vok_deaf hV,hb,Nat.le_refl _,rfl,.inl rfl,rfl⟩
    have hW':getI W f.p=some (h,f.i,f.o,V.deaf,V.blind,V.bad,V.highest,f.m,V.window,V.waits,V.sets,f.d,V.frames,V.gone):=hh.hw.hW
    have hp:=gi_nn hW'
    refine ⟨es,M,W.set f.p.toNat (wOf f {V with deaf:=true} h),S,P,?_,⟨hw_w (V':={V with deaf:=true}) hh.hw _ rfl rfl rfl rfl,hh.hi,hh.ho,hh.ne⟩,kp_w (gi_some hW').1 _,fun j y _ _ hj=>hj⟩
    unfold F_watch_Watch_In_L3 chk
    simp only [hp,cond_true,hW',Option.bind_some,hd,hbl,Bool.not_false,hn Z P f.i (by omega) hh.hi,gi_set hW',show ((3:Int)==4)=false from rfl,show ((3:Int) != 0)=true from rfl,cond_false,Bool.not_true]
    unfold wOf
    simp only [hbl]
   ·obtain ⟨V',hV',hbad,hrun⟩:=hears_ok hf hV (by omega) hbl
    refine .inr ⟨V',rest,c+1,⟨by omega,fun Z hZ f es M W S P D T h Y hh=>?_⟩,hV',hr,by omega,hbad,.inr (by omega),rfl⟩
    have hW':getI W f.p=some (h,f.i,f.o,V.deaf,V.blind,V.bad,V.highest,f.m,V.window,V.waits,V.sets,f.d,V.frames,V.gone):=hh.hw.hW
    have hp:=gi_nn hW'
    obtain ⟨es',M',W',S',e,r1,r2⟩:=hrun f es M W S D T h hh.hw
    have e':F_watch_Watch_hears f.p k fl s body M W S=some (M',W',S'):=e
    have hW2:getI W f.p=some (h,f.i,f.o,false,false,V.bad,V.highest,f.m,V.window,V.waits,V.sets,f.d,V.frames,V.gone):=by rw [hW',hd,hbl]
    refine ⟨es',M',W',S',P.set f.i.toNat (16384,rest++Z),?_,⟨r1,gi_set hh.hi,gi_ne (gi_some hh.hi).1 hh.ne hh.ho,hh.ne⟩,r2,kpp_i (gi_some hh.hi).1⟩
    unfold F_watch_Watch_In_L3 chk
    simp only [hp,cond_true,hW2,Option.bind_some,Bool.not_false,hn Z P f.i (by omega) hh.hi,show ((0:Int)==4)=false from rfl,show ((0:Int) != 0)=false from rfl,cond_false,st_same hW2,e']
theorem runI_any:∀ (n:Nat) {c:Nat} {V:Vw} {X:List Int},X.length+(cond V.deaf 0 1)<=n->VOk c V->Byt X->c+X.length<=10000000 -> ∃ V' X' c',RunI V X V' X' /\ VOk c' V' /\ Byt X' /\ c'+X'.length<=c+X.length /\ V'.bad=V.bad /\ StopI V' X' /\ (V.blind=true->V'.blind=true)
 | 0,c,V,X,hn,hV,hb,hl=>by
  have hd:V.deaf=true:=by
   cases h:V.deaf with
   | true=>rfl
   | false=>rw [h] at hn;exact absurd hn (by simp)
  exact ⟨V,X,c,.stop (.inl hd),hV,hb,Nat.le_refl _,rfl,.inl hd,id⟩
 | n+1,c,V,X,hn,hV,hb,hl=>by
  rcases stepI_any hV hb hl with hs | ⟨V',X',c',hs,hV',hb',hle,hbad,hm,hbl⟩
  ·exact ⟨V,X,c,.stop hs,hV,hb,Nat.le_refl _,rfl,hs,id⟩
  ·cases hd:V.deaf with
   | true=>exact ⟨V,X,c,.stop (.inl hd),hV,hb,Nat.le_refl _,rfl,.inl hd,id⟩
   | false=>
    rw [hd,cond_false] at hn
    have hlx:=hs.1
    have:X'.length+(cond V'.deaf 0 1)<=n:=by
     rcases hm with h | h
     ·rw [h,cond_true];omega
     ·cases V'.deaf <;> simp <;> omega
    obtain ⟨V2,X2,c2,r,a1,a2,a3,a4,a5,_⟩:=runI_any n this hV' hb' (by omega)
    exact ⟨V2,X2,c2,.step hs r,a1,a2,by omega,a4.trans hbad,a5,fun h=>by rw [hbl] at h;cases h⟩
def StopO (V:Vw) (Y:List Int):Prop:=V.bad=true \/ V.blind=true \/ NxShort Y
def StepO (V:Vw) (Y:List Int) (V':Vw) (Y':List Int):Prop:=Y'.length<=Y.length /\ ∀ (Z:List Int),Y.length+Z.length<=10000000 -> ∀ (f:Fp) (es:MW) (M:List MW) (W:List Wz) (S:List Sz) (P:List Pz) (D:List Dz) (T:List Tb) (B:List Bk) (h:Int) (X:List Int),Hd f es M W S P D T V h X (Y++Z) ->
 ∃ W' S' P' D' T' B',F_watch_Watch_Out_L3 f.p M (W,S,P,D,T,B)=some (.inr (W',S',P',D',T',B')) /\ Hd f es M W' S' P' D' T' V' h X (Y'++Z) /\ Kp f es es M W S D T M W' S' D' T' /\ KpP f P P'
inductive RunO:Vw->List Int->Vw->List Int->Prop
 | stop {V Y}:StopO V Y->RunO V Y V Y
 | step {V Y V1 Y1 V2 Y2}:StepO V Y V1 Y1->RunO V1 Y1 V2 Y2->RunO V Y V2 Y2
theorem stepO_app {V V1:Vw} {Y Y1:List Int} (h:StepO V Y V1 Y1) (Z:List Int):StepO V (Y++Z) V1 (Y1++Z):=by
 refine ⟨by rw [List.length_append,List.length_append];exact Nat.add_le_add_right h.1 _,fun Z' hl f es M W S P D T B hd X hh=>?_⟩
 rw [List.append_assoc] at hh
 obtain ⟨W',S',P',D',T',B',e,r1,r2,r3⟩:=h.2 (Z++Z') (by rw [List.length_append] at hl ⊢;omega) f es M W S P D T B hd X hh
 exact ⟨W',S',P',D',T',B',e,by rw [List.append_assoc];exact r1,r2,r3⟩
theorem runO_app {V V1 V2:Vw} {Y Y1 Y2 Z:List Int} (h:RunO V Y V1 Y1):RunO V1 (Y1++Z) V2 Y2->RunO V (Y++Z) V2 Y2:=by
 induction h with
 | stop _=>exact id
 | step h1 _ ih=>exact fun k=>.step (stepO_app h1 Z) (ih k)
def ansO (V:Vw):Int:=cond V.bad 2 0
theorem runO_sem {V V':Vw} {Y Y':List Int} (h:RunO V Y V' Y'):Y.length<=10000000 -> ∀ (f:Fp) (es:MW) (M:List MW) (W:List Wz) (S:List Sz) (P:List Pz) (D:List Dz) (T:List Tb) (B:List Bk) (h:Int) (X:List Int),Hd f es M W S P D T V h X Y ->
  ∃ W' S' P' D' T' B',loopC (F_watch_Watch_Out_L3 f.p M) (W,S,P,D,T,B)=some (ansO V',W',S',P',D',T',B') /\ Hd f es M W' S' P' D' T' V' h X Y' /\ Kp f es es M W S D T M W' S' D' T' /\ KpP f P P':=by
 induction h with
 | @stop V Y hs=>
  intro hl f es M W S P D T B h X hh
  refine ⟨W,S,P,D,T,B,loop_inl ?_,hh,kp_refl,fun j y _ _ hj=>hj⟩
  have hW':getI W f.p=some (h,f.i,f.o,V.deaf,V.blind,V.bad,V.highest,f.m,V.window,V.waits,V.sets,f.d,V.frames,V.gone):=hh.hw.hW
  have hp:=gi_nn hW'
  unfold F_watch_Watch_Out_L3 chk ansO
  simp only [hp,cond_true,hW',Option.bind_some]
  cases hd:V.bad with
  | true=>rfl
  | false=>
   cases hb:V.blind with
   | true=>rfl
   | false=>
    rcases hs with h1 | h1 | h1
    ·rw [hd] at h1;cases h1
    ·rw [hb] at h1;cases h1
    ·simp only [Bool.not_false,cond_true,h1 P f.o hh.ho,Option.bind_some]
     rfl
 | @step V Y V1 Y1 V2 Y2 h1 h2 ih=>
  intro hl f es M W S P D T B h X hh
  have hh0:Hd f es M W S P D T V h X (Y++[]):=by rw [List.append_nil];exact hh
  obtain ⟨W',S',P',D',T',B',e,r1,r2,r3⟩:=h1.2 [] (by simpa using hl) f es M W S P D T B h X hh0
  rw [List.append_nil] at r1
  obtain ⟨W2,S2,P2,D2,T2,B2,e2,s1,s2,s3⟩:=ih (Nat.le_trans h1.1 hl) f es M W' S' P' D' T' B' h X r1
  exact ⟨W2,S2,P2,D2,T2,B2,loop_inr e e2,s1,kp_comp r2 s2,r3.comp s3⟩
theorem stepO_of {V V1:Vw} {Y rest:List Int} {k fl s:Int} {body:List Int} {ok:Bool} (hbad:V.bad=false) (hbl:V.blind=false) (hlr:rest.length<=Y.length) (hn:NxFrm Y k fl s body rest) (hr:OutR V V1 ok (fun f M W S D T B=>F_watch_Watch_right f.p k fl s body M W S D T B)) :
  StepO V Y {V1 with bad:=!ok,frames:=cond ok (IntKind.i64.wrap (V1.frames+1)) V1.frames} rest:=by
 refine ⟨hlr,fun Z hZ f es M W S P D T B h X hh=>?_⟩
 have hW':getI W f.p=some (h,f.i,f.o,V.deaf,V.blind,V.bad,V.highest,f.m,V.window,V.waits,V.sets,f.d,V.frames,V.gone):=hh.hw.hW
 have hp:=gi_nn hW'
 obtain ⟨W',S',D',T',B',e,r1,r2⟩:=hr f es M W S D T B h hh.hw
 have e':F_watch_Watch_right f.p k fl s body M W S D T B=some (ok,W',S',D',T',B'):=e
 have hW2:getI W' f.p=some (h,f.i,f.o,V1.deaf,V1.blind,V1.bad,V1.highest,f.m,V1.window,V1.waits,V1.sets,f.d,V1.frames,V1.gone):=r1.hW
 refine ⟨W'.set f.p.toNat (wOf f {V1 with bad:=!ok,frames:=cond ok (IntKind.i64.wrap (V1.frames+1)) V1.frames} h),S',P.set f.o.toNat (16384,rest++Z),D',T',B',?_,⟨hw_w (V':={V1 with bad:=!ok,frames:=cond ok (IntKind.i64.wrap (V1.frames+1)) V1.frames}) r1 _ rfl rfl rfl rfl,gi_ne (gi_some hh.ho).1 hh.ne.symm hh.hi,gi_set hh.ho,hh.ne⟩,kp_comp r2 (kp_w (gi_some hW').1 _),kpp_o (gi_some hh.ho).1⟩
 unfold F_watch_Watch_Out_L3 chk
 simp only [hp,cond_true,hW',Option.bind_some,hbad,hbl,Bool.not_false,hn Z P f.o (by omega) hh.ho,show ((0:Int)==4)=false from rfl,show ((0:Int) != 0)=false from rfl,cond_false,e',hW2,gi_set hW2,st_two]
 cases ok with
 | true=>rfl
 | false=>rfl
theorem stepO_any {c:Nat} {V:Vw} {Y:List Int} (hV:VOk c V) (hb:Byt Y) (hl:c+Y.length<=10000000):StopO V Y \/ ∃ V' Y' c',StepO V Y V' Y' /\ VOk c' V' /\ Byt Y' /\ c'+Y'.length<=c+Y.length /\ V'.deaf=V.deaf /\ (V'.bad=true \/ Y'.length < Y.length) /\ V.blind=false:=by
 cases hd:V.bad with
 | true=>exact .inl (.inl hd)
 | false=>
  cases hbl:V.blind with
  | true=>exact .inl (.inr (.inl hbl))
  | false=>
   rcases next_any hb (by omega) with hn | hn | ⟨k,fl,s,body,rest,hf,hr,hlr,hn⟩
   ·exact .inl (.inr (.inr hn))
   ·refine .inr ⟨{V with bad:=true},Y,c,⟨Nat.le_refl _,fun Z hZ f es M W S P D T B h X hh=>?_⟩,vok_bad hV true V.frames,hb,Nat.le_refl _,rfl,.inl rfl,rfl⟩
    have hW':getI W f.p=some (h,f.i,f.o,V.deaf,V.blind,V.bad,V.highest,f.m,V.window,V.waits,V.sets,f.d,V.frames,V.gone):=hh.hw.hW
    have hp:=gi_nn hW'
    refine ⟨W.set f.p.toNat (wOf f {V with bad:=true} h),S,P,D,T,B,?_,⟨hw_w (V':={V with bad:=true}) hh.hw _ rfl rfl rfl rfl,hh.hi,hh.ho,hh.ne⟩,kp_w (gi_some hW').1 _,fun j y _ _ hj=>hj⟩
    unfold F_watch_Watch_Out_L3 chk
    simp only [hp,cond_true,hW',Option.bind_some,hd,hbl,Bool.not_false,hn Z P f.o (by omega) hh.ho,gi_set hW',show ((3:Int)==4)=false from rfl,show ((3:Int) != 0)=true from rfl,cond_false,Bool.not_true]
    unfold wOf
    simp only [hbl]
   ·obtain ⟨V',ok,hV',hdeaf,hrun⟩:=right_ok hf hV (by omega) hbl
    exact .inr ⟨_,rest,c+body.length,stepO_of hd hbl (by omega) hn hrun,vok_bad hV' _ _,hr,by omega,hdeaf,.inr (by omega),rfl⟩
theorem runO_any:∀ (n:Nat) {c:Nat} {V:Vw} {Y:List Int},Y.length+(cond V.bad 0 1)<=n->VOk c V->Byt Y->c+Y.length<=10000000 -> ∃ V' Y' c',RunO V Y V' Y' /\ VOk c' V' /\ Byt Y' /\ c'+Y'.length<=c+Y.length /\ V'.deaf=V.deaf /\ StopO V' Y' /\ (V.blind=true->V'.blind=true)
 | 0,c,V,Y,hn,hV,hb,hl=>by
  have hd:V.bad=true:=by
   cases h:V.bad with
   | true=>rfl
   | false=>rw [h] at hn;exact absurd hn (by simp)
  exact ⟨V,Y,c,.stop (.inl hd),hV,hb,Nat.le_refl _,rfl,.inl hd,id⟩
 | n+1,c,V,Y,hn,hV,hb,hl=>by
  rcases stepO_any hV hb hl with hs | ⟨V',Y',c',hs,hV',hb',hle,hdf,hm,hbl⟩
  ·exact ⟨V,Y,c,.stop hs,hV,hb,Nat.le_refl _,rfl,hs,id⟩
  ·cases hd:V.bad with
   | true=>exact ⟨V,Y,c,.stop (.inl hd),hV,hb,Nat.le_refl _,rfl,.inl hd,id⟩
   | false=>
    rw [hd,cond_false] at hn
    have hlx:=hs.1
    have:Y'.length+(cond V'.bad 0 1)<=n:=by
     rcases hm with h | h
     ·rw [h,cond_true];omega
     ·cases V'.bad <;> simp <;> omega
    obtain ⟨V2,Y2,c2,r,a1,a2,a3,a4,a5,_⟩:=runO_any n this hV' hb' (by omega)
    exact ⟨V2,Y2,c2,.step hs r,a1,a2,by omega,a4.trans hdf,a5,fun h=>by rw [hbl] at h;cases h⟩
def kk (h n:Nat):Nat:=min (24 - h) n
def InR (V:Vw) (h:Nat) (X l:List Int) (V':Vw) (h':Nat) (X':List Int):Prop:=h'=h+kk h l.length /\ RunI V (X++l.drop (kk h l.length)) V' X'
theorem in_app {V V1 V2:Vw} {h h1 h2:Nat} {X X1 X2 a b:List Int} (r1:InR V h X a V1 h1 X1) (r2:InR V1 h1 X1 b V2 h2 X2):InR V h X (a++b) V2 h2 X2:=by
  obtain ⟨e1,r1⟩:=r1
  obtain ⟨e2,r2⟩:=r2
  unfold kk at e1 e2
  have hl:(a++b).length=a.length+b.length:=List.length_append
  refine ⟨?_,?_⟩
  · unfold kk
    rw [hl];omega
  · have hd : (a ++ b).drop (kk h (a ++ b).length) = a.drop (kk h a.length) ++ b.drop (kk h1 b.length) := by
      rw [List.drop_append,hl]
      congr 1
      · by_cases hc:24 - h<=a.length
        · rw [show kk h (a.length+b.length)=kk h a.length by unfold kk;omega]
        · rw [List.drop_of_length_le (by unfold kk;omega),List.drop_of_length_le (by unfold kk;omega)]
      · congr 1
        rw [e1]
        unfold kk
        omega
    rw [hd,<- List.append_assoc]
    exact runI_app r1 r2
theorem in_nil {V:Vw} {h:Nat} {X:List Int} (hs:StopI V X):InR V h X [] V h X:=by
 refine ⟨by unfold kk;simp,?_⟩
 rw [List.drop_nil,List.append_nil]
 exact .stop hs
def Qs (t:Nat) (V:Vw) (h:Nat) (X Y:List Int):Prop:=∃ c,VOk c V /\ Byt X /\ Byt Y /\ c+X.length+Y.length<=t /\ h<=24 /\ StopI V X /\ StopO V Y
theorem in_any {t:Nat} {V:Vw} {h:Nat} {X Y l:List Int} (hq:Qs t V h X Y) (hb:Byt l) (ht:t+l.length<=1000000):∃ V' h' X',InR V h X l V' h' X' /\ Qs (t+l.length) V' h' X' Y:=by
 obtain ⟨c,hV,hX,hY,hc,hh,hi,ho⟩:=hq
 have hdl:(l.drop (kk h l.length)).length<=l.length:=by rw [List.length_drop];omega
 have hle:(X++l.drop (kk h l.length)).length=X.length+(l.drop (kk h l.length)).length:=List.length_append
 obtain ⟨V',X',c',r,a1,a2,a3,a4,a5,a6⟩:=runI_any (X:=X++l.drop (kk h l.length)) _ (Nat.le_refl _) hV (hX.app hb.drop) (by omega)
 refine ⟨V',h+kk h l.length,X',⟨rfl,r⟩,c',a1,a2,hY,by omega,by unfold kk;omega,a5,?_⟩
 rcases ho with h1 | h1 | h1
 ·exact .inl (a4.trans h1)
 ·exact .inr (.inl (a6 h1))
 ·exact .inr (.inr h1)
theorem in_sem {V V':Vw} {h h':Nat} {X X' l:List Int} (r:InR V h X l V' h' X') (hh:h<=24) (hl:X.length+l.length<=1000000):∀ (f:Fp) (es:MW) (M:List MW) (W:List Wz) (S:List Sz) (P:List Pz) (D:List Dz) (T:List Tb) (Y:List Int),Hd f es M W S P D T V (h:Int) X Y ->
  ∃ es' M' W' S' P',F_watch_Watch_In f.p l M W S P=some (M',W',S',P') /\ Hd f es' M' W' S' P' D T V' (h':Int) X' Y /\ Kp f es es' M W S D T M' W' S' D T /\ KpP f P P':=by
 intro f es M W S P D T Y hd
 obtain ⟨e,r⟩:=r
 subst e
 have hW':getI W f.p=some ((h:Int),f.i,f.o,V.deaf,V.blind,V.bad,V.highest,f.m,V.window,V.waits,V.sets,f.d,V.frames,V.gone):=hd.hw.hW
 have hp:=gi_nn hW'
 have hw1:IntKind.i64.wrap (24 - (h:Int))=24 - (h:Int):=w64 (by omega) (by omega)
 have hm:minI (24 - (h:Int)) (l.length:Int)=((kk h l.length:Nat):Int):=by
  unfold minI kk
  by_cases hc:(l.length:Int) < 24 - (h:Int)
  ·rw [decide_eq_true hc,cond_true];omega
  ·rw [decide_eq_false hc,cond_false];omega
 have hkl:kk h l.length<=l.length:=by unfold kk;omega
 have hw2:IntKind.i64.wrap ((h:Int)+((kk h l.length:Nat):Int))=((h+kk h l.length:Nat):Int):=by rw [w64 (by omega) (by omega)];omega
 have hcut:=cut_tail (l:=l) (a:=((kk h l.length:Nat):Int)) (by omega) (by omega)
 rw [Int.toNat_natCast] at hcut
 have hfl:X.length+(l.drop (kk h l.length)).length<=100000000:=by rw [List.length_drop];omega
 have hfeed:=feed_at (Ps:=P) (gi_nn hd.hi) hd.hi hfl
 have hd2:Hd f es M (W.set f.p.toNat (wOf f V ((h+kk h l.length:Nat):Int))) S (P.set f.i.toNat (16384,X++l.drop (kk h l.length))) D T V ((h+kk h l.length:Nat):Int) (X++l.drop (kk h l.length)) Y:=
  ⟨⟨gi_set hd.hw.hW,hd.hw.hM,hd.hw.hS,hd.hw.hn,hd.hw.hD,hd.hw.hT⟩,gi_set hd.hi,gi_ne (gi_some hd.hi).1 hd.ne hd.ho,hd.ne⟩
 obtain ⟨es',M',W',S',P',e,r1,r2,r3⟩:=runI_sem r (by rw [List.length_append,List.length_drop];omega) f es _ _ _ _ D T _ Y hd2
 refine ⟨es',M',W',S',P',?_,r1,kp_comp (kp_w (gi_some hW').1 _) r2,(kpp_i (gi_some hd.hi).1).comp r3⟩
 unfold F_watch_Watch_In chk
 simp only [hp,cond_true,hW',Option.bind_some,hw1,hm,hw2,gi_set hW',hcut,hfeed]
 exact e
def OuR (V:Vw) (Y l:List Int) (V':Vw) (Y':List Int):Prop:=RunO V (Y++l) V' Y'
theorem ou_app {V V1 V2:Vw} {Y Y1 Y2 a b:List Int} (r1:OuR V Y a V1 Y1) (r2:OuR V1 Y1 b V2 Y2):OuR V Y (a++b) V2 Y2:=by
 unfold OuR
 rw [<-List.append_assoc]
 exact runO_app r1 r2
theorem ou_nil {V:Vw} {Y:List Int} (hs:StopO V Y):OuR V Y [] V Y:=by
 unfold OuR
 rw [List.append_nil]
 exact .stop hs
theorem ou_any {t:Nat} {V:Vw} {h:Nat} {X Y l:List Int} (hq:Qs t V h X Y) (hb:Byt l) (ht:t+l.length<=1000000):∃ V' Y',OuR V Y l V' Y' /\ Qs (t+l.length) V' h X Y':=by
 obtain ⟨c,hV,hX,hY,hc,hh,hi,ho⟩:=hq
 have hle:(Y++l).length=Y.length+l.length:=List.length_append
 obtain ⟨V',Y',c',r,a1,a2,a3,a4,a5,a6⟩:=runO_any (Y:=Y++l) _ (Nat.le_refl _) hV (hY.app hb) (by omega)
 refine ⟨V',Y',r,c',a1,hX,a2,by omega,hh,?_,a5⟩
 rcases hi with h1 | h1 | h1
 ·exact .inl (a4.trans h1)
 ·exact .inr (.inl (a6 h1))
 ·exact .inr (.inr h1)
theorem ou_sem {V V':Vw} {Y Y' l:List Int} (r:OuR V Y l V' Y') (hl:Y.length+l.length<=1000000):∀ (f:Fp) (es:MW) (M:List MW) (W:List Wz) (S:List Sz) (P:List Pz) (D:List Dz) (T:List Tb) (B:List Bk) (h:Int) (X:List Int),Hd f es M W S P D T V h X Y ->
  ∃ W' S' P' D' T' B',F_watch_Watch_Out f.p l M W S P D T B=some (ansO V',W',S',P',D',T',B') /\ Hd f es M W' S' P' D' T' V' h X Y' /\ Kp f es es M W S D T M W' S' D' T' /\ KpP f P P':=by
 intro f es M W S P D T B h X hd
 have hW':getI W f.p=some (h,f.i,f.o,V.deaf,V.blind,V.bad,V.highest,f.m,V.window,V.waits,V.sets,f.d,V.frames,V.gone):=hd.hw.hW
 have hp:=gi_nn hW'
 have hfeed:=feed_at (Ps:=P) (Y:=l) (gi_nn hd.ho) hd.ho (by omega)
 have hd2:Hd f es M W S (P.set f.o.toNat (16384,Y++l)) D T V h X (Y++l):=⟨hd.hw,gi_ne (gi_some hd.ho).1 hd.ne.symm hd.hi,gi_set hd.ho,hd.ne⟩
 obtain ⟨W',S',P',D',T',B',e,r1,r2,r3⟩:=runO_sem r (by rw [List.length_append];omega) f es M W S _ D T B h X hd2
 refine ⟨W',S',P',D',T',B',?_,r1,r2,(kpp_o (gi_some hd.ho).1).comp r3⟩
 unfold F_watch_Watch_Out chk
 simp only [hp,cond_true,hW',Option.bind_some,hfeed]
 exact e
inductive PcI (n:Nat):Vw->Nat->List Int->List Int->Vw->Nat->List Int->Prop
 | nil {V h X}:PcI n V h X [] V h X
 | cons {V h X r V1 h1 X1 V2 h2 X2}:r≠[]->h<=24->X.length+r.length<=1000000->InR V h X (r.take n) V1 h1 X1->PcI n V1 h1 X1 (r.drop n) V2 h2 X2->PcI n V h X r V2 h2 X2
theorem pcI_any {n:Nat} (hn:1<=n):∀ (k:Nat) {r:List Int} {t:Nat} {V:Vw} {h:Nat} {X Y:List Int},r.length<=k->Qs t V h X Y->Byt r->t+r.length<=1000000 -> ∃ V' h' X',InR V h X r V' h' X' /\ PcI n V h X r V' h' X' /\ Qs (t+r.length) V' h' X' Y
 | k,[],t,V,h,X,Y,hk,hq,hb,ht=>by
  have hq':=hq
  obtain ⟨c,hV,hX,hY,hc,hh,hi,ho⟩:=hq'
  exact ⟨V,h,X,in_nil hi,.nil,hq⟩
 | 0,x::r,t,V,h,X,Y,hk,hq,hb,ht=>absurd hk (by simp)
 | k+1,x::r,t,V,h,X,Y,hk,hq,hb,ht=>by
  have hq':=hq
  obtain ⟨c,hV,hX,hY,hc,hh,hi,ho⟩:=hq'
  have htl:((x::r).take n).length+((x::r).drop n).length=(x::r).length:=by rw [<-List.length_append,List.take_append_drop]
  have hdl:((x::r).drop n).length=(x::r).length - n:=List.length_drop
  have hcl:(x::r).length=r.length+1:=rfl
  obtain ⟨V1,h1,X1,r1,q1⟩:=in_any hq (l:=(x::r).take n) hb.take (by omega)
  obtain ⟨V2,h2,X2,r2,p2,q2⟩:=pcI_any hn k (by omega) q1 (r:=(x::r).drop n) hb.drop (by omega)
  refine ⟨V2,h2,X2,?_,.cons (by simp) hh (by omega) r1 p2,?_⟩
  ·have:=in_app r1 r2
   rwa [List.take_append_drop] at this
  ·rw [show t+(x::r).length=t+((x::r).take n).length+((x::r).drop n).length by omega]
   exact q2
inductive PcO (n:Nat):Vw->List Int->List Int->Vw->List Int->Prop
 | nil {V Y}:PcO n V Y [] V Y
 | cons {V Y r V1 Y1 V2 Y2}:r≠[]->Y.length+r.length<=1000000->OuR V Y (r.take n) V1 Y1->PcO n V1 Y1 (r.drop n) V2 Y2->PcO n V Y r V2 Y2
theorem pcO_any {n:Nat} (hn:1<=n):∀ (k:Nat) {r:List Int} {t:Nat} {V:Vw} {h:Nat} {X Y:List Int},r.length<=k->Qs t V h X Y->Byt r->t+r.length<=1000000 -> ∃ V' Y',OuR V Y r V' Y' /\ PcO n V Y r V' Y' /\ Qs (t+r.length) V' h X Y'
 | k,[],t,V,h,X,Y,hk,hq,hb,ht=>by
  have hq':=hq
  obtain ⟨c,hV,hX,hY,hc,hh,hi,ho⟩:=hq'
  exact ⟨V,Y,ou_nil ho,.nil,hq⟩
 | 0,x::r,t,V,h,X,Y,hk,hq,hb,ht=>absurd hk (by simp)
 | k+1,x::r,t,V,h,X,Y,hk,hq,hb,ht=>by
  have hq':=hq
  obtain ⟨c,hV,hX,hY,hc,hh,hi,ho⟩:=hq'
  have htl:((x::r).take n).length+((x::r).drop n).length=(x::r).length:=by rw [<-List.length_append,List.take_append_drop]
  have hdl:((x::r).drop n).length=(x::r).length - n:=List.length_drop
  have hcl:(x::r).length=r.length+1:=rfl
  obtain ⟨V1,Y1,r1,q1⟩:=ou_any hq (l:=(x::r).take n) hb.take (by omega)
  obtain ⟨V2,Y2,r2,p2,q2⟩:=pcO_any hn k (by omega) q1 (r:=(x::r).drop n) hb.drop (by omega)
  refine ⟨V2,Y2,?_,.cons (by simp) (by omega) r1 p2,?_⟩
  ·have:=ou_app r1 r2
   rwa [List.take_append_drop] at this
  ·rw [show t+(x::r).length=t+((x::r).take n).length+((x::r).drop n).length by omega]
   exact q2
end Vp
end Go.Proofs.YtifbhefbhlbofaaDoor
namespace Go.Proofs.YtifbhefbhlbofaaDoor
open Pv
set_option linter.unusedVariables false
theorem ckB {n m:Nat} (h:n+m<=1000000000):(decide ((n+m)*1<=140737488355328)&&decide (n+m<=maxLen))=true:=by
 have hm:maxLen=9223372036854775807:=rfl
 rw [Bool.and_eq_true,decide_eq_true_iff,decide_eq_true_iff]
 omega
def beL (n:Int):Nat->List Int
 | 0=>[]
 | k+1=>IntKind.u8.wrap (Int.fdiv n (2 ^ (8*k)))::beL n k
theorem beL_len (n:Int):∀ k,(beL n k).length=k
 | 0=>rfl
 | k+1=>by show (beL n k).length+1=_;rw [beL_len n k]
theorem u8w (x:Int):IntKind.u8.wrap x=x % 256:=by
 rw [IntKind.wrap_u8]
theorem u8_id {x:Int} (h0:0<=x) (h1:x<=255):IntKind.u8.wrap x=x:=by rw [u8w];omega
theorem num_loop (n:Int):∀ (k:Nat) (l:List Int),k<=8->l.length+k<=100->loopC (F_wlvref10_num_L4 n) (l,(k:Int) - 1)=some (.inr (l++beL n k))
 | 0,l,_,_=>by
  refine loop_inl ?_
  unfold F_wlvref10_num_L4
  dsimp only
  rw [decide_eq_false (by omega),cond_false]
  unfold beL
  rw [List.append_nil]
 | k+1,l,hk,hl=>by
  refine loop_inr (s':=(l++[IntKind.u8.wrap (Int.fdiv n (2 ^ (8*k)))],(k:Int) - 1)) ?_ ((num_loop n k _ (by omega) (by rw [List.length_append];show l.length+1+k<=_;omega)).trans (by rw [List.append_assoc];rfl))
  unfold F_wlvref10_num_L4 chk
  dsimp only
  have e:((k+1:Nat):Int) - 1=(k:Int):=by omega
  have e8:IntKind.i64.wrap (8*(k:Int))=8*(k:Int):=wB64 (by omega) (by omega)
  have eu:IntKind.u64.wrap (8*(k:Int))=8*(k:Int):=by
   show (8*(k:Int)) % 18446744073709551616=_
   omega
  have e9:(min (8*(k:Int)).toNat 64)=8*k:=by omega
  rw [e,decide_eq_true (show (k:Int) >= 0 by omega),cond_true,e8,eu,e9,decide_eq_true (show 0<=8*(k:Int) by omega),cond_true,ckB (by simp;omega),cond_true,wB64 (x:=(k:Int) - 1) (by omega) (by omega)]
theorem num_eq (n:Int) (k:Nat) (hk:k<=8):F_wlvref10_num n (k:Int)=some (beL n k):=by
 unfold F_wlvref10_num
 have h:=num_loop n k [] hk (by simp;omega)
 rw [wB64 (by omega) (by omega),join_inr h]
 rfl
theorem be4_eq {n:Int} (h0:0<=n) (h1:n < 4294967296):beL n 4=[n / 16777216,n / 65536 % 256,n / 256 % 256,n % 256]:=by
 unfold beL beL beL beL beL
 rw [u8w,u8w,u8w,u8w,Int.fdiv_eq_ediv_of_nonneg _ (by decide),Int.fdiv_eq_ediv_of_nonneg _ (by decide),Int.fdiv_eq_ediv_of_nonneg _ (by decide),Int.fdiv_eq_ediv_of_nonneg _ (by decide)]
 have e3:(2:Int) ^ (8*3)=16777216:=by decide
 have e2:(2:Int) ^ (8*2)=65536:=by decide
 have e1:(2:Int) ^ (8*1)=256:=by decide
 have e0:(2:Int) ^ (8*0)=1:=by decide
 rw [e3,e2,e1,e0,show n / 16777216 % 256=n / 16777216 by omega,Int.ediv_one]
theorem be3_eq {n:Int} (h0:0<=n) (h1:n < 16777216):beL n 3=[n / 65536,n / 256 % 256,n % 256]:=by
 unfold beL beL beL beL
 rw [u8w,u8w,u8w,Int.fdiv_eq_ediv_of_nonneg _ (by decide),Int.fdiv_eq_ediv_of_nonneg _ (by decide),Int.fdiv_eq_ediv_of_nonneg _ (by decide)]
 have e2:(2:Int) ^ (8*2)=65536:=by decide
 have e1:(2:Int) ^ (8*1)=256:=by decide
 have e0:(2:Int) ^ (8*0)=1:=by decide
 rw [e2,e1,e0,show n / 65536 % 256=n / 65536 by omega,Int.ediv_one]
theorem put_eq {k fl s:Int} {body:List Int} (h:okFb k fl s body):F_wlvref10_Put k fl s body=some (fb k fl s body,0):=by
 obtain ⟨hk,hf,hs,hb⟩:=h
 unfold F_wlvref10_Put
 rw [decide_eq_false (show ¬ k < 0 by omega),cond_false,decide_eq_false (show ¬ k > 255 by omega),cond_false,decide_eq_false (show ¬ fl < 0 by omega),cond_false,decide_eq_false (show ¬ fl > 255 by omega),cond_false,decide_eq_false (show ¬ s < 0 by omega),cond_false,
  decide_eq_false (show ¬ s > 2147483647 by omega),cond_false,decide_eq_false (show ¬ (body.length:Int) >= 16777216 by omega),cond_false]
 have h3:=num_eq (body.length:Int) 3 (by omega)
 have h4:=num_eq s 4 (by omega)
 have h3':F_wlvref10_num (body.length:Int) 3=some (beL (body.length:Int) 3):=h3
 have h4':F_wlvref10_num s 4=some (beL s 4):=h4
 rw [h3',Option.bind_some]
 unfold chk
 rw [ckB (by rw [beL_len];simp),cond_true,h4',Option.bind_some,ckB (by simp only [List.length_append,beL_len,List.length_cons,List.length_nil];omega),cond_true,ckB (by simp only [List.length_append,beL_len,List.length_cons,List.length_nil];omega),cond_true,u8_id (x:=k) (by omega) (by omega),u8_id (x:=fl) (by omega) (by omega)]
 rw [be3_eq (by omega) (by omega),be4_eq (by omega) (by omega)]
 rfl
theorem settings_eq (a:Bool):F_wlvref10_Settings [] a=some (4,cond a 1 0,0,[]):=by
 unfold F_wlvref10_Settings
 cases a
 ·exact (join_inr (s:=(0,0,0,[],4,0,0,[])) (loop_inl rfl)).trans rfl
 ·exact (join_inr (s:=(0,0,0,[],4,1,0,[])) (loop_inl rfl)).trans rfl
abbrev PrtD:=List Int×Int×Int×Int×Int×List (Int×Int)×Bool×Bool×Bool×Bool×Bool×Int
theorem eta12 (x:Option PrtD):(x.bind fun x5=>some (x5.1,x5.2.1,x5.2.2.1,x5.2.2.2.1,x5.2.2.2.2.1,x5.2.2.2.2.2.1,x5.2.2.2.2.2.2.1,x5.2.2.2.2.2.2.2.1,x5.2.2.2.2.2.2.2.2.1,x5.2.2.2.2.2.2.2.2.2.1,x5.2.2.2.2.2.2.2.2.2.2.1,x5.2.2.2.2.2.2.2.2.2.2.2))=x:=by cases x <;> rfl
theorem read4 (fl s:Int) (l:List Int):F_part_Read 4 fl s l=F_part_settings 4 fl s l:=eta12 _
theorem clone_eq {l:List Int} (h:l.length<=100000000):F_bytes_Clone l=some l:=by
 unfold F_bytes_Clone
 rw [Nat.ble_eq_true_of_le h,cond_true]
theorem read_settings (a:Bool):F_part_Read 4 (cond a 1 0) 0 []=some ([],0,0,0,0,[],false,a,false,false,false,0):=by
 rw [read4]
 cases a
 ·exact (join_inr (s:=(([]:List Int),0,0,0,0,([]:List (Int×Int)),false,false,false,false,false,0,([]:List Int),0,0,0,0,([]:List (Int×Int)),false,false,false)) (loop_inl rfl)).trans rfl
 ·exact (join_inr (s:=(([]:List Int),0,0,0,0,([]:List (Int×Int)),false,false,false,false,false,0,([]:List Int),0,0,0,0,([]:List (Int×Int)),false,true,false)) (loop_inl rfl)).trans rfl
end Go.Proofs.YtifbhefbhlbofaaDoor

namespace Go.Proofs.YtifbhefbhlbofaaDoor
open Pv
set_option linter.unusedVariables false
namespace Vp
abbrev st5:St6:=(4096,1,2147483647,65535,16384,2147483647)
def v0 (t:Tb):Vw:=⟨false,false,false,0,65535,[],st5,0,false,false,t,[]⟩
theorem gi_new1 {α:Type} {l:List α} {y z:α}:getI (l++[y,z]) (l.length:Int)=some y:=gi_of (by omega) (by rw [Int.toNat_natCast,List.getElem?_append_right (Nat.le_refl _),Nat.sub_self];rfl)
theorem gi_new2 {α:Type} {l:List α} {y z:α}:getI (l++[y,z]) ((l.length:Int)+1)=some z:=gi_of (by omega) (by rw [show ((l.length:Int)+1).toNat=l.length+1 by omega,List.getElem?_append_right (Nat.le_add_right _ _),Nat.add_sub_cancel_left];rfl)
theorem short_nil:NxShort []:=fun P p hg=>core_tiny hg (by decide)
def Ext (M:List MW) (W:List Wz) (S:List Sz) (P:List Pz) (D:List Dz) (T:List Tb) (M':List MW) (W':List Wz) (S':List Sz) (P':List Pz) (D':List Dz) (T':List Tb):Prop:=∀ (g:Fp) (es:MW) (V:Vw) (h:Int) (X Y:List Int),Hd g es M W S P D T V h X Y->Hd g es M' W' S' P' D' T' V h X Y
def fNew (M:List MW) (W:List Wz) (P:List Pz) (D:List Dz) (T:List Tb):Fp:=⟨(W.length:Int),(P.length:Int),(P.length:Int)+1,(M.length:Int),(D.length:Int),(T.length:Int)⟩
theorem new_ok:∃ t,TabOk t /\ ∀ (M:List MW) (W:List Wz) (P:List Pz) (D:List Dz) (T:List Tb),∃ M' W' P' D' T',F_watch_New M W P D T=some ((W.length:Int),M',W',P',D',T') /\ (∀ S,Hd (fNew M W P D T) [] M' W' S P' D' T' (v0 t) 0 [] []) /\
  (∀ S,Ext M W S P D T M' W' S P' D' T') /\ ∀ (S:List Sz) (g:Fp) (es:MW) (V:Vw) (h:Int) (X Y:List Int),Hd g es M W S P D T V h X Y->Dj (fNew M W P D T) g [] es:=by
 obtain ⟨t,ht,hn⟩:=dynnew_ok
 refine ⟨t,ht,fun M W P D T=>⟨M++[[]],W++[wOf (fNew M W P D T) (v0 t) 0],P++[(16384,[]),(16384,[])],D++[((T.length:Int),false)],T++[t],?_,fun S=>⟨⟨gi_new,gi_new,trivial,List.nodup_nil,gi_new,gi_new⟩,gi_new1,gi_new2,?_⟩,fun S g es V h X Y hh=>?_,fun S g es V h X Y hh=>?_⟩⟩
 ·unfold F_watch_New F_frame_New F_sets_First F_unpack_New
  simp only [Option.bind_some,hn]
  have e:((P++[((16384:Int),([]:List Int))]).length:Int)=(P.length:Int)+1:=by rw [List.length_append];simp
  have e2:P++[((16384:Int),([]:List Int))]++[(16384,[])]=P++[(16384,[]),(16384,[])]:=by rw [List.append_assoc];rfl
  rw [e,e2]
  rfl
 ·show (P.length:Int)≠(P.length:Int)+1
  omega
 ·exact ⟨⟨gi_app hh.hw.hW,gi_app hh.hw.hM,hh.hw.hS,hh.hw.hn,gi_app hh.hw.hD,gi_app hh.hw.hT⟩,gi_app hh.hi,gi_app hh.ho,hh.ne⟩
 ·have a1:=(gi_some hh.hw.hW).2.1
  have a2:=(gi_some hh.hi).2.1
  have a3:=(gi_some hh.ho).2.1
  have a4:=(gi_some hh.hw.hM).2.1
  have a5:=(gi_some hh.hw.hD).2.1
  have a6:=(gi_some hh.hw.hT).2.1
  exact ⟨show g.p≠(W.length:Int) by omega,⟨show g.i≠(P.length:Int) by omega,show g.i≠(P.length:Int)+1 by omega,show g.o≠(P.length:Int) by omega,show g.o≠(P.length:Int)+1 by omega⟩,show g.m≠(M.length:Int) by omega,show g.d≠(D.length:Int) by omega,show g.t≠(T.length:Int) by omega,fun e he=>by cases he⟩
theorem hd_other {f g:Fp} {es es' eg:MW} {M M':List MW} {W W':List Wz} {S S':List Sz} {P P':List Pz} {D D':List Dz} {T T':List Tb} {V:Vw} {h:Int} {X Y:List Int} (hk:Kp f es es' M W S D T M' W' S' D' T') (hkp:KpP f P P') (hd:Dj f g es eg) (hh:Hd g eg M W S P D T V h X Y):Hd g eg M' W' S' P' D' T' V h X Y /\ Dj f g es' eg:=by
 obtain ⟨a,b⟩:=hw_other hk hd hh.hw
 exact ⟨⟨a,hkp _ _ hd.di.1 hd.di.2.1 hh.hi,hkp _ _ hd.di.2.2.1 hd.di.2.2.2 hh.ho,hh.ne⟩,b⟩
theorem frames_at {f:Fp} {es:MW} {M:List MW} {W:List Wz} {S:List Sz} {P:List Pz} {D:List Dz} {T:List Tb} {V:Vw} {h:Int} {X Y:List Int} (hh:Hd f es M W S P D T V h X Y):F_watch_Watch_Frames f.p W=some V.frames:=by
 have hW':getI W f.p=some (h,f.i,f.o,V.deaf,V.blind,V.bad,V.highest,f.m,V.window,V.waits,V.sets,f.d,V.frames,V.gone):=hh.hw.hW
 unfold F_watch_Watch_Frames chk
 simp only [gi_nn hW',cond_true,hW',Option.bind_some]
theorem nx_fb {k fl s:Int} {body:List Int} (hok:okFb k fl s body):NxFrm (fb k fl s body) k fl s body []:=fun Z P p hZ hg=>next_fb (rest:=Z) (gi_nn hg) hok hg (by omega)
theorem ok4:okFb 4 0 0 []:=⟨by omega,by omega,by omega,by simp⟩
theorem ok5:okFb 5 0 1 []:=⟨by omega,by omega,by omega,by simp⟩
theorem right4 {V:Vw} (hg:V.gone=false):OutR V V true (fun f M W S D T B=>F_watch_Watch_right f.p 4 0 0 [] M W S D T B):=outr_same fun f es M W S D T B h hh=>by
 have hR:F_part_Read 4 0 0 []=some ([],0,0,0,0,[],false,false,false,false,false,0):=read_settings false
 show F_watch_Watch_right f.p 4 0 0 [] M W S D T B=_
 rw [right_eq hR hh,hg,show ((4:Int) != 4)=false from rfl]
 simp only [Bool.or_self,Bool.and_false,cond_false]
 unfold rtail
 rfl
theorem right5 {V:Vw}:OutR V V false (fun f M W S D T B=>F_watch_Watch_right f.p 5 0 1 [] M W S D T B):=outr_same fun f es M W S D T B h hh=>by
 have hR:F_part_Read 5 0 1 []=some ([],0,0,0,0,[],false,false,false,true,true,1):=rfl
 show F_watch_Watch_right f.p 5 0 1 [] M W S D T B=_
 rw [right_eq hR hh]
 simp only [Bool.or_true,Bool.true_or,cond_true]
theorem first_ok (M:List MW) (W:List Wz) (S:List Sz) (P:List Pz) (D:List Dz) (T:List Tb) (B:List Bk):∃ M' W' S' P' D' T' B',F_wlvlaw27_first M W S P D T B=some (true,M',W',S',P',D',T',B') /\ Ext M W S P D T M' W' S' P' D' T':=by
 obtain ⟨t,ht,hn⟩:=new_ok
 obtain ⟨M1,W1,P1,D1,T1,en,h0,x0,dj0⟩:=hn M W P D T
 obtain ⟨f,hf⟩:∃ f,fNew M W P D T=f:=⟨_,rfl⟩
 have hfp:f.p=(W.length:Int):=by rw [<-hf];rfl
 rw [hf] at h0 dj0
 have h0:=h0 S
 have r0:OuR (v0 t) [] [] (v0 t) []:=ou_nil (.inr (.inr short_nil))
 obtain ⟨W2,S2,P2,D2,T2,B2,e1,h1,k1,p1⟩:=ou_sem r0 (by decide) f [] M1 W1 S P1 D1 T1 B 0 [] h0
 have s4:StepO (v0 t) (fb 4 0 0 []) {v0 t with bad:=false,frames:=1} []:=stepO_of (V:=v0 t) (V1:=v0 t) (ok:=true) rfl rfl (Nat.zero_le _) (nx_fb ok4) (right4 rfl)
 have r1:OuR (v0 t) [] (fb 4 0 0 []) {v0 t with bad:=false,frames:=1} []:=.step s4 (.stop (.inr (.inr short_nil)))
 obtain ⟨W3,S3,P3,D3,T3,B3,e2,h2,k2,p2⟩:=ou_sem r1 (by decide) f [] M1 W2 S2 P2 D2 T2 B2 0 [] h1
 have s5:StepO {v0 t with bad:=false,frames:=1} (fb 5 0 1 []) {v0 t with bad:=true,frames:=1} []:=stepO_of (V:={v0 t with bad:=false,frames:=1}) (V1:={v0 t with bad:=false,frames:=1}) (ok:=false) rfl rfl (Nat.zero_le _) (nx_fb ok5) right5
 have r2:OuR {v0 t with bad:=false,frames:=1} [] (fb 5 0 1 []) {v0 t with bad:=true,frames:=1} []:=.step s5 (.stop (.inl rfl))
 obtain ⟨W4,S4,P4,D4,T4,B4,e3,h3,k3,p3⟩:=ou_sem r2 (by decide) f [] M1 W3 S3 P3 D3 T3 B3 0 [] h2
 have r3:OuR {v0 t with bad:=true,frames:=1} [] (fb 4 0 0 []) {v0 t with bad:=true,frames:=1} (fb 4 0 0 []):=.stop (.inl rfl)
 obtain ⟨W5,S5,P5,D5,T5,B5,e4,h4,k4,p4⟩:=ou_sem r3 (by decide) f [] M1 W4 S4 P4 D4 T4 B4 0 [] h3
 refine ⟨M1,W5,S5,P5,D5,T5,B5,?_,fun g es V h X Y hh=>?_⟩
 ·rw [hfp] at e1 e2 e3 e4
  have q1:=frames_at h1
  have q2:=frames_at h2
  rw [hfp] at q1 q2
  have q1':F_watch_Watch_Frames (W.length:Int) W2=some 0:=q1
  have q2':F_watch_Watch_Frames (W.length:Int) W3=some 1:=q2
  have a0:ansO (v0 t)=0:=rfl
  have a1:ansO {v0 t with bad:=false,frames:=1}=0:=rfl
  have a2:ansO {v0 t with bad:=true,frames:=1}=2:=rfl
  have p4':F_wlvref10_Put 4 0 0 []=some (fb 4 0 0 [],0):=put_eq ok4
  have hs:F_wlvref10_Settings [] false=some (4,0,0,[]):=settings_eq false
  rw [a0] at e1
  rw [a1] at e2
  rw [a2] at e3 e4
  unfold F_wlvlaw27_first
  rw [en,Option.bind_some]
  dsimp only
  rw [show eqI (W.length:Int) (-1)=false from beq_eq_false_iff_ne.2 (by omega),cond_false,e1,Option.bind_some]
  dsimp only
  rw [show ((0:Int) != 0)=false from rfl,cond_false,q1',Option.bind_some,show ((0:Int) != 0)=false from rfl,cond_false,hs,Option.bind_some]
  dsimp only
  rw [p4',Option.bind_some,put_eq ok5,Option.bind_some]
  dsimp only
  rw [e2,Option.bind_some]
  dsimp only
  rw [show ((0:Int)==0)=true from rfl,cond_true,q2',Option.bind_some,show ((1:Int)==1)=true from rfl,cond_true,e3,Option.bind_some]
  dsimp only
  rw [show ((2:Int)==2)=true from rfl,cond_true,e4,Option.bind_some]
  rfl
 ·have d0:=dj0 S g es V h X Y hh
  have g0:=x0 S g es V h X Y hh
  obtain ⟨g1,d1⟩:=hd_other k1 p1 d0 g0
  obtain ⟨g2,d2⟩:=hd_other k2 p2 d1 g1
  obtain ⟨g3,d3⟩:=hd_other k3 p3 d2 g2
  obtain ⟨g4,d4⟩:=hd_other k4 p4 d3 g3
  exact g4
def OpsB (l:List Pz):Prop:=∀ o∈l,Byt o.2
theorem ops_of {W:World} {C:Com} {y:(Ty.sl (.pr (.int .i64) (.sl (.int .u8)))).D} {cs:List Value} (h:RepD W C (.sl (.pr (.int .i64) (.sl (.int .u8)))) y cs):OpsB y:=fun x hx=>by
 obtain ⟨a,n,c,e,h4,h5,h6,h7⟩:=h
 obtain ⟨i,hi⟩:=List.mem_iff_getElem?.1 hx
 obtain ⟨ad,us,e1,e2,e3,e4⟩:=h7 i x hi
 obtain ⟨c1,c2,_,_,h9⟩:=e4
 exact bytes_of h9
def lsum:List Pz->Nat
 | []=>0
 | x::r=>x.2.length+lsum r
def msum:List Pz->Nat
 | []=>0
 | x::r=>min x.2.length 100001+msum r
theorem msum_le:∀ l:List Pz,msum l<=100001*l.length
 | []=>Nat.le_refl _
 | x::r=>by
  have:=msum_le r
  unfold msum
  rw [List.length_cons]
  omega
theorem lsum_of:∀ {l:List Pz},msum l<=100000->lsum l<=100000
 | [],_=>by decide
 | x::r,h=>by
  have key:∀ {l:List Pz},msum l<=100000->lsum l=msum l:=by
   intro l
   induction l with
   | nil=>intro _;rfl
   | cons x r ih=>
    intro h
    unfold msum at h
    unfold lsum msum
    rw [ih (by omega)]
    omega
  rw [key h]
  exact h
theorem few_loop {l:List Pz} {L:List Pz} (hL:L=l.take 300):∀ (j i s:Nat),i+j=L.length->s+msum (L.drop i)<=100000000->loopC (F_wlvlaw27_Few_L4 l) ((s:Int),(i:Int))=some (.inr ((s+msum (L.drop i):Nat):Int))
 | 0,i,s,hi,hs=>by
  have hLl:L.length=min 300 l.length:=by rw [hL,List.length_take]
  refine loop_inl ?_
  unfold F_wlvlaw27_Few_L4
  dsimp only
  have hc:(decide ((i:Int) < (l.length:Int))&&decide ((i:Int) < 300))=false:=by
   rw [Bool.and_eq_false_iff,decide_eq_false_iff_not,decide_eq_false_iff_not];omega
  rw [hc,cond_false,List.drop_of_length_le (by omega)]
  rfl
 | j+1,i,s,hi,hs=>by
  have hLl:L.length=min 300 l.length:=by rw [hL,List.length_take]
  have hlt:i < L.length:=by omega
  have hd:L.drop i=L[i]::L.drop (i+1):=List.drop_eq_getElem_cons hlt
  have hg:getI l (i:Int)=some L[i]:=by
   refine gi_of (by omega) ?_
   rw [Int.toNat_natCast]
   have:L[i]? = some L[i]:=List.getElem?_eq_getElem hlt
   rw [<-this,hL,List.getElem?_take,if_pos (by omega)]
  have hc:(decide ((i:Int) < (l.length:Int))&&decide ((i:Int) < 300))=true:=by
   rw [Bool.and_eq_true,decide_eq_true_iff,decide_eq_true_iff];omega
  have hm:msum (L.drop i)=min L[i].2.length 100001+msum (L.drop (i+1)):=by rw [hd];rfl
  have ih:=few_loop hL j (i+1) (s+min L[i].2.length 100001) (by omega) (by omega)
  have e2:s+min L[i].2.length 100001+msum (L.drop (i+1))=s+msum (L.drop i):=by omega
  rw [e2] at ih
  refine loop_inr ?_ ih
  unfold F_wlvlaw27_Few_L4
  dsimp only
  have hmin:minI (L[i].2.length:Int) 100001=((min L[i].2.length 100001:Nat):Int):=by
   unfold minI
   by_cases h:(100001:Int) < (L[i].2.length:Int)
   ·rw [decide_eq_true h,cond_true];omega
   ·rw [decide_eq_false h,cond_false];omega
  rw [hc,cond_true,hg,Option.bind_some,hmin,w64 (x:=(s:Int)+((min L[i].2.length 100001:Nat):Int)) (by omega) (by omega),w64 (x:=(i:Int)+1) (by omega) (by omega)]
  rfl
theorem few_ok (l:List Pz):∃ b,F_wlvlaw27_Few l=some b /\ (b=true->l.length<=300 /\ lsum l<=100000):=by
 have hb:=msum_le (l.take 300)
 have hlen:(l.take 300).length<=300:=by rw [List.length_take];omega
 have h:=few_loop (l:=l) rfl (l.take 300).length 0 0 (by omega) (by rw [List.drop_zero];omega)
 rw [List.drop_zero,Nat.zero_add] at h
 refine ⟨decide ((l.length:Int)<=300)&&decide (((msum (l.take 300):Nat):Int)<=100000),?_,fun hh=>?_⟩
 ·unfold F_wlvlaw27_Few
  exact (join_inr h).trans rfl
 ·rw [Bool.and_eq_true,decide_eq_true_iff,decide_eq_true_iff] at hh
  have ht:l.take 300=l:=List.take_of_length_le (by omega)
  rw [ht] at hh
  exact ⟨by omega,lsum_of (by omega)⟩
theorem piece_cut {body r:List Int} {a n:Nat} (hd:body.drop a=r) (hr:r≠[]) (ha:a<=10000000) (hn:n<=100) (hb:body.length<=1000000):cutI body (a:Int) (minI (IntKind.i64.wrap ((a:Int)+(n:Int))) (body.length:Int))=some (r.take n) /\ a < body.length:=by
 have hrl:r.length=body.length - a:=by rw [<-hd,List.length_drop]
 have hr0:r.length≠0:=fun h=>hr (List.length_eq_zero_iff.1 h)
 have hm:minI (IntKind.i64.wrap ((a:Int)+(n:Int))) (body.length:Int)=((min (a+n) body.length:Nat):Int):=by
  rw [w64 (by omega) (by omega)]
  unfold minI
  by_cases h:(body.length:Int) < (a:Int)+(n:Int)
  ·rw [decide_eq_true h,cond_true];omega
  ·rw [decide_eq_false h,cond_false];omega
 refine ⟨?_,by omega⟩
 rw [hm,cut_ok (by omega) (by omega) (by omega),Int.toNat_natCast,Int.toNat_natCast,List.drop_take,hd]
 congr 1
 rw [List.take_eq_take_iff]
 omega
section
variable {l1 : List Pz} {kind i15 : Int} {body : List Int} {n : Nat} {f : Fp} {x14 : Int × List MW × List Wz × List Pz × List Dz × List Tb}
theorem pcI_sem {V V':Vw} {h h':Nat} {X X' r:List Int} (hx:x14.1=f.p) (hg:getI l1 i15=some (kind,body)) (hk:(kind==0)=true) (hn:n<=100) (hbl:body.length<=1000000) (hp:PcI n V h X r V' h' X') :
  ∀ (a:Nat),body.drop a=r->a<=1000100 -> ∀ (ans:Int) (es:MW) (M:List MW) (W:List Wz) (S:List Sz) (P:List Pz) (D:List Dz) (T:List Tb) (B:List Bk) (Y:List Int),Hd f es M W S P D T V (h:Int) X Y ->
  ∃ es' M' W' S' P',loopC (F_wlvlaw27_WatchPieces_L22 l1 (n:Int) x14 i15) (ans,(a:Int),M,W,S,P,D,T,B)=some (.inr (ans,M',W',S',P',D,T,B)) /\ Hd f es' M' W' S' P' D T V' (h':Int) X' Y /\ Kp f es es' M W S D T M' W' S' D T /\ KpP f P P':=by
 induction hp with
 | @nil V h X=>
  intro a ha ha2 ans es M W S P D T B Y hh
  refine ⟨es,M,W,S,P,loop_inl ?_,hh,kp_refl,fun j y _ _ hj=>hj⟩
  have hle:body.length<=a:=List.drop_eq_nil_iff.1 ha
  unfold F_wlvlaw27_WatchPieces_L22
  simp only [hg,Option.bind_some]
  rw [decide_eq_false (show ¬ (a:Int) < (body.length:Int) by omega),cond_false]
 | @cons V h X r V1 h1 X1 V2 h2 X2 hr hh24 hxl r1 p2 ih=>
  intro a ha ha2 ans es M W S P D T B Y hh
  obtain ⟨hcut,halt⟩:=piece_cut (n:=n) ha hr (by omega) hn hbl
  obtain ⟨es',M',W',S',P',e,g1,g2,g3⟩:=in_sem r1 hh24 (by rw [List.length_take];omega) f es M W S P D T Y hh
  obtain ⟨es2,M2,W2,S2,P2,e2,k1,k2,k3⟩:=ih (a+n) (by rw [<-ha,List.drop_drop]) (by omega) ans es' M' W' S' P' D T B Y g1
  refine ⟨es2,M2,W2,S2,P2,loop_inr ?_ e2,k1,kp_comp g2 k2,g3.comp k3⟩
  unfold F_wlvlaw27_WatchPieces_L22
  simp only [hg,Option.bind_some]
  rw [decide_eq_true (show (a:Int) < (body.length:Int) by omega),cond_true,hcut,Option.bind_some,hk,cond_true,hx,e,Option.bind_some,w64 (by omega) (by omega)]
  rfl
theorem pcO_sem {V V':Vw} {Y Y' r:List Int} (hx:x14.1=f.p) (hg:getI l1 i15=some (kind,body)) (hk:(kind==0)=false) (hn:n<=100) (hbl:body.length<=1000000) (hp:PcO n V Y r V' Y') :
  ∀ (a:Nat),body.drop a=r->a<=1000100 -> ∀ (ans:Int) (es:MW) (M:List MW) (W:List Wz) (S:List Sz) (P:List Pz) (D:List Dz) (T:List Tb) (B:List Bk) (h:Int) (X:List Int),Hd f es M W S P D T V h X Y ->
  ∃ ans' W' S' P' D' T' B',loopC (F_wlvlaw27_WatchPieces_L22 l1 (n:Int) x14 i15) (ans,(a:Int),M,W,S,P,D,T,B)=some (.inr (ans',M,W',S',P',D',T',B')) /\ (ans=ansO V \/ r≠[]->ans'=ansO V') /\ Hd f es M W' S' P' D' T' V' h X Y' /\ Kp f es es M W S D T M W' S' D' T' /\ KpP f P P':=by
 induction hp with
 | @nil V Y=>
  intro a ha ha2 ans es M W S P D T B h X hh
  refine ⟨ans,W,S,P,D,T,B,loop_inl ?_,fun hq=>?_,hh,kp_refl,fun j y _ _ hj=>hj⟩
  ·have hle:body.length<=a:=List.drop_eq_nil_iff.1 ha
   unfold F_wlvlaw27_WatchPieces_L22
   simp only [hg,Option.bind_some]
   rw [decide_eq_false (show ¬ (a:Int) < (body.length:Int) by omega),cond_false]
  ·rcases hq with hq | hq
   ·exact hq
   ·exact absurd rfl hq
 | @cons V Y r V1 Y1 V2 Y2 hr hxl r1 p2 ih=>
  intro a ha ha2 ans es M W S P D T B h X hh
  obtain ⟨hcut,halt⟩:=piece_cut (n:=n) ha hr (by omega) hn hbl
  obtain ⟨W',S',P',D',T',B',e,g1,g2,g3⟩:=ou_sem r1 (by rw [List.length_take];omega) f es M W S P D T B h X hh
  obtain ⟨ans',W2,S2,P2,D2,T2,B2,e2,ka,k1,k2,k3⟩:=ih (a+n) (by rw [<-ha,List.drop_drop]) (by omega) (ansO V1) es M W' S' P' D' T' B' h X g1
  refine ⟨ans',W2,S2,P2,D2,T2,B2,loop_inr ?_ e2,fun _=>ka (.inl rfl),k1,kp_comp g2 k2,g3.comp k3⟩
  unfold F_wlvlaw27_WatchPieces_L22
  simp only [hg,Option.bind_some]
  rw [decide_eq_true (show (a:Int) < (body.length:Int) by omega),cond_true,hcut,Option.bind_some,hk,cond_false,hx,e,Option.bind_some,w64 (by omega) (by omega)]
  rfl
end
theorem qs_len {t:Nat} {V:Vw} {h:Nat} {X Y:List Int} (hq:Qs t V h X Y):h<=24 /\ X.length<=t /\ Y.length<=t:=by
 obtain ⟨c,_,_,_,hc,hh,_,_⟩:=hq
 exact ⟨hh,by omega,by omega⟩
structure Two (fA fB:Fp) (M:List MW) (W:List Wz) (S:List Sz) (P:List Pz) (D:List Dz) (T:List Tb) (t:Nat) (V:Vw) (h:Nat) (X Y:List Int):Prop where
 two:∃ esA esB,Hd fA esA M W S P D T V (h:Int) X Y /\ Hd fB esB M W S P D T V (h:Int) X Y /\ Dj fA fB esA esB
 q:Qs t V h X Y
section
variable {l1 : List Pz} {n : Nat} {fA fB : Fp} {x13 x14 : Int × List MW × List Wz × List Pz × List Dz × List Tb}
theorem op_step (h13:x13.1=fA.p) (h14:x14.1=fB.p) (hn1:1<=n) (hn:n<=100) {i:Nat} {kind:Int} {body:List Int} (hi:i<=300) (hg:getI l1 (i:Int)=some (kind,body)) (hb:Byt body)
  {M:List MW} {W:List Wz} {S:List Sz} {P:List Pz} {D:List Dz} {T:List Tb} {B:List Bk} {t:Nat} {V:Vw} {h:Nat} {X Y:List Int} (hlt:(i:Int) < (l1.length:Int)) (ht:t+body.length<=1000000) (h2:Two fA fB M W S P D T t V h X Y) :
  ∃ M' W' S' P' D' T' B' V' h' X' Y',F_wlvlaw27_WatchPieces_L13 l1 (n:Int) x13 x14 ((i:Int),M,W,S,P,D,T,B)=some (.inr (((i+1:Nat):Int),M',W',S',P',D',T',B')) /\ Two fA fB M' W' S' P' D' T' (t+body.length) V' h' X' Y':=by
 obtain ⟨⟨esA,esB,hA,hB,hd⟩,hq⟩:=h2
 obtain ⟨hh24,hXt,hYt⟩:=qs_len hq
 have hwi:IntKind.i64.wrap ((i:Int)+1)=((i+1:Nat):Int):=by rw [w64 (by omega) (by omega)];omega
 cases hk:(kind==0) with
 | true=>
  obtain ⟨V',h',X',r,pc,q'⟩:=pcI_any hn1 body.length (Nat.le_refl _) hq hb ht
  obtain ⟨eA,M1,W1,S1,P1,e1,a1,a2,a3⟩:=in_sem r hh24 (by omega) fA esA M W S P D T Y hA
  obtain ⟨b1,bd⟩:=hd_other a2 a3 hd hB
  obtain ⟨eB,M2,W2,S2,P2,e2,c1,c2,c3⟩:=pcI_sem (x14:=x14) h14 hg hk hn (by omega) pc 0 rfl (by omega) 0 esB M1 W1 S1 P1 D T B Y b1
  obtain ⟨d1,dd⟩:=hd_other c2 c3 bd.symm a1
  refine ⟨M2,W2,S2,P2,D,T,B,V',h',X',Y,?_,⟨⟨eA,eB,d1,c1,dd.symm⟩,q'⟩⟩
  have hj:F_wlvlaw27_WatchPieces_J20 l1 x13 x14 (i:Int) (0,M2,W2,S2,P2,D,T,B)=some (.inr (M2,W2,S2,P2,D,T,B)):=by
   have hk':(kind != 0)=false:=by
    have:kind=0:=beq_iff_eq.1 hk
    rw [this];rfl
   have fa:=frames_at d1
   have fb':=frames_at c1
   unfold F_wlvlaw27_WatchPieces_J20
   simp only [hg,Option.bind_some,hk',cond_false,h13,h14,fa,fb',bne_self_eq_false]
  unfold F_wlvlaw27_WatchPieces_L13
  dsimp only
  rw [decide_eq_true hlt,cond_true]
  refine (join_inr (s:=(M2,W2,S2,P2,D,T,B)) ?_).trans ?_
  ·rw [hg,Option.bind_some,hk,cond_true,Option.bind_some,h13,e1,Option.bind_some]
   exact (join_inr e2).trans hj
  ·unfold F_wlvlaw27_WatchPieces_J16
   dsimp only
   rw [hwi]
 | false=>
  obtain ⟨V',Y',r,pc,q'⟩:=pcO_any hn1 body.length (Nat.le_refl _) hq hb ht
  obtain ⟨W1,S1,P1,D1,T1,B1,e1,a1,a2,a3⟩:=ou_sem r (by omega) fA esA M W S P D T B (h:Int) X hA
  obtain ⟨b1,bd⟩:=hd_other a2 a3 hd hB
  obtain ⟨ans',W2,S2,P2,D2,T2,B2,e2,ka,c1,c2,c3⟩:=pcO_sem (x14:=x14) h14 hg hk hn (by omega) pc 0 rfl (by omega) 0 esB M W1 S1 P1 D1 T1 B1 (h:Int) X b1
  obtain ⟨d1,dd⟩:=hd_other c2 c3 bd.symm a1
  refine ⟨M,W2,S2,P2,D2,T2,B2,V',h,X,Y',?_,⟨⟨esA,esB,d1,c1,dd.symm⟩,q'⟩⟩
  have hj:F_wlvlaw27_WatchPieces_J20a l1 x13 x14 (i:Int) (ansO V',W1,S1,P1,D1,T1,B1) (ans',M,W2,S2,P2,D2,T2,B2)=some (.inr (M,W2,S2,P2,D2,T2,B2)):=by
   have hk':(kind != 0)=true:=by
    have:kind≠0:=beq_eq_false_iff_ne.1 hk
    exact bne_iff_ne.2 this
   have fa:=frames_at d1
   have fb':=frames_at c1
   have hcmp:(decide ((body.length:Int) > 0)&&(ansO V' != ans'))=false:=by
    cases body with
    | nil=>rfl
    | cons x r=>
     rw [ka (.inr (by simp)),bne_self_eq_false,Bool.and_false]
   unfold F_wlvlaw27_WatchPieces_J20a
   simp only [hg,Option.bind_some,hk',cond_true,hcmp,cond_false,h13,h14,fa,fb',bne_self_eq_false]
  unfold F_wlvlaw27_WatchPieces_L13
  dsimp only
  rw [decide_eq_true hlt,cond_true]
  refine (join_inr (s:=(M,W2,S2,P2,D2,T2,B2)) ?_).trans ?_
  ·rw [hg,Option.bind_some,hk,cond_false,Option.bind_some,h13,e1,Option.bind_some]
   exact (join_inr e2).trans hj
  ·unfold F_wlvlaw27_WatchPieces_J16
   dsimp only
   rw [hwi]
theorem ops_loop (h13:x13.1=fA.p) (h14:x14.1=fB.p) (hn1:1<=n) (hn:n<=100) (hl:l1.length<=300) (hb:OpsB l1):∀ (j i:Nat) {M:List MW} {W:List Wz} {S:List Sz} {P:List Pz} {D:List Dz} {T:List Tb} {B:List Bk} {t:Nat} {V:Vw} {h:Nat} {X Y:List Int},i+j=l1.length->t+lsum (l1.drop i)<=1000000->Two fA fB M W S P D T t V h X Y ->
  ∃ M' W' S' P' D' T' B' t' V' h' X' Y',loopC (F_wlvlaw27_WatchPieces_L13 l1 (n:Int) x13 x14) ((i:Int),M,W,S,P,D,T,B)=some (.inr (M',W',S',P',D',T',B')) /\ t'<=1000000 /\ Two fA fB M' W' S' P' D' T' t' V' h' X' Y'
 | 0,i,M,W,S,P,D,T,B,t,V,h,X,Y,hi,ht,h2=>by
  refine ⟨M,W,S,P,D,T,B,t,V,h,X,Y,loop_inl ?_,by omega,h2⟩
  unfold F_wlvlaw27_WatchPieces_L13
  dsimp only
  rw [decide_eq_false (by omega),cond_false]
 | j+1,i,M,W,S,P,D,T,B,t,V,h,X,Y,hi,ht,h2=>by
  have hlt:i < l1.length:=by omega
  have hd:l1.drop i=l1[i]::l1.drop (i+1):=List.drop_eq_getElem_cons hlt
  have hg:getI l1 (i:Int)=some (l1[i].1,l1[i].2):=gi_of (by omega) (by rw [Int.toNat_natCast];exact List.getElem?_eq_getElem hlt)
  have hs:lsum (l1.drop i)=l1[i].2.length+lsum (l1.drop (i+1)):=by rw [hd];rfl
  obtain ⟨M1,W1,S1,P1,D1,T1,B1,V1,h1,X1,Y1,e1,q1⟩:=op_step (B:=B) h13 h14 hn1 hn (by omega) hg (hb _ (List.getElem_mem hlt)) (by omega) (by omega) h2
  obtain ⟨M2,W2,S2,P2,D2,T2,B2,t2,V2,h2,X2,Y2,e2,q2,q3⟩:=ops_loop h13 h14 hn1 hn hl hb j (i+1) (B:=B1) (by omega) (by omega) q1
  exact ⟨M2,W2,S2,P2,D2,T2,B2,t2,V2,h2,X2,Y2,loop_inr e1 e2,q2,q3⟩
end
theorem sent_ok {t:Nat} {V:Vw} {h:Nat} {X Y:List Int} (k:Int) (hq:Qs t V h X Y) (ht:t<=1000000):∃ l,∀ (f:Fp) (es:MW) (M:List MW) (W:List Wz) (S:List Sz) (P:List Pz) (D:List Dz) (T:List Tb),Hd f es M W S P D T V (h:Int) X Y->F_watch_Watch_Sent f.p k M W S=some l:=by
 obtain ⟨c,hV,_,_,hc,_,_,_⟩:=hq
 cases hg:mapGet V.ms k with
 | none=>
  refine ⟨[],fun f es M W S P D T hh=>?_⟩
  have hW':getI W f.p=some ((h:Int),f.i,f.o,V.deaf,V.blind,V.bad,V.highest,f.m,V.window,V.waits,V.sets,f.d,V.frames,V.gone):=hh.hw.hW
  rcases str_get (k:=k) hh.hw.hS with g | ⟨e,s',g1,g2,g3,_⟩
  ·have hz:eqI (getZ (none:Option Int) (-1)) (-1)=true:=rfl
   unfold F_watch_Watch_Sent chk
   simp only [gi_nn hW',cond_true,hW',Option.bind_some,hh.hw.hM,g.1,hz,Bool.not_true,cond_false]
  ·rw [g2] at hg;cases hg
 | some s0=>
  obtain ⟨y0,hy0,hy1⟩:=mg_mem hg
  have hdat:s0.2.2.2.2.length<=c:=by
   have:=hV.dat y0 hy0
   rw [hy1] at this
   exact this
  refine ⟨s0.2.2.2.2,fun f es M W S P D T hh=>?_⟩
  have hW':getI W f.p=some ((h:Int),f.i,f.o,V.deaf,V.blind,V.bad,V.highest,f.m,V.window,V.waits,V.sets,f.d,V.frames,V.gone):=hh.hw.hW
  rcases str_get (k:=k) hh.hw.hS with g | ⟨e,s',g1,g2,g3,_⟩
  ·rw [g.2] at hg;cases hg
  ·rw [hg] at g2
   injection g2 with g2
   subst g2
   have hz:getZ (some e) (-1:Int)=e:=rfl
   unfold F_watch_Watch_Sent chk
   simp only [gi_nn hW',cond_true,hW',Option.bind_some,hh.hw.hM,g1,hz,ne_m1 (gi_some g3).1,Bool.not_false,gi_nn g3,g3,clone_eq (show s0.2.2.2.2.length<=100000000 by omega)]
theorem v0_ok {t:Tb} (ht:TabOk t):Qs 0 (v0 t) 0 [] []:=⟨0,⟨ht,⟨show (-2147483647:Int)<=65535 by decide,show (65535:Int)<=2147483647 by decide⟩,⟨show (0:Int)<=65535 by decide,show (65535:Int)<=2147483647 by decide⟩,fun w hw=>(by cases hw),Nat.le_refl _,.inr fun s hs=>(by cases hs),fun s hs=>(by cases hs)⟩,Byt.nil,Byt.nil,Nat.le_refl _,by omega,.inr (.inr short_nil),.inr (.inr short_nil)⟩
theorem two_new (M:List MW) (W:List Wz) (S:List Sz) (P:List Pz) (D:List Dz) (T:List Tb):∃ x13 x14 fA fB t,F_watch_New M W P D T=some x13 /\ F_watch_New x13.2.1 x13.2.2.1 x13.2.2.2.1 x13.2.2.2.2.1 x13.2.2.2.2.2=some x14 /\ x13.1=fA.p /\ x14.1=fB.p /\ 0<=fA.p /\ 0<=fB.p /\ Two fA fB x14.2.1 x14.2.2.1 S x14.2.2.2.1 x14.2.2.2.2.1 x14.2.2.2.2.2 0 (v0 t) 0 [] []:=by
 obtain ⟨t,ht,hn⟩:=new_ok
 obtain ⟨M1,W1,P1,D1,T1,en,h0,x0,dj0⟩:=hn M W P D T
 obtain ⟨M2,W2,P2,D2,T2,en2,h2,x2,dj2⟩:=hn M1 W1 P1 D1 T1
 refine ⟨_,_,fNew M W P D T,fNew M1 W1 P1 D1 T1,t,en,en2,rfl,rfl,?_,?_,⟨[],[],x2 S _ _ _ _ _ _ (h0 S),h2 S,(dj2 S _ _ _ _ _ _ (h0 S)).symm⟩,v0_ok ht⟩
 ·show (0:Int)<=(W.length:Int);omega
 ·show (0:Int)<=(W1.length:Int);omega
theorem pieces_ok {l:List Pz} (size:Int) (hb:OpsB l) (M:List MW) (W:List Wz) (S:List Sz) (P:List Pz) (D:List Dz) (T:List Tb) (B:List Bk):∃ z,F_wlvlaw27_WatchPieces l size M W S P D T B=some (true,z):=by
 obtain ⟨M1,W1,S1,P1,D1,T1,B1,e1,_⟩:=first_ok M W S P D T B
 obtain ⟨b,hf,hfew⟩:=few_ok l
 unfold F_wlvlaw27_WatchPieces
 rw [e1,Option.bind_some]
 dsimp only
 rw [Bool.not_true,cond_false,hf,Option.bind_some]
 cases hc:(((!b)||(decide (size < 1)))||(decide (size > 100))) with
 | true=>
  obtain ⟨M2,W2,S2,P2,D2,T2,B2,e2,_⟩:=first_ok M1 W1 S1 P1 D1 T1 B1
  rw [cond_true,e2,Option.bind_some]
  exact ⟨_,rfl⟩
 | false=>
  rw [Bool.or_eq_false_iff,Bool.or_eq_false_iff] at hc
  have hbt:b=true:=by cases b with
   | true=>rfl
   | false=>exact absurd hc.1.1 (by decide)
  have hs1:¬ size < 1:=of_decide_eq_false hc.1.2
  have hs2:¬ size > 100:=of_decide_eq_false hc.2
  obtain ⟨hl300,hsum⟩:=hfew hbt
  obtain ⟨n,rfl⟩:∃ n:Nat,size=(n:Int):=⟨size.toNat,by omega⟩
  obtain ⟨x13,x14,fA,fB,t,n1,n2,h13,h14,p1,p2,two⟩:=two_new M1 W1 S1 P1 D1 T1
  obtain ⟨M3,W3,S3,P3,D3,T3,B3,t3,V,h,X,Y,e3,ht3,⟨esA,esB,hA,hB,hd⟩,hq⟩:=ops_loop (l1:=l) (x13:=x13) (x14:=x14) (n:=n) h13 h14 (by omega) (by omega) hl300 hb l.length 0 (B:=B1) (by omega) (by rw [List.drop_zero];omega) two
  obtain ⟨sent,hsent⟩:=sent_ok 1 hq ht3
  obtain ⟨M4,W4,S4,P4,D4,T4,B4,e4,ext⟩:=first_ok M3 W3 S3 P3 D3 T3 B3
  have sA:=hsent fA esA _ _ _ _ _ _ (ext _ _ _ _ _ _ hA)
  have sB:=hsent fB esB _ _ _ _ _ _ (ext _ _ _ _ _ _ hB)
  rw [cond_false,n1,Option.bind_some,n2,Option.bind_some]
  have hne:(eqI x13.1 (-1)||eqI x14.1 (-1))=false:=by rw [h13,h14,ne_m1 p1,ne_m1 p2];rfl
  rw [hne,cond_false]
  have hJ:F_wlvlaw27_WatchPieces_J11 x13 x14 (M3,W3,S3,P3,D3,T3,B3)=some (true,M4,W4,S4,P4,D4,T4,B4):=by
   unfold F_wlvlaw27_WatchPieces_J11
   dsimp only
   rw [e4,Option.bind_some,cond_true]
   dsimp only
   rw [h13,h14,sA,Option.bind_some,sB,Option.bind_some]
   unfold F_wlvref_Bytes
   rw [beq_self_eq_true]
   rfl
  exact ⟨_,(join_inr e3).trans hJ⟩
end Vp
theorem WatchPieces_true (l:List (Int×List Int)) (size:Int) (hb:Vp.OpsB l):∃ z,F_wlvlaw27_WatchPieces l size [] [] [] [] [] [] []=some (true,z):=Vp.pieces_ok size hb [] [] [] [] [] [] []
end Go.Proofs.YtifbhefbhlbofaaDoor
