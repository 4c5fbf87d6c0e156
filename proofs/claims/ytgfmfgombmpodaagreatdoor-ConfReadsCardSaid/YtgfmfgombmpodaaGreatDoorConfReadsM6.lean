/- Texts of this claim, one behind the other. -/
import Derived.Test.YtgfmfgombmpodaaGreatDoorConfReadsM5
set_option maxRecDepth 100000
namespace Go.Proofs.YtgfmfgombmpodaaGreatDoor
open Pv
set_option linter.unusedVariables false
def hexGB (p:List Int):Bool:=decide (1<=p.length)&&decide (p.length<=4)&&p.all fun c=>decide (0<=dg c)
def hexV (p:List Int):Int:=p.foldl (fun n c=>n*16+dg c) 0
def bytesP (ps:List (List Int)):List Int:=ps.flatMap fun p=>by2 (hexV p)
theorem bytesP_len (ps:List (List Int)):(bytesP ps).length=2*ps.length:=by
 induction ps with
 | nil=>rfl
 | cons p ps ih=>
  show (by2 (hexV p)++bytesP ps).length=_
  rw [List.length_append,ih,List.length_cons]
  show 2+_=_
  omega
theorem bytesP_cons (p:List Int) (ps:List (List Int)):bytesP (p::ps)=by2 (hexV p)++bytesP ps:=rfl
theorem hexB_nil:hexGB []=false:=rfl
def Stop (rest:List Int):Prop:=rest=[] \/ ∃ r,rest=58::r
theorem part_ex:∀ r:List Int,∃ p rest,r=p++rest /\ (∀ c∈p,c≠58) /\ Stop rest
 | []=>⟨[],[],rfl,fun _ h=>(by cases h),.inl rfl⟩
 | c::r=>by
  by_cases h:c=58
  ·exact ⟨[],c::r,rfl,fun _ h=>(by cases h),.inr ⟨r,by rw [h]⟩⟩
  ·obtain ⟨p,rest,e,h1,h2⟩:=part_ex r
   refine ⟨c::p,rest,by rw [e];rfl,fun x hx=>?_,h2⟩
   rcases List.mem_cons.1 hx with rfl | hx
   ·exact h
   ·exact h1 x hx
theorem split_p:∀ (p:List Int),(∀ c∈p,c≠58)->splitI p 58=[p]
 | [],_=>rfl
 | c::p,h=>by
  unfold splitI
  rw [beq_eq_false_iff_ne.2 (h c List.mem_cons_self),cond_false,split_p p fun x hx=>h x (List.mem_cons_of_mem _ hx)]
theorem split_pc:∀ (p r:List Int),(∀ c∈p,c≠58)->splitI (p++58::r) 58=p::splitI r 58
 | [],r,_=>by
  show cond ((58:Int)==58) ([]::splitI r 58) (match splitI r 58 with | []=>[[58]] | w::q=>(58::w)::q)=[]::splitI r 58
  rfl
 | c::p,r,h=>by
  show splitI (c::(p++58::r)) 58=_
  rw [show splitI (c::(p++58::r)) 58=cond (c==58) ([]::splitI (p++58::r) 58) (match splitI (p++58::r) 58 with | []=>[[c]] | w::q=>(c::w)::q) from rfl]
  rw [beq_eq_false_iff_ne.2 (h c List.mem_cons_self),cond_false,split_pc p r fun x hx=>h x (List.mem_cons_of_mem _ hx)]
theorem digs_part:∀ (p rest:List Int) (n:Int) (z:Nat),(∀ c∈p,c≠58)->Stop rest->z<=4 ->
  ((p.all fun c=>decide (0<=dg c))&&decide (z+p.length<=4))=true /\ digs (p++rest) n z=(p.foldl (fun n c=>n*16+dg c) n,rest) \/
  ((p.all fun c=>decide (0<=dg c))&&decide (z+p.length<=4))=false /\ ∃ m c q,digs (p++rest) n z=(m,c::q) /\ c≠58
 | [],rest,n,z,_,hr,hz=>by
  refine .inl ⟨by simpa using hz,?_⟩
  rcases hr with rfl | ⟨r,rfl⟩
  ·rfl
  ·show digs (58::r) n z=_
   unfold digs
   rfl
 | c::p,rest,n,z,h,hr,hz=>by
  have hc:=h c List.mem_cons_self
  have hp:∀ x∈p,x≠58:=fun x hx=>h x (List.mem_cons_of_mem _ hx)
  have hu:digs ((c::p)++rest) n z=cond (decide (0<=dg c)&&decide (z < 4)) (digs (p++rest) (n*16+dg c) (z+1)) (n,c::(p++rest)):=rfl
  rw [hu,List.all_cons,List.length_cons]
  cases hd:decide (0<=dg c) with
  | false=>exact .inr ⟨rfl,n,c,p++rest,rfl,hc⟩
  | true=>
   by_cases hz4:z < 4
   ·rw [decide_eq_true hz4]
    have ih:=digs_part p rest (n*16+dg c) (z+1) hp hr (by omega)
    rw [show z+(p.length+1)=z+1+p.length by omega]
    exact ih
   ·rw [decide_eq_false hz4,decide_eq_false (show ¬ z+(p.length+1)<=4 by omega),Bool.and_false]
    exact .inr ⟨rfl,n,c,p++rest,rfl,hc⟩
theorem col_part (k:Nat) (b:List Int) (g:Int) (p rest:List Int) (hp:∀ c∈p,c≠58) (hr:Stop rest):colM (k+1) b g (p++rest)=cond (hexGB p) (tailM (colM k) (b++by2 (hexV p)) g rest) none:=by
 cases p with
 | nil=>
  rw [hexB_nil,cond_false]
  rcases hr with rfl | ⟨r,rfl⟩
  ·rfl
  ·rfl
 | cons c p=>
  have hu:colM (k+1) b g ((c::p)++rest)=cond (decide (0<=dg c)) (tailM (colM k) (b++by2 (digs (p++rest) (dg c) 1).1) g (digs (p++rest) (dg c) 1).2) none:=rfl
  have hb:hexGB (c::p)=(decide (0<=dg c)&&((p.all fun c=>decide (0<=dg c))&&decide (1+p.length<=4))):=by
   unfold hexGB
   rw [List.length_cons,List.all_cons,decide_eq_true (show 1<=p.length+1 by omega),Bool.true_and,show p.length+1=1+p.length by omega,Bool.and_comm,Bool.and_assoc]
  have hv:hexV (c::p)=p.foldl (fun n c=>n*16+dg c) (dg c):=by
   unfold hexV
   rw [List.foldl_cons,show (0:Int)*16+dg c=dg c by omega]
  rw [hu,hb,hv]
  cases decide (0<=dg c) with
  | false=>rfl
  | true=>
   rw [cond_true,Bool.true_and]
   rcases digs_part p rest (dg c) 1 (fun x hx=>hp x (List.mem_cons_of_mem _ hx)) hr (by decide) with ⟨h1,h2⟩ | ⟨h1,m,d,q,h2,h3⟩
   ·rw [h1,h2,cond_true]
   ·rw [h1,h2,cond_false]
    show cond (d != 58||_) none _=none
    rw [bne_iff_ne.2 h3,Bool.true_or,cond_true]
theorem stop_split {p rest:List Int} (hp:∀ c∈p,c≠58) (hr:Stop rest):(rest=[] /\ splitI (p++rest) 58=[p]) \/ ∃ r,rest=58::r /\ splitI (p++rest) 58=p::splitI r 58:=by
 rcases hr with rfl | ⟨r,rfl⟩
 ·exact .inl ⟨rfl,by rw [List.append_nil];exact split_p p hp⟩
 ·exact .inr ⟨r,rfl,split_pc p r hp⟩
theorem split_nn (r:List Int):1<=(splitI r 58).length:=by
 have:=splitI_ne r 58
 cases h:splitI r 58 with
 | nil=>exact absurd h this
 | cons _ _=>rw [List.length_cons];omega
theorem col_gap:∀ (k:Nat) (b:List Int) (g:Int) (r:List Int),r.length < k->0<=g->b.length<=14->b.length % 2=0 ->
  colM k b g r=cond ((splitI r 58).all hexGB&&decide (b.length+2*(splitI r 58).length<=14)) (some (insZ (b++bytesP (splitI r 58)) g.toNat)) none
 | 0,_,_,_,h,_,_,_=>absurd h (Nat.not_lt_zero _)
 | k+1,b,g,r,hk,hg,hb,he=>by
  obtain ⟨p,rest,rfl,hp,hr⟩:=part_ex r
  rw [col_part k b g p rest hp hr]
  have hl:=len2 b (hexV p)
  rcases stop_split hp hr with ⟨rfl,hs⟩ | ⟨r',rfl,hs⟩
  ·rw [hs]
   show cond (hexGB p) (overM (b++by2 (hexV p)) g) none=_
   rw [show [p].all hexGB=hexGB p by simp]
   cases hexGB p with
   | false=>rfl
   | true=>
    rw [cond_true,Bool.true_and]
    unfold overM
    rw [decide_eq_false (show ¬ g < 0 by omega),cond_false,hl]
    by_cases h16:b.length=14
    ·rw [decide_eq_true (show 16<=b.length+2 by omega),decide_eq_false (show ¬ b.length+2*[p].length<=14 by simp;omega)];rfl
    ·rw [decide_eq_false (show ¬ 16<=b.length+2 by omega),decide_eq_true (show b.length+2*[p].length<=14 by simp;omega)]
     show some _=some (insZ (b++(by2 (hexV p)++[])) g.toNat)
     rw [List.append_nil]
  ·rw [hs,List.all_cons,List.length_cons]
   have hnn:=split_nn r'
   cases hx:hexGB p with
   | false=>rfl
   | true=>
    rw [cond_true,Bool.true_and]
    show cond ((58:Int) != 58||(b++by2 (hexV p)).length==16) none (tail2 (colM k) (b++by2 (hexV p)) g r')=_
    rw [show ((58:Int) != 58)=false from rfl,Bool.false_or,hl]
    by_cases h16:b.length=14
    ·rw [beq_iff_eq.2 (show b.length+2=16 by omega),cond_true,decide_eq_false (show ¬ b.length+2*((splitI r' 58).length+1)<=14 by omega),Bool.and_false];rfl
    ·rw [beq_eq_false_iff_ne.2 (show b.length+2≠16 by omega),cond_false]
     cases r' with
     | nil=>rfl
     | cons d r2=>
      show cond (d != 58) (colM k (b++by2 (hexV p)) g (d::r2)) (cond (decide (0<=g)) none _)=_
      by_cases hd:d=58
      ·subst hd
       rw [show ((58:Int) != 58)=false from rfl,cond_false,decide_eq_true hg,cond_true]
       have:splitI (58::r2) 58=[]::splitI r2 58:=split_pc [] r2 (fun _ h=>by cases h)
       rw [this,List.all_cons,hexB_nil];rfl
      ·rw [bne_iff_ne.2 hd,cond_true]
       have hlen:(p++58::d::r2).length=p.length+(r2.length+2):=by rw [List.length_append];rfl
       rw [col_gap k (b++by2 (hexV p)) g (d::r2) (by simp at hlen hk ⊢;omega) hg (by omega) (by omega),hl,bytesP_cons,List.append_assoc]
       rw [show b.length+2*((splitI (d::r2) 58).length+1)=b.length+2+2*(splitI (d::r2) 58).length by omega]
def dcI:List Int->Option Nat
 | []=>none
 | c::r=>cond (c==58&&r.head? == some 58) (some 0) ((dcI r).map (· + 1))
theorem dc_p:∀ (p rest:List Int),(∀ c∈p,c≠58)->dcI (p++rest)=(dcI rest).map (· + p.length)
 | [],rest,_=>by simp
 | c::p,rest,h=>by
  show cond (c==58&&_) _ ((dcI (p++rest)).map (· + 1))=_
  rw [beq_eq_false_iff_ne.2 (h c List.mem_cons_self),Bool.false_and,cond_false,dc_p p rest fun x hx=>h x (List.mem_cons_of_mem _ hx),Option.map_map]
  congr 1
def partsO (r:List Int):List (List Int):=cond (r==[]) [] (splitI r 58)
def grpR (b:List Int) (r:List Int):Option (List Int):=match dcI r with
  | none=>cond ((splitI r 58).all hexGB&&(b.length+2*(splitI r 58).length==16)) (some (b++bytesP (splitI r 58))) none
  | some i => cond ((partsO (r.take i)).all hexGB && (partsO (r.drop (i + 2))).all hexGB && decide (b.length + 2 * (partsO (r.take i)).length + 2 * (partsO (r.drop (i + 2))).length <= 14))
      (some (insZ (b++bytesP (partsO (r.take i))++bytesP (partsO (r.drop (i+2)))) (b.length+2*(partsO (r.take i)).length))) none
theorem partsO_ne {r:List Int} (h:r≠[]):partsO r=splitI r 58:=by
 unfold partsO
 rw [beq_eq_false_iff_ne.2 h,cond_false]
theorem col_nogap:∀ (k:Nat) (b:List Int) (r:List Int),r.length < k->b.length<=14->b.length % 2=0->dcI r≠some 0->colM k b (-1) r=grpR b r
 | 0,_,_,h,_,_,_=>absurd h (Nat.not_lt_zero _)
 | k+1,b,r,hk,hb,he,hd0=>by
  obtain ⟨p,rest,rfl,hp,hr⟩:=part_ex r
  rw [col_part k b (-1) p rest hp hr]
  have hl:=len2 b (hexV p)
  have hdc:=dc_p p rest hp
  rcases stop_split hp hr with ⟨rfl,hs⟩ | ⟨r',rfl,hs⟩
  ·unfold grpR
   rw [hdc]
   show _=cond ((splitI (p++[]) 58).all hexGB&&(b.length+2*(splitI (p++[]) 58).length==16)) (some (b++bytesP (splitI (p++[]) 58))) none
   rw [hs,show [p].all hexGB=hexGB p by simp]
   cases hexGB p with
   | false=>rfl
   | true=>
    show overM (b++by2 (hexV p)) (-1)=cond (b.length+2*1==16) (some (b++(by2 (hexV p)++[]))) none
    unfold overM
    rw [hl,List.append_nil];rfl
  ·-- a colon
   have hlen:(p++58::r').length=p.length+(r'.length+1):=by rw [List.length_append];rfl
   have hne:∀ i,p.length<=i->(p++58::r').take i=p++(58::r').take (i - p.length):=fun i hi=>by
    rw [List.take_append,List.take_of_length_le hi]
   have hnd:∀ i,p.length<=i->(p++58::r').drop i=(58::r').drop (i - p.length):=fun i hi=>by
    rw [List.drop_append,List.drop_of_length_le hi];rfl
   by_cases hdd:r'.head? = some 58
   ·-- two colons
    obtain ⟨r2,rfl⟩:∃ r2,r'=58::r2:=by
     cases r' with
     | nil=>cases hdd
     | cons x r2=>injection hdd with hdd;exact ⟨r2,by rw [hdd]⟩
    have hdc0:dcI (58::58::r2)=some 0:=rfl
    rw [hdc0] at hdc
    have hdc:dcI (p++58::58::r2)=some p.length:=by rw [hdc];simp
    have hpne:p≠[]:=fun e=>hd0 (by rw [hdc,e];rfl)
    unfold grpR
    rw [hdc]
    show _=cond ((partsO ((p++58::58::r2).take p.length)).all hexGB&&(partsO ((p++58::58::r2).drop (p.length+2))).all hexGB&&decide (b.length+2*(partsO ((p++58::58::r2).take p.length)).length+2*(partsO ((p++58::58::r2).drop (p.length+2))).length<=14))
     (some (insZ (b++bytesP (partsO ((p++58::58::r2).take p.length))++bytesP (partsO ((p++58::58::r2).drop (p.length+2)))) (b.length+2*(partsO ((p++58::58::r2).take p.length)).length))) none
    rw [List.take_left,hnd (p.length+2) (by omega),show p.length+2 - p.length=2 by omega,show (58::58::r2:List Int).drop 2=r2 from rfl,partsO_ne hpne,split_p p hp]
    rw [show [p].all hexGB=hexGB p by simp]
    cases hexGB p with
    | false=>rfl
    | true=>
     rw [cond_true,Bool.true_and]
     show cond ((58:Int) != 58||(b++by2 (hexV p)).length==16) none (cond ((58:Int) != 58) (colM k (b++by2 (hexV p)) (-1) (58::r2)) (cond (decide ((0:Int) <= -1)) none (tail3 (colM k) (b++by2 (hexV p)) r2)))=_
     rw [show ((58:Int) != 58)=false from rfl,Bool.false_or,cond_false,show decide ((0:Int) <= -1)=false from rfl,cond_false,hl]
     show cond (b.length+2==16) none _=cond ((partsO r2).all hexGB&&decide (b.length+2*1+2*(partsO r2).length<=14)) (some (insZ (b++(by2 (hexV p)++[])++bytesP (partsO r2)) (b.length+2*1))) none
     rw [List.append_nil]
     by_cases h16:b.length=14
     ·rw [beq_iff_eq.2 (show b.length+2=16 by omega),cond_true,decide_eq_false (show ¬ b.length+2*1+2*(partsO r2).length<=14 by omega),Bool.and_false];rfl
     ·rw [beq_eq_false_iff_ne.2 (show b.length+2≠16 by omega),cond_false]
      cases r2 with
      | nil=>
       show overM (b++by2 (hexV p)) ((b++by2 (hexV p)).length:Int)=cond (true&&decide (b.length+2*1+2*0<=14)) (some (insZ (b++by2 (hexV p)++[]) (b.length+2*1))) none
       unfold overM
       rw [hl,List.append_nil,decide_eq_false (show ¬ ((b.length+2:Nat):Int) < 0 by omega),cond_false,decide_eq_false (show ¬ 16<=b.length+2 by omega),cond_false,decide_eq_true (show b.length+2*1+2*0<=14 by omega),Int.toNat_natCast];rfl
      | cons e r3=>
       show colM k (b++by2 (hexV p)) ((b++by2 (hexV p)).length:Int) (e::r3)=_
       have hkk:(e::r3).length < k:=by rw [hlen] at hk;simp at hk ⊢;omega
       rw [col_gap k _ _ _ hkk (by omega) (by omega) (by omega),partsO_ne (by simp),hl,Int.toNat_natCast,show b.length+2*1=b.length+2 by omega]
   ·-- one colon
    have hdc1:dcI (58::r')=(dcI r').map (· + 1):=by
     show cond ((58:Int)==58&&r'.head? == some 58) _ _=_
     rw [beq_eq_false_iff_ne.2 hdd,Bool.and_false,cond_false]
    rw [hdc1] at hdc
    have hr'0:dcI r'≠some 0:=fun e=>by
     cases r' with
     | nil=>cases e
     | cons x r2=>
      have e':cond (x==58&&r2.head? == some 58) (some 0) ((dcI r2).map (· + 1))=some 0:=e
      cases hx:x==58 with
      | true=>exact hdd (by rw [beq_iff_eq.1 hx];rfl)
      | false=>
       rw [hx,Bool.false_and,cond_false] at e'
       obtain ⟨q,_,hq⟩:=Option.map_eq_some_iff.1 e'
       omega
    have hnn:=split_nn r'
    unfold grpR
    rw [hdc]
    cases hdr:dcI r' with
    | none=>
     show _=cond ((splitI (p++58::r') 58).all hexGB&&(b.length+2*(splitI (p++58::r') 58).length==16)) (some (b++bytesP (splitI (p++58::r') 58))) none
     rw [hs,List.all_cons,List.length_cons]
     cases hexGB p with
     | false=>rfl
     | true=>
      rw [cond_true,Bool.true_and]
      show cond ((58:Int) != 58||(b++by2 (hexV p)).length==16) none (tail2 (colM k) (b++by2 (hexV p)) (-1) r')=_
      rw [show ((58:Int) != 58)=false from rfl,Bool.false_or,hl]
      by_cases h16:b.length=14
      ·rw [beq_iff_eq.2 (show b.length+2=16 by omega),cond_true,beq_eq_false_iff_ne.2 (show b.length+2*((splitI r' 58).length+1)≠16 by omega),Bool.and_false];rfl
      ·rw [beq_eq_false_iff_ne.2 (show b.length+2≠16 by omega),cond_false]
       cases r' with
       | nil=>rfl
       | cons d r2=>
        have hd:d≠58:=fun e=>hdd (by rw [e];rfl)
        show cond (d != 58) (colM k (b++by2 (hexV p)) (-1) (d::r2)) _=_
        rw [bne_iff_ne.2 hd,cond_true]
        have hkk:(d::r2).length < k:=by rw [hlen] at hk;omega
        rw [col_nogap k (b++by2 (hexV p)) (d::r2) hkk (by omega) (by omega) hr'0]
        unfold grpR
        rw [hdr]
        show cond (_&&((b++by2 (hexV p)).length+_==16)) _ _=_
        rw [hl,bytesP_cons,List.append_assoc,show b.length+2*((splitI (d::r2) 58).length+1)=b.length+2+2*(splitI (d::r2) 58).length by omega]
    | some i=>
     have ei:((some i).map (· + 1)).map (· + p.length)=some (i+1+p.length):=rfl
     rw [ei]
     show _=cond ((partsO ((p++58::r').take (i+1+p.length))).all hexGB&&(partsO ((p++58::r').drop (i+1+p.length+2))).all hexGB&&decide (b.length+2*(partsO ((p++58::r').take (i+1+p.length))).length+2*(partsO ((p++58::r').drop (i+1+p.length+2))).length<=14))
      (some (insZ (b++bytesP (partsO ((p++58::r').take (i+1+p.length)))++bytesP (partsO ((p++58::r').drop (i+1+p.length+2)))) (b.length+2*(partsO ((p++58::r').take (i+1+p.length))).length))) none
     rw [hne (i+1+p.length) (by omega),hnd (i+1+p.length+2) (by omega),show i+1+p.length - p.length=i+1 by omega,show i+1+p.length+2 - p.length=(i+2)+1 by omega]
     rw [show (58::r':List Int).take (i+1)=58::r'.take i from rfl,show (58::r':List Int).drop (i+2+1)=r'.drop (i+2) from rfl]
     rw [partsO_ne (r:=p++58::r'.take i) (by simp),split_pc p _ hp,List.all_cons,List.length_cons]
     have hi0:i≠0:=fun e=>hr'0 (by rw [hdr,e])
     cases r' with
     | nil=>cases hdr
     | cons d r2=>
      have htk:(d::r2).take i≠[]:=by
       obtain ⟨j,rfl⟩:∃ j,i=j+1:=⟨i - 1,by omega⟩
       simp
      have hnn2:=split_nn ((d::r2).take i)
      cases hexGB p with
      | false=>rfl
      | true=>
       rw [cond_true,Bool.true_and]
       show cond ((58:Int) != 58||(b++by2 (hexV p)).length==16) none (tail2 (colM k) (b++by2 (hexV p)) (-1) (d::r2))=_
       rw [show ((58:Int) != 58)=false from rfl,Bool.false_or,hl]
       by_cases h16:b.length=14
       ·rw [beq_iff_eq.2 (show b.length+2=16 by omega),cond_true,decide_eq_false (by omega),Bool.and_false];rfl
       ·rw [beq_eq_false_iff_ne.2 (show b.length+2≠16 by omega),cond_false]
        have hd:d≠58:=fun e=>hdd (by rw [e];rfl)
        show cond (d != 58) (colM k (b++by2 (hexV p)) (-1) (d::r2)) _=_
        rw [bne_iff_ne.2 hd,cond_true]
        have hkk:(d::r2).length < k:=by rw [hlen] at hk;omega
        rw [col_nogap k (b++by2 (hexV p)) (d::r2) hkk (by omega) (by omega) hr'0]
        unfold grpR
        rw [hdr]
        show cond ((partsO ((d::r2).take i)).all hexGB&&(partsO ((d::r2).drop (i+2))).all hexGB&&decide ((b++by2 (hexV p)).length+2*(partsO ((d::r2).take i)).length+2*(partsO ((d::r2).drop (i+2))).length<=14))
         (some (insZ (b++by2 (hexV p)++bytesP (partsO ((d::r2).take i))++bytesP (partsO ((d::r2).drop (i+2)))) ((b++by2 (hexV p)).length+2*(partsO ((d::r2).take i)).length))) none=_
        rw [partsO_ne htk,hl,bytesP_cons,<- List.append_assoc b,show b.length+2*((splitI ((d::r2).take i) 58).length+1)=b.length+2+2*(splitI ((d::r2).take i) 58).length by omega]
theorem colR_eq (s:List Int):colR s=grpR [] s:=by
 unfold colR
 match s with
 | []=>rfl
 | [x]=>
  rw [show (([x]:List Int).take 2==[58,58])=false from beq_eq_false_iff_ne.2 fun e=>by simp at e,cond_false]
  have h0:dcI [x]≠some 0:=fun e=>by
   have e':cond (x==58&&false) (some 0) ((dcI []).map (· + 1))=some 0:=e
   rw [Bool.and_false] at e'
   cases e'
  exact col_nogap 2 [] [x] (by simp) (by simp) rfl h0
 | x::y::r=>
  have htk:(x::y::r).take 2=[x,y]:=rfl
  have hdp:(x::y::r).drop 2=r:=rfl
  rw [htk,hdp]
  by_cases hxy:x=58 /\ y=58
  ·obtain ⟨rfl,rfl⟩:=hxy
   rw [show (([58,58]:List Int)==[58,58])=true from rfl,cond_true]
   have hg:grpR [] (58::58::r)=cond (true&&(partsO r).all hexGB&&decide (0+2*0+2*(partsO r).length<=14)) (some (insZ ([]++[]++bytesP (partsO r)) (0+2*0))) none:=rfl
   rw [hg]
   cases r with
   | nil=>rfl
   | cons e r3=>
    rw [show ((e::r3)==([]:List Int))=false from rfl,cond_false,col_gap _ [] 0 (e::r3) (by simp) (by omega) (by simp) rfl,partsO_ne (by simp)]
    rw [Bool.true_and,List.nil_append,List.nil_append]
    rfl
  ·have hne:(([x,y]:List Int)==[58,58])=false:=beq_eq_false_iff_ne.2 fun e=>hxy (by injection e with e1 e2;injection e2 with e2;exact ⟨e1,e2⟩)
   rw [hne,cond_false]
   refine col_nogap _ [] _ (Nat.lt_succ_self _) (by simp) rfl fun e=>?_
   have e':cond (x==58&&(some y==some 58)) (some 0) ((dcI (y::r)).map (· + 1))=some 0:=e
   cases hb:(x==58&&(some y==some 58)) with
   | true=>
    rw [Bool.and_eq_true,beq_iff_eq,beq_iff_eq] at hb
    exact hxy ⟨hb.1,by injection hb.2⟩
   | false=>
    rw [hb,cond_false] at e'
    obtain ⟨q,_,hq⟩:=Option.map_eq_some_iff.1 e'
    omega
theorem group_loop (s:List Int) (hs:s.length<=4):∀ (r:List Int) (i:Nat) (n:Int),s.drop i=r->i<=s.length->0<=n->n < 16 ^ i ->
  loopC (F_wlvref15_group_L7 s) (n,(i:Int))=some (cond (r.all fun c=>decide (0<=dg c)) (.inr (r.foldl (fun n c=>n*16+dg c) n)) (.inl (0,false)))
 | [],i,n,hr,hi,h0,h1=>by
  have hie:=drop_nil' hr hi
  refine loop_inl ?_
  unfold F_wlvref15_group_L7
  dsimp only
  rw [decide_eq_false (show ¬ (i:Int) < (s.length:Int) by omega),cond_false]
  rfl
 | c::r,i,n,hr,hi,h0,h1=>by
  obtain ⟨hlt,hget,hdrop⟩:=drop_cons hr
  have hp2:(16:Int) ^ (i+1)=16 ^ i*16:=Int.pow_succ ..
  have hp:(16:Int) ^ (i+1)<=65536:=pow16 (i+1) (by omega) (by omega)
  have ih:=group_loop s hs r (i+1) (n*16+dg c) hdrop (by omega)
  have hbody:F_wlvref15_group_L7 s (n,(i:Int))=cond (decide (0<=dg c)) (some (.inr (n*16+dg c,(i:Int)+1))) (some (.inl (.inl (0,false)))):=by
   unfold F_wlvref15_group_L7
   dsimp only
   rw [decide_eq_true (show (i:Int) < (s.length:Int) by omega),cond_true,getI_nat hget,Option.bind_some,wrap_in (x:=n*16) (by omega) (by omega),wrap_in (x:=(i:Int)+1) (by omega) (by omega)]
   unfold dg
   by_cases c1:48<=c /\ c<=57
   ·rw [show (decide (c >= 48)&&decide (c<=57))=true by simpa using c1,cond_true,if_pos c1,u8_sm (by omega) (by omega),wrap_in (x:=c - 48) (by omega) (by omega),wrap_in (by omega) (by omega),decide_eq_true (show (0:Int)<=c - 48 by omega),cond_true]
   ·rw [show (decide (c >= 48)&&decide (c<=57))=false by simp;omega,cond_false,if_neg c1]
    by_cases c2:97<=c /\ c<=102
    ·rw [show (decide (c >= 97)&&decide (c<=102))=true by simpa using c2,cond_true,if_pos c2,u8_sm (by omega) (by omega),wrap_in (x:=c - 97) (by omega) (by omega),wrap_in (x:=n*16+(c - 97)) (by omega) (by omega),wrap_in (by omega) (by omega),decide_eq_true (show (0:Int)<=c - 87 by omega),cond_true,show n*16+(c - 97)+10=n*16+(c - 87) by omega]
    ·rw [show (decide (c >= 97)&&decide (c<=102))=false by simp;omega,cond_false,if_neg c2]
     by_cases c3:65<=c /\ c<=70
     ·rw [show (decide (c >= 65)&&decide (c<=70))=true by simpa using c3,cond_true,if_pos c3,u8_sm (by omega) (by omega),wrap_in (x:=c - 65) (by omega) (by omega),wrap_in (x:=n*16+(c - 65)) (by omega) (by omega),wrap_in (by omega) (by omega),decide_eq_true (show (0:Int)<=c - 55 by omega),cond_true,show n*16+(c - 65)+10=n*16+(c - 55) by omega]
     ·rw [show (decide (c >= 65)&&decide (c<=70))=false by simp;omega,cond_false,if_neg c3];rfl
  rw [List.all_cons,List.foldl_cons]
  obtain ⟨_,hd1⟩:=dg_in c
  by_cases hd:0<=dg c
  ·rw [decide_eq_true hd,cond_true] at hbody
   have h2:=ih (by omega) (by rw [hp2];omega)
   rw [decide_eq_true hd,Bool.true_and]
   exact loop_inr hbody (by exact_mod_cast h2)
  ·rw [decide_eq_false hd,cond_false] at hbody
   rw [decide_eq_false hd,Bool.false_and]
   exact loop_inl hbody
theorem group_eq (s:List Int):F_wlvref15_group s=some (cond (hexGB s) (hexV s,true) (0,false)):=by
  unfold F_wlvref15_group hexGB
  by_cases h:1<=s.length /\ s.length<=4
  · rw [decide_eq_false (show ¬ (s.length:Int) < 1 by omega),decide_eq_false (show ¬ (s.length:Int) > 4 by omega),Bool.or_self,cond_false,decide_eq_true h.1,decide_eq_true h.2,Bool.true_and,Bool.true_and]
    have:=group_loop s h.2 s 0 0 rfl (by omega) (by omega) (by decide)
    have this:loopC (F_wlvref15_group_L7 s) (0,0)=_:=this
    rw [this]
    cases s.all fun c=>decide (0<=dg c) <;> rfl
  · have : (decide ((s.length : Int) < 1) || decide ((s.length : Int) > 4)) = true := by
      rw [Bool.or_eq_true,decide_eq_true_iff,decide_eq_true_iff];omega
    rw [this,cond_true]
    have h2:(decide (1<=s.length)&&decide (s.length<=4))=false:=by
      rw [Bool.and_eq_false_iff,decide_eq_false_iff_not,decide_eq_false_iff_not];omega
    rw [h2];rfl
theorem hexV_nn (p:List Int) (h:hexGB p=true):0<=hexV p:=by
 unfold hexGB at h
 simp only [Bool.and_eq_true] at h
 have key:∀ (q:List Int) (n:Int),0<=n->(q.all fun c=>decide (0<=dg c))=true->0<=q.foldl (fun n c=>n*16+dg c) n:=fun q=>by
  induction q with
  | nil=>intro n h _;exact h
  | cons c q ih=>
   intro n hn hq
   rw [List.all_cons,Bool.and_eq_true,decide_eq_true_iff] at hq
   exact ih _ (show 0<=n*16+dg c by omega) hq.2
 exact key p 0 (by omega) h.2
theorem split_len:∀ (t:List Int) (c:Int),t.length<=1000000->(splitI t c).length<=t.length+1
 | [],_,_=>by simp [splitI]
 | x::t,c,h=>by
  have ih:=split_len t c (by simp at h;omega)
  unfold splitI
  rw [List.length_cons]
  cases x==c with
  | true=>
   show (splitI t c).length+1<=_
   omega
  | false=>
   rw [cond_false]
   cases hq:splitI t c with
   | nil=>simp
   | cons w q=>
    rw [hq] at ih
    simp at ih ⊢
    omega
def okG (t:List Int):Bool:=(partsO t).all hexGB&&decide ((partsO t).length<=8)
theorem groups_eq (t:List Int) (ht:t.length<=1000000):∃ v:List Int,F_wlvref15_groups t=some (v,okG t) /\ v.length<=18 /\ (okG t=true->v=bytesP (partsO t)):=by
  unfold F_wlvref15_groups
  by_cases h0:t=[]
  · subst h0
    exact ⟨[],rfl,by simp,fun _=>rfl⟩
  · rw [beq_eq_false_iff_ne.2 h0,cond_false,Split_eq t 58 ht,Option.bind_some]
    unfold okG
    rw [partsO_ne h0]
    obtain ⟨l,hl⟩:∃ l,splitI t 58=l:=⟨_,rfl⟩
    have hlen:l.length<=1000001:=by rw [<-hl];have:=split_len t 58 ht;omega
    rw [hl]
    obtain ⟨r,h1,h2⟩:=loop_inv (body:=F_wlvref15_groups_L8) (I:=fun st=>∃ i:Nat,st=(l,bytesP (l.take i),(i:Int)) /\ i<=l.length /\ i<=9 /\ (l.take i).all hexGB=true) (m:=fun st=>9 - st.2.2.toNat)
      (Q:=fun r=>(r=.inl ([],false) /\ l.all hexGB=false) \/ ∃ i:Nat,r=.inr (l,bytesP (l.take i)) /\ i<=9 /\ (l.take i).all hexGB=true /\ (i=l.length \/ 9<=i /\ 9<=l.length)) (fun st ⟨i,e,hi,hi9,ha⟩=>by
        subst e
        unfold F_wlvref15_groups_L8 chk
        dsimp only
        by_cases hlt:i < l.length /\ i < 9
        · have hg:=getI_nat (List.getElem?_eq_getElem hlt.1)
          rw [decide_eq_true (show (i:Int) < (l.length:Int) by omega),decide_eq_true (show (i:Int) < 9 by omega),Bool.true_and,cond_true,hg,Option.bind_some,group_eq,Option.bind_some]
          cases hx:hexGB l[i] with
          | false=>
            refine .inl ⟨_,rfl,.inl ⟨rfl,?_⟩⟩
            rw [List.all_eq_false]
            exact ⟨l[i],List.getElem_mem _,by rw [hx];simp⟩
          | true=>
            rw [cond_true]
            show (∃ r,(cond (!true) _ _)=_ /\ _) \/ ∃ s',(cond (!true) _ _)=_ /\ _
            rw [Bool.not_true,cond_false,by2_eq (hexV_nn _ hx)]
            have hck:(decide (((bytesP (l.take i)).length+(by2 (hexV l[i])).length)*1<=140737488355328)&&decide ((bytesP (l.take i)).length+(by2 (hexV l[i])).length<=maxLen))=true:=chk1 (by
              rw [bytesP_len,List.length_take]
              show _+2<=_
              omega)
            rw [hck,cond_true,wrap_in (x:=(i:Int)+1) (by omega) (by omega)]
            have htk:l.take (i+1)=l.take i++[l[i]]:=by rw [List.take_add_one,List.getElem?_eq_getElem hlt.1];rfl
            refine .inr ⟨_,rfl,⟨i+1,?_,by omega,by omega,?_⟩,?_⟩
            · rw [htk]
              have:bytesP (l.take i++[l[i]])=bytesP (l.take i)++by2 (hexV l[i]):=by
                unfold bytesP
                rw [List.flatMap_append]
                show _++(by2 (hexV l[i])++[])=_
                rw [List.append_nil]
              rw [this];rfl
            · rw [htk,List.all_append,ha,Bool.true_and]
              simpa using hx
            · show 9 - ((i:Int)+1).toNat < 9 - (i:Int).toNat
              omega
        · have : (decide ((i : Int) < (l.length : Int)) && decide ((i : Int) < 9)) = false := by
            rw [Bool.and_eq_false_iff,decide_eq_false_iff_not,decide_eq_false_iff_not];omega
          rw [this,cond_false]
          exact .inl ⟨_,rfl,.inr ⟨i,rfl,hi9,ha,by omega⟩⟩) (l,([]:List Int),0) ⟨0,rfl,by omega,by omega,rfl⟩
    rcases h2 with ⟨rfl,hf⟩ | ⟨i,rfl,hi9,ha,hc⟩
    · rw [join_inl h1,hf]
      exact ⟨[],rfl,by simp,fun h=>by cases h⟩
    · rw [join_inr h1]
      unfold F_wlvref15_groups_J6
      dsimp only
      have hbl:(bytesP (l.take i)).length<=18:=by rw [bytesP_len,List.length_take];omega
      rcases hc with rfl | ⟨h9,h9'⟩
      · rw [List.take_length] at ha hbl ⊢
        rw [ha,Bool.true_and]
        refine ⟨bytesP l,?_,hbl,fun _=>rfl⟩
        congr 2
        exact decide_eq_decide.2 (by omega)
      · rw [decide_eq_false (show ¬ (l.length:Int)<=8 by omega),decide_eq_false (show ¬ l.length<=8 by omega),Bool.and_false]
        exact ⟨bytesP (l.take i),rfl,hbl,fun h=>by cases h⟩
theorem find_done (s:List Int) (hs:s.length<=1000000) (a:Nat):∀ (r:List Int) (i:Nat),s.drop i=r->i<=s.length->loopC (F_wlvref15_eight_L4 s) ((a:Int),(i:Int))=some (.inr (a:Int))
 | [],i,hr,hi=>by
  have hie:=drop_nil' hr hi
  refine loop_inl ?_
  unfold F_wlvref15_eight_L4
  dsimp only
  rw [wrap_in (x:=(i:Int)+1) (by omega) (by omega),decide_eq_false (show ¬ (i:Int)+1 < (s.length:Int) by omega),cond_false]
 | c::r,i,hr,hi=>by
  obtain ⟨hlt,hget,hdrop⟩:=drop_cons hr
  have ih:=find_done s hs a r (i+1) hdrop (by omega)
  have ih:loopC (F_wlvref15_eight_L4 s) ((a:Int),(i:Int)+1)=some (.inr (a:Int)):=ih
  by_cases hl:i+1 < s.length
  ·refine loop_inr ?_ ih
   have hg2:getI s ((i:Int)+1)=some s[i+1]:=getI_nat (i:=i+1) (List.getElem?_eq_getElem hl)
   unfold F_wlvref15_eight_L4
   dsimp only
   rw [wrap_in (x:=(i:Int)+1) (by omega) (by omega),decide_eq_true (show (i:Int)+1 < (s.length:Int) by omega),cond_true,getI_nat hget,Option.bind_some]
   cases c==58 with
   | false=>rfl
   | true=>
    rw [cond_true,hg2,Option.bind_some,decide_eq_false (show ¬ (a:Int) < 0 by omega),Bool.and_false]
    rfl
  ·refine loop_inl ?_
   unfold F_wlvref15_eight_L4
   dsimp only
   rw [wrap_in (x:=(i:Int)+1) (by omega) (by omega),decide_eq_false (show ¬ (i:Int)+1 < (s.length:Int) by omega),cond_false]
def atI (i:Nat):Option Nat->Int
 | none=>-1
 | some j=>((i+j:Nat):Int)
theorem find_loop (s:List Int) (hs:s.length<=1000000):∀ (r:List Int) (i:Nat),s.drop i=r->i<=s.length->loopC (F_wlvref15_eight_L4 s) (-1,(i:Int))=some (.inr (atI i (dcI r)))
 | [],i,hr,hi=>by
  have hie:=drop_nil' hr hi
  refine loop_inl ?_
  unfold F_wlvref15_eight_L4
  dsimp only
  rw [wrap_in (x:=(i:Int)+1) (by omega) (by omega),decide_eq_false (show ¬ (i:Int)+1 < (s.length:Int) by omega),cond_false]
  rfl
 | c::r,i,hr,hi=>by
  obtain ⟨hlt,hget,hdrop⟩:=drop_cons hr
  have ih:loopC (F_wlvref15_eight_L4 s) (-1,(i:Int)+1)=some (.inr (atI (i+1) (dcI r))):=find_loop s hs r (i+1) hdrop (by omega)
  have hu:dcI (c::r)=cond (c==58&&r.head? == some 58) (some 0) ((dcI r).map (· + 1)):=rfl
  have hat:atI i ((dcI r).map (· + 1))=atI (i+1) (dcI r):=by
   cases dcI r with
   | none=>rfl
   | some j=>show ((i+(j+1):Nat):Int)=((i+1+j:Nat):Int);omega
  by_cases hl:i+1 < s.length
  ·have hg2:getI s ((i:Int)+1)=some s[i+1]:=getI_nat (i:=i+1) (List.getElem?_eq_getElem hl)
   have hh:r.head? = some s[i+1]:=by rw [<-hdrop,List.head?_drop,List.getElem?_eq_getElem hl]
   have hbody:F_wlvref15_eight_L4 s (-1,(i:Int))=some (.inr (cond (c==58&&s[i+1]==58) (i:Int) (-1),(i:Int)+1)):=by
    unfold F_wlvref15_eight_L4
    dsimp only
    rw [wrap_in (x:=(i:Int)+1) (by omega) (by omega),decide_eq_true (show (i:Int)+1 < (s.length:Int) by omega),cond_true,getI_nat hget,Option.bind_some]
    cases c==58 with
    | false=>rfl
    | true=>
     rw [cond_true,hg2,Option.bind_some,show decide ((-1:Int) < 0)=true from rfl,Bool.and_true,Bool.true_and]
     cases s[i+1]==58 <;> rfl
   rw [hu,hh,show ((some s[i+1]==some 58):Bool)=(s[i+1]==58) from rfl]
   cases hb:(c==58&&s[i+1]==58) with
   | true=>
    rw [hb,cond_true] at hbody
    rw [cond_true]
    refine loop_inr hbody ?_
    exact find_done s hs i r (i+1) hdrop (by omega)
   | false=>
    rw [hb,cond_false] at hbody
    rw [cond_false,hat]
    exact loop_inr hbody ih
  ·have hrn:r=[]:=by rw [<-hdrop];exact List.drop_of_length_le (by omega)
   subst hrn
   rw [hu,show (([]:List Int).head? == some 58)=false from rfl,Bool.and_false,cond_false]
   refine loop_inl ?_
   unfold F_wlvref15_eight_L4
   dsimp only
   rw [wrap_in (x:=(i:Int)+1) (by omega) (by omega),decide_eq_false (show ¬ (i:Int)+1 < (s.length:Int) by omega),cond_false]
   rfl
theorem dc_lt:∀ {s:List Int} {i:Nat},dcI s=some i->i+2<=s.length
 | [],_,h=>by cases h
 | c::r,i,h=>by
  have hu:cond (c==58&&r.head? == some 58) (some 0) ((dcI r).map (· + 1))=some i:=h
  cases hb:(c==58&&r.head? == some 58) with
  | true=>
   rw [hb,cond_true] at hu
   injection hu with hu
   rw [Bool.and_eq_true,beq_iff_eq,beq_iff_eq] at hb
   cases r with
   | nil=>cases hb.2
   | cons d r=>rw [<-hu];simp
  | false=>
   rw [hb,cond_false] at hu
   obtain ⟨j,hj,rfl⟩:=Option.map_eq_some_iff.1 hu
   have:=dc_lt hj
   simp
   omega
theorem fill_loop (a b:List Int) (h:a.length+b.length<=14):loopC F_wlvref15_eight_L20 (b,a)=some (.inr (b,a++List.replicate (16 - b.length - a.length) 0)):=by
 obtain ⟨r,h1,rfl⟩:=loop_inv (body:=F_wlvref15_eight_L20) (I:=fun st=>∃ k:Nat,st=(b,a++List.replicate k 0) /\ k<=16 - b.length - a.length) (m:=fun st=>16 - st.2.length)
  (Q:=fun r=>r=.inr (b,a++List.replicate (16 - b.length - a.length) 0)) (fun st ⟨k,e,hk⟩=>by
   subst e
   unfold F_wlvref15_eight_L20 chk
   dsimp only
   have hl:(a++List.replicate k (0:Int)).length=a.length+k:=by simp
   rw [hl,wrap_in (by omega) (by omega)]
   by_cases hlt:k < 16 - b.length - a.length
   ·rw [decide_eq_true (show ((a.length+k:Nat):Int) < 16 - (b.length:Int) by omega),cond_true,show (decide ((a.length+k+([0]:List Int).length)*1<=140737488355328)&&decide (a.length+k+([0]:List Int).length<=maxLen))=true from chk1 (by show a.length+k+1<=_;omega),cond_true]
    refine .inr ⟨_,rfl,⟨k+1,by rw [List.replicate_succ',List.append_assoc],by omega⟩,?_⟩
    rw [List.length_append]
    simp
    omega
   ·rw [decide_eq_false (show ¬ ((a.length+k:Nat):Int) < 16 - (b.length:Int) by omega),cond_false]
    refine .inl ⟨_,rfl,?_⟩
    rw [show k=16 - b.length - a.length by omega]) (b,a) ⟨0,by simp,by omega⟩
 exact h1
theorem eight_eq (s:List Int) (hs:s.length<=1000000):∃ v:List Int,F_wlvref15_eight s=some (v,(grpR [] s).isSome) /\ ∀ x,grpR [] s=some x->v=x:=by
 have hf:loopC (F_wlvref15_eight_L4 s) (-1,0)=some (.inr (atI 0 (dcI s))):=find_loop s hs s 0 rfl (by omega)
 unfold F_wlvref15_eight
 rw [join_inr hf]
 unfold F_wlvref15_eight_J2 grpR
 dsimp only
 cases hd:dcI s with
 | none=>
  show ∃ v,cond (decide ((-1:Int) < 0)) _ _=some (v,(cond ((splitI s 58).all hexGB&&(0+2*(splitI s 58).length==16)) (some ([]++bytesP (splitI s 58))) none).isSome) /\ ∀ x,cond ((splitI s 58).all hexGB&&(0+2*(splitI s 58).length==16)) (some ([]++bytesP (splitI s 58))) none=some x->v=x
  rw [show decide ((-1:Int) < 0)=true from rfl,cond_true]
  obtain ⟨v,h1,h2,h3⟩:=groups_eq s hs
  rw [h1,Option.bind_some]
  refine ⟨v,?_,?_⟩
  ·congr 2
   by_cases h0:s=[]
   ·subst h0
    have:v=[]:=h3 rfl
    subst this;rfl
   ·unfold okG at h3 ⊢
    rw [partsO_ne h0] at h3 ⊢
    cases ha:(splitI s 58).all hexGB with
    | false=>rfl
    | true=>
     rw [ha,Bool.true_and] at h3
     rw [Bool.true_and,Bool.true_and]
     by_cases h8:(splitI s 58).length<=8
     ·have:=h3 (decide_eq_true h8)
      rw [decide_eq_true h8,Bool.true_and,this,bytesP_len]
      by_cases h16:(splitI s 58).length=8
      ·rw [h16];rfl
      ·rw [beq_eq_false_iff_ne.2 (show ((2*(splitI s 58).length:Nat):Int)≠16 by omega),beq_eq_false_iff_ne.2 (show 0+2*(splitI s 58).length≠16 by omega)];rfl
     ·rw [decide_eq_false h8,Bool.false_and,beq_eq_false_iff_ne.2 (show 0+2*(splitI s 58).length≠16 by omega)];rfl
  ·intro x hx
   cases hc:((splitI s 58).all hexGB&&(0+2*(splitI s 58).length==16)) with
   | false=>rw [hc] at hx;cases hx
   | true=>
    rw [hc,cond_true,List.nil_append] at hx
    injection hx with hx
    rw [Bool.and_eq_true,beq_iff_eq] at hc
    have h0:s≠[]:=fun e=>by subst e;cases hc.1
    rw [<-hx]
    have:okG s=true:=by unfold okG;rw [partsO_ne h0,hc.1,decide_eq_true (by omega)];rfl
    rw [h3 this,partsO_ne h0]
 | some i=>
  have hi:=dc_lt hd
  have htl:(s.take i).length<=1000000:=by rw [List.length_take];omega
  have hdl:(s.drop (i+2)).length<=1000000:=by rw [List.length_drop];omega
  obtain ⟨a,a1,a2,a3⟩:=groups_eq (s.take i) htl
  obtain ⟨b,b1,b2,b3⟩:=groups_eq (s.drop (i+2)) hdl
  have e0:atI 0 (some i)=(i:Int):=by show ((0+i:Nat):Int)=_;omega
  rw [e0,decide_eq_false (show ¬ (i:Int) < 0 by omega),cond_false]
  have c1:cutI s 0 (i:Int)=some (s.take i):=by
   have:=cutI_nat (s:=s) (a:=0) (b:=i) (by omega) (by omega)
   exact this
  have c2:cutI s (IntKind.i64.wrap ((i:Int)+2)) (s.length:Int)=some (s.drop (i+2)):=by
   rw [wrap_in (by omega) (by omega)]
   have:=cutI_nat (s:=s) (a:=i+2) (b:=s.length) hi (by omega)
   rw [List.take_length] at this
   exact this
  rw [c1,Option.bind_some,a1,Option.bind_some,c2,Option.bind_some,b1,Option.bind_some]
  show ∃ v,_=some (v,(cond ((partsO (s.take i)).all hexGB&&(partsO (s.drop (i+2))).all hexGB&&decide (0+2*(partsO (s.take i)).length+2*(partsO (s.drop (i+2))).length<=14)) (some (insZ ([]++bytesP (partsO (s.take i))++bytesP (partsO (s.drop (i+2)))) (0+2*(partsO (s.take i)).length))) none).isSome) /\ ∀ x,cond ((partsO (s.take i)).all hexGB&&(partsO (s.drop (i+2))).all hexGB&&decide (0+2*(partsO (s.take i)).length+2*(partsO (s.drop (i+2))).length<=14)) (some (insZ ([]++bytesP (partsO (s.take i))++bytesP (partsO (s.drop (i+2)))) (0+2*(partsO (s.take i)).length))) none=some x->v=x
  have fail:(okG (s.take i)&&okG (s.drop (i+2))&&decide (a.length+b.length<=14))=false->((partsO (s.take i)).all hexGB&&(partsO (s.drop (i+2))).all hexGB&&decide (0+2*(partsO (s.take i)).length+2*(partsO (s.drop (i+2))).length<=14))=false:=fun h=>by
   cases hc:((partsO (s.take i)).all hexGB&&(partsO (s.drop (i+2))).all hexGB&&decide (0+2*(partsO (s.take i)).length+2*(partsO (s.drop (i+2))).length<=14)) with
   | false=>rfl
   | true=>
    simp only [Bool.and_eq_true,decide_eq_true_eq] at hc
    have ha:okG (s.take i)=true:=by unfold okG;rw [hc.1.1,decide_eq_true (by omega)];rfl
    have hb:okG (s.drop (i+2))=true:=by unfold okG;rw [hc.1.2,decide_eq_true (by omega)];rfl
    have ea:=a3 ha
    have eb:=b3 hb
    rw [ha,hb,decide_eq_true (by rw [ea,eb,bytesP_len,bytesP_len];omega)] at h
    cases h
  dsimp only
  rw [wrap_in (x:=(a.length:Int)+(b.length:Int)) (by omega) (by omega)]
  cases hA:okG (s.take i) with
  | false=>rw [fail (by rw [hA];rfl)];exact ⟨[],rfl,fun x h=>by cases h⟩
  | true=>
   cases hB:okG (s.drop (i+2)) with
   | false=>rw [fail (by rw [hB,Bool.and_false];rfl)];exact ⟨[],rfl,fun x h=>by cases h⟩
   | true=>
    by_cases h14:a.length+b.length<=14
    ·have ea:=a3 hA
     have eb:=b3 hB
     have ha14:(partsO (s.take i)).length*2+(partsO (s.drop (i+2))).length*2<=14:=by
      rw [ea,eb,bytesP_len,bytesP_len] at h14;omega
     have hca:(partsO (s.take i)).all hexGB=true:=by unfold okG at hA;exact (Bool.and_eq_true _ _ ▸ hA).1
     have hcb:(partsO (s.drop (i+2))).all hexGB=true:=by unfold okG at hB;exact (Bool.and_eq_true _ _ ▸ hB).1
     rw [hca,hcb,decide_eq_true (show 0+2*(partsO (s.take i)).length+2*(partsO (s.drop (i+2))).length<=14 by omega)]
     rw [decide_eq_false (show ¬ (a.length:Int)+(b.length:Int) > 14 by omega)]
     show ∃ v,chk (decide ((0+a.length)*1<=140737488355328)&&decide (0+a.length<=maxLen)) (joinC (loopC F_wlvref15_eight_L20 (b,[]++a)) F_wlvref15_eight_J19)=some (v,true) /\ ∀ x,some (insZ ([]++bytesP (partsO (s.take i))++bytesP (partsO (s.drop (i+2)))) (0+2*(partsO (s.take i)).length))=some x->v=x
     rw [List.nil_append,List.nil_append,join_inr (fill_loop a b h14),chk1 (by omega)]
     unfold chk F_wlvref15_eight_J19
     dsimp only
     have hl:(a++List.replicate (16 - b.length - a.length) (0:Int)).length=16 - b.length:=by simp;omega
     rw [cond_true,hl]
     unfold chk
     rw [chk1 (by omega),cond_true]
     refine ⟨_,rfl,fun x hx=>?_⟩
     injection hx with hx
     rw [<-hx,<- ea,<- eb]
     unfold insZ
     have e2:0+2*(partsO (s.take i)).length=a.length:=by rw [ea,bytesP_len];omega
     rw [e2,List.take_left,List.drop_left,List.length_append,show 16 - (a.length+b.length)=16 - b.length - a.length by omega]
    ·rw [fail (by rw [decide_eq_false h14,Bool.and_false]),decide_eq_true (show (a.length:Int)+(b.length:Int) > 14 by omega),Bool.or_true]
     exact ⟨[],rfl,fun x h=>by cases h⟩
def preM:List Int:=[0,0,0,0,0,0,0,0,0,0,255,255]
def plainR (x:List Int):List Int:=cond (decide (12<=x.length)&&(x.take 12==preM)) (x.drop 12) x
theorem Plain_eq (s:List Int) (hs:s.length<=1000000):F_addr_Plain s=some (plainR s):=by
 have hp:=prefix_lit s preM hs
 unfold F_strings_HasPrefix at hp
 have hp2:F_internal_stringslite_HasPrefix s preM=some (decide (preM.length<=s.length)&&(s.take preM.length==preM)):=by
  cases hq:F_internal_stringslite_HasPrefix s preM with
  | none=>rw [hq] at hp;cases hp
  | some b=>rw [hq] at hp;exact hp
 unfold F_addr_Plain F_strings_TrimPrefix F_internal_stringslite_TrimPrefix
 show (((F_internal_stringslite_HasPrefix s preM).bind _).bind _).bind _=_
 rw [hp2,Option.bind_some]
 unfold plainR
 have e12:preM.length=12:=rfl
 rw [e12]
 cases hb:(decide (12<=s.length)&&(s.take 12==preM)) with
 | false=>rfl
 | true=>
  rw [Bool.and_eq_true,decide_eq_true_iff] at hb
  rw [cond_true,cond_true]
  have h:=cutI_nat (s:=s) (a:=12) (b:=s.length) hb.1 (by omega)
  rw [List.take_length] at h
  have h:cutI s (([0,0,0,0,0,0,0,0,0,0,255,255]:List Int).length:Int) (s.length:Int)=some (s.drop 12):=h
  rw [h];rfl
theorem Mapped_eq (s:List Int) (hl:s.length=16):F_wlvref15_Mapped s=some (s.take 12==preM):=by
 unfold F_wlvref15_Mapped
 have h:=cutI_nat (s:=s) (a:=0) (b:=12) (by omega) (by omega)
 have h:cutI s 0 12=some (s.take 12):=h
 rw [beq_iff_eq.2 (show (s.length:Int)=16 by omega),cond_true,h,Option.bind_some]
 rfl
def sumPa (l:List (List Int)):Nat:=l.foldr (fun p n=>p.length+1+n) 0
theorem split_sum:∀ (t:List Int) (c:Int),sumPa (splitI t c)=t.length+1
 | [],_=>rfl
 | x::t,c=>by
  have ih:=split_sum t c
  unfold splitI
  cases x==c with
  | true=>
   show 0+1+sumPa (splitI t c)=_
   rw [ih,List.length_cons];omega
  | false=>
   rw [cond_false]
   have hne:=splitI_ne t c
   cases hq:splitI t c with
   | nil=>exact absurd hq hne
   | cons w q=>
    rw [hq] at ih
    have ih:w.length+1+sumPa q=t.length+1:=ih
    show (x::w).length+1+sumPa q=_
    rw [List.length_cons,List.length_cons];omega
theorem sum_hex:∀ l:List (List Int),l.all hexGB=true->sumPa l<=5*l.length
 | [],_=>by simp [sumPa]
 | p::l,h=>by
  rw [List.all_cons,Bool.and_eq_true] at h
  have ih:=sum_hex l h.2
  have h4:p.length<=4:=by
   have:=h.1
   unfold hexGB at this
   simp only [Bool.and_eq_true,decide_eq_true_eq] at this
   exact this.1.2
  show p.length+1+sumPa l<=5*(l.length+1)
  omega
theorem parts_hex (t:List Int) (h:(partsO t).all hexGB=true):t.length<=5*(partsO t).length:=by
 by_cases h0:t=[]
 ·subst h0;simp
 ·rw [partsO_ne h0] at h ⊢
  have h1:=sum_hex _ h
  rw [split_sum] at h1
  omega
theorem grp_16 {s x:List Int} (h:grpR [] s=some x):x.length=16 /\ s.length<=50:=by
 unfold grpR at h
 split at h
 ·cases hc:((splitI s 58).all hexGB&&(([]:List Int).length+2*(splitI s 58).length==16)) with
  | false=>rw [hc] at h;cases h
  | true=>
   rw [hc,cond_true] at h
   injection h with h
   rw [Bool.and_eq_true,beq_iff_eq] at hc
   have h2:0+2*(splitI s 58).length=16:=hc.2
   have h1:=sum_hex _ hc.1
   rw [split_sum] at h1
   refine ⟨?_,by omega⟩
   rw [<-h,List.nil_append,bytesP_len]
   omega
 ·rename_i i hd
  have hi:=dc_lt hd
  cases hc:((partsO (s.take i)).all hexGB&&(partsO (s.drop (i+2))).all hexGB&&decide (([]:List Int).length+2*(partsO (s.take i)).length+2*(partsO (s.drop (i+2))).length<=14)) with
  | false=>rw [hc] at h;cases h
  | true=>
   rw [hc,cond_true] at h
   injection h with h
   simp only [Bool.and_eq_true,decide_eq_true_eq] at hc
   have h2:0+2*(partsO (s.take i)).length+2*(partsO (s.drop (i+2))).length<=14:=hc.2
   have h3:=parts_hex _ hc.1.1
   have h4:=parts_hex _ hc.1.2
   rw [List.length_take] at h3
   rw [List.length_drop] at h4
   have e1:([]++bytesP (partsO (s.take i))++bytesP (partsO (s.drop (i+2)))).length=2*(partsO (s.take i)).length+2*(partsO (s.drop (i+2))).length:=by
    rw [List.nil_append,List.length_append,bytesP_len,bytesP_len]
   refine ⟨?_,by omega⟩
   rw [<-h]
   exact insZ_len (by rw [e1];show 0+_<=_;omega) (by rw [e1];omega)
noncomputable def parseR (s:List Int):List Int×Int:=cond (fourR s).2 ((fourR s).1,0) (match grpR [] s with | some x=>(plainR x,0) | none=>([],2))
theorem Parse_eq (s:List Int) (hs:s.length<=1000000):F_addr_Parse s=some (parseR s):=by
 unfold F_addr_Parse parseR
 rw [dotted_eq s hs,Option.bind_some]
 cases h4:(fourR s).2 with
 | true=>rfl
 | false=>
  rw [Bool.not_false,cond_true,cond_false]
  have hr:=coloned_rel s hs
  rw [colR_eq] at hr
  cases hg:grpR [] s with
  | some x=>
   rw [hg] at hr
   have hr:F_addr_coloned s=some (x,true):=hr
   rw [hr,Option.bind_some,Plain_eq x (by have:=(grp_16 hg).1;omega)]
   rfl
  | none=>
   rw [hg] at hr
   obtain ⟨v,hv,hl⟩:=hr
   rw [hv,Option.bind_some,Plain_eq v (by omega)]
   rfl
theorem refParse_eq (s:List Int) (hs:s.length<=1000000):F_wlvref15_Parse s=some (parseR s):=by
 unfold F_wlvref15_Parse parseR
 by_cases h50:(s.length:Int) > 50
 ·rw [decide_eq_true h50,cond_true]
  cases h4:(fourR s).2 with
  | true=>have:=(four_len h4).1;omega
  | false=>
   rw [cond_false]
   cases hg:grpR [] s with
   | some x=>have:=(grp_16 hg).2;omega
   | none=>rfl
 ·rw [decide_eq_false h50,cond_false,four_eq s hs,Option.bind_some]
  cases h4:(fourR s).2 with
  | true=>rfl
  | false=>
   rw [cond_false,cond_false]
   obtain ⟨v,h1,h2⟩:=eight_eq s hs
   rw [h1,Option.bind_some]
   cases hg:grpR [] s with
   | none=>rfl
   | some x=>
    have hv:=h2 x hg
    subst hv
    have h16:=(grp_16 hg).1
    show cond (!true) _ ((F_wlvref15_Mapped v).bind _)=_
    rw [Bool.not_true,cond_false,Mapped_eq v h16,Option.bind_some]
    show (cond (v.take 12==preM) ((cutI v 12 (v.length:Int)).bind fun s5=>some (s5,(0:Int))) (some (v,0)))=some (cond (decide (12<=v.length)&&(v.take 12==preM)) (v.drop 12) v,(0:Int))
    rw [decide_eq_true (show 12<=v.length by omega),Bool.true_and]
    cases v.take 12==preM with
    | false=>rfl
    | true=>
     have h:=cutI_nat (s:=v) (a:=12) (b:=v.length) (by omega) (by omega)
     rw [List.take_length] at h
     have h:cutI v 12 (v.length:Int)=some (v.drop 12):=h
     show (cutI v 12 (v.length:Int)).bind _=_
     rw [h];rfl
theorem sg_spec (c:Int):sg c=if 65<=c /\ c<=90 then c+32 else if (97<=c /\ c<=122) \/ (48<=c /\ c<=57) \/ c=45 \/ c=95 then c else 0:=by
 have h:=sign_eq c
 unfold F_host_sign at h
 by_cases h1:65<=c /\ c<=90
 ·rw [decide_eq_true h1.1,decide_eq_true h1.2,u8_in (x:=c+97) (by omega) (by omega),u8_in (by omega) (by omega)] at h
  have h:some (c+97 - 65)=some (sg c):=h
  injection h with h
  rw [if_pos h1]
  omega
 ·have e1:(decide (c >= 65)&&decide (c<=90))=false:=by simp;omega
  rw [e1,cond_false] at h
  rw [if_neg h1]
  by_cases h2:97<=c /\ c<=122
  ·rw [decide_eq_true h2.1,decide_eq_true h2.2] at h
   have h:some c=some (sg c):=h
   injection h with h
   rw [if_pos (.inl h2)]
   exact h.symm
  ·have e2:(decide (c >= 97)&&decide (c<=122))=false:=by simp;omega
   rw [e2,cond_false] at h
   by_cases h3:48<=c /\ c<=57
   ·rw [decide_eq_true h3.1,decide_eq_true h3.2] at h
    have h:some c=some (sg c):=h
    injection h with h
    rw [if_pos (.inr (.inl h3))]
    exact h.symm
   ·have e3:(decide (c >= 48)&&decide (c<=57))=false:=by simp;omega
    rw [e3,cond_false] at h
    by_cases h4:c=45
    ·subst h4
     exact (by kernel_rfl:sg 45=45)
    ·rw [beq_eq_false_iff_ne.2 h4,cond_false] at h
     by_cases h5:c=95
     ·subst h5
      exact (by kernel_rfl:sg 95=95)
     ·rw [beq_eq_false_iff_ne.2 h5,cond_false] at h
      have h:some (0:Int)=some (sg c):=h
      injection h with h
      rw [if_neg (by omega)]
      exact h.symm
noncomputable def lowI (c:Int):Int:=cond (c==46) 46 (sg c)
theorem name_some:∀ (s out:List Int) (n:Nat) (b:List Int),nameP out n s=some b->b=out++s.map lowI /\ (∀ c∈s,c=46 \/ sg c≠0) /\ (n=0->s≠[])
 | [],out,n,b,h=>by
  rw [nameP] at h
  cases he:endsB out n with
  | true=>rw [he] at h;cases h
  | false=>
   rw [he] at h
   have h:some out=some b:=h
   injection h with h
   refine ⟨by simp [h],by simp,fun h0=>?_⟩
   subst h0
   cases he
 | c::s,out,n,b,h=>by
  rw [nameP] at h
  cases h46:c==46 with
  | true=>
   rw [h46,cond_true] at h
   have hc:=beq_iff_eq.1 h46
   cases he:endsB out n with
   | true=>rw [he] at h;cases h
   | false=>
    rw [he,cond_false] at h
    obtain ⟨h1,h2,_⟩:=name_some s _ _ _ h
    refine ⟨by rw [h1,List.append_assoc,List.map_cons];congr 1;show 46::_=lowI c::_;unfold lowI;rw [h46];rfl,fun x hx=>?_,fun _=>by simp⟩
    rcases List.mem_cons.1 hx with rfl | hx
    ·exact .inl hc
    ·exact h2 x hx
  | false=>
   rw [h46,cond_false] at h
   cases hb:(sg c==0||n==63||(sg c==45&&n==0)) with
   | true=>rw [hb] at h;cases h
   | false=>
    rw [hb,cond_false] at h
    obtain ⟨h1,h2,_⟩:=name_some s _ _ _ h
    refine ⟨by rw [h1,List.append_assoc,List.map_cons];congr 1;show sg c::_=lowI c::_;unfold lowI;rw [h46];rfl,fun x hx=>?_,fun _=>by simp⟩
    rcases List.mem_cons.1 hx with rfl | hx
    ·right
     rw [Bool.or_assoc,Bool.or_eq_false_iff] at hb
     exact beq_eq_false_iff_ne.1 hb.1
    ·exact h2 x hx
def isB (x:Int):Prop:=0<=x /\ x < 256
def bitI (x:Int) (j:Nat):Int:=x / 2 ^ (7 - j) % 2
def bitAt (s:List Int) (i:Nat):Int:=bitI (s.getD (i / 8) 0) (i % 8)
def keepB (x:Int) (k:Nat):Int:=x / 2 ^ (8 - k)*2 ^ (8 - k)
def nbits (b:Int) (i:Nat):Nat:=min (b - 8*i).toNat 8
def keptL (b:Int):Nat->List Int->List Int
 | _,[]=>[]
 | i,x::r=>keepB x (nbits b i)::keptL b (i+1) r
theorem mask_all:(List.range 256).all (fun x=>(List.range 9).all fun k=>bits .and .u8 (x:Int) (IntKind.u8.wrap (Int.fdiv 65280 (2 ^ (min k 64))))==keepB x k)=true:=by kernel_rfl
theorem mask_eq {x:Int} (hx:isB x) {k:Nat} (hk:k<=8):bits .and .u8 x (IntKind.u8.wrap (Int.fdiv 65280 (2 ^ (min k 64))))=keepB x k:=by
 have h:=List.all_eq_true.1 (List.all_eq_true.1 mask_all x.toNat (List.mem_range.2 (by obtain ⟨_,_⟩:=hx;omega))) k (List.mem_range.2 (by omega))
 have e:((x.toNat:Nat):Int)=x:=Int.toNat_of_nonneg hx.1
 rw [e] at h
 exact beq_iff_eq.1 h
theorem nb_eq (b:Int) (i:Nat) (hb : -1000000<=b /\ b<=1000000) (hi:i<=1000000):(minI (maxI (IntKind.i64.wrap (b - (IntKind.i64.wrap (8*(i:Int))))) 0) 8)=(nbits b i:Int):=by
 rw [wrap_in (x:=8*(i:Int)) (by omega) (by omega),wrap_in (by omega) (by omega)]
 unfold minI maxI nbits
 by_cases h:(0:Int) > b - 8*i
 ·rw [decide_eq_true h,cond_true,decide_eq_false (by omega),cond_false];omega
 ·rw [decide_eq_false h,cond_false]
  by_cases h8:(8:Int) < b - 8*i
  ·rw [decide_eq_true h8,cond_true];omega
  ·rw [decide_eq_false h8,cond_false];omega
theorem set_mid (pre:List Int) (x v:Int) (r:List Int):(pre++x::r).set pre.length v=pre++v::r:=by
 rw [List.set_append_right _ _ (Nat.le_refl _),Nat.sub_self];rfl
theorem kept_loop (s:List Int) (b:Int) (hb : -1000000<=b /\ b<=1000000) (hs:s.length<=1000000):∀ (r pre:List Int),s.length=pre.length+r.length->(∀ x∈r,isB x)->loopC (F_addr_kept_L4 s b) ((pre.length:Int),pre++r)=some (.inr (pre++keptL b pre.length r))
 | [],pre,hl,_=>by
  refine loop_inl ?_
  unfold F_addr_kept_L4
  dsimp only
  rw [decide_eq_false (by rw [hl];simp),cond_false]
  rfl
 | x::r,pre,hl,hr=>by
  have hl':s.length=pre.length+(r.length+1):=hl
  have ih:=kept_loop s b hb hs r (pre++[keepB x (nbits b pre.length)]) (by rw [List.length_append];simp;omega) (fun y hy=>hr y (List.mem_cons_of_mem _ hy))
  refine loop_inr (s':=(((pre++[keepB x (nbits b pre.length)]).length:Int),(pre++[keepB x (nbits b pre.length)])++r)) ?_ (ih.trans ?_)
  ·unfold F_addr_kept_L4 chk
   dsimp only
   have h1:(decide ((0:Int)<=(pre.length:Int))&&decide ((pre.length:Int) < (s.length:Int)))=true:=by simp;omega
   have h2:decide ((pre.length:Int) < (s.length:Int))=true:=decide_eq_true (by omega)
   have hg:getI (pre++x::r) (pre.length:Int)=some x:=getI_nat (by simp)
   have h3:decide ((pre.length:Int) < ((pre++x::r).length:Int))=true:=decide_eq_true (by rw [List.length_append,List.length_cons];omega)
   rw [h1,h2,cond_true,cond_true,hg,Option.bind_some,nb_eq b pre.length hb (by omega),decide_eq_true (show (0:Int)<=(nbits b pre.length:Int) by omega),cond_true,cond_true,h3,cond_true]
   rw [Int.toNat_natCast,Int.toNat_natCast,mask_eq (hr x List.mem_cons_self) (show nbits b pre.length<=8 by unfold nbits;omega),set_mid,wrap_in (by omega) (by omega)]
   have e:((pre++[keepB x (nbits b pre.length)]).length:Int)=(pre.length:Int)+1:=by rw [List.length_append];simp
   rw [e,List.append_assoc];rfl
  ·rw [show (pre++[keepB x (nbits b pre.length)]).length=pre.length+1 by simp,List.append_assoc]
   rfl
theorem keptL_len (b:Int):∀ (r:List Int) (i:Nat),(keptL b i r).length=r.length
 | [],_=>rfl
 | _::r,i=>by show (keptL b (i+1) r).length+1=_;rw [keptL_len b r];rfl
theorem kept_eq (s:List Int) (b:Int) (hb : -1000000<=b /\ b<=1000000) (hs:s.length<=1000000) (hB:∀ x∈s,isB x):F_addr_kept s b=some (keptL b 0 s):=by
 have h:loopC (F_addr_kept_L4 s b) (0,s)=some (.inr (keptL b 0 s)):=kept_loop s b hb hs s [] (by simp) hB
 unfold F_addr_kept
 rw [join_inr (s:=keptL b 0 s) h]
 unfold F_addr_kept_J2
 dsimp only
 have hl:=keptL_len b s 0
 rw [show Nat.ble s.length (List.length (keptL b 0 s))=true from Nat.ble_eq_true_of_le (Nat.le_of_eq hl.symm)]
 unfold chk
 rw [cond_true,List.take_of_length_le (Nat.le_of_eq hl)]
theorem pow_half (k:Nat) (hk:k<=7) (x:Int):x / 2 ^ (8 - k)=x / 2 ^ (7 - k) / 2:=by
 have hp:(0:Int) < 2 ^ (7 - k):=Int.pow_pos (by decide)
 rw [show 8 - k=(7 - k)+1 by omega,Int.pow_succ]
 exact (Int.ediv_ediv_of_nonneg (by omega)).symm
theorem div_iff {x y:Int} (hx:isB x) (hy:isB y):∀ k:Nat,k<=8->(x / 2 ^ (8 - k)=y / 2 ^ (8 - k) ↔ ∀ j,j < k->bitI x j=bitI y j)
 | 0,_=>by
  obtain ⟨a,b⟩:=hx
  obtain ⟨c,d⟩:=hy
  refine ⟨fun _ j hj=>absurd hj (Nat.not_lt_zero j),fun _=>?_⟩
  show x / 256=y / 256
  omega
 | k+1,hk=>by
  have ih:=div_iff hx hy k (by omega)
  have px:=pow_half k (by omega) x
  have py:=pow_half k (by omega) y
  have hsub:8 - (k+1)=7 - k:=by omega
  rw [hsub]
  constructor
  ·intro h j hj
   rcases Nat.lt_or_eq_of_le (Nat.le_of_lt_succ hj) with hlt | rfl
   ·exact ih.1 (by rw [px,py,h]) j hlt
   ·unfold bitI;rw [h]
  ·intro h
   have h1:=ih.2 fun j hj=>h j (by omega)
   have h2:=h k (by omega)
   unfold bitI at h2
   rw [px,py] at h1
   omega
theorem keepB_iff {x y:Int} (hx:isB x) (hy:isB y) (k:Nat) (hk:k<=8):keepB x k=keepB y k ↔ ∀ j,j < k->bitI x j=bitI y j:=by
 rw [<-div_iff hx hy k hk]
 unfold keepB
 have hp:(0:Int) < 2 ^ (8 - k):=Int.pow_pos (by decide)
 exact ⟨fun h=>Int.eq_of_mul_eq_mul_right (by omega) h,fun h=>by rw [h]⟩
theorem kept_iff (b:Int):∀ (s t:List Int) (i:Nat),s.length=t.length->(∀ x∈s,isB x)->(∀ x∈t,isB x)->(keptL b i s=keptL b i t ↔ ∀ j:Nat,j < 8*s.length->((8*i+j:Nat):Int) < b->bitAt s j=bitAt t j)
 | [],[],i,_,_,_=>⟨fun _ j hj=>by simp at hj,fun _=>rfl⟩
 | [],_::_,_,h,_,_=>by cases h
 | _::_,[],_,h,_,_=>by cases h
 | x::s,y::t,i,hl,hs,ht=>by
  have ih:=kept_iff b s t (i+1) (by simpa using hl) (fun x hx=>hs x (List.mem_cons_of_mem _ hx)) (fun x hx=>ht x (List.mem_cons_of_mem _ hx))
  have hk:=keepB_iff (hs x List.mem_cons_self) (ht y List.mem_cons_self) (nbits b i) (by unfold nbits;omega)
  have hat:∀ (z:Int) (u:List Int) (j:Nat),bitAt (z::u) (j+8)=bitAt u j:=fun z u j=>by
   unfold bitAt
   rw [show (j+8) / 8=j / 8+1 by omega,show (j+8) % 8=j % 8 by omega]
   rfl
  have ha0:∀ (z:Int) (u:List Int) (j:Nat),j < 8->bitAt (z::u) j=bitI z j:=fun z u j hj=>by
   unfold bitAt
   rw [show j / 8=0 by omega,show j % 8=j by omega]
   rfl
  show keepB x (nbits b i)::keptL b (i+1) s=keepB y (nbits b i)::keptL b (i+1) t↔_
  rw [List.cons.injEq,hk,ih,List.length_cons]
  constructor
  ·rintro ⟨h1,h2⟩ j hj hb
   rcases Nat.lt_or_ge j 8 with h8 | h8
   ·rw [ha0 x s j h8,ha0 y t j h8]
    exact h1 j (by unfold nbits;omega)
   ·obtain ⟨j',rfl⟩:∃ j',j=j'+8:=⟨j - 8,by omega⟩
    rw [hat,hat]
    exact h2 j' (by omega) (by omega)
  ·intro h
   refine ⟨fun j hj=>?_,fun j hj hb=>?_⟩
   ·have hj8:j < 8:=by unfold nbits at hj;omega
    have:=h j (by omega) (by unfold nbits at hj;omega)
    rwa [ha0 x s j hj8,ha0 y t j hj8] at this
   ·have:=h (j+8) (by omega) (by omega)
    rwa [hat,hat] at this
def lw (c:Int):Int:=if 65<=c /\ c<=90 then c+32 else c
def okHc (c:Int):Bool:=(decide (97<=c)&&decide (c<=122))||(decide (48<=c)&&decide (c<=57))||c==45||c==95
def labB (w:List Int):Bool:=decide (1<=w.length)&&decide (w.length<=63) && !(w.head? == some 45) && !(w.getLast? == some 45)&&w.all okHc
theorem okHc_iff (c:Int):okHc c=true↔(97<=c /\ c<=122) \/ (48<=c /\ c<=57) \/ c=45 \/ c=95:=by
 unfold okHc
 simp only [Bool.or_eq_true,Bool.and_eq_true,decide_eq_true_eq,beq_iff_eq]
 omega
theorem sg_lw (c:Int) (h46:c≠46):(sg c≠0->sg c=lw c /\ okHc (lw c)=true) /\ (sg c=0->okHc (lw c)=false):=by
 rw [sg_spec]
 unfold lw
 by_cases h1:65<=c /\ c<=90
 ·rw [if_pos h1,if_pos h1]
  exact ⟨fun _=>⟨rfl,(okHc_iff _).2 (by omega)⟩,fun h=>by omega⟩
 ·rw [if_neg h1,if_neg h1]
  by_cases h2:(97<=c /\ c<=122) \/ (48<=c /\ c<=57) \/ c=45 \/ c=95
  ·rw [if_pos h2]
   exact ⟨fun _=>⟨rfl,(okHc_iff _).2 h2⟩,fun h=>by omega⟩
  ·rw [if_neg h2]
   refine ⟨fun h=>absurd rfl h,fun _=>?_⟩
   cases hk:okHc c with
   | false=>rfl
   | true=>exact absurd ((okHc_iff _).1 hk) h2
theorem lw_46 {c:Int} (h:c≠46):lw c≠46:=by unfold lw;split <;> omega
theorem split_c (x:Int) (r:List Int) (h:x≠46):∃ p ps,splitI r 46=p::ps /\ splitI (x::r) 46=(x::p)::ps:=by
 have hne:=splitI_ne r 46
 cases hq:splitI r 46 with
 | nil=>exact absurd hq hne
 | cons p ps=>
  refine ⟨p,ps,rfl,?_⟩
  have:splitI (x::r) 46=cond (x==46) ([]::splitI r 46) (match splitI r 46 with | []=>[[x]] | w::q=>(x::w)::q):=rfl
  rw [this,beq_eq_false_iff_ne.2 h,cond_false,hq]
structure Pre (w:List Int) (out:List Int):Prop where
 len:w.length<=63
 head:w.head? ≠ some 45
 ok:w.all okHc=true
 last:w≠[]->out.getLast? = w.getLast?
theorem lab_ext {w p:List Int} {c:Int} (h:(w.all okHc&&okHc c)=false):labB (w++c::p)=false:=by
 have h2:(w++c::p).all okHc=false:=by rw [List.all_append,List.all_cons,<- Bool.and_assoc,h,Bool.false_and]
 unfold labB
 rw [h2,Bool.and_false]
theorem nameP_eq:∀ (r out w:List Int),Pre w out -> ∀ p ps,splitI (r.map lw) 46=p::ps->nameP out w.length r=cond (labB (w++p)&&ps.all labB) (some (out++r.map lw)) none
  | [],out,w,hP,p,ps,hs=>by
    have hs:([[]]:List (List Int))=p::ps:=hs
    injection hs with h1 h2
    subst h1;subst h2
    rw [nameP,List.append_nil]
    show cond (endsB out w.length) none (some out)=cond (labB w&&true) (some (out++[])) none
    rw [Bool.and_true,List.append_nil]
    unfold endsB labB
    cases w with
    | nil=>rfl
    | cons x w=>
      have hh:=hP.head
      have hl:=hP.last (by simp)
      rw [hl,hP.ok,decide_eq_true hP.len,beq_eq_false_iff_ne.2 hh,decide_eq_true (show 1<=(x::w).length by simp),beq_eq_false_iff_ne.2 (show (x::w).length≠0 by simp)]
      cases ((x::w).getLast? == some 45) <;> rfl
  | c::r,out,w,hP,p,ps,hs=>by
    rw [nameP]
    by_cases h46:c=46
    · subst h46
      have e:splitI ((46::r).map lw) 46=[]::splitI (r.map lw) 46:=rfl
      rw [e] at hs
      injection hs with h1 h2
      subst h1;subst h2
      rw [show ((46:Int)==46)=true from rfl,cond_true,List.append_nil]
      have hne:=splitI_ne (r.map lw) 46
      cases hq:splitI (r.map lw) 46 with
      | nil=>exact absurd hq hne
      | cons p' ps'=>
        have ih:=nameP_eq r (out++[46]) [] ⟨by simp,by simp,rfl,fun h=>absurd rfl h⟩ p' ps' hq
        have ih:nameP (out++[46]) 0 r=cond (labB p'&&ps'.all labB) (some ((out++[46])++r.map lw)) none:=ih
        rw [ih,List.all_cons]
        have hb:labB w = !(endsB out w.length):=by
          unfold endsB labB
          cases w with
          | nil=>rfl
          | cons x w=>
            have hh:=hP.head
            have hl:=hP.last (by simp)
            rw [hl,hP.ok,decide_eq_true hP.len,beq_eq_false_iff_ne.2 hh,decide_eq_true (show 1<=(x::w).length by simp),beq_eq_false_iff_ne.2 (show (x::w).length≠0 by simp)]
            cases ((x::w).getLast? == some 45) <;> rfl
        rw [hb]
        cases endsB out w.length with
        | true=>rfl
        | false=>
          rw [cond_false,Bool.not_false,Bool.true_and,List.append_assoc]
          rfl
    · have hx:=lw_46 h46
      obtain ⟨p',ps',hq,hs'⟩:=split_c (lw c) (r.map lw) hx
      have hs:splitI (lw c::r.map lw) 46=p::ps:=hs
      rw [hs'] at hs
      injection hs with h1 h2
      subst h1;subst h2
      obtain ⟨g1,g2⟩:=sg_lw c h46
      rw [beq_eq_false_iff_ne.2 h46,cond_false]
      by_cases hz:sg c=0
      · rw [beq_iff_eq.2 hz,Bool.true_or,Bool.true_or,cond_true,lab_ext (by rw [g2 hz,Bool.and_false]),Bool.false_and,cond_false]
      · obtain ⟨e1,e2⟩:=g1 hz
        rw [beq_eq_false_iff_ne.2 hz,Bool.false_or]
        by_cases h63:w.length=63
        · rw [beq_iff_eq.2 h63,Bool.true_or,cond_true]
          have:labB (w++lw c::p')=false:=by
            unfold labB
            rw [decide_eq_false (show ¬ (w++lw c::p').length<=63 by rw [List.length_append,List.length_cons];omega),Bool.and_false];rfl
          rw [this];rfl
        · rw [beq_eq_false_iff_ne.2 h63,Bool.false_or]
          by_cases hd:sg c=45 /\ w.length=0
          · rw [beq_iff_eq.2 hd.1,beq_iff_eq.2 hd.2,Bool.and_self,cond_true]
            have hw:w=[]:=List.eq_nil_of_length_eq_zero hd.2
            have:labB (w++lw c::p')=false:=by
              subst hw
              unfold labB
              rw [<-e1,hd.1]
              simp
            rw [this];rfl
          · have : (sg c == 45 && w.length == 0) = false := by
              rw [Bool.and_eq_false_iff,beq_eq_false_iff_ne,beq_eq_false_iff_ne]
              by_cases h:sg c=45
              · exact .inr fun h2=>hd ⟨h,h2⟩
              · exact .inl h
            rw [this,cond_false,e1]
            have hP':Pre (w++[lw c]) (out++[lw c]):=by
              refine ⟨by have:=hP.len;rw [List.length_append];simp;omega,?_,by rw [List.all_append,hP.ok];simpa using e2,fun _=>by simp⟩
              cases w with
              | nil=>
                intro h
                have:lw c=45:=by simpa using h
                exact hd ⟨by rw [e1,this],rfl⟩
              | cons x w=>exact hP.head
            have ih:=nameP_eq r (out++[lw c]) (w++[lw c]) hP' p' ps' hq
            rw [List.length_append] at ih
            rw [show w.length+1=w.length+[lw c].length from rfl,ih,List.append_assoc,List.append_assoc]
            rfl
noncomputable def nameQ (s:List Int):List Int×Int:=cond (decide (1<=s.length)&&decide (s.length<=253)&&(splitI (s.map lw) 46).all labB) (s.map lw,0) ([],2)
theorem nameR_eq (s:List Int):nameR s=nameQ s:=by
 unfold nameR nameQ
 have hne:=splitI_ne (s.map lw) 46
 cases hq:splitI (s.map lw) 46 with
 | nil=>exact absurd hq hne
 | cons p ps=>
  have h:=nameP_eq s [] [] ⟨by simp,by simp,rfl,fun h=>absurd rfl h⟩ p ps hq
  have h:nameP [] 0 s=cond (labB p&&ps.all labB) (some (s.map lw)) none:=h
  rw [h,List.all_cons]
  by_cases h253:253 < s.length
  ·rw [decide_eq_true h253,decide_eq_false (show ¬ s.length<=253 by omega),Bool.and_false];rfl
  ·rw [decide_eq_false h253,cond_false,decide_eq_true (show s.length<=253 by omega)]
   by_cases h1:1<=s.length
   ·rw [decide_eq_true h1,Bool.true_and,Bool.true_and]
    cases (labB p&&ps.all labB) <;> rfl
   ·have:s=[]:=List.eq_nil_of_length_eq_zero (by omega)
    subst this
    have hq:([[]]:List (List Int))=p::ps:=hq
    injection hq with q1 q2
    subst q1;subst q2
    rfl
theorem lower_loop (s:List Int) (hs:s.length<=1000000):∀ (r pre:List Int),s.length=pre.length+r.length->loopC (F_wlvref_Lower_L4 s) ((pre.length:Int),pre++r)=some (.inr (pre++r.map lw))
 | [],pre,hl=>by
  refine loop_inl ?_
  unfold F_wlvref_Lower_L4
  dsimp only
  rw [decide_eq_false (by rw [hl];simp),cond_false]
  rfl
 | x::r,pre,hl=>by
  have hl':s.length=pre.length+(r.length+1):=hl
  have ih:=lower_loop s hs r (pre++[lw x]) (by rw [List.length_append];simp;omega)
  have e:((pre++[lw x]).length:Int)=(pre.length:Int)+1:=by rw [List.length_append];simp
  refine loop_inr (s':=(((pre++[lw x]).length:Int),(pre++[lw x])++r)) ?_ (ih.trans ?_)
  ·unfold F_wlvref_Lower_L4 chk
   dsimp only
   have h1:(decide ((0:Int)<=(pre.length:Int))&&decide ((pre.length:Int) < (s.length:Int)))=true:=by simp;omega
   have h2:decide ((pre.length:Int) < (s.length:Int))=true:=decide_eq_true (by omega)
   have hg:getI (pre++x::r) (pre.length:Int)=some x:=getI_nat (by simp)
   have h3:decide ((pre.length:Int) < ((pre++x::r).length:Int))=true:=decide_eq_true (by rw [List.length_append,List.length_cons];omega)
   rw [h1,h2,cond_true,hg,h3]
   simp only [cond_true,Option.bind_some]
   rw [Int.toNat_natCast,set_mid,wrap_in (by omega) (by omega),e,List.append_assoc]
   unfold lw
   by_cases hx:65<=x /\ x<=90
   ·rw [decide_eq_true (show x >= 65 from hx.1),decide_eq_true hx.2,cond_true,cond_true,if_pos hx,u8_sm (by omega) (by omega)];rfl
   ·rw [if_neg hx]
    by_cases h65:x >= 65
    ·rw [decide_eq_true h65,decide_eq_false (show ¬ x<=90 by omega)];rfl
    ·rw [decide_eq_false h65];rfl
  ·rw [List.append_assoc];rfl
theorem Lower_eq (s:List Int) (hs:s.length<=1000000):F_wlvref_Lower s=some (s.map lw):=by
 have h:loopC (F_wlvref_Lower_L4 s) (0,s)=some (.inr (s.map lw)):=lower_loop s hs s [] (by simp)
 unfold F_wlvref_Lower
 rw [join_inr (s:=s.map lw) h]
 unfold F_wlvref_Lower_J2 chk
 dsimp only
 rw [Nat.ble_eq_true_of_le (by simp),cond_true,List.take_of_length_le (by simp)]
theorem lab_loop (w:List Int) (l:List (List Int)) (hw:w.length<=1000):loopC (F_wlvref15_Name_L17 w) (l,0)=some (cond (w.all okHc) (.inr l) (.inl (.inl (.inl ([],2))))):=by
  obtain ⟨r,h1,rfl⟩:=loop_inv (body:=F_wlvref15_Name_L17 w) (I:=fun st=>∃ i:Nat,st=(l,(i:Int)) /\ i<=w.length /\ (w.take i).all okHc=true) (m:=fun st=>w.length - st.2.toNat)
    (Q:=fun r=>r=cond (w.all okHc) (.inr l) (.inl (.inl (.inl ([],2))))) (fun st ⟨i,e,hi,ha⟩=>by
      subst e
      unfold F_wlvref15_Name_L17
      dsimp only
      by_cases hlt:i < w.length
      · have hg:=getI_nat (List.getElem?_eq_getElem hlt)
        rw [decide_eq_true (show (i:Int) < (w.length:Int) by omega),cond_true,hg,Option.bind_some,wrap_in (x:=(i:Int)+1) (by omega) (by omega)]
        have next:okHc w[i]=true -> ∃ s':List (List Int)×Int,some (Sum.inr (l,(i:Int)+1))=(some (.inr s'):Option ((((((List Int×Int)⊕Unit)⊕(List (List Int)×Int))⊕List (List Int)))⊕(List (List Int)×Int))) /\ (∃ i:Nat,s'=(l,(i:Int)) /\ i<=w.length /\ (w.take i).all okHc=true) /\ w.length - s'.2.toNat < w.length - (i:Int).toNat:=fun hk=>by
          refine ⟨_,rfl,⟨i+1,rfl,by omega,?_⟩,?_⟩
          · rw [List.take_add_one,List.getElem?_eq_getElem hlt,List.all_append,ha]
            simpa using hk
          · show w.length - ((i:Int)+1).toNat < _
            omega
        by_cases h1:97<=w[i] /\ w[i]<=122
        · rw [show (decide (w[i] < 97)||decide (w[i] > 122))=false by simp;omega,cond_false]
          exact .inr (next ((okHc_iff _).2 (by omega)))
        · rw [show (decide (w[i] < 97)||decide (w[i] > 122))=true by rw [Bool.or_eq_true,decide_eq_true_iff,decide_eq_true_iff];omega,cond_true]
          by_cases h2:(48<=w[i] /\ w[i]<=57) \/ w[i]=45 \/ w[i]=95
          · have : (((decide (w[i] < 48) || decide (w[i] > 57)) && (w[i] != 45)) && (w[i] != 95)) = false := by
              rw [Bool.and_eq_false_iff,Bool.and_eq_false_iff,Bool.or_eq_false_iff,decide_eq_false_iff_not,decide_eq_false_iff_not,bne_eq_false_iff_eq,bne_eq_false_iff_eq]
              omega
            rw [this,cond_false]
            exact .inr (next ((okHc_iff _).2 (by omega)))
          · have : (((decide (w[i] < 48) || decide (w[i] > 57)) && (w[i] != 45)) && (w[i] != 95)) = true := by
              simp only [Bool.and_eq_true,Bool.or_eq_true,decide_eq_true_eq,bne_iff_ne]
              omega
            rw [this,cond_true]
            refine .inl ⟨_,rfl,?_⟩
            have hk:okHc w[i]=false:=by
              cases hk:okHc w[i] with
              | false=>rfl
              | true=>exact absurd ((okHc_iff _).1 hk) (by omega)
            have:w.all okHc=false:=by
              rw [List.all_eq_false]
              exact ⟨w[i],List.getElem_mem _,by rw [hk];simp⟩
            rw [this];rfl
      · rw [decide_eq_false (show ¬ (i:Int) < (w.length:Int) by omega),cond_false]
        refine .inl ⟨_,rfl,?_⟩
        rw [List.take_of_length_le (by omega)] at ha
        rw [ha];rfl) (l,0) ⟨0,rfl,by omega,rfl⟩
  exact h1
theorem labs_loop (l:List (List Int)) (hl:l.length<=1000000):loopC F_wlvref15_Name_L8 (l,0)=some (cond (l.all labB) (.inr ()) (.inl ([],2))):=by
  obtain ⟨r,h1,rfl⟩:=loop_inv (body:=F_wlvref15_Name_L8) (I:=fun st=>∃ i:Nat,st=(l,(i:Int)) /\ i<=l.length /\ (l.take i).all labB=true) (m:=fun st=>l.length - st.2.toNat)
    (Q:=fun r=>r=cond (l.all labB) (.inr ()) (.inl ([],2))) (fun st ⟨i,e,hi,ha⟩=>by
      subst e
      unfold F_wlvref15_Name_L8
      dsimp only
      by_cases hlt:i < l.length
      · have hg:=getI_nat (List.getElem?_eq_getElem hlt)
        rw [decide_eq_true (show (i:Int) < (l.length:Int) by omega),cond_true,hg,Option.bind_some]
        obtain ⟨w,hw⟩:∃ w,l[i]=w:=⟨_,rfl⟩
        rw [hw]
        have bad:labB w=false->cond (l.all labB) (Sum.inr ()) (Sum.inl (([]:List Int),(2:Int)))=(Sum.inl ([],2):(List Int×Int)⊕Unit):=fun hb=>by
          have:l.all labB=false:=by
            rw [List.all_eq_false]
            exact ⟨l[i],List.getElem_mem _,by rw [hw,hb];simp⟩
          rw [this];rfl
        by_cases hlen:1<=w.length /\ w.length<=63
        · rw [decide_eq_false (show ¬ (w.length:Int) < 1 by omega),decide_eq_false (show ¬ (w.length:Int) > 63 by omega),Bool.or_self,cond_false]
          cases w with
          | nil=>simp at hlen
          | cons x w'=>
            have g0:getI (x::w') 0=some x:=getI_nat (i:=0) rfl
            have hgl:∃ y,(x::w').getLast? = some y /\ getI (x::w') (IntKind.i64.wrap (((x::w').length:Int) - 1))=some y:=by
              rw [wrap_in (by omega) (by omega)]
              obtain ⟨y,q1,q2⟩:=getI_of (l:=x::w') (j:=((x::w').length:Int) - 1) (by omega) (by omega)
              refine ⟨y,?_,q1⟩
              rw [List.getLast?_eq_getElem?,<- q2]
              congr 1;omega
            obtain ⟨y,y1,y2⟩:=hgl
            rw [g0,Option.bind_some,y2]
            have hb:labB (x::w')=(!(x==45) && !(y==45)&&(x::w').all okHc):=by
              unfold labB
              rw [decide_eq_true hlen.1,decide_eq_true hlen.2,y1,show (x::w').head? = some x from rfl]
              rfl
            cases hx:x==45 with
            | true=>
              refine .inl ⟨_,rfl,(bad (by rw [hb,hx];rfl)).symm⟩
            | false=>
              rw [cond_false,Option.bind_some]
              cases hy:y==45 with
              | true=>exact .inl ⟨_,rfl,(bad (by rw [hb,hy,Bool.not_true,Bool.and_false];rfl)).symm⟩
              | false=>
                rw [cond_false,lab_loop (x::w') l (by omega)]
                cases hk:(x::w').all okHc with
                | false=>exact .inl ⟨_,rfl,(bad (by rw [hb,hk,Bool.and_false])).symm⟩
                | true=>
                  refine .inr ⟨_,rfl,⟨i+1,?_,by omega,?_⟩,?_⟩
                  · rw [wrap_in (x:=(i:Int)+1) (by omega) (by omega)];rfl
                  · rw [List.take_add_one,List.getElem?_eq_getElem hlt,List.all_append,ha,hw]
                    show (true&&(labB (x::w')&&true))=true
                    rw [hb,hx,hy,hk];rfl
                  · show l.length - (IntKind.i64.wrap ((i:Int)+1)).toNat < l.length - (i:Int).toNat
                    rw [wrap_in (x:=(i:Int)+1) (by omega) (by omega)]
                    omega
        · have : (decide ((w.length : Int) < 1) || decide ((w.length : Int) > 63)) = true := by
            rw [Bool.or_eq_true,decide_eq_true_iff,decide_eq_true_iff];omega
          rw [this,cond_true]
          refine .inl ⟨_,rfl,(bad ?_).symm⟩
          unfold labB
          have:(decide (1<=w.length)&&decide (w.length<=63))=false:=by
            rw [Bool.and_eq_false_iff,decide_eq_false_iff_not,decide_eq_false_iff_not];omega
          rw [this];rfl
      · rw [decide_eq_false (show ¬ (i:Int) < (l.length:Int) by omega),cond_false]
        refine .inl ⟨_,rfl,?_⟩
        rw [List.take_of_length_le (by omega)] at ha
        rw [ha];rfl) (l,0) ⟨0,rfl,by omega,rfl⟩
  exact h1
theorem refName_eq (s:List Int) (hs:s.length<=1000000):F_wlvref15_Name s=some (nameQ s):=by
  unfold F_wlvref15_Name nameQ
  by_cases hlen:1<=s.length /\ s.length<=253
  · rw [decide_eq_false (show ¬ (s.length:Int) < 1 by omega),decide_eq_false (show ¬ (s.length:Int) > 253 by omega),Bool.or_self,cond_false,Lower_eq s hs,Option.bind_some,Split_eq _ 46 (by simp;omega),Option.bind_some]
    have hsl:=split_len (s.map lw) 46 (by simp;omega)
    rw [List.length_map] at hsl
    have hl:=labs_loop (splitI (s.map lw) 46) (by omega)
    rw [decide_eq_true hlen.1,decide_eq_true hlen.2,Bool.true_and,Bool.true_and,hl]
    cases (splitI (s.map lw) 46).all labB <;> rfl
  · have : (decide ((s.length : Int) < 1) || decide ((s.length : Int) > 253)) = true := by
      rw [Bool.or_eq_true,decide_eq_true_iff,decide_eq_true_iff];omega
    rw [this,cond_true]
    have h2:(decide (1<=s.length)&&decide (s.length<=253))=false:=by
      rw [Bool.and_eq_false_iff,decide_eq_false_iff_not,decide_eq_false_iff_not];omega
    rw [h2];rfl
theorem dig_ge {n:Nat} {c:Int} (h:c∈dgs n):48<=c /\ c<=57:=dig_of (List.all_eq_true.1 (dgs_spec (n+1) n (by omega)).1 c h)
theorem first18:F_wlvlaw18_first=some true:=by
 unfold F_wlvlaw18_first
 rw [show F_conf_Parse []=some (16,100,65535,1000,1000000,1000,16384,[],0) from rfl]
 rfl
theorem itoa_neg (n:Nat) (h:1<=n):itoaI (-(n:Int))=45::dgs n:=by
 unfold itoaI dgs
 rw [Lib.itoa_neg n h];rfl
theorem itoa_ln (n:Int) (h1 : -9223372036854775808<=n) (h2:n<=9223372036854775807):(itoaI n).length<=21:=by
 unfold itoaI
 rw [List.length_map]
 exact Lib.itoa_length_le n h1 h2
theorem toB_neg (n:Nat):toB (45::dgs n)=45::Lib.decDigits n:=by
 show (45:Int).toNat.toUInt8::toB (dgs n)=_
 rw [toB_dgs];rfl
theorem atoi_neg (n:Nat) (h1:1<=n) (h:n<=9223372036854775808):atoiP (45::dgs n)=(-(n:Int),false):=by
 unfold atoiP
 rw [toB_neg]
 obtain ⟨c,r,e1,e2,e3⟩:=dec_cons n
 have hp:=parse_dec (n+1) n (by omega) (by omega)
 have:Lib.atoiAll (45::Lib.decDigits n)=.ok (-(n:Int)):=by
  unfold Lib.atoiAll
  dsimp only
  rw [if_pos (.inr (by decide))]
  unfold Lib.parseMag
  rw [if_neg (by rw [e1];simp),hp]
  dsimp only
  rw [if_neg (by intro q;exact q.1 (by decide)),if_neg (by omega),if_pos (by decide)]
 rw [this]
theorem atoi_itoa (z:Int) (h1 : -9223372036854775808<=z) (h2:z<=9223372036854775807):atoiP (itoaI z)=(z,false):=by
 rcases Int.lt_or_le z 0 with h | h
 ·obtain ⟨n,rfl⟩:∃ n:Nat,z = -(n:Int):=⟨z.natAbs,by omega⟩
  rw [itoa_neg n (by omega)]
  exact atoi_neg n (by omega) (by omega)
 ·obtain ⟨n,rfl⟩:∃ n:Nat,z=(n:Int):=⟨z.toNat,by omega⟩
  rw [itoa_dgs]
  exact atoi_dgs n (by omega)
theorem number_itoa (z lo hi:Int) (h1 : -9223372036854775808<=z) (h2:z<=9223372036854775807):F_conf_number (itoaI z) lo hi=some (z,decide (z >= lo)&&decide (z<=hi)):=by
 have hl:=itoa_ln z h1 h2
 unfold F_conf_number
 rw [show F_strconv_Atoi (itoaI z)=some (z,false) by
  unfold F_strconv_Atoi
  rw [Nat.ble_eq_true_of_le (by omega),atoi_itoa z h1 h2];rfl,Option.bind_some]
 rw [show notB (z,false).2=true from rfl,cond_true]
 unfold F_strconv_Itoa
 rw [Option.bind_some,beq_self_eq_true,Bool.true_and]
def hexT (l:List Int):List Int:=(hexB l).map byteI
def hx2 (x:Int):List Int:=(hex2 x).map byteI
theorem chex_eq {l:List Int} (h:l.length<=1000000):F_conf_Hex l=some (hexT l):=by
 unfold F_conf_Hex hexT
 rw [Nat.ble_eq_true_of_le (by omega)];rfl
theorem hexK_flat (l:List Int):∀ k,k<=l.length->hexK l k=(l.take k).flatMap hex2
 | 0,_=>by simp [hexK]
 | k+1,h=>by
  show hexK l k++hex2 (l.getD k 0)=_
  rw [hexK_flat l k (by omega),List.take_add_one,List.flatMap_append]
  have hk:l[k]? = some l[k]:=List.getElem?_eq_getElem (by omega)
  rw [hk,List.getD_eq_getElem?_getD,hk]
  simp
theorem hexT_flat (l:List Int):hexT l=l.flatMap hx2:=by
 unfold hexT hexB
 rw [hexK_flat l l.length (Nat.le_refl _),List.take_length,List.map_flatMap]
 rfl
theorem hexT_app (a b:List Int):hexT (a++b)=hexT a++hexT b:=by
 rw [hexT_flat,hexT_flat,hexT_flat,List.flatMap_append]
theorem hexT_cons (x:Int) (b:List Int):hexT (x::b)=hx2 x++hexT b:=by
 rw [hexT_flat,hexT_flat];rfl
theorem hexT_ln (l:List Int):(hexT l).length=2*l.length:=by
 unfold hexT hexB
 rw [List.length_map,hexK_len]
theorem hx2_f:∀ q:Fin 256,puxP (hx2 (q.val:Int))=((q.val:Int),false):=by decide +kernel
theorem pux_hx2 {x:Int} (h0:0<=x) (h1:x < 256):F_strconv_ParseUint (hx2 x) 16 8=some (x,false):=by
 have:=hx2_f ⟨x.toNat,by omega⟩
 simp only [show ((x.toNat:Nat):Int)=x by omega] at this
 unfold F_strconv_ParseUint
 rw [this]
 rfl
theorem bytes_loop:∀ (suf pre:List Int),(∀ x∈suf,0<=x /\ x < 256)->pre.length+suf.length<=100000->loopC (F_conf_bytesOf_L4 (hexT (pre++suf))) (pre,((2*pre.length:Nat):Int))=some (.inr (pre++suf))
 | [],pre,hb,hl=>by
  refine loop_inl ?_
  unfold F_conf_bytesOf_L4
  dsimp only
  rw [List.append_nil,hexT_ln,wrap_in (by omega) (by omega),decide_eq_false (by omega),cond_false]
 | x::suf,pre,hb,hl=>by
  have hx:=hb x (by simp)
  rw [List.length_cons] at hl
  have hcut:cutI (hexT (pre++x::suf)) ((2*pre.length:Nat):Int) (((2*pre.length:Nat):Int)+2)=some (hx2 x):=by
   have hln:(hexT (pre++x::suf)).length=2*(pre.length+(suf.length+1)):=by rw [hexT_ln,List.length_append,List.length_cons]
   unfold cutI
   rw [hln,decide_eq_true (by omega),decide_eq_true (by omega),decide_eq_true (by omega),Bool.and_self,Bool.and_self,cond_true]
   rw [show (((2*pre.length:Nat):Int)+2).toNat=2*pre.length+2 by omega,Int.toNat_natCast,hexT_app,hexT_cons]
   rw [<-hexT_ln pre,List.take_append,List.take_of_length_le (by omega),show (hexT pre).length+2 - (hexT pre).length=2 by omega,show (hx2 x++hexT suf).take 2=hx2 x from rfl,List.drop_left]
  refine loop_inr (s':=(pre++[x],((2*(pre++[x]).length:Nat):Int))) ?_ ?_
  ·unfold F_conf_bytesOf_L4
   dsimp only
   rw [hexT_ln,List.length_append,List.length_cons,wrap_in (by omega) (by omega),decide_eq_true (by omega),cond_true,wrap_in (by omega) (by omega),hcut,Option.bind_some,pux_hx2 hx.1 hx.2,Option.bind_some,cond_false]
   rw [show IntKind.u8.wrap x=x from by show x % 256=x;omega]
   unfold chk
   have hm:maxLen=9223372036854775807:=rfl
   rw [decide_eq_true (by simp;omega),decide_eq_true (by simp;omega),Bool.and_self,cond_true]
   rw [show ((2*pre.length:Nat):Int)+2=((2*(pre++[x]).length:Nat):Int) by simp;omega]
  ·have:=bytes_loop suf (pre++[x]) (fun y hy=>hb y (by simp [hy])) (by simp;omega)
   rw [List.append_assoc] at this
   exact this
theorem bytesOf_hex {l:List Int} (hb:∀ x∈l,0<=x /\ x < 256) (hl:l.length<=100000) (lo hi:Int):F_conf_bytesOf (hexT l) lo hi=some (l,decide ((l.length:Int) >= lo)&&decide ((l.length:Int)<=hi)):=by
 have h:=bytes_loop l [] hb (by simpa using hl)
 unfold F_conf_bytesOf
 rw [show loopC (F_conf_bytesOf_L4 (hexT l)) (([]:List Int),0)=_ from h]
 show F_conf_bytesOf_J2 (hexT l) lo hi l=_
 unfold F_conf_bytesOf_J2
 dsimp only
 rw [chex_eq (by omega),Option.bind_some,beq_self_eq_true,Bool.true_and]
structure UserOk (u:UserD):Prop where
 name:F_conf_named u.1=some true
 nosp:∀ x∈u.1,x≠32
 short:u.1.length<=64
 salt:∀ x∈u.2.1.1,0<=x /\ x < 256
 saltl:1<=u.2.1.1.length /\ u.2.1.1.length<=32
 dig:∀ x∈u.2.1.2,0<=x /\ x < 256
 digl:u.2.1.2.length=32
 many:1<=u.2.2.1 /\ u.2.2.1<=1000
theorem idxZ_none (c:Int):∀ (s:List Int),(∀ x∈s,x≠c)->idxI s c = -1
 | [],_=>rfl
 | x::s,h=>by
  unfold idxI
  rw [beq_eq_false_iff_ne.2 (h x (by simp)),cond_false,idxZ_none c s fun y hy=>h y (by simp [hy])];rfl
theorem cutZ_none (s:List Int) (c:Int) (h:∀ x∈s,x≠c):F_strings_Cut s [c]=some (s,[],false):=by
 unfold F_strings_Cut F_internal_stringslite_Cut
 show ((some (idxI s c)).bind _).bind _=_
 rw [idxZ_none c s h];rfl
theorem split_cover (c0:Int):∀ (s:List Int) (c:Int),c∈s->c=c0 \/ ∃ w∈splitI s c0,c∈w
 | [],_,h=>by cases h
 | x::s,c,h=>by
  have hne:=splitI_ne s c0
  have hu:splitI (x::s) c0=cond (x==c0) ([]::splitI s c0) (match splitI s c0 with | []=>[[x]] | w::q=>(x::w)::q):=rfl
  rcases List.mem_cons.1 h with rfl | h
  ·by_cases hx:c=c0
   ·exact .inl hx
   ·rw [hu,beq_eq_false_iff_ne.2 hx,cond_false]
    cases hq:splitI s c0 with
    | nil=>exact absurd hq hne
    | cons w q=>exact .inr ⟨c::w,by simp,by simp⟩
  ·rcases split_cover c0 s c h with h1 | ⟨w,h1,h2⟩
   ·exact .inl h1
   ·rw [hu]
    cases x==c0 with
    | true=>exact .inr ⟨w,List.mem_cons_of_mem _ h1,h2⟩
    | false=>
     rw [cond_false]
     cases hq:splitI s c0 with
     | nil=>exact absurd hq hne
     | cons w' q=>
      rw [hq] at h1
      rcases List.mem_cons.1 h1 with rfl | h1
      ·exact .inr ⟨x::w,by simp,by simp [h2]⟩
      ·exact .inr ⟨w,List.mem_cons_of_mem _ h1,h2⟩
theorem four_chars {s:List Int} (h:(fourR s).2=true):∀ c∈s,c=46 \/ isDig c=true:=fun c hc=>by
 unfold fourR at h
 cases hb:(decide ((splitI s 46).length=4)&&(splitI s 46).all byteB) with
 | false=>rw [hb] at h;cases h
 | true=>
  rw [Bool.and_eq_true] at hb
  rcases split_cover 46 s c hc with h1 | ⟨w,h1,h2⟩
  ·exact .inl h1
  ·right
   have hw:=List.all_eq_true.1 hb.2 w h1
   unfold byteB canonB at hw
   simp only [Bool.and_eq_true] at hw
   exact List.all_eq_true.1 hw.1.1 c h2
theorem dc_none:∀ (s:List Int),(∀ c∈s,c≠58)->dcI s=none:=fun s h=>by
 have:=dc_p s [] h
 rw [List.append_nil] at this
 rw [this];rfl
theorem grp_58 {s x:List Int} (h:grpR [] s=some x):(58:Int)∈s:=by
 by_cases hm:(58:Int)∈s
 ·exact hm
 ·have hn:∀ c∈s,c≠58:=fun c hc e=>hm (by rw [<-e];exact hc)
  unfold grpR at h
  rw [dc_none s hn,split_p s hn] at h
  have:([s].all hexGB&&(([]:List Int).length+2*[s].length==16))=false:=by
   rw [show (([]:List Int).length+2*[s].length==16)=false from rfl,Bool.and_false]
  rw [this] at h
  cases h
theorem canon_17 {t:List Int} (h:canonB t=true) (hv:valI t<=65535):t.length<=17:=by
 obtain ⟨n,rfl,hn⟩:=canon_eq t.length t rfl h
 have:=dgs_len 4 n (by rw [hn] at hv;omega)
 omega
theorem dgs_val {x:Int} (h:0<=x):valI (dgs x.toNat)=x:=by
 have:=(dgs_spec (x.toNat+1) x.toNat (Nat.lt_succ_self _)).2.1
 rw [this];omega
theorem by2_byte (n:Int):∀ x∈by2 n,isB x:=by
 intro x hx
 unfold by2 at hx
 simp at hx
 rcases hx with rfl | rfl
 ·exact ⟨by omega,by omega⟩
 ·exact ⟨by omega,by omega⟩
theorem bytesP_byte (ps:List (List Int)):∀ x∈bytesP ps,isB x:=fun x hx=>by
 unfold bytesP at hx
 obtain ⟨p,_,h⟩:=List.mem_flatMap.1 hx
 exact by2_byte _ x h
theorem insZ_byte {b:List Int} {g:Nat} (h:∀ x∈b,isB x):∀ x∈insZ b g,isB x:=fun x hx=>by
 unfold insZ at hx
 simp only [List.mem_append] at hx
 rcases hx with (hx | hx) | hx
 ·exact h x (List.mem_of_mem_take hx)
 ·rw [(List.mem_replicate.1 hx).2];exact ⟨by decide,by decide⟩
 ·exact h x (List.mem_of_mem_drop hx)
theorem grp_byte {s x:List Int} (h:grpR [] s=some x):∀ y∈x,isB y:=by
 unfold grpR at h
 split at h
 ·cases hc:((splitI s 58).all hexGB&&(([]:List Int).length+2*(splitI s 58).length==16)) with
  | false=>rw [hc] at h;cases h
  | true=>
   rw [hc,cond_true] at h
   injection h with h
   rw [<-h,List.nil_append]
   exact bytesP_byte _
 ·rename_i i hd
  cases hc:((partsO (s.take i)).all hexGB&&(partsO (s.drop (i+2))).all hexGB&&decide (([]:List Int).length+2*(partsO (s.take i)).length+2*(partsO (s.drop (i+2))).length<=14)) with
  | false=>rw [hc] at h;cases h
  | true=>
   rw [hc,cond_true] at h
   injection h with h
   rw [<-h,List.nil_append]
   refine insZ_byte fun y hy=>?_
   rcases List.mem_append.1 hy with hy | hy
   ·exact bytesP_byte _ y hy
   ·exact bytesP_byte _ y hy
theorem four_byte {s:List Int} (h:(fourR s).2=true):(fourR s).1.length=4 /\ ∀ y∈(fourR s).1,isB y:=by
 unfold fourR at h ⊢
 cases hc:(decide ((splitI s 46).length=4)&&(splitI s 46).all byteB) with
 | false=>rw [hc] at h;cases h
 | true=>
  rw [cond_true]
  rw [Bool.and_eq_true,decide_eq_true_iff] at hc
  refine ⟨by rw [List.length_map];exact hc.1,fun y hy=>?_⟩
  obtain ⟨w,hw,rfl⟩:=List.mem_map.1 hy
  have:=byte_val (List.all_eq_true.1 hc.2 w hw)
  exact ⟨this.1,by omega⟩
theorem parse_ok {s:List Int} (h:(parseR s).2=0):((parseR s).1.length=4 \/ ((parseR s).1.length=16 /\ (parseR s).1.take 12≠preM)) /\ ∀ y∈(parseR s).1,isB y:=by
 unfold parseR at h ⊢
 cases h4:(fourR s).2 with
 | true=>
  rw [cond_true]
  exact ⟨.inl (four_byte h4).1,(four_byte h4).2⟩
 | false=>
  rw [h4,cond_false] at h
  rw [cond_false]
  cases hg:grpR [] s with
  | none=>rw [hg] at h;cases h
  | some x=>
   show ((plainR x).length=4 \/ ((plainR x).length=16 /\ (plainR x).take 12≠preM)) /\ ∀ y∈plainR x,isB y
   have hl:=(grp_16 hg).1
   have hb:=grp_byte hg
   unfold plainR
   cases hp:(decide (12<=x.length)&&(x.take 12==preM)) with
   | true=>
    rw [cond_true]
    exact ⟨.inl (by rw [List.length_drop];omega),fun y hy=>hb y (List.mem_of_mem_drop hy)⟩
   | false=>
    rw [cond_false]
    refine ⟨.inr ⟨hl,fun e=>?_⟩,hb⟩
    rw [e,decide_eq_true (by omega)] at hp
    exact absurd hp (by decide)
theorem name_ok {s:List Int} (h:(nameR s).2=0):(nameR s).1=s.map lowI /\ (nameR s).1=s.map lw /\ (∀ c∈s,c=46 \/ sg c≠0) /\ s≠[] /\ s.length<=253:=by
 have h1:(nameR s).1=s.map lowI /\ (∀ c∈s,c=46 \/ sg c≠0) /\ s≠[]:=by
  unfold nameR at h ⊢
  cases hd:decide (253 < s.length) with
  | true=>rw [hd] at h;cases h
  | false=>
   rw [hd,cond_false] at h
   rw [cond_false]
   cases hn:nameP [] 0 s with
   | none=>rw [hn] at h;cases h
   | some b=>
    obtain ⟨e,g,n⟩:=name_some s _ _ _ hn
    exact ⟨by show b=_;rw [e,List.nil_append],g,n rfl⟩
 have h2:(nameR s).1=s.map lw /\ s.length<=253:=by
  rw [nameR_eq] at h ⊢
  unfold nameQ at h ⊢
  cases hc:(decide (1<=s.length)&&decide (s.length<=253)&&(splitI (s.map lw) 46).all labB) with
  | false=>rw [hc] at h;cases h
  | true=>
   simp only [Bool.and_eq_true,decide_eq_true_eq] at hc
   exact ⟨rfl,hc.1.2⟩
 exact ⟨h1.1,h2.1,h1.2.1,h1.2.2,h2.2⟩
theorem lw_lw (c:Int):lw (lw c)=lw c:=by
 unfold lw
 by_cases h:65<=c /\ c<=90
 ·rw [if_pos h,if_neg (by omega)]
 ·rw [if_neg h,if_neg h]
theorem map_lw (s:List Int):(s.map lw).map lw=s.map lw:=by
 rw [List.map_map]
 exact List.map_congr_left fun c _=>lw_lw c
theorem name_low {s:List Int} (h:(nameR s).2=0):nameR (s.map lw)=(s.map lw,0):=by
 rw [nameR_eq] at h ⊢
 unfold nameQ at h ⊢
 rw [map_lw,List.length_map]
 cases hc:(decide (1<=s.length)&&decide (s.length<=253)&&(splitI (s.map lw) 46).all labB) with
 | false=>rw [hc] at h;cases h
 | true=>rfl
theorem low_chars {s:List Int} (h:∀ c∈s,c=46 \/ sg c≠0):∀ c∈s.map lowI,c=45 \/ c=46 \/ c=95 \/ (48<=c /\ c<=57) \/ (97<=c /\ c<=122):=fun c hc=>by
 obtain ⟨d,hd,rfl⟩:=List.mem_map.1 hc
 have:=h d hd
 unfold lowI
 by_cases h46:d=46
 ·subst h46;right;left;rfl
 ·rw [beq_eq_false_iff_ne.2 h46,cond_false]
  have hs:=this.resolve_left h46
  rw [sg_spec] at hs ⊢
  by_cases h1:65<=d /\ d<=90
  ·rw [if_pos h1];omega
  ·rw [if_neg h1] at hs ⊢
   by_cases h2:(97<=d /\ d<=122) \/ (48<=d /\ d<=57) \/ d=45 \/ d=95
   ·rw [if_pos h2];omega
   ·rw [if_neg h2] at hs;exact absurd rfl hs
theorem getD_mem {s:List Int} {i:Nat} (h:i < s.length):s.getD i 0∈s:=by
 rw [List.getD_eq_getElem?_getD,List.getElem?_eq_getElem h];exact List.getElem_mem h
theorem getI_getD {s:List Int} {i:Nat} (h:i < s.length):getI s (i:Int)=some (s.getD i 0):=getI_nat (by rw [List.getD_eq_getElem?_getD,List.getElem?_eq_getElem h];rfl)
theorem bit_eq (s:List Int) (j:Nat) (hj:j < 8*s.length) (h16:s.length<=16) (hs:∀ x∈s,isB x):F_wlvref15_bit s (j:Int)=some (bitAt s j):=by
 have hi8:j / 8 < s.length:=by omega
 have hdv:Int.tdiv (j:Int) 8=((j / 8:Nat):Int):=by rw [Int.tdiv_eq_ediv_of_nonneg (by omega)];omega
 have hmd:Int.tmod (j:Int) 8=((j % 8:Nat):Int):=by rw [Int.tmod_eq_emod_of_nonneg (by omega)];omega
 have hu:IntKind.u64.wrap (IntKind.i64.wrap (7 - ((j % 8:Nat):Int)))=((7 - j % 8:Nat):Int):=by
  rw [wrap_in (by omega) (by omega)]
  show (7 - ((j % 8:Nat):Int)) % 18446744073709551616=_
  omega
 obtain ⟨x0,x1⟩:=hs _ (getD_mem hi8)
 unfold F_wlvref15_bit chk
 rw [hdv,hmd,wrap_in (x:=((j / 8:Nat):Int)) (by omega) (by omega),getI_getD hi8,Option.bind_some,hu,decide_eq_true (show (0:Int)<=((7 - j % 8:Nat):Int) by omega),cond_true,Int.toNat_natCast,Nat.min_eq_left (show 7 - j % 8<=64 by omega),wrap_in (x:=s.getD (j / 8) 0) (by omega) (by omega)]
 unfold bitAt bitI
 have hp:(0:Int) < 2 ^ (7 - j % 8):=Int.pow_pos (by decide)
 rw [Int.fdiv_eq_ediv_of_nonneg _ (Int.le_of_lt hp)]
 have q0:0<=s.getD (j / 8) 0 / 2 ^ (7 - j % 8):=Int.ediv_nonneg x0 (Int.le_of_lt hp)
 have q1:s.getD (j / 8) 0 / 2 ^ (7 - j % 8)<=s.getD (j / 8) 0:=Int.ediv_le_self _ x0
 generalize s.getD (j / 8) 0 / 2 ^ (7 - j % 8)=q at q0 q1 ⊢
 have e40:(2:Int) ^ 40=1099511627776:=by decide
 rw [show (1:Int)=2 ^ 1 - 1 from rfl,bits_mask .i64 40 (by decide) (fun m h0 h1=>wrap_in (by omega) (by omega)) 1 (by decide) q q0 (by omega)]
 rfl
theorem tab_keep:(List.range 256).all (fun x=>(List.range 9).all fun k=>decide (0<=keepB (x:Int) k)&&decide (keepB (x:Int) k < 256)&&(List.range 8).all fun j=>bitI (keepB (x:Int) k) j==(if j < k then bitI (x:Int) j else 0))=true:=by kernel_rfl
theorem keep_spec {x:Int} (hx:isB x) {k:Nat} (hk:k<=8):isB (keepB x k) /\ ∀ j,j < 8->bitI (keepB x k) j=if j < k then bitI x j else 0:=by
 have h:=List.all_eq_true.1 (List.all_eq_true.1 tab_keep x.toNat (List.mem_range.2 (by obtain ⟨_,_⟩:=hx;omega))) k (List.mem_range.2 (by omega))
 have e:((x.toNat:Nat):Int)=x:=Int.toNat_of_nonneg hx.1
 rw [e] at h
 simp only [Bool.and_eq_true,decide_eq_true_eq] at h
 exact ⟨⟨h.1.1,h.1.2⟩,fun j hj=>beq_iff_eq.1 (List.all_eq_true.1 h.2 j (List.mem_range.2 hj))⟩
theorem keptL_at (b:Int):∀ (s:List Int) (i n:Nat),n < s.length->(keptL b i s).getD n 0=keepB (s.getD n 0) (nbits b (i+n))
 | [],_,n,h=>by simp at h
 | x::s,i,0,_=>rfl
 | x::s,i,n+1,h=>by
  show (keptL b (i+1) s).getD n 0=keepB (s.getD n 0) _
  rw [keptL_at b s (i+1) n (by simpa using h),show i+1+n=i+(n+1) by omega]
theorem keptL_byte (b:Int):∀ (s:List Int) (i:Nat),(∀ x∈s,isB x) -> ∀ y∈keptL b i s,isB y
 | [],_,_,y,h=>by cases h
 | x::s,i,hs,y,h=>by
  have h:y∈keepB x (nbits b i)::keptL b (i+1) s:=h
  rcases List.mem_cons.1 h with rfl | h
  ·exact (keep_spec (hs x (by simp)) (by unfold nbits;omega)).1
  ·exact keptL_byte b s (i+1) (fun z hz=>hs z (by simp [hz])) y h
theorem getD_byte {s:List Int} (hs:∀ x∈s,isB x) (n:Nat):isB (s.getD n 0):=by
 rw [List.getD_eq_getElem?_getD]
 by_cases h:n < s.length
 ·rw [List.getElem?_eq_getElem h]
  exact hs _ (List.getElem_mem h)
 ·rw [List.getElem?_eq_none (by omega)]
  exact ⟨by decide,by decide⟩
theorem bit_kept (b:Int) (s:List Int) (hs:∀ x∈s,isB x) (j:Nat) (hj:j < 8*s.length):bitAt (keptL b 0 s) j=if (j:Int) < b then bitAt s j else 0:=by
 unfold bitAt
 rw [keptL_at b s 0 (j / 8) (by omega),(keep_spec (getD_byte hs (j / 8)) (show nbits b (0+j / 8)<=8 by unfold nbits;omega)).2 (j % 8) (by omega)]
 by_cases h:(j:Int) < b
 ·rw [if_pos h,if_pos (by unfold nbits;omega)]
 ·rw [if_neg h,if_neg (by unfold nbits;omega)]
theorem keep_all {x:Int} (k:Nat) (hk:k=8):keepB x k=x:=by
 subst hk
 unfold keepB
 rw [show (2:Int) ^ (8 - 8)=1 from rfl]
 omega
theorem kept_full (b:Int):∀ (s:List Int) (i:Nat),8*((i+s.length:Nat):Int)<=b->keptL b i s=s
 | [],_,_=>rfl
 | x::s,i,h=>by
  show keepB x (nbits b i)::keptL b (i+1) s=_
  rw [kept_full b s (i+1) (by simp at h ⊢;omega),keep_all _ (by unfold nbits;simp at h;omega)]
theorem bits_ext (s t:List Int) (hl:s.length=t.length) (hs:∀ x∈s,isB x) (ht:∀ x∈t,isB x) (h:∀ j:Nat,j < 8*s.length->bitAt s j=bitAt t j):s=t:=by
 have k:=(kept_iff (8*(s.length:Int)) s t 0 hl hs ht).2 fun j hj _=>h j hj
 rwa [kept_full _ s 0 (by omega),kept_full _ t 0 (by omega)] at k
theorem kept_fix (b:Int) (s:List Int) (hs:∀ x∈s,isB x):keptL b 0 s=s ↔ ∀ j:Nat,j < 8*s.length->b<=(j:Int)->bitAt s j=0:=by
 have hl:=keptL_len b s 0
 constructor
 ·intro h j hj hb
  have:=bit_kept b s hs j hj
  rw [h,if_neg (by omega)] at this
  exact this
 ·intro h
  refine bits_ext _ _ hl (keptL_byte b s 0 hs) hs fun j hj=>?_
  rw [hl] at hj
  rw [bit_kept b s hs j hj]
  by_cases hb:(j:Int) < b
  ·rw [if_pos hb]
  ·rw [if_neg hb,h j hj (by omega)]
theorem idxI_none (c:Int):∀ (s:List Int),(∀ x∈s,x≠c)->idxI s c = -1
 | [],_=>rfl
 | x::s,h=>by
  unfold idxI
  rw [beq_eq_false_iff_ne.2 (h x (by simp)),cond_false,idxI_none c s fun y hy=>h y (by simp [hy])];rfl
theorem idxI_at (c:Int) (t:List Int):∀ (h:List Int),(∀ x∈h,x≠c)->idxI (h++c::t) c=h.length
 | [],_=>by
  show cond (c==c) 0 _=_
  rw [beq_self_eq_true];rfl
 | x::h,hn=>by
  have ih:=idxI_at c t h fun y hy=>hn y (by simp [hy])
  show cond (x==c) 0 (cond (idxI (h++c::t) c == -1) (-1) (idxI (h++c::t) c+1))=_
  rw [beq_eq_false_iff_ne.2 (hn x (by simp)),cond_false,ih,beq_eq_false_iff_ne.2 (show (h.length:Int) ≠ -1 by omega),cond_false,List.length_cons]
  omega
theorem Cut_none (s:List Int) (c:Int) (h:∀ x∈s,x≠c):F_strings_Cut s [c]=some (s,[],false):=by
 unfold F_strings_Cut F_internal_stringslite_Cut
 show ((some (idxI s c)).bind _).bind _=_
 rw [idxI_none c s h];rfl
theorem Cut_at (h t:List Int) (c:Int) (hn:∀ x∈h,x≠c) (hl:(h++c::t).length<=1000000):F_strings_Cut (h++c::t) [c]=some (h,t,true):=by
 have hlen:(h++c::t).length=h.length+(t.length+1):=by rw [List.length_append,List.length_cons]
 unfold F_strings_Cut F_internal_stringslite_Cut
 show ((some (idxI (h++c::t) c)).bind _).bind _=_
 rw [idxI_at c t h hn,Option.bind_some,decide_eq_true (show (h.length:Int) >= 0 by omega),cond_true]
 have c1:=cutI_nat (s:=h++c::t) (a:=0) (b:=h.length) (by omega) (by omega)
 have c1:cutI (h++c::t) 0 (h.length:Int)=some h:=by
  have e0:((0:Nat):Int)=0:=rfl
  rw [e0] at c1
  rw [c1,List.take_left];rfl
 have c2:cutI (h++c::t) (IntKind.i64.wrap ((h.length:Int)+(([c]:List Int).length:Int))) ((h++c::t).length:Int)=some t:=by
  have e1:(([c]:List Int).length:Int)=1:=rfl
  rw [e1,wrap_in (by omega) (by omega)]
  have:=cutI_nat (s:=h++c::t) (a:=h.length+1) (b:=(h++c::t).length) (by omega) (by omega)
  rw [show ((h.length+1:Nat):Int)=(h.length:Int)+1 by omega] at this
  rw [this,List.take_length,List.drop_append,List.drop_of_length_le (by omega),show h.length+1 - h.length=1 by omega]
  rfl
 rw [c1,Option.bind_some,c2];rfl
theorem first_cut (c:Int):∀ (s:List Int),(∀ x∈s,x≠c) \/ ∃ h t,s=h++c::t /\ ∀ x∈h,x≠c
  | []=>.inl (by simp)
  | x::s=>by
    by_cases hx:x=c
    · subst hx
      exact .inr ⟨[],s,rfl,by simp⟩
    · rcases first_cut c s with h | ⟨h,t,rfl,hn⟩
      · exact .inl fun y hy => by
          rcases List.mem_cons.1 hy with rfl | hy
          · exact hx
          · exact h y hy
      · exact .inr ⟨x :: h, t, rfl, fun y hy => by
          rcases List.mem_cons.1 hy with rfl | hy
          · exact hx
          · exact hn y hy⟩
theorem parse_two (s:List Int) (h:(parseR s).2≠0):parseR s=([],2):=by
 unfold parseR at h ⊢
 cases h4:(fourR s).2 with
 | true=>rw [h4] at h;exact absurd rfl h
 | false=>
  rw [h4,cond_false] at h
  rw [cond_false]
  cases hg:grpR [] s with
  | none=>rfl
  | some x=>rw [hg] at h;exact absurd rfl h
noncomputable def netR (h:List Int) (t:Option (List Int)):List Int×Int×Int:=
 cond ((parseR h).2 != 0) ([],0,2) (match t with
  | none=>((parseR h).1,8*((parseR h).1.length:Int),0)
  | some t=>cond (canonB t&&decide (valI t<=8*((parseR h).1.length:Int))&&(keptL (valI t) 0 (parseR h).1==(parseR h).1)) ((parseR h).1,valI t,0) ([],0,2))
theorem netR_no {h:List Int} {t:Option (List Int)} (hb:(parseR h).2≠0):netR h t=([],0,2):=by
 unfold netR;rw [bne_iff_ne.2 hb];rfl
theorem ParseNet_none (s:List Int) (hn:∀ x∈s,x≠47) (hs:s.length<=1000000):F_addr_ParseNet s=some (netR s none):=by
 unfold F_addr_ParseNet
 rw [Cut_none s 47 hn,Option.bind_some]
 dsimp only
 rw [Parse_eq s hs,Option.bind_some]
 by_cases hb:(parseR s).2=0
 ·obtain ⟨hl,_⟩:=parse_ok hb
  have hl16:(parseR s).1.length<=16:=by rcases hl with h | h <;> omega
  unfold netR
  rw [show ((parseR s).2 != 0)=false by rw [hb];rfl,cond_false,cond_false,cond_false,wrap_in (by omega) (by omega)]
 ·rw [netR_no hb,parse_two s hb];rfl
theorem ParseNet_at (h t:List Int) (hn:∀ x∈h,x≠47) (hl:(h++47::t).length<=1000000):F_addr_ParseNet (h++47::t)=some (netR h (some t)):=by
 have hlen:(h++47::t).length=h.length+(t.length+1):=by rw [List.length_append,List.length_cons]
 unfold F_addr_ParseNet
 rw [Cut_at h t 47 hn hl,Option.bind_some]
 dsimp only
 rw [Parse_eq h (by omega),Option.bind_some]
 by_cases hb:(parseR h).2=0
 ·obtain ⟨hp,hby⟩:=parse_ok hb
  have hl16:(parseR h).1.length<=16:=by rcases hp with h | h <;> omega
  unfold netR
  rw [show ((parseR h).2 != 0)=false by rw [hb];rfl,cond_false,cond_true,cond_false,wrap_in (by omega) (by omega)]
  obtain ⟨x,hx,hv⟩:=decimal_eq t (8*((parseR h).1.length:Int)) (by omega) (by omega)
  rw [hx,Option.bind_some]
  dsimp only
  cases hc:(canonB t&&decide (valI t<=8*((parseR h).1.length:Int))) with
  | false=>rfl
  | true=>
   rw [Bool.and_eq_true,decide_eq_true_iff] at hc
   have h0:=valI_nn _ t rfl (by have:=hc.1;unfold canonB at this;exact (Bool.and_eq_true _ _ ▸ this).1)
   rw [hv hc.1 hc.2,kept_eq _ _ (by omega) (by omega) hby,Option.bind_some,Bool.not_true,cond_false,Bool.true_and]
   cases (keptL (valI t) 0 (parseR h).1==(parseR h).1) <;> rfl
 ·rw [netR_no hb,parse_two h hb];rfl
theorem fix_loop (s:List Int) (e:Int) (b:Nat) (h16:s.length<=16) (hs:∀ x∈s,isB x) (x:List Int×Int×List Int×Int) :
    ∀ k i:Nat,i+k=8*s.length->b<=i->(∀ j,b<=j->j < i->bitAt s j=0)->loopC (F_wlvref15_ParseNet_L15 (s,e)) ((i:Int),x)=some (cond (keptL (b:Int) 0 s==s) (.inr x) (.inl ([],0,2)))
  | 0,i,h,hb,hz=>by
    refine loop_inl ?_
    unfold F_wlvref15_ParseNet_L15
    dsimp only
    have e:(keptL (b:Int) 0 s==s)=true:=by
      rw [beq_iff_eq,kept_fix (b:Int) s hs]
      intro j hj hbj
      exact hz j (by omega) (by omega)
    rw [wrap_in (by omega) (by omega),decide_eq_false (show ¬ (i:Int) < 8*(s.length:Int) by omega),cond_false,e];rfl
  | k+1,i,h,hb,hz=>by
    by_cases he:bitAt s i=0
    · refine loop_inr (s' := (((i + 1 : Nat) : Int), x)) ?_ (fix_loop s e b h16 hs x k (i + 1) (by omega) (by omega) fun j h1 hj => by
        rcases Nat.lt_or_eq_of_le (Nat.le_of_lt_succ hj) with h | rfl
        · exact hz j h1 h
        · exact he)
      unfold F_wlvref15_ParseNet_L15
      dsimp only
      rw [wrap_in (x:=8*(s.length:Int)) (by omega) (by omega),decide_eq_true (show (i:Int) < 8*(s.length:Int) by omega),cond_true,bit_eq s i (by omega) h16 hs,Option.bind_some,he,bne_self_eq_false,cond_false,wrap_in (by omega) (by omega)]
      rfl
    · refine loop_inl ?_
      unfold F_wlvref15_ParseNet_L15
      dsimp only
      have e:(keptL (b:Int) 0 s==s)=false:=by
        rw [beq_eq_false_iff_ne,ne_eq,kept_fix (b:Int) s hs]
        intro h
        exact he (h i (by omega) (by omega))
      rw [wrap_in (x:=8*(s.length:Int)) (by omega) (by omega),decide_eq_true (show (i:Int) < 8*(s.length:Int) by omega),cond_true,bit_eq s i (by omega) h16 hs,Option.bind_some,bne_iff_ne.2 he,cond_true,e]
      rfl
theorem fix_join (s:List Int) (e b:Int) (h0:0<=b) (hb:b<=8*(s.length:Int)) (h16:s.length<=16) (hs:∀ x∈s,isB x) :
  joinC (S:=List Int×Int×List Int×Int) (R:=List Int×Int×Int) (loopC (S:=Int×List Int×Int×List Int×Int) (R:=(List Int×Int×Int)⊕(List Int×Int×List Int×Int)) (F_wlvref15_ParseNet_L15 (s,e)) (b,([]:List Int),0,s,b)) (F_wlvref15_ParseNet_J13)=some (cond (keptL b 0 s==s) (s,b,0) ([],0,2)):=by
 obtain ⟨n,rfl⟩:=Int.eq_ofNat_of_zero_le h0
 have:=fix_loop s e n h16 hs (([]:List Int),0,s,(n:Int)) (8*s.length - n) n (by omega) (Nat.le_refl _) fun j h1 h2=>by omega
 cases hq:keptL (n:Int) 0 s==s with
 | true=>rw [hq,cond_true] at this;exact (join_inr this).trans rfl
 | false=>rw [hq,cond_false] at this;exact join_inl this
theorem refNet_none (s:List Int) (hn:∀ x∈s,x≠47) (hs:s.length<=1000000):F_wlvref15_ParseNet s=some (netR s none):=by
 unfold F_wlvref15_ParseNet
 rw [Split_eq s 47 hs,Option.bind_some,splitI_miss hn]
 show ((some s).bind _)=_
 rw [Option.bind_some,refParse_eq s hs,Option.bind_some]
 have e2:decide ((([s]:List (List Int)).length:Int) > 2)=false:=rfl
 have e3:((([s]:List (List Int)).length:Int)==2)=false:=rfl
 rw [e2,e3,Bool.or_false,cond_false]
 by_cases hb:(parseR s).2=0
 ·obtain ⟨hp,hby⟩:=parse_ok hb
  have hl16:(parseR s).1.length<=16:=by rcases hp with h | h <;> omega
  unfold netR
  rw [show ((parseR s).2 != 0)=false by rw [hb];rfl,cond_false,cond_false,wrap_in (by omega) (by omega)]
  have:=fix_join (parseR s).1 (parseR s).2 (8*((parseR s).1.length:Int)) (by omega) (by omega) hl16 hby
  rw [kept_full _ _ 0 (by omega),beq_self_eq_true,cond_true] at this
  exact this
 ·rw [netR_no hb,bne_iff_ne.2 hb];rfl
theorem refNet_at (h t:List Int) (hn:∀ x∈h,x≠47) (hl:(h++47::t).length<=1000000):F_wlvref15_ParseNet (h++47::t)=some (netR h (some t)):=by
 have hlen:(h++47::t).length=h.length+(t.length+1):=by rw [List.length_append,List.length_cons]
 unfold F_wlvref15_ParseNet
 rw [Split_eq _ 47 hl,Option.bind_some,splitI_hit hn]
 show ((some h).bind _)=_
 rw [Option.bind_some,refParse_eq h (by omega),Option.bind_some]
 by_cases hb:(parseR h).2=0
 ·obtain ⟨hp,hby⟩:=parse_ok hb
  have hl16:(parseR h).1.length<=16:=by rcases hp with h | h <;> omega
  rcases first_cut 47 t with ht | ⟨t1,t2,rfl,ht1⟩
  ·rw [splitI_miss ht]
   have e2:decide ((([h,t]:List (List Int)).length:Int) > 2)=false:=rfl
   have e3:((([h,t]:List (List Int)).length:Int)==2)=true:=rfl
   rw [e2,e3,Bool.or_false,cond_true]
   unfold netR
   rw [show ((parseR h).2 != 0)=false by rw [hb];rfl,cond_false,cond_false,wrap_in (by omega) (by omega)]
   show ((some t).bind _)=_
   rw [Option.bind_some]
   obtain ⟨x,hx,hv⟩:=Num_eq t 0 (8*((parseR h).1.length:Int))
   rw [hx,Option.bind_some]
   dsimp only
   cases hc:(canonB t&&decide (valI t<=8*((parseR h).1.length:Int))) with
   | false=>
    have:(canonB t&&decide (t.length<=17)&&(decide (0<=valI t)&&decide (valI t<=8*((parseR h).1.length:Int))))=false:=by
     rw [Bool.and_eq_false_iff] at hc
     rcases hc with hc | hc
     ·rw [hc];rfl
     ·rw [hc,Bool.and_false,Bool.and_false]
    rw [this];rfl
   | true=>
    rw [Bool.and_eq_true,decide_eq_true_iff] at hc
    have h0:=valI_nn _ t rfl (by have:=hc.1;unfold canonB at this;exact (Bool.and_eq_true _ _ ▸ this).1)
    have h17:=canon_17 hc.1 (by omega)
    rw [hv hc.1 h17,hc.1,decide_eq_true h17,decide_eq_true h0,decide_eq_true hc.2]
    show joinC _ _=_
    rw [fix_join (parseR h).1 (parseR h).2 (valI t) h0 hc.2 hl16 hby]
    rfl
  ·have hx:(47:Int)∈t1++47::t2:=by simp
   have hlen3:2 < (h::splitI (t1++47::t2) 47).length:=by
    have hne:2<=(splitI (t1++47::t2) 47).length:=by
     rw [splitI_hit ht1,List.length_cons]
     have:=List.length_pos_iff.2 (splitI_ne t2 47)
     omega
    rw [List.length_cons];omega
   rw [decide_eq_true (show ((h::splitI (t1++47::t2) 47).length:Int) > 2 by omega),Bool.or_true,cond_true]
   have hc:canonB (t1++47::t2)=false:=by
    unfold canonB
    have:(t1++47::t2).all isDig=false:=by
     rw [List.all_eq_false]
     exact ⟨47,hx,by decide⟩
    rw [this];rfl
   unfold netR
   rw [show ((parseR h).2 != 0)=false by rw [hb];rfl,cond_false]
   dsimp only
   rw [hc];rfl
 ·rw [netR_no hb,bne_iff_ne.2 hb];rfl
def cutP:List Int->List Int×Bool
 | []=>([],false)
 | c::r=>cond (c==46) (r,true) (c::r,false)
theorem cutp_eq (s:List Int) (hs:s.length<=1000000):F_strings_CutPrefix s [46]=some (cutP s):=by
 unfold F_strings_CutPrefix F_internal_stringslite_CutPrefix F_internal_stringslite_HasPrefix
 cases s with
 | nil=>rfl
 | cons c r=>
  rw [List.length_cons] at hs
  rw [show (([46]:List Int).length:Int)=1 from rfl,decide_eq_true (show ((c::r).length:Int) >= 1 by rw [List.length_cons];omega),cond_true]
  rw [show cutI (c::r) 0 1=some [c] by unfold cutI;rw [decide_eq_true (by omega),decide_eq_true (by omega),decide_eq_true (by rw [List.length_cons];omega)];rfl,Option.bind_some]
  rw [show ([c]==([46]:List Int))=(c==46) by
   by_cases h:c=46
   ·subst h;rfl
   ·rw [beq_eq_false_iff_ne.2 h,beq_eq_false_iff_ne.2 (by intro e;injection e with e;exact h e)]]
  have e2:cutI (c::r) 1 ((c::r).length:Int)=some r:=by
   unfold cutI
   rw [decide_eq_true (by omega),decide_eq_true (by rw [List.length_cons];omega),decide_eq_true (Int.le_refl _)]
   show some (((c::r).take ((c::r).length:Int).toNat).drop 1)=_
   rw [Int.toNat_natCast,List.take_length];rfl
  rw [e2]
  show _=some (cond (c==46) (r,true) (c::r,false))
  cases c==46 <;> rfl
structure NetOk (ip:List Int) (b:Int):Prop where
 byte:∀ y∈ip,isB y
 len:ip.length=4 \/ (ip.length=16 /\ ip.take 12≠preM)
 lo:0<=b
 hi:b<=8*(ip.length:Int)
 kept:keptL b 0 ip=ip
theorem keptL_all (ip:List Int) (b:Int) (hb:∀ y∈ip,isB y) (h:b=8*(ip.length:Int)):keptL b 0 ip=ip:=by
 have key:∀ (l:List Int) (i:Nat),(∀ y∈l,isB y)->8*((i+l.length:Nat):Int)<=b->keptL b i l=l:=by
  intro l
  induction l with
  | nil=>intro i _ _;rfl
  | cons x l ih=>
   intro i hy hle
   rw [List.length_cons] at hle
   show keepB x (nbits b i)::keptL b (i+1) l=_
   rw [ih (i+1) (fun y h=>hy y (by simp [h])) (by omega)]
   have hx:=hy x (by simp)
   have hn:nbits b i=8:=by
    unfold nbits
    omega
   rw [hn]
   unfold keepB
   simp
 exact key ip 0 hb (by omega)
theorem net_total (s:List Int) (hs:s.length<=100000):∃ ip b e,F_addr_ParseNet s=some (ip,b,e) /\ (e=0->NetOk ip b) /\ (e=0 \/ (parseR s).2≠0 \/ 47∈s):=by
  rcases first_cut 47 s with h | ⟨h,t,rfl,hn⟩
  · refine ⟨(netR s none).1,(netR s none).2.1,(netR s none).2.2,ParseNet_none s h (by omega),?_⟩
    by_cases hp:(parseR s).2=0
    · have e : netR s none = ((parseR s).1, 8 * ((parseR s).1.length : Int), 0) := by
        unfold netR
        rw [show ((parseR s).2 != 0)=false by rw [hp];rfl,cond_false]
      obtain ⟨q1,q2⟩:=parse_ok hp
      rw [e]
      exact ⟨fun _=>⟨q2,q1,by show (0:Int)<=8*_;omega,Int.le_refl _,keptL_all _ _ q2 rfl⟩,.inl rfl⟩
    · rw [netR_no hp]
      exact ⟨fun e=>absurd e (by decide),.inr (.inl hp)⟩
  · refine ⟨(netR h (some t)).1,(netR h (some t)).2.1,(netR h (some t)).2.2,ParseNet_at h t hn (by omega),?_⟩
    refine ⟨fun he=>?_,.inr (.inr (by simp))⟩
    by_cases hp:(parseR h).2=0
    · obtain ⟨q1,q2⟩:=parse_ok hp
      have e:netR h (some t)=cond (canonB t&&decide (valI t<=8*((parseR h).1.length:Int))&&(keptL (valI t) 0 (parseR h).1==(parseR h).1)) ((parseR h).1,valI t,0) ([],0,2):=by
        unfold netR
        rw [show ((parseR h).2 != 0)=false by rw [hp];rfl,cond_false]
      rw [e] at he ⊢
      cases hc:(canonB t&&decide (valI t<=8*((parseR h).1.length:Int))&&(keptL (valI t) 0 (parseR h).1==(parseR h).1)) with
      | false=>rw [hc] at he;cases he
      | true=>
        rw [cond_true]
        simp only [Bool.and_eq_true,decide_eq_true_eq] at hc
        obtain ⟨⟨c1,c2⟩,c3⟩:=hc
        exact ⟨q2,q1,valI_nn _ t rfl (by unfold canonB at c1;exact (Bool.and_eq_true _ _ ▸ c1).1),c2,eq_of_beq c3⟩
    · rw [netR_no hp] at he;cases he
theorem parse_low {s:List Int} (h:(nameR s).2=0) (hp:(parseR s).2≠0):(parseR (s.map lw)).2≠0:=fun e=>by
 obtain ⟨n1,n2,n3,n4,n5⟩:=name_ok h
 have hch:=low_chars n3
 rw [<-n1,n2] at hch
 unfold parseR at e
 cases h4:(fourR (s.map lw)).2 with
 | true=>
  have hc:=four_chars h4
  have hs:s.map lw=s:=by
   refine (List.map_congr_left fun c hcm=>?_).trans (List.map_id s)
   have:=hc (lw c) (List.mem_map.2 ⟨c,hcm,rfl⟩)
   show lw c=c
   unfold lw at this ⊢
   by_cases hq:65<=c /\ c<=90
   ·rw [if_pos hq] at this
    rcases this with h | h
    ·omega
    ·have:=dig_of h
     omega
   ·rw [if_neg hq]
  rw [hs] at h4
  apply hp
  unfold parseR
  rw [h4];rfl
 | false=>
  rw [h4,cond_false] at e
  cases hg:grpR [] (s.map lw) with
  | none=>rw [hg] at e;exact absurd e (by decide)
  | some x=>
   have:=hch 58 (grp_58 hg)
   omega
theorem name_bad {s:List Int} (h:(nameR s).2≠0):nameR s=([],2):=by
 unfold nameR at h ⊢
 cases hd:decide (253 < s.length) with
 | true=>rfl
 | false=>
  rw [hd,cond_false] at h
  rw [cond_false]
  cases hn:nameP [] 0 s with
  | none=>rfl
  | some b=>rw [hn] at h;exact absurd rfl h
theorem name_chars {s:List Int} (h:nameR s=(s,0)):(∀ c∈s,c=45 \/ c=46 \/ c=95 \/ (48<=c /\ c<=57) \/ (97<=c /\ c<=122)) /\ s≠[] /\ s.length<=253:=by
 have h0:(nameR s).2=0:=by rw [h]
 obtain ⟨n1,n2,n3,n4,n5⟩:=name_ok h0
 refine ⟨?_,n4,n5⟩
 have:=low_chars n3
 rw [<-n1,h] at this
 exact this
theorem name_fix {s:List Int} (h:(nameR s).2=0):nameR s=(s.map lw,0) /\ nameR (s.map lw)=(s.map lw,0):=by
 obtain ⟨n1,n2,n3,n4,n5⟩:=name_ok h
 exact ⟨Prod.ext n2 h,name_low h⟩
theorem name_46 (r:List Int):nameR (46::r)=([],2):=by
 refine name_bad fun h=>?_
 unfold nameR at h
 cases hd:decide (253 < (46::r:List Int).length) with
 | true=>
  rw [hd] at h
  have h:(2:Int)=0:=h
  omega
 | false=>
  rw [hd,cond_false] at h
  have h:(2:Int)=0:=h
  omega
inductive PatOk:Int->List Int->List Int->Int->Prop
 | any:PatOk 0 [] [] 0
 | suffix (m:List Int) (h:nameR m=(m,0)):PatOk 2 (46::m) [] 0
 | within (ip:List Int) (b:Int) (h:NetOk ip b):PatOk 3 [] ip b
 | just (m:List Int) (h:nameR m=(m,0)) (hp:(parseR m).2≠0):PatOk 1 m [] 0
theorem pat_total (s:List Int) (hs:s.length<=20000):∃ k h ip b ok,F_conf_pattern s=some (false,k,h,ip,b,0,0,ok) /\ (ok=true->PatOk k h ip b):=by
 unfold F_conf_pattern
 cases h42:s==([42]:List Int) with
 | true=>exact ⟨_,_,_,_,_,rfl,fun _=>.any⟩
 | false=>
  rw [cond_false,cutp_eq s (by omega),Option.bind_some]
  obtain ⟨ip,b,e,hn,h0,h1⟩:=net_total s (by omega)
  have tailE:∃ k h ip' b' ok,((F_addr_ParseNet s).bind fun x4=>cond (x4.2.2==0) (some ((false,3,([]:List Int),x4.1,x4.2.1,0,0,true):Bool×Int×List Int×List Int×Int×Int×Int×Bool)) ((F_host_Name s).bind fun x5=>some (false,1,x5.1,([]:List Int),0,0,0,(x5.2==0))))=some (false,k,h,ip',b',0,0,ok) /\ (ok=true->PatOk k h ip' b'):=by
   rw [hn,Option.bind_some]
   dsimp only
   cases he:e==0 with
   | true=>exact ⟨_,_,_,_,_,rfl,fun _=>.within _ _ (h0 (eq_of_beq he))⟩
   | false=>
    rw [cond_false,name_eq,Option.bind_some]
    refine ⟨_,_,_,_,_,rfl,fun hk=>?_⟩
    have hk:=eq_of_beq hk
    obtain ⟨f1,f2⟩:=name_fix hk
    rw [f1]
    have hp:(parseR s).2≠0:=by
     rcases h1 with h | h | h
     ·rw [h] at he;cases he
     ·exact h
     ·obtain ⟨_,_,n3,_,_⟩:=name_ok hk
      exfalso
      rcases n3 47 h with h | h
      ·exact absurd h (by decide)
      ·exact h (by rw [sg_spec];decide)
    exact .just _ f2 (parse_low hk hp)
  cases hcp:(cutP s).2 with
  | false=>rw [cond_false];exact tailE
  | true=>
   obtain ⟨r,rfl⟩:∃ r,s=46::r:=by
    match s,hcp with
    | c::r,hcp=>
     cases hc:c==46 with
     | true=>exact ⟨r,by rw [eq_of_beq hc]⟩
     | false=>
      have hcp:(cond (c==46) (r,true) (c::r,false)).2=true:=hcp
      rw [hc] at hcp
      cases hcp
   rw [cond_true,show (cutP (46::r)).1=r from rfl,name_eq,Option.bind_some]
   cases h2:(nameR r).2==0 with
   | false=>rw [cond_false];exact tailE
   | true=>
    obtain ⟨f1,f2⟩:=name_fix (eq_of_beq h2)
    have hl:=(name_chars f2).2.2
    have hm:maxLen=9223372036854775807:=rfl
    rw [cond_true,f1]
    unfold chk
    rw [Nat.ble_eq_true_of_le (by show 1+(r.map lw).length<=maxLen;omega),cond_true]
    exact ⟨_,_,_,_,_,rfl,fun _=>.suffix _ f2⟩
end Go.Proofs.YtgfmfgombmpodaaGreatDoor
namespace Go.Proofs.YtgfmfgombmpodaaGreatDoor
open Pv Vc
set_option linter.unusedVariables false
theorem number_total (s:List Int) (lo hi:Int) (hs:s.length<=1000000):∃ n ok,F_conf_number s lo hi=some (n,ok) /\ (ok=true->itoaI n=s /\ lo<=n /\ n<=hi):=by
 unfold F_conf_number F_strconv_Atoi
 rw [Nat.ble_eq_true_of_le (by omega),cond_true,Option.bind_some]
 cases h:notB (atoiP s).2 with
 | false=>exact ⟨_,_,rfl,fun e=>by cases e⟩
 | true=>
  rw [cond_true]
  unfold F_strconv_Itoa
  rw [Option.bind_some]
  refine ⟨_,_,rfl,fun e=>?_⟩
  simp only [Bool.and_eq_true,decide_eq_true_eq] at e
  exact ⟨eq_of_beq e.1.1,by omega,by omega⟩
theorem span_total (s:List Int) (hs:s.length<=100000):∃ f t ok,F_conf_span s=some (f,t,ok) /\ (ok=true->1<=f /\ f<=t /\ t<=65535):=by
 unfold F_conf_span
 cases h42:s==([42]:List Int) with
 | true=>exact ⟨_,_,_,rfl,fun _=>by decide⟩
 | false=>
  rw [cond_false]
  rcases first_cut 45 s with h | ⟨h,t,rfl,hn⟩
  ·rw [cutZ_none s 45 h,Option.bind_some]
   dsimp only
   rw [Bool.not_false,cond_true]
   obtain ⟨n,ok,e,hk⟩:=number_total s 1 65535 (by omega)
   rw [e,Option.bind_some,Option.bind_some]
   refine ⟨_,_,_,rfl,fun hh=>?_⟩
   simp only [Bool.and_eq_true,decide_eq_true_eq] at hh
   have:=hk hh.1.1
   omega
  ·have hlen:(h++45::t).length=h.length+(t.length+1):=by rw [List.length_append,List.length_cons]
   rw [Cut_at h t 45 hn (by omega),Option.bind_some]
   dsimp only
   rw [Bool.not_true,cond_false]
   obtain ⟨n,ok,e,hk⟩:=number_total h 1 65535 (by omega)
   obtain ⟨m,ok2,e2,hk2⟩:=number_total t 1 65535 (by omega)
   rw [e,Option.bind_some,e2,Option.bind_some]
   refine ⟨_,_,_,rfl,fun hh=>?_⟩
   simp only [Bool.and_eq_true,decide_eq_true_eq] at hh
   have:=hk hh.1.1
   have:=hk2 hh.1.2
   omega
theorem itoa_dig {z:Int} (h:0<=z):∀ c∈itoaI z,48<=c /\ c<=57:=fun c hc=>by
 obtain ⟨n,rfl⟩:∃ n:Nat,z=(n:Int):=⟨z.toNat,by omega⟩
 rw [itoa_dgs] at hc
 exact dig_ge hc
theorem u8_byte (x:Int):0<=IntKind.u8.wrap x /\ IntKind.u8.wrap x < 256:=by
 show 0<=x % 256 /\ x % 256 < 256
 omega
theorem bytes_run_total (s:List Int) (hs:s.length<=100000):∀ (k:Nat) (l:List Int),2*l.length<=s.length->s.length - 2*l.length<=k->(∀ x∈l,0<=x /\ x < 256) ->
    ∃ r,loopC (F_conf_bytesOf_L4 s) (l,((2*l.length:Nat):Int))=some r /\ (r=.inl ([],false) \/ ∃ l',r=.inr l' /\ l'.length<=100000 /\ ∀ x∈l',0<=x /\ x < 256):=fun k=>by
  induction k with
  | zero=>
    intro l h1 h2 hb
    refine ⟨.inr l,loop_inl ?_,.inr ⟨l,rfl,by omega,hb⟩⟩
    unfold F_conf_bytesOf_L4
    dsimp only
    rw [wrap_in (by omega) (by omega),decide_eq_false (by omega),cond_false]
  | succ k ih=>
    intro l h1 h2 hb
    by_cases hlt:2*l.length+1 < s.length
    · have hcut : ∃ p, cutI s ((2 * l.length : Nat) : Int) (((2 * l.length : Nat) : Int) + 2) = some p /\ p.length = 2 := by
        unfold cutI
        rw [decide_eq_true (by omega),decide_eq_true (by omega),decide_eq_true (by omega),Bool.and_self,Bool.and_self,cond_true]
        exact ⟨_,rfl,by rw [List.length_drop,List.length_take];omega⟩
      obtain ⟨p,hp,hp2⟩:=hcut
      have hpu:F_strconv_ParseUint p 16 8=some (puxP p):=by
        unfold F_strconv_ParseUint
        rw [hp2];rfl
      have hm:maxLen=9223372036854775807:=rfl
      cases hq:(puxP p).2 with
      | true=>
        refine ⟨.inl ([],false),loop_inl ?_,.inl rfl⟩
        unfold F_conf_bytesOf_L4
        dsimp only
        rw [wrap_in (by omega) (by omega),decide_eq_true (by omega),cond_true,wrap_in (by omega) (by omega),hp,Option.bind_some,hpu,Option.bind_some,hq]
        rfl
      | false=>
        obtain ⟨r,h3,h4⟩:=ih (l++[IntKind.u8.wrap (puxP p).1]) (by rw [List.length_append];show 2*(l.length+1)<=_;omega) (by rw [List.length_append];show s.length - 2*(l.length+1)<=k;omega) fun x hx=>by
          rcases List.mem_append.1 hx with h | h
          · exact hb x h
          · rw [List.mem_singleton.1 h];exact u8_byte _
        refine ⟨r,loop_inr ?_ h3,h4⟩
        unfold F_conf_bytesOf_L4
        dsimp only
        rw [wrap_in (by omega) (by omega),decide_eq_true (by omega),cond_true,wrap_in (by omega) (by omega),hp,Option.bind_some,hpu,Option.bind_some,hq,cond_false]
        unfold chk
        rw [decide_eq_true (show (l.length+([IntKind.u8.wrap (puxP p).1]:List Int).length)*1<=140737488355328 by show (l.length+1)*1<=_;omega),decide_eq_true (show l.length+([IntKind.u8.wrap (puxP p).1]:List Int).length<=maxLen by show l.length+1<=_;omega),Bool.and_self,cond_true]
        rw [show ((2*l.length:Nat):Int)+2=((2*(l++[IntKind.u8.wrap (puxP p).1]).length:Nat):Int) by rw [List.length_append];show _=((2*(l.length+1):Nat):Int);omega]
    · refine ⟨.inr l,loop_inl ?_,.inr ⟨l,rfl,by omega,hb⟩⟩
      unfold F_conf_bytesOf_L4
      dsimp only
      rw [wrap_in (by omega) (by omega),decide_eq_false (by omega),cond_false]
theorem bytes_total (s:List Int) (lo hi:Int) (hs:s.length<=100000):∃ l ok,F_conf_bytesOf s lo hi=some (l,ok) /\ (ok=true->(∀ x∈l,0<=x /\ x < 256) /\ lo<=(l.length:Int) /\ (l.length:Int)<=hi):=by
 obtain ⟨r,h1,h2⟩:=bytes_run_total s hs s.length [] (by simp) (by simp) (fun x hx=>by cases hx)
 unfold F_conf_bytesOf
 rw [show loopC (F_conf_bytesOf_L4 s) (([]:List Int),0)=some r from h1]
 rcases h2 with rfl | ⟨l,rfl,hl,hb⟩
 ·exact ⟨_,_,rfl,fun e=>by cases e⟩
 ·show ∃ l' ok,F_conf_bytesOf_J2 s lo hi l=some (l',ok) /\ _
  unfold F_conf_bytesOf_J2
  dsimp only
  rw [chex_eq (by omega),Option.bind_some]
  refine ⟨_,_,rfl,fun e=>?_⟩
  simp only [Bool.and_eq_true,decide_eq_true_eq] at e
  exact ⟨hb,by omega,by omega⟩
structure RuleOk (r:RuleD):Prop where
 pat:PatOk r.2.1 r.2.2.1 r.2.2.2.1.1 r.2.2.2.1.2
 lo:1<=r.2.2.2.2.1
 mid:r.2.2.2.2.1<=r.2.2.2.2.2
 hi:r.2.2.2.2.2<=65535
structure UGood (u:UserD):Prop where
 ok:UserOk u
 cnt:∃ a b,Cnt a /\ Cnt b /\ u.2.2.2.1=(fl a,fl b)
 many:u.2.2.2.2.length<=64
 rules:∀ r∈u.2.2.2.2,RuleOk r
structure Good (x:RSt):Prop where
 lim:∀ k,k < 7->limLo k<=x.lim k /\ x.lim k<=limHi k
 few:x.us.length<=16
 each:∀ u∈x.us,UGood u
 uniq:∀ (i j:Nat) (u v:UserD),x.us[i]? = some u->x.us[j]? = some v->u.1=v.1->i=j
theorem usAt_neg:∀ (us:List UserD) (s:List Int),usAt us s < 0 -> ∀ u∈us,u.1≠s
 | [],s,_=>fun u hu=>by cases hu
 | v::us,s,h=>by
  have hin:=usAt_in us s
  have h:cond (v.1==s) 0 (cond (decide (usAt us s = -1)) (-1) (usAt us s+1)) < 0:=h
  cases hv:v.1==s with
  | true=>
   rw [hv] at h
   have h:(0:Int) < 0:=h
   omega
  | false=>
   rw [hv,cond_false] at h
   cases hd:decide (usAt us s = -1) with
   | false=>
    rw [hd,cond_false] at h
    have:=of_decide_eq_false hd
    omega
   | true=>
    intro u hu
    rcases List.mem_cons.1 hu with rfl | hu
    ·exact fun e=>by rw [e,beq_self_eq_true] at hv;cases hv
    ·exact usAt_neg us s (by have:=of_decide_eq_true hd;omega) u hu
theorem usAt_pos:∀ (us:List UserD) (s:List Int),0<=usAt us s -> ∃ u,us[(usAt us s).toNat]? = some u /\ u.1=s
 | [],s,h=>absurd h (by show ¬ (0:Int) <= -1;decide)
 | v::us,s,h=>by
  have hin:=usAt_in us s
  have e:usAt (v::us) s=cond (v.1==s) 0 (cond (decide (usAt us s = -1)) (-1) (usAt us s+1)):=rfl
  rw [e] at h ⊢
  cases hv:v.1==s with
  | true=>exact ⟨v,rfl,eq_of_beq hv⟩
  | false=>
   rw [hv,cond_false] at h
   rw [cond_false]
   cases hd:decide (usAt us s = -1) with
   | true=>
    rw [hd] at h
    have h:(0:Int) <= -1:=h
    omega
   | false=>
    have:=of_decide_eq_false hd
    obtain ⟨u,h1,h2⟩:=usAt_pos us s (by omega)
    rw [cond_false,show (usAt us s+1).toNat=(usAt us s).toNat+1 by omega]
    exact ⟨u,h1,h2⟩
theorem named_true {a:List Int} (h:F_conf_named a=some true):(∀ c∈a,c≠32) /\ a.length<=64:=by
 unfold F_conf_named at h
 injection h with h
 simp only [Bool.and_eq_true] at h
 refine ⟨fun c hc e=>?_,Nat.le_of_ble_eq_true h.1.2⟩
 have:=List.all_eq_true.1 h.2 c hc
 rw [e] at this
 exact absurd this (by decide)
theorem lim_set (x:RSt) (k:Nat) (n:Int) (hk:k < 7) (j:Nat) (hj:j < 7):(x.setLim k n).lim j=if j=k then n else x.lim j:=by
 match k,hk with
 | 0,_ | 1,_ | 2,_ | 3,_ | 4,_ | 5,_ | 6,_=>
  match j,hj with
  | 0,_ | 1,_ | 2,_ | 3,_ | 4,_ | 5,_ | 6,_=>rfl
theorem set_us3 (x:RSt) (k:Nat) (n:Int):(x.setLim k n).us=x.us:=by
 unfold RSt.setLim
 split <;> rfl
theorem limAt_lt {a:List Int} {k:Nat} (h:limAt a=some k):k < 7:=by
 unfold limAt at h
 have:=List.mem_of_find?_eq_some h
 simpa using this
def Res (e:Int):Prop:=0<=e /\ e < 10
theorem limits_total {x:RSt} (hx:Good x) (ws:List (List Int)) (hw:∀ w∈ws,w.length<=100000):∃ x' ok,limitsP x ws=some (x',ok) /\ (ok=true->Good x'):=by
 match ws,hw with
 | [],_=>exact ⟨_,_,rfl,fun e=>by cases e⟩
 | [_],_=>exact ⟨_,_,rfl,fun e=>by cases e⟩
 | _::_::_::_,_=>exact ⟨_,_,rfl,fun e=>by cases e⟩
 | [a,b],hw=>
  show ∃ x' ok,cond (x.told.contains a) (some (x,false)) (match limAt a with
   | none=>some (x,false)
   | some k=>(F_conf_number b (limLo k) (limHi k)).bind fun p=>some (({ x.setLim k p.1 with told:=x.told++[a] }:RSt),p.2))=some (x',ok) /\ _
  cases ht:x.told.contains a with
  | true=>exact ⟨_,_,rfl,fun e=>by cases e⟩
  | false=>
   rw [cond_false]
   cases hk:limAt a with
   | none=>exact ⟨_,_,rfl,fun e=>by cases e⟩
   | some k=>
    have hk7:=limAt_lt hk
    obtain ⟨n,ok,e,hn⟩:=number_total b (limLo k) (limHi k) (by have:=hw b (by simp);omega)
    dsimp only
    rw [e,Option.bind_some]
    refine ⟨_,_,rfl,fun hh=>⟨fun j hj=>?_,?_,?_,?_⟩⟩
    ·show limLo j<=(x.setLim k n).lim j /\ (x.setLim k n).lim j<=limHi j
     rw [lim_set x k n hk7 j hj]
     by_cases hjk:j=k
     ·subst hjk
      rw [if_pos rfl]
      exact (hn hh).2
     ·rw [if_neg hjk];exact hx.lim j hj
    ·show (x.setLim k n).us.length<=16
     rw [set_us3];exact hx.few
    ·show ∀ u∈(x.setLim k n).us,_
     rw [set_us3];exact hx.each
    ·show ∀ (i j:Nat) (u v:UserD),(x.setLim k n).us[i]? = some u->(x.setLim k n).us[j]? = some v->u.1=v.1->i=j
     rw [set_us3];exact hx.uniq
theorem user_total {x:RSt} (hx:Good x) (ws:List (List Int)) (hw:∀ w∈ws,w.length<=100000):∃ x' e,userP x ws=some (x',e) /\ Res e /\ (e=0->Good x'):=by
 have bad:∃ x' e,some (x,(2:Int))=some (x',e) /\ Res e /\ (e=0->Good x'):=⟨x,2,rfl,by unfold Res;omega,fun e=>by cases e⟩
 match ws,hw with
 | [],_=>exact bad
 | [_],_=>exact bad
 | [_,_],_=>exact bad
 | [_,_,_],_=>exact bad
 | [_,_,_,_],_=>exact bad
 | [_,_,_,_,_],_=>exact bad
 | _::_::_::_::_::_::_::_,_=>exact bad
 | [a,b,c,d,e,f],hw=>
  show ∃ x' e',((F_conf_named a).bind fun q=>cond q (cond (decide (0<=usAt x.us a)) (some (x,2)) (
   (F_conf_bytesOf b 1 32).bind fun sa=>(F_conf_bytesOf c 32 32).bind fun di=>(F_conf_number d 1 1000).bind fun n=>(F_conf_number e 0 1125899906842624).bind fun up=>(F_conf_number f 0 1125899906842624).bind fun dn=>userG x a sa di n up dn)) (some (x,2)))=some (x',e') /\ _
  have hnm:∃ q,F_conf_named a=some q:=⟨_,rfl⟩
  obtain ⟨q,hq⟩:=hnm
  rw [hq,Option.bind_some]
  cases q with
  | false=>exact bad
  | true=>
   rw [cond_true]
   cases hat:decide (0<=usAt x.us a) with
   | true=>exact bad
   | false=>
    have hneg:=usAt_neg x.us a (by have:=of_decide_eq_false hat;omega)
    obtain ⟨sa,o1,e1,k1⟩:=bytes_total b 1 32 (by have:=hw b (by simp);omega)
    obtain ⟨di,o2,e2,k2⟩:=bytes_total c 32 32 (by have:=hw c (by simp);omega)
    obtain ⟨n,o3,e3,k3⟩:=number_total d 1 1000 (by have:=hw d (by simp);omega)
    obtain ⟨up,o4,e4,k4⟩:=number_total e 0 1125899906842624 (by have:=hw e (by simp);omega)
    obtain ⟨dn,o5,e5,k5⟩:=number_total f 0 1125899906842624 (by have:=hw f (by simp);omega)
    rw [cond_false,e1,Option.bind_some,e2,Option.bind_some,e3,Option.bind_some,e4,Option.bind_some,e5,Option.bind_some]
    unfold userG
    dsimp only
    cases hc:(o1&&(o2&&(o3&&(o4&&o5)))) with
    | false=>exact bad
    | true=>
     simp only [Bool.and_eq_true] at hc
     obtain ⟨c1,c2,c3,c4,c5⟩:=hc
     obtain ⟨s1,s2,s3⟩:=k1 c1
     obtain ⟨d1,d2,d3⟩:=k2 c2
     obtain ⟨_,n2,n3⟩:=k3 c3
     obtain ⟨_,u2,u3⟩:=k4 c4
     obtain ⟨_,v2,v3⟩:=k5 c5
     rw [cond_true]
     cases h16:Nat.beq x.us.length 16 with
     | true=>exact ⟨_,_,rfl,by unfold Res;omega,fun e=>by cases e⟩
     | false=>
      have hne:x.us.length≠16:=fun e=>by rw [e] at h16;exact absurd h16 (by decide)
      have i1:List.isEmpty sa=false:=by cases sa with | nil=>simp at s2 | cons _ _=>rfl
      have i2:List.isEmpty di=false:=by cases di with | nil=>simp at d2 | cons _ _=>rfl
      have i3:isCnt up=true:=by unfold isCnt;rw [decide_eq_true u2,decide_eq_true u3];rfl
      have i4:isCnt dn=true:=by unfold isCnt;rw [decide_eq_true v2,decide_eq_true v3];rfl
      rw [cond_false,i1,i2,i3,i4]
      obtain ⟨m1,m2⟩:=named_true hq
      refine ⟨_,_,rfl,by unfold Res;omega,fun _=>⟨hx.lim,?_,fun u hu=>?_,fun i j u v hi hj huv=>?_⟩⟩
      ·show (x.us++[_]).length<=16
       have:=hx.few
       rw [List.length_append]
       show x.us.length+1<=16
       omega
      ·have hu:u∈x.us++[(a,(sa,di),n,(fl up,fl dn),[])]:=hu
       rcases List.mem_append.1 hu with hu | hu
       ·exact hx.each u hu
       ·rw [List.mem_singleton.1 hu]
        exact ⟨⟨hq,m1,m2,s1,⟨by show 1<=sa.length;omega,by show sa.length<=32;omega⟩,d1,by show di.length=32;omega,⟨n2,n3⟩⟩,⟨up,dn,⟨u2,u3⟩,⟨v2,v3⟩,rfl⟩,Nat.zero_le _,fun r hr=>by cases hr⟩
      ·have hi:(x.us++[(a,(sa,di),n,(fl up,fl dn),[])])[i]? = some u:=hi
       have hj:(x.us++[(a,(sa,di),n,(fl up,fl dn),[])])[j]? = some v:=hj
       have cls:∀ (i:Nat) (u:UserD),(x.us++[(a,(sa,di),n,(fl up,fl dn),[])])[i]? = some u->(x.us[i]? = some u /\ u.1≠a) \/ (i=x.us.length /\ u.1=a):=fun i u h=>by
        rcases Nat.lt_or_ge i x.us.length with hl | hl
        ·rw [List.getElem?_append_left hl] at h
         exact .inl ⟨h,hneg u (List.mem_of_getElem? h)⟩
        ·rw [List.getElem?_append_right hl] at h
         have:i - x.us.length=0:=by
          have:=(List.getElem?_eq_some_iff.1 h).1
          simp at this
          omega
         rw [this] at h
         injection h with h
         exact .inr ⟨by omega,by rw [<-h]⟩
       rcases cls i u hi with ⟨a1,a2⟩ | ⟨a1,a2⟩ <;> rcases cls j v hj with ⟨b1,b2⟩ | ⟨b1,b2⟩
       ·exact hx.uniq i j u v a1 b1 huv
       ·exact absurd (huv.trans b2) a2
       ·exact absurd (huv.symm.trans a2) b2
       ·omega
theorem rule_total {x:RSt} (hx:Good x) (al:Bool) (ws:List (List Int)) (hw:∀ w∈ws,w.length<=20000):∃ x' e,ruleP x al ws=some (x',e) /\ Res e /\ (e=0->Good x'):=by
  have bad:∃ x' e,some (x,(2:Int))=some (x',e) /\ Res e /\ (e=0->Good x'):=⟨x,2,rfl,by unfold Res;omega,fun e=>by cases e⟩
  match ws,hw with
  | [],_=>exact bad
  | [_],_=>exact bad
  | [_,_],_=>exact bad
  | _::_::_::_::_,_=>exact bad
  | [a,b,c],hw=>
    show ∃ x' e',cond (decide (usAt x.us a < 0)) (some (x,2)) ((F_conf_pattern b).bind fun p=>(F_conf_span c).bind fun sp=>ruleG x a al p sp)=some (x',e') /\ _
    cases hat:decide (usAt x.us a < 0) with
    | true=>exact bad
    | false=>
      obtain ⟨u,hu,hua⟩:=usAt_pos x.us a (by have:=of_decide_eq_false hat;omega)
      obtain ⟨k,h,ip,b',o1,e1,k1⟩:=pat_total b (hw b (by simp))
      obtain ⟨f,t,o2,e2,k2⟩:=span_total c (by have:=hw c (by simp);omega)
      rw [cond_false,e1,Option.bind_some,e2,Option.bind_some]
      unfold ruleG
      dsimp only
      cases hc:(o1&&o2) with
      | false=>exact bad
      | true=>
        simp only [Bool.and_eq_true] at hc
        have hp:=k1 hc.1
        have hs:=k2 hc.2
        rw [cond_true,hu]
        dsimp only
        have hgu:=hx.each u (List.mem_of_getElem? hu)
        cases h64:Nat.beq u.2.2.2.2.length 64 with
        | true=>exact ⟨_,_,rfl,by unfold Res;omega,fun e=>by cases e⟩
        | false=>
          have hne:u.2.2.2.2.length≠64:=fun e=>by rw [e] at h64;exact absurd h64 (by decide)
          have hle:=hgu.many
          rw [cond_false,Nat.ble_eq_true_of_le hle,cond_true]
          refine ⟨_,_,rfl,by unfold Res;omega,fun _=>⟨hx.lim,?_,fun v hv=>?_,fun i j v v' hi hj hvv=>?_⟩⟩
          · show (x.us.set _ _).length<=16
            rw [List.length_set];exact hx.few
          · rcases List.mem_or_eq_of_mem_set hv with hv | rfl
            · exact hx.each v hv
            · refine ⟨⟨hgu.ok.name,hgu.ok.nosp,hgu.ok.short,hgu.ok.salt,hgu.ok.saltl,hgu.ok.dig,hgu.ok.digl,hgu.ok.many⟩,hgu.cnt,?_,fun r hr=>?_⟩
              · show (u.2.2.2.2++[_]).length<=64
                rw [List.length_append]
                show u.2.2.2.2.length+1<=64
                omega
              · have hr:r∈u.2.2.2.2++[(al,k,h,(ip,b'),f,t)]:=hr
                rcases List.mem_append.1 hr with hr | hr
                · exact hgu.rules r hr
                · rw [List.mem_singleton.1 hr]
                  exact ⟨hp,hs.1,hs.2.1,hs.2.2⟩
          · have cls : ∀ (i : Nat) (v : UserD), (x.us.set (usAt x.us a).toNat (u.1, u.2.1, u.2.2.1, u.2.2.2.1, u.2.2.2.2 ++ [(al, k, h, (ip, b'), f, t)]))[i]? = some v -> ∃ v0, x.us[i]? = some v0 /\ v0.1 = v.1 := fun i v hv => by
              rw [List.getElem?_set] at hv
              split at hv
              · rename_i hi
                split at hv
                · injection hv with hv
                  refine ⟨u,by rw [<-hi];exact hu,by rw [<-hv]⟩
                · cases hv
              · exact ⟨v,hv,rfl⟩
            obtain ⟨w1,g1,g2⟩:=cls i v hi
            obtain ⟨w2,g3,g4⟩:=cls j v' hj
            exact hx.uniq i j w1 w2 g1 g3 (g2.trans (hvv.trans g4.symm))
theorem line_total {x:RSt} (hx:Good x) (s:List Int) (hs:s.length<=20000):∃ x' e,lineP x s=some (x',e) /\ Res e /\ (e=0->Good x'):=by
 unfold lineP
 rw [Nat.ble_eq_true_of_le (show s.length<=4000000000 by omega),Nat.ble_eq_true_of_le hx.few]
 rw [Bool.and_self,cond_true]
 have hwl:∀ w∈splitI s 32,w.length<=20000:=fun w hw=>Nat.le_trans (split_mem_len hw) hs
 cases hsp:splitI s 32 with
 | nil=>exact absurd hsp (splitI_ne _ _)
 | cons w0 ws=>
  rw [hsp] at hwl
  have hw:∀ w∈ws,w.length<=20000:=fun w hw=>hwl w (by simp [hw])
  have hw':∀ w∈ws,w.length<=100000:=fun w hw'=>by have:=hw w hw';omega
  show ∃ x' e,lineW x w0 ws=some (x',e) /\ _
  unfold lineW
  cases h1:w0==lbL with
  | true=>
   obtain ⟨x',ok,e,hk⟩:=limits_total hx ws hw'
   rw [cond_true,e]
   cases ok with
   | true=>exact ⟨_,_,rfl,by unfold Res;show (0:Int)<=0 /\ (0:Int) < 10;omega,fun _=>hk rfl⟩
   | false=>exact ⟨_,_,rfl,by unfold Res;show (0:Int)<=2 /\ (2:Int) < 10;omega,fun e=>by have e:(2:Int)=0:=e;omega⟩
  | false=>
  rw [cond_false]
  cases h2:w0==lbU with
  | true=>exact user_total hx ws hw'
  | false=>
  rw [cond_false]
  cases h3:w0==lbA with
  | true=>exact rule_total hx true ws hw
  | false=>
  rw [cond_false]
  cases h4:w0==lbD with
  | true=>exact rule_total hx false ws hw
  | false=>exact ⟨_,_,rfl,by unfold Res;omega,fun e=>by cases e⟩
theorem good_rst0:Good rst0:=by
 refine ⟨fun k hk=>?_,Nat.zero_le _,(fun u hu=>by cases hu),(fun i j u v hi=>by cases hi)⟩
 match k,hk with
 | 0,_ | 1,_ | 2,_ | 3,_ | 4,_ | 5,_ | 6,_=>decide
end Go.Proofs.YtgfmfgombmpodaaGreatDoor
namespace Go.Proofs.YtgfmfgombmpodaaGreatDoor
open Pv
set_option linter.unusedVariables false
theorem number_nn (z lo hi:Int) (h0:0<=z) (h2:z<=9223372036854775807):F_conf_number (dgs z.toNat) lo hi=some (z,decide (z >= lo)&&decide (z<=hi)):=by
 have h:=number_itoa z lo hi (by omega) h2
 obtain ⟨n,rfl⟩:=Int.eq_ofNat_of_zero_le h0
 exact h
end Go.Proofs.YtgfmfgombmpodaaGreatDoor
namespace Go.Proofs.YtgfmfgombmpodaaGreatDoor
open Pv Vc
set_option linter.unusedVariables false
theorem limHi_le (k:Nat) (hk:k < 7):0<=limLo k /\ limHi k<=1099511627776:=by
 match k,hk with
 | 0,_ | 1,_ | 2,_ | 3,_ | 4,_ | 5,_ | 6,_=>decide
theorem eqL_r (x:List Int):eqL x x=true:=beq_self_eq_true x
theorem bEq_rr (b:Bool):bEq b b=true:=by cases b <;> rfl
theorem feq_r {a:Int} (h:Cnt a):feq .f64 (fl a) (fl a)=true:=by
 unfold feq
 rw [fl_order h.abs h.abs]
 have:compare a a=.eq:=by simp
 rw [this];rfl
theorem few_spec (l:List (List Int)):∃ b,F_wlvlaw18_Few l=some b /\ (b=true->l.length<=300 /\ ∀ s∈l,s.length<=20000):=by
 have key:∀ m i:Nat,i+m=min l.length 300 -> ∀ n:Int,0<=n->n<=20001*(i:Int) -> ∃ n',loopC (F_wlvlaw18_Few_L4 l) (n,(i:Int))=some (.inr n') /\ n<=n' /\ (n'<=20000 -> ∀ j s,i<=j->j < min l.length 300->l[j]? = some s->s.length<=20000):=by
  intro m
  induction m with
  | zero=>
   intro i hi n h0 h1
   refine ⟨n,loop_inl ?_,Int.le_refl _,fun _ j s hj hjl=>by omega⟩
   unfold F_wlvlaw18_Few_L4
   dsimp only
   rw [show (decide ((i:Int) < (l.length:Int))&&decide ((i:Int) < 300))=false by
    rw [Bool.and_eq_false_iff]
    rcases Nat.lt_or_ge i l.length with h | h
    ·exact .inr (decide_eq_false (by omega))
    ·exact .inl (decide_eq_false (by omega)),cond_false]
  | succ m ih=>
   intro i hi n h0 h1
   have hget:l[i]? = some l[i]:=List.getElem?_eq_getElem (by omega)
   have hmin:minI (l[i].length:Int) 20001=((min l[i].length 20001:Nat):Int):=by
    unfold minI
    by_cases h:(20001:Int) < (l[i].length:Int)
    ·rw [decide_eq_true h,cond_true];omega
    ·rw [decide_eq_false h,cond_false];omega
   obtain ⟨n',g1,g2,g3⟩:=ih (i+1) (by omega) (n+((min l[i].length 20001:Nat):Int)) (by omega) (by omega)
   refine ⟨n',loop_inr ?_ g1,by omega,fun hn j s hj hjl hs=>?_⟩
   ·unfold F_wlvlaw18_Few_L4
    dsimp only
    rw [decide_eq_true (by omega),decide_eq_true (by omega),Bool.and_self,cond_true,getI_nat hget,Option.bind_some,hmin,wrap_in (by omega) (by omega),wrap_in (by omega) (by omega)]
    rfl
   ·rcases Nat.lt_or_ge i j with h | h
    ·exact g3 hn j s h hjl hs
    ·have e:j=i:=by omega
     subst e
     rw [hget] at hs
     injection hs with hs
     rw [<-hs]
     omega
 obtain ⟨n',h1,_,h3⟩:=key (min l.length 300) 0 (by omega) 0 (by omega) (by omega)
 have h1:loopC (F_wlvlaw18_Few_L4 l) (0,0)=some (.inr n'):=h1
 unfold F_wlvlaw18_Few
 rw [join_inr h1]
 unfold F_wlvlaw18_Few_J2
 refine ⟨_,rfl,fun hb=>?_⟩
 simp only [Bool.and_eq_true,decide_eq_true_eq] at hb
 refine ⟨by omega,fun s hs=>?_⟩
 obtain ⟨j,hj,rfl⟩:=List.mem_iff_getElem.1 hs
 exact h3 hb.2 j _ (Nat.zero_le _) (by omega) (List.getElem?_eq_getElem hj)
set_option maxHeartbeats 1000000
theorem conf_parse_eq {l:List (List Int)} {x:RSt} {e:Int} (hl:l.length<=1000000) (h:parseL l rst0=some (x,e)) (he:Res e):F_conf_Parse l=some (cond (decide (e=0)) (x.c0,x.c1,x.c2,x.c3,x.c4,x.c5,x.c6,x.us,0) (0,0,0,0,0,0,0,[],e)):=by
 unfold F_conf_Parse
 rw [Nat.ble_eq_true_of_le hl,cond_true,h,Option.bind_some]
 dsimp only
 cases hd:decide (e=0) with
 | true=>rfl
 | false=>
  have:=of_decide_eq_false hd
  rw [cond_false,decide_eq_true (show 0 < e by have:=he.1;omega),decide_eq_true he.2]
  rfl
end Go.Proofs.YtgfmfgombmpodaaGreatDoor
namespace Go.Proofs.YtgfmfgombmpodaaGreatDoor
open Pv
set_option linter.unusedVariables false
theorem rs_okc {c:Int}:okc c = !((decide (c < 97)||decide (c > 122))&&((decide (c < 65)||decide (c > 90))&&((((decide (c < 48)||decide (c > 57))&&(c != 46))&&(c != 95))&&(c != 45)))):=by
 unfold okc
 rw [Bool.eq_iff_iff]
 simp only [decide_eq_true_eq,Bool.not_eq_true',Bool.and_eq_false_iff,Bool.or_eq_false_iff,decide_eq_false_iff_not,bne_eq_false_iff_eq]
 omega
theorem rs_name_loop (s:List Int) (hs:s.length<=1000000):∀ (m i:Nat),i+m=s.length->loopC (F_wlvref18_name_L6 s) (i:Int)=some (cond ((s.drop i).all okc) (.inr ()) (.inl false)):=by
 intro m
 induction m with
 | zero=>
  intro i hi
  refine loop_inl ?_
  unfold F_wlvref18_name_L6
  rw [List.drop_eq_nil_of_le (by omega)]
  dsimp only
  rw [decide_eq_false (by omega)];rfl
 | succ m ih=>
  intro i hi
  have hc:s[i]? = some s[i]:=List.getElem?_eq_getElem (by omega)
  rw [List.drop_eq_getElem_cons (by omega:i < s.length),List.all_cons]
  generalize hx:s[i]=x at hc
  cases hk:okc x with
  | false=>
   rw [Bool.false_and]
   refine loop_inl ?_
   unfold F_wlvref18_name_L6
   dsimp only
   rw [decide_eq_true (by omega),cond_true,getI_nat hc,Option.bind_some]
   rw [rs_okc] at hk
   rw [Bool.not_eq_false',Bool.and_eq_true,Bool.and_eq_true] at hk
   obtain ⟨h1,h2,h3⟩:=hk
   rw [h1,cond_true,h2,cond_true,h3,cond_true,cond_false]
  | true=>
   rw [Bool.true_and]
   refine loop_inr (s':=((i+1:Nat):Int)) ?_ (ih (i+1) (by omega))
   unfold F_wlvref18_name_L6
   dsimp only
   rw [decide_eq_true (by omega),cond_true,getI_nat hc,Option.bind_some,wrap_in (by omega) (by omega)]
   rw [rs_okc] at hk
   have e:((i:Int)+1)=((i+1:Nat):Int):=by omega
   rw [e]
   cases h1:(decide (x < 97)||decide (x > 122)) with
   | false=>
    rw [cond_false,cond_false]
   | true=>
    rw [cond_true]
    cases h2:(decide (x < 65)||decide (x > 90)) with
    | false=>rw [cond_false]
    | true=>
     rw [h1,h2,Bool.true_and,Bool.true_and,Bool.not_eq_true'] at hk
     rw [cond_true,hk,cond_false]
theorem rs_name (s:List Int) (hs:s.length<=1000000):F_wlvref18_name s=F_conf_named s:=by
  unfold F_wlvref18_name F_conf_named
  by_cases h0:s=[]
  · subst h0;rfl
  · have hl : 1 <= s.length := by
      rcases Nat.eq_zero_or_pos s.length with h | h
      · exact absurd (List.eq_nil_of_length_eq_zero h) h0
      · exact h
    have he:List.isEmpty s=false:=by cases s with | nil=>exact absurd rfl h0 | cons _ _=>rfl
    rw [he]
    by_cases h64:s.length<=64
    · rw [show (decide ((s.length:Int) < 1)||decide ((s.length:Int) > 64))=false by rw [decide_eq_false (by omega),decide_eq_false (by omega)];rfl,cond_false,Nat.ble_eq_true_of_le h64]
      have h:=rs_name_loop s hs s.length 0 (by omega)
      rw [List.drop_zero] at h
      rw [show loopC (F_wlvref18_name_L6 s) (0:Int)=_ from h]
      cases s.all okc <;> rfl
    · rw [show (decide ((s.length:Int) < 1)||decide ((s.length:Int) > 64))=true by rw [decide_eq_true (show (s.length:Int) > 64 by omega),Bool.or_true],cond_true,show Nat.ble s.length 64=false from Bool.eq_false_iff.2 fun h=>h64 (Nat.le_of_ble_eq_true h)]
      rfl
theorem rs_num (s:List Int) (lo hi:Int) (hs:s.length<=1000000) (h0:0<=lo) (hh:hi<=9999999999999999) :
  ∃ n m ok,F_wlvref_Num s lo hi=some (m,ok) /\ F_conf_number s lo hi=some (n,ok) /\ (ok=true->m=n /\ lo<=n /\ n<=hi /\ itoaI n=s):=by
 obtain ⟨x,e1,e2⟩:=Num_eq s lo hi
 obtain ⟨n,ok,f1,f2⟩:=number_total s lo hi hs
 cases hk:(canonB s&&decide (s.length<=17)&&(decide (lo<=valI s)&&decide (valI s<=hi))) with
 | true=>
  rw [hk] at e1
  simp only [Bool.and_eq_true,decide_eq_true_eq] at hk
  obtain ⟨⟨c1,c2⟩,c3,c4⟩:=hk
  have hx:=e2 c1 c2
  obtain ⟨k,rfl,hv⟩:=canon_eq _ s rfl c1
  rw [hv] at c3 c4 hx
  have hn:=number_nn (k:Int) lo hi (by omega) (by omega)
  rw [Int.toNat_natCast] at hn
  rw [decide_eq_true (show (k:Int) >= lo from c3),decide_eq_true c4] at hn
  exact ⟨k,x,true,e1,hn,fun _=>⟨hx,c3,c4,itoa_dgs k⟩⟩
 | false=>
  rw [hk] at e1
  cases ok with
  | false=>exact ⟨n,x,false,e1,f1,fun e=>by cases e⟩
  | true=>
   exfalso
   obtain ⟨g1,g2,g3⟩:=f2 rfl
   obtain ⟨k,rfl⟩:∃ k:Nat,n=(k:Int):=⟨n.toNat,by omega⟩
   rw [itoa_dgs] at g1
   subst g1
   have hv:=dgs_val (x:=(k:Int)) (by omega)
   rw [Int.toNat_natCast] at hv
   rw [canon_dgs,hv,decide_eq_true (dgs_len 16 k (by omega)),decide_eq_true g2,decide_eq_true g3] at hk
   cases hk
def rsHex:List Int:=[48,49,50,51,52,53,54,55,56,57,97,98,99,100,101,102]
def rsDig (c:Int):Int:=match rsHex.findIdx? (fun x=>x==c) with | some j=>(j:Int) | none=>-1
theorem rs_digit_loop (c:Int):∀ (m i:Nat),i+m=16->loopC (F_wlvref18_digit_L3 c) (i:Int)=some (match (rsHex.drop i).findIdx? (fun x=>x==c) with | some j=>.inl ((i+j:Nat):Int) | none=>.inr ()):=by
 intro m
 induction m with
 | zero=>
  intro i hi
  refine loop_inl ?_
  unfold F_wlvref18_digit_L3
  rw [List.drop_eq_nil_of_le (by show 16<=i;omega)]
  dsimp only
  rw [decide_eq_false (by omega)];rfl
 | succ m ih=>
  intro i hi
  have hl:i < rsHex.length:=by show i < 16;omega
  have hc:rsHex[i]? = some rsHex[i]:=List.getElem?_eq_getElem hl
  rw [List.drop_eq_getElem_cons hl,List.findIdx?_cons]
  generalize hx:rsHex[i]=x at hc
  have hb:F_wlvref18_digit_L3 c (i:Int)=cond (x==c) (some (.inl (.inl (i:Int)))) (some (.inr ((i+1:Nat):Int))):=by
   unfold F_wlvref18_digit_L3
   dsimp only
   rw [decide_eq_true (by omega),cond_true,show getI ([48,49,50,51,52,53,54,55,56,57,97,98,99,100,101,102]:List Int) (i:Int)=some x from getI_nat hc,Option.bind_some,wrap_in (by omega) (by omega)]
   rfl
  cases hq:x==c with
  | true=>
   refine loop_inl ?_
   rw [hb,hq];rfl
  | false=>
   rw [hq] at hb
   refine loop_inr (s':=((i+1:Nat):Int)) hb ?_
   rw [ih (i+1) (by omega)]
   show some (match (rsHex.drop (i+1)).findIdx? (fun x=>x==c) with | some j=>_ | none=>_)=some (match (Option.map (fun i=>i+1) ((rsHex.drop (i+1)).findIdx? (fun x=>x==c))) with | some j=>_ | none=>_)
   cases (rsHex.drop (i+1)).findIdx? (fun x=>x==c) with
   | none=>rfl
   | some j=>
    show some (Sum.inl _)=some (Sum.inl _)
    rw [show i+1+j=i+(j+1) by omega]
theorem rs_digit (c:Int):F_wlvref18_digit c=some (rsDig c):=by
 have h:=rs_digit_loop c 16 0 rfl
 unfold F_wlvref18_digit
 rw [show loopC (F_wlvref18_digit_L3 c) (0:Int)=_ from h]
 unfold rsDig
 rw [List.drop_zero]
 cases rsHex.findIdx? (fun x=>x==c) with
 | none=>rfl
 | some j=>show some _=some _;rw [Nat.zero_add]
theorem rs_dig_lt {c:Int} (h:¬ rsDig c < 0):∃ j:Fin 16,rsDig c=(j.val:Int) /\ c=rsHex[j.val]'j.isLt:=by
 unfold rsDig at h ⊢
 cases hq:rsHex.findIdx? (fun x=>x==c) with
 | none=>rw [hq] at h;exact absurd (show (-1:Int) < 0 by decide) h
 | some j=>
  obtain ⟨h1,h2,_⟩:=List.findIdx?_eq_some_iff_getElem.1 hq
  exact ⟨⟨j,h1⟩,rfl,(eq_of_beq h2).symm⟩
theorem rs_pair:∀ a b:Fin 16,hx2 (IntKind.u8.wrap (IntKind.i64.wrap (IntKind.i64.wrap (16*(a.val:Int))+(b.val:Int))))=[rsHex[a.val]'a.isLt,rsHex[b.val]'b.isLt]:=by decide +kernel
theorem rs_hx2:∀ q:Fin 256,∃ a b:Fin 16,hx2 (q.val:Int)=[rsHex[a.val]'a.isLt,rsHex[b.val]'b.isLt] /\ rsDig (rsHex[a.val]'a.isLt)=(a.val:Int) /\ rsDig (rsHex[b.val]'b.isLt)=(b.val:Int) /\ IntKind.u8.wrap (IntKind.i64.wrap (IntKind.i64.wrap (16*(a.val:Int))+(b.val:Int)))=(q.val:Int):=by decide +kernel
def unhexL:List Int->Option (List Int)
 | []=>some []
 | [_]=>none
 | a::b::r=>cond (decide (rsDig a < 0)||decide (rsDig b < 0)) none ((unhexL r).map fun l=>IntKind.u8.wrap (IntKind.i64.wrap (IntKind.i64.wrap (16*rsDig a)+rsDig b))::l)
theorem unhex_some:∀ {s l:List Int},unhexL s=some l->s=hexT l /\ ∀ x∈l,0<=x /\ x < 256
 | [],l,h=>by
  injection h with h
  subst h
  exact ⟨rfl,fun x hx=>by cases hx⟩
 | [_],l,h=>by cases h
 | a::b::r,l,h=>by
  unfold unhexL at h
  cases hd:(decide (rsDig a < 0)||decide (rsDig b < 0)) with
  | true=>rw [hd] at h;cases h
  | false=>
   rw [hd,cond_false,Option.map_eq_some_iff] at h
   obtain ⟨l',h1,rfl⟩:=h
   rw [Bool.or_eq_false_iff,decide_eq_false_iff_not,decide_eq_false_iff_not] at hd
   obtain ⟨i,hi,rfl⟩:=rs_dig_lt hd.1
   obtain ⟨j,hj,rfl⟩:=rs_dig_lt hd.2
   obtain ⟨h2,h3⟩:=unhex_some h1
   rw [hi,hj,hexT_cons,rs_pair,<- h2]
   refine ⟨rfl,fun x hx=>?_⟩
   rcases List.mem_cons.1 hx with rfl | hx
   ·exact u8_byte _
   ·exact h3 x hx
theorem unhex_hexT:∀ {l:List Int},(∀ x∈l,0<=x /\ x < 256)->unhexL (hexT l)=some l
 | [],_=>rfl
 | x::l,h=>by
  have hx:=h x (by simp)
  obtain ⟨a,b,h1,h2,h3,h4⟩:=rs_hx2 ⟨x.toNat,by omega⟩
  simp only [show ((x.toNat:Nat):Int)=x by omega] at h1 h4
  rw [hexT_cons,h1]
  show cond (decide (rsDig (rsHex[a.val]'a.isLt) < 0)||decide (rsDig (rsHex[b.val]'b.isLt) < 0)) none ((unhexL (hexT l)).map fun l=>IntKind.u8.wrap (IntKind.i64.wrap (IntKind.i64.wrap (16*rsDig (rsHex[a.val]'a.isLt))+rsDig (rsHex[b.val]'b.isLt)))::l)=_
  rw [h2,h3,h4,decide_eq_false (by omega),decide_eq_false (by omega),unhex_hexT fun y hy=>h y (by simp [hy])]
  rfl
theorem rs_unhex_loop (s:List Int) (hs:s.length<=100000):∀ (m:Nat) (r acc:List Int),r.length=2*m->s.drop (2*acc.length)=r->2*acc.length+r.length=s.length->loopC (F_wlvref18_unhex_L7 s) (acc,((2*acc.length:Nat):Int))=some (match unhexL r with | some l=>.inr (acc++l) | none=>.inl ([],false)):=by
 intro m
 induction m with
 | zero=>
  intro r acc hr hd hl
  have:r=[]:=List.eq_nil_of_length_eq_zero hr
  subst this
  refine loop_inl ?_
  unfold F_wlvref18_unhex_L7
  dsimp only
  rw [decide_eq_false (by rw [<-hl];simp)]
  show _=some (Sum.inl (Sum.inr (acc++[])))
  rw [List.append_nil];rfl
 | succ m ih=>
  intro r acc hr hd hl
  match r,hr,hd,hl with
  | a::b::r,hr,hd,hl=>
  simp only [List.length_cons] at hr hl
  have ha:s[2*acc.length]? = some a:=by
   have:=congrArg (fun z=>z[0]?) hd
   simpa [List.getElem?_drop] using this
  have hb:s[2*acc.length+1]? = some b:=by
   have:=congrArg (fun z=>z[1]?) hd
   simpa [List.getElem?_drop] using this
  have hbody:F_wlvref18_unhex_L7 s (acc,((2*acc.length:Nat):Int))=cond (decide (rsDig a < 0)||decide (rsDig b < 0)) (some (.inl (.inl (([]:List Int),false)))) (some (.inr (acc++[IntKind.u8.wrap (IntKind.i64.wrap (IntKind.i64.wrap (16*rsDig a)+rsDig b))],((2*(acc.length+1):Nat):Int)))):=by
   have hm:maxLen=9223372036854775807:=rfl
   unfold F_wlvref18_unhex_L7
   dsimp only
   rw [decide_eq_true (by omega),cond_true,getI_nat ha,Option.bind_some,rs_digit,Option.bind_some,wrap_in (by omega) (by omega),show ((2*acc.length:Nat):Int)+1=((2*acc.length+1:Nat):Int) by omega,getI_nat hb,Option.bind_some,rs_digit,Option.bind_some]
   unfold chk
   have e1:decide ((acc.length+[IntKind.u8.wrap (IntKind.i64.wrap (IntKind.i64.wrap (16*rsDig a)+rsDig b))].length)*1<=140737488355328)=true:=decide_eq_true (by show (acc.length+1)*1<=_;omega)
   have e2:decide (acc.length+[IntKind.u8.wrap (IntKind.i64.wrap (IntKind.i64.wrap (16*rsDig a)+rsDig b))].length<=maxLen)=true:=decide_eq_true (by show acc.length+1<=_;omega)
   rw [e1,e2,Bool.and_self,cond_true,show IntKind.i64.wrap (((2*acc.length:Nat):Int)+2)=((2*acc.length:Nat):Int)+2 from wrap_in (by omega) (by omega),show ((2*acc.length:Nat):Int)+2=((2*(acc.length+1):Nat):Int) by omega]
  unfold unhexL
  cases hq:(decide (rsDig a < 0)||decide (rsDig b < 0)) with
  | true=>
   rw [hq] at hbody
   exact loop_inl hbody
  | false=>
   rw [hq,cond_false] at hbody
   refine loop_inr hbody ?_
   have h:=ih r (acc++[IntKind.u8.wrap (IntKind.i64.wrap (IntKind.i64.wrap (16*rsDig a)+rsDig b))]) (by omega) (by
    rw [List.length_append,show 2*(acc.length+[IntKind.u8.wrap (IntKind.i64.wrap (IntKind.i64.wrap (16*rsDig a)+rsDig b))].length)=2*acc.length+2 by simp;omega,<- List.drop_drop,hd];rfl) (by simp;omega)
   rw [List.length_append] at h
   rw [show loopC (F_wlvref18_unhex_L7 s) (acc++[IntKind.u8.wrap (IntKind.i64.wrap (IntKind.i64.wrap (16*rsDig a)+rsDig b))],((2*(acc.length+1):Nat):Int))=_ from h]
   cases unhexL r with
   | none=>rfl
   | some l=>show some (Sum.inr _)=some (Sum.inr _);rw [List.append_assoc];rfl
theorem unhexL_odd:∀ {s:List Int},s.length % 2=1->unhexL s=none
 | [],h=>by cases h
 | [_],_=>rfl
 | a::b::r,h=>by
  simp only [List.length_cons] at h
  unfold unhexL
  rw [unhexL_odd (s:=r) (by omega)]
  cases (decide (rsDig a < 0)||decide (rsDig b < 0)) <;> rfl
theorem rs_unhex (s:List Int) (hs:s.length<=100000):F_wlvref18_unhex s=some (match unhexL s with | some l=>(l,true) | none=>([],false)):=by
  unfold F_wlvref18_unhex
  by_cases h2:s.length % 2=0
  · have h:=rs_unhex_loop s hs (s.length / 2) s [] (by omega) rfl (by simp)
    rw [show (Int.tmod (s.length:Int) 2 != 0)=false by
      rw [bne_eq_false_iff_eq,Int.tmod_eq_emod_of_nonneg (by omega)];omega,cond_false,show loopC (F_wlvref18_unhex_L7 s) (([]:List Int),0)=_ from h]
    cases unhexL s <;> rfl
  · rw [show (Int.tmod (s.length : Int) 2 != 0) = true by
      rw [bne_iff_ne,Int.tmod_eq_emod_of_nonneg (by omega)];omega,cond_true,unhexL_odd (by omega)]
theorem bytes_is {s:List Int} {lo hi:Int} (hs:s.length<=100000) {l:List Int} (h:F_conf_bytesOf s lo hi=some (l,true)):s=hexT l /\ ∀ x∈l,0<=x /\ x < 256:=by
 obtain ⟨r,h1,h2⟩:=bytes_run_total s hs s.length [] (by simp) (by simp) (fun x hx=>by cases hx)
 unfold F_conf_bytesOf at h
 rw [show loopC (F_conf_bytesOf_L4 s) (([]:List Int),0)=some r from h1] at h
 rcases h2 with rfl | ⟨l',rfl,hl,hb⟩
 ·cases h
 ·have h:F_conf_bytesOf_J2 s lo hi l'=some (l,true):=h
  unfold F_conf_bytesOf_J2 at h
  dsimp only at h
  rw [chex_eq (by omega),Option.bind_some] at h
  injection h with h
  obtain ⟨rfl,hz⟩:=Prod.mk.inj h
  rw [Bool.and_eq_true,Bool.and_eq_true] at hz
  exact ⟨(eq_of_beq hz.1.1).symm,hb⟩
theorem rs_bytes (s:List Int) (lo hi:Int) (hs:s.length<=100000):∃ l l' ok ok',F_wlvref18_unhex s=some (l',ok') /\ F_conf_bytesOf s lo hi=some (l,ok) /\ ok=(ok'&&decide (lo<=(l'.length:Int))&&decide ((l'.length:Int)<=hi)) /\ (ok=true->l'=l):=by
 rw [rs_unhex s hs]
 cases hu:unhexL s with
 | some l'=>
  obtain ⟨rfl,hb⟩:=unhex_some hu
  rw [hexT_ln] at hs
  exact ⟨l',l',_,true,rfl,bytesOf_hex hb (by omega) lo hi,rfl,fun _=>rfl⟩
 | none=>
  obtain ⟨l,ok,h1,_⟩:=bytes_total s lo hi hs
  refine ⟨l,[],ok,false,rfl,h1,?_,fun e=>?_⟩
  ·cases ok with
   | false=>rfl
   | true=>
    obtain ⟨h2,h3⟩:=bytes_is hs h1
    rw [h2,unhex_hexT h3] at hu
    cases hu
  ·subst e
   obtain ⟨h2,h3⟩:=bytes_is hs h1
   rw [h2,unhex_hexT h3] at hu
   cases hu
theorem rs_form1 (s:List Int) (hs:s.length<=1000000):∃ v c,∀ lo hi,F_conf_number s lo hi=some (v,(c&&decide (v >= lo))&&decide (v<=hi)):=by
 refine ⟨(atoiP s).1,cond (notB (atoiP s).2) (itoaI (atoiP s).1==s) false,fun lo hi=>?_⟩
 unfold F_conf_number F_strconv_Atoi
 rw [Nat.ble_eq_true_of_le (by omega),cond_true,Option.bind_some]
 cases notB (atoiP s).2 <;> rfl
theorem rs_ports (s:List Int) (hs:s.length<=100000):∃ f t ok f' t',F_conf_span s=some (f,t,ok) /\ F_wlvref18_ports s=some (f',t',ok) /\ (ok=true->f'=f /\ t'=t):=by
 cases h42:s==([42]:List Int) with
 | true=>
  have:=eq_of_beq h42
  subst this
  exact ⟨1,65535,true,1,65535,rfl,rfl,fun _=>⟨rfl,rfl⟩⟩
 | false=>
  rcases first_cut 45 s with h | ⟨h,t,rfl,hn⟩
  ·obtain ⟨n,m,ok,e1,e2,e3⟩:=rs_num s 1 65535 (by omega) (by omega) (by omega)
   have A:F_conf_span s=some (n,n,(ok&&ok)&&decide (n<=n)):=by
    unfold F_conf_span
    rw [h42,cond_false,cutZ_none s 45 h,Option.bind_some]
    dsimp only
    rw [Bool.not_false,cond_true,e2,Option.bind_some,Option.bind_some]
   have B:F_wlvref18_ports s=some (m,m,ok):=by
    unfold F_wlvref18_ports
    rw [h42,cond_false,Split_eq s 45 (by omega),Option.bind_some,splitI_miss h,show getI ([s]:List (List Int)) 0=some s from rfl,Option.bind_some,e1,Option.bind_some]
    rfl
   exact ⟨n,n,ok,m,m,by rw [A,decide_eq_true (Int.le_refl n),Bool.and_true,Bool.and_self],B,fun h=>⟨(e3 h).1,(e3 h).1⟩⟩
  ·have hlen:(h++45::t).length=h.length+(t.length+1):=by rw [List.length_append,List.length_cons]
   obtain ⟨n,m,ok,e1,e2,e3⟩:=rs_num h 1 65535 (by omega) (by omega) (by omega)
   obtain ⟨v,c,hv⟩:=rs_form1 t (by omega)
   have A:F_conf_span (h++45::t)=some (n,v,(ok&&((c&&decide (v >= 1))&&decide (v<=65535)))&&decide (n<=v)):=by
    unfold F_conf_span
    rw [h42,cond_false,Cut_at h t 45 hn (by omega),Option.bind_some]
    dsimp only
    rw [Bool.not_true,cond_false,e2,Option.bind_some,hv,Option.bind_some]
   have B:∀ x r m2 o2,splitI t 45=x::r->F_wlvref_Num x m 65535=some (m2,o2)->F_wlvref18_ports (h++45::t)=some (m,m2,(ok&&o2)&&((((h::x::r:List (List Int)).length:Nat):Int)==2)):=fun x r m2 o2 hx ho=>by
    unfold F_wlvref18_ports
    rw [h42,cond_false,Split_eq _ 45 (by omega),Option.bind_some,splitI_hit hn,hx,show getI (h::x::r:List (List Int)) 0=some h from rfl,Option.bind_some,e1,Option.bind_some]
    rw [show ((((h::x::r:List (List Int)).length:Nat):Int)==1)=false from beq_eq_false_iff_ne.2 (by simp only [List.length_cons];omega),cond_false,show getI (h::x::r:List (List Int)) 1=some x from rfl,Option.bind_some]
    dsimp only
    rw [ho,Option.bind_some]
   rcases first_cut 45 t with h2 | ⟨h2,t2,rfl,hn2⟩
   ·cases ok with
    | false=>
     obtain ⟨m2,ho,_⟩:=Num_eq t m 65535
     exact ⟨n,v,false,m,m2,A,B t [] m2 _ (splitI_miss h2) ho,fun e=>by cases e⟩
    | true=>
     obtain ⟨rfl,g1,g2,_⟩:=e3 rfl
     obtain ⟨n2,m2,ok2,k1,k2,k3⟩:=rs_num t m 65535 (by omega) (by omega) (by omega)
     rw [hv] at k2
     injection k2 with k2
     obtain ⟨rfl,k5⟩:=Prod.mk.inj k2
     have hok:((true&&((c&&decide (v >= 1))&&decide (v<=65535)))&&decide (m<=v))=ok2:=by
      rw [<-k5]
      cases c with
      | false=>rfl
      | true=>
       rw [Bool.eq_iff_iff]
       simp only [Bool.true_and,Bool.and_eq_true,decide_eq_true_eq]
       omega
     refine ⟨m,v,ok2,m,m2,by rw [A,hok],?_,fun e=>⟨rfl,(k3 e).1⟩⟩
     rw [B t [] m2 ok2 (splitI_miss h2) k1]
     cases ok2 <;> rfl
   ·have hl2:(h2++45::t2).length=h2.length+(t2.length+1):=by rw [List.length_append,List.length_cons]
    obtain ⟨m2,ho,_⟩:=Num_eq h2 m 65535
    have hs2:splitI (h2++45::t2) 45=h2::splitI t2 45:=splitI_hit hn2
    have hne:1<=(splitI t2 45).length:=by
     cases hq:splitI t2 45 with
     | nil=>exact absurd hq (splitI_ne _ _)
     | cons _ _=>simp
    have hz:((c&&decide (v >= 1))&&decide (v<=65535))=false:=by
     cases hq:((c&&decide (v >= 1))&&decide (v<=65535)) with
     | false=>rfl
     | true=>
      exfalso
      obtain ⟨n3,ok3,q1,q2⟩:=number_total (h2++45::t2) 1 65535 (by omega)
      rw [hv] at q1
      injection q1 with q1
      obtain ⟨rfl,q6⟩:=Prod.mk.inj q1
      rw [hq] at q6
      obtain ⟨q3,q4,q5⟩:=q2 q6.symm
      have:=itoa_dig (z:=v) (by omega) 45 (by rw [q3];simp)
      omega
    refine ⟨n,v,false,m,m2,by rw [A,hz,Bool.and_false,Bool.false_and],?_,fun e=>by cases e⟩
    rw [B _ _ m2 _ hs2 ho,show ((((h::h2::splitI t2 45:List (List Int)).length:Nat):Int)==2)=false from beq_eq_false_iff_ne.2 (by simp only [List.length_cons];omega),Bool.and_false]
theorem rs_net (s:List Int) (hs:s.length<=1000000):F_wlvref15_ParseNet s=F_addr_ParseNet s:=by
 rcases first_cut 47 s with h | ⟨h,t,rfl,hn⟩
 ·rw [refNet_none s h hs,ParseNet_none s h hs]
 ·rw [refNet_at h t hn hs,ParseNet_at h t hn hs]
theorem splitI_head {x c:Int} {s:List Int} (h:x≠c):∃ w r,splitI (x::s) c=(x::w)::r:=by
 unfold splitI
 rw [beq_eq_false_iff_ne.2 h,cond_false]
 cases splitI s c with
 | nil=>exact ⟨[],[],rfl⟩
 | cons w r=>exact ⟨w,r,rfl⟩
theorem hex_46 (w:List Int):hexGB (46::w)=false:=by
 unfold hexGB
 rw [List.all_cons,show decide (0<=dg 46)=false from rfl,Bool.false_and,Bool.and_false]
theorem parse_46 (r:List Int):(parseR (46::r)).2≠0:=by
 have h4:(fourR (46::r)).2=false:=by
  unfold fourR
  rw [show splitI (46::r) 46=[]::splitI r 46 from rfl,List.all_cons,show byteB []=false from rfl,Bool.false_and,Bool.and_false]
  rfl
 have hg:grpR [] (46::r)=none:=by
  unfold grpR
  cases hd:dcI (46::r) with
  | none=>
   obtain ⟨w,r',e⟩:=splitI_head (x:=46) (c:=58) (s:=r) (by decide)
   dsimp only
   rw [e,List.all_cons,hex_46];rfl
  | some i=>
   dsimp only
   cases i with
   | zero=>
    exfalso
    cases r with
    | nil=>cases hd
    | cons y r=>
     have hd:cond ((46:Int)==58&&y==58) (some 0) ((dcI (y::r)).map (· + 1))=some 0:=hd
     rw [show ((46:Int)==58)=false from rfl,Bool.false_and,cond_false,Option.map_eq_some_iff] at hd
     obtain ⟨j,_,hj⟩:=hd
     omega
   | succ i=>
    obtain ⟨w,r',e⟩:=splitI_head (x:=46) (c:=58) (s:=r.take i) (by decide)
    rw [show (46::r).take (i+1)=46::r.take i from rfl,partsO_ne (by intro e;cases e),e,List.all_cons,hex_46];rfl
 unfold parseR
 rw [h4,hg]
 show (2:Int)≠0
 decide
theorem net_46 (r:List Int) (hr:r.length<=100000):F_addr_ParseNet (46::r)=some ([],0,2):=by
  rcases first_cut 47 r with h | ⟨h,t,rfl,hn⟩
  · rw [ParseNet_none (46 :: r) (fun x hx => by
      rcases List.mem_cons.1 hx with rfl | hx
      · decide
      · exact h x hx) (by rw [List.length_cons];omega),netR_no (parse_46 r)]
  · rw [show 46 :: (h ++ 47 :: t) = (46 :: h) ++ 47 :: t from rfl, ParseNet_at (46 :: h) t (fun x hx => by
      rcases List.mem_cons.1 hx with rfl | hx
      · decide
      · exact hn x hx) (by rw [List.length_append,List.length_cons] at hr;rw [List.length_append,List.length_cons,List.length_cons];omega),netR_no (parse_46 h)]
theorem rs_pat (s:List Int) (hs:s.length<=20000):∃ k h ip b ok nt hn,F_conf_pattern s=some (false,k,h,ip,b,0,0,ok) /\ F_wlvref15_ParseNet s=some nt /\ F_wlvref15_Name s=some hn /\ rpatG s nt hn=some (cond ok (some (k,h,ip,b)) none):=by
  have hnm:∀ s:List Int,s.length<=20000->F_wlvref15_Name s=some (nameR s):=fun s hs=>by rw [refName_eq s (by omega),nameR_eq]
  rw [rs_net s (by omega),hnm s hs]
  obtain ⟨ip,b,e,hn,_,_⟩:=net_total s (by omega)
  rw [hn]
  cases h42:s==([42]:List Int) with
  | true=>
    have:=eq_of_beq h42
    subst this
    exact ⟨0,[],[],0,true,_,_,rfl,rfl,rfl,rfl⟩
  | false=>
    have tailE : ∃ k h ip' b' ok, ((F_addr_ParseNet s).bind fun x4 => cond (x4.2.2 == 0) (some ((false, 3, ([] : List Int), x4.1, x4.2.1, 0, 0, true) : Bool × Int × List Int × List Int × Int × Int × Int × Bool)) ((F_host_Name s).bind fun x5 => some (false, 1, x5.1, ([] : List Int), 0, 0, 0, (x5.2 == 0)))) = some (false, k, h, ip', b', 0, 0, ok) /\
        cond (e==0) (some (some ((3,[],ip,b):PatR))) (cond ((nameR s).2==0) (some (some (1,(nameR s).1,[],0))) (some none))=some (cond ok (some (k,h,ip',b')) none):=by
      rw [hn,Option.bind_some]
      dsimp only
      cases he:e==0 with
      | true=>exact ⟨_,_,_,_,_,rfl,rfl⟩
      | false=>
        rw [cond_false,cond_false,name_eq,Option.bind_some]
        refine ⟨_,_,_,_,_,rfl,?_⟩
        cases (nameR s).2==0 <;> rfl
    unfold F_conf_pattern
    rw [h42,cond_false,cutp_eq s (by omega),Option.bind_some]
    cases hcp:(cutP s).2 with
    | false=>
      obtain ⟨k,h,ip',b',ok,t1,t2⟩:=tailE
      rw [cond_false]
      refine ⟨k,h,ip',b',ok,_,_,t1,rfl,rfl,?_⟩
      unfold rpatG
      rw [h42,cond_false]
      have hh:(s.headD 0==46)=false:=by
        cases s with
        | nil=>rfl
        | cons c r=>
          show (c==46)=false
          cases hc:c==46 with
          | false=>rfl
          | true=>
            have hcp:(cond (c==46) (r,true) (c::r,false)).2=false:=hcp
            rw [hc] at hcp
            cases hcp
      rw [hh,Bool.and_false,cond_false]
      exact t2
    | true=>
      obtain ⟨r,rfl⟩:∃ r,s=46::r:=by
        match s,hcp with
        | c::r,hcp=>
          cases hc:c==46 with
          | true=>exact ⟨r,by rw [eq_of_beq hc]⟩
          | false=>
            have hcp:(cond (c==46) (r,true) (c::r,false)).2=true:=hcp
            rw [hc] at hcp
            cases hcp
      rw [List.length_cons] at hs
      have h46:=net_46 r (by omega)
      rw [h46] at hn
      injection hn with hn
      obtain ⟨rfl,hn7⟩:=Prod.mk.inj hn
      obtain ⟨rfl,rfl⟩:=Prod.mk.inj hn7
      have hn46:=name_46 r
      rw [cond_true,show (cutP (46::r)).1=r from rfl,name_eq,Option.bind_some,h46,name_eq,hn46]
      cases h2:(nameR r).2==0 with
      | false=>
        refine ⟨1,[],[],0,false,_,_,rfl,rfl,rfl,?_⟩
        unfold rpatG
        rw [h42,cond_false]
        cases hz:(Nat.ble 2 (46::r:List Int).length&&((46::r:List Int).headD 0==46)) with
        | false=>rfl
        | true=>
          rw [cond_true,show (46::r:List Int).drop 1=r from rfl,hnm r (by omega),Option.bind_some,h2]
          rfl
      | true=>
        obtain ⟨f1,f2⟩:=name_fix (eq_of_beq h2)
        have hl:=(name_chars f2).2.2
        have hne:=(name_chars f2).2.1
        have hm:maxLen=9223372036854775807:=rfl
        rw [cond_true]
        unfold chk
        rw [f1]
        rw [Nat.ble_eq_true_of_le (by show 1+(r.map lw).length<=maxLen;omega),cond_true]
        refine ⟨_,_,_,_,_,_,_,rfl,rfl,rfl,?_⟩
        unfold rpatG
        rw [h42,cond_false]
        have hz:(Nat.ble 2 (46::r:List Int).length&&((46::r:List Int).headD 0==46))=true:=by
          cases r with
          | nil=>exact absurd rfl hne
          | cons y r=>rw [Nat.ble_eq_true_of_le (by simp only [List.length_cons];omega)];rfl
        rw [hz,cond_true,show (46::r:List Int).drop 1=r from rfl,hnm r (by omega),Option.bind_some,h2,cond_true,f1]
        dsimp only
        rw [Nat.ble_eq_true_of_le (by omega),cond_true]
        rfl
end Go.Proofs.YtgfmfgombmpodaaGreatDoor
namespace Go.Proofs.YtgfmfgombmpodaaGreatDoor
open Pv Vc
set_option linter.unusedVariables false
structure Sim (x:RSt) (y:RfSt):Prop where
 us:y.us=x.us
 n:∀ k,k < 7->y.n.getD k 0=x.lim k
 set:∀ k,k < 7->y.set.getD k false=x.told.contains (bytesL (limW k))
 nl:y.n.length=7
 sl:y.set.length=7
theorem sim_0:Sim rst0 rfst0:=by
 refine ⟨rfl,fun k hk=>?_,fun k hk=>?_,rfl,rfl⟩
 ·match k,hk with
  | 0,_=>rfl
  | 1,_=>rfl
  | 2,_=>rfl
  | 3,_=>rfl
  | 4,_=>rfl
  | 5,_=>rfl
  | 6,_=>rfl
 ·match k,hk with
  | 0,_=>rfl
  | 1,_=>rfl
  | 2,_=>rfl
  | 3,_=>rfl
  | 4,_=>rfl
  | 5,_=>rfl
  | 6,_=>rfl
theorem limAt_is {a:List Int} {k:Nat} (h:limAt a=some k):bytesL (limW k)=a:=by
 unfold limAt at h
 have:=List.find?_some h
 exact eq_of_beq this
theorem limW_inj:∀ i j:Fin 7,bytesL (limW i.val)=bytesL (limW j.val)->i=j:=by decide +kernel
theorem rs_lo:∀ k:Fin 7,rfLo k.val=limLo k.val /\ rfMost.getD k.val 0=limHi k.val:=by decide +kernel
theorem rs_lim {x:RSt} {y:RfSt} (h:Sim x y) (w:List Int) (ws:List (List Int)) (hw:∀ w∈ws,w.length<=100000):∃ x' y' ok,limitsP x ws=some (x',ok) /\ rlimitP y (w::ws)=some (y',ok) /\ (ok=true->Sim x' y'):=by
 match ws,hw with
 | [],_=>exact ⟨_,_,_,rfl,rfl,fun e=>by cases e⟩
 | [_],_=>exact ⟨_,_,_,rfl,rfl,fun e=>by cases e⟩
 | _::_::_::_,_=>exact ⟨_,_,_,rfl,rfl,fun e=>by cases e⟩
 | [a,b],hw=>
  show ∃ x' y' ok,cond (x.told.contains a) (some (x,false)) (match limAt a with
   | none=>some (x,false)
   | some k=>(F_conf_number b (limLo k) (limHi k)).bind fun p=>some ({ x.setLim k p.1 with told:=x.told++[a] },p.2))=some (x',ok) /\ (match limAt a with
   | none=>some (y,false)
   | some k=>(F_wlvref_Num b (rfLo k) (rfMost.getD k 0)).bind fun p=>some (cond (!p.2||y.set.getD k false) (y,false) ({ y with set:=y.set.set k true,n:=y.n.set k p.1 },true)))=some (y',ok) /\ _
  cases hl:limAt a with
  | none=>cases x.told.contains a <;> exact ⟨_,_,_,rfl,rfl,fun e=>by cases e⟩
  | some k=>
   have hk:=limAt_lt hl
   have ha:=limAt_is hl
   obtain ⟨l1,l2⟩:=rs_lo ⟨k,hk⟩
   have l1:rfLo k=limLo k:=l1
   have l2:rfMost.getD k 0=limHi k:=l2
   obtain ⟨p1,p2⟩:=limHi_le k hk
   obtain ⟨n,m,ok,e1,e2,e3⟩:=rs_num b (limLo k) (limHi k) (by have:=hw b (by simp);omega) p1 (by omega)
   dsimp only
   rw [l1,l2,e1,e2,Option.bind_some,Option.bind_some,h.set k hk,ha]
   dsimp only
   cases ht:x.told.contains a with
   | true=>exact ⟨_,_,_,rfl,by rw [Bool.or_true,cond_true],fun e=>by cases e⟩
   | false=>
    cases ok with
    | false=>exact ⟨_,_,_,rfl,rfl,fun e=>by cases e⟩
    | true=>
     refine ⟨_,_,_,rfl,rfl,fun _=>⟨?_,fun j hj=>?_,fun j hj=>?_,?_,?_⟩⟩
     ·show y.us=(x.setLim k n).us
      rw [set_us3];exact h.us
     ·show (y.n.set k m).getD j 0=(x.setLim k n).lim j
      rw [lim_set x k n hk j hj,List.getD_eq_getElem?_getD,List.getElem?_set,h.nl]
      by_cases hjk:j=k
      ·subst hjk
       rw [if_pos rfl,if_pos hj,if_pos rfl]
       exact (e3 rfl).1
      ·rw [if_neg (fun e=>hjk e.symm),if_neg hjk,<- List.getD_eq_getElem?_getD]
       exact h.n j hj
     ·show (y.set.set k true).getD j false=(x.told++[a]).contains (bytesL (limW j))
      rw [List.contains_append,<- h.set j hj,List.getD_eq_getElem?_getD,List.getElem?_set,h.sl]
      by_cases hjk:j=k
      ·subst hjk
       rw [if_pos rfl,if_pos hj,ha]
       simp
      ·rw [if_neg (fun e=>hjk e.symm),<- List.getD_eq_getElem?_getD]
       have hne:bytesL (limW j)≠a:=fun e=>hjk (by
        have:=limW_inj ⟨j,hj⟩ ⟨k,hk⟩ (by rw [e,ha])
        exact congrArg Fin.val this)
       simp [hne]
     ·show (y.n.set k m).length=7
      rw [List.length_set];exact h.nl
     ·show (y.set.set k true).length=7
      rw [List.length_set];exact h.sl
theorem usHas_eq (us:List UserD) (s:List Int):usHas us s=decide (0<=usAt us s):=by
 unfold usHas
 by_cases h:0<=usAt us s
 ·rw [decide_eq_true h,List.any_eq_true]
  obtain ⟨u,hu,e⟩:=usAt_pos us s h
  exact ⟨u,List.mem_of_getElem? hu,by rw [e,beq_self_eq_true]⟩
 ·rw [decide_eq_false h,List.any_eq_false]
  intro u hu hb
  exact usAt_neg us s (by omega) u hu (eq_of_beq hb)
theorem rs_user {x:RSt} {y:RfSt} (hx:Good x) (h:Sim x y) (w:List Int) (ws:List (List Int)) (hw:∀ w∈ws,w.length<=100000):∃ x' y' e,userP x ws=some (x',e) /\ ruserP y (w::ws)=some (y',e) /\ (e=0->Sim x' y'):=by
 match ws,hw with
 | [],_=>exact ⟨_,_,_,rfl,rfl,fun e=>by cases e⟩
 | [_],_=>exact ⟨_,_,_,rfl,rfl,fun e=>by cases e⟩
 | [_,_],_=>exact ⟨_,_,_,rfl,rfl,fun e=>by cases e⟩
 | [_,_,_],_=>exact ⟨_,_,_,rfl,rfl,fun e=>by cases e⟩
 | [_,_,_,_],_=>exact ⟨_,_,_,rfl,rfl,fun e=>by cases e⟩
 | [_,_,_,_,_],_=>exact ⟨_,_,_,rfl,rfl,fun e=>by cases e⟩
 | _::_::_::_::_::_::_::_,_=>exact ⟨_,_,_,rfl,rfl,fun e=>by cases e⟩
 | [a,b,c,d,e,f],hw=>
  show ∃ x' y' z,(F_conf_named a).bind (fun q=>cond q (cond (decide (0<=usAt x.us a)) (some (x,2)) (
   (F_conf_bytesOf b 1 32).bind fun sa=>(F_conf_bytesOf c 32 32).bind fun di=>(F_conf_number d 1 1000).bind fun n=>(F_conf_number e 0 1125899906842624).bind fun up=>(F_conf_number f 0 1125899906842624).bind fun dn=>userG x a sa di n up dn)) (some (x,2)))=some (x',z) /\
   (F_wlvref18_name a).bind (fun q=>cond q (
   (F_wlvref18_unhex b).bind fun sa=>(F_wlvref18_unhex c).bind fun di=>(F_wlvref_Num d 1 1000).bind fun n=>(F_wlvref_Num e 0 1125899906842624).bind fun up=>(F_wlvref_Num f 0 1125899906842624).bind fun dn=>ruserG y a sa di n up dn) (some (y,2)))=some (y',z) /\ (z=0->_)
  rw [rs_name a (by have:=hw a (by simp);omega)]
  unfold F_conf_named
  rw [Option.bind_some,Option.bind_some]
  cases (!(List.isEmpty a)&&Nat.ble a.length 64&&a.all okc) with
  | false=>exact ⟨_,_,_,rfl,rfl,fun e=>by cases e⟩
  | true=>
   rw [cond_true,cond_true]
   obtain ⟨sl,sl',so,so',s1,s2,s3,s4⟩:=rs_bytes b 1 32 (hw b (by simp))
   obtain ⟨dl,dl',dk,dk',d1,d2,d3,d4⟩:=rs_bytes c 32 32 (hw c (by simp))
   obtain ⟨n,m,nk,n1,n2,n3⟩:=rs_num d 1 1000 (by have:=hw d (by simp);omega) (by omega) (by omega)
   obtain ⟨u,v,uk,u1,u2,u3⟩:=rs_num e 0 1125899906842624 (by have:=hw e (by simp);omega) (by omega) (by omega)
   obtain ⟨p,q,pk,p1,p2,p3⟩:=rs_num f 0 1125899906842624 (by have:=hw f (by simp);omega) (by omega) (by omega)
   rw [s1,s2,d1,d2,n1,n2,u1,u2,p1,p2]
   simp only [Option.bind_some]
   unfold ruserG ruserC
   dsimp only
   rw [h.us,usHas_eq]
   cases hat:decide (0<=usAt x.us a) with
   | true=>
    refine ⟨x,y,2,rfl,?_,fun e=>absurd e (by decide)⟩
    simp only [Bool.not_true,Bool.and_false,cond_false]
   | false=>
    rw [cond_false]
    unfold userG
    dsimp only
    cases hz:(so&&(dk&&(nk&&(uk&&pk)))) with
    | false=>
     refine ⟨x,y,2,rfl,?_,fun e=>absurd e (by decide)⟩
     have key:(so'&&(Nat.ble 1 sl'.length&&(Nat.ble sl'.length 32&&(dk'&&(Nat.beq dl'.length 32&&(nk&&(uk&&(pk&&true))))))))=(so&&(dk&&(nk&&(uk&&pk)))):=by
      rw [s3,d3,Bool.eq_iff_iff]
      simp only [Bool.and_eq_true,decide_eq_true_eq,Nat.ble_eq,beq_iff,and_true]
      constructor
      ·rintro ⟨h1,h2,h3,h4,h5,h6,h7,h8⟩
       exact ⟨⟨⟨h1,by omega⟩,by omega⟩,⟨⟨h4,by omega⟩,by omega⟩,h6,h7,h8⟩
      ·rintro ⟨⟨⟨h1,h2⟩,h3⟩,⟨⟨h4,h5⟩,h6⟩,h7,h8,h9⟩
       exact ⟨h1,by omega,by omega,h4,by omega,h7,h8,h9⟩
     have:(so'&&(Nat.ble 1 sl'.length&&(Nat.ble sl'.length 32&&(dk'&&(Nat.beq dl'.length 32&&(nk&&(uk&&(pk && !false))))))))=false:=key.trans hz
     rw [this,cond_false]
    | true=>
     rw [cond_true]
     simp only [Bool.and_eq_true] at hz
     obtain ⟨rfl,rfl,rfl,rfl,rfl⟩:=hz
     obtain rfl:=s4 rfl
     obtain rfl:=d4 rfl
     obtain ⟨rfl,a1,a2,_⟩:=n3 rfl
     obtain ⟨rfl,b1,b2,_⟩:=u3 rfl
     obtain ⟨rfl,c1,c2,_⟩:=p3 rfl
     have s3:=s3.symm
     have d3:=d3.symm
     simp only [Bool.and_eq_true,decide_eq_true_eq] at s3 d3
     obtain ⟨⟨rfl,s5⟩,s6⟩:=s3
     obtain ⟨⟨rfl,d5⟩,d6⟩:=d3
     have:(true&&(Nat.ble 1 sl'.length&&(Nat.ble sl'.length 32&&(true&&(Nat.beq dl'.length 32&&(true&&(true&&(true && !false))))))))=true:=by
      simp only [Bool.and_eq_true,Nat.ble_eq,beq_iff,Bool.not_false,and_true,true_and]
      exact ⟨by omega,by omega,by omega⟩
     rw [this,cond_true]
     have he:∀ l:List Int,1<=l.length->List.isEmpty l=false:=fun l hl=>by cases l with | nil=>cases hl | cons _ _=>rfl
     rw [he sl' (by omega),he dl' (by omega),show isCnt v=true by unfold isCnt;rw [decide_eq_true b1,decide_eq_true b2];rfl,show isCnt q=true by unfold isCnt;rw [decide_eq_true c1,decide_eq_true c2];rfl]
     have hfew:=hx.few
     by_cases h16:x.us.length=16
     ·rw [h16]
      exact ⟨_,_,7,rfl,rfl,fun e=>by cases e⟩
     ·rw [show Nat.beq x.us.length 16=false from Bool.eq_false_iff.2 fun e=>h16 (Nat.eq_of_beq_eq_true e),show Nat.ble 16 x.us.length=false from Bool.eq_false_iff.2 fun e=>by have:=Nat.le_of_ble_eq_true e;omega]
      refine ⟨_,_,0,rfl,rfl,fun _=>⟨?_,h.n,h.set,h.nl,h.sl⟩⟩
      rfl
theorem lastN_spec (us:List UserD) (s:List Int):∀ k,k<=us.length->(lastN us s k = -1 /\ ∀ i u,i < k->us[i]? = some u->u.1≠s) \/ ∃ i u,i < k /\ lastN us s k=(i:Int) /\ us[i]? = some u /\ u.1=s
 | 0,_=>.inl ⟨rfl,fun i u h=>absurd h (Nat.not_lt_zero _)⟩
 | k+1,hk=>by
  have hu:us[k]? = some us[k]:=List.getElem?_eq_getElem (by omega)
  have e:lastN us s (k+1)=cond (us[k].1==s) (k:Int) (lastN us s k):=by
   show (match us[k]? with | some u=>cond (u.1==s) (k:Int) (lastN us s k) | none=>lastN us s k)=_
   rw [hu]
  rw [e]
  cases hq:us[k].1==s with
  | true=>exact .inr ⟨k,us[k],by omega,rfl,hu,eq_of_beq hq⟩
  | false=>
   rw [cond_false]
   rcases lastN_spec us s k (by omega) with ⟨h1,h2⟩ | ⟨i,u,h1,h2,h3⟩
   ·refine .inl ⟨h1,fun i u hi hiu=>?_⟩
    by_cases hik:i=k
    ·subst hik
     rw [hu] at hiu
     injection hiu with hiu
     subst hiu
     exact fun e=>by rw [e,beq_self_eq_true] at hq;cases hq
    ·exact h2 i u (by omega) hiu
   ·exact .inr ⟨i,u,by omega,h2,h3⟩
theorem lastN_usAt {x:RSt} (hx:Good x) (s:List Int):lastN x.us s x.us.length=usAt x.us s:=by
 have hin:=usAt_in x.us s
 rcases lastN_spec x.us s x.us.length (Nat.le_refl _) with ⟨h1,h2⟩ | ⟨i,u,h1,h2,h3,h4⟩
 ·rw [h1]
  by_cases h:0<=usAt x.us s
  ·obtain ⟨u,hu,e⟩:=usAt_pos x.us s h
   exact absurd e (h2 _ u (List.getElem?_eq_some_iff.1 hu).1 hu)
  ·omega
 ·rw [h2]
  by_cases h:0<=usAt x.us s
  ·obtain ⟨v,hv,e⟩:=usAt_pos x.us s h
   have:=hx.uniq i (usAt x.us s).toNat u v h3 hv (h4.trans e.symm)
   omega
  ·exact absurd h4 (usAt_neg x.us s (by omega) u (List.mem_of_getElem? h3))
theorem rs_rule {x:RSt} {y:RfSt} (hx:Good x) (h:Sim x y) (w:List Int) (ws:List (List Int)) (hw:∀ w∈ws,w.length<=20000):∃ x' y' e,ruleP x (w==lbA) ws=some (x',e) /\ rruleP y (w::ws)=some (y',e) /\ (e=0->Sim x' y'):=by
 match ws,hw with
 | [],_=>exact ⟨_,_,_,rfl,rfl,fun e=>by cases e⟩
 | [_],_=>exact ⟨_,_,_,rfl,rfl,fun e=>by cases e⟩
 | [_,_],_=>exact ⟨_,_,_,rfl,rfl,fun e=>by cases e⟩
 | _::_::_::_::_,_=>exact ⟨_,_,_,rfl,rfl,fun e=>by cases e⟩
 | [a,b,c],hw=>
  show ∃ x' y' e,cond (decide (usAt x.us a < 0)) (some (x,2)) ((F_conf_pattern b).bind fun p=>(F_conf_span c).bind fun sp=>ruleG x a (w==lbA) p sp)=some (x',e) /\
   (F_wlvref18_ports c).bind (fun sp=>cond (decide (lastN y.us a y.us.length < 0) || !sp.2.2) (some (y,2)) ((F_wlvref15_ParseNet b).bind fun nt=>(F_wlvref15_Name b).bind fun hn=>(rpatG b nt hn).bind fun p=>rruleG y a (w==lbA) sp.1 sp.2.1 p))=some (y',e) /\ _
  obtain ⟨f,t,ok,f',t',c1,c2,c3⟩:=rs_ports c (by have:=hw c (by simp);omega)
  obtain ⟨k,hh,ip,bt,okp,nt,hn,q1,q2,q3,q4⟩:=rs_pat b (hw b (by simp))
  rw [c1,c2,q1,q2,q3]
  simp only [Option.bind_some]
  rw [q4,Option.bind_some,h.us,lastN_usAt hx]
  cases hat:decide (usAt x.us a < 0) with
  | true=>exact ⟨_,_,2,rfl,rfl,fun e=>by cases e⟩
  | false=>
   rw [cond_false,Bool.false_or]
   unfold ruleG rruleG
   rw [h.us,lastN_usAt hx]
   dsimp only
   cases ok with
   | false=>
    rw [Bool.and_false,cond_false,Bool.not_false,cond_true]
    exact ⟨_,_,2,rfl,rfl,fun e=>by cases e⟩
   | true=>
    obtain ⟨rfl,rfl⟩:=c3 rfl
    rw [Bool.and_true,Bool.not_true,cond_false]
    cases okp with
    | false=>exact ⟨_,_,2,rfl,rfl,fun e=>by cases e⟩
    | true=>
     rw [cond_true,cond_true]
     dsimp only
     obtain ⟨u,hu,_⟩:=usAt_pos x.us a (by have:=of_decide_eq_false hat;omega)
     rw [hu]
     dsimp only
     have hmany:=(hx.each u (List.mem_of_getElem? hu)).many
     by_cases h64:u.2.2.2.2.length=64
     ·rw [h64]
      exact ⟨_,_,7,rfl,rfl,fun e=>by cases e⟩
     ·rw [show Nat.beq u.2.2.2.2.length 64=false from Bool.eq_false_iff.2 fun e=>h64 (Nat.eq_of_beq_eq_true e),show Nat.ble 64 u.2.2.2.2.length=false from Bool.eq_false_iff.2 fun e=>by have:=Nat.le_of_ble_eq_true e;omega,Nat.ble_eq_true_of_le hmany]
      refine ⟨_,_,0,rfl,rfl,fun _=>⟨?_,h.n,h.set,h.nl,h.sl⟩⟩
      rfl
theorem rs_line {x:RSt} {y:RfSt} (hx:Good x) (h:Sim x y) (s:List Int) (hs:s.length<=20000):∃ x' y' e,lineP x s=some (x',e) /\ rlineP y s=some (y',e) /\ (e=0->Sim x' y'):=by
 unfold lineP rlineP
 rw [Nat.ble_eq_true_of_le (show s.length<=4000000000 by omega),h.us,Nat.ble_eq_true_of_le hx.few,Split_eq s 32 (by omega)]
 rw [Bool.and_self,cond_true,cond_true,Option.bind_some]
 have hwl:∀ w∈splitI s 32,w.length<=20000:=fun w hw=>Nat.le_trans (split_mem_len hw) hs
 cases hsp:splitI s 32 with
 | nil=>exact absurd hsp (splitI_ne _ _)
 | cons w0 ws=>
  rw [hsp] at hwl
  have hw:∀ w∈ws,w.length<=20000:=fun w hw=>hwl w (by simp [hw])
  have hw':∀ w∈ws,w.length<=100000:=fun w hw'=>by have:=hw w hw';omega
  show ∃ x' y' e,lineW x w0 ws=some (x',e) /\ rlineW y (w0::ws) w0=some (y',e) /\ _
  unfold lineW rlineW
  cases h1:w0==lbL with
  | true=>
   obtain ⟨x',y',ok,e1,e2,e3⟩:=rs_lim h w0 ws hw'
   rw [cond_true,cond_true,e1,e2]
   cases ok with
   | true=>exact ⟨_,_,_,rfl,rfl,fun _=>e3 rfl⟩
   | false=>exact ⟨_,_,_,rfl,rfl,fun e=>by have e:(2:Int)=0:=e;omega⟩
  | false=>
  rw [cond_false,cond_false]
  cases h2:w0==lbU with
  | true=>exact rs_user hx h w0 ws hw'
  | false=>
  rw [cond_false,cond_false]
  have hr:=rs_rule hx h w0 ws hw
  cases h3:w0==lbA with
  | true=>
   rw [h3] at hr
   exact hr
  | false=>
  rw [h3] at hr
  rw [cond_false,Bool.false_or]
  cases h4:w0==lbD with
  | true=>exact hr
  | false=>exact ⟨_,_,_,rfl,rfl,fun e=>by cases e⟩
theorem rs_parse:∀ (L:List (List Int)) {x:RSt} {y:RfSt},Good x->Sim x y->(∀ s∈L,s.length<=20000) -> ∃ x' y' e,parseL L x=some (x',e) /\ rparseL L y=some (y',e) /\ Res e /\ (e=0->Good x' /\ Sim x' y')
 | [],x,y,hx,h,_=>⟨x,y,0,rfl,rfl,by unfold Res;omega,fun _=>⟨hx,h⟩⟩
 | s::L,x,y,hx,hs,h=>by
  show ∃ x' y' e,cond (skipL s) (parseL L x) ((lineP x s).bind fun p=>cond (decide (p.2=0)) (parseL L p.1) (some p))=some (x',e) /\ cond (skipL s) (rparseL L y) ((rlineP y s).bind fun p=>cond (decide (p.2=0)) (rparseL L p.1) (some p))=some (y',e) /\ _
  cases hk:skipL s with
  | true=>exact rs_parse L hx hs fun t ht=>h t (by simp [ht])
  | false=>
   obtain ⟨x1,y1,e,h1,h2,h3⟩:=rs_line hx hs s (h s (by simp))
   obtain ⟨x2,e2,g1,g2,g3⟩:=line_total hx s (h s (by simp))
   rw [h1] at g1
   injection g1 with g1
   obtain ⟨rfl,rfl⟩:=Prod.mk.inj g1
   rw [cond_false,cond_false,h1,h2,Option.bind_some,Option.bind_some]
   dsimp only
   cases he:decide (e=0) with
   | true=>
    have he:=of_decide_eq_true he
    exact rs_parse L (g3 he) (h3 he) fun t ht=>h t (by simp [ht])
   | false=>exact ⟨x1,y1,e,rfl,rfl,g2,fun e0=>absurd e0 (of_decide_eq_false he)⟩
theorem rparse_eq {l:List (List Int)} {x:RSt} {y:RfSt} {e:Int} (hl:l.length<=1000000) (h:rparseL l rfst0=some (y,e)) (he:Res e) (hs:e=0->Sim x y):F_wlvref18_Parse l=some (cond (decide (e=0)) (x.c0,x.c1,x.c2,x.c3,x.c4,x.c5,x.c6,x.us,0) (0,0,0,0,0,0,0,[],e)):=by
 unfold F_wlvref18_Parse
 rw [Nat.ble_eq_true_of_le hl,cond_true,h,Option.bind_some]
 dsimp only
 cases hd:decide (e=0) with
 | true=>
  have hs:=hs (of_decide_eq_true hd)
  rw [cond_true,cond_true,hs.n 0 (by omega),hs.n 1 (by omega),hs.n 2 (by omega),hs.n 3 (by omega),hs.n 4 (by omega),hs.n 5 (by omega),hs.n 6 (by omega),hs.us]
  rfl
 | false=>
  have hne:=of_decide_eq_false hd
  unfold Res at he
  rw [cond_false,cond_false,decide_eq_true (show 0 < e by omega),decide_eq_true he.2]
  rfl
theorem rules_refl {l:List RuleD} (hl:l.length<=100000):∀ (m i:Nat),i+m=l.length->loopC (F_wlvref18_sameUser_L6 l l) (i:Int)=some (.inr ())
 | 0,i,h=>by
  refine loop_inl ?_
  unfold F_wlvref18_sameUser_L6
  dsimp only
  rw [decide_eq_false (by omega),cond_false]
 | m+1,i,h=>by
  obtain ⟨v,hv⟩:∃ v,l[i]? = some v:=⟨_,List.getElem?_eq_getElem (by omega)⟩
  refine loop_inr ?_ (rules_refl hl m (i+1) (by omega))
  unfold F_wlvref18_sameUser_L6
  dsimp only
  rw [decide_eq_true (by omega),cond_true,getI_nat hv,Option.bind_some,Option.bind_some]
  rw [bEq_rr,eqL_r,eqL_r]
  unfold eqI
  simp only [beq_self_eq_true,Bool.and_self,Bool.not_true,cond_false]
  rw [wrap_in (by omega) (by omega)]
  rfl
theorem sameUser_refl {v:UserD} (h:UGood v):F_wlvref18_sameUser v.1 v.2.1.1 v.2.1.2 v.2.2.1 v.2.2.2.1 v.2.2.2.2 v.1 v.2.1.1 v.2.1.2 v.2.2.1 v.2.2.2.1 v.2.2.2.2=some true:=by
 obtain ⟨a,b,ha,hb,hab⟩:=h.cnt
 have hm:=h.many
 unfold F_wlvref18_sameUser F_wlvref_Bytes
 rw [hab,beq_self_eq_true,beq_self_eq_true,beq_self_eq_true]
 dsimp only
 rw [feq_r ha,feq_r hb]
 simp only [Bool.not_true,cond_false,Option.bind_some,bne_self_eq_false,Bool.and_self]
 rw [join_inr (show loopC (F_wlvref18_sameUser_L6 v.2.2.2.2 v.2.2.2.2) (0:Int)=some (.inr ()) from rules_refl (by omega) v.2.2.2.2.length 0 (by omega))]
 rfl
theorem same_loop {us:List UserD} (hl:us.length<=1000) (h:∀ v∈us,UGood v):∀ (m i:Nat),i+m=us.length->loopC (F_wlvref18_Same_L6 us us) (i:Int)=some (.inr ())
 | 0,i,hm=>by
  refine loop_inl ?_
  unfold F_wlvref18_Same_L6
  dsimp only
  rw [decide_eq_false (by omega),cond_false]
 | m+1,i,hm=>by
  obtain ⟨v,hv⟩:∃ v,us[i]? = some v:=⟨_,List.getElem?_eq_getElem (by omega)⟩
  refine loop_inr ?_ (same_loop hl h m (i+1) (by omega))
  have hq:=h v (List.mem_of_getElem? hv)
  unfold F_wlvref18_Same_L6
  dsimp only
  rw [decide_eq_true (by omega),cond_true,getI_nat hv,Option.bind_some,Option.bind_some,sameUser_refl hq,Option.bind_some]
  simp only [Bool.not_true,cond_false]
  rw [wrap_in (by omega) (by omega)]
  rfl
theorem Same_refl (c1 c2 c3 c4 c5 c6 c7:Int) {us:List UserD} (hl:us.length<=1000) (h:∀ v∈us,UGood v):F_wlvref18_Same c1 c2 c3 c4 c5 c6 c7 us c1 c2 c3 c4 c5 c6 c7 us=some true:=by
 unfold F_wlvref18_Same
 simp only [bne_self_eq_false,cond_false]
 rw [join_inr (show loopC (F_wlvref18_Same_L6 us us) (0:Int)=some (.inr ()) from same_loop hl h us.length 0 (by omega))]
 rfl
theorem ConfReads_true (l:List (List Int)):F_wlvlaw18_ConfReads l=some true:=by
 unfold F_wlvlaw18_ConfReads
 obtain ⟨b,hf,hfew⟩:=few_spec l
 rw [first18,Option.bind_some,Bool.not_true,cond_false,hf,Option.bind_some]
 cases b with
 | false=>rfl
 | true=>
  obtain ⟨h300,hsh⟩:=hfew rfl
  rw [Bool.not_true,cond_false]
  obtain ⟨x,y,e,h1,h2,h3,h4⟩:=rs_parse l good_rst0 sim_0 hsh
  rw [conf_parse_eq (by omega) h1 h3,rparse_eq (x:=x) (by omega) h2 h3 fun h=>(h4 h).2,Option.bind_some,Option.bind_some,Option.bind_some]
  cases hd:decide (e=0) with
  | true=>
   have hg:=(h4 (of_decide_eq_true hd)).1
   have hfew:=hg.few
   rw [cond_true]
   dsimp only
   rw [beq_self_eq_true,Bool.and_self,cond_true,Same_refl _ _ _ _ _ _ _ (by omega) hg.each]
   rfl
  | false=>
   rw [cond_false]
   dsimp only
   rw [beq_self_eq_true,Bool.and_self,cond_true,Same_refl _ _ _ _ _ _ _ (by show 0<=1000;omega) (fun v hv=>by cases hv)]
   rfl
end Go.Proofs.YtgfmfgombmpodaaGreatDoor
